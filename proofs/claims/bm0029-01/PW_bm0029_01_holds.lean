import PyProof.Rows.All
import Wide.All
import OpenK.AllK
import Wide.FinOn
import KE.KDictList
import KE.KSortTup
import KE.KPar
import KE.KDictIter
import KE.KItemsList
import PySem.Challenge.RW_bm0029_01
open PySem PySem.W PyProof.Rows
set_option Elab.async false
set_option maxRecDepth 100000
set_option maxHeartbeats 8000000
open_top hd for PySem.Challenge.rw_bm0029_01
set_option maxHeartbeats 200000
set_option linter.unusedVariables false
set_option linter.unusedSimpArgs false
set_option linter.unusedSectionVars false
namespace Mine

/-- values without their tokens -/
inductive AV where
  | none | bool (b : Bool) | int (i : Int) | str (s : Str) | ty (n : String) | bi (n : String) | ref (a : Addr) | other
def ab : Value → AV
  | .none => .none | .bool b => .bool b | .int i _ => .int i | .str s _ => .str s | .type n => .ty n | .builtin n => .bi n | .ref a => .ref a | _ => .other
abbrev Loc := Str → Option AV

inductive AObj where
  | list (xs : List AV)
  | tup (xs : List AV)
  | dom (C dx : Addr) (xs : List AV)
  | dict (es : List (Int × AV)) (n : Nat)
  | ns (n : Nat) (m : Loc)
  | inst (C dx : Addr)
  | cell (v : Option AV)
  | raw (o : Obj)

def EntIs (e : DictEntry) (p : Int × AV) : Prop := Value.isInt p.1 e.key = true ∧ ab e.val = p.2

inductive EntsAre : List DictEntry → List (Int × AV) → Prop where
  | nil : EntsAre [] []
  | cons {e p r q} : EntIs e p → EntsAre r q → EntsAre (e :: r) (p :: q)

def OIs (o : Obj) : AObj → Prop
  | .list xs => ∃ vs n, o = ⟨.type "list", none, .seq vs n, #[]⟩ ∧ vs.toList.map ab = xs
  | .tup xs => ∃ vs n, o = ⟨.type "tuple", none, .seq vs n, #[]⟩ ∧ vs.toList.map ab = xs
  | .dom C dx xs => ∃ vs n, o = ⟨.ref C, some dx, .seq vs n, #[]⟩ ∧ vs.toList.map ab = xs
  | .dict es n => ∃ ens, o = ⟨.type "dict", none, .dict ens n, #[]⟩ ∧ IntKeys ens ∧ EntsAre ens.toList es ∧ (es.map (·.1)).Nodup
  | .ns k m => ∃ ens n, o = ⟨.type "dict", none, .dict ens n, #[]⟩ ∧ StrKeys ens ∧ ens.size ≤ k ∧ ∀ x, (nsFind ens x).map ab = m x
  | .inst C dx => o = ⟨.ref C, some dx, .plain, #[]⟩
  | .cell v => ∃ v', o.data = .cell v' ∧ v'.map ab = v
  | .raw o' => o = o'

theorem OIs.live {o : Obj} {ao : AObj} (h : OIs o ao) (hr : ∀ o', ao = .raw o' → o'.isFreed = false) : o.isFreed = false := by
  cases ao with
  | list xs => obtain ⟨vs, n, rfl, _⟩ := h; rfl
  | tup xs => obtain ⟨vs, n, rfl, _⟩ := h; rfl
  | dom C dx xs => obtain ⟨vs, n, rfl, _⟩ := h; rfl
  | dict es n => obtain ⟨vs, rfl, _⟩ := h; rfl
  | ns k m => obtain ⟨vs, n, rfl, _⟩ := h; rfl
  | inst C dx => subst h; rfl
  | cell v => obtain ⟨v', e, _⟩ := h; obtain ⟨_, _, dt, _⟩ := o; cases e; rfl
  | raw o' => subst h; exact hr _ rfl

structure St where
  m : Addr → Option AObj
  g : Array GenState
def St.put (σ : St) (a : Addr) (o : AObj) : St := ⟨fun b => if b = a then some o else σ.m b, σ.g⟩
@[simp] theorem put_same (σ : St) (a : Addr) (o : AObj) : (σ.put a o).m a = some o := if_pos rfl
theorem put_other {σ : St} {a b : Addr} {o : AObj} (h : b ≠ a) : (σ.put a o).m b = σ.m b := if_neg h
@[simp] theorem put_g (σ : St) (a : Addr) (o : AObj) : (σ.put a o).g = σ.g := rfl
theorem put_put (σ : St) (a : Addr) (o o' : AObj) : (σ.put a o).put a o' = σ.put a o' := by
  unfold St.put; congr 1; funext b; dsimp only; split <;> rfl
theorem put_comm (σ : St) {a b : Addr} (o o' : AObj) (h : a ≠ b) : (σ.put a o).put b o' = (σ.put b o').put a o := by
  unfold St.put; congr 1; funext c; dsimp only; split <;> split <;> simp_all
theorem put_fresh {σ : St} {a b : Addr} {o o' : AObj} (h : σ.m a = none) (e : σ.m b = some o) : (σ.put a o').m b = some o := by
  rw [put_other]; · exact e
  · rintro rfl; rw [h] at e; cases e

structure Bs where
  prog : Program
  w : World
  K : Frag
  h0 : Heap
structure Bs.Ok (B : Bs) : Prop where
  kin : B.K.In B.h0
  top : ∃ mg mb, B.h0.Ns mainGlobals mg ∧ B.h0.Ns builtinsNs mb ∧ B.h0.NoLimit ∧ ∀ x : Str, x ≠ "__name__" → mb x = bootBuiltins x

structure Rel (B : Bs) (σ : St) (s : Shared) : Prop where
  base : ∀ b o, B.h0.get? b = some o → s.heap.get? b = some o
  own : ∀ a ao, σ.m a = some ao → B.h0.get? a = none ∧ ∃ o, s.heap.get? a = some o ∧ OIs o ao
  gens : s.gens = σ.g
  low : (B.h0.get? mainGlobals).isSome = true ∧ ∀ a, σ.m a ≠ none → mainGlobals < a

structure Step (σ : St) (s : Shared) (σ' : St) (s' : Shared) : Prop where
  kept : ∀ b o, s.heap.get? b = some o → σ.m b = none → s'.heap.get? b = some o
  grow : ∀ b, σ'.m b ≠ none → σ.m b ≠ none ∨ s.heap.get? b = none
  os : s'.os = s.os
theorem Step.refl (σ : St) (s : Shared) : Step σ s σ s := ⟨fun _ _ e _ => e, fun _ h => .inl h, rfl⟩
theorem Step.old {σ σ' : St} {s s' : Shared} (x : Step σ s σ' s') {b : Addr} {o : Obj} (e : s.heap.get? b = some o) (h : σ.m b = none) : σ'.m b = none := by
  cases q : σ'.m b with
  | none => rfl
  | some ao => rcases x.grow b (by rw [q]; exact nofun) with y | y
               · exact absurd h y
               · rw [e] at y; cases y
theorem Step.trans {σ₁ σ₂ σ₃ : St} {s₁ s₂ s₃ : Shared} (x : Step σ₁ s₁ σ₂ s₂) (y : Step σ₂ s₂ σ₃ s₃) : Step σ₁ s₁ σ₃ s₃ where
  kept b o e h := y.kept b o (x.kept b o e h) (x.old e h)
  grow b h := by
    rcases y.grow b h with h | h
    · exact x.grow b h
    · cases q : σ₁.m b with
      | some ao => exact .inl nofun
      | none =>
        right
        cases r : s₁.heap.get? b with
        | none => rfl
        | some o => rw [x.kept b o r q] at h; cases h
  os := y.os.trans x.os

/-- a tree from an abstract heap -/
def T0 (B : Bs) (A : Around) {α : Type} (t : Sem α) (σ : St) (Q : α → St → Prop) : Prop :=
  ∀ s, Rel B σ s → wpAny (model B.prog B.w) A t (fun v s' => ∃ σ', Rel B σ' s' ∧ Step σ s σ' s' ∧ Q v σ') (fun _ _ => False) s

/-- the frame at hand -/
def FrIs (B : Bs) (L : Addr) (ℓ : Loc) (σ : St) (h : Heap) : Prop :=
  B.h0.get? L = none ∧ σ.m L = none ∧ ∃ m, h.Ns L m ∧ ∀ x, (m x).map ab = ℓ x

structure StepL (L : Addr) (σ : St) (s : Shared) (σ' : St) (s' : Shared) : Prop where
  kept : ∀ b o, s.heap.get? b = some o → σ.m b = none → b ≠ L → s'.heap.get? b = some o
  grow : ∀ b, σ'.m b ≠ none → σ.m b ≠ none ∨ s.heap.get? b = none
  os : s'.os = s.os
  live : (s'.heap.get? L).isSome = true
theorem StepL.of {L : Addr} {σ σ' : St} {s s' : Shared} (x : Step σ s σ' s') {o : Obj} (hL : s.heap.get? L = some o) (h : σ.m L = none) : StepL L σ s σ' s' :=
  ⟨fun b o e h _ => x.kept b o e h, x.grow, x.os, by rw [x.kept L o hL h]; rfl⟩
theorem StepL.old {L : Addr} {σ σ' : St} {s s' : Shared} (x : StepL L σ s σ' s') {b : Addr} {o : Obj} (e : s.heap.get? b = some o) (h : σ.m b = none) : σ'.m b = none := by
  cases q : σ'.m b with
  | none => rfl
  | some ao => rcases x.grow b (by rw [q]; exact nofun) with y | y
               · exact absurd h y
               · rw [e] at y; cases y
theorem StepL.trans {L : Addr} {σ₁ σ₂ σ₃ : St} {s₁ s₂ s₃ : Shared} (x : StepL L σ₁ s₁ σ₂ s₂) (y : StepL L σ₂ s₂ σ₃ s₃) : StepL L σ₁ s₁ σ₃ s₃ where
  kept b o e h n := y.kept b o (x.kept b o e h n) (x.old e h) n
  grow b h := by
    rcases y.grow b h with h | h
    · exact x.grow b h
    · cases q : σ₁.m b with
      | some ao => exact .inl nofun
      | none =>
        right
        cases r : s₁.heap.get? b with
        | none => rfl
        | some o =>
          by_cases hb : b = L
          · subst hb; obtain ⟨o', e'⟩ := Option.isSome_iff_exists.mp x.live; rw [e'] at h; cases h
          · rw [x.kept b o r q hb] at h; cases h
  os := y.os.trans x.os
  live := y.live

def T (B : Bs) (A : Around) (L : Addr) {α : Type} (t : Sem α) (ℓ : Loc) (σ : St) (Q : α → Loc → St → Prop) : Prop :=
  ∀ s, Rel B σ s → FrIs B L ℓ σ s.heap → wpAny (model B.prog B.w) A t (fun v s' => ∃ ℓ' σ', Rel B σ' s' ∧ FrIs B L ℓ' σ' s'.heap ∧ StepL L σ s σ' s' ∧ Q v ℓ' σ') (fun _ _ => False) s

variable {B : Bs} {A : Around} {L : Addr} {α β : Type} {σ : St} {ℓ : Loc}

theorem FrIs.at {h : Heap} (F : FrIs B L ℓ σ h) : ∃ o, h.get? L = some o := let ⟨_, _, _, ⟨o, _, _, e, _⟩, _⟩ := F; ⟨o, e⟩
theorem FrIs.step {σ' : St} {s s' : Shared} (F : FrIs B L ℓ σ s.heap) (x : Step σ s σ' s') : FrIs B L ℓ σ' s'.heap := by
  obtain ⟨h1, h2, m, ⟨o, es, ep, e, r⟩, hm⟩ := F
  exact ⟨h1, x.old e h2, m, ⟨o, es, ep, x.kept L o e h2, r⟩, hm⟩

theorem T0.mono {t : Sem α} {Q Q' : α → St → Prop} (h : T0 B A t σ Q) (k : ∀ v σ', Q v σ' → Q' v σ') : T0 B A t σ Q' := fun s R =>
  wpAny_mono (h s R) (fun _ _ ⟨σ', a, b, c⟩ => ⟨σ', a, b, k _ _ c⟩) fun _ _ x => x
theorem T0.pure {v : α} {Q : α → St → Prop} (h : Q v σ) : T0 B A (pure v) σ Q := fun s R => wpAny_pure ⟨σ, R, .refl .., h⟩
theorem T0.bind {t : Sem α} {f : α → Sem β} {Q : β → St → Prop} (h : T0 B A t σ fun v σ' => T0 B A (f v) σ' Q) : T0 B A (t >>= f) σ Q := fun s R =>
  wpAny_bind (wpAny_mono (h s R) (fun _ s' ⟨σ', a, b, c⟩ => wpAny_mono (c s' a) (fun _ _ ⟨σ'', a', b', c'⟩ => ⟨σ'', a', b.trans b', c'⟩) fun _ _ x => x) fun _ _ x => x)
theorem T0.holding {vs : List Value} {t : Sem α} {Q : α → St → Prop} (h : T0 B A t σ Q) : T0 B A (holding vs t) σ Q := fun s R => wpAny_holding (h s R)
theorem T0.standAt {p : Pos} {Q : Unit → St → Prop} (h : Q () σ) : T0 B A (standAt p) σ Q := fun s R => wpAny_standAt ⟨σ, R, .refl .., h⟩
theorem T0.point {Q : Unit → St → Prop} (h : Q () σ) : T0 B A point σ Q := fun s R => wpAny_point ⟨σ, R, .refl .., h⟩
theorem T0.rule {t : String} {Q : Unit → St → Prop} (h : Q () σ) : T0 B A (rule t) σ Q := fun s R => wpAny_rule ⟨σ, R, .refl .., h⟩
theorem T0.of_eq {t : Sem α} {v : α} {Q : α → St → Prop} (e : t = Pure.pure v) (h : Q v σ) : T0 B A t σ Q := e ▸ T0.pure h

theorem T.mono {t : Sem α} {Q Q' : α → Loc → St → Prop} (h : T B A L t ℓ σ Q) (k : ∀ v ℓ' σ', Q v ℓ' σ' → Q' v ℓ' σ') : T B A L t ℓ σ Q' := fun s R F =>
  wpAny_mono (h s R F) (fun _ _ ⟨ℓ', σ', a, f, b, c⟩ => ⟨ℓ', σ', a, f, b, k _ _ _ c⟩) fun _ _ x => x
theorem StepL.refl {s : Shared} (F : FrIs B L ℓ σ s.heap) : StepL L σ s σ s := let ⟨_, e⟩ := F.at; .of (.refl ..) e F.2.1
theorem T.pure {v : α} {Q : α → Loc → St → Prop} (h : Q v ℓ σ) : T B A L (pure v) ℓ σ Q := fun s R F => wpAny_pure ⟨ℓ, σ, R, F, .refl F, h⟩
theorem T.bind {t : Sem α} {f : α → Sem β} {Q : β → Loc → St → Prop} (h : T B A L t ℓ σ fun v ℓ' σ' => T B A L (f v) ℓ' σ' Q) : T B A L (t >>= f) ℓ σ Q := fun s R F =>
  wpAny_bind (wpAny_mono (h s R F) (fun _ s' ⟨ℓ', σ', a, f, b, c⟩ => wpAny_mono (c s' a f) (fun _ _ ⟨ℓ'', σ'', a', f', b', c'⟩ => ⟨ℓ'', σ'', a', f', b.trans b', c'⟩) fun _ _ x => x) fun _ _ x => x)
theorem T.of0 {t : Sem α} {Q : α → Loc → St → Prop} (h : T0 B A t σ fun v σ' => Q v ℓ σ') : T B A L t ℓ σ Q := fun s R F =>
  wpAny_mono (h s R) (fun _ _ ⟨σ', a, b, c⟩ => let ⟨_, e⟩ := F.at; ⟨ℓ, σ', a, F.step b, .of b e F.2.1, c⟩) fun _ _ x => x
theorem T.holding {vs : List Value} {t : Sem α} {Q : α → Loc → St → Prop} (h : T B A L t ℓ σ Q) : T B A L (holding vs t) ℓ σ Q := fun s R F => wpAny_holding (h s R F)
theorem T.standAt {p : Pos} {Q : Unit → Loc → St → Prop} (h : Q () ℓ σ) : T B A L (standAt p) ℓ σ Q := .of0 (.standAt h)
theorem T.operate {vs : List Value} {t : Sem Value} {Q : Value → Loc → St → Prop} (h : T B A L t ℓ σ Q) : T B A L (operate vs t) ℓ σ Q := fun s R F => wpAny_operateT (h s R F)
theorem T0.operate {vs : List Value} {t : Sem Value} {Q : Value → St → Prop} (h : T0 B A t σ Q) : T0 B A (operate vs t) σ Q := fun s R => wpAny_operateT (h s R)
theorem T0.release {vs ks : List Value} {Q : Unit → St → Prop} (h : Q () σ) : T0 B A (release vs ks) σ Q := fun s R Γ p _ => by
  rw [Sem.wp_release]; exact ⟨σ, R, .refl .., h⟩

end Mine
set_option maxHeartbeats 200000
namespace Mine
variable {B : Bs} {A : Around} {L : Addr} {α β : Type} {σ : St} {ℓ : Loc}

theorem Rel.tok {s : Shared} {k : Nat} (R : Rel B σ s) : Rel B σ { s with toks := k } := ⟨R.base, R.own, R.gens, R.low⟩
theorem Step.tok {s : Shared} {k : Nat} : Step σ s σ { s with toks := k } := ⟨fun _ _ e _ => e, fun _ h => .inl h, rfl⟩

/-- a value out of values -/
def Bin (B : Bs) (A : Around) (op : Operator) (a b : AV) (σ : St) (Q : AV → St → Prop) : Prop := ∀ va vb, ab va = a → ab vb = b → T0 B A (binaryOp op va vb) σ fun v => Q (ab v)
def Ibin (B : Bs) (A : Around) (op : Operator) (a b : AV) (σ : St) (Q : AV → St → Prop) : Prop := ∀ va vb, ab va = a → ab vb = b → T0 B A (inplaceOp op va vb) σ fun v => Q (ab v)
def Una (B : Bs) (A : Around) (op : UnaryOp) (a : AV) (σ : St) (Q : AV → St → Prop) : Prop := ∀ va, ab va = a → T0 B A (unaryOp op va) σ fun v => Q (ab v)
def Cmp (B : Bs) (A : Around) (op : CmpOp) (a b : AV) (σ : St) (Q : AV → St → Prop) : Prop := ∀ va vb, ab va = a → ab vb = b → T0 B A (compareOp op va vb) σ fun v => Q (ab v)
def Tru (B : Bs) (A : Around) (a : AV) (σ : St) (Q : Bool → St → Prop) : Prop := ∀ va, ab va = a → T0 B A (truthy va) σ Q

theorem ab_int {v : Value} {i : Int} (h : ab v = .int i) : ∃ t, v = .int i t := by cases v <;> simp [ab] at h; exact ⟨_, by rw [h]⟩
theorem ab_bool {v : Value} {b : Bool} (h : ab v = .bool b) : v = .bool b := by cases v <;> simp [ab] at h; rw [h]
theorem ab_none {v : Value} (h : ab v = .none) : v = .none := by cases v <;> simp [ab] at h; rfl
theorem ab_ref {v : Value} {a : Addr} (h : ab v = .ref a) : v = .ref a := by cases v <;> simp [ab] at h; rw [h]
theorem ab_ty {v : Value} {n : String} (h : ab v = .ty n) : v = .type n := by cases v <;> simp [ab] at h; rw [h]
theorem ab_bi {v : Value} {n : String} (h : ab v = .bi n) : v = .builtin n := by cases v <;> simp [ab] at h; rw [h]
theorem ab_str {v : Value} {x : Str} (h : ab v = .str x) : ∃ t, v = .str x t := by cases v <;> simp [ab] at h; exact ⟨_, by rw [h]⟩

section
variable {Q : AV → St → Prop} {x y : Int}
theorem bin_add (h : Q (.int (x + y)) σ) : Bin B A .Add (.int x) (.int y) σ Q := fun va vb ha hb s R => by
  obtain ⟨t, rfl⟩ := ab_int ha; obtain ⟨u, rfl⟩ := ab_int hb
  exact add_int ⟨σ, R.tok, .tok, h⟩
theorem bin_sub (h : Q (.int (x - y)) σ) : Bin B A .Sub (.int x) (.int y) σ Q := fun va vb ha hb s R => by
  obtain ⟨t, rfl⟩ := ab_int ha; obtain ⟨u, rfl⟩ := ab_int hb
  exact sub_int ⟨σ, R.tok, .tok, h⟩
theorem bin_mul (hm : IntMulOk x y) (h : Q (.int (x * y)) σ) : Bin B A .Mult (.int x) (.int y) σ Q := fun va vb ha hb s R => by
  obtain ⟨t, rfl⟩ := ab_int ha; obtain ⟨u, rfl⟩ := ab_int hb
  exact mul_int ⟨σ, R.tok, .tok, h⟩ hm
theorem bin_mod (hy : y ≠ 0) (h : Q (.int (x.fmod y)) σ) : Bin B A .Mod (.int x) (.int y) σ Q := fun va vb ha hb s R => by
  obtain ⟨t, rfl⟩ := ab_int ha; obtain ⟨u, rfl⟩ := ab_int hb
  exact mod_int' hy ⟨σ, R.tok, .tok, h⟩
theorem bin_div (hy : y ≠ 0) (hp : Builtin.divisionGoesByPylong x y = false) (h : Q (.int (x.fdiv y)) σ) : Bin B A .FloorDiv (.int x) (.int y) σ Q := fun va vb ha hb s R => by
  obtain ⟨t, rfl⟩ := ab_int ha; obtain ⟨u, rfl⟩ := ab_int hb
  exact floordiv_int hy ⟨σ, R.tok, .tok, h⟩ (.inl hp)
theorem ibin_add (h : Q (.int (x + y)) σ) : Ibin B A .Add (.int x) (.int y) σ Q := fun va vb ha hb s R => by
  obtain ⟨t, rfl⟩ := ab_int ha; obtain ⟨u, rfl⟩ := ab_int hb
  exact wpAny_iadd_int ⟨σ, R.tok, .tok, h⟩
theorem una_neg (h : Q (.int (-x)) σ) : Una B A .USub (.int x) σ Q := fun va ha s R => by
  obtain ⟨t, rfl⟩ := ab_int ha
  exact neg_int ⟨σ, R.tok, .tok, h⟩
theorem cmp_lt (h : Q (.bool (decide (x < y))) σ) : Cmp B A .Lt (.int x) (.int y) σ Q := fun va vb ha hb s R => by
  obtain ⟨t, rfl⟩ := ab_int ha; obtain ⟨u, rfl⟩ := ab_int hb
  exact lt_int ⟨σ, R, .refl .., h⟩
theorem cmp_le (h : Q (.bool (decide (x ≤ y))) σ) : Cmp B A .LtE (.int x) (.int y) σ Q := fun va vb ha hb s R => by
  obtain ⟨t, rfl⟩ := ab_int ha; obtain ⟨u, rfl⟩ := ab_int hb
  exact le_int ⟨σ, R, .refl .., h⟩
theorem cmp_gt (h : Q (.bool (decide (x > y))) σ) : Cmp B A .Gt (.int x) (.int y) σ Q := fun va vb ha hb s R => by
  obtain ⟨t, rfl⟩ := ab_int ha; obtain ⟨u, rfl⟩ := ab_int hb
  exact gt_int ⟨σ, R, .refl .., h⟩
theorem cmp_ge (h : Q (.bool (decide (x ≥ y))) σ) : Cmp B A .GtE (.int x) (.int y) σ Q := fun va vb ha hb s R => by
  obtain ⟨t, rfl⟩ := ab_int ha; obtain ⟨u, rfl⟩ := ab_int hb
  exact ge_int ⟨σ, R, .refl .., h⟩
theorem cmp_eq (h : Q (.bool (x == y)) σ) : Cmp B A .Eq (.int x) (.int y) σ Q := fun va vb ha hb s R => by
  obtain ⟨t, rfl⟩ := ab_int ha; obtain ⟨u, rfl⟩ := ab_int hb
  exact eq_int ⟨σ, R, .refl .., h⟩
theorem cmp_ne (h : Q (.bool (x != y)) σ) : Cmp B A .NotEq (.int x) (.int y) σ Q := fun va vb ha hb s R => by
  obtain ⟨t, rfl⟩ := ab_int ha; obtain ⟨u, rfl⟩ := ab_int hb
  exact ne_int ⟨σ, R, .refl .., h⟩
end
section
variable {Q : Bool → St → Prop} {x : Int} {b : Bool}
theorem tru_bool (h : Q b σ) : Tru B A (.bool b) σ Q := fun va ha s R => by
  obtain rfl := ab_bool ha; exact wpAny_truthy_bool ⟨σ, R, .refl .., h⟩
theorem tru_int (h : Q (x != 0) σ) : Tru B A (.int x) σ Q := fun va ha s R => by
  obtain ⟨t, rfl⟩ := ab_int ha; exact truthy_int ⟨σ, R, .refl .., h⟩
theorem tru_none (h : Q false σ) : Tru B A .none σ Q := fun va ha s R => by
  obtain rfl := ab_none ha
  exact wpAny_pure ⟨σ, R, .refl .., h⟩
end
theorem una_not {a : AV} {Q : AV → St → Prop} (h : Tru B A a σ fun b => Q (.bool (!b))) : Una B A .Not a σ Q := fun va ha s R =>
  not_value (h va ha s R)
theorem cmp_is_none {a : AV} {Q : AV → St → Prop} {b : Bool} (hb : ∀ v, ab v = a → (v == Value.none) = b) (h : Q (.bool b) σ) : Cmp B A .Is a .none σ Q := fun va vb ha hb' s R => by
  obtain rfl := ab_none hb'
  exact is_none ⟨σ, R, .refl .., by rw [hb va ha]; exact h⟩

/-- expressions, tests -/
abbrev Te (B : Bs) (A : Around) (env : Env) (e : PySem.Expr) (ℓ : Loc) (σ : St) (Q : AV → St → Prop) : Prop := T B A env.locals (eval e env) ℓ σ fun v ℓ' σ' => ℓ' = ℓ ∧ Q (ab v) σ'
abbrev Tt (B : Bs) (A : Around) (env : Env) (e : PySem.Expr) (ℓ : Loc) (σ : St) (Q : Bool → St → Prop) : Prop := T B A env.locals (isTrue e env (eval e env)) ℓ σ fun b ℓ' σ' => ℓ' = ℓ ∧ Q b σ'

section
variable {env : Env} {Q : AV → St → Prop} {k : Nat} {pos : Pos}
theorem Te.mono {e : PySem.Expr} {Q' : AV → St → Prop} (h : Te B A env e ℓ σ Q) (f : ∀ v σ', Q v σ' → Q' v σ') : Te B A env e ℓ σ Q' := T.mono h fun _ _ _ x => ⟨x.1, f _ _ x.2⟩
theorem e_int {i : Int} (h : Q (.int i) σ) : Te B A env (.Constant (.int i) k pos) ℓ σ Q := T.of0 fun s R => wpAny_Constant_int ⟨σ, R.tok, .tok, rfl, h⟩
theorem e_none (h : Q .none σ) : Te B A env (.Constant .none k pos) ℓ σ Q := T.of0 fun s R => wpAny_Constant_none ⟨σ, R, .refl .., rfl, h⟩
theorem e_bool {b : Bool} (h : Q (.bool b) σ) : Te B A env (.Constant (.bool b) k pos) ℓ σ Q := T.of0 fun s R => wpAny_Constant_bool ⟨σ, R, .refl .., rfl, h⟩
theorem e_str {x : Str} (h : Q (.str x) σ) : Te B A env (.Constant (.str x) k pos) ℓ σ Q := T.of0 fun s R => wpAny_Constant_str ⟨σ, R.tok, .tok, rfl, h⟩

theorem e_local {x : Str} {v : AV} (hv : ℓ x = some v) (h : Q v σ) (hk : env.scope.kind = .function := by rfl) (hl : env.kindOf x = some .local := by rfl) (hd : (x == ("__debug__" : Str)) = false := by rfl) :
    Te B A env (.Name x pos) ℓ σ Q := fun s R F => by
  obtain ⟨h1, h2, m, hn, hm⟩ := F
  have e := (hm x).trans hv
  obtain ⟨v', e1, e2⟩ := Option.map_eq_some_iff.mp e
  exact wpAny_Name (wpAny_loadName_local hk hl hn e1 ⟨ℓ, σ, R, ⟨h1, h2, m, hn, hm⟩, .refl ⟨h1, h2, m, hn, hm⟩, rfl, e2 ▸ h⟩) hd

theorem cell_at {s : Shared} {c : Addr} {v : AV} (R : Rel B σ s) (e : σ.m c = some (.cell (some v))) : ∃ v', s.heap.IsCell c (some v') ∧ ab v' = v := by
  obtain ⟨_, o, ho, v', hd, e2⟩ := R.own _ _ e
  obtain ⟨w, e1, e2⟩ := Option.map_eq_some_iff.mp e2
  exact ⟨w, ⟨_, ho, by rw [hd, ← e1]⟩, e2⟩
theorem e_cell {x : Str} {c : Addr} {v : AV} (hc : env.cells.lookup x = some c) (hv : σ.m c = some (.cell (some v))) (h : Q v σ) (hk : env.scope.kind = .function := by rfl) (hl : env.kindOf x = some .cell := by rfl) (hd : (x == ("__debug__" : Str)) = false := by rfl) :
    Te B A env (.Name x pos) ℓ σ Q := T.of0 fun s R => by
  obtain ⟨v', h1, h2⟩ := cell_at R hv
  exact wpAny_Name (wpAny_loadName_cell hk hl hc h1 ⟨σ, R, .refl .., rfl, h2 ▸ h⟩) hd
theorem e_free {x : Str} {c : Addr} {v : AV} (hc : env.cells.lookup x = some c) (hv : σ.m c = some (.cell (some v))) (h : Q v σ) (hk : env.scope.kind = .function := by rfl) (hl : env.kindOf x = some .free := by rfl) (hd : (x == ("__debug__" : Str)) = false := by rfl)
    (hn : (x == ("__classdict__" : Str)) = false := by rfl) : Te B A env (.Name x pos) ℓ σ Q := T.of0 fun s R => by
  obtain ⟨v', h1, h2⟩ := cell_at R hv
  exact wpAny_Name (wpAny_loadName_free hk hl hc h1 ⟨σ, R, .refl .., rfl, h2 ▸ h⟩ hn) hd
theorem Rel.kin {s : Shared} (R : Rel B σ s) (O : B.Ok) : B.K.In s.heap := O.kin.keeps R.base
theorem e_glob (O : B.Ok) {x : Str} {v : Value} (e : nsIn B.K mainGlobals x = some (some v)) (h : Q (ab v) σ) (hk : env.scope.kind = .function := by rfl) (hx : env.kindOf x = some .globalImplicit := by rfl) (hg : env.globals = mainGlobals := by rfl) (hd : (x == ("__debug__" : Str)) = false := by rfl) :
    Te B A env (.Name x pos) ℓ σ Q := T.of0 fun s R => by
  obtain ⟨mg, mb, G, _⟩ := O.top
  exact Calls.Name_function_global hk hx (Calls.loadGlobal_global (env := env) (hg ▸ G.keeps R.base) (mg_of O.kin G e) ⟨σ, R, .refl .., rfl, h⟩) hd
theorem e_boot (O : B.Ok) {x : Str} {v : Value} (e : nsIn B.K mainGlobals x = some none) (hv : bootBuiltins x = some v) (h : Q (ab v) σ) (hn : x ≠ "__name__" := by decide) (hk : env.scope.kind = .function := by rfl) (hx : env.kindOf x = some .globalImplicit := by rfl) (hg : env.globals = mainGlobals := by rfl)
    (hb : env.builtins = builtinsNs := by rfl) (hd : (x == ("__debug__" : Str)) = false := by rfl) : Te B A env (.Name x pos) ℓ σ Q := T.of0 fun s R => by
  obtain ⟨mg, mb, G, M, _, bb⟩ := O.top
  exact Calls.Name_function_global hk hx (Calls.loadGlobal_builtin (env := env) (hg ▸ G.keeps R.base) (mg_none_of O.kin G e) (hb ▸ M.keeps R.base) ((bb x hn).trans hv) ⟨σ, R, .refl .., rfl, h⟩) hd

theorem e_bin {l r : PySem.Expr} {op : Operator} (h : Te B A env l ℓ σ fun a σ₁ => Te B A env r ℓ σ₁ fun b σ₂ => Bin B A op a b σ₂ Q) : Te B A env (.BinOp l op r pos) ℓ σ Q := by
  show T _ _ _ (eval _ _) _ _ _
  rw [eval_BinOp]
  refine T.bind (T.mono h ?_)
  rintro v ℓ' σ' ⟨rfl, h'⟩
  refine T.bind (T.holding (T.mono h' ?_))
  rintro w ℓ'' σ'' ⟨rfl, h3⟩
  exact T.bind (T.standAt (T.operate (T.of0 (T0.mono (h3 _ _ rfl rfl) fun _ _ x => ⟨rfl, x⟩))))
theorem e_una {x : PySem.Expr} {op : UnaryOp} (h : Te B A env x ℓ σ fun a σ₁ => Una B A op a σ₁ Q) : Te B A env (.UnaryOp op x pos) ℓ σ Q := by
  show T _ _ _ (do let v ← eval x env; standAt pos; holding [v] (unaryOp op v)) _ _ _
  refine T.bind (T.mono h ?_)
  rintro v ℓ' σ' ⟨rfl, h'⟩
  exact T.bind (T.standAt (T.holding (T.of0 (T0.mono (h' _ rfl) fun _ _ x => ⟨rfl, x⟩))))
theorem e_cmp {l r : PySem.Expr} {op : CmpOp} (h : Te B A env l ℓ σ fun a σ₁ => Te B A env r ℓ σ₁ fun b σ₂ => Cmp B A op a b σ₂ Q) (hm : behindInMarks op r = false := by with_unfolding_all rfl) : Te B A env (.Compare l [op] [r] pos) ℓ σ Q := by
  show T _ _ _ (eval _ _) _ _ _
  rw [eval_Compare1, markedBehindIn_of_false hm]
  refine T.bind (T.mono h ?_)
  rintro v ℓ' σ' ⟨rfl, h'⟩
  refine T.bind (T.holding (T.mono h' ?_))
  rintro w ℓ'' σ'' ⟨rfl, h3⟩
  exact T.bind (T.standAt (T.operate (T.of0 (T0.mono (h3 _ _ rfl rfl) fun _ _ x => ⟨rfl, x⟩))))
theorem e_ite {t b o : PySem.Expr} (h : Tt B A env t ℓ σ fun c σ₁ => if c = true then Te B A env b ℓ σ₁ Q else Te B A env o ℓ σ₁ Q) : Te B A env (.IfExp t b o pos) ℓ σ Q := by
  show T _ _ _ (do if ← isTrue t env (eval t env) then eval b env else eval o env) _ _ _
  refine T.bind (T.mono h ?_)
  rintro c ℓ' σ' ⟨rfl, h'⟩
  cases c <;> exact h'

-- tests
theorem t_cmp {Q : Bool → St → Prop} {l r : PySem.Expr} {op : CmpOp} (h : Te B A env l ℓ σ fun a σ₁ => Te B A env r ℓ σ₁ fun b σ₂ => Cmp B A op a b σ₂ fun c σ₃ => Tru B A c σ₃ Q) (hm : behindInMarks op r = false := by with_unfolding_all rfl) :
    Tt B A env (.Compare l [op] [r] pos) ℓ σ Q := by
  show T _ _ _ (isTrue _ _ _) _ _ _
  rw [isTrue_Compare1, markedBehindIn_of_false hm]
  refine T.bind (T.mono h ?_)
  rintro v ℓ' σ' ⟨rfl, h'⟩
  refine T.bind (T.holding (T.mono h' ?_))
  rintro w ℓ'' σ'' ⟨rfl, h3⟩
  refine T.bind (T.standAt (T.bind (T.operate (T.of0 (T0.mono (h3 _ _ rfl rfl) fun c _ x => ?_)))))
  exact T.holding (T.of0 (T0.mono (x _ rfl) fun _ _ y => ⟨rfl, y⟩))
theorem t_not {Q : Bool → St → Prop} {x : PySem.Expr} (h : Tt B A env x ℓ σ fun b => Q (!b)) : Tt B A env (.UnaryOp .Not x pos) ℓ σ Q := by
  show T _ _ _ (do return !(← isTrue x env (eval x env))) _ _ _
  refine T.bind (T.mono h ?_)
  rintro c ℓ' σ' ⟨rfl, h'⟩
  exact T.pure ⟨rfl, h'⟩
theorem t_val {Q : Bool → St → Prop} {e : PySem.Expr} (h : Te B A env e ℓ σ fun v σ₁ => Tru B A v σ₁ Q)
    (hs : isTrue e env (eval e env) = (do let v ← eval e env; standAt e.pos; holding [v] (truthy v)) := by with_unfolding_all rfl) : Tt B A env e ℓ σ Q := by
  show T _ _ _ _ _ _ _
  rw [hs]
  refine T.bind (T.mono h ?_)
  rintro c ℓ' σ' ⟨rfl, h'⟩
  exact T.bind (T.standAt (T.holding (T.of0 (T0.mono (h' _ rfl) fun _ _ y => ⟨rfl, y⟩))))
theorem t_and {Q : Bool → St → Prop} {x y : PySem.Expr} (h : Tt B A env x ℓ σ fun b σ₁ => if b = true then Tt B A env y ℓ σ₁ Q else Q false σ₁) : Tt B A env (.BoolOp .And [x, y] pos) ℓ σ Q := by
  show T _ _ _ (allTrue .And [x, y] env) _ _ _
  show T _ _ _ (isTrue x env (eval x env) >>= _) _ _ _
  refine T.bind (T.mono h ?_)
  rintro c ℓ' σ' ⟨rfl, h'⟩
  cases c with
  | false => exact T.pure ⟨rfl, h'⟩
  | true =>
    show T _ _ _ (isTrue y env (eval y env) >>= _) _ _ _
    refine T.bind (T.mono h' ?_)
    rintro c ℓ' σ' ⟨rfl, h'⟩
    cases c <;> exact T.pure ⟨rfl, h'⟩
theorem t_or {Q : Bool → St → Prop} {x y : PySem.Expr} (h : Tt B A env x ℓ σ fun b σ₁ => if b = true then Q true σ₁ else Tt B A env y ℓ σ₁ Q) : Tt B A env (.BoolOp .Or [x, y] pos) ℓ σ Q := by
  show T _ _ _ (allTrue .Or [x, y] env) _ _ _
  show T _ _ _ (isTrue x env (eval x env) >>= _) _ _ _
  refine T.bind (T.mono h ?_)
  rintro c ℓ' σ' ⟨rfl, h'⟩
  cases c with
  | true => exact T.pure ⟨rfl, h'⟩
  | false =>
    show T _ _ _ (isTrue y env (eval y env) >>= _) _ _ _
    refine T.bind (T.mono h' ?_)
    rintro c ℓ' σ' ⟨rfl, h'⟩
    cases c <;> exact T.pure ⟨rfl, h'⟩
theorem e_or {x y : PySem.Expr} (h : Te B A env x ℓ σ fun v σ₁ => Tru B A v σ₁ fun b σ₂ => if b = true then Q v σ₂ else Te B A env y ℓ σ₂ Q) : Te B A env (.BoolOp .Or [x, y] pos) ℓ σ Q := by
  show T _ _ _ (eval x env >>= _) _ _ _
  refine T.bind (T.mono h ?_)
  rintro v ℓ' σ' ⟨rfl, h'⟩
  refine T.bind (T.standAt (T.bind (T.holding (T.of0 (T0.mono (h' _ rfl) fun b σ₂ y => ?_)))))
  cases b with
  | true => exact T.pure ⟨rfl, y⟩
  | false => exact y
theorem e_and {x y : PySem.Expr} (h : Te B A env x ℓ σ fun v σ₁ => Tru B A v σ₁ fun b σ₂ => if b = true then Te B A env y ℓ σ₂ Q else Q v σ₂) : Te B A env (.BoolOp .And [x, y] pos) ℓ σ Q := by
  show T _ _ _ (eval x env >>= _) _ _ _
  refine T.bind (T.mono h ?_)
  rintro v ℓ' σ' ⟨rfl, h'⟩
  refine T.bind (T.standAt (T.bind (T.holding (T.of0 (T0.mono (h' _ rfl) fun b σ₂ y => ?_)))))
  cases b with
  | false => exact T.pure ⟨rfl, y⟩
  | true => exact y
end

/-- lists of expressions -/
abbrev Tes (B : Bs) (A : Around) (env : Env) (pos : Pos) (es : List PySem.Expr) (ℓ : Loc) (σ : St) (Q : List AV → St → Prop) : Prop := T B A env.locals (spliced (backTo pos (starEach es env))) ℓ σ fun vs ℓ' σ' => ℓ' = ℓ ∧ Q (vs.map ab) σ'
section
variable {env : Env} {Q : List AV → St → Prop} {pos : Pos}
theorem es_nil (h : Q [] σ) : Tes B A env pos [] ℓ σ Q := T.pure ⟨rfl, h⟩
theorem es_cons {e : PySem.Expr} {es : List PySem.Expr} (h : Te B A env e ℓ σ fun v σ₁ => Tes B A env pos es ℓ σ₁ fun vs => Q (v :: vs)) (hs : starEach (e :: es) env = (false, eval e env) :: starEach es env := by rfl) : Tes B A env pos (e :: es) ℓ σ Q := by
  show T _ _ _ (spliced (backTo pos _)) _ _ _
  rw [hs]
  show T _ _ _ (eval e env >>= fun v => (pure [v] : Sem (List Value)) >>= fun here => holding here (spliced (backTo pos (starEach es env))) >>= fun r => pure (here ++ r)) _ _ _
  refine T.bind (T.mono h ?_)
  rintro v ℓ' σ' ⟨rfl, h'⟩
  refine T.bind (T.pure (T.bind (T.holding (T.mono h' ?_))))
  rintro vs ℓ'' σ'' ⟨rfl, h3⟩
  exact T.pure ⟨rfl, h3⟩
end
end Mine
set_option maxHeartbeats 200000
namespace Mine
variable {B : Bs} {A : Around} {L : Addr} {α β : Type} {σ : St} {ℓ : Loc}

inductive AF where
  | next | brk | cont | ret (v : AV)
def abF : Flow → AF
  | .next => .next | .brk => .brk | .cont => .cont | .ret v => .ret (ab v)
def upd (ℓ : Loc) (x : Str) (v : AV) : Loc := fun y => if y = x then some v else ℓ y
/-- a frame written out: names, values -/
def frm (ns : List Str) (vs : List (Option AV)) : Loc := fun x => (ns.idxOf? x).bind fun i => (vs[i]?).join
theorem upd_frm {ns : List Str} {vs : List (Option AV)} {x : Str} {i : Nat} {v : AV} (h : ns.idxOf? x = some i) (hi : i < vs.length) : upd (frm ns vs) x v = frm ns (vs.set i (some v)) := by
  funext y
  unfold upd frm
  have key : ∀ {y : Str} {j : Nat}, ns.idxOf? y = some j → ns[j]? = some y := by
    intro y j hj
    unfold List.idxOf? at hj
    have := List.findIdx?_eq_some_iff_getElem.mp hj
    obtain ⟨hl, hb, _⟩ := this
    rw [List.getElem?_eq_getElem hl, beq_iff_eq.mp hb]
  by_cases hy : y = x
  · subst hy
    rw [if_pos rfl, h]
    simp [hi]
  · rw [if_neg hy]
    cases hj : ns.idxOf? y with
    | none => rfl
    | some j =>
      have : i ≠ j := by
        rintro rfl
        have e1 := key h; have e2 := key hj
        rw [e1] at e2; cases e2; exact hy rfl
      simp [List.getElem?_set_ne this]

theorem Rel.aside {s : Shared} {h' : Heap} {k : Nat} {a : Addr} (R : Rel B σ s) (h0 : B.h0.get? a = none) (hσ : σ.m a = none) (hs : Heap.SameBut a s.heap h') : Rel B σ { s with heap := h', toks := k } where
  base b o e := (hs.2 b (by rintro rfl; rw [h0] at e; cases e)).trans (R.base b o e)
  own b ao e := let ⟨x, o, ho, y⟩ := R.own b ao e; ⟨x, o, (hs.2 b (by rintro rfl; rw [hσ] at e; cases e)).trans ho, y⟩
  gens := R.gens
  low := R.low

theorem T.storeLocal {env : Env} {x : Str} {w : Value} {Q : Unit → Loc → St → Prop} (h : Q () (upd ℓ x (ab w)) σ) (hk : env.scope.kind = .function := by rfl) (hl : env.kindOf x = some .local := by rfl) : T B A env.locals (storeName env x w) ℓ σ Q := fun s R F => by
  obtain ⟨h1, h2, m, hn, hm⟩ := id F
  refine wpAny_storeName_local hl hn (fun h' hn' hs => ?_) (by rw [hk]; rfl)
  obtain ⟨o', _, _, e', _⟩ := id hn'
  refine ⟨_, σ, R.aside h1 h2 hs, ⟨h1, h2, _, hn', fun y => ?_⟩, ⟨fun b o e _ hb => (hs.2 b hb).trans e, fun _ h => .inl h, rfl, by rw [e']; rfl⟩, h⟩
  unfold upd
  split
  · rfl
  · exact hm y
theorem T.storeCell {env : Env} {x : Str} {c : Addr} {w : Value} {v₀ : Option AV} {Q : Unit → Loc → St → Prop} (hc : env.cells.lookup x = some c) (hv : σ.m c = some (.cell v₀)) (h : Q () ℓ (σ.put c (.cell (some (ab w))))) (hk : env.scope.kind = .function := by rfl) (hl : env.kindOf x = some .cell := by rfl) :
    T B A L (storeName env x w) ℓ σ Q := T.of0 fun s R => by
  obtain ⟨h0, o, ho, v', hd, _⟩ := R.own _ _ hv
  refine wpAny_storeName_cell hk hl hc ⟨o, ho, hd⟩ fun h' hv' hs => ?_
  obtain ⟨o', ho', hd'⟩ := hv'
  refine ⟨σ.put c (.cell (some (ab w))), ⟨fun b o e => (hs.2 b (by rintro rfl; rw [h0] at e; cases e)).trans (R.base b o e), fun b ao e => ?_, R.gens, R.low.1, fun b hb => ?_⟩, ⟨fun b o e hb => (hs.2 b (by rintro rfl; rw [hv] at hb; cases hb)).trans e, fun b hb => ?_, rfl⟩, h⟩
  · by_cases q : b = c
    · subst q; rw [put_same] at e; cases e; exact ⟨h0, o', ho', _, hd', rfl⟩
    · rw [put_other q] at e; obtain ⟨y, o, ho, z⟩ := R.own b ao e; exact ⟨y, o, (hs.2 b q).trans ho, z⟩
  · by_cases q : b = c
    · subst q; exact R.low.2 b (by rw [hv]; exact nofun)
    · rw [put_other q] at hb; exact R.low.2 b hb
  · by_cases q : b = c
    · subst q; left; rw [hv]; exact nofun
    · rw [put_other q] at hb; exact .inl hb

/-- a value stored under a target -/
abbrev Ta (B : Bs) (A : Around) (env : Env) (t : PySem.Expr) (v : AV) (ℓ : Loc) (σ : St) (Q : Loc → St → Prop) : Prop := ∀ va, ab va = v → T B A env.locals (assign t env va) ℓ σ fun _ => Q
section
variable {env : Env} {x : Str} {pos : Pos} {v : AV} {Q : Loc → St → Prop}
theorem T.bindName {w : Value} {Q : Unit → Loc → St → Prop} (h : T B A env.locals (storeName env x w) ℓ σ Q) : T B A env.locals (bindName env x w) ℓ σ Q := fun s R F => wpAny_bindName (h s R F)
theorem a_local (h : Q (upd ℓ x v) σ) (hk : env.scope.kind = .function := by rfl) (hl : env.kindOf x = some .local := by rfl) : Ta B A env (.Name x pos) v ℓ σ Q := fun va hv => by
  rw [PySem.assign_Name]
  exact T.bind (T.standAt (T.bindName (T.storeLocal (hv ▸ h) hk hl)))
theorem a_cell {c : Addr} {v₀ : Option AV} (hc : env.cells.lookup x = some c) (hv : σ.m c = some (.cell v₀)) (h : Q ℓ (σ.put c (.cell (some v)))) (hk : env.scope.kind = .function := by rfl) (hl : env.kindOf x = some .cell := by rfl) : Ta B A env (.Name x pos) v ℓ σ Q := fun va hv' => by
  rw [PySem.assign_Name]
  exact T.bind (T.standAt (T.bindName (T.storeCell hc hv (hv' ▸ h) hk hl)))
end

/-- statements -/
abbrev Tx (B : Bs) (A : Around) (env : Env) (st : Stmt) (ℓ : Loc) (σ : St) (Q : AF → Loc → St → Prop) : Prop := T B A env.locals (exec st env) ℓ σ fun f ℓ' σ' => Q (abF f) ℓ' σ'
abbrev Ts (B : Bs) (A : Around) (env : Env) (ss : List Stmt) (ℓ : Loc) (σ : St) (Q : AF → Loc → St → Prop) : Prop := T B A env.locals (execs ss env) ℓ σ fun f ℓ' σ' => Q (abF f) ℓ' σ'
section
variable {env : Env} {Q : AF → Loc → St → Prop} {pos : Pos}
theorem s_nil (h : Q .next ℓ σ) : Ts B A env [] ℓ σ Q := T.pure h
theorem s_cons {st : Stmt} {ss : List Stmt} (h : Tx B A env st ℓ σ fun f ℓ' σ' => match f with | .next => Ts B A env ss ℓ' σ' Q | f => Q f ℓ' σ') : Ts B A env (st :: ss) ℓ σ Q := by
  show T _ _ _ (execs _ _) _ _ _
  rw [execs_cons]
  refine T.bind (T.mono h fun f ℓ' σ' h' => ?_)
  cases f with
  | next => exact h'
  | brk => exact T.pure h'
  | cont => exact T.pure h'
  | ret v => exact T.pure h'
theorem x_assign {t value : PySem.Expr} (h : Te B A env value ℓ σ fun v σ₁ => Ta B A env t v ℓ σ₁ fun ℓ₂ σ₂ => Q .next ℓ₂ σ₂)
    (hs : swapsWithSole [t] value pos.line env = pure false := by rfl) (hw : swappedStores [t] value env = pure none := by rfl) (ha : assignEach [t] env = [(false, assign t env)] := by rfl) : Tx B A env (.Assign [t] value pos) ℓ σ Q := by
  show T _ _ _ (exec _ _) _ _ _
  rw [exec_Assign_arm]
  refine T.bind (T.standAt ?_)
  rw [hs]
  refine T.bind (T.pure (T.bind (T.mono h ?_)))
  rintro v ℓ' σ' ⟨rfl, h'⟩
  rw [hw]
  refine T.bind (T.pure ?_)
  rw [ha]
  show T _ _ _ (assignAll v [assign t env] >>= fun _ => pure Flow.next) _ _ _
  exact T.bind (T.mono (h' v rfl) fun _ _ _ z => T.pure z)
theorem x_aug_local {x : Str} {p : Pos} {op : Operator} {value : PySem.Expr} {v : AV} (hv : ℓ x = some v) (h : Te B A env value ℓ σ fun u σ₁ => Ibin B A op v u σ₁ fun r σ₂ => Q .next (upd ℓ x r) σ₂)
    (hk : env.scope.kind = .function := by rfl) (hl : env.kindOf x = some .local := by rfl) : Tx B A env (.AugAssign (.Name x p) op value pos) ℓ σ Q := by
  show T _ _ _ (exec _ _) _ _ _
  rw [exec_AugAssign_Name]
  refine T.bind (T.standAt (T.bind (Q := _) ?_))
  have ld : T B A env.locals (loadName env x) ℓ σ fun w ℓ' σ' => ℓ' = ℓ ∧ σ' = σ ∧ ab w = v := fun s R F => by
    obtain ⟨h1, h2, m, hn, hm⟩ := F
    obtain ⟨v', e1, e2⟩ := Option.map_eq_some_iff.mp ((hm x).trans hv)
    exact wpAny_loadName_local hk hl hn e1 ⟨ℓ, σ, R, ⟨h1, h2, m, hn, hm⟩, .refl ⟨h1, h2, m, hn, hm⟩, rfl, rfl, e2⟩
  refine T.mono ld ?_
  rintro w ℓ' σ' ⟨rfl, rfl, hw⟩
  refine T.bind (T.holding (T.mono h ?_))
  rintro u ℓ' σ' ⟨rfl, h'⟩
  refine T.bind (T.standAt (T.bind (T.operate (T.of0 (T0.mono (h' w u hw rfl) fun r σ₂ z => ?_)))))
  exact T.bind (T.standAt (T.bind (T.bindName (T.storeLocal (T.pure z) hk hl))))
theorem x_if {t : PySem.Expr} {b o : List Stmt} (h : Tt B A env t ℓ σ fun c σ₁ => if c = true then Ts B A env b ℓ σ₁ Q else Ts B A env o ℓ σ₁ Q) : Tx B A env (.If t b o pos) ℓ σ Q := by
  show T _ _ _ (exec _ _) _ _ _
  rw [exec_If]
  refine T.bind (T.standAt (T.bind (T.mono h ?_)))
  rintro c ℓ' σ' ⟨rfl, h'⟩
  cases c <;> exact h'
theorem x_ret {e : PySem.Expr} (h : Te B A env e ℓ σ fun v σ₁ => Q (.ret v) ℓ σ₁) : Tx B A env (.Return (some e) pos) ℓ σ Q := by
  show T _ _ _ (exec _ _) _ _ _
  rw [exec_Return_some]
  refine T.bind (T.standAt (T.bind (T.mono h ?_)))
  rintro c ℓ' σ' ⟨rfl, h'⟩
  exact T.pure h'
theorem x_ret_none (h : Q (.ret .none) ℓ σ) : Tx B A env (.Return none pos) ℓ σ Q := T.bind (T.standAt (T.pure h))
theorem x_pass (h : Q .next ℓ σ) : Tx B A env (.Pass pos) ℓ σ Q := T.bind (T.standAt (T.pure h))
theorem x_brk (h : Q .brk ℓ σ) : Tx B A env (.Break pos) ℓ σ Q := by
  show T _ _ _ (do standAt pos; pure Flow.brk) _ _ _
  exact T.bind (T.standAt (T.pure h))
theorem T0.drop {e : PySem.Expr} {v : Value} {Q : Flow → St → Prop} (h : Q .next σ) : T0 B A (dropValue e pos v) σ Q := fun s R => by
  unfold dropValue
  split
  · exact wpAny_pure ⟨σ, R, .refl .., h⟩
  · exact wpAny_bind (wpAny_standAt (wpAny_bind (wpAny_runValue (codeAny_builtin entry_let_go (show wpAny _ _ (ret .none) _ _ s from wpAny_pure (wpAny_pure ⟨σ, R, .refl .., h⟩))))))
  · exact wpAny_pure ⟨σ, R, .refl .., h⟩
theorem x_expr {e : PySem.Expr} (h : Te B A env e ℓ σ fun _ σ₁ => Q .next ℓ σ₁) (hi : interactive env = false := by rfl) (hs : swapsWith e none pos.line env = pure false := by rfl) : Tx B A env (.Expr e pos) ℓ σ Q := by
  show T _ _ _ (do standAt pos; if interactive env then printExpr (eval e env) else if ← swapsWith e none pos.line env then do evalThenUse e env fun _ => point; pure .next else do dropValue e pos (← eval e env)) _ _ _
  rw [hi, hs]
  refine T.bind (T.standAt (T.bind (T.pure (T.bind (T.mono h ?_)))))
  rintro c ℓ' σ' ⟨rfl, h'⟩
  exact T.of0 (T0.drop h')
end

/-- a new object -/
theorem Rel.push {s : Shared} {o : Obj} {ao : AObj} (R : Rel B σ s) (h : OIs o ao) (hf : o.isFreed = false) : Rel B (σ.put s.heap.objs.size ao) { s with heap := s.heap.push o } ∧ Step σ s (σ.put s.heap.objs.size ao) { s with heap := s.heap.push o } ∧ σ.m s.heap.objs.size = none := by
  have hn : s.heap.get? s.heap.objs.size = none := by
    cases e : s.heap.get? s.heap.objs.size with
    | none => rfl
    | some o => exact absurd (Heap.lt_size e) (Nat.lt_irrefl _)
  have hm : σ.m s.heap.objs.size = none := by
    cases e : σ.m s.heap.objs.size with
    | none => rfl
    | some ao => obtain ⟨_, o, ho, _⟩ := R.own _ _ e; rw [hn] at ho; cases ho
  have h0 : B.h0.get? s.heap.objs.size = none := by
    cases e : B.h0.get? s.heap.objs.size with
    | none => rfl
    | some o => have := R.base _ _ e; rw [hn] at this; cases this
  refine ⟨⟨fun b o e => Heap.get?_push_of_some _ (R.base b o e), fun b ao' e => ?_, R.gens, R.low.1, fun b hb => ?_⟩, ⟨fun b o e _ => Heap.get?_push_of_some _ e, fun b hb => ?_, rfl⟩, hm⟩
  · by_cases q : b = s.heap.objs.size
    · subst q; rw [put_same] at e; cases e; exact ⟨h0, o, Heap.get?_push_size _ hf, h⟩
    · rw [put_other q] at e; obtain ⟨x, o, ho, y⟩ := R.own b ao' e; exact ⟨x, o, Heap.get?_push_of_some _ ho, y⟩
  · by_cases q : b = s.heap.objs.size
    · subst q; obtain ⟨o, e⟩ := Option.isSome_iff_exists.mp R.low.1; exact Heap.lt_size (R.base _ _ e)
    · rw [put_other q] at hb; exact R.low.2 b hb
  · by_cases q : b = s.heap.objs.size
    · subst q; exact .inr hn
    · rw [put_other q] at hb; exact .inl hb

section
variable {env : Env} {Q : AV → St → Prop} {pos : Pos}
theorem T0.newList {vs : List Value} {Q : Value → St → Prop} (h : ∀ a, σ.m a = none → Q (.ref a) (σ.put a (.list (vs.map ab)))) (hsz : vs.length ≤ sizeLine) : T0 B A (newList vs) σ Q := fun s R => by
  refine wpAny_newObj_type ?_ (by show vs.toArray.size ≤ sizeLine; rw [List.size_toArray]; exact hsz)
  obtain ⟨R', S, hm⟩ := R.push (o := { cls := .type "list", dict := none, data := .seq vs.toArray }) (ao := .list (vs.map ab)) ⟨_, _, rfl, by simp⟩ rfl
  exact ⟨_, R', S, h _ hm⟩
theorem T0.newTuple {vs : List Value} {Q : Value → St → Prop} (h : ∀ a, σ.m a = none → Q (.ref a) (σ.put a (.tup (vs.map ab)))) (hsz : vs.length ≤ sizeLine) : T0 B A (newTuple vs) σ Q := fun s R => by
  refine wpAny_newObj_type ?_ (by show vs.toArray.size ≤ sizeLine; rw [List.size_toArray]; exact hsz)
  obtain ⟨R', S, hm⟩ := R.push (o := { cls := .type "tuple", dict := none, data := .seq vs.toArray }) (ao := .tup (vs.map ab)) ⟨_, _, rfl, by simp⟩ rfl
  exact ⟨_, R', S, h _ hm⟩
theorem e_list {es : List PySem.Expr} (h : Tes B A env pos es ℓ σ fun vs σ₁ => vs.length ≤ sizeLine ∧ ∀ a, σ₁.m a = none → Q (.ref a) (σ₁.put a (.list vs))) : Te B A env (.List es pos) ℓ σ Q := by
  show T _ _ _ (do standAt pos; newList (← spliced (backTo pos (starEach es env)))) _ _ _
  refine T.bind (T.standAt (T.bind (T.mono h ?_)))
  rintro vs ℓ' σ' ⟨rfl, h1, h2⟩
  exact T.of0 (T0.newList (fun a ha => ⟨rfl, h2 a ha⟩) (by simpa using h1))
theorem e_tuple {es : List PySem.Expr} {k : Nat} (h : Tes B A env pos es ℓ σ fun vs σ₁ => vs.length ≤ sizeLine ∧ ∀ a, σ₁.m a = none → Q (.ref a) (σ₁.put a (.tup vs))) : Te B A env (.Tuple es k pos) ℓ σ Q := by
  show T _ _ _ (do standAt pos; newTuple (← spliced (backTo pos (starEach es env)))) _ _ _
  refine T.bind (T.standAt (T.bind (T.mono h ?_)))
  rintro vs ℓ' σ' ⟨rfl, h1, h2⟩
  exact T.of0 (T0.newTuple (fun a ha => ⟨rfl, h2 a ha⟩) (by simpa using h1))
theorem e_dict0 (h : ∀ a, σ.m a = none → Q (.ref a) (σ.put a (.dict [] 0))) : Te B A env (.Dict [] [] pos) ℓ σ Q := by
  show T _ _ _ (do standAt pos; dictDisplay []) _ _ _
  refine T.bind (T.standAt (T.of0 fun s R => ?_))
  have e : dictDisplay [] = newDict := by rfl
  rw [e]
  refine wpAny_newObj_type ?_ (by show (0 : Nat) ≤ _; exact Nat.zero_le _)
  obtain ⟨R', S, hm⟩ := R.push (o := { cls := .type "dict", dict := none, data := .dict #[] }) (ao := .dict [] 0) ⟨_, rfl, fun _ h => absurd h (by simp), .nil, .nil⟩ rfl
  exact ⟨_, R', S, rfl, h _ hm⟩
end
end Mine
set_option maxHeartbeats 200000
namespace Mine
variable {B : Bs} {A : Around} {L : Addr} {α β : Type} {σ : St} {ℓ : Loc}

def AObj.cls : AObj → Option Value
  | .list _ => some (.type "list") | .tup _ => some (.type "tuple") | .dom C _ _ => some (.ref C) | .dict _ _ => some (.type "dict") | .inst C _ => some (.ref C) | _ => none
def AObj.dx : AObj → Option Addr
  | .dom _ d _ => some d | .inst _ d => some d | _ => none
theorem obj_at {s : Shared} {a : Addr} {ao : AObj} {c : Value} (R : Rel B σ s) (e : σ.m a = some ao) (hc : ao.cls = some c) : ∃ o, s.heap.get? a = some o ∧ o.cls = c ∧ notCls o = true ∧ o.dict = ao.dx ∧ o.slots = #[] ∧ OIs o ao := by
  obtain ⟨_, o, ho, q⟩ := R.own a ao e
  refine ⟨o, ho, ?_⟩
  cases ao with
  | list xs => obtain ⟨vs, n, rfl, h⟩ := id q; cases hc; exact ⟨rfl, rfl, rfl, rfl, q⟩
  | tup xs => obtain ⟨vs, n, rfl, h⟩ := id q; cases hc; exact ⟨rfl, rfl, rfl, rfl, q⟩
  | dom C dx xs => obtain ⟨vs, n, rfl, h⟩ := id q; cases hc; exact ⟨rfl, rfl, rfl, rfl, q⟩
  | dict es n => obtain ⟨vs, rfl, h⟩ := id q; cases hc; exact ⟨rfl, rfl, rfl, rfl, q⟩
  | ns k m => cases hc
  | inst C dx => obtain rfl := id q; cases hc; exact ⟨rfl, rfl, rfl, rfl, q⟩
  | cell v => cases hc
  | raw o' => cases hc
theorem type_at {s : Shared} {a : Addr} {ao : AObj} {c : Value} (R : Rel B σ s) (e : σ.m a = some ao) (hc : ao.cls = some c) : Looks (model B.prog B.w) s.heap (typeOf (.ref a)) c := by
  obtain ⟨o, ho, h, _⟩ := obj_at R e hc
  exact h ▸ (Looks.ld ho).andThen .now

theorem lookIn_ns {ens : Array DictEntry} {n : Nat} {c : Value} {d : Option Addr} {sl : Array (Option Value)} (hk : StrKeys ens) (x : Str) : lookIn x ⟨c, d, .dict ens n, sl⟩ = some (nsFind ens x) := by
  unfold lookIn nsFind findBy
  dsimp only
  rw [← Array.find?_toList]
  cases e : ens.toList.find? (fun e => e.key.isStr x) with
  | some en => rfl
  | none =>
    have : (ens.toList.any fun e => e.refKey) = false := by
      rw [List.any_eq_false]; intro e he
      obtain ⟨n, t, h⟩ := hk e (Array.mem_toList_iff.mp he)
      simp [DictEntry.refKey, h]
    show (if _ then _ else _) = _
    rw [this]; rfl
theorem ns_at {s : Shared} {dx : Addr} {k : Nat} {m : Loc} (R : Rel B σ s) (e : σ.m dx = some (.ns k m)) : ∃ ens n, s.heap.get? dx = some ⟨.type "dict", none, .dict ens n, #[]⟩ ∧ StrKeys ens ∧ ens.size ≤ k ∧ ∀ x, (nsFind ens x).map ab = m x := by
  obtain ⟨_, o, ho, ens, n, rfl, h⟩ := R.own _ _ e
  exact ⟨ens, n, ho, h⟩
theorem inst_at {s : Shared} {a C dx : Addr} {ao : AObj} {k : Nat} {m : Loc} (R : Rel B σ s) (e : σ.m a = some ao) (hc : ao.cls = some (.ref C)) (hd : ao.dx = some dx) (e2 : σ.m dx = some (.ns k m)) :
    ∃ ox od, InstAt s.heap a ox C (some od) ∧ ∀ x, ∃ v, lookIn x od = some v ∧ v.map ab = m x := by
  obtain ⟨o, ho, h1, h2, h3, _⟩ := obj_at R e hc
  obtain ⟨ens, n, hx, hk, _, hm⟩ := ns_at R e2
  refine ⟨o, ⟨.type "dict", none, .dict ens n, #[]⟩, ⟨ho, h1, h2, ?_⟩, fun x => ⟨_, lookIn_ns hk x, hm x⟩⟩
  rw [h3, hd]; exact hx

/-- the method that a name gives -/
def Meth (B : Bs) (A : Around) (v : AV) (name : Str) (pl : Sem Bool) (σ : St) (Q : AV → List AV → St → Prop) : Prop := ∀ va, ab va = v → T0 B A (getMethod va name pl) σ fun r σ' => Q (ab r.1) (r.2.map ab) σ'
def fnKind (t : Value) : Bool := t == .type "function" || t == .type "method_descriptor" || t == .type "wrapper_descriptor"
theorem meth_of (O : B.Ok) {a : Addr} {ao : AObj} {c f t : Value} {name : Str} {ga : String} {pl : Sem Bool} {Q : AV → List AV → St → Prop} (e : σ.m a = some ao) (hc : ao.cls = some c)
    (hga : findIn B.K c "__getattribute__" = some (some (.builtin ga))) (hcan : (Manifest.canonical ga != "object.__getattribute__") = false) (hk : findIn B.K c "__getattr__" = some none)
    (hf : findIn B.K c name = some (some f)) (ht : typeIn B.K f = some t) (htt : fnKind t = true) (hsh : ∀ dx, ao.dx = some dx → ∃ k m, σ.m dx = some (.ns k m) ∧ m name = none)
    (h : Q (ab f) [.ref a] σ) : Meth B A (.ref a) name pl σ Q := fun va hv s R => by
  obtain rfl := ab_ref hv
  have X := R.kin O
  obtain ⟨o, ho, h1, h2, h3, _⟩ := obj_at R e hc
  have I := type_at R e hc
  unfold getMethod specialOf
  refine wpAny_bind (wpAny_bind (I.here ((looks_findIn X hga).here ?_)))
  dsimp only
  rw [hcan, if_neg (by decide)]
  refine wpAny_bind (wpAny_bind (I.here ((looks_findIn X hk).here ?_)))
  refine wpAny_bind (wpAny_bind (I.here ((looks_findIn X hf).here (wpAny_bind ((looks_typeIn X ht).here ?_)))))
  have : ¬ ((t != Value.type "function" && t != Value.type "method_descriptor" && t != Value.type "wrapper_descriptor") = true) := by
    unfold fnKind at htt
    simp only [bne, Bool.and_eq_true, Bool.not_eq_true', not_and, Bool.not_eq_false, Bool.or_eq_true] at htt ⊢
    rcases htt with (h | h) | h
    · intro q; rw [h] at q; exact absurd q.1 (by decide)
    · intro q; rw [h] at q; exact absurd q.2 (by decide)
    · intro _; exact h
  rw [if_neg this]
  refine wpAny_bind (wpAny_loadPart ho ?_)
  rw [h3]
  cases q : ao.dx with
  | none => exact wpAny_bind (wpAny_rule (wpAny_pure ⟨σ, R, .refl .., h⟩))
  | some dx =>
    obtain ⟨k, m, e2, hm⟩ := hsh dx q
    obtain ⟨ens, n, hx, hk', _, hmm⟩ := ns_at R e2
    refine wpAny_bind (wpAny_bind (wpAny_loadPart hx ?_))
    rw [nsLook_of (lookIn_ns hk' name)]
    refine wpAny_pure ?_
    have : nsFind ens name = none := by have := hmm name; rw [hm] at this; exact Option.map_eq_none_iff.mp this
    rw [this]
    exact wpAny_bind (wpAny_rule (wpAny_pure ⟨σ, R, .refl .., h⟩))

/-- an attribute read -/
def Att (B : Bs) (A : Around) (v : AV) (name : Str) (ex : Bool) (σ : St) (Q : AV → St → Prop) : Prop := ∀ va, ab va = v → T0 B A (getAttr va name ex) σ fun v => Q (ab v)
def attIn (K : Frag) (C : Addr) (name : Str) : Bool := (clsIn K C).any fun cd => cd.hasDict && ((findIn K (.ref C) name).any fun attr => match attr with
  | none => true
  | some a => (specialIn K a "__get__").isSome && (match specialIn K a "__get__" with | some (some _) => takesIn K a == some false | some none => true | none => false))
theorem find_own {K : Frag} {C : Addr} {name : Str} {od : Obj} {v : Value} (h : attIn K C name = true) (e : lookIn name od = some (some v)) : findObj K C (some od) name = some (.value v) := by
  unfold attIn at h
  obtain ⟨cd, hc, h⟩ := any_some h
  obtain ⟨hd, h⟩ := Bool.and_eq_true_iff.mp h
  obtain ⟨attr, ha, h⟩ := any_some h
  unfold findObj
  rw [hc, ha]
  have ho : W.ownOf cd (some od) name = some (some v) := by unfold W.ownOf; rw [hd]; exact e
  cases attr with
  | none => simp [ho]
  | some a =>
    dsimp only at h
    cases q : specialIn K a "__get__" with
    | none => rw [q] at h; cases h
    | some g =>
      rw [q] at h
      cases g with
      | none => simp [q, ho]
      | some g =>
        have : takesIn K a = some false := beq_iff_eq.mp (Bool.and_eq_true_iff.mp h).2
        simp [q, this, ho]
theorem ab_handed {v : Value} {u : AV} (h : ab v = u) (hn : ∀ n, u ≠ .bi n) : handedIn v = true := by
  cases v <;> first | rfl | (subst h; exact absurd rfl (hn _))
theorem att_own (O : B.Ok) {a C dx : Addr} {ao : AObj} {k : Nat} {m : Loc} {name : Str} {ex : Bool} {v : AV} {Q : AV → St → Prop} (e : σ.m a = some ao) (e2 : σ.m dx = some (.ns k m)) (hv : m name = some v) (h : Q v σ)
    (hc : ao.cls = some (.ref C) := by rfl) (hd : ao.dx = some dx := by rfl) (hga : findIn B.K (.ref C) "__getattribute__" = some (some (.builtin "object.__getattribute__")) := by rfl) (ha : attIn B.K C name = true := by rfl) (hn : ∀ n, v ≠ .bi n := by intro n x; cases x) : Att B A (.ref a) name ex σ Q := fun va hva s R => by
  obtain rfl := ab_ref hva
  obtain ⟨ox, od, I, hl⟩ := inst_at R e hc hd e2
  obtain ⟨u, hu, hm⟩ := hl name
  rw [hv] at hm
  obtain ⟨v', rfl, hv'⟩ := Option.map_eq_some_iff.mp hm
  exact get_value (R.kin O) I hga (find_own ha hu) (ab_handed hv' hn) ⟨σ, R.tok, .tok, by show Q (ab v') σ; rw [hv']; exact h⟩

/-- an attribute written -/
def Sat (B : Bs) (A : Around) (o : AV) (name : Str) (v : AV) (σ : St) (Q : St → Prop) : Prop := ∀ oa va, ab oa = o → ab va = v → T0 B A (setAttr oa name va) σ fun _ => Q
theorem own_list_setattr : PySem.classOwn (.type "list") "__setattr__" = pure none := by
  show pure (builtinOwn "list" "__setattr__") = _
  rw [builtinOwn_eq_fast]; kernel_rfl
theorem refuse_list (self : Value) : refuseLoop self "__setattr__" [.type "list", .type "object"] = pure () := by
  have h := PySem.F.store_object.passes self
  unfold refuseLoop at h ⊢
  rw [List.forIn_cons]
  simp only [own_list_setattr]
  show (pure (ForInStep.yield _) >>= _ : Sem _) >>= _ = _
  exact h
def satOk (K : Frag) (C : Addr) (name : Str) : Bool := (clsIn K C).any fun cd => cd.hasDict && !cd.mro.isEmpty && cd.mro.contains (.type "object") && takerIn K C name == some none &&
  findIn K (.ref C) "__setattr__" == some (some (.builtin "object.__setattr__")) && (onlyObject cd.mro || cd.mro == [.ref C, .type "list", .type "object"])
theorem put_ns {ens : Array DictEntry} {n k : Nat} {m : Loc} {hash : Int} {name : Str} {t : Tok} {v : Value} (hk : StrKeys ens) (hz : ens.size ≤ k) (hm : ∀ x, (nsFind ens x).map ab = m x) :
    OIs (Obj.putName name hash (.str name t) v ⟨.type "dict", none, .dict ens n, #[]⟩) (.ns (k + 1) (upd m name (ab v))) := by
  cases hi : ens.findIdx? (·.key.isStr name) with
  | some i =>
    refine ⟨ens.modify i fun e => { e with val := v }, n, by simp only [Obj.putName_eq, Obj.putNameByArray, hi], hk.modify _ _, by simpa using Nat.le_succ_of_le hz, fun x => ?_⟩
    have := findBy_modify (fun n v => v.isStr n) Value.isStr_inj ens name x v i hi
    unfold nsFind
    rw [this]
    unfold upd
    split
    · rfl
    · exact hm x
  | none =>
    refine ⟨ens.push ⟨hash, .str name t, v⟩, n + 1, by simp only [Obj.putName_eq, Obj.putNameByArray, hi], hk.push _ _ _ _, by simpa using hz, fun x => ?_⟩
    have := findBy_push (fun n v => v.isStr n) ens name x hash (.str name t) v (fun y => by
      show (name == y) = decide (y = name)
      by_cases h : y = name
      · subst h; simp
      · have : ¬ name = y := fun e => h e.symm
        simp [h, this]) hi
    unfold nsFind
    rw [this]
    unfold upd
    split
    · rfl
    · exact hm x
theorem ns_live {o : Obj} {k : Nat} {m : Loc} (h : OIs o (.ns k m)) : o.isFreed = false := by obtain ⟨_, _, rfl, _⟩ := h; rfl
theorem ns_past {o : Obj} {k : Nat} {m : Loc} (h : OIs o (.ns k m)) (hk : k ≤ 2000) : o.data.pastItsLine = none := by
  obtain ⟨ens, _, rfl, _, hz, _⟩ := h
  exact pastItsLine_dict (by rw [sizeLine_eq]; omega)
theorem Rel.write {s : Shared} {a : Addr} {ao ao' : AObj} {f : Obj → Obj} {o : Obj} {k : Nat} (R : Rel B σ s) (e : σ.m a = some ao) (ho : s.heap.get? a = some o) (h : OIs (f o) ao') (hf : (f o).isFreed = false) :
    Rel B (σ.put a ao') { s with heap := s.heap.update a f, toks := k } ∧ Step σ s (σ.put a ao') { s with heap := s.heap.update a f, toks := k } := by
  have hs : Heap.SameBut a s.heap (s.heap.update a f) := .update ..
  have h0 := (R.own a ao e).1
  refine ⟨⟨fun b ob eb => (hs.2 b (by rintro rfl; rw [h0] at eb; cases eb)).trans (R.base b ob eb), fun b ab' eb => ?_, R.gens, R.low.1, fun b hb => ?_⟩, ⟨fun b ob eb hb => (hs.2 b (by rintro rfl; rw [e] at hb; cases hb)).trans eb, fun b hb => ?_, rfl⟩⟩
  · by_cases q : b = a
    · subst q; rw [put_same] at eb; cases eb; exact ⟨h0, _, Heap.get?_update_self f ho hf, h⟩
    · rw [put_other q] at eb; obtain ⟨x, o, ho, y⟩ := R.own b ab' eb; exact ⟨x, o, (hs.2 b q).trans ho, y⟩
  · by_cases q : b = a
    · subst q; exact R.low.2 b (by rw [e]; exact nofun)
    · rw [put_other q] at hb; exact R.low.2 b hb
  · by_cases q : b = a
    · subst q; left; rw [e]; exact nofun
    · rw [put_other q] at hb; exact .inl hb
theorem osa_run (O : B.Ok) {s : Shared} {a C dx : Addr} {ao : AObj} {k : Nat} {m : Loc} {name : Str} {va : Value} {tk : Tok} {P : Shared → Prop} (R : Rel B σ s) (e : σ.m a = some ao) (e2 : σ.m dx = some (.ns k m))
    (hz : k ≤ 1000) (hc : ao.cls = some (.ref C)) (hd : ao.dx = some dx) (hs : satOk B.K C name = true)
    (h : ∀ s', Rel B (σ.put dx (.ns (k + 1) (upd m name (ab va)))) s' → Step σ s (σ.put dx (.ns (k + 1) (upd m name (ab va)))) s' → P s') :
    codeAny (model B.prog B.w) A (.call (.builtin "object.__setattr__") ⟨[.ref a, .str name tk, va], []⟩) (fun r s' => match r with | .ok (.ret _) => P s' | .ok _ => False | .error _ => False) s := by
  have X := R.kin O
  obtain ⟨ox, od, I, hl⟩ := inst_at R e hc hd e2
  unfold satOk at hs
  obtain ⟨cd, hcd, hs⟩ := any_some hs
  simp only [Bool.and_eq_true] at hs
  obtain ⟨⟨⟨⟨⟨q1, q2⟩, q3⟩, q4⟩, q5⟩, q6⟩ := hs
  have q2' : cd.mro.isEmpty = false := by simpa using q2
  have SF := PySem.F.store_object
  have sub : Looks (model B.prog B.w) s.heap (isInstance (.ref a) (.type "object")) true := I.type.andThen (looks_mroIn X (by unfold mroIn; rw [hcd, Option.bind_some, if_neg (by rw [q2']; decide), q3]))
  refine codeAny_call_builtin SF.slot.plain SF.entry (@check_slot (model B.prog B.w) _ _ s "object.__setattr__" "object" "__setattr__" (.ref a) [.str name tk, va] [] _ SF.kind SF.split sub (SF.args (.ref a) (.str name tk) va) ?_)
  obtain ⟨attr, ha, hr⟩ := Option.bind_eq_some_iff.mp (beq_iff_eq.mp q4)
  have hm : Looks (model B.prog B.w) s.heap (mroOf (.ref C)) cd.mro := (looks_clsIn X hcd).andThen .now
  have L3 : Looks (model B.prog B.w) s.heap (Builtin.ObjectAttr.storeTaker? attr) none := by
    cases attr with
    | none => exact .now
    | some a =>
      obtain ⟨b, hb, hbb⟩ := Option.map_eq_some_iff.mp hr
      refine (looks_takesIn X hb).andThen ?_
      cases b
      · exact .now
      · cases hbb
  have ref : refuseLoop (.ref a) "__setattr__" cd.mro = pure () := by
    rcases Bool.or_eq_true_iff.mp q6 with q | q
    · exact refuse_only _ q
    · rw [beq_iff_eq.mp q, refuseLoop_ref]; exact refuse_list _
  rw [osa_eq, refuse_eq]
  refine wpAny_bind (wpAny_bind (I.type.here (wpAny_bind (hm.here ?_))))
  rw [ref]
  refine wpAny_pure (wpAny_bind (I.type.here (wpAny_bind ((looks_findIn X ha).here (wpAny_bind (L3.here ?_))))))
  obtain ⟨o, ho, h1, h2, h3, h4, _⟩ := obj_at R e hc
  obtain ⟨hx, hcl, hn, hdd⟩ := I
  rw [hx] at ho
  cases ho
  obtain ⟨ens, n, hxx, hk', hzz, hmm⟩ := ns_at R e2
  obtain ⟨oc, odi, oda, osl⟩ := ox
  dsimp only at hcl h3
  subst hcl
  rw [hd] at h3
  subst h3
  refine wpAny_bind (wpAny_pure (wpAny_bind (wpAny_bind (wpAny_loadPart hx (wpAny_bind ((looks_clsIn X hcd).here ?_))))))
  rw [q1]
  refine wpAny_pure (a := some dx) (wpAny_bind (wpAny_pure (wpAny_bind ?_)))
  unfold nsSet
  refine wpAny_bind (wpAny_bind (wpAny_askSetting (wpAny_pure (wpAny_bind (wpAny_mkText (wpAny_bind (wpAny_loadPart hxx ?_)))))))
  dsimp only
  have c : (!ens.any (·.key.isStr name) && ens.any (·.refKey)) = false := by
    have : ens.any (·.refKey) = false := by
      rw [Array.any_eq_false']; intro e he; obtain ⟨n, t, h⟩ := hk' e he; simp [DictEntry.refKey, h]
    rw [this, Bool.and_false]
  rw [aRefKeyMayBeTheName_at, c]
  have key : ∀ hsh tk', OIs (Obj.putName name hsh (.str name tk') va ⟨.type "dict", none, .dict ens n, #[]⟩) (.ns (k + 1) (upd m name (ab va))) := fun hsh tk' => put_ns hk' hzz hmm
  have W := fun hsh tk' k' => R.write (k := k') (f := Obj.putName name hsh (.str name tk') va) e2 hxx (key hsh tk') (ns_live (key hsh tk'))
  have live : ∀ hsh tk', ((s.heap.update dx (Obj.putName name hsh (.str name tk') va)).get? dx) = some (Obj.putName name hsh (.str name tk') va ⟨.type "dict", none, .dict ens n, #[]⟩) := fun hsh tk' => Heap.get?_update_self _ hxx (ns_live (key hsh tk'))
  refine wpAny_updatePart hxx ?_
  refine wpAny_bind (wpAny_lookBehind (live _ _) ?_ ?_)
  · exact ns_past (key _ _) (by omega)
  · exact wpAny_pure (h _ (W _ _ _).1 (W _ _ _).2)
theorem sat_own (O : B.Ok) {a C dx : Addr} {ao : AObj} {k : Nat} {m : Loc} {name : Str} {v : AV} {Q : St → Prop} (e : σ.m a = some ao) (e2 : σ.m dx = some (.ns k m)) (h : Q (σ.put dx (.ns (k + 1) (upd m name v))))
    (hz : k ≤ 1000) (hc : ao.cls = some (.ref C) := by rfl) (hd : ao.dx = some dx := by rfl) (hs : satOk B.K C name = true := by rfl) : Sat B A (.ref a) name v σ Q := fun oa va hoa hva s R => by
  obtain rfl := ab_ref hoa
  subst hva
  obtain ⟨ox, od, I, hl⟩ := inst_at R e hc hd e2
  have hs' := hs
  unfold satOk at hs'
  obtain ⟨cd, hcd, hs'⟩ := any_some hs'
  simp only [Bool.and_eq_true] at hs'
  obtain ⟨⟨⟨⟨⟨q1, q2⟩, q3⟩, q4⟩, q5⟩, q6⟩ := hs'
  exact set_plain (R.kin O) I (beq_iff_eq.mp q5) (osa_run O R.tok e e2 hz hc hd hs fun s' R' S => ⟨_, R', ⟨S.kept, S.grow, S.os⟩, h⟩)

end Mine
set_option maxHeartbeats 200000
namespace Mine
variable {B : Bs} {A : Around} {L : Addr} {α β : Type} {σ : St} {ℓ : Loc}

/-- room for n calls one in another -/
structure Lo (n : Nat) (A : Around) : Prop where
  hh : A.handled = none
  depth : A.depth + n ≤ 900
  units : A.units + 30 * n ≤ 9000
theorem Lo.mono {n m : Nat} (h : Lo n A) (e : m ≤ n) : Lo m A := ⟨h.hh, by have := h.depth; omega, by have := h.units; omega⟩
theorem Lo.deeper {n : Nat} {env : Env} (h : Lo (n + 1) A) : Lo n (A.deeper env) := ⟨h.hh, by have := h.depth; show A.depth + 1 + n ≤ 900; omega, by have := h.units; show A.units + 3 + 30 * n ≤ 9000; omega⟩
theorem Lo.in1 {n : Nat} (h : Lo (n + 1) A) : Lo n A.in1 := ⟨h.hh, by have := h.depth; show A.depth + n ≤ 900; omega, by have := h.units; show A.units + 1 + 30 * n ≤ 9000; omega⟩
theorem Lo.room {n : Nat} (h : Lo n A) : A.depth < recursionLimit := by have := h.depth; show _ < 1000; omega
theorem Lo.line {n : Nat} (h : Lo n A) : A.units < cLine := by have := h.units; show _ < 9900; omega
theorem Lo.make {n : Nat} {C : Addr} {rest : List Value} {kw : List (Str × Value)} (h : Lo (n + 1) A) : Lo n (A.under (.builtin "type.__call__" ⟨.ref C :: rest, kw⟩)) := by
  refine ⟨h.hh, ?_, ?_⟩
  · have := h.depth
    have e : (Code.builtin "type.__call__" ⟨.ref C :: rest, kw⟩).weight = 1 := by unfold Code.weight; rfl
    show A.depth + (Code.builtin "type.__call__" ⟨.ref C :: rest, kw⟩).weight + n ≤ 900
    rw [e]; omega
  · have := h.units
    have e : (Code.builtin "type.__call__" ⟨.ref C :: rest, kw⟩).cUnits = 1 := by rfl
    show A.units + (Code.builtin "type.__call__" ⟨.ref C :: rest, kw⟩).cUnits + 30 * n ≤ 9000
    rw [e]; omega

/-- a call -/
def Callf (B : Bs) (A : Around) (f : AV) (args : List AV) (σ : St) (Q : AV → St → Prop) : Prop := ∀ fv vs, ab fv = f → vs.map ab = args → T0 B A (call fv vs []) σ fun v => Q (ab v)
theorem Callf.mono {f : AV} {args : List AV} {Q Q' : AV → St → Prop} (h : Callf B A f args σ Q) (k : ∀ v σ', Q v σ' → Q' v σ') : Callf B A f args σ Q' := fun fv vs e1 e2 => T0.mono (h fv vs e1 e2) fun _ _ => k _ _

theorem frm_cons (k : Str) (ks : List Str) (v : Option AV) (vs : List (Option AV)) (x : Str) : frm (k :: ks) (v :: vs) x = if x = k then v else frm ks vs x := by
  unfold frm
  by_cases h : x = k
  · subst h
    rw [if_pos rfl, List.idxOf?_cons, if_pos (beq_self_eq_true x)]
    rfl
  · have : (k == x) = false := by simpa using fun e => h e.symm
    rw [if_neg h, List.idxOf?_cons, this, if_neg (by decide)]
    cases e : List.idxOf? x ks <;> rfl
theorem frm_none (ks : List Str) (x : Str) : frm ks (List.replicate ks.length none) x = none := by
  induction ks with
  | nil => rfl
  | cons k ks ih => rw [List.length_cons, List.replicate_succ, frm_cons, ih]; split <;> rfl
theorem lookup_rev {binds : List (Str × Value)} (h : (binds.map (·.1)).Nodup) (x : Str) : binds.reverse.lookup x = binds.lookup x := by
  induction binds with
  | nil => rfl
  | cons p r ih =>
    obtain ⟨k, v⟩ := p
    rw [List.map_cons, List.nodup_cons] at h
    rw [List.reverse_cons, List.lookup_append, ih h.2, List.lookup_cons, List.lookup_cons]
    by_cases hx : (x == k) = true
    · have : r.lookup x = none := by
        rw [List.lookup_eq_none_iff]
        intro p hp
        rw [beq_iff_eq.mp hx]
        have q : k ≠ p.1 := fun e => h.1 (List.mem_map.mpr ⟨p, hp, e.symm⟩)
        simpa using q
      rw [this, hx]; rfl
    · rw [Bool.not_eq_true] at hx; rw [hx]
      cases r.lookup x <;> rfl
theorem frm_binds {binds : List (Str × Value)} (rest : List Str) (h : (binds.map (·.1)).Nodup) (x : Str) : (binds.reverse.lookup x).map ab = frm (binds.map (·.1) ++ rest) (binds.map (fun p => some (ab p.2)) ++ List.replicate rest.length none) x := by
  rw [lookup_rev h]
  clear h
  induction binds with
  | nil => rw [List.map_nil, List.map_nil, List.nil_append, List.nil_append, frm_none]; rfl
  | cons p r ih =>
    obtain ⟨k, v⟩ := p
    rw [List.map_cons, List.map_cons, List.cons_append, List.cons_append, frm_cons, List.lookup_cons]
    by_cases hx : x = k
    · subst hx; simp
    · have : (x == k) = false := by simpa using hx
      rw [this, if_neg hx]; exact ih

theorem Rel.size_free {s : Shared} (R : Rel B σ s) : B.h0.get? s.heap.objs.size = none ∧ σ.m s.heap.objs.size = none ∧ s.heap.get? s.heap.objs.size = none := by
  have hn : s.heap.get? s.heap.objs.size = none := by
    cases e : s.heap.get? s.heap.objs.size with
    | none => rfl
    | some o => exact absurd (Heap.lt_size e) (Nat.lt_irrefl _)
  refine ⟨?_, ?_, hn⟩
  · cases e : B.h0.get? s.heap.objs.size with
    | none => rfl
    | some o => have := R.base _ _ e; rw [hn] at this; cases this
  · cases e : σ.m s.heap.objs.size with
    | none => rfl
    | some ao => obtain ⟨_, o, ho, _⟩ := R.own _ _ e; rw [hn] at ho; cases ho

/-- codes and built-in trees -/
def Rr (B : Bs) (σ : St) (s : Shared) (Q : AV → St → Prop) (r : Result) (s' : Shared) : Prop := ∃ v σ', r = .ok (.ret v) ∧ Rel B σ' s' ∧ Step σ s σ' s' ∧ Q (ab v) σ'
def Cb (B : Bs) (A : Around) (c : Code) (σ : St) (Q : AV → St → Prop) : Prop := ∀ s, Rel B σ s → codeAny (model B.prog B.w) A c (Rr B σ s Q) s
/-- a call, as code -/
def Cc (B : Bs) (A : Around) (f : AV) (args : List AV) (σ : St) (Q : AV → St → Prop) : Prop := ∀ fv vs, ab fv = f → vs.map ab = args → Cb B A (.call fv ⟨vs, []⟩) σ Q
theorem Cc.callf {f : AV} {args : List AV} {Q : AV → St → Prop} (h : Cc B A f args σ Q) : Callf B A f args σ Q := fun fv vs hf hvs s R =>
  wpAny_call (codeAny_mono (h fv vs hf hvs s R) (by rintro r s' ⟨v, σ', rfl, a, b, c⟩; exact ⟨σ', a, b, c⟩))
def retOf : AF → AV
  | .ret v => v | _ => .none
/-- a def of the text, called -/
theorem fn_code (O : B.Ok) {k n : Nat} {f : Addr} {oc : Value} {od : Option Addr} {osl : Array (Option Value)} {fd : FuncData} {body : List Stmt} {ps : List Str} {ds : List (Str × Value)} {rest : List Str} {args : List AV} {Q : AV → St → Prop}
    (lo : Lo (k + 1) A) (hK : B.K.lookup f = some ⟨oc, od, .func fd, osl⟩) (hbody : fd.body = .stmts body) (hcd : codeIn B.K fd.code fd.qualname = true)
    (hb : ∀ (s : Shared) (g : Nat → Value), B.K.In s.heap → BindsTo s fd ⟨(List.range n).map g, []⟩ (ps.zip ((List.range n).map g) ++ ds))
    (hargs : args.length = n) (hps : ps.length = n) (hnd : (ps ++ ds.map (·.1)).Nodup)
    (hloc : ((ps ++ ds.map (·.1)).all fun x => decide (fd.scope.names.lookup x = some .local)) = true) (hcell : (fd.scope.names.all fun x => x.2 != .cell) = true)
    (h : ∀ L, σ.m L = none → Ts B (A.deeper (callEnv fd L f)) (callEnv fd L f) body (frm (ps ++ ds.map (·.1) ++ rest) (args.map some ++ ds.map (fun p => some (ab p.2)) ++ List.replicate rest.length none)) σ fun fl _ σ' => Q (retOf fl) σ')
    (hco : fd.scope.isCoroutine = false := by rfl) (hgen : fd.scope.isGenerator = false := by rfl) (hk : fd.scope.kind = .function := by rfl) : Cc B A (.ref f) args σ Q := fun fv vs hf hvs s R => by
  obtain rfl := ab_ref hf
  have hlen : vs.length = n := by rw [← hargs, ← hvs, List.length_map]
  have hg : (List.range n).map (fun i => vs.getD i .none) = vs := by
    apply List.ext_getElem
    · simp [hlen]
    · intro i h1 h2; simp [List.getD, h2]
  have X := R.kin O
  obtain ⟨mg, mb, _, _, hlim, _⟩ := O.top
  have hbs := hb s (fun i => vs.getD i .none) X
  rw [hg] at hbs
  have hm1 : (ps.zip vs ++ ds).map (·.1) = ps ++ ds.map (·.1) := by
    rw [List.map_append]
    congr 1
    exact List.map_fst_zip (by omega)
  have hm2 : (ps.zip vs ++ ds).map (fun p => some (ab p.2)) = args.map some ++ ds.map (fun p => some (ab p.2)) := by
    rw [List.map_append]
    congr 1
    have q : (ps.zip vs).map (fun p => some (ab p.2)) = ((ps.zip vs).map (·.2)).map fun v => some (ab v) := by rw [List.map_map]; rfl
    rw [q, List.map_snd_zip (by omega), ← hvs, List.map_map]; rfl
  refine codeAny_call_def (binds := ps.zip vs ++ ds) lo.room (X _ _ hK) rfl (hlim.keeps R.base) (codeRec_of X hcd) hbody hbs (fun x hx => by simpa using List.all_eq_true.mp hcell x hx)
    (fun x hx => by
      have : x.1 ∈ ps ++ ds.map (·.1) := hm1 ▸ List.mem_map_of_mem hx
      simpa using List.all_eq_true.mp hloc _ this) (fun h₁ hns hk₁ => ?_) hco hgen hk
  obtain ⟨z1, z2, z3⟩ := R.size_free
  generalize hs1 : ({ s with heap := h₁, toks := s.toks + (ps.zip vs ++ ds).length } : Shared) = s₁
  have e1 : s₁.heap = h₁ := by rw [← hs1]
  have R1 : Rel B σ s₁ := ⟨fun b o e => by rw [e1]; exact hk₁ b o (R.base b o e), fun b ao e => let ⟨x, o, ho, y⟩ := R.own b ao e; ⟨x, o, by rw [e1]; exact hk₁ b o ho, y⟩, by rw [← hs1]; exact R.gens, R.low⟩
  have F1 : FrIs B s.heap.objs.size (frm (ps ++ ds.map (·.1) ++ rest) (args.map some ++ ds.map (fun p => some (ab p.2)) ++ List.replicate rest.length none)) σ s₁.heap := by
    refine ⟨z1, z2, _, e1 ▸ hns, fun x => ?_⟩
    rw [frm_binds rest (by rw [hm1]; exact hnd), hm1, hm2]
  refine wpAny_mono (h s.heap.objs.size z2 s₁ R1 F1) (fun fl s' ⟨ℓ', σ', R', _, S, q⟩ => ?_) fun _ _ x => x.elim
  refine ⟨_, σ', rfl, R', ⟨fun b o e hb => S.kept b o (by rw [e1]; exact hk₁ b o e) hb (by intro q; rw [show b = s.heap.objs.size from q, z3] at e; cases e), fun b hb => ?_, by rw [S.os, ← hs1]⟩, ?_⟩
  · rcases S.grow b hb with x | x
    · exact .inl x
    · right
      cases e : s.heap.get? b with
      | none => rfl
      | some o => rw [e1, hk₁ b o e] at x; cases x
  · cases fl <;> exact q

theorem call_fn (O : B.Ok) {k n : Nat} {f : Addr} {oc : Value} {od : Option Addr} {osl : Array (Option Value)} {fd : FuncData} {body : List Stmt} {ps : List Str} {ds : List (Str × Value)} {rest : List Str} {args : List AV} {Q : AV → St → Prop}
    (lo : Lo (k + 1) A) (hK : B.K.lookup f = some ⟨oc, od, .func fd, osl⟩) (hbody : fd.body = .stmts body) (hcd : codeIn B.K fd.code fd.qualname = true)
    (hb : ∀ (s : Shared) (g : Nat → Value), B.K.In s.heap → BindsTo s fd ⟨(List.range n).map g, []⟩ (ps.zip ((List.range n).map g) ++ ds))
    (hargs : args.length = n) (hps : ps.length = n) (hnd : (ps ++ ds.map (·.1)).Nodup)
    (hloc : ((ps ++ ds.map (·.1)).all fun x => decide (fd.scope.names.lookup x = some .local)) = true) (hcell : (fd.scope.names.all fun x => x.2 != .cell) = true)
    (h : ∀ L, σ.m L = none → Ts B (A.deeper (callEnv fd L f)) (callEnv fd L f) body (frm (ps ++ ds.map (·.1) ++ rest) (args.map some ++ ds.map (fun p => some (ab p.2)) ++ List.replicate rest.length none)) σ fun fl _ σ' => Q (retOf fl) σ')
    (hco : fd.scope.isCoroutine = false := by rfl) (hgen : fd.scope.isGenerator = false := by rfl) (hk : fd.scope.kind = .function := by rfl) : Callf B A (.ref f) args σ Q :=
  (fn_code O lo hK hbody hcd hb hargs hps hnd hloc hcell h hco hgen hk).callf
/-- who keeps the callee: nothing is seen of it here -/
def Kee (B : Bs) (A : Around) (f : AV) (σ : St) : Prop := ∀ fv, ab fv = f → T0 B A (keeperOf fv) σ fun _ σ' => σ' = σ
theorem kee_bi {n : String} : Kee B A (.bi n) σ := fun fv h => by obtain rfl := ab_bi h; exact T0.pure rfl
theorem kee_ty {n : String} : Kee B A (.ty n) σ := fun fv h => by obtain rfl := ab_ty h; exact T0.pure rfl
theorem kee_fn (O : B.Ok) {f : Addr} {oc : Value} {od : Option Addr} {osl : Array (Option Value)} {fd : FuncData} (hK : B.K.lookup f = some ⟨oc, od, .func fd, osl⟩) : Kee B A (.ref f) σ := fun fv h s R => by
  obtain rfl := ab_ref h
  exact wpAny_bind (wpAny_load (R.kin O _ _ hK) (wpAny_pure ⟨σ, R, .refl .., rfl⟩))
theorem kee_cls (O : B.Ok) {C : Addr} {oc : Value} {od : Option Addr} {osl : Array (Option Value)} {cd : ClassData} {r : Option Value} (hK : B.K.lookup C = some ⟨oc, od, .cls cd, osl⟩) (hs : specialIn B.K (.ref C) "__call__" = some r) : Kee B A (.ref C) σ := fun fv h s R => by
  obtain rfl := ab_ref h
  exact wpAny_bind (wpAny_load (R.kin O _ _ hK) (wpAny_bind ((looks_specialIn (R.kin O) hs).here (wpAny_pure ⟨σ, R, .refl .., rfl⟩))))
theorem kee_inst {a C dx : Addr} (e : σ.m a = some (.inst C dx)) : Kee B A (.ref a) σ := fun fv h s R => by
  obtain rfl := ab_ref h
  obtain ⟨_, o, ho, rfl⟩ := R.own _ _ e
  exact wpAny_bind (wpAny_load ho (wpAny_pure ⟨σ, R, .refl .., rfl⟩))

theorem T0.keep {t : Sem α} {vs : List Value} {Q : α → St → Prop} (h : T0 B A t σ Q) : T0 B A (t.keep vs) σ Q := fun s R Γ p hΓ => by
  rw [Sem.wp_keep]; exact h s R Γ p hΓ
def noStar : List PySem.Expr → Bool
  | [] => true
  | .Starred .. :: _ => false
  | _ :: r => noStar r
theorem starEach_of {env : Env} {e : PySem.Expr} {es : List PySem.Expr} (h : noStar (e :: es) = true) : starEach (e :: es) env = (false, eval e env) :: starEach es env ∧ noStar es = true := by
  cases e <;> first | exact ⟨rfl, h⟩ | cases h
theorem tEvalArgs {env : Env} {f : Value} {pos : Pos} {args : List PySem.Expr} {Q : List AV → St → Prop} (hn : noStar args = true) (h : Tes B A env pos args ℓ σ Q) :
    T B A env.locals (evalArgs f true (backTo pos (starEach args env)) []) ℓ σ fun a ℓ' σ' => ℓ' = ℓ ∧ ∃ vs, a = ⟨vs, []⟩ ∧ Q (vs.map ab) σ' := by
  have key : ∀ trees : List (Bool × Sem Value), evalArgs f true trees [] = (match trees with | [(true, x)] => evalArgs f true [(true, x)] [] | _ => spliced trees >>= fun vs => holding (vs ++ []) (Pure.pure (⟨vs, []⟩ : Args))) → (∀ x, trees ≠ [(true, x)]) →
      T B A env.locals (spliced trees) ℓ σ (fun vs ℓ' σ' => ℓ' = ℓ ∧ Q (vs.map ab) σ') → T B A env.locals (evalArgs f true trees []) ℓ σ fun a ℓ' σ' => ℓ' = ℓ ∧ ∃ vs, a = ⟨vs, []⟩ ∧ Q (vs.map ab) σ' := by
    intro trees e hne h
    rw [e]
    split
    · exact absurd rfl (hne _)
    · refine T.bind (T.mono h ?_)
      rintro vs ℓ' σ' ⟨rfl, h'⟩
      exact T.holding (T.pure ⟨rfl, vs, rfl, h'⟩)
  refine key _ ?_ ?_ h
  · cases args with
    | nil => rfl
    | cons e es => rw [(starEach_of hn).1]; rfl
  · intro x
    cases args with
    | nil => exact nofun
    | cons e es =>
      rw [(starEach_of hn).1]
      show (false, eval e env) :: backTo pos (starEach es env) ≠ _
      intro q; injection q with q1 q2; injection q1 with q1 q2; cases q1
theorem any_false {env : Env} {pos : Pos} : ∀ {args : List PySem.Expr}, noStar args = true → (backTo pos (starEach args env)).any (·.1) = false
  | [], _ => rfl
  | e :: es, h => by
    rw [(starEach_of (env := env) h).1]
    show (false || (backTo pos (starEach es env)).any (·.1)) = false
    rw [any_false (starEach_of (env := env) h).2]; rfl
theorem tCallWith {env : Env} {cpos pos : Pos} {fv : Value} {first : List Value} {args : List PySem.Expr} {Q : AV → St → Prop} (hn : noStar args = true)
    (h : Tes B A env pos args ℓ σ fun vs σ' => Kee B A (ab fv) σ' ∧ Callf B A (ab fv) (first.map ab ++ vs) σ' Q) :
    T B A env.locals (callWith cpos fv first (backTo pos (starEach args env)) []) ℓ σ fun v ℓ' σ' => ℓ' = ℓ ∧ Q (ab v) σ' := by
  unfold callWith
  refine T.bind (T.holding (T.mono (tEvalArgs hn h) ?_))
  rintro a ℓ' σ' ⟨rfl, vs, rfl, hk, hc⟩
  refine T.bind (T.standAt ?_)
  have hs : ((backTo pos (starEach args env)).any (·.1) || ([] : List (Option Str × Sem Value)).any (·.1.isNone)) = false := by rw [any_false hn]; rfl
  have C : T0 B A (call fv (first ++ vs) []) σ' fun v => Q (ab v) := hc fv (first ++ vs) rfl (by rw [List.map_append])
  dsimp only
  rw [hs]
  refine T.bind (T.of0 (T0.mono (hk fv rfl) ?_))
  rintro kp σ₂ rfl
  have fin : ∀ r σ₃, Q (ab r) σ₃ → T B A env.locals (holding [r] point >>= fun _ => pure r) ℓ' σ₃ fun v ℓ₃ σ' => ℓ₃ = ℓ' ∧ Q (ab v) σ' := fun r σ₃ q => T.bind (T.of0 (T0.holding (T0.point (σ := σ₃) (T.pure ⟨rfl, q⟩))))
  cases kp with
  | frame =>
    dsimp only
    split
    · exact T.bind (T.of0 (T0.mono C fun r σ₃ q => fin r σ₃ q))
    · exact T.bind (T.of0 (T0.mono (T0.keep C) fun r σ₃ q => fin r σ₃ q))
  | boundFrame =>
    dsimp only
    split
    · exact T.bind (T.of0 (T0.mono C fun r σ₃ q => fin r σ₃ q))
    · exact T.bind (T.of0 (T0.mono (T0.keep C) fun r σ₃ q => fin r σ₃ q))
  | machine => exact T.bind (T.of0 (T0.mono C fun r σ₃ q => fin r σ₃ q))
  | caller => exact T.bind (T.of0 (T0.mono (T0.operate C) fun r σ₃ q => fin r σ₃ q))

def notAttr : PySem.Expr → Bool
  | .Attribute .. => false
  | _ => true
section
variable {env : Env} {Q : AV → St → Prop} {pos : Pos}
theorem e_call {f : PySem.Expr} {args : List PySem.Expr} (h : Te B A env f ℓ σ fun fv σ₁ => Tes B A env pos args ℓ σ₁ fun vs σ₂ => Kee B A fv σ₂ ∧ Callf B A fv vs σ₂ Q) (ha : notAttr f = true := by rfl) (hn : noStar args = true := by rfl) :
    Te B A env (.Call f args [] pos) ℓ σ Q := by
  have e : eval (.Call f args [] pos) env = (do callWith pos (← eval f env) [] (backTo pos (starEach args env)) (backToKw pos (keywordEach [] env))) := by
    cases f <;> first | rfl | cases ha
  show T _ _ _ (eval _ _) _ _ _
  rw [e]
  refine T.bind (T.mono h ?_)
  rintro fv ℓ' σ' ⟨rfl, h'⟩
  exact tCallWith hn h'
def noSuper : PySem.Expr → Bool
  | .Call (.Name _ _) [] [] _ => false
  | _ => true
theorem base_of {o : PySem.Expr} {name : Str} {whole : Sem Value} (h : noSuper o = true) : attributeBase o name env whole = whole := by
  unfold attributeBase
  split
  · cases h
  · rfl
theorem e_attr {o : PySem.Expr} {name : Str} (h : Te B A env o ℓ σ fun ov σ₁ => Att B A ov name true σ₁ Q) (ho : noSuper o = true := by rfl) : Te B A env (.Attribute o name pos) ℓ σ Q := by
  show T _ _ _ (attributeBase o name env (eval o env) >>= fun o' => standAt pos.atName >>= fun _ => holding [o'] (getAttr o' name true) >>= fun r => letTemporaryGo o o' r >>= fun _ => pure r) _ _ _
  rw [base_of ho]
  refine T.bind (T.mono h ?_)
  rintro ov ℓ' σ' ⟨rfl, h'⟩
  refine T.bind (T.standAt (T.bind (T.holding (T.of0 (T0.mono (h' ov rfl) fun r σ₂ q => ?_)))))
  exact T.bind (T.of0 fun s R => wpAny_letTemporaryGo ⟨σ₂, R, .refl .., T.pure ⟨rfl, q⟩⟩)
theorem e_meth {o : PySem.Expr} {name : Str} {apos : Pos} {args : List PySem.Expr} (h : Te B A env o ℓ σ fun ov σ₁ => ∀ pl, Meth B A ov name pl σ₁ fun f first σ₂ => Tes B A env pos args ℓ σ₂ fun vs σ₃ => Kee B A f σ₃ ∧ Callf B A f (first ++ vs) σ₃ Q)
    (ho : noSuper o = true := by rfl) (hn : noStar args = true := by rfl) (hfew : decide (args.length < 30) = true := by rfl) (hline : (apos.endLine == pos.line) = true := by rfl) : Te B A env (.Call (.Attribute o name apos) args [] pos) ℓ σ Q := by
  show T _ _ _ (attributeBase o name env (eval o env) >>= fun ov => standAt apos.atName >>= fun _ => methodCall o name apos pos env ov (args.length + 0) (backTo pos (starEach args env)) []) _ _ _
  rw [base_of ho]
  refine T.bind (T.mono h ?_)
  rintro ov ℓ' σ' ⟨rfl, h'⟩
  refine T.bind (T.standAt ?_)
  unfold methodCall
  have few : methodCallForm (args.length + 0) (backTo pos (starEach args env)) [] = true := by
    unfold methodCallForm
    have h1 : (backTo pos (starEach args env)).all (!·.1) = true := by
      have := any_false (env := env) (pos := pos) hn
      rw [List.all_eq_true]; intro x hx
      have := List.any_eq_false.mp this x hx
      simpa using this
    rw [h1]
    have := of_decide_eq_true hfew
    simp; omega
  rw [few]
  unfold calleeOf
  refine T.bind (T.holding (T.of0 (T0.mono (h' _ ov rfl) ?_)))
  rintro ⟨f, first⟩ σ₂ q
  have mp : methodCallPos true o env apos pos = pure pos := by
    unfold methodCallPos
    rw [hline]; rfl
  dsimp only
  rw [mp]
  exact T.bind (T.pure (tCallWith hn q))
end
end Mine
set_option maxHeartbeats 200000
namespace Mine
variable {B : Bs} {A : Around} {L : Addr} {α β : Type} {σ : St} {ℓ : Loc}

def Tf (B : Bs) (A : Around) (t : Sem Fin) (σ : St) (Q : AV → St → Prop) : Prop := ∀ s, Rel B σ s → wpAny (model B.prog B.w) A.in1 t (fun fin s' => match fin with | .done f => Rr B σ s Q (.ok f) s' | .again c' => c'.quiet = true ∧ codeAny (model B.prog B.w) A c' (Rr B σ s Q) s') (fun _ _ => False) s
theorem Rr.trans {σ' : St} {s s' : Shared} {Q : AV → St → Prop} (x : Step σ s σ' s') {r : Result} {s'' : Shared} (h : Rr B σ' s' Q r s'') : Rr B σ s Q r s'' := let ⟨v, σ₂, a, b, c, d⟩ := h; ⟨v, σ₂, a, b, x.trans c, d⟩
theorem Tf.bind {m : Sem α} {f : α → Sem Fin} {Q : AV → St → Prop} (h : T0 B A.in1 m σ fun a σ' => Tf B A (f a) σ' Q) : Tf B A (m >>= f) σ Q := fun s R =>
  wpAny_bind (wpAny_mono (h s R) (fun a s' ⟨σ', R', S, q⟩ => wpAny_mono (q s' R') (fun fin s'' z => by
    cases fin with
    | done f => exact Rr.trans S z
    | again c => exact ⟨z.1, codeAny_mono z.2 fun _ _ y => Rr.trans S y⟩) fun _ _ x => x) fun _ _ x => x)
theorem Tf.ret {v : Value} {Q : AV → St → Prop} (h : Q (ab v) σ) : Tf B A (ret v) σ Q := fun s R => wpAny_pure ⟨v, σ, rfl, R, .refl .., h⟩
theorem Tf.retInt {i : Int} {Q : AV → St → Prop} (h : Q (.int i) σ) : Tf B A (retInt i) σ Q := fun s R => wpAny_bind (wpAny_mkInt (wpAny_pure ⟨_, σ, rfl, R.tok, .tok, h⟩))
theorem Tf.again {c : Code} {Q : AV → St → Prop} (hq : c.quiet = true) (h : Cb B A c σ Q) : Tf B A (again c) σ Q := fun s R => wpAny_pure ⟨hq, h s R⟩
theorem Cb.builtin {id : String} {args : Args} {b : Builtin} {Q : AV → St → Prop} (hp : plainId id = true) (hb : entryFor table id = some b) (h : Tf B A (b args) σ Q) : Cb B A (.builtin id args) σ Q := fun s R =>
  codeAny_builtin hb (by rw [Around.under_plainId hp]; exact wpAny_mono (h s R) (fun fin s' z => z) fun _ _ x => x.elim)
theorem Tf.againB {id : String} {args : Args} {b : Builtin} {Q : AV → St → Prop} (hp : plainId id = true) (hb : entryFor table id = some b) (h : Tf B A (b args) σ Q) : Tf B A (PySem.again (.builtin id args)) σ Q := .again (plainId_quiet hp _) (.builtin hp hb h)
theorem Cb.toT {c : Code} {Q : AV → St → Prop} (h : Cb B A c σ Q) : T0 B A (runValue c) σ fun v => Q (ab v) := fun s R =>
  wpAny_runValue (codeAny_mono (h s R) fun r s' ⟨v, σ', e, a, b, c⟩ => by subst e; exact ⟨σ', a, b, c⟩)
theorem call_builtin {id : String} {args : List AV} {b : Builtin} {Q : AV → St → Prop} (hp : plainId id = true) (hb : entryFor table id = some b) (h : ∀ vs, vs.map ab = args → T0 B A.in1 (checkBuiltinCall id ⟨vs, []⟩) σ (fun _ σ' => Tf B A (b ⟨vs, []⟩) σ' Q)) : Callf B A (.bi id) args σ Q := fun fv vs hf hvs s R => by
  obtain rfl := ab_bi hf
  refine wpAny_call (codeAny_mono (R := Rr B σ s Q) (codeAny_call_builtin hp hb ?_) fun r s' ⟨v, σ', e, a, b, c⟩ => by subst e; exact ⟨σ', a, b, c⟩)
  refine wpAny_mono (h vs hvs s R) (fun _ s' ⟨σ', R', S, q⟩ => ?_) fun _ _ x => x.elim
  refine wpAny_mono (q s' R') (fun fin s'' z => ?_) fun _ _ x => x.elim
  cases fin with
  | done f => exact Rr.trans S z
  | again c => exact ⟨z.1, codeAny_mono z.2 fun _ _ y => Rr.trans S y⟩

theorem isInst_at {s : Shared} {a : Addr} {ao : AObj} {c base : Value} {r : Bool} (O : B.Ok) (R : Rel B σ s) (e : σ.m a = some ao) (hc : ao.cls = some c) (hs : subIn B.K c base = some r) : Looks (model B.prog B.w) s.heap (isInstance (.ref a) base) r :=
  (type_at R e hc).andThen (looks_subIn (R.kin O) hs)
/-- the check ahead of a built-in's own text -/
theorem chk_free {id : String} {args : Args} {Q : Unit → St → Prop} (hk : builtinKind id = none) (ha : argsOk id args) (h : Q () σ) : T0 B A (checkBuiltinCall id args) σ Q := fun s R => by
  unfold checkBuiltinCall
  rw [hk]
  dsimp only
  unfold argsOk at ha
  cases hsig : Manifest.signature? id with
  | none => exact wpAny_pure ⟨σ, R, .refl .., h⟩
  | some sig =>
    rw [hsig] at ha
    have h2 : Bind.checkArgs id sig args = pure () := ha
    show wpAny _ _ (Bind.checkArgs id sig args) _ _ s
    rw [h2]; exact wpAny_pure ⟨σ, R, .refl .., h⟩
theorem chk_slot {id owner n : String} {a : Addr} {rest : List Value} {Q : Unit → St → Prop} (hk : builtinKind id = some .slot) (hs : splitId id = some (owner, n)) (hi : ∀ s, Rel B σ s → Looks (model B.prog B.w) s.heap (isInstance (.ref a) (.type owner)) true) (ha : argsOk id ⟨.ref a :: rest, []⟩)
    (h : Q () σ) : T0 B A (checkBuiltinCall id ⟨.ref a :: rest, []⟩) σ Q := fun s R => check_slot hk hs (hi s R) ha ⟨σ, R, .refl .., h⟩
theorem chk_meth {id owner n : String} {a : Addr} {rest : List Value} {Q : Unit → St → Prop} (hk : builtinKind id = some .method) (hs : splitId id = some (owner, n)) (hi : ∀ s, Rel B σ s → Looks (model B.prog B.w) s.heap (isInstance (.ref a) (.type owner)) true) (ha : argsOk id ⟨.ref a :: rest, []⟩)
    (h : Q () σ) : T0 B A (checkBuiltinCall id ⟨.ref a :: rest, []⟩) σ Q := fun s R => by
  simp only [checkBuiltinCall, hk, hs]
  refine wpAny_bind ((hi s R).here ?_)
  simp only [Bool.not_true, Bool.false_eq_true, if_false]
  unfold argsOk at ha
  cases hsig : Manifest.signature? id with
  | none => exact wpAny_pure ⟨σ, R, .refl .., h⟩
  | some sig =>
    rw [hsig] at ha
    have h2 : Bind.checkArgs id sig ⟨.ref a :: rest, []⟩ = pure () := ha
    show wpAny _ _ (Bind.checkArgs id sig ⟨.ref a :: rest, []⟩) _ _ s
    rw [h2]; exact wpAny_pure ⟨σ, R, .refl .., h⟩

/-- lists, and Domains -/
inductive IsSq : (List AV → AObj) → Value → Option Addr → Prop where
  | list : IsSq .list (.type "list") none
  | dom (C dx : Addr) : IsSq (.dom C dx) (.ref C) (some dx)
variable {mk : List AV → AObj} {c : Value} {dd : Option Addr}
theorem IsSq.cls (h : IsSq mk c dd) (xs : List AV) : (mk xs).cls = some c := by cases h <;> rfl
theorem IsSq.is (h : IsSq mk c dd) {vs : Array Value} {n : Nat} {xs : List AV} (e : vs.toList.map ab = xs) : OIs ⟨c, dd, .seq vs n, #[]⟩ (mk xs) := by
  cases h with
  | list => exact ⟨vs, n, rfl, e⟩
  | dom C dx => exact ⟨vs, n, rfl, e⟩
theorem sq_at {s : Shared} {a : Addr} {xs : List AV} (h : IsSq mk c dd) (R : Rel B σ s) (e : σ.m a = some (mk xs)) : ∃ vs n, s.heap.get? a = some ⟨c, dd, .seq vs n, #[]⟩ ∧ vs.toList.map ab = xs := by
  obtain ⟨_, o, ho, q⟩ := R.own a _ e
  cases h with
  | list => obtain ⟨vs, n, rfl, h⟩ := q; exact ⟨vs, n, ho, h⟩
  | dom C dx => obtain ⟨vs, n, rfl, h⟩ := q; exact ⟨vs, n, ho, h⟩
theorem sq_size {vs : Array Value} {xs : List AV} (e : vs.toList.map ab = xs) : vs.size = xs.length := by rw [← e]; simp
theorem T0.items {a : Addr} {xs : List AV} {Q : Array Value → St → Prop} (h : IsSq mk c dd) (e : σ.m a = some (mk xs)) (k : ∀ vs : Array Value, vs.toList.map ab = xs → Q vs σ) : T0 B A (Builtin.List.listItems (.ref a)) σ Q := fun s R => by
  obtain ⟨vs, n, ho, hv⟩ := sq_at h R e
  exact wpAny_bind (wpAny_seqItems ho rfl (wpAny_pure ⟨σ, R, .refl .., k vs hv⟩))
theorem T0.update {a : Addr} {xs ys : List AV} {f : Array Value → Array Value} {Q : Unit → St → Prop} (h : IsSq mk c dd) (e : σ.m a = some (mk xs)) (hf : ∀ vs : Array Value, vs.toList.map ab = xs → (f vs).toList.map ab = ys) (h1 : xs.length ≤ sizeLine) (h2 : ys.length ≤ sizeLine + 1)
    (k : Q () (σ.put a (mk ys))) : T0 B A (Builtin.List.listUpdate (.ref a) f) σ Q := fun s R => by
  obtain ⟨vs, n, ho, hv⟩ := sq_at h R e
  have e1 := sq_size hv
  have e2 := sq_size (hf vs hv)
  have key : ∀ o', o' = Obj.mapSeq f ⟨c, dd, .seq vs n, #[]⟩ → OIs o' (mk ys) ∧ o'.isFreed = false := by rintro o' rfl; exact ⟨h.is (hf vs hv), rfl⟩
  refine wpAny_updateSeq ho rfl ?_ (by omega) (by omega)
  obtain ⟨a1, a2⟩ := R.write (k := s.toks) (f := Obj.mapSeq f) e ho (key _ rfl).1 (key _ rfl).2
  exact ⟨_, a1, a2, k⟩

section
variable {a : Addr} {xs : List AV} {Q : AV → St → Prop}
theorem two {vs : List Value} {x y : AV} (h : vs.map ab = [x, y]) : ∃ u v, vs = [u, v] ∧ ab u = x ∧ ab v = y := by
  rcases vs with _ | ⟨u, _ | ⟨v, _ | ⟨w, r⟩⟩⟩ <;> simp at h
  exact ⟨u, v, rfl, h.1, h.2⟩
theorem one {vs : List Value} {x : AV} (h : vs.map ab = [x]) : ∃ u, vs = [u] ∧ ab u = x := by
  rcases vs with _ | ⟨u, _ | ⟨v, r⟩⟩ <;> simp at h
  exact ⟨u, rfl, h⟩
theorem inst_sq (O : B.Ok) (h : IsSq mk c dd) (e : σ.m a = some (mk xs)) (hs : subIn B.K c (.type "list") = some true) : ∀ s, Rel B σ s → Looks (model B.prog B.w) s.heap (isInstance (.ref a) (.type "list")) true := fun s R => isInst_at O R e (h.cls xs) hs

theorem kind_append : builtinKind "list.append" = some .method := by decide +kernel
theorem split_append : splitId "list.append" = some ("list", "append") := by decide +kernel
theorem plain_append : plainId "list.append" = true := by decide +kernel
theorem entry_append : entryFor table "list.append" = some Builtin.«list.append» := entryFor_of_tree (by kernel_rfl)
theorem args_append (x y : Value) : argsOk "list.append" ⟨[x, y], []⟩ := by unfold argsOk; kernel_rfl
theorem c_append (O : B.Ok) {x : AV} (h : IsSq mk c dd) (e : σ.m a = some (mk xs)) (hz : xs.length ≤ sizeLine) (k : Q .none (σ.put a (mk (xs ++ [x])))) (hs : subIn B.K c (.type "list") = some true := by rfl) : Callf B A (.bi "list.append") [.ref a, x] σ Q :=
  call_builtin plain_append entry_append fun vs hv => by
    obtain ⟨u, v, rfl, h1, h2⟩ := two hv
    obtain rfl := ab_ref h1
    subst h2
    refine chk_meth kind_append split_append (inst_sq O h e hs) (args_append _ _) ?_
    show Tf B A (Builtin.List.listUpdate (.ref a) (·.push v) >>= fun _ => ret .none) σ Q
    exact Tf.bind (T0.update (ys := xs ++ [ab v]) h e (fun ws hw => by simp [← hw]) hz (by simp; omega) (Tf.ret k))

theorem kind_llen : builtinKind "list.__len__" = some .slot := by decide +kernel
theorem split_llen : splitId "list.__len__" = some ("list", "__len__") := by decide +kernel
theorem plain_llen : plainId "list.__len__" = true := by decide +kernel
theorem bind_llen (self : Value) : bindSpecial (.builtin "list.__len__") self = pure (.builtin "list.__len__", [self]) := slot_list_len.bind self
theorem c_llen (O : B.Ok) (h : IsSq mk c dd) (e : σ.m a = some (mk xs)) (k : Q (.int xs.length) σ) (hs : subIn B.K c (.type "list") = some true) : Callf B A (.bi "list.__len__") [.ref a] σ Q :=
  call_builtin plain_llen entry_list_len fun vs hv => by
    obtain ⟨u, rfl, h1⟩ := one hv
    obtain rfl := ab_ref h1
    refine chk_slot kind_llen split_llen (inst_sq O h e hs) (args_list_len _) ?_
    show Tf B A (seqSize a >>= fun n => retInt n) σ Q
    refine Tf.bind fun s R => ?_
    obtain ⟨vs, n, ho, hv⟩ := sq_at h R e
    refine wpAny_bind (wpAny_loadPart ho (wpAny_pure ⟨σ, R, .refl .., ?_⟩))
    rw [sq_size hv]
    exact Tf.retInt k
/-- a built-in's special, by its class -/
theorem special_at (O : B.Ok) {ao : AObj} {name : Str} {f : Value} {args : List Value} {Q : Option Value → St → Prop} (e : σ.m a = some ao) (hc : ao.cls = some c) (hf : findIn B.K c name = some (some f)) (hb : ∀ self, bindSpecial f self = pure (f, [self]))
    (h : Callf B A (ab f) (.ref a :: args.map ab) σ fun v σ' => ∀ w, ab w = v → Q (some w) σ') : T0 B A (callSpecial? (.ref a) name args) σ Q := fun s R => by
  unfold callSpecial? specialOf
  refine wpAny_bind (wpAny_bind ((type_at R e hc).here ((looks_findIn (R.kin O) hf).here (wpAny_holding ?_))))
  rw [hb]
  refine wpAny_bind (wpAny_pure (wpAny_bind (wpAny_mono (h f (.ref a :: args) rfl rfl s R) (fun v s' ⟨σ', a1, a2, a3⟩ => wpAny_pure ⟨σ', a1, a2, a3 v rfl⟩) fun _ _ x => x)))
theorem special_none (O : B.Ok) {ao : AObj} {name : Str} {args : List Value} {Q : Option Value → St → Prop} (e : σ.m a = some ao) (hc : ao.cls = some c) (hf : findIn B.K c name = some none) (h : Q none σ) : T0 B A (callSpecial? (.ref a) name args) σ Q := fun s R => by
  unfold callSpecial? specialOf
  exact wpAny_bind (wpAny_bind ((type_at R e hc).here ((looks_findIn (R.kin O) hf).here (wpAny_pure ⟨σ, R, .refl .., h⟩))))
theorem f_len (O : B.Ok) {id : String} {ao : AObj} {n : Nat} (e : σ.m a = some ao) (hc : ao.cls = some c) (hf : findIn B.K c "__len__" = some (some (.builtin id))) (hb : ∀ self, bindSpecial (.builtin id) self = pure (.builtin id, [self]))
    (hl : ∀ Q, Q (.int n) σ → Callf B A.in1 (.bi id) [.ref a] σ Q) (hn : (n : Int) < 2 ^ 63) (k : Q (.int n) σ) : Tf B A (Builtin.«len» ⟨[.ref a], []⟩) σ Q := by
  unfold Builtin.«len»
  refine Tf.bind (m := oneArg "len" _) (T0.pure (Tf.bind (special_at (args := []) O e hc hf hb (hl _ ?_))))
  intro w hw
  obtain ⟨t, rfl⟩ := ab_int hw
  refine Tf.bind (T0.holding (T0.pure (v := (n : Int)) (Tf.bind (m := letGo _) (fun s R => wpAny_letGo ⟨σ, R, .refl .., ?_⟩))))
  show Tf B A (if ((n : Nat) : Int) < 0 then _ else _) _ _
  rw [if_neg (by omega)]
  show Tf B A (if ((n : Nat) : Int) ≥ 2 ^ 63 then _ else _) _ _
  rw [if_neg (by omega)]
  exact Tf.retInt k
theorem c_len_sq (O : B.Ok) (h : IsSq mk c dd) (e : σ.m a = some (mk xs)) (hz : xs.length ≤ sizeLine) (k : Q (.int xs.length) σ) (hf : findIn B.K c "__len__" = some (some (.builtin "list.__len__")) := by rfl) (hs : subIn B.K c (.type "list") = some true := by rfl) : Callf B A (.bi "len") [.ref a] σ Q :=
  call_builtin plain_len entry_len fun vs hv => by
    obtain ⟨u, rfl, h1⟩ := one hv
    obtain rfl := ab_ref h1
    exact chk_free kind_len (args_len1 _) (f_len O e (h.cls xs) hf bind_llen (fun Q q => c_llen O h e q hs) (by have : sizeLine = 16777216 := sizeLine_eq; omega) k)
theorem tru_sq (O : B.Ok) {Q : Bool → St → Prop} (h : IsSq mk c dd) (e : σ.m a = some (mk xs)) (hz : xs.length ≤ sizeLine) (k : Q (!xs.isEmpty) σ) (hb : findIn B.K c "__bool__" = some none := by rfl) (hf : findIn B.K c "__len__" = some (some (.builtin "list.__len__")) := by rfl) (hs : subIn B.K c (.type "list") = some true := by rfl) : Tru B A (.ref a) σ Q := fun va hv => by
  obtain rfl := ab_ref hv
  show T0 B A (callSpecial? (.ref a) "__bool__" >>= _) σ Q
  refine T0.bind (special_none O e (h.cls xs) hb ?_)
  refine T0.bind (t := specialOf (.ref a) "__len__") (fun s R => wpAny_bind ((type_at R e (h.cls xs)).here ((looks_findIn (R.kin O) hf).here ⟨σ, R, .refl .., ?_⟩)))
  refine T0.bind (T0.mono (Cb.toT (Q := fun v σ' => v = .int xs.length ∧ σ' = σ) (Cb.builtin plain_len entry_len (f_len O e (h.cls xs) hf bind_llen (fun Q q => c_llen O h e q hs) (by have : sizeLine = 16777216 := sizeLine_eq; omega) ⟨rfl, rfl⟩))) ?_)
  rintro w σ' ⟨hw, rfl⟩
  obtain ⟨t, rfl⟩ := ab_int hw
  refine T0.pure ?_
  have : ((xs.length : Int) != 0) = !xs.isEmpty := by cases xs <;> simp; omega
  rw [this]; exact k
end
end Mine
set_option maxHeartbeats 200000
namespace Mine
variable {B : Bs} {A : Around} {L : Addr} {α β : Type} {σ : St} {ℓ : Loc} {mk : List AV → AObj} {c : Value} {dd : Option Addr} {a : Addr} {xs : List AV}

theorem T0.mkText {x : Str} {Q : Value → St → Prop} (h : ∀ t, Q (.str x t) σ) : T0 B A (mkText x) σ Q := fun s R => wpAny_mkText ⟨σ, R.tok, .tok, h _⟩
theorem T0.typeOf {ao : AObj} {Q : Value → St → Prop} (e : σ.m a = some ao) (hc : ao.cls = some c) (h : Q c σ) : T0 B A (typeOf (.ref a)) σ Q := fun s R => (type_at R e hc).here ⟨σ, R, .refl .., h⟩
theorem T0.find (O : B.Ok) {name : Str} {r : Option Value} {Q : Option Value → St → Prop} (hf : findIn B.K c name = some r) (h : Q r σ) : T0 B A (typeLookup c name) σ Q := fun s R => (looks_findIn (R.kin O) hf).here ⟨σ, R, .refl .., h⟩
theorem T0.special (O : B.Ok) {ao : AObj} {name : Str} {r : Option Value} {Q : Option Value → St → Prop} (e : σ.m a = some ao) (hc : ao.cls = some c) (hf : findIn B.K c name = some r) (h : Q r σ) : T0 B A (specialOf (.ref a) name) σ Q := T0.bind (T0.typeOf e hc (T0.find O hf h))
-- attributes of an object whose class goes by list's own look-up
theorem kind_lga : builtinKind "list.__getattribute__" = some .slot := by decide +kernel
theorem split_lga : splitId "list.__getattribute__" = some ("list", "__getattribute__") := by decide +kernel
theorem plain_lga : plainId "list.__getattribute__" = true := by decide +kernel
theorem entry_lga : entryFor table "list.__getattribute__" = some Builtin.«object.__getattribute__» := am_entry_list_getattribute
theorem args_lga (x y : Value) : argsOk "list.__getattribute__" ⟨[x, y], []⟩ := by unfold argsOk; kernel_rfl
theorem chk_lga (O : B.Ok) {C dx : Addr} {t : Str} {tk : Tok} {Q : Unit → St → Prop} (e : σ.m a = some (.dom C dx xs)) (hs : subIn B.K (.ref C) (.type "list") = some true) (h : Q () σ) : T0 B A (checkBuiltinCall "list.__getattribute__" ⟨[.ref a, .str t tk], []⟩) σ Q := by
  have k1 := kind_lga
  have k2 := split_lga
  have k3 := args_lga (.ref a) (.str t tk)
  exact fun s R => @check_slot (model B.prog B.w) A _ s "list.__getattribute__" "list" "__getattribute__" (.ref a) [.str t tk] [] _ k1 k2 (isInst_at (c := .ref C) O R e rfl hs) k3 ⟨σ, R, .refl .., h⟩
theorem bind_lga (self : Value) : bindSpecial (.builtin "list.__getattribute__") self = pure (.builtin "list.__getattribute__", [self]) :=
  (Slot.of (T := "list") (name := "__getattribute__") (owner := "list") (n := "__getattribute__") (by rw [typeLookup_type, builtinLookup_eq_fast]; kernel_rfl) (by decide +kernel) (by decide +kernel) (by decide +kernel)
    (by first | exact .inl (by decide +kernel) | exact .inr (by decide +kernel)) (by rw [isSubtype_type]; kernel_rfl)).bind self
theorem att_dom (O : B.Ok) {C dx : Addr} {k : Nat} {m : Loc} {name : Str} {ex : Bool} {v : AV} {Q : AV → St → Prop} (e : σ.m a = some (.dom C dx xs)) (e2 : σ.m dx = some (.ns k m)) (hv : m name = some v) (h : Q v σ)
    (hga : findIn B.K (.ref C) "__getattribute__" = some (some (.builtin "list.__getattribute__")) := by rfl) (hgn : findIn B.K (.ref C) "__getattr__" = some none := by rfl) (ha : attIn B.K C name = true := by rfl) (hs : subIn B.K (.ref C) (.type "list") = some true := by rfl) (hn : ∀ n, v ≠ .bi n := by intro n x; cases x) : Att B A (.ref a) name ex σ Q := fun va hva => by
  obtain rfl := ab_ref hva
  unfold getAttr
  refine T0.bind (T0.mkText fun tk => ?_)
  unfold getAttrBy
  refine T0.holding (T0.bind (T0.typeOf e rfl (T0.bind (T0.find O hga ?_))))
  show T0 B A (getAttrByItsOwn _ _ _ _ _ _) σ _
  unfold getAttrByItsOwn hookBefore
  refine T0.bind (T0.find O hgn (T0.bind ?_))
  have call : T0 B A (callGetattribute (.ref a) (.str name tk) (.builtin "list.__getattribute__") ex) σ fun w σ' => ab w = v ∧ σ' = σ := by
    have e1 : callGetattribute (.ref a) (.str name tk) (.builtin "list.__getattribute__") ex = boundAndCalled (.builtin "list.__getattribute__") (.ref a) (.str name tk) := by
      unfold callGetattribute
      cases ex <;> rfl
    rw [e1]
    unfold boundAndCalled
    rw [bind_lga]
    refine T0.bind (T0.pure ?_)
    refine call_builtin (Q := fun w σ' => w = v ∧ σ' = σ) plain_lga entry_lga (fun vs hvs => ?_) (.builtin "list.__getattribute__") [.ref a, .str name tk] rfl (by rfl : _ = [.ref a, .str name])
    obtain ⟨u, x, rfl, h1, h2⟩ := two hvs
    obtain rfl := ab_ref h1
    obtain ⟨t, rfl⟩ := ab_str h2
    refine chk_lga O e hs ?_
    unfold Builtin.«object.__getattribute__»
    refine Tf.bind (T0.of_eq (v := ((Value.ref a, [Value.str name t]) : Value × List Value)) (by rfl) ?_)
    dsimp only
    refine Tf.bind (T0.of_eq (v := name) (by rfl) ?_)
    refine Tf.bind (T0.typeOf e rfl (Tf.bind (fun s R => ?_)))
    obtain ⟨ox, od, I, hl⟩ := inst_at R e rfl rfl e2
    obtain ⟨u, hu, hm⟩ := hl name
    rw [hv] at hm
    obtain ⟨v', rfl, hv'⟩ := Option.map_eq_some_iff.mp hm
    refine (looks_find (R.kin O) I (find_own ha hu)).here ⟨σ, R, .refl .., ?_⟩
    exact Tf.ret ⟨hv', rfl⟩
  refine fun s₂ R₂ => wpAny_attempt (wpAny_holding (wpAny_mono (call s₂ R₂) (fun w s₃ ⟨σ', a1, a2, a3, a4⟩ => ?_) fun _ _ x => x.elim))
  subst a4
  refine ⟨σ', a1, a2, ?_⟩
  dsimp only
  rw [handedOut_of (ab_handed a3 hn)]
  exact T0.pure (by show Q (ab w) σ'; rw [a3]; exact h)

-- pop, extend, remove, list.__init__
theorem kind_pop : builtinKind "list.pop" = some .method := by decide +kernel
theorem split_pop : splitId "list.pop" = some ("list", "pop") := by decide +kernel
theorem plain_pop : plainId "list.pop" = true := by decide +kernel
theorem entry_pop : entryFor table "list.pop" = some Builtin.«list.pop» := entryFor_of_tree (by kernel_rfl)
theorem args_pop (x : Value) : argsOk "list.pop" ⟨[x], []⟩ := by unfold argsOk; kernel_rfl
theorem c_pop (O : B.Ok) {x : AV} {Q : AV → St → Prop} (h : IsSq mk c dd) (e : σ.m a = some (mk (xs ++ [x]))) (hz : xs.length < sizeLine) (k : Q x (σ.put a (mk xs))) (hs : subIn B.K c (.type "list") = some true := by rfl) : Callf B A (.bi "list.pop") [.ref a] σ Q :=
  call_builtin plain_pop entry_pop fun vs hv => by
    obtain ⟨u, rfl, h1⟩ := one hv
    obtain rfl := ab_ref h1
    refine chk_meth kind_pop split_pop (inst_sq O h e hs) (args_pop _) ?_
    show Tf B A (Builtin.List.listItems (.ref a) >>= fun xs => _) σ Q
    refine Tf.bind (T0.items h e fun vs hvs => ?_)
    have hl := sq_size hvs
    rw [List.length_append, List.length_singleton] at hl
    have hne : ¬ vs.isEmpty = true := by intro he; have : vs.size = 0 := by simpa using he
                                         omega
    have hk : seqIndex? (-1) vs.size = some xs.length := by
      unfold seqIndex?
      rw [hl]
      simp; omega
    have hx : ∃ w, vs[xs.length]? = some w ∧ ab w = x := by
      have : (vs.toList.map ab)[xs.length]? = some x := by rw [hvs]; simp
      rw [List.getElem?_map] at this
      obtain ⟨w, h1, h2⟩ := Option.map_eq_some_iff.mp this
      exact ⟨w, by simpa using h1, h2⟩
    obtain ⟨w, hw, hwx⟩ := hx
    dsimp only
    rw [if_neg hne, hk]
    simp only [Option.bind_some, hw, Option.map_some]
    refine Tf.bind (T0.update (ys := xs) h e (fun ws hws => ?_) (by rw [List.length_append, List.length_singleton]; omega) (by omega) (Tf.ret (by rw [hwx]; exact k)))
    have hl2 := sq_size hws
    rw [List.length_append, List.length_singleton] at hl2
    have : (ws.eraseIdxIfInBounds xs.length).toList = ws.toList.eraseIdx xs.length := by
      rw [Array.eraseIdxIfInBounds, dif_pos (by omega)]; simp
    rw [this, List.eraseIdx_eq_take_drop_succ, List.map_append, List.map_take, List.map_drop, hws]
    simp

theorem kind_ext : builtinKind "list.extend" = some .method := by decide +kernel
theorem split_ext : splitId "list.extend" = some ("list", "extend") := by decide +kernel
theorem plain_ext : plainId "list.extend" = true := by decide +kernel
theorem entry_ext : entryFor table "list.extend" = some Builtin.«list.extend» := entryFor_of_tree (by kernel_rfl)
theorem args_ext (x y : Value) : argsOk "list.extend" ⟨[x, y], []⟩ := by unfold argsOk; kernel_rfl
theorem f_extend (O : B.Ok) {b : Addr} {ys : List AV} {r : Value} {Q : AV → St → Prop} (h : IsSq mk c dd) (e : σ.m a = some (mk xs)) (e2 : σ.m b = some (.list ys)) (hz : xs.length + ys.length ≤ sizeLine) (k : Q (ab r) (σ.put a (mk (xs ++ ys)))) : Tf B A (Builtin.List.listExtendWith (.ref a) (.ref b) r) σ Q := by
  unfold Builtin.List.listExtendWith
  refine Tf.bind (T0.typeOf e2 rfl ?_)
  have : (Builtin.List.listSameRef (.ref a) (.ref b) || (Value.type "list" == Value.type "list") || (Value.type "list" == Value.type "tuple")) = true := by simp
  rw [this]
  show Tf B A (Builtin.List.listItems (.ref b) >>= fun xs => Builtin.List.listItems (.ref a) >>= fun mine => _) σ Q
  refine Tf.bind (T0.items IsSq.list e2 fun us hus => Tf.bind (T0.items h e fun vs hvs => ?_))
  have l1 := sq_size hus
  have l2 := sq_size hvs
  have hlong : (!vs.isEmpty && Builtin.List.listTooLong (vs.size + us.size)) = false := by
    unfold Builtin.List.listTooLong
    have : decide (vs.size + us.size > sizeLine) = false := by simp; omega
    rw [this, Bool.and_false]
  dsimp only
  rw [hlong]
  exact Tf.bind (T0.update (ys := xs ++ ys) h e (fun ws hws => by simp [hws, hus]) (by omega) (by rw [List.length_append]; omega) (Tf.ret k))
theorem c_extend (O : B.Ok) {b : Addr} {ys : List AV} {Q : AV → St → Prop} (h : IsSq mk c dd) (e : σ.m a = some (mk xs)) (e2 : σ.m b = some (.list ys)) (hz : xs.length + ys.length ≤ sizeLine) (k : Q .none (σ.put a (mk (xs ++ ys)))) (hs : subIn B.K c (.type "list") = some true := by rfl) : Callf B A (.bi "list.extend") [.ref a, .ref b] σ Q :=
  call_builtin plain_ext entry_ext fun vs hv => by
    obtain ⟨u, v, rfl, h1, h2⟩ := two hv
    obtain rfl := ab_ref h1
    obtain rfl := ab_ref h2
    refine chk_meth kind_ext split_ext (inst_sq O h e hs) (args_ext _ _) ?_
    show Tf B A (Builtin.List.listExtendWith (.ref a) (.ref b) .none) σ Q
    exact f_extend O h e e2 hz k

theorem kind_rem : builtinKind "list.remove" = some .method := by decide +kernel
theorem split_rem : splitId "list.remove" = some ("list", "remove") := by decide +kernel
theorem plain_rem : plainId "list.remove" = true := by decide +kernel
theorem entry_rem : entryFor table "list.remove" = some Builtin.«list.remove» := entryFor_of_tree (by kernel_rfl)
theorem plain_remL : plainId "list.remove.loop" = true := by decide +kernel
theorem entry_remL : entryFor table "list.remove.loop" = some Builtin.«list.remove.loop» := entryFor_of_tree (by kernel_rfl)
theorem args_rem (x y : Value) : argsOk "list.remove" ⟨[x, y], []⟩ := by unfold argsOk; kernel_rfl
/-- equality looked for in a row -/
def Eqs (B : Bs) (A : Around) (x y : AV) (σ : St) (b : Bool) : Prop := ∀ vx vy, ab vx = x → ab vy = y → T0 B A (eqBool vx vy) σ fun r σ' => r = b ∧ σ' = σ
theorem eqs_int {x y : Int} : Eqs B A (.int x) (.int y) σ (x == y) := fun vx vy h1 h2 s R => by
  obtain ⟨t, rfl⟩ := ab_int h1; obtain ⟨u, rfl⟩ := ab_int h2
  exact MeetsSeq.EqGives.int x y t u _ _ _ _ _ _ ⟨σ, R, .refl .., rfl, rfl⟩
theorem f_remove {x : AV} {Q : AV → St → Prop} (h : IsSq mk c dd) (e : σ.m a = some (mk xs)) (hz : xs.length ≤ sizeLine) {pre post : List AV} {y : AV} (hp : xs = pre ++ y :: post) (hno : ∀ z ∈ pre, Eqs B A.in1 z x σ false) (hy : Eqs B A.in1 y x σ true) (k : Q .none (σ.put a (mk (pre ++ post)))) :
    ∀ i, i ≤ pre.length → ∀ vx, ab vx = x → Tf B A (Builtin.«list.remove.loop» ⟨[.ref a, vx, rawInt i], []⟩) σ Q := by
  intro i hi
  induction hd : pre.length - i generalizing i with
  | zero =>
    intro vx hvx
    have : i = pre.length := by omega
    subst this
    show Tf B A (Builtin.List.listItems (.ref a) >>= fun xs => _) σ Q
    refine Tf.bind (T0.items h e fun vs hvs => ?_)
    have : ∃ w, vs[((pre.length : Nat) : Int).toNat]? = some w ∧ ab w = y := by
      have q : (vs.toList.map ab)[pre.length]? = some y := by rw [hvs, hp]; simp
      rw [List.getElem?_map] at q
      obtain ⟨w, h1, h2⟩ := Option.map_eq_some_iff.mp q
      exact ⟨w, by simpa using h1, h2⟩
    obtain ⟨w, hw, hwy⟩ := this
    rw [hw]
    refine Tf.bind (T0.mono (hy w vx hwy hvx) ?_)
    rintro r σ' ⟨rfl, rfl⟩
    refine Tf.bind (T0.update (ys := pre ++ post) h e (fun ws hws => ?_) hz ?_ (Tf.ret k))
    · have hl2 := sq_size hws
      rw [hp, List.length_append, List.length_cons] at hl2
      have : (ws.eraseIdxIfInBounds ((pre.length : Nat) : Int).toNat).toList = ws.toList.eraseIdx pre.length := by
        rw [Int.toNat_natCast, Array.eraseIdxIfInBounds, dif_pos (by omega)]; simp
      rw [this, List.eraseIdx_eq_take_drop_succ, List.map_append, List.map_take, List.map_drop, hws, hp]
      simp
    · rw [hp, List.length_append, List.length_cons] at hz; rw [List.length_append]; omega
  | succ d ih =>
    intro vx hvx
    show Tf B A (Builtin.List.listItems (.ref a) >>= fun xs => _) σ Q
    refine Tf.bind (T0.items h e fun vs hvs => ?_)
    have hlt : i < pre.length := by omega
    have : ∃ w, vs[((i : Nat) : Int).toNat]? = some w ∧ ab w = pre[i] := by
      have q : (vs.toList.map ab)[i]? = some pre[i] := by rw [hvs, hp]; simp [List.getElem?_append_left hlt]
      rw [List.getElem?_map] at q
      obtain ⟨w, h1, h2⟩ := Option.map_eq_some_iff.mp q
      exact ⟨w, by simpa using h1, h2⟩
    obtain ⟨w, hw, hwy⟩ := this
    rw [hw]
    refine Tf.bind (T0.mono (hno pre[i] (List.getElem_mem hlt) w vx hwy hvx) ?_)
    rintro r σ' ⟨rfl, rfl⟩
    exact Tf.againB plain_remL entry_remL (ih (i + 1) (by omega) (by omega) vx hvx)
theorem c_remove (O : B.Ok) {x : AV} {Q : AV → St → Prop} (h : IsSq mk c dd) (e : σ.m a = some (mk xs)) (hz : xs.length ≤ sizeLine) {pre post : List AV} {y : AV} (hp : xs = pre ++ y :: post) (hno : ∀ z ∈ pre, Eqs B A.in1 z x σ false) (hy : Eqs B A.in1 y x σ true) (k : Q .none (σ.put a (mk (pre ++ post)))) (hs : subIn B.K c (.type "list") = some true := by rfl) :
    Callf B A (.bi "list.remove") [.ref a, x] σ Q :=
  call_builtin plain_rem entry_rem fun vs hv => by
    obtain ⟨u, v, rfl, h1, h2⟩ := two hv
    obtain rfl := ab_ref h1
    refine chk_meth kind_rem split_rem (inst_sq O h e hs) (args_rem _ _) ?_
    show Tf B A (PySem.again (.builtin "list.remove.loop" ⟨[.ref a, v, rawInt 0], []⟩)) σ Q
    exact Tf.againB plain_remL entry_remL (f_remove h e hz hp hno hy k 0 (Nat.zero_le _) v h2)

theorem kind_init : builtinKind "list.__init__" = some .slot := by decide +kernel
theorem split_init : splitId "list.__init__" = some ("list", "__init__") := by decide +kernel
theorem plain_init : plainId "list.__init__" = true := by decide +kernel
theorem entry_init : entryFor table "list.__init__" = some Builtin.«list.__init__» := entryFor_of_tree (by kernel_rfl)
theorem args_init (x y : Value) : argsOk "list.__init__" ⟨[x, y], []⟩ := by unfold argsOk; kernel_rfl
theorem T0.letGo {vs ks : List Value} {Q : Unit → St → Prop} (h : Q () σ) : T0 B A (letGo vs ks) σ Q := fun s R => wpAny_letGo ⟨σ, R, .refl .., h⟩
theorem c_linit (O : B.Ok) {b : Addr} {ys : List AV} {Q : AV → St → Prop} (h : IsSq mk c dd) (e : σ.m a = some (mk [])) (e2 : σ.m b = some (.list ys)) (hab : b ≠ a) (hz : ys.length ≤ sizeLine) (k : Q .none (σ.put a (mk ys))) (hs : subIn B.K c (.type "list") = some true := by rfl) : Callf B A (.bi "list.__init__") [.ref a, .ref b] σ Q :=
  call_builtin plain_init entry_init fun vs hv => by
    obtain ⟨u, v, rfl, h1, h2⟩ := two hv
    obtain rfl := ab_ref h1
    obtain rfl := ab_ref h2
    refine chk_slot kind_init split_init (inst_sq O h e hs) (args_init _ _) ?_
    show Tf B A (Builtin.List.listItems (.ref a) >>= fun old => Builtin.List.listUpdate (.ref a) (fun _ => #[]) >>= fun _ => letGo old.toList.reverse >>= fun _ => Builtin.List.listExtendWith (.ref a) (.ref b) .none) σ Q
    refine Tf.bind (T0.items h e fun vs hvs => Tf.bind (T0.update (ys := []) h e (fun _ _ => rfl) (Nat.zero_le _) (Nat.zero_le _) (Tf.bind (T0.letGo ?_))))
    refine f_extend (xs := []) (ys := ys) O h (put_same ..) (by rw [put_other hab]; exact e2) (by simpa using hz) ?_
    rw [put_put]; exact k
end Mine
set_option maxHeartbeats 200000
namespace Mine
variable {B : Bs} {A : Around} {L : Addr} {α β : Type} {σ : St} {ℓ : Loc} {mk : List AV → AObj} {c : Value} {dd : Option Addr} {a : Addr} {xs : List AV}

/-- what a loop walks over: an iterator that the abstract heap does not show -/
structure Src (B : Bs) (A : Around) (I : Addr) (n : Nat) (D : St → Prop) (H : Nat → Heap → Prop) (P : Nat → AV → Prop) : Prop where
  frame : ∀ i h h', H i h → (∀ o, h.get? I = some o → h'.get? I = some o) → H i h'
  here : ∀ i h, H i h → ∃ o, h.get? I = some o
  item : ∀ i σ s, i < n → D σ → Rel B σ s → H i s.heap → ∀ (Q : Option Value → Shared → Prop), (∀ v h' tk, P i (ab v) → H (i + 1) h' → (∀ b o, b ≠ I → s.heap.get? b = some o → h'.get? b = some o) → Q (some v) { s with heap := h', toks := tk }) →
    wpAny (model B.prog B.w) A (pyNext (.ref I)) Q (fun _ _ => False) s
  done : ∀ σ s, D σ → Rel B σ s → H n s.heap → ∀ (Q : Option Value → Shared → Prop), (∀ h' tk, (∀ b o, b ≠ I → s.heap.get? b = some o → h'.get? b = some o) → Q none { s with heap := h', toks := tk }) →
    wpAny (model B.prog B.w) A (pyNext (.ref I)) Q (fun _ _ => False) s
  go : ∀ i s t v, H i s.heap → ∀ (Q : Unit → Shared → Prop), Q () s → wpAny (model B.prog B.w) A (letOwnedTupleGo t (.ref I) v) Q (fun _ _ => False) s
  self : ∀ i s, H i s.heap → ∀ (Q : Value → Shared → Prop), Q (.ref I) s → wpAny (model B.prog B.w) A (pyIter (.ref I)) Q (fun _ _ => False) s
def Iter (B : Bs) (A : Around) (x : AV) (σ : St) (n : Nat) (D : St → Prop) (P : Nat → AV → Prop) : Prop := ∀ v, ab v = x → ∀ s, Rel B σ s → ∀ (Q : Value → Shared → Prop),
  (∀ I H h' tk, s.heap.get? I = none → (∀ b o, s.heap.get? b = some o → h'.get? b = some o) → Src B A I n D H P → H 0 h' → Q (.ref I) { s with heap := h', toks := tk }) → wpAny (model B.prog B.w) A (pyIter v) Q (fun _ _ => False) s

theorem Rel.soft {s : Shared} {h' : Heap} {k : Nat} {I : Addr} (R : Rel B σ s) (h0 : B.h0.get? I = none) (hσ : σ.m I = none) (hk : ∀ b o, b ≠ I → s.heap.get? b = some o → h'.get? b = some o) : Rel B σ { s with heap := h', toks := k } where
  base b o e := hk b o (by rintro rfl; rw [h0] at e; cases e) (R.base b o e)
  own b ao e := let ⟨x, o, ho, y⟩ := R.own b ao e; ⟨x, o, hk b o (by rintro rfl; rw [hσ] at e; cases e) ho, y⟩
  gens := R.gens
  low := R.low
theorem FrIs.soft {h h' : Heap} {I : Addr} (F : FrIs B L ℓ σ h) (hk : ∀ b o, b ≠ I → h.get? b = some o → h'.get? b = some o) (hI : I ≠ L) : FrIs B L ℓ σ h' := by
  obtain ⟨h1, h2, m, ⟨o, es, ep, e, r⟩, hm⟩ := F
  exact ⟨h1, h2, m, ⟨o, es, ep, hk L o (Ne.symm hI) e, r⟩, hm⟩
theorem StepL.soft {σ' : St} {s s' : Shared} {h' : Heap} {k : Nat} {I : Addr} (S : StepL L σ s σ' s') (hI : I ≠ L) (hn : s.heap.get? I = none) (hk : ∀ b o, b ≠ I → s'.heap.get? b = some o → h'.get? b = some o) : StepL L σ s σ' { s' with heap := h', toks := k } where
  kept b o e h n := hk b o (by rintro rfl; rw [hn] at e; cases e) (S.kept b o e h n)
  grow := S.grow
  os := S.os
  live := by obtain ⟨o, e⟩ := Option.isSome_iff_exists.mp S.live; rw [hk L o (Ne.symm hI) e]; rfl
theorem Rel.free {s : Shared} {I : Addr} (R : Rel B σ s) (h : s.heap.get? I = none) : B.h0.get? I = none ∧ σ.m I = none := by
  refine ⟨?_, ?_⟩
  · cases e : B.h0.get? I with
    | none => rfl
    | some o => have := R.base _ _ e; rw [h] at this; cases this
  · cases e : σ.m I with
    | none => rfl
    | some ao => obtain ⟨_, o, ho, _⟩ := R.own _ _ e; rw [h] at ho; cases ho

def ForK (B : Bs) (A : Around) (env : Env) (target : PySem.Expr) (body orelse : List Stmt) (x : AV) (ℓ : Loc) (σ : St) (Q : AF → Loc → St → Prop) : Prop :=
  ∃ (n : Nat) (D : St → Prop) (P : Nat → AV → Prop) (J : Nat → Loc → St → Prop), Iter B A x σ n D P ∧ J 0 ℓ σ ∧ (∀ i ℓ' σ', J i ℓ' σ' → D σ') ∧
    (∀ i v ℓ' σ', i < n → P i v → J i ℓ' σ' → Ta B A env target v ℓ' σ' fun ℓ₂ σ₂ => Ts B A env body ℓ₂ σ₂ fun f ℓ₃ σ₃ => match f with | .next => J (i + 1) ℓ₃ σ₃ | .cont => J (i + 1) ℓ₃ σ₃ | .brk => Q .next ℓ₃ σ₃ | .ret v => Q (.ret v) ℓ₃ σ₃) ∧
    (∀ ℓ' σ', J n ℓ' σ' → Ts B A env orelse ℓ' σ' Q)
theorem x_for {env : Env} {Q : AF → Loc → St → Prop} {pos : Pos} {target iter : PySem.Expr} {body orelse : List Stmt} (h : Te B A env iter ℓ σ fun x σ₁ => ForK B A env target body orelse x ℓ σ₁ Q)
    (hs : ∀ x, foldedSetIterable iter env x = Pure.pure x := by intro _; rfl) : Tx B A env (.For target iter body orelse pos) ℓ σ Q := fun s R F => by
  refine wpAny_For ?_ hs
  refine wpAny_mono (h s R F) (fun x s₁ ⟨ℓ₁, σ₁, R₁, F₁, S₁, e₁, n, D, P, J, it, j0, jD, step, fin⟩ => ?_) fun _ _ x => x.elim
  subst e₁
  refine it x rfl s₁ R₁ _ fun I H h₂ tk hI hk SR h0 => ?_
  obtain ⟨f1, f2⟩ := R₁.free hI
  obtain ⟨oL, eL⟩ := F₁.at
  have hIL : I ≠ env.locals := by rintro rfl; rw [hI] at eL; cases eL
  have post : ∀ {f : Flow} {s' : Shared}, (∃ ℓ' σ', Rel B σ' s' ∧ FrIs B env.locals ℓ' σ' s'.heap ∧ StepL env.locals σ₁ s₁ σ' s' ∧ Q (abF f) ℓ' σ') →
      ∃ ℓ' σ', Rel B σ' s' ∧ FrIs B env.locals ℓ' σ' s'.heap ∧ StepL env.locals σ s σ' s' ∧ Q (abF f) ℓ' σ' := fun ⟨ℓ', σ', a, b, c, d⟩ => ⟨ℓ', σ', a, b, S₁.trans c, d⟩
  refine codeAny_mono (R := fun r s' => match r with | .ok f => ∃ ℓ' σ', Rel B σ' s' ∧ FrIs B env.locals ℓ' σ' s'.heap ∧ StepL env.locals σ₁ s₁ σ' s' ∧ Q (abF f) ℓ' σ' | .error _ => False) ?_ (fun r s' y => by
    cases r with
    | ok f => exact post y
    | error e => exact y.elim)
  refine codeAny_forLoop_any (fun k s' => ∃ i ℓ' σ', i ≤ n ∧ k = n + 1 - i ∧ Rel B σ' s' ∧ FrIs B env.locals ℓ' σ' s'.heap ∧ StepL env.locals σ₁ s₁ σ' s' ∧ σ'.m I = none ∧ H i s'.heap ∧ J i ℓ' σ') ?_ (n + 1)
    ⟨0, ℓ₁, σ₁, Nat.zero_le _, rfl, R₁.soft f1 f2 fun b o _ e => hk b o e, F₁.soft (fun b o _ e => hk b o e) hIL, (StepL.refl F₁).soft hIL hI fun b o _ e => hk b o e, f2, h0, j0⟩
  rintro k s' ⟨i, ℓ', σ', hi, rfl, R', F', S', hσ, hH, hJ⟩
  have E0 : ∀ (e : Value) (s : Shared), False → notedBy (model B.prog B.w) A env (fun e s' => False) e s := fun _ _ x => x.elim
  by_cases hlt : i < n
  · refine wpAny_mono (SR.item i σ' s' hlt (jD _ _ _ hJ) R' hH _ fun v h3 tk3 hP hH3 hk3 => ?_) (fun _ _ x => x) E0
    have R3 : Rel B σ' { s' with heap := h3, toks := tk3 } := R'.soft f1 hσ hk3
    have F3 := F'.soft hk3 hIL
    have S3 : StepL env.locals σ₁ s₁ σ' { s' with heap := h3, toks := tk3 } := S'.soft hIL hI hk3
    refine wpAny_mono (SR.go (i + 1) { s' with heap := h3, toks := tk3 } target v hH3 _ ?_) (fun _ _ x => x) E0
    refine wpAny_mono (step i (ab v) ℓ' σ' hlt hP hJ v rfl _ R3 F3) (fun _ s₄ ⟨ℓ₄, σ₄, R₄, F₄, S₄, z⟩ => ?_) E0
    refine wpAny_mono (z s₄ R₄ F₄) (fun f s₅ ⟨ℓ₅, σ₅, R₅, F₅, S₅, y⟩ => ?_) E0
    have S345 := (S3.trans S₄).trans S₅
    have S45 := S₄.trans S₅
    have old : ∀ o, h3.get? I = some o → s₅.heap.get? I = some o ∧ σ₅.m I = none := fun o e => ⟨S45.kept I o e hσ hIL, S45.old e hσ⟩
    have again : J (i + 1) ℓ₅ σ₅ → ∃ m, m < n + 1 - i ∧ ∃ i ℓ' σ', i ≤ n ∧ m = n + 1 - i ∧ Rel B σ' s₅ ∧ FrIs B env.locals ℓ' σ' s₅.heap ∧ StepL env.locals σ₁ s₁ σ' s₅ ∧ σ'.m I = none ∧ H i s₅.heap ∧ J i ℓ' σ' := fun j => by
      refine ⟨n + 1 - (i + 1), by omega, i + 1, ℓ₅, σ₅, hlt, rfl, R₅, F₅, S345, ?_, SR.frame _ _ _ hH3 fun o e => (old o e).1, j⟩
      obtain ⟨o, e⟩ := SR.here _ _ hH3
      exact (old o e).2
    cases f with
    | next => exact again y
    | cont => exact again y
    | brk => exact ⟨ℓ₅, σ₅, R₅, F₅, S345, y⟩
    | ret v => exact ⟨ℓ₅, σ₅, R₅, F₅, S345, y⟩
  · have hin : i = n := by omega
    subst hin
    refine wpAny_mono (SR.done σ' s' (jD _ _ _ hJ) R' hH _ fun h3 tk3 hk3 => ?_) (fun _ _ x => x) E0
    have R3 : Rel B σ' { s' with heap := h3, toks := tk3 } := R'.soft f1 hσ hk3
    have F3 := F'.soft hk3 hIL
    have S3 : StepL env.locals σ₁ s₁ σ' { s' with heap := h3, toks := tk3 } := S'.soft hIL hI hk3
    exact wpAny_mono (fin ℓ' σ' hJ _ R3 F3) (fun f s₅ ⟨ℓ₅, σ₅, R₅, F₅, S₅, y⟩ => ⟨ℓ₅, σ₅, R₅, F₅, S3.trans S₅, y⟩) E0
-- lists, Domains
theorem go_iter {I : Addr} {o : Obj} {t : PySem.Expr} {v : Value} {s : Shared} {Q : Unit → Shared → Prop} {T : String} (ho : s.heap.get? I = some o) (hc : o.cls = .type T)
    (hT : ["enumerate", "zip", "dict_itemiterator", "dict_reverseitemiterator", "odict_iterator", "itertools.zip_longest", "itertools.pairwise"].contains T = false) (h : Q () s) : wpAny (model B.prog B.w) A (letOwnedTupleGo t (.ref I) v) Q (fun _ _ => False) s := by
  unfold letOwnedTupleGo
  split
  · cases v with
    | ref b =>
      refine wpAny_bind (wpAny_load ho ?_)
      rw [hc]
      cases o.data with
      | fields vs =>
        dsimp only
        rw [hT, Bool.false_and, if_neg Bool.false_ne_true]
        exact wpAny_pure h
      | _ => exact wpAny_pure h
    | _ => exact wpAny_pure h
  · cases v with
    | ref b =>
      refine wpAny_bind (wpAny_load ho ?_)
      rw [hc]
      cases o.data with
      | fields vs =>
        dsimp only
        rw [hT, Bool.false_and, if_neg Bool.false_ne_true]
        exact wpAny_pure h
      | _ => exact wpAny_pure h
    | _ => exact wpAny_pure h
  · exact wpAny_pure h
theorem next_sq {I l : Addr} {i : Nat} {o : Obj} {vs : Array Value} {n : Nat} {s : Shared} {Q : Option Value → Shared → Prop} (hh : A.handled = none) (hit : s.heap.IsListIter I l i) (ho : s.heap.get? l = some o) (hd : o.data = .seq vs n)
    (h1 : ∀ x h', vs[i]? = some x → h'.IsListIter I l (i + 1) → Heap.SameBut I s.heap h' → Q (some x) { s with heap := h' })
    (h2 : vs[i]? = none → ∀ h', Heap.ExtBut I s.heap h' → Q none { s with heap := h' }) : wpAny (model B.prog B.w) A (pyNext (.ref I)) Q (fun _ _ => False) s := by
  obtain ⟨oi, hoi, hci, hdi⟩ := id hit
  unfold pyNext
  refine wpAny_bind (wpAny_attempt (wpAny_callSpecial?_slot (name := Str.ofString "__next__") hit.typeIs slot_listiter_next
    (wpAny_call_entry slot_listiter_next hit.typeIs entry_listiter_next ?_ (args_listiter_next _))))
  show wpAny _ _ (field (.ref I) 0 >>= _) _ _ s
  refine wpAny_bind (wpAny_field hoi hdi (x := .ref l) rfl ?_)
  show wpAny _ _ (if (Value.ref l == Value.none) = true then _ else _) _ _ s
  rw [if_neg (show ¬ ((Value.ref l == Value.none) = true) from Bool.false_ne_true)]
  show wpAny _ _ (field (.ref I) 1 >>= _) _ _ s
  refine wpAny_bind (wpAny_field hoi hdi (x := .int i 0) rfl ?_)
  show wpAny _ _ (seqItems? (.ref l) >>= _) _ _ s
  refine wpAny_bind (wpAny_seqItems ho hd ?_)
  cases hx : vs[i]? with
  | some x =>
    simp only [Int.toNat_natCast, hx]
    refine wpAny_bind (wpAny_setField hoi hdi (by simp) (wpAny_pure ⟨x, rfl, wpAny_pure (h1 x _ hx ?_ (Heap.SameBut.update ..))⟩))
    exact ⟨_, Heap.get?_update_self _ hoi (Obj.isFreed_of_fields (Obj.data_mapFields hdi _)), (Obj.cls_mapFields ..).trans hci, by rw [Obj.data_mapFields hdi]; simp [rawInt]⟩
  | none =>
    simp only [Int.toNat_natCast, hx]
    refine wpAny_bind (wpAny_rule (wpAny_bind (wpAny_setField hoi hdi (by simp) ?_)))
    show wpAny _ _ (newExc (.type "StopIteration") [] >>= _) _ _ _
    refine wpAny_bind ?_
    simp only [newExc, newTuple]
    refine wpAny_bind (wpAny_newObj_type ?_ (by size_fits))
    refine wpAny_bind (m := firstArgMember _ _) (wpAny_of_eq (a := Value.none) (by first | rfl | (simp only [firstArgMember]; rfl)) ?_)
    refine wpAny_newObj_type ?_ (by size_fits)
    simp only [raiseNew]
    refine wpAny_bind (wpAny_handled ?_)
    rw [show A.in1.handled = none from hh]
    refine wpAny_bind (wpAny_pure (wpAny_throw ?_))
    refine wpAny_bind (wpAny_isInstance (T := "StopIteration") (b := true) ⟨_, Heap.get?_push_size _ rfl, rfl⟩ isSubtype_stop ?_)
    exact wpAny_pure (h2 hx _ (((Heap.SameBut.update ..).extBut.push _).push _))
theorem sq_get {vs : Array Value} {i : Nat} (hv : vs.toList.map ab = xs) : xs[i]? = vs[i]?.map ab := by rw [← hv, List.getElem?_map, Array.getElem?_toList]
theorem src_sq {I l : Addr} (hh : A.handled = none) (h : IsSq mk c dd) : Src B A I xs.length (fun σ => σ.m l = some (mk xs)) (fun i h => h.IsListIter I l i) (fun i v => xs[i]? = some v) where
  frame i h h' x k := let ⟨o, ho, r⟩ := x; ⟨o, k o ho, r⟩
  here i h x := let ⟨o, ho, r⟩ := x; ⟨o, ho⟩
  item i σ s hi e R hit Q k := by
    obtain ⟨vs, n, ho, hv⟩ := sq_at h R e
    refine next_sq hh hit ho rfl (fun x h' hx hit' hs => k x h' s.toks ?_ hit' fun b o hb e => hs.extBut b o hb e) fun hx => ?_
    · rw [sq_get hv, hx]; rfl
    · have := sq_get (i := i) hv
      rw [hx, List.getElem?_eq_getElem hi] at this; cases this
  done σ s e R hit Q k := by
    obtain ⟨vs, n, ho, hv⟩ := sq_at h R e
    refine next_sq hh hit ho rfl (fun x h' hx hit' hs => ?_) fun hx h' he => k h' s.toks fun b o hb e => he b o hb e
    have := sq_get (i := xs.length) hv
    rw [hx, List.getElem?_eq_none (Nat.le_refl _)] at this; cases this
  go i s t v x Q k := let ⟨o, ho, hc, _⟩ := x; go_iter ho hc (by decide) k
  self i s x Q k := wpAny_pyIter_listiter x k
theorem no_obj (h : Heap) : h.get? h.objs.size = none := by
  cases e : h.get? h.objs.size with
  | none => rfl
  | some o => exact absurd (Heap.lt_size e) (Nat.lt_irrefl _)
theorem it_list {l : Addr} (hh : A.handled = none) (e : σ.m l = some (.list xs)) : Iter B A (.ref l) σ xs.length (fun σ => σ.m l = some (.list xs)) (fun i v => xs[i]? = some v) := fun v hv s R Q k => by
  obtain rfl := ab_ref hv
  obtain ⟨vs, n, ho, hvs⟩ := sq_at IsSq.list R e
  exact wpAny_pyIter_list ⟨_, ho, rfl, _, rfl⟩ (k s.heap.objs.size _ _ s.toks (no_obj _) (fun b o e => Heap.get?_push_of_some _ e) (src_sq hh IsSq.list) ⟨_, Heap.get?_push_size _ rfl, rfl, rfl⟩)
theorem kind_liter : builtinKind "list.__iter__" = some .slot := by decide +kernel
theorem split_liter : splitId "list.__iter__" = some ("list", "__iter__") := by decide +kernel
theorem plain_liter : plainId "list.__iter__" = true := by decide +kernel
theorem it_dom (O : B.Ok) {l C dx : Addr} (hh : A.handled = none) (e : σ.m l = some (.dom C dx xs)) (hf : findIn B.K (.ref C) "__iter__" = some (some (.builtin "list.__iter__")) := by rfl) (hs : subIn B.K (.ref C) (.type "list") = some true := by rfl) :
    Iter B A (.ref l) σ xs.length (fun σ => σ.m l = some (.dom C dx xs)) (fun i v => xs[i]? = some v) := fun v hv s R Q k => by
  obtain rfl := ab_ref hv
  obtain ⟨vs, n, ho, hvs⟩ := sq_at (IsSq.dom C dx) R e
  have sp : ∀ {E : Value → Shared → Prop} {A : Around} {Q : Option Value → Shared → Prop}, Q (some (.builtin "list.__iter__")) s → wpAny (model B.prog B.w) A (specialOf (.ref l) "__iter__") Q E s := fun q =>
    wpAny_bind ((type_at R e rfl).here ((looks_findIn (R.kin O) hf).here q))
  have hc : wpAny (model B.prog B.w) A (call (.builtin "list.__iter__") [.ref l]) (fun it s' => ∃ r, s'.TypeIs it "list_iterator" ∧ typeLookup (.type "list_iterator") "__next__" = pure (some r) ∧ Q it s') (fun _ _ => False) s := by
    refine wpAny_call (codeAny_call_builtin plain_liter entry_list_iter (@check_slot (model B.prog B.w) _ _ s "list.__iter__" "list" "__iter__" (.ref l) [] [] _ kind_liter split_liter (isInst_at (c := .ref C) O R e rfl hs) (args_list_iter _) ?_))
    show wpAny _ _ (do ret (← newFields "list_iterator" [.ref l, rawInt 0])) _ _ s
    exact wpAny_bind (wpAny_newObj_type (wpAny_pure ⟨_, ⟨_, Heap.get?_push_size _ rfl, rfl⟩, slot_listiter_next.lookup, k s.heap.objs.size _ _ s.toks (no_obj _) (fun b o e => Heap.get?_push_of_some _ e) (src_sq hh (IsSq.dom C dx)) ⟨_, Heap.get?_push_size _ rfl, rfl, rfl⟩⟩))
  unfold pyIter
  refine wpAny_bind (sp ?_)
  dsimp only
  refine wpAny_bind ?_
  simp only [callSpecialIfBoundUnlessNone?, bindSpecialIfBound?]
  refine wpAny_holding (wpAny_bind (wpAny_bind (sp ?_)))
  simp only [slot_list_iter.bind]
  refine wpAny_bind (wpAny_askSetting (wpAny_ite ?_))
  have fin : ∀ (refuse : Sem Value) (Q' : Option Value → Shared → Prop), (∀ it s', (∃ r, s'.TypeIs it "list_iterator" ∧ typeLookup (.type "list_iterator") "__next__" = pure (some r) ∧ Q it s') → Q' (some it) s') →
      wpAny (model B.prog B.w) A (if (Value.builtin "list.__iter__" == Value.none) = true then (refuse >>= fun v => pure (some v)) else (call (.builtin "list.__iter__") [.ref l] >>= fun v => pure (some v))) Q' (fun _ _ => False) s := fun refuse Q' hq => by
    simp only [builtin_beq_none, Bool.false_eq_true, if_false]
    exact wpAny_bind (wpAny_mono hc (fun v s' h' => wpAny_pure (hq _ _ h')) fun _ _ h' => h')
  have next : ∀ it s', (∃ r, s'.TypeIs it "list_iterator" ∧ typeLookup (.type "list_iterator") "__next__" = pure (some r) ∧ Q it s') → wpAny (model B.prog B.w) A (specialOf it "__next__" >>= fun x => match x with
      | none => rule "iter.non-iterator" >>= fun _ => typeNameOf it >>= fun t => raiseError "TypeError" s!"iter() returned non-iterator of type '{t}'"
      | some _ => pure it) Q (fun _ _ => False) s' := fun it s' ⟨r, hT, hl, q⟩ => wpAny_bind (wpAny_specialOf hT hl (wpAny_pure q))
  split
  · exact wpAny_bind (wpAny_pure (wpAny_pure (fin _ _ fun it s' x => next it s' x)))
  · exact wpAny_tryCatch (wpAny_bind (wpAny_pure (wpAny_pure (fin _ _ fun it s' x => next it s' x))))

-- dictionaries
theorem EntsAre.pairs {prog : Program} {w : World} {es : List DictEntry} {ps : List (Int × AV)} (h : EntsAre es ps) : ∃ kvs, Pairs (intKind prog w) es kvs ∧ kvs.map (fun p => (p.1, ab p.2)) = ps := by
  induction h with
  | nil => exact ⟨[], .nil, rfl⟩
  | cons h _ ih =>
    obtain ⟨kvs, p, q⟩ := ih
    exact ⟨(_, _) :: kvs, .cons h.1 rfl p, by simp [q, h.2]⟩
theorem EntsAre.of {prog : Program} {w : World} {es : List DictEntry} {kvs : List (Int × Value)} (h : Pairs (intKind prog w) es kvs) : EntsAre es (kvs.map fun p => (p.1, ab p.2)) := by
  induction h with
  | nil => exact .nil
  | cons h e _ ih => exact .cons ⟨h, by rw [e]⟩ ih
theorem keys_map (kvs : List (Int × Value)) : (kvs.map fun p => (p.1, ab p.2)).map (·.1) = kvs.map (·.1) := by rw [List.map_map]; rfl
theorem dict_at {s : Shared} {d : Addr} {es : List (Int × AV)} {n : Nat} (R : Rel B σ s) (e : σ.m d = some (.dict es n)) : ∃ kvs, s.heap.DictAt (intKind B.prog B.w) d kvs n ∧ kvs.map (fun p => (p.1, ab p.2)) = es ∧ (d == sysModules) = false := by
  obtain ⟨_, o, ho, ens, rfl, hk, he, hn⟩ := R.own _ _ e
  obtain ⟨kvs, p, rfl⟩ := he.pairs (prog := B.prog) (w := B.w)
  refine ⟨kvs, ⟨_, ens, ho, ⟨rfl, rfl, rfl⟩, rfl, fun e he => ?_, p, keys_map kvs ▸ hn⟩, rfl, ?_⟩
  · obtain ⟨k, t, h1, h2⟩ := hk e he
    exact ⟨k, by rw [h1]; simp [intKind, Value.isInt], h2⟩
  · have h1 : mainGlobals < d := R.low.2 d (by rw [e]; exact nofun)
    have : d ≠ sysModules := Nat.ne_of_gt (Nat.lt_trans (by decide : sysModules < mainGlobals) h1)
    simpa using this
theorem is_dict {prog : Program} {w : World} {h : Heap} {d : Addr} {kvs : List (Int × Value)} {n : Nat} (x : h.DictAt (intKind prog w) d kvs n) : ∃ o, h.get? d = some o ∧ OIs o (.dict (kvs.map fun p => (p.1, ab p.2)) n) ∧ o.isFreed = false := by
  obtain ⟨⟨oc, od, oda, osl⟩, es, ho, ⟨h1, h2, h3⟩, hd, hk, hp, hn⟩ := x
  dsimp only at h1 h2 h3 hd
  subst h1 h2 h3 hd
  refine ⟨_, ho, ⟨es, rfl, fun e he => ?_, .of hp, (keys_map kvs).symm ▸ hn⟩, rfl⟩
  obtain ⟨k, h1, h2⟩ := hk e he
  obtain ⟨t, h3⟩ := Value.isInt_shape h1
  exact ⟨k, t, h3, h2⟩
theorem src_dict {I d : Addr} {es : List (Int × AV)} {n : Nat} (hh : A.handled = none) : Src B A I es.length (fun σ => σ.m d = some (.dict es n)) (fun i h => h.IsKeyIter I d i es.length n) (fun i v => ∃ p, es[i]? = some p ∧ v = .int p.1) where
  frame i h h' x k := let ⟨o, ho, r⟩ := x; ⟨o, k o ho, r⟩
  here i h x := let ⟨o, ho, r⟩ := x; ⟨o, ho⟩
  item i σ s hi e R hit Q k := by
    obtain ⟨kvs, hm, rfl, _⟩ := dict_at R e
    rw [List.length_map] at hi hit k
    obtain ⟨⟨key, x⟩, hx⟩ : ∃ p, kvs[i]? = some p := ⟨kvs[i], by simp [hi]⟩
    refine wpAny_pyNext_dict_item hit hm hx fun v h' hkey hit' hs => k v h' s.toks ⟨(key, ab x), by rw [List.getElem?_map, hx]; rfl, ?_⟩ hit' fun b o hb e => hs.extBut b o hb e
    obtain ⟨t, rfl⟩ := Value.isInt_shape hkey
    rfl
  done σ s e R hit Q k := by
    obtain ⟨kvs, hm, rfl, _⟩ := dict_at R e
    rw [List.length_map] at hit
    exact wpAny_pyNext_dict_end hh hit hm (by simp) fun h' he => k h' s.toks fun b o hb e => he b o hb e
  go i s t v x Q k := let ⟨o, ho, hc, _⟩ := x; go_iter ho hc (by decide) k
  self i s x Q k := wpAny_pyIter_keyiter x k
theorem it_dict {d : Addr} {es : List (Int × AV)} {n : Nat} (hh : A.handled = none) (e : σ.m d = some (.dict es n)) : Iter B A (.ref d) σ es.length (fun σ => σ.m d = some (.dict es n)) (fun i v => ∃ p, es[i]? = some p ∧ v = .int p.1) := fun v hv s R Q k => by
  obtain rfl := ab_ref hv
  obtain ⟨kvs, hm, rfl, hs⟩ := dict_at R e
  refine wpAny_pyIter_dict hs hm (k s.heap.objs.size _ _ s.toks (no_obj _) (fun b o e => Heap.get?_push_of_some _ e) (src_dict hh) ⟨_, Heap.get?_push_size _ rfl, rfl, ?_⟩)
  rw [List.length_map]; rfl
def viewObj (cls : String) (d : Addr) : Obj := { cls := .type cls, data := .fields #[.ref d] }
theorem src_vals {I d : Addr} {es : List (Int × AV)} {n : Nat} (hh : A.handled = none) : Src B A I es.length (fun σ => σ.m d = some (.dict es n)) (fun i h => h.IsValIter I d i es.length n) (fun i v => ∃ p, es[i]? = some p ∧ v = p.2) where
  frame i h h' x k := let ⟨o, ho, r⟩ := x; ⟨o, k o ho, r⟩
  here i h x := let ⟨o, ho, r⟩ := x; ⟨o, ho⟩
  item i σ s hi e R hit Q k := by
    obtain ⟨kvs, hm, rfl, _⟩ := dict_at R e
    rw [List.length_map] at hi hit k
    obtain ⟨⟨key, x⟩, hx⟩ : ∃ p, kvs[i]? = some p := ⟨kvs[i], by simp [hi]⟩
    exact wpAny_pyNext_values_item hit hm hx fun h' hit' hs => k x h' s.toks ⟨(key, ab x), by rw [List.getElem?_map, hx]; rfl, rfl⟩ hit' fun b o hb e => hs.extBut b o hb e
  done σ s e R hit Q k := by
    obtain ⟨kvs, hm, rfl, _⟩ := dict_at R e
    rw [List.length_map] at hit
    exact wpAny_pyNext_values_end hh hit hm (by simp) fun h' he => k h' s.toks fun b o hb e => he b o hb e
  go i s t v x Q k := let ⟨o, ho, hc, _⟩ := x; go_iter ho hc (by decide) k
  self i s x Q k := wpAny_pyIter_valiter x k
theorem raw_at {s : Shared} {a : Addr} {o : Obj} (R : Rel B σ s) (e : σ.m a = some (.raw o)) : s.heap.get? a = some o := by obtain ⟨_, o', ho, rfl⟩ := R.own _ _ e; exact ho
theorem it_vals {v d : Addr} {es : List (Int × AV)} {n : Nat} (hh : A.handled = none) (ev : σ.m v = some (.raw (viewObj "dict_values" d))) (e : σ.m d = some (.dict es n)) : Iter B A (.ref v) σ es.length (fun σ => σ.m d = some (.dict es n)) (fun i v => ∃ p, es[i]? = some p ∧ v = p.2) := fun vv hv s R Q k => by
  obtain rfl := ab_ref hv
  obtain ⟨kvs, hm, rfl, hs⟩ := dict_at R e
  refine wpAny_pyIter_values ⟨_, raw_at R ev, rfl, rfl⟩ hm (k s.heap.objs.size _ _ s.toks (no_obj _) (fun b o e => Heap.get?_push_of_some _ e) (src_vals hh) ⟨_, Heap.get?_push_size _ rfl, rfl, ?_⟩)
  rw [List.length_map]; rfl
theorem src_range {I : Addr} {m : Nat} (hh : A.handled = none) : Src B A I m (fun _ => True) (fun i h => IsRangeIter h I (i : Int) ((m : Int) - (i : Int)) 1) (fun i v => v = .int i) where
  frame i h h' x k := k _ x
  here i h x := ⟨_, x⟩
  item i σ s hi e R hit Q k := by
    refine wpAny_pyNext_range_item hit (by omega) fun h' hit' hs => k _ h' (s.toks + 1) rfl ?_ fun b o hb e => hs.extBut b o hb e
    have e2 : (m : Int) - ((i + 1 : Nat) : Int) = (m : Int) - (i : Int) - 1 := by push_cast; omega
    rw [e2]; exact_mod_cast hit'
  done σ s e R hit Q k := wpAny_pyNext_range_end hh hit (by omega) fun h' he => k h' s.toks fun b o hb e => he b o hb e
  go i s t v x Q k := go_iter x rfl (by decide) k
  self i s x Q k := wpAny_pyIter_rangeiter x k
end Mine
set_option maxHeartbeats 200000
namespace Mine
variable {B : Bs} {A : Around} {L : Addr} {α β : Type} {σ : St} {ℓ : Loc} {mk : List AV → AObj} {c : Value} {dd : Option Addr} {a : Addr} {xs : List AV}

/-- fewer objects shown -/
def St.Sub (σ σ' : St) : Prop := (∀ b ao, σ.m b = some ao → σ'.m b = some ao) ∧ σ.g = σ'.g
theorem Rel.sub {σ' : St} {s : Shared} (R : Rel B σ' s) (h : St.Sub σ σ') : Rel B σ s where
  base := R.base
  own b ao e := R.own b ao (h.1 b ao e)
  gens := R.gens.trans h.2.symm
  low := ⟨R.low.1, fun a e => R.low.2 a (by
    obtain ⟨ao, q⟩ := Option.ne_none_iff_exists'.mp e
    rw [h.1 a ao q]; exact nofun)⟩
theorem sub_none {σ' : St} (h : St.Sub σ σ') {b : Addr} (e : σ.m b ≠ none) : σ'.m b ≠ none := by
  obtain ⟨ao, q⟩ := Option.ne_none_iff_exists'.mp e
  rw [h.1 b ao q]; exact nofun
theorem T0.sub {t : Sem α} {Q : α → St → Prop} (h : T0 B A t σ fun v σ' => ∃ σ₂, St.Sub σ₂ σ' ∧ Q v σ₂) : T0 B A t σ Q := fun s R =>
  wpAny_mono (h s R) (fun _ _ ⟨σ', a, b, σ₂, S, q⟩ => ⟨σ₂, a.sub S, ⟨b.kept, fun b' e => b.grow b' (sub_none S e), b.os⟩, q⟩) fun _ _ x => x
theorem T.sub {t : Sem α} {Q : α → Loc → St → Prop} (h : T B A L t ℓ σ fun v ℓ' σ' => ∃ σ₂, St.Sub σ₂ σ' ∧ Q v ℓ' σ₂) : T B A L t ℓ σ Q := fun s R F =>
  wpAny_mono (h s R F) (fun _ _ ⟨ℓ', σ', a, f, b, σ₂, S, q⟩ => ⟨ℓ', σ₂, a.sub S, ⟨f.1, (by
      cases e : σ₂.m L with
      | none => rfl
      | some ao => (have := S.1 L ao e; rw [f.2.1] at this; cases this)), f.2.2⟩, ⟨b.kept, fun b' e => b.grow b' (sub_none S e), b.os, b.live⟩, q⟩) fun _ _ x => x
theorem sub_put {σ : St} {a b : Addr} {o o' : AObj} (h : σ.m a = none) (hab : b ≠ a) : St.Sub (σ.put b o') ((σ.put a o).put b o') := by
  refine ⟨fun x ao e => ?_, rfl⟩
  by_cases q : x = b
  · subst q; rw [put_same] at e ⊢; exact e
  · rw [put_other q] at e ⊢
    exact put_fresh h e
theorem sub_new {σ : St} {a : Addr} {o : AObj} (h : σ.m a = none) : St.Sub σ (σ.put a o) := ⟨fun x ao e => put_fresh h e, rfl⟩

/-- subscripts -/
def Gi (B : Bs) (A : Around) (o i : AV) (σ : St) (Q : AV → St → Prop) : Prop := ∀ vo vi, ab vo = o → ab vi = i → T0 B A (getItem vo vi) σ fun v => Q (ab v)
def Gp (B : Bs) (A : Around) (o : AV) (σ : St) : Prop := ∀ vo, ab vo = o → T0 B A (getitemInPython vo) σ fun b σ' => b = false ∧ σ' = σ
theorem gp_of (O : B.Ok) {ao : AObj} {id : String} (e : σ.m a = some ao) (hc : ao.cls = some c) (hf : findIn B.K c "__getitem__" = some (some (.builtin id)) := by rfl) : Gp B A (.ref a) σ := fun vo hv => by
  obtain rfl := ab_ref hv
  rw [getitemInPython_of_ne (by intro h; cases h)]
  refine T0.bind (t := specialOf (.ref a) "__getitem__") (T0.bind (T0.typeOf e hc (T0.find O hf ?_)))
  exact T0.pure ⟨rfl, rfl⟩
theorem subscripted_eq (sl : PySem.Expr) (o i : Value) : ∃ vs, subscripted sl false o i = operate vs (getItem o i) := by
  unfold subscripted
  split
  · exact ⟨_, rfl⟩
  · rename_i h; cases h
  · exact ⟨_, rfl⟩
theorem e_sub {env : Env} {pos : Pos} {value slice : PySem.Expr} {Q : AV → St → Prop} (h : Te B A env value ℓ σ fun o σ₁ => Te B A env slice ℓ σ₁ fun i σ₂ => Gp B A o σ₂ ∧ Gi B A o i σ₂ Q) : Te B A env (.Subscript value slice pos) ℓ σ Q := by
  show T _ _ _ (eval _ _) _ _ _
  rw [eval_Subscript]
  refine T.bind (T.mono h ?_)
  rintro o ℓ' σ' ⟨rfl, h'⟩
  refine T.bind (T.holding (T.mono h' ?_))
  rintro i ℓ'' σ'' ⟨rfl, hp, hg⟩
  refine T.bind (T.standAt (T.bind (T.of0 (T0.mono (hp o rfl) ?_))))
  rintro b σ₃ ⟨rfl, rfl⟩
  obtain ⟨vs, e⟩ := subscripted_eq slice o i
  rw [e]
  refine T.bind (T.operate (T.of0 (T0.mono (hg o i rfl rfl) fun r σ₄ q => ?_)))
  exact T.bind (T.of0 fun s R => wpAny_letTemporaryGo ⟨σ₄, R, .refl .., T.pure ⟨rfl, q⟩⟩)
theorem mem_rel {s : Shared} {es : List (Int × AV)} {kvs : List (Int × Value)} : True := trivial

def dget (es : List (Int × AV)) (k : Int) : Option AV := (es.find? fun p => p.1 = k).map (·.2)
def dset (es : List (Int × AV)) (k : Int) (v : AV) : List (Int × AV) := if es.any (fun p => p.1 = k) then es.map (fun p => if p.1 = k then (p.1, v) else p) else es ++ [(k, v)]
def ddel (es : List (Int × AV)) (k : Int) : List (Int × AV) := es.filter fun p => decide (p.1 ≠ k)
theorem dget_of (kvs : List (Int × Value)) (k : Int) : dget (kvs.map fun p => (p.1, ab p.2)) k = (valueAt kvs k).map ab := by
  unfold dget valueAt
  induction kvs with
  | nil => rfl
  | cons p r ih =>
    simp only [List.map_cons, List.find?_cons]
    by_cases h : p.1 = k
    · simp [h]
    · simp only [h, decide_false]; exact ih
theorem dset_of (kvs : List (Int × Value)) (k : Int) (v : Value) : (stored kvs k v).map (fun p => (p.1, ab p.2)) = dset (kvs.map fun p => (p.1, ab p.2)) k (ab v) := by
  unfold stored dset
  have : (kvs.map fun p => (p.1, ab p.2)).any (fun p => decide (p.1 = k)) = kvs.any fun p => decide (p.1 = k) := by rw [List.any_map]; rfl
  rw [this]
  split
  · rw [List.map_map, List.map_map]
    apply List.map_congr_left
    intro p _
    simp only [Function.comp]
    split <;> rfl
  · rw [List.map_append]; rfl
theorem gi_dict {d : Addr} {es : List (Int × AV)} {n : Nat} {k : Int} {v : AV} {Q : AV → St → Prop} (e : σ.m d = some (.dict es n)) (hv : dget es k = some v) (h : Q v σ) : Gi B A (.ref d) (.int k) σ Q := fun vo vi ho hi s R => by
  obtain rfl := ab_ref ho
  obtain ⟨t, rfl⟩ := ab_int hi
  obtain ⟨kvs, hm, rfl, _⟩ := dict_at R e
  rw [dget_of] at hv
  obtain ⟨w, hw, rfl⟩ := Option.map_eq_some_iff.mp hv
  exact wpAny_getItem_of (knd := intKind B.prog B.w) (k := k) (by simp [intKind, Value.isInt]) hm.dictOf.mapOf hw ⟨σ, R.tok, .tok, h⟩
theorem Rel.same {s : Shared} {h' : Heap} {k : Nat} {a : Addr} {ao ao' : AObj} {o : Obj} (R : Rel B σ s) (e : σ.m a = some ao) (hs : Heap.SameBut a s.heap h') (ho : h'.get? a = some o) (h : OIs o ao') :
    Rel B (σ.put a ao') { s with heap := h', toks := k } ∧ Step σ s (σ.put a ao') { s with heap := h', toks := k } := by
  have h0 := (R.own a ao e).1
  refine ⟨⟨fun b ob eb => (hs.2 b (by rintro rfl; rw [h0] at eb; cases eb)).trans (R.base b ob eb), fun b ab' eb => ?_, R.gens, R.low.1, fun b hb => ?_⟩, ⟨fun b ob eb hb => (hs.2 b (by rintro rfl; rw [e] at hb; cases hb)).trans eb, fun b hb => ?_, rfl⟩⟩
  · by_cases q : b = a
    · subst q; rw [put_same] at eb; cases eb; exact ⟨h0, _, ho, h⟩
    · rw [put_other q] at eb; obtain ⟨x, o, ho, y⟩ := R.own b ab' eb; exact ⟨x, o, (hs.2 b q).trans ho, y⟩
  · by_cases q : b = a
    · subst q; exact R.low.2 b (by rw [e]; exact nofun)
    · rw [put_other q] at hb; exact R.low.2 b hb
  · by_cases q : b = a
    · subst q; left; rw [e]; exact nofun
    · rw [put_other q] at hb; exact .inl hb
/-- an item stored -/
def Si (B : Bs) (A : Around) (o i v : AV) (σ : St) (Q : St → Prop) : Prop := ∀ vo vi vv, ab vo = o → ab vi = i → ab vv = v → T0 B A (setItem vo vi vv) σ fun _ => Q
theorem si_dict {d : Addr} {es : List (Int × AV)} {n : Nat} {k : Int} {v : AV} {Q : St → Prop} (e : σ.m d = some (.dict es n)) (hz : es.length ≤ sizeLine) (h : ∀ n', Q (σ.put d (.dict (dset es k v) n'))) : Si B A (.ref d) (.int k) v σ Q := fun vo vi vv ho hi hv s R => by
  obtain rfl := ab_ref ho
  obtain ⟨t, rfl⟩ := ab_int hi
  subst hv
  obtain ⟨kvs, hm, rfl, _⟩ := dict_at R e
  rw [List.length_map] at hz
  refine wpAny_setItem_pairs (knd := intKind B.prog B.w) (k := k) (by simp [intKind, Value.isInt]) hm.dictOf (fun h' hd hs => ?_) hz
  obtain ⟨n', hd'⟩ := hd.dictAt
  obtain ⟨o, ho', hi', _⟩ := is_dict hd'
  rw [dset_of] at hi'
  obtain ⟨a1, a2⟩ := R.same (k := s.toks + 1) e hs ho' hi'
  exact ⟨_, a1, a2, h n'⟩
/-- an item taken out -/
def Di (B : Bs) (A : Around) (o i : AV) (σ : St) (Q : St → Prop) : Prop := ∀ vo vi, ab vo = o → ab vi = i → T0 B A (delItem vo vi) σ fun _ => Q
theorem di_dict {d : Addr} {es : List (Int × AV)} {n : Nat} {k : Int} {v : AV} {Q : St → Prop} (e : σ.m d = some (.dict es n)) (hz : es.length ≤ sizeLine) (hv : dget es k = some v) (h : ∀ n', Q (σ.put d (.dict (ddel es k) n'))) : Di B A (.ref d) (.int k) σ Q := fun vo vi ho hi s R => by
  obtain rfl := ab_ref ho
  obtain ⟨t, rfl⟩ := ab_int hi
  obtain ⟨kvs, hm, rfl, _⟩ := dict_at R e
  rw [List.length_map] at hz
  rw [dget_of] at hv
  have hv' : (valueAt kvs k).isSome = true := by
    obtain ⟨w, hw, _⟩ := Option.map_eq_some_iff.mp hv
    rw [hw]; rfl
  have hT := hm.dictOf.typeIs
  unfold delItem
  try with_reducible refine wpAny_holding ?_
  refine wpAny_bind (wpAny_sequenceKey hT (by decide) ?_)
  refine wpAny_bind (wpAny_callSpecial?_slot (name := Str.ofString "__delitem__") hT PySem.F.slot_dict_delitem
    (call_meetsIn PySem.F.slot_dict_delitem hT PySem.F.entry_dict_delitem (PySem.F.args_dict_delitem_2 _ _) (meets_dict_delitem_pairs (intKind B.prog B.w) d (k := k) (by simp [intKind, Value.isInt])) ⟨kvs, hm.dictOf, hz, hv', fun h' hmm hs => ?_⟩))
  obtain ⟨n', hd'⟩ := hmm.dictAt
  obtain ⟨o, ho', hi', _⟩ := is_dict hd'
  have : (without kvs k).map (fun p => (p.1, ab p.2)) = ddel (kvs.map fun p => (p.1, ab p.2)) k := by
    unfold without ddel
    rw [List.filter_map]
    rfl
  rw [this] at hi'
  obtain ⟨a1, a2⟩ := R.same (k := s.toks + 1) e hs ho' hi'
  exact wpAny_pure ⟨_, a1, a2, h n'⟩
theorem cmp_in_dict {d : Addr} {es : List (Int × AV)} {n : Nat} {k : Int} {Q : AV → St → Prop} (e : σ.m d = some (.dict es n)) (h : Q (.bool (dget es k).isSome) σ) : Cmp B A .In (.int k) (.ref d) σ Q := fun va vb ha hb s R => by
  obtain rfl := ab_ref hb
  obtain ⟨t, rfl⟩ := ab_int ha
  obtain ⟨kvs, hm, rfl, hs⟩ := dict_at R e
  rw [dget_of, Option.isSome_map] at h
  exact wpAny_in_of (knd := intKind B.prog B.w) (k := k) (by simp [intKind, Value.isInt]) hs hm.dictOf.mapOf ⟨σ, R.tok, .tok, h⟩
theorem cmp_notin_dict {d : Addr} {es : List (Int × AV)} {n : Nat} {k : Int} {Q : AV → St → Prop} (e : σ.m d = some (.dict es n)) (h : Q (.bool (!(dget es k).isSome)) σ) : Cmp B A .NotIn (.int k) (.ref d) σ Q := fun va vb ha hb s R => by
  obtain rfl := ab_ref hb
  obtain ⟨t, rfl⟩ := ab_int ha
  obtain ⟨kvs, hm, rfl, hs⟩ := dict_at R e
  rw [dget_of, Option.isSome_map] at h
  exact wpAny_notIn_of (knd := intKind B.prog B.w) (k := k) (by simp [intKind, Value.isInt]) hs hm.dictOf.mapOf ⟨σ, R.tok, .tok, h⟩
theorem a_sub {env : Env} {o i : PySem.Expr} {pos : Pos} {v : AV} {Q : Loc → St → Prop} (h : Te B A env o ℓ σ fun ov σ₁ => Te B A env i ℓ σ₁ fun iv σ₂ => Si B A ov iv v σ₂ fun σ₃ => Q ℓ σ₃) : Ta B A env (.Subscript o i pos) v ℓ σ Q := fun va hv => by
  rw [assign_Subscript]
  refine T.bind (T.holding (T.mono h ?_))
  rintro ov ℓ' σ' ⟨rfl, h'⟩
  refine T.bind (T.holding (T.mono h' ?_))
  rintro iv ℓ'' σ'' ⟨rfl, h3⟩
  refine T.bind (T.standAt (T.bind (T.holding (T.of0 (T0.mono (h3 ov iv va rfl rfl hv) fun _ σ₃ q => ?_)))))
  exact T.of0 (T0.release q)
theorem a_attr {env : Env} {o : PySem.Expr} {name : Str} {pos : Pos} {v : AV} {Q : Loc → St → Prop} (h : Te B A env o ℓ σ fun ov σ₁ => Sat B A ov name v σ₁ fun σ₂ => Q ℓ σ₂) : Ta B A env (.Attribute o name pos) v ℓ σ Q := fun va hv => by
  show T _ _ _ (do let ov ← holding [va] (eval o env); standAt pos.atName; holding [va, ov] (setAttr ov name va); release [va, ov] []) _ _ _
  refine T.bind (T.holding (T.mono h ?_))
  rintro ov ℓ' σ' ⟨rfl, h'⟩
  refine T.bind (T.standAt (T.bind (T.holding (T.of0 (T0.mono (h' ov va rfl hv) fun _ σ₃ q => ?_)))))
  exact T.of0 (T0.release q)
theorem x_del {env : Env} {o i : PySem.Expr} {p pos : Pos} {Q : AF → Loc → St → Prop} (h : Te B A env o ℓ σ fun ov σ₁ => Te B A env i ℓ σ₁ fun iv σ₂ => Di B A ov iv σ₂ fun σ₃ => Q .next ℓ σ₃) : Tx B A env (.Delete [.Subscript o i p] pos) ℓ σ Q := by
  show T _ _ _ (do standAt pos; deleteEach [.Subscript o i p] env; pure Flow.next) _ _ _
  refine T.bind (T.standAt (T.bind ?_))
  show T _ _ _ (delete (.Subscript o i p) env >>= fun _ => pure ()) _ _ _
  refine T.bind ?_
  show T _ _ _ (do let ov ← eval o env; let iv ← holding [ov] (eval i env); standAt p; holding [ov, iv] (delItem ov iv); release [ov, iv] []) _ _ _
  refine T.bind (T.mono h ?_)
  rintro ov ℓ' σ' ⟨rfl, h'⟩
  refine T.bind (T.holding (T.mono h' ?_))
  rintro iv ℓ'' σ'' ⟨rfl, h3⟩
  refine T.bind (T.standAt (T.bind (T.holding (T.of0 (T0.mono (h3 ov iv rfl rfl) fun _ σ₃ q => ?_)))))
  exact T.of0 (T0.release (T.pure (T.pure q)))
end Mine
set_option maxHeartbeats 200000
namespace Mine
variable {B : Bs} {A : Around} {L : Addr} {α β : Type} {σ : St} {ℓ : Loc} {mk : List AV → AObj} {c : Value} {dd : Option Addr} {a : Addr} {xs : List AV}

theorem gi_list {i : Int} {v : AV} {Q : AV → St → Prop} (e : σ.m a = some (.list xs)) (h0 : 0 ≤ i) (hz : xs.length ≤ sizeLine) (hv : xs[i.toNat]? = some v) (h : Q v σ) : Gi B A (.ref a) (.int i) σ Q := fun vo vi ho hi s R => by
  obtain rfl := ab_ref ho
  obtain ⟨t, rfl⟩ := ab_int hi
  obtain ⟨vs, n, hx, hvs⟩ := sq_at IsSq.list R e
  have q := sq_get (i := i.toNat) hvs
  rw [hv] at q
  obtain ⟨w, hw, rfl⟩ := Option.map_eq_some_iff.mp q.symm
  have hl : i.toNat < vs.size := by
    rcases Nat.lt_or_ge i.toNat vs.size with h | h
    · exact h
    · rw [Array.getElem?_eq_none h] at hw; cases hw
  have := sq_size hvs
  have hs : sizeLine = 16777216 := sizeLine_eq
  exact wpAny_getItem_list ⟨_, hx, rfl, _, rfl⟩ h0 (by omega) hw ⟨σ, R, .refl .., h⟩
theorem tup_at {s : Shared} (R : Rel B σ s) (e : σ.m a = some (.tup xs)) : ∃ vs n, s.heap.get? a = some ⟨.type "tuple", none, .seq vs n, #[]⟩ ∧ vs.toList.map ab = xs := by
  obtain ⟨_, o, ho, vs, n, rfl, h⟩ := R.own a _ e; exact ⟨vs, n, ho, h⟩
theorem gi_tup {i : Int} {k : Nat} {v : AV} {Q : AV → St → Prop} (e : σ.m a = some (.tup xs)) (hk : seqIndex? i xs.length = some k) (hv : xs[k]? = some v) (h : Q v σ) (hlo : -2 ^ 63 ≤ i := by decide) (hhi : i < 2 ^ 63 := by decide) : Gi B A (.ref a) (.int i) σ Q := fun vo vi ho hi s R => by
  obtain rfl := ab_ref ho
  obtain ⟨t, rfl⟩ := ab_int hi
  obtain ⟨vs, n, hx, hvs⟩ := tup_at R e
  have q := sq_get (i := k) hvs
  rw [hv] at q
  obtain ⟨w, hw, rfl⟩ := Option.map_eq_some_iff.mp q.symm
  rw [← sq_size hvs] at hk
  exact P.getItem_tuple hx hlo hhi hk hw ⟨σ, R, .refl .., h⟩

-- slices
def apick (xs : List AV) (lo hi st : Option Int) : List AV := (sliceRange (sliceBounds lo hi st xs.length).1 (sliceBounds lo hi st xs.length).2.1 (sliceBounds lo hi st xs.length).2.2).filterMap (xs.toArray[·]?)
theorem apick_of {vs : Array Value} (h : vs.toList.map ab = xs) (lo hi st : Option Int) : (slicePick vs lo hi st).toList.map ab = apick xs lo hi st := by
  unfold slicePick apick
  rw [sq_size h]
  show (List.filterMap _ _).map ab = _
  rw [List.map_filterMap]
  congr 1
  funext k
  subst h
  simp
theorem apick_all : apick xs none none none = xs := by
  have e : sliceBounds none none none xs.length = (((0 : Nat) : Int), (xs.length : Int), 1) := by simp [sliceBounds]
  unfold apick
  rw [e]
  simp only [sliceRange_one, pick_run]
  simp
theorem apick_from (k : Nat) (h : k ≤ xs.length) : apick xs (some k) none none = xs.drop k := by
  have e : sliceBounds (some (k : Int)) none none xs.length = ((k : Int), (xs.length : Int), 1) := by
    simp only [sliceBounds, Option.getD_none]
    have h1 : ¬ ((k : Int) < 0) := by omega
    simp only [h1, if_false, show (1 : Int) > 0 by decide, if_true]
    congr 1
    omega
  unfold apick
  rw [e]
  simp only [sliceRange_one, pick_run]
  rw [List.take_of_length_le (by simp)]
theorem apick_last (k : Nat) (h : k ≤ xs.length) (h0 : 0 < k) : apick xs (some (-(k : Int))) none none = xs.drop (xs.length - k) := by
  have e : sliceBounds (some (-(k : Int))) none none xs.length = (((xs.length - k : Nat) : Int), (xs.length : Int), 1) := by
    simp only [sliceBounds, Option.getD_none]
    have h1 : (-(k : Int) < 0) := by omega
    simp only [h1, show (1 : Int) > 0 by decide, if_true]
    congr 1
    omega
  unfold apick
  rw [e]
  simp only [sliceRange_one, pick_run]
  rw [List.take_of_length_le (by simp)]
theorem apick_upto (k : Nat) : apick xs none (some k) none = xs.take k := by
  have e : sliceBounds none (some (k : Int)) none xs.length = (((0 : Nat) : Int), ((min k xs.length : Nat) : Int), 1) := by
    simp only [sliceBounds, Option.getD_none]
    have h1 : ¬ ((k : Int) < 0) := by omega
    simp only [h1, if_false, show (1 : Int) > 0 by decide, if_true]
    congr 1
    congr 1; omega
  unfold apick
  rw [e]
  simp only [sliceRange_one, pick_run]
  simp [List.take_eq_take_iff]
inductive IsP : AV → Option Int → Prop where
  | none : IsP .none none
  | int (i : Int) : IsP (.int i) (some i)
theorem IsP.part {v : Value} {x : AV} {k : Option Int} (h : IsP x k) (e : ab v = x) : IsPart v k := by
  cases h with
  | none => obtain rfl := ab_none e; exact .none
  | int i => obtain ⟨t, rfl⟩ := ab_int e; exact .int i t
def sliceObj (l u st : Value) : Obj := { cls := .type "slice", data := .fields #[l, u, st] }
def seqKeyOk (K : Frag) : Value → Bool
  | .type n => !seqItemTypes.contains n
  | c => subIn K c (.type "collections.deque") == some false
theorem T0.seqKey (O : B.Ok) {ao : AObj} {k : Value} {name : Str} {Q : Value → St → Prop} (e : σ.m a = some ao) (hc : ao.cls = some c) (hq : seqKeyOk B.K c = true) (hcr : (∃ n, c = .type n) ∨ ∃ C, c = .ref C) (h : Q k σ) : T0 B A (sequenceKey (.ref a) k name) σ Q := by
  unfold sequenceKey
  refine T0.bind (T0.typeOf e hc ?_)
  rcases hcr with ⟨n, rfl⟩ | ⟨C, rfl⟩
  · dsimp only
    rw [show seqItemTypes.contains n = false by simpa [seqKeyOk] using hq]
    exact T0.pure h
  · dsimp only
    refine T0.bind (T0.mono (Q := fun b σ' => b = false ∧ σ' = σ) ?_ ?_)
    · show T0 B A (isSubtype (.ref C) (.type "collections.deque") >>= _) σ _
      refine T0.bind (fun s R => (looks_subIn (R.kin O) (r := false) (beq_iff_eq.mp hq)).here ⟨σ, R, .refl .., ?_⟩)
      exact T0.pure ⟨rfl, rfl⟩
    · rintro b σ' ⟨rfl, rfl⟩
      exact T0.pure h
theorem IsSq.shape (h : IsSq mk c dd) : (∃ n, c = .type n) ∨ ∃ C, c = .ref C := by cases h; exact .inl ⟨_, rfl⟩; exact .inr ⟨_, rfl⟩
theorem kind_gi : builtinKind "list.__getitem__" = some .method := by decide +kernel
theorem split_gi : splitId "list.__getitem__" = some ("list", "__getitem__") := by decide +kernel
theorem plain_gi : plainId "list.__getitem__" = true := by decide +kernel
theorem chk_gi {Q : Unit → St → Prop} {v : Value} (hi : ∀ s, Rel B σ s → Looks (model B.prog B.w) s.heap (isInstance (.ref a) (.type "list")) true) (h : Q () σ) : T0 B A (checkBuiltinCall "list.__getitem__" ⟨[.ref a, v], []⟩) σ Q := by
  have k1 := kind_gi
  have k2 := split_gi
  have k3 := args_list_getitem (.ref a) v
  exact @chk_meth B A σ "list.__getitem__" "list" "__getitem__" a [v] Q k1 k2 hi k3 h
theorem f_slice {vl vu vs : Value} {sl : Addr} {lo hi st : Option Int} {Q : AV → St → Prop} (h : IsSq mk c dd) (e : σ.m a = some (mk xs)) (es : σ.m sl = some (.raw (sliceObj vl vu vs))) (pl : IsPart vl lo) (pu : IsPart vu hi) (ps : IsPart vs st) (h0 : st ≠ some 0)
    (hz : xs.length ≤ sizeLine) (k : ∀ b, σ.m b = none → Q (.ref b) (σ.put b (.list (apick xs lo hi st)))) : Tf B A (Builtin.«list.__getitem__» ⟨[.ref a, .ref sl], []⟩) σ Q := fun s R => by
  obtain ⟨items, n, ho, hv⟩ := sq_at h R e
  have hs := raw_at R es
  have hTs : s.TypeIs (.ref sl) "slice" := ⟨_, hs, rfl⟩
  show wpAny _ _ (Builtin.List.listSubscript? (.ref sl) >>= _) _ _ s
  refine wpAny_bind ?_
  unfold Builtin.List.listSubscript?
  refine wpAny_bind (wpAny_specialOf hTs slice_no_index ?_)
  simp only [Option.isNone_none, if_true]
  refine wpAny_pure ?_
  show wpAny _ _ (typeOf (.ref sl) >>= _) _ _ s
  refine wpAny_bind (wpAny_typeOf hTs ?_)
  rw [if_neg (by decide)]
  rw [listSliceParts_eq]
  have hstep : ¬ ((rawPart st == rawInt 0) = true) := by
    cases st with
    | none => exact Bool.false_ne_true
    | some c =>
      intro hh
      have : c = 0 := by simpa [rawPart, rawInt] using hh
      exact h0 (by rw [this])
  refine wpAny_bind (wpAny_bind (wpAny_field hs rfl (x := vs) rfl (wpAny_bind (wpAny_listPart ps ?_))))
  rw [if_neg hstep]
  refine wpAny_bind (wpAny_field hs rfl (x := vl) rfl (wpAny_bind (wpAny_listPart pl ?_)))
  refine wpAny_bind (wpAny_field hs rfl (x := vu) rfl (wpAny_bind (wpAny_listPart pu (wpAny_pure ?_))))
  refine wpAny_bind (m := Builtin.List.listItems (.ref a)) ?_
  unfold Builtin.List.listItems
  refine wpAny_bind (wpAny_seqItems ho rfl (wpAny_pure ?_))
  refine wpAny_bind (wpAny_of_eq (sliceIndices_raw lo hi st items.size h0) ?_)
  refine wpAny_bind (wpAny_newObj_type (wpAny_pure ?_) (Nat.le_trans (slicePick_size_le items lo hi st) (by rw [sq_size hv]; exact hz)))
  obtain ⟨R', S, hm⟩ := R.push (o := { cls := .type "list", data := .seq (slicePick items lo hi st) }) (ao := .list (apick xs lo hi st)) ⟨_, _, rfl, apick_of hv lo hi st⟩ rfl
  exact ⟨_, _, rfl, R', S, k _ hm⟩
theorem gi_slice (O : B.Ok) {vl vu vs : Value} {sl : Addr} {lo hi st : Option Int} {Q : AV → St → Prop} (h : IsSq mk c dd) (e : σ.m a = some (mk xs)) (es : σ.m sl = some (.raw (sliceObj vl vu vs))) (pl : IsPart vl lo) (pu : IsPart vu hi) (ps : IsPart vs st) (h0 : st ≠ some 0)
    (hz : xs.length ≤ sizeLine) (k : ∀ b, σ.m b = none → Q (.ref b) (σ.put b (.list (apick xs lo hi st)))) (hq : seqKeyOk B.K c = true) (hf : findIn B.K c "__getitem__" = some (some (.builtin "list.__getitem__"))) (hs : subIn B.K c (.type "list") = some true) : Gi B A (.ref a) (.ref sl) σ Q := fun vo vi ho hi' => by
  obtain rfl := ab_ref ho
  obtain rfl := ab_ref hi'
  unfold getItem
  try with_reducible refine T0.holding ?_
  refine T0.bind (T0.seqKey O e (h.cls xs) hq h.shape (T0.bind (special_at O e (h.cls xs) hf slot_list_getitem.bind (call_builtin plain_gi entry_list_getitem fun vs' hv => ?_))))
  obtain ⟨u, v, rfl, h1, h2⟩ := two hv
  obtain rfl := ab_ref h1
  obtain rfl := ab_ref h2
  refine chk_gi (inst_sq O h e hs) (f_slice h e es pl pu ps h0 hz fun b hb => ?_)
  intro w hw
  obtain rfl := ab_ref hw
  exact T0.pure (k b hb)
def Tp (B : Bs) (A : Around) (env : Env) : Option PySem.Expr → Loc → St → (AV → St → Prop) → Prop
  | none, _, σ, Q => Q .none σ
  | some e, ℓ, σ, Q => Te B A env e ℓ σ Q
theorem T.part {env : Env} {o : Option PySem.Expr} {Q : AV → St → Prop} (h : Tp B A env o ℓ σ Q) : T B A env.locals (valueOrNone (evalOpt o env)) ℓ σ fun v ℓ' σ' => ℓ' = ℓ ∧ Q (ab v) σ' := by
  cases o with
  | none => exact T.pure ⟨rfl, h⟩
  | some e => exact h
theorem e_slice (O : B.Ok) {env : Env} {pos p : Pos} {value : PySem.Expr} {lower upper step : Option PySem.Expr} {Q : AV → St → Prop} {lo hi st : Option Int} (h : IsSq mk c dd)
    (hh : Te B A env value ℓ σ fun o σ₁ => Tp B A env lower ℓ σ₁ fun l σ₂ => Tp B A env upper ℓ σ₂ fun u σ₃ => Tp B A env step ℓ σ₃ fun t σ₄ =>
      o = .ref a ∧ σ₄.m a = some (mk xs) ∧ IsP l lo ∧ IsP u hi ∧ IsP t st ∧ xs.length ≤ sizeLine ∧ ∀ b, σ₄.m b = none → Q (.ref b) (σ₄.put b (.list (apick xs lo hi st))))
    (h0 : st ≠ some 0 := by decide) (hq : seqKeyOk B.K c = true := by rfl) (hf : findIn B.K c "__getitem__" = some (some (.builtin "list.__getitem__")) := by rfl) (hs : subIn B.K c (.type "list") = some true := by rfl) : Te B A env (.Subscript value (.Slice lower upper step p) pos) ℓ σ Q := by
  show T _ _ _ (eval _ _) _ _ _
  rw [eval_Subscript]
  refine T.bind (T.mono hh ?_)
  rintro o ℓ' σ' ⟨rfl, h'⟩
  rw [arm_eval_Slice]
  refine T.bind (T.holding (T.bind (T.mono (T.part h') ?_)))
  rintro l ℓ₁ σ₁ ⟨rfl, h₁⟩
  refine T.bind (T.holding (T.mono (T.part h₁) ?_))
  rintro u ℓ₂ σ₂ ⟨rfl, h₂⟩
  refine T.bind (T.holding (T.mono (T.part h₂) ?_))
  rintro t ℓ₃ σ₃ ⟨rfl, ho, e, p1, p2, p3, hz, k⟩
  obtain rfl := ab_ref ho
  refine T.of0 (fun s R => ?_)
  refine wpAny_newObj_type ?_
  obtain ⟨R', S, hm⟩ := R.push (o := sliceObj l u t) (ao := .raw (sliceObj l u t)) rfl rfl
  refine ⟨_, R', S, ?_⟩
  have ea : (σ₃.put s.heap.objs.size (.raw (sliceObj l u t))).m a = some (mk xs) := put_fresh hm e
  refine T.bind (T.standAt (T.bind (T.of0 (T0.mono (gp_of O ea (h.cls xs) hf _ rfl) ?_))))
  rintro b σ₄ ⟨rfl, rfl⟩
  obtain ⟨vs, e'⟩ := subscripted_eq (.Slice lower upper step p) (.ref a) (.ref s.heap.objs.size)
  rw [e']
  have G := gi_slice (A := A) O (Q := fun v σ' => ∃ σ₂, St.Sub σ₂ σ' ∧ Q v σ₂) h ea (put_same ..) (p1.part rfl) (p2.part rfl) (p3.part rfl) h0 hz (fun b hb => ?_) hq hf hs
  · refine T.sub (T.bind (T.operate (T.of0 (T0.mono (G _ _ rfl rfl) ?_))))
    rintro r σ₅ ⟨σ₆, S6, q⟩
    exact T.bind (T.of0 fun s R => wpAny_letTemporaryGo ⟨σ₅, R, .refl .., T.pure ⟨σ₆, S6, rfl, q⟩⟩)
  · have hbs : b ≠ s.heap.objs.size := by rintro rfl; rw [put_same] at hb; cases hb
    exact ⟨_, sub_put hm hbs, k b (by rw [put_other hbs] at hb; exact hb)⟩
end Mine
set_option maxHeartbeats 200000
namespace Mine
variable {B : Bs} {A : Around} {L : Addr} {α β : Type} {σ : St} {ℓ : Loc} {mk : List AV → AObj} {c : Value} {dd : Option Addr} {a : Addr} {xs : List AV}

/-- targets in a row -/
def TaL (B : Bs) (A : Around) (env : Env) : List PySem.Expr → List AV → Loc → St → (Loc → St → Prop) → Prop
  | t :: ts, v :: vs, ℓ, σ, Q => Ta B A env t v ℓ σ fun ℓ' σ' => TaL B A env ts vs ℓ' σ' Q
  | _, _, ℓ, σ, Q => Q ℓ σ
theorem TaL.run {env : Env} {Q : Loc → St → Prop} : ∀ (ts : List PySem.Expr) (vs : List Value) {ℓ : Loc} {σ : St}, TaL B A env ts (vs.map ab) ℓ σ Q → T B A env.locals (assignInOrder (ts.map fun t => assign t env) vs) ℓ σ fun _ => Q
  | [], _, _, _, h => T.pure h
  | _ :: _, [], _, _, h => T.pure h
  | t :: ts, v :: vs, _, _, h => T.bind (T.holding (T.mono (h v rfl) fun _ _ _ h' => TaL.run ts vs h'))
theorem a_tuple {env : Env} {ts : List PySem.Expr} {k : Nat} {pos : Pos} {vs : List AV} {Q : Loc → St → Prop} (hh : A.handled = none) (e : σ.m a = some (.tup vs)) (hn : ts.length = vs.length) (h : TaL B A env ts vs ℓ σ Q)
    (hs : assignEach ts env = ts.map fun t => (false, assign t env) := by rfl) : Ta B A env (.Tuple ts k pos) (.ref a) ℓ σ Q := fun va hv => by
  obtain rfl := ab_ref hv
  show T _ _ _ (do standAt pos; unpack (.ref a) (assignEach ts env)) _ _ _
  rw [hs]
  refine T.bind (T.standAt fun s R F => ?_)
  obtain ⟨ws, n, ho, hw⟩ := tup_at R e
  refine wpAny_unpack_tuple hh ⟨_, ho, rfl, _, rfl⟩ (by rw [List.length_map, hn, ← hw]; simp) ?_ fun h' he => ?_
  · rw [List.findIdx?_eq_none_iff]
    intro x hx
    obtain ⟨t, _, rfl⟩ := List.mem_map.mp hx
    rfl
  · have hI := no_obj s.heap
    obtain ⟨f1, f2⟩ := R.free hI
    obtain ⟨oL, eL⟩ := F.at
    have hIL : s.heap.objs.size ≠ env.locals := by intro q; rw [← q, hI] at eL; cases eL
    have : (List.map (·.2) (ts.map fun t => (false, assign t env))) = ts.map fun t => assign t env := by rw [List.map_map]; rfl
    rw [this]
    have S0 : StepL env.locals σ s σ { s with heap := h' } := (StepL.refl F).soft (k := s.toks) hIL hI fun b o hb e => he b o hb e
    refine wpAny_mono (TaL.run ts ws.toList (hw.symm ▸ h) { s with heap := h' } (R.soft (k := s.toks) f1 f2 fun b o hb e => he b o hb e) (F.soft (fun b o hb e => he b o hb e) hIL)) (fun _ s₂ ⟨ℓ₂, σ₂, R₂, F₂, S₂, q⟩ => ⟨ℓ₂, σ₂, R₂, F₂, S0.trans S₂, q⟩) fun _ _ x => x

theorem x_while {env : Env} {pos : Pos} {test : PySem.Expr} {body orelse : List Stmt} {Q : AF → Loc → St → Prop} (J : Nat → Loc → St → Prop) (n : Nat) (h : J n ℓ σ)
    (step : ∀ k ℓ' σ', J k ℓ' σ' → Tt B A env test ℓ' σ' fun b σ₂ => if b = true then Ts B A env body ℓ' σ₂ fun f ℓ₃ σ₃ => match f with | .next => ∃ m, m < k ∧ J m ℓ₃ σ₃ | .cont => ∃ m, m < k ∧ J m ℓ₃ σ₃ | .brk => Q .next ℓ₃ σ₃ | .ret v => Q (.ret v) ℓ₃ σ₃
      else Ts B A env orelse ℓ' σ₂ Q) : Tx B A env (.While test body orelse pos) ℓ σ Q := fun s R F => by
  refine wpAny_While ?_
  have E0 : ∀ (e : Value) (s : Shared), False → notedBy (model B.prog B.w) A env (fun e s' => False) e s := fun _ _ x => x.elim
  refine codeAny_mono (R := fun r s' => match r with | .ok f => ∃ ℓ' σ', Rel B σ' s' ∧ FrIs B env.locals ℓ' σ' s'.heap ∧ StepL env.locals σ s σ' s' ∧ Q (abF f) ℓ' σ' | .error _ => False) ?_ (fun r s' y => by
    cases r with
    | ok f => exact y
    | error e => exact y.elim)
  refine codeAny_whileLoop (fun k s' => ∃ ℓ' σ', Rel B σ' s' ∧ FrIs B env.locals ℓ' σ' s'.heap ∧ StepL env.locals σ s σ' s' ∧ J k ℓ' σ') ?_ n ⟨ℓ, σ, R, F, .refl F, h⟩
  rintro k s' ⟨ℓ', σ', R', F', S', hJ⟩
  refine wpAny_mono (step k ℓ' σ' hJ s' R' F') (fun b s₂ ⟨ℓ₂, σ₂, R₂, F₂, S₂, e, z⟩ => ?_) E0
  subst e
  cases b with
  | true =>
    refine wpAny_mono (z s₂ R₂ F₂) (fun f s₃ ⟨ℓ₃, σ₃, R₃, F₃, S₃, y⟩ => ?_) E0
    have S := (S'.trans S₂).trans S₃
    cases f with
    | next => obtain ⟨m, hm, j⟩ := y; exact ⟨m, hm, ℓ₃, σ₃, R₃, F₃, S, j⟩
    | cont => obtain ⟨m, hm, j⟩ := y; exact ⟨m, hm, ℓ₃, σ₃, R₃, F₃, S, j⟩
    | brk => exact ⟨ℓ₃, σ₃, R₃, F₃, S, y⟩
    | ret v => exact ⟨ℓ₃, σ₃, R₃, F₃, S, y⟩
  | false => exact wpAny_mono (z s₂ R₂ F₂) (fun f s₃ ⟨ℓ₃, σ₃, R₃, F₃, S₃, y⟩ => ⟨ℓ₃, σ₃, R₃, F₃, (S'.trans S₂).trans S₃, y⟩) E0

/-- the cells that a new frame lays -/
def OnCells : List (Str × NameKind) → List (Str × Addr) → St → (List (Str × Addr) → St → Prop) → Prop
  | [], cs, σ, P => P cs σ
  | (x, k) :: r, cs, σ, P => if (k == NameKind.cell) = true then ∀ a, σ.m a = none → OnCells r ((x, a) :: cs) (σ.put a (.cell none)) P else OnCells r cs σ P
def Binds (env : Env) : List (Str × AV) → Loc → St → (Loc → St → Prop) → Prop
  | [], ℓ, σ, P => P ℓ σ
  | (x, v) :: r, ℓ, σ, P => match env.kindOf x with
    | some .local => Binds env r (upd ℓ x v) σ P
    | some .cell => ∃ c v₀, env.cells.lookup x = some c ∧ σ.m c = some (.cell v₀) ∧ Binds env r ℓ (σ.put c (.cell (some v))) P
    | _ => False
theorem cells_go {C : Addr} {ℓ : Loc} {s : Shared} (f : Str × NameKind → List (Str × Addr) → Sem (ForInStep (List (Str × Addr))))
    (hf : ∀ x k cs, f (x, k) cs = if (k == NameKind.cell) = true then (alloc { cls := .type "cell", data := .cell none } >>= fun a => pure (.yield ((x, a) :: cs))) else pure (.yield cs)) {P : List (Str × Addr) → St → Prop} :
    ∀ (names : List (Str × NameKind)) (cs : List (Str × Addr)) (σ' : St) (s' : Shared), Rel B σ' s' → FrIs B C ℓ σ' s'.heap → StepL C σ s σ' s' → OnCells names cs σ' P →
      wpAny (model B.prog B.w) A (forIn names cs f) (fun cs' s'' => ∃ σ'', Rel B σ'' s'' ∧ FrIs B C ℓ σ'' s''.heap ∧ StepL C σ s σ'' s'' ∧ P cs' σ'') (fun _ _ => False) s'
  | [], cs, σ', s', R, F, S, h => by rw [List.forIn_nil]; exact wpAny_pure ⟨σ', R, F, S, h⟩
  | (x, k) :: r, cs, σ', s', R, F, S, h => by
    rw [List.forIn_cons, hf]
    unfold OnCells at h
    by_cases hk : (k == NameKind.cell) = true
    · rw [if_pos hk] at h ⊢
      refine wpAny_bind (wpAny_bind (wpAny_alloc ?_))
      obtain ⟨R', S', hm⟩ := R.push (o := { cls := .type "cell", data := .cell none }) (ao := .cell none) ⟨none, rfl, rfl⟩ rfl
      obtain ⟨oL, eL⟩ := F.at
      have hC : C ≠ s'.heap.objs.size := Nat.ne_of_lt (Heap.lt_size eL)
      exact wpAny_pure (cells_go f hf r _ _ _ R' (F.step S') (S.trans (.of S' eL F.2.1)) (h _ hm))
    · rw [if_neg hk] at h ⊢
      exact wpAny_bind (wpAny_pure (cells_go f hf r cs σ' s' R F S h))
theorem binds_go {env : Env} {s : Shared} (f : Str × Value → PUnit → Sem (ForInStep PUnit)) (hf : ∀ n v u, f (n, v) u = (do storeName env n v; pure (.yield ⟨⟩))) (hk : env.scope.kind = .function) {P : Loc → St → Prop} :
    ∀ (binds : List (Str × Value)) (ℓ : Loc) (σ' : St) (s' : Shared), Rel B σ' s' → FrIs B env.locals ℓ σ' s'.heap → StepL env.locals σ s σ' s' → Binds env (binds.map fun p => (p.1, ab p.2)) ℓ σ' P →
      wpAny (model B.prog B.w) A (forIn binds ⟨⟩ f) (fun _ s'' => ∃ ℓ'' σ'', Rel B σ'' s'' ∧ FrIs B env.locals ℓ'' σ'' s''.heap ∧ StepL env.locals σ s σ'' s'' ∧ P ℓ'' σ'') (fun _ _ => False) s'
  | [], ℓ, σ', s', R, F, S, h => by rw [List.forIn_nil]; exact wpAny_pure ⟨ℓ, σ', R, F, S, h⟩
  | (n, v) :: r, ℓ, σ', s', R, F, S, h => by
    rw [List.forIn_cons, hf]
    rw [List.map_cons] at h
    unfold Binds at h
    dsimp only at h
    have st : T B A env.locals (storeName env n v) ℓ σ' fun _ ℓ₂ σ₂ => Binds env (r.map fun p => (p.1, ab p.2)) ℓ₂ σ₂ P := by
      split at h
      · rename_i hl; exact T.storeLocal h hk hl
      · rename_i hl; obtain ⟨c, v₀, h1, h2, h3⟩ := h; exact T.storeCell h1 h2 h3 hk hl
      · exact h.elim
    exact wpAny_bind (wpAny_bind (wpAny_mono (st s' R F) (fun _ s₂ ⟨ℓ₂, σ₂, R₂, F₂, S₂, z⟩ => wpAny_pure (binds_go f hf hk r ℓ₂ σ₂ s₂ R₂ F₂ (S.trans S₂) z)) fun _ _ x => x))
theorem new_env' {s : Shared} {scope : Scope} {globals : Addr} {closure : List (Str × Addr)} {binds : List (Str × Value)} {qual : Str} {func : Option Addr} {code : Value} {around : Option Env} {builtins : Addr} {Z : Env → Loc → St → Prop} (R : Rel B σ s) (hk : scope.kind = .function)
    (h : ∀ C, mainGlobals < C → σ.m C = none → OnCells scope.names closure σ fun cs σ' => Binds (newEnv scope C globals cs qual func code around builtins) (binds.map fun p => (p.1, ab p.2)) (fun _ => none) σ' (Z (newEnv scope C globals cs qual func code around builtins))) :
    wpAny (model B.prog B.w) A (newFunctionEnv scope globals closure binds qual func code around builtins)
      (fun env s' => ∃ C ℓ' σ' cs, s.heap.get? C = none ∧ env = newEnv scope C globals cs qual func code around builtins ∧ Rel B σ' s' ∧ FrIs B C ℓ' σ' s'.heap ∧ StepL C σ s σ' s' ∧ Z env ℓ' σ') (fun _ _ => False) s := by
  have hI := no_obj s.heap
  obtain ⟨f1, f2⟩ := R.free hI
  have main : ∀ cls : Value, (∀ (s₁ : Shared), s₁ = { s with heap := s.heap.push { cls := cls, data := .dict #[] } } → Rel B σ s₁ ∧ FrIs B s.heap.objs.size (fun _ => none) σ s₁.heap ∧ StepL s.heap.objs.size σ s σ s₁) := by
    rintro cls s₁ rfl
    have hk : ∀ b o, s.heap.get? b = some o → (s.heap.push { cls := cls, data := .dict #[] }).get? b = some o := fun b o e => Heap.get?_push_of_some _ e
    refine ⟨R.soft (k := s.toks) f1 f2 fun b o _ e => hk b o e, ⟨f1, f2, _, Heap.Ns.new s.heap cls, fun _ => rfl⟩, ⟨fun b o e _ _ => hk b o e, fun _ h => .inl h, rfl, ?_⟩⟩
    show ((s.heap.push { cls := cls, data := .dict #[] }).get? s.heap.objs.size).isSome = true
    rw [Heap.get?_push_size _ rfl]; rfl
  have h' := h s.heap.objs.size (by obtain ⟨o, e⟩ := Option.isSome_iff_exists.mp R.low.1; exact Heap.lt_size (R.base _ _ e)) f2
  cases around with
  | none =>
    simp only [newFunctionEnv, Option.isSome_none, Bool.false_eq_true, if_false]
    refine wpAny_bind (wpAny_alloc ?_)
    obtain ⟨R1, F1, S1⟩ := main _ _ rfl
    refine wpAny_bind (wpAny_mono (cells_go (s := s) (σ := σ) _ (fun x k cs => by cases hkc : k == NameKind.cell <;> simp [hkc]) scope.names closure σ _ R1 F1 S1 h') (fun cs s₂ ⟨σ₂, R₂, F₂, S₂, z⟩ => ?_) fun _ _ x => x)
    refine wpAny_bind (wpAny_mono (binds_go (s := s) (σ := σ) (env := newEnv scope s.heap.objs.size globals cs qual func code none builtins) _ (fun _ _ _ => rfl) hk binds _ σ₂ s₂ R₂ F₂ S₂ z) (fun _ s₃ ⟨ℓ₃, σ₃, R₃, F₃, S₃, y⟩ => ?_) fun _ _ x => x)
    exact wpAny_pure ⟨s.heap.objs.size, ℓ₃, σ₃, cs, hI, rfl, R₃, F₃, S₃, y⟩
  | some outer =>
    simp only [newFunctionEnv, Option.isSome_some, if_true]
    refine wpAny_bind (wpAny_alloc ?_)
    obtain ⟨R1, F1, S1⟩ := main _ _ rfl
    refine wpAny_bind (wpAny_mono (cells_go (s := s) (σ := σ) _ (fun x k cs => by cases hkc : k == NameKind.cell <;> simp [hkc]) scope.names closure σ _ R1 F1 S1 h') (fun cs s₂ ⟨σ₂, R₂, F₂, S₂, z⟩ => ?_) fun _ _ x => x)
    refine wpAny_bind (wpAny_mono (binds_go (s := s) (σ := σ) (env := newEnv scope s.heap.objs.size globals cs qual func code (some outer) builtins) _ (fun _ _ _ => rfl) hk binds _ σ₂ s₂ R₂ F₂ S₂ z) (fun _ s₃ ⟨ℓ₃, σ₃, R₃, F₃, S₃, y⟩ => ?_) fun _ _ x => x)
    exact wpAny_pure ⟨s.heap.objs.size, ℓ₃, σ₃, cs, hI, rfl, R₃, F₃, S₃, y⟩
theorem new_env {s : Shared} {scope : Scope} {globals : Addr} {closure : List (Str × Addr)} {binds : List (Str × Value)} {qual : Str} {func : Option Addr} {code : Value} {around : Option Env} {builtins : Addr} {Z : Env → Loc → St → Prop} (R : Rel B σ s) (hk : scope.kind = .function)
    (h : ∀ C, σ.m C = none → OnCells scope.names closure σ fun cs σ' => Binds (newEnv scope C globals cs qual func code around builtins) (binds.map fun p => (p.1, ab p.2)) (fun _ => none) σ' (Z (newEnv scope C globals cs qual func code around builtins))) :
    wpAny (model B.prog B.w) A (newFunctionEnv scope globals closure binds qual func code around builtins)
      (fun env s' => ∃ C ℓ' σ' cs, s.heap.get? C = none ∧ env = newEnv scope C globals cs qual func code around builtins ∧ Rel B σ' s' ∧ FrIs B C ℓ' σ' s'.heap ∧ StepL C σ s σ' s' ∧ Z env ℓ' σ') (fun _ _ => False) s :=
  new_env' R hk fun C _ hC => h C hC
end Mine
set_option maxHeartbeats 200000
namespace Mine
variable {B : Bs} {A : Around} {L : Addr} {α β : Type} {σ : St} {ℓ : Loc} {mk : List AV → AObj} {c : Value} {dd : Option Addr} {a : Addr} {xs : List AV}

def CompIn (elt : PySem.Expr) (gens : List Comprehension) (scope : Scope) (pos : Pos) (d : Nat) (acc : Value) (env : Env) : Sem Unit :=
  match gens[d + 1]? with
  | some g' => do
    let x ← eval g'.iter env
    standAt g'.iter.pos
    let x ← foldedSetIterable g'.iter env x
    let _ ← runOwn (.compStart (.ListComp elt gens scope pos) (d + 1) (← holding [x] (pyIter x)) acc env) env
  | none => do let _ ← call (.builtin "list.append") [acc, ← eval elt env]
theorem compTurn_at {elt : PySem.Expr} {gens : List Comprehension} {scope : Scope} {pos : Pos} {d : Nat} {it acc : Value} {env : Env} {target iter : PySem.Expr} {ifs : List PySem.Expr} (hg : gens[d]? = some ⟨target, iter, ifs, 0⟩) (ha : ∀ g, gens[d + 1]? = some g → g.is_async = 0) :
    compTurn (.ListComp elt gens scope pos) d it acc env = (standAt iter.pos >>= fun _ => pyNext it >>= fun r => match r with
      | none => pure (.done .next)
      | some v => letOwnedTupleGo target it v >>= fun _ => assign target env v >>= fun _ =>
        (forIn ifs true fun c r => if r = true then do let ok ← isTrue c env (eval c env); pure (ForInStep.yield ok) else pure (ForInStep.yield r)) >>= fun ok =>
          if ok = true then CompIn elt gens scope pos d acc env >>= fun _ => again (.compLoop (.ListComp elt gens scope pos) d it acc env)
          else again (.compLoop (.ListComp elt gens scope pos) d it acc env)) := by
  unfold compTurn CompIn
  simp only [hg]
  cases e : gens[d + 1]? with
  | none => rfl
  | some g =>
    obtain ⟨t', i', f', a'⟩ := g
    obtain rfl : a' = 0 := ha _ e
    simp only [bind_assoc, pure_bind]
    rfl

/-- the tests of a clause -/
def Tif (B : Bs) (A : Around) (env : Env) : List PySem.Expr → Loc → St → (Bool → St → Prop) → Prop
  | [], _, σ, Q => Q true σ
  | [c], ℓ, σ, Q => Tt B A env c ℓ σ Q
  | _, _, _, _ => False
theorem Tif.run {env : Env} {ifs : List PySem.Expr} {Q : Bool → St → Prop} (h : Tif B A env ifs ℓ σ Q) :
    T B A env.locals (forIn ifs true fun c r => if r = true then do let ok ← isTrue c env (eval c env); pure (ForInStep.yield ok) else pure (ForInStep.yield r)) ℓ σ fun ok ℓ' σ' => ℓ' = ℓ ∧ Q ok σ' := by
  match ifs, h with
  | [], h => exact T.pure ⟨rfl, h⟩
  | [c], h =>
    rw [List.forIn_cons]
    simp only [if_true]
    refine T.bind (T.bind (T.mono h ?_))
    rintro b ℓ' σ' ⟨rfl, h'⟩
    exact T.pure (T.pure ⟨rfl, h'⟩)
  | _ :: _ :: _, h => exact h.elim
/-- one loop of a comprehension, over a hidden iterator -/
theorem comp_loop {elt : PySem.Expr} {gens : List Comprehension} {scope : Scope} {pos : Pos} {d : Nat} {acc : Value} {env : Env} {target iter : PySem.Expr} {ifs : List PySem.Expr} {σ₀ : St} {s₀ s : Shared} {I : Addr} {H : Nat → Heap → Prop} {n : Nat} {D : St → Prop} {P : Nat → AV → Prop}
    (hg : gens[d]? = some ⟨target, iter, ifs, 0⟩) (ha : ∀ g, gens[d + 1]? = some g → g.is_async = 0) (J : Nat → Loc → St → Prop) (SR : Src B A I n D H P) (hI : s₀.heap.get? I = none) (hIL : I ≠ env.locals) (f1 : B.h0.get? I = none)
    (R : Rel B σ s) (F : FrIs B env.locals ℓ σ s.heap) (S : StepL env.locals σ₀ s₀ σ s) (hσ : σ.m I = none) (h0 : H 0 s.heap) (j0 : J 0 ℓ σ) (jD : ∀ i ℓ' σ', J i ℓ' σ' → D σ')
    (step : ∀ i v ℓ' σ', i < n → P i v → J i ℓ' σ' → Ta B A env target v ℓ' σ' fun ℓ₂ σ₂ => Tif B A env ifs ℓ₂ σ₂ fun b σ₃ => if b = true then T B A env.locals (CompIn elt gens scope pos d acc env) ℓ₂ σ₃ fun _ ℓ₄ σ₄ => J (i + 1) ℓ₄ σ₄ else J (i + 1) ℓ₂ σ₃) :
    codeAny (model B.prog B.w) A (.compLoop (.ListComp elt gens scope pos) d (.ref I) acc env) (fun r s' => match r with | .ok f => f = .next ∧ ∃ ℓ' σ', Rel B σ' s' ∧ FrIs B env.locals ℓ' σ' s'.heap ∧ StepL env.locals σ₀ s₀ σ' s' ∧ J n ℓ' σ' | .error _ => False) s := by
  refine codeAny_loop rfl (fun k s' => ∃ i ℓ' σ', i ≤ n ∧ k = n + 1 - i ∧ Rel B σ' s' ∧ FrIs B env.locals ℓ' σ' s'.heap ∧ StepL env.locals σ₀ s₀ σ' s' ∧ σ'.m I = none ∧ H i s'.heap ∧ J i ℓ' σ') ?_ (n + 1)
    ⟨0, ℓ, σ, Nat.zero_le _, rfl, R, F, S, hσ, h0, j0⟩
  rintro k s' ⟨i, ℓ', σ', hi, rfl, R', F', S', hσ, hH, hJ⟩
  show wpAny _ _ ((compTurn (.ListComp elt gens scope pos) d (.ref I) acc env).onRaise (fun x => do noteFrame x env; theTreesLotGoes x)) _ _ s'
  refine wpAny_noted ?_
  rw [compTurn_at hg ha]
  have E0 : ∀ {E : Value → Shared → Prop} (e : Value) (s : Shared), False → E e s := fun _ _ x => x.elim
  refine wpAny_bind (wpAny_standAt (wpAny_bind ?_))
  by_cases hlt : i < n
  · refine wpAny_mono (SR.item i σ' s' hlt (jD _ _ _ hJ) R' hH _ fun v h3 tk3 hP hH3 hk3 => ?_) (fun _ _ x => x) E0
    have R3 : Rel B σ' { s' with heap := h3, toks := tk3 } := R'.soft f1 hσ hk3
    have F3 := F'.soft hk3 hIL
    have S3 : StepL env.locals σ₀ s₀ σ' { s' with heap := h3, toks := tk3 } := S'.soft hIL hI hk3
    refine wpAny_bind (wpAny_mono (SR.go (i + 1) { s' with heap := h3, toks := tk3 } target v hH3 _ ?_) (fun _ _ x => x) E0)
    refine wpAny_bind (wpAny_mono (step i (ab v) ℓ' σ' hlt hP hJ v rfl _ R3 F3) (fun _ s₄ ⟨ℓ₄, σ₄, R₄, F₄, S₄, z⟩ => ?_) E0)
    refine wpAny_bind (wpAny_mono (z.run s₄ R₄ F₄) (fun ok s₅ ⟨ℓ₅, σ₅, R₅, F₅, S₅, e₅, y⟩ => ?_) E0)
    subst e₅
    have again : ∀ {ℓ₆ : Loc} {σ₆ : St} {s₆ : Shared}, Rel B σ₆ s₆ → FrIs B env.locals ℓ₆ σ₆ s₆.heap → StepL env.locals σ' { s' with heap := h3, toks := tk3 } σ₆ s₆ → J (i + 1) ℓ₆ σ₆ →
        ∃ m, m < n + 1 - i ∧ ∃ i ℓ' σ', i ≤ n ∧ m = n + 1 - i ∧ Rel B σ' s₆ ∧ FrIs B env.locals ℓ' σ' s₆.heap ∧ StepL env.locals σ₀ s₀ σ' s₆ ∧ σ'.m I = none ∧ H i s₆.heap ∧ J i ℓ' σ' := fun {ℓ₆ σ₆ s₆} R₆ F₆ S₆ j => by
      obtain ⟨o, e⟩ := SR.here _ _ hH3
      exact ⟨n + 1 - (i + 1), by omega, i + 1, ℓ₆, σ₆, hlt, rfl, R₆, F₆, S3.trans S₆, S₆.old e hσ, SR.frame _ _ _ hH3 fun o e => S₆.kept I o e hσ hIL, j⟩
    cases ok with
    | false =>
      rw [if_neg Bool.false_ne_true] at y
      simp only [Bool.false_eq_true, if_false]
      exact wpAny_pure ⟨rfl, again R₅ F₅ (S₄.trans S₅) y⟩
    | true =>
      rw [if_pos rfl] at y
      simp only [if_true]
      refine wpAny_bind (wpAny_mono (y s₅ R₅ F₅) (fun _ s₆ ⟨ℓ₆, σ₆, R₆, F₆, S₆, j⟩ => ?_) E0)
      exact wpAny_pure ⟨rfl, again R₆ F₆ ((S₄.trans S₅).trans S₆) j⟩
  · have hin : i = n := by omega
    subst hin
    refine wpAny_mono (SR.done σ' s' (jD _ _ _ hJ) R' hH _ fun h3 tk3 hk3 => ?_) (fun _ _ x => x) E0
    exact wpAny_pure ⟨rfl, ℓ', σ', R'.soft f1 hσ hk3, F'.soft hk3 hIL, S'.soft hIL hI hk3, hJ⟩
theorem comp_start {elt : PySem.Expr} {gens : List Comprehension} {scope : Scope} {pos : Pos} {d : Nat} {it acc : Value} {env : Env} {g : Comprehension} {R : Result → Shared → Prop} {s : Shared} (hg : gens[d]? = some g) (ha : g.is_async = 0)
    (h0 : codeAny (model B.prog B.w) A (.compLoop (.ListComp elt gens scope pos) d it acc env) R s)
    (h : wpAny (model B.prog B.w) A (pyIter it) (fun it' s' => codeAny (model B.prog B.w) A (.compLoop (.ListComp elt gens scope pos) d it' acc env) R s') (fun _ _ => False) s) :
    codeAny (model B.prog B.w) A (.compStart (.ListComp elt gens scope pos) d it acc env) R s := by
  obtain ⟨target, iter, ifs, as⟩ := g
  obtain rfl : as = 0 := ha
  refine codeAny_of_tree ?_
  show wpAny _ _ ((compStart (.ListComp elt gens scope pos) d it acc env).onRaise (fun x => do noteFrame x env; standAt theWindowsPlace)) _ _ s
  refine wpAny_notedAt ?_
  unfold compStart
  have e1 : (clausesOf (.ListComp elt gens scope pos))[d]? = some ⟨target, iter, ifs, 0⟩ := hg
  simp only [e1]
  show wpAny _ _ (ask >>= _) _ _ s
  have h' := wpAny_mono h (fun _ _ x => x) (E' := notedBy (model B.prog B.w) A env fun x s' => R (.error x) s') fun _ _ x => x.elim
  refine wpAny_bind (wpAny_askSetting (wpAny_ite ?_))
  split
  · first
      | exact wpAny_bind (wpAny_pure (wpAny_pure (And.intro rfl h0)))
      | exact wpAny_pure (And.intro rfl h0)
  · first
      | exact wpAny_bind (wpAny_rule (wpAny_bind (wpAny_standAt (wpAny_bind (wpAny_mono h' (fun it' s' h' => wpAny_pure (And.intro rfl h')) fun _ _ x => x)))))
      | (refine wpAny_bind (wpAny_rule ?_); show wpAny _ _ (standAt iter.pos >>= _) _ _ s; exact wpAny_bind (wpAny_standAt (wpAny_bind (wpAny_mono h' (fun it' s' h' => wpAny_pure (And.intro rfl h')) fun _ _ x => x))))
theorem comp_run {elt : PySem.Expr} {gens : List Comprehension} {scope : Scope} {pos : Pos} {d : Nat} {acc : Value} {env : Env} {target iter : PySem.Expr} {ifs : List PySem.Expr} {σ₀ : St} {s₀ s : Shared} {I : Addr} {H : Nat → Heap → Prop} {n : Nat} {D : St → Prop} {P : Nat → AV → Prop}
    (hg : gens[d]? = some ⟨target, iter, ifs, 0⟩) (ha : ∀ g, gens[d + 1]? = some g → g.is_async = 0) (J : Nat → Loc → St → Prop) (SR : Src B A I n D H P) (hI : s₀.heap.get? I = none) (hIL : I ≠ env.locals) (f1 : B.h0.get? I = none)
    (R : Rel B σ s) (F : FrIs B env.locals ℓ σ s.heap) (S : StepL env.locals σ₀ s₀ σ s) (hσ : σ.m I = none) (h0 : H 0 s.heap) (j0 : J 0 ℓ σ) (jD : ∀ i ℓ' σ', J i ℓ' σ' → D σ')
    (step : ∀ i v ℓ' σ', i < n → P i v → J i ℓ' σ' → Ta B A env target v ℓ' σ' fun ℓ₂ σ₂ => Tif B A env ifs ℓ₂ σ₂ fun b σ₃ => if b = true then T B A env.locals (CompIn elt gens scope pos d acc env) ℓ₂ σ₃ fun _ ℓ₄ σ₄ => J (i + 1) ℓ₄ σ₄ else J (i + 1) ℓ₂ σ₃) :
    codeAny (model B.prog B.w) A (.compStart (.ListComp elt gens scope pos) d (.ref I) acc env) (fun r s' => match r with | .ok f => f = .next ∧ ∃ ℓ' σ', Rel B σ' s' ∧ FrIs B env.locals ℓ' σ' s'.heap ∧ StepL env.locals σ₀ s₀ σ' s' ∧ J n ℓ' σ' | .error _ => False) s :=
  comp_start hg rfl (comp_loop hg ha J SR hI hIL f1 R F S hσ h0 j0 jD step) (SR.self 0 s h0 _ (comp_loop hg ha J SR hI hIL f1 R F S hσ h0 j0 jD step))

section
variable {elt target iter : PySem.Expr} {gens rest : List Comprehension} {ifs : List PySem.Expr} {scope : Scope} {pos : Pos} {env : Env} {d : Nat} {acc : Addr}
/-- the last clause -/
theorem t_emit (O : B.Ok) {Q : Loc → St → Prop} (h : Te B A env elt ℓ σ fun v σ' => ∃ xs, σ'.m acc = some (.list xs) ∧ xs.length ≤ sizeLine ∧ Q ℓ (σ'.put acc (.list (xs ++ [v])))) (hg : gens[d + 1]? = none := by rfl) (hl : subIn B.K (.type "list") (.type "list") = some true := by rfl) :
    T B A env.locals (CompIn elt gens scope pos d (.ref acc) env) ℓ σ fun _ => Q := by
  unfold CompIn
  rw [hg]
  refine T.bind (T.mono h ?_)
  rintro v ℓ' σ' ⟨rfl, xs, e, hz, q⟩
  exact T.bind (T.of0 (T0.mono (c_append (Q := fun _ σ' => Q ℓ' σ') O IsSq.list e hz q hl (.builtin "list.append") [.ref acc, v] rfl rfl) fun _ _ q => T.pure q))
/-- one more clause -/
theorem t_nest {Q : Loc → St → Prop} {target' iter' : PySem.Expr} {ifs' : List PySem.Expr} (hg : gens[d + 1]? = some ⟨target', iter', ifs', 0⟩) (ha : ∀ g, gens[d + 1 + 1]? = some g → g.is_async = 0)
    (h : Te B A env iter' ℓ σ fun x σ₁ => ∃ (n : Nat) (D : St → Prop) (P : Nat → AV → Prop) (J : Nat → Loc → St → Prop), Iter B A x σ₁ n D P ∧ J 0 ℓ σ₁ ∧ (∀ i ℓ' σ', J i ℓ' σ' → D σ') ∧
      (∀ i v ℓ' σ', i < n → P i v → J i ℓ' σ' → Ta B A env target' v ℓ' σ' fun ℓ₂ σ₂ => Tif B A env ifs' ℓ₂ σ₂ fun b σ₃ => if b = true then T B A env.locals (CompIn elt gens scope pos (d + 1) (.ref acc) env) ℓ₂ σ₃ fun _ ℓ₄ σ₄ => J (i + 1) ℓ₄ σ₄ else J (i + 1) ℓ₂ σ₃) ∧
      (∀ ℓ' σ', J n ℓ' σ' → Q ℓ' σ'))
    (hs : ∀ x, foldedSetIterable iter' env x = Pure.pure x := by intro _; rfl) : T B A env.locals (CompIn elt gens scope pos d (.ref acc) env) ℓ σ fun _ => Q := by
  unfold CompIn
  rw [hg]
  refine T.bind (T.mono h ?_)
  rintro x ℓ' σ' ⟨rfl, n, D, P, J, it, j0, jD, step, fin⟩
  refine T.bind (T.standAt (T.bind (T.of0 (T0.of_eq (hs x) ?_))))
  intro s R F
  refine wpAny_bind (wpAny_holding (it x rfl s R _ fun I H h₂ tk hI hk SR h0 => ?_))
  obtain ⟨f1, f2⟩ := R.free hI
  obtain ⟨oL, eL⟩ := F.at
  have hIL : I ≠ env.locals := by rintro rfl; rw [hI] at eL; cases eL
  refine wpAny_bind (wpAny_runOwn (codeAny_mono (comp_run hg ha J SR hI hIL f1 (R.soft f1 f2 fun b o _ e => hk b o e) (F.soft (fun b o _ e => hk b o e) hIL) ((StepL.refl F).soft hIL hI fun b o _ e => hk b o e) f2 h0 j0 jD step) fun r s' y => ?_))
  cases r with
  | ok f =>
    obtain ⟨_, ℓ₂, σ₂, R₂, F₂, S₂, j⟩ := y
    exact wpAny_pure ⟨ℓ₂, σ₂, R₂, F₂, S₂, fin _ _ j⟩
  | error e => exact y.elim
theorem StepL.whole {C : Addr} {σ' : St} {s s' : Shared} (S : StepL C σ s σ' s') (h : s.heap.get? C = none) : Step σ s σ' s' :=
  ⟨fun b o e hb => S.kept b o e hb (by rintro rfl; rw [h] at e; cases e), S.grow, S.os⟩
/-- what a comprehension of one clause asks -/
def CompK (B : Bs) (A : Around) (env : Env) (elt target iter : PySem.Expr) (ifs : List PySem.Expr) (rest : List Comprehension) (scope : Scope) (pos : Pos) (cl : List (Str × Addr)) (x : AV) (σ : St) (Q : AV → St → Prop) : Prop :=
  ∃ (n : Nat) (D : St → Prop) (P : Nat → AV → Prop), Iter B A x σ n D P ∧ ∀ acc, σ.m acc = none → ∀ C, (σ.put acc (.list [])).m C = none → OnCells scope.names cl (σ.put acc (.list [])) fun cs σ₂ => ∃ J : Nat → Loc → St → Prop, J 0 (fun _ => none) σ₂ ∧ (∀ i ℓ' σ', J i ℓ' σ' → D σ') ∧
    (∀ i v ℓ' σ', i < n → P i v → J i ℓ' σ' → Ta B A (compEnvC scope cs C env) target v ℓ' σ' fun ℓ₂ σ₃ => Tif B A (compEnvC scope cs C env) ifs ℓ₂ σ₃ fun b σ₄ =>
      if b = true then T B A C (CompIn elt (⟨target, iter, ifs, 0⟩ :: rest) scope pos 0 (.ref acc) (compEnvC scope cs C env)) ℓ₂ σ₄ fun _ ℓ₄ σ₅ => J (i + 1) ℓ₄ σ₅ else J (i + 1) ℓ₂ σ₄) ∧
    (∀ ℓ' σ', J n ℓ' σ' → Q (.ref acc) σ')
theorem OnCells.mono {P Q : List (Str × Addr) → St → Prop} : ∀ {names : List (Str × NameKind)} {cs : List (Str × Addr)} {σ : St}, OnCells names cs σ P → (∀ cs σ, P cs σ → Q cs σ) → OnCells names cs σ Q
  | [], cs, σ, h, k => k _ _ h
  | (x, kd) :: r, cs, σ, h, k => by
    unfold OnCells at h ⊢
    split
    · rename_i hk; rw [if_pos hk] at h; exact fun a ha => (h a ha).mono k
    · rename_i hk; rw [if_neg hk] at h; exact h.mono k
theorem comp_whole {cl : List (Str × Addr)} {use : Option (Value → Sem Unit)} {Q : AV → St → Prop} {s : Shared} {E : Value → Shared → Prop} {Q' : Value → Shared → Prop} (hclos : closureFor scope env = Pure.pure cl) (hkind : scope.kind = .function) (hnames : ∀ x ∈ scope.names, x.2 = .local → scope.names.lookup x.1 = some .local) (ha : ∀ g, rest[0]? = some g → g.is_async = 0)
    (hs : ∀ x, foldedSetIterable iter env x = Pure.pure x) (h : Te B A env iter ℓ σ fun x σ₁ => CompK B A env elt target iter ifs rest scope pos cl x σ₁ Q) (R : Rel B σ s) (F : FrIs B env.locals ℓ σ s.heap)
    (fin : ∀ acc C σ₁ s₁ σ' s', StepL env.locals σ s σ₁ s₁ → Rel B σ' s' → FrIs B env.locals ℓ σ' s'.heap → StepL env.locals σ₁ s₁ σ' s' → s₁.heap.get? C = none → C ≠ env.locals → (∃ ℓ', FrIs B C ℓ' σ' s'.heap) → Q (.ref acc) σ' → compPost (model B.prog B.w) A E use Q' (.ref acc) C (.ok .next) s') {fpos : Pos} :
    wpAny (model B.prog B.w) A (comprehension (.ListComp elt (⟨target, iter, ifs, 0⟩ :: rest) scope pos) scope env fpos (newList []) false (eval iter env) use) Q' E s := by
  refine wpAny_comprehension_free (g := ⟨target, iter, ifs, 0⟩) (gs := rest) (cl := cl) rfl hs hclos hkind hnames ?_
  refine wpAny_mono (h s R F) (fun x s₁ ⟨ℓ₁, σ₁, R₁, F₁, S₁, e₁, n, D, P, it, K⟩ => ?_) fun _ _ x => x.elim
  subst e₁
  refine wpAny_mono (it x rfl s₁ R₁ (fun itv s₂ => ∃ I H, itv = .ref I ∧ s₁.heap.get? I = none ∧ Src B A I n D H P ∧ H 0 s₂.heap ∧ Rel B σ₁ s₂ ∧ FrIs B env.locals ℓ₁ σ₁ s₂.heap ∧ Step σ₁ s₁ σ₁ s₂ ∧ (s₂.heap.get? I).isSome = true) (fun I H h₂ tk hI hk SR h0 => ?_)) (fun itv s₂ ⟨I, H, hit, hI, SR, h0, R₂, F₂, S₂, hI2⟩ => ?_) fun _ _ x => x.elim
  · obtain ⟨f1, f2⟩ := R₁.free hI
    obtain ⟨oL, eL⟩ := F₁.at
    have hIL : I ≠ env.locals := by rintro rfl; rw [hI] at eL; cases eL
    obtain ⟨o, ho⟩ := SR.here _ _ h0
    exact ⟨I, H, rfl, hI, SR, h0, R₁.soft f1 f2 fun b o _ e => hk b o e, F₁.soft (fun b o _ e => hk b o e) hIL, ⟨fun b o e _ => hk b o e, fun _ h => .inl h, rfl⟩, by rw [ho]; rfl⟩
  subst hit
  obtain ⟨f1, f2⟩ := R₁.free hI
  obtain ⟨oI, eI⟩ := Option.isSome_iff_exists.mp hI2
  refine wpAny_newObj_type ?_ (Nat.zero_le _)
  obtain ⟨R₃, S₃, hm₃⟩ := R₂.push (o := { cls := .type "list", dict := none, data := .seq ([] : List Value).toArray }) (ao := .list []) ⟨_, _, rfl, rfl⟩ rfl
  generalize hacc : s₂.heap.objs.size = acc at R₃ S₃ hm₃ ⊢
  have hIa : I ≠ acc := by subst hacc; exact Nat.ne_of_lt (Heap.lt_size eI)
  have F₃ := F₂.step S₃
  generalize hs3 : ({ s₂ with heap := s₂.heap.push { cls := .type "list", dict := none, data := .seq ([] : List Value).toArray } } : Shared) = s₃ at R₃ S₃ F₃ ⊢
  have eI₃ : s₃.heap.get? I = some oI := S₃.kept I oI eI f2
  have hσ₃ : (σ₁.put acc (.list [])).m I = none := by rw [put_other hIa]; exact f2
  refine wpAny_mono (new_env (A := A) (closure := cl) (binds := []) (around := some env) (Z := fun env' ℓ' σ₂ => ∃ C cs, env' = newEnv scope C env.globals cs env.qual none .none (some env) builtinsNs ∧ ℓ' = (fun _ => none) ∧ ∃ J : Nat → Loc → St → Prop, J 0 (fun _ => none) σ₂ ∧ (∀ i ℓ' σ', J i ℓ' σ' → D σ') ∧
    (∀ i v ℓ' σ', i < n → P i v → J i ℓ' σ' → Ta B A (compEnvC scope cs C env) target v ℓ' σ' fun ℓ₂ σ₃ => Tif B A (compEnvC scope cs C env) ifs ℓ₂ σ₃ fun b σ₄ =>
      if b = true then T B A C (CompIn elt (⟨target, iter, ifs, 0⟩ :: rest) scope pos 0 (.ref acc) (compEnvC scope cs C env)) ℓ₂ σ₄ fun _ ℓ₄ σ₅ => J (i + 1) ℓ₄ σ₅ else J (i + 1) ℓ₂ σ₄) ∧
    (∀ ℓ' σ', J n ℓ' σ' → Q (.ref acc) σ')) R₃ hkind fun C hC => (K acc hm₃ C hC).mono fun cs σ₂ k => ⟨C, cs, rfl, rfl, k⟩) (fun cenv s₄ ⟨C, ℓ₄, σ₄, cs, hC, hce, R₄, F₄, S₄, C', cs', he, hl, J, j0, jD, step, fin'⟩ => ?_) fun _ _ x => x.elim
  have hCC : C = C' := by have := congrArg Env.locals (hce.symm.trans he); exact this
  have hcs : cs = cs' := by have := congrArg Env.cells (hce.symm.trans he); exact this
  subst hCC hcs hl
  have S04 : Step σ₁ s₁ σ₄ s₄ := (S₂.trans S₃).trans (S₄.whole hC)
  have eI₄ : s₄.heap.get? I = some oI := (S₄.whole hC).kept I oI eI₃ hσ₃
  have hσ₄ : σ₄.m I = none := (S₄.whole hC).old eI₃ hσ₃
  have hC1 : s₁.heap.get? C = none := by
    cases e : s₁.heap.get? C with
    | none => rfl
    | some o =>
      obtain ⟨o', e'⟩ : ∃ o', s₃.heap.get? C = some o' := by
        by_cases hb : σ₁.m C = none
        · exact ⟨o, (S₂.trans S₃).kept C o e hb⟩
        · obtain ⟨ao, hao⟩ := Option.ne_none_iff_exists'.mp hb
          have hne : C ≠ acc := by rintro rfl; rw [hm₃] at hao; cases hao
          obtain ⟨_, o', ho', _⟩ := R₃.own C ao (by rw [put_other hne]; exact hao)
          exact ⟨o', ho'⟩
      rw [hC] at e'; cases e'
  have hIC : I ≠ C := by rintro rfl; rw [hC] at eI₃; cases eI₃
  obtain ⟨oC, eC⟩ := F₄.at
  have SL : StepL C σ₁ s₁ σ₄ s₄ := ⟨fun b o e hb _ => S04.kept b o e hb, S04.grow, S04.os, by rw [eC]; rfl⟩
  obtain ⟨oL, eL⟩ := F₁.at
  have hCL : C ≠ env.locals := by rintro rfl; rw [hC1] at eL; cases eL
  have henv : ({ cenv with scope := relabel scope env } : Env) = compEnvC scope cs C env := by rw [hce]; rfl
  have hloc : cenv.locals = C := by rw [hce]; rfl
  rw [henv, hloc]
  refine codeAny_mono (comp_run (env := compEnvC scope cs C env) (gens := ⟨target, iter, ifs, 0⟩ :: rest) (d := 0) rfl ha J SR hI hIC f1 R₄ F₄ SL hσ₄ (SR.frame _ _ _ h0 fun o e => ?_) j0 jD step) fun r s₅ y => ?_
  · rw [eI] at e; cases e; exact eI₄
  cases r with
  | error e => exact y.elim
  | ok f =>
    obtain ⟨rfl, ℓ₅, σ₅, R₅, F₅, S₅, j⟩ := y
    have W := S₅.whole hC1
    exact fin acc C σ₁ s₁ σ₅ s₅ S₁ R₅ (F₁.step W) (.of W eL F₁.2.1) hC1 hCL ⟨_, F₅⟩ (fin' _ _ j)
theorem e_comp {cl : List (Str × Addr)} {Q : AV → St → Prop} (hclos : closureFor scope env = Pure.pure cl) (h : Te B A env iter ℓ σ fun x σ₁ => CompK B A env elt target iter ifs rest scope pos cl x σ₁ Q)
    (hkind : scope.kind = .function := by rfl) (hnames : ∀ x ∈ scope.names, x.2 = .local → scope.names.lookup x.1 = some .local := by decide) (ha : ∀ g, rest[0]? = some g → g.is_async = 0 := by intro g h; cases h <;> rfl)
    (hs : ∀ x, foldedSetIterable iter env x = Pure.pure x := by intro _; rfl) : Te B A env (.ListComp elt (⟨target, iter, ifs, 0⟩ :: rest) scope pos) ℓ σ Q := fun s R F => by
  rw [eval_ListComp]
  refine comp_whole (use := none) hclos hkind hnames ha hs h R F fun acc C σ₁ s₁ σ' s' S₁ R' F' S' hC hCL FC q => ?_
  obtain ⟨ℓC, f0, fσ, m, hn, _⟩ := FC
  refine ⟨m, hn, fun h' hs' => ?_⟩
  exact ⟨ℓ, σ', R'.soft (k := s'.toks) f0 fσ fun b o hb e => hs'.extBut b o hb e, F'.soft (fun b o hb e => hs'.extBut b o hb e) hCL, S₁.trans (S'.soft (k := s'.toks) hCL hC fun b o hb e => hs'.extBut b o hb e), rfl, q⟩
theorem x_assign_comp {cl : List (Str × Addr)} {Q : AF → Loc → St → Prop} {y : Str} {py spos : Pos} (hclos : closureFor scope env = Pure.pure cl) (h : Te B A env iter ℓ σ fun x σ₁ => CompK B A env elt target iter ifs rest scope pos cl x σ₁ fun v σ₂ => Q .next (upd ℓ y v) σ₂)
    (hsw : swapsWith (.ListComp elt (⟨target, iter, ifs, 0⟩ :: rest) scope pos) (some (.Name y py)) spos.line env = Pure.pure true := by rfl) (hk : env.scope.kind = .function := by rfl) (hl : env.kindOf y = some .local := by rfl)
    (hkind : scope.kind = .function := by rfl) (hnames : ∀ x ∈ scope.names, x.2 = .local → scope.names.lookup x.1 = some .local := by decide) (ha : ∀ g, rest[0]? = some g → g.is_async = 0 := by intro g h; cases h <;> rfl)
    (hs : ∀ x, foldedSetIterable iter env x = Pure.pure x := by intro _; rfl) : Tx B A env (.Assign [.Name y py] (.ListComp elt (⟨target, iter, ifs, 0⟩ :: rest) scope pos) spos) ℓ σ Q := fun s R F => by
  rw [exec_Assign_Name_used _ _ _ _ hsw]
  refine wpAny_bind (wpAny_standAt (wpAny_bind ?_))
  show wpAny _ A (do let _ ← comprehension (.ListComp elt (⟨target, iter, ifs, 0⟩ :: rest) scope pos) scope env _ (newList []) false (eval iter env) (some (assign (.Name y py) env))) _ _ s
  refine wpAny_bind (wpAny_mono (Q := fun _ s' => ∃ ℓ' σ', Rel B σ' s' ∧ FrIs B env.locals ℓ' σ' s'.heap ∧ StepL env.locals σ s σ' s' ∧ Q .next ℓ' σ') ?_ (fun _ s' hq => wpAny_pure (wpAny_pure hq)) fun _ _ e => e)
  refine comp_whole (use := some (assign (.Name y py) env)) hclos hkind hnames ha hs h R F fun acc C σ₁ s₁ σ' s' S₁ R' F' S' hC hCL FC q => ?_
  obtain ⟨ℓC, f0, fσ, m, hn, _⟩ := FC
  have st := T.bind (f := fun _ => Pure.pure ()) (T.standAt (p := py) (B := B) (A := A) (L := env.locals) (ℓ := ℓ) (σ := σ') (T.pure (Q := fun _ ℓ' σ'' => ℓ' = ℓ ∧ σ'' = σ') ⟨rfl, rfl⟩))
  refine wpAny_mono (a_local (B := B) (A := A) (v := .ref acc) (pos := py) (Q := fun ℓ' σ'' => ℓ' = upd ℓ y (.ref acc) ∧ σ'' = σ') ⟨rfl, rfl⟩ hk hl (.ref acc) rfl s' R' F') (fun _ s'' ⟨ℓ₂, σ₂, R₂, F₂, S₂, e1, e2⟩ => ?_) fun _ _ x => x.elim
  subst e1 e2
  obtain ⟨oC, eC, ep, e3, hnn⟩ := hn
  have eC' : s''.heap.get? C = some oC := S₂.kept C oC e3 fσ hCL
  refine ⟨m, ⟨oC, eC, ep, eC', hnn⟩, fun h' hs' => ?_⟩
  exact ⟨_, σ₂, R₂.soft (k := s''.toks) f0 fσ fun b o hb e => hs'.extBut b o hb e, F₂.soft (fun b o hb e => hs'.extBut b o hb e) hCL, S₁.trans ((S'.trans S₂).soft (k := s''.toks) hCL hC fun b o hb e => hs'.extBut b o hb e), q⟩
end
end Mine
set_option maxHeartbeats 200000
namespace Mine
variable {B : Bs} {A : Around} {L : Addr} {α β : Type} {σ : St} {ℓ : Loc} {mk : List AV → AObj} {c : Value} {dd : Option Addr} {a : Addr} {xs : List AV}

/-- an object of an own class, called -/
theorem obj_code (O : B.Ok) {C dx f : Addr} {args : List AV} {oc : Value} {od : Option Addr} {fd : FuncData} {osl : Array (Option Value)} {Q : AV → St → Prop} (e : σ.m a = some (.inst C dx)) (h : Cc B A (.ref f) (.ref a :: args) σ Q)
    (hf : findIn B.K (.ref C) "__call__" = some (some (.ref f))) (hK : B.K.lookup f = some ⟨oc, od, .func fd, osl⟩) (ht : typeIn B.K (.ref f) = some (.type "function")) : Cc B A (.ref a) args σ Q := fun fv vs hfv hvs s R => by
  obtain rfl := ab_ref hfv
  obtain ⟨_, o, ho, q⟩ := R.own _ _ e
  obtain rfl : o = ⟨.ref C, some dx, .plain, #[]⟩ := q
  have X := R.kin O
  refine codeAny_of_tree ?_
  show wpAny _ _ (callAny (.ref a) _) _ _ _
  unfold callAny
  refine wpAny_bind (wpAny_load ho ?_)
  show wpAny _ _ (callAny.viaDunder (.ref a) _) _ _ _
  unfold callAny.viaDunder
  refine wpAny_bind (wpAny_bind ((type_at R e rfl).here ((looks_findIn X hf).here ?_)))
  dsimp only
  refine wpAny_bind ((bind_fn X _ ht).here ?_)
  dsimp only
  refine wpAny_bind ?_
  show wpAny _ _ (callAny.plainCallee (.ref f)) _ _ _
  unfold callAny.plainCallee
  refine wpAny_bind (wpAny_load (X _ _ hK) ?_)
  refine wpAny_pure ?_
  simp only [if_true]
  exact wpAny_pure ⟨rfl, h (.ref f) (.ref a :: vs) rfl (by rw [List.map_cons, hvs]; rfl) s R⟩
/-- a class of the text, called -/
theorem make_code (O : B.Ok) {C fI : Addr} {args : List AV} {Q : AV → St → Prop} (hm : makesIn B.K C = true) (hi : findIn B.K (.ref C) "__init__" = some (some (.ref fI))) (hf : typeIn B.K (.ref fI) = some (.type "function"))
    (h : ∀ (vs : List Value) x dx, vs.map ab = args → σ.m x = none → σ.m dx = none → x ≠ dx → Cc B (A.under (.builtin "type.__call__" ⟨.ref C :: vs, []⟩)) (.ref fI) (.ref x :: args) ((σ.put dx (.ns 0 (fun _ => none))).put x (.inst C dx)) fun v σ' => v = .none ∧ Q (.ref x) σ') :
    Cc B A (.ref C) args σ Q := fun fv vs hfv hvs s R => by
  obtain rfl := ab_ref hfv
  have X := R.kin O
  obtain ⟨hh, g, d, t, os⟩ := s
  obtain ⟨R1, S1, m1⟩ := R.push (o := emptyDict) (ao := .ns 0 (fun _ => none)) ⟨#[], 0, rfl, fun _ h => absurd h (by simp), Nat.zero_le _, fun _ => rfl⟩ rfl
  obtain ⟨R2, S2, m2⟩ := R1.push (o := instObj C hh.objs.size) (ao := .inst C hh.objs.size) rfl rfl
  dsimp only at R1 S1 m1 R2 S2 m2
  rw [Heap.size_push] at R2 S2 m2
  have hne : hh.objs.size + 1 ≠ hh.objs.size := Nat.succ_ne_self _
  have mx : σ.m (hh.objs.size + 1) = none := by rw [put_other hne] at m2; exact m2
  refine make_core (makes_of X hm) (looks_findIn X hi) (fun self => bind_fn X self hf) (.inl rfl) ?_
  refine codeAny_mono (h vs (hh.objs.size + 1) hh.objs.size hvs mx m1 hne (.ref fI) (.ref (hh.objs.size + 1) :: vs) rfl (by rw [List.map_cons, hvs]; rfl) _ R2) ?_
  rintro r s' ⟨v, σ', rfl, R', S', hv, q⟩
  exact ⟨ab_none hv, _, σ', rfl, R', (S1.trans S2).trans S', q⟩

/-- a def of the text with cells -/
theorem fn_codeC (O : B.Ok) {k n : Nat} {f : Addr} {oc : Value} {od : Option Addr} {osl : Array (Option Value)} {fd : FuncData} {body : List Stmt} {ps : List Str} {ds : List (Str × Value)} {args : List AV} {Q : AV → St → Prop}
    (lo : Lo (k + 1) A) (hK : B.K.lookup f = some ⟨oc, od, .func fd, osl⟩) (hbody : fd.body = .stmts body) (hcd : codeIn B.K fd.code fd.qualname = true)
    (hb : ∀ (s : Shared) (g : Nat → Value), B.K.In s.heap → BindsTo s fd ⟨(List.range n).map g, []⟩ (ps.zip ((List.range n).map g) ++ ds))
    (hargs : args.length = n) (hps : ps.length = n)
    (h : ∀ C, σ.m C = none → OnCells fd.scope.names fd.closure σ fun cs σ' => Binds (newEnv fd.scope C fd.globals cs (fd.qualname ++ ".<locals>.") (some f) fd.code none fd.builtins) (ps.zip args ++ ds.map fun p => (p.1, ab p.2)) (fun _ => none) σ' fun ℓ₂ σ₂ =>
      Ts B (A.deeper (newEnv fd.scope C fd.globals cs (fd.qualname ++ ".<locals>.") (some f) fd.code none fd.builtins)) (newEnv fd.scope C fd.globals cs (fd.qualname ++ ".<locals>.") (some f) fd.code none fd.builtins) body ℓ₂ σ₂ fun fl _ σ' => Q (retOf fl) σ')
    (hco : fd.scope.isCoroutine = false := by rfl) (hgen : fd.scope.isGenerator = false := by rfl) (hk : fd.scope.kind = .function := by rfl) : Cc B A (.ref f) args σ Q := fun fv vs hf hvs s R => by
  obtain rfl := ab_ref hf
  have hlen : vs.length = n := by rw [← hargs, ← hvs, List.length_map]
  have hg : (List.range n).map (fun i => vs.getD i .none) = vs := by
    apply List.ext_getElem
    · simp [hlen]
    · intro i h1 h2; simp [List.getD, h2]
  have X := R.kin O
  obtain ⟨mg, mb, _, _, hlim, _⟩ := O.top
  have hbs := hb s (fun i => vs.getD i .none) X
  rw [hg] at hbs
  have hz : (ps.zip vs ++ ds).map (fun p => (p.1, ab p.2)) = ps.zip args ++ ds.map fun p => (p.1, ab p.2) := by
    rw [List.map_append, ← hvs, List.zip_map_right]; rfl
  refine codeAny_call_function lo.room (X _ _ hK) rfl hco hgen hbody (codeRec_of X hcd) (hbs _ _ _ _ ?_)
  refine wpAny_mono (new_env (A := A.in1) (closure := fd.closure) (binds := ps.zip vs ++ ds) (around := none) (Z := fun env ℓ₂ σ₂ => Ts B (A.deeper env) env body ℓ₂ σ₂ fun fl _ σ' => Q (retOf fl) σ') R hk (by rw [hz]; exact h)) (fun env s₂ ⟨C, ℓ₂, σ₂, cs, hC, he, R₂, F₂, S₂, z⟩ => ⟨hlim.keeps R₂.base, ?_⟩) fun _ _ x => x.elim
  have hl : env.locals = C := by rw [he]; rfl
  subst hl
  refine codeAny_func (wpAny_mono (z s₂ R₂ F₂) (fun fl s₃ ⟨ℓ₃, σ₃, R₃, F₃, S₃, q⟩ => ?_) fun _ _ x => x.elim)
  refine ⟨_, σ₃, rfl, R₃, (S₂.trans S₃).whole hC, ?_⟩
  cases fl <;> exact q
end Mine
set_option maxHeartbeats 200000
namespace Mine
variable {B : Bs} {A : Around} {L : Addr} {α β : Type} {σ : St} {ℓ : Loc} {mk : List AV → AObj} {c : Value} {dd : Option Addr} {a : Addr} {xs : List AV}

def domMakes (K : Frag) (C : Addr) : Bool := match K.lookup C with
  | some ⟨_, _, .cls cd, sl⟩ => !cd.abstract && !cd.hasDel && (sl.toList[4]?).join == some (.builtin "list.__new__") && !cd.mro.isEmpty && cd.mro.contains (.ref C) && cd.mro.contains (.type "list") &&
      specialIn K (.ref C) "__call__" == some (some (.builtin "type.__call__")) && instIn K (.ref C) (.type "type") == some true
  | _ => false
structure DomMakes (M : Model) (h : Heap) (C : Addr) : Prop where
  obj : ∃ oc od cd sl, h.get? C = some ⟨oc, od, .cls cd, sl⟩ ∧ cd.abstract = false ∧ cd.hasDel = false ∧ cd.mro.isEmpty = false
  made : Looks M h (Bind.madeBy (.ref C)) (some "list.__new__")
  base : Looks M h (Bind.staticBase (.ref C)) (.ref C)
  self : Looks M h (isSubtype (.ref C) (.ref C)) true
  top : Looks M h (isSubtype (.ref C) (.type "list")) true
  call : Looks M h (specialOf (.ref C) "__call__") (some (.builtin "type.__call__"))
  typ : Looks M h (isInstance (.ref C) (.type "type")) true
theorem domMakes_of {K : Frag} {M : Model} {h : Heap} (X : K.In h) {C : Addr} (e : domMakes K C = true) : DomMakes M h C := by
  unfold domMakes at e
  split at e
  · rename_i oc od cd sl ho
    simp only [Bool.and_eq_true, Bool.not_eq_true', beq_iff_eq] at e
    obtain ⟨⟨⟨⟨⟨⟨⟨e1, e2⟩, e3⟩, e4⟩, e5⟩, e6⟩, e7⟩, e8⟩ := e
    have hc : clsIn K C = some cd := by unfold clsIn; rw [ho]
    have hm : Looks M h (mroOf (.ref C)) cd.mro := (looks_clsIn X hc).andThen .now
    obtain ⟨c, l, hl⟩ : ∃ c l, cd.mro = c :: l := by cases q : cd.mro with | nil => rw [q] at e4; cases e4 | cons c l => exact ⟨c, l, rfl⟩
    have made : Looks M h (Bind.madeBy (.ref C)) (some "list.__new__") := by
      intro A Q E s k q
      unfold Bind.madeBy
      refine wpAny_bind (hm A _ E s k ?_)
      rw [hl, List.forIn_cons]
      refine wpAny_bind (wpAny_bind (wpAny_bind (wpAny_bind (wpAny_loadPart (k _ _ (X _ _ ho)) (wpAny_pure ?_)))))
      dsimp only
      rw [← Array.getElem?_toList, e3]
      exact wpAny_pure (wpAny_pure (wpAny_pure q))
    refine ⟨⟨oc, od, cd, sl, X _ _ ho, e1, e2, e4⟩, made, ?_, looks_mroIn X ?_, looks_mroIn X ?_, looks_specialIn X e7, looks_instIn X e8⟩
    · intro A Q E s k q
      unfold Bind.staticBase
      refine wpAny_bind (hm A _ E s k ?_)
      rw [hl, List.forIn_cons]
      exact wpAny_bind (wpAny_bind (wpAny_bind (made A _ E s k (wpAny_pure (wpAny_pure (wpAny_pure q))))))
    · unfold mroIn; rw [hc, Option.bind_some, if_neg (by rw [e4]; decide), e5]
    · unfold mroIn; rw [hc, Option.bind_some, if_neg (by rw [e4]; decide), e6]
  · cases e
abbrev domObj (C dx : Addr) : Obj := { cls := .ref C, dict := some dx, data := .seq #[] }
theorem kind_lnew : builtinKind "list.__new__" = some .builtinFn := by decide +kernel
theorem split_lnew : splitId "list.__new__" = some ("list", "__new__") := by decide +kernel
theorem quiet_lnew (a : Args) : (Code.builtin "list.__new__" a).quiet = true := Code.quiet_builtin _ (by decide +kernel)
theorem args_lnew (v : Value) (rest : List Value) : argsOk "list.__new__" ⟨v :: rest, []⟩ := by unfold argsOk; kernel_rfl
theorem new_dom {C : Addr} {R : Result → Shared → Prop} {h : Heap} {g : Array GenState} {d : Drawn} {t : Nat} {os : OsState} {rest : List Value} (Y : DomMakes (model B.prog B.w) h C)
    (hq : R (.ok (.ret (.ref (h.objs.size + 1)))) ⟨(h.push emptyDict).push (domObj C h.objs.size), g, d, t, os⟩) :
    codeAny (model B.prog B.w) A (.call (.builtin "list.__new__") ⟨.ref C :: rest, []⟩) R ⟨h, g, d, t, os⟩ := by
  obtain ⟨⟨oc, od, cd, sl, hC, e1, e2, e4⟩, made, base, self, top, call, typ⟩ := Y
  refine codeAny_call_builtin_code (quiet_lnew _) ?_
  have ha := args_lnew (.ref C) rest
  simp only [checkBuiltinCall, kind_lnew, split_lnew]
  repeat (first | simp only [bne_self_eq_false, Bool.false_eq_true, if_false, beq_self_eq_true, if_true] | lk)
  refine codeAny_builtin_stack PySem.F.entry_list_new rfl fun p st => ?_
  rw [Around.under_plainId PySem.F.plain_list_new _]
  have hown := owner_list_new
  simp only [hown]
  have hC' := Heap.get?_push_of_some (domObj C (h.push emptyDict).objs.size.pred) (Heap.get?_push_of_some emptyDict hC)
  repeat (first | simp only [bne_self_eq_false, Bool.false_eq_true, if_false, beq_self_eq_true, if_true, Bool.not_true] | lk)
  refine wpAny_load (Heap.get?_push_of_some _ (Heap.get?_push_of_some _ hC)) (wpAny_pure ?_)
  rw [e2]
  refine wpAny_pure (wpAny_pure ?_)
  rw [Heap.size_push]
  exact hq
theorem make_dom {C : Addr} {R : Result → Shared → Prop} {h : Heap} {g : Array GenState} {d : Drawn} {t : Nat} {os : OsState} {rest : List Value} {init : Value} (Y : DomMakes (model B.prog B.w) h C) (hi : Looks (model B.prog B.w) h (typeLookup (.ref C) "__init__") (some init))
    (hb : ∀ self, Looks (model B.prog B.w) h (bindSpecial init self) (init, [self]))
    (hq : codeAny (model B.prog B.w) (A.under (.builtin "type.__call__" ⟨.ref C :: rest, []⟩)) (.call init ⟨.ref (h.objs.size + 1) :: rest, []⟩) (InitBack (h.objs.size + 1) R) ⟨(h.push emptyDict).push (domObj C h.objs.size), g, d, t, os⟩) :
    codeAny (model B.prog B.w) A (.call (.ref C) ⟨rest, []⟩) R ⟨h, g, d, t, os⟩ := by
  have Y' := Y
  obtain ⟨⟨oc, od, cd, sl, hC, e1, e2, e4⟩, made, base, self, top, call, typ⟩ := Y
  refine codeAny_of_tree ?_
  show wpAny _ _ (callAny (.ref C) _) _ _ _
  refine nd_load hC ?_
  show wpAny _ _ (callAny.viaDunder (.ref C) _) _ _ _
  unfold callAny.viaDunder
  refine wpAny_bind (call.at ?_)
  dsimp only
  rw [tc_bind]
  refine wpAny_bind (wpAny_pure (wpAny_bind (wpAny_pure ?_)))
  refine wpAny_pure (a := Fin.again (.call (.builtin "type.__call__") ⟨.ref C :: rest, []⟩)) (And.intro rfl ?_)
  refine codeAny_call_builtin_at (Code.quiet_builtin _ (by decide +kernel)) entry_typeCall (check_slot tc_kind tc_split typ (tc_args _ _ _) ?_)
  unfold Builtin.«type.__call__»
  have hm : Looks (model B.prog B.w) h (mroOf (.ref C)) cd.mro := ((Looks.ld (part := none) hC).andThen .now).andThen .now
  repeat (first | simp only [e4, Bool.false_eq_true, if_false] | with_reducible refine wpAny_call ?_ | lk)
  refine new_dom Y' ?_
  have k : ∀ b o, h.get? b = some o → ((h.push emptyDict).push (domObj C h.objs.size)).get? b = some o := fun b o e => Heap.get?_push_of_some _ (Heap.get?_push_of_some _ e)
  have hx : ((h.push emptyDict).push (domObj C h.objs.size)).get? (h.objs.size + 1) = some (domObj C h.objs.size) := by heap_get
  have t1 : Looks (model B.prog B.w) ((h.push emptyDict).push (domObj C h.objs.size)) (typeOf (.ref (h.objs.size + 1))) (.ref C) := (Looks.ld hx).andThen .now
  have s1 := self.keeps k
  have i1 := hi.keeps k
  have b1 := (hb (.ref (h.objs.size + 1))).keeps k
  unfold isInstance callSpecial? specialOf
  repeat (first | with_reducible refine wpAny_call ?_ | lk)
  refine codeAny_mono hq fun r s' z => ?_
  rcases r with e | (v | _ | _ | _) <;> first | exact z | exact z.elim | skip
  obtain ⟨rfl, z⟩ := z
  exact wpAny_pure (wpAny_pure z)
/-- a class of the text that is a list, called -/
theorem dom_code (O : B.Ok) {C fI : Addr} {args : List AV} {Q : AV → St → Prop} (hm : domMakes B.K C = true) (hi : findIn B.K (.ref C) "__init__" = some (some (.ref fI))) (hf : typeIn B.K (.ref fI) = some (.type "function"))
    (h : ∀ (vs : List Value) x dx, vs.map ab = args → σ.m x = none → σ.m dx = none → x ≠ dx → Cc B (A.under (.builtin "type.__call__" ⟨.ref C :: vs, []⟩)) (.ref fI) (.ref x :: args) ((σ.put dx (.ns 0 (fun _ => none))).put x (.dom C dx [])) fun v σ' => v = .none ∧ Q (.ref x) σ') :
    Cc B A (.ref C) args σ Q := fun fv vs hfv hvs s R => by
  obtain rfl := ab_ref hfv
  have X := R.kin O
  obtain ⟨hh, g, d, t, os⟩ := s
  obtain ⟨R1, S1, m1⟩ := R.push (o := emptyDict) (ao := .ns 0 (fun _ => none)) ⟨#[], 0, rfl, fun _ h => absurd h (by simp), Nat.zero_le _, fun _ => rfl⟩ rfl
  obtain ⟨R2, S2, m2⟩ := R1.push (o := domObj C hh.objs.size) (ao := .dom C hh.objs.size []) ⟨#[], 0, rfl, rfl⟩ rfl
  dsimp only at R1 S1 m1 R2 S2 m2
  rw [Heap.size_push] at R2 S2 m2
  have hne : hh.objs.size + 1 ≠ hh.objs.size := Nat.succ_ne_self _
  have mx : σ.m (hh.objs.size + 1) = none := by rw [put_other hne] at m2; exact m2
  refine make_dom (domMakes_of X hm) (looks_findIn X hi) (fun self => bind_fn X self hf) ?_
  refine codeAny_mono (h vs (hh.objs.size + 1) hh.objs.size hvs mx m1 hne (.ref fI) (.ref (hh.objs.size + 1) :: vs) rfl (by rw [List.map_cons, hvs]; rfl) _ R2) ?_
  rintro r s' ⟨v, σ', rfl, R', S', hv, q⟩
  exact ⟨ab_none hv, _, σ', rfl, R', (S1.trans S2).trans S', q⟩
end Mine
set_option maxHeartbeats 200000
namespace Mine
variable {B : Bs} {A : Around} {L : Addr} {α β : Type} {σ : St} {ℓ : Loc} {mk : List AV → AObj} {c : Value} {dd : Option Addr} {a : Addr} {xs : List AV}

theorem Rel.grown {s : Shared} {h' : Heap} {k : Nat} {a : Addr} {ao : AObj} {o : Obj} (R : Rel B σ s) (hn : s.heap.get? a = none) (hk : ∀ b o, s.heap.get? b = some o → h'.get? b = some o) (ho : h'.get? a = some o) (h : OIs o ao) (hlow : mainGlobals < a) :
    Rel B (σ.put a ao) { s with heap := h', toks := k } ∧ Step σ s (σ.put a ao) { s with heap := h', toks := k } ∧ σ.m a = none := by
  obtain ⟨f1, f2⟩ := R.free hn
  refine ⟨⟨fun b o e => hk b o (R.base b o e), fun b ao' e => ?_, R.gens, R.low.1, fun b hb => ?_⟩, ⟨fun b o e _ => hk b o e, fun b hb => ?_, rfl⟩, f2⟩
  · by_cases q : b = a
    · subst q; rw [put_same] at e; cases e; exact ⟨f1, o, ho, h⟩
    · rw [put_other q] at e; obtain ⟨x, o, ho, y⟩ := R.own b ao' e; exact ⟨x, o, hk b o ho, y⟩
  · by_cases q : b = a
    · subst q; exact hlow
    · rw [put_other q] at hb; exact R.low.2 b hb
  · by_cases q : b = a
    · subst q; exact .inr hn
    · rw [put_other q] at hb; exact .inl hb
theorem Rel.size_low {s : Shared} (R : Rel B σ s) : mainGlobals < s.heap.objs.size := by obtain ⟨o, e⟩ := Option.isSome_iff_exists.mp R.low.1; exact Heap.lt_size (R.base _ _ e)
theorem c_dict_copy {d : Addr} {es : List (Int × AV)} {n : Nat} {Q : AV → St → Prop} (e : σ.m d = some (.dict es n)) (hz : es.length ≤ sizeLine) (k : ∀ a n', σ.m a = none → Q (.ref a) (σ.put a (.dict es n'))) : Callf B A (.bi "dict.copy") [.ref d] σ Q := fun fv vs hf hvs s R => by
  obtain rfl := ab_bi hf
  obtain ⟨u, rfl, hu⟩ := one hvs
  obtain rfl := ab_ref hu
  obtain ⟨kvs, hm, rfl, hs⟩ := dict_at R e
  rw [List.length_map] at hz
  refine call_meetsIn PySem.F.slot_dict_copy hm.dictOf.typeIs PySem.F.entry_dict_copy (PySem.F.args_dict_copy_1 _) (meets_dict_copy (intKind B.prog B.w) d hs) ⟨kvs, hm.dictOf, hz, fun h' hn _ hk => ?_⟩
  obtain ⟨n', hd'⟩ := hn.dictAt
  obtain ⟨o, ho', hi', _⟩ := is_dict hd'
  obtain ⟨a1, a2, a3⟩ := R.grown (k := s.toks) (no_obj _) hk ho' hi' R.size_low
  exact ⟨_, a1, a2, k _ n' a3⟩
theorem c_dict_values {d : Addr} {es : List (Int × AV)} {n : Nat} {Q : AV → St → Prop} (e : σ.m d = some (.dict es n)) (k : ∀ a, σ.m a = none → Q (.ref a) (σ.put a (.raw (viewObj "dict_values" d)))) : Callf B A (.bi "dict.values") [.ref d] σ Q := fun fv vs hf hvs s R => by
  obtain rfl := ab_bi hf
  obtain ⟨u, rfl, hu⟩ := one hvs
  obtain rfl := ab_ref hu
  obtain ⟨kvs, hm, rfl, hs⟩ := dict_at R e
  refine call_meetsIn PySem.F.slot_dict_values hm.dictOf.typeIs PySem.F.entry_dict_values (PySem.F.args_dict_values_1 _) (meets_dict_values (intKind B.prog B.w) d hs) ⟨⟨kvs, hm.dictOf⟩, ?_⟩
  obtain ⟨R', S, hm'⟩ := R.push (o := viewObj "dict_values" d) (ao := .raw (viewObj "dict_values" d)) rfl rfl
  exact ⟨_, R', S, k _ hm'⟩
theorem c_dict_items {d : Addr} {es : List (Int × AV)} {n : Nat} {Q : AV → St → Prop} (e : σ.m d = some (.dict es n)) (k : ∀ a, σ.m a = none → Q (.ref a) (σ.put a (.raw (viewObj "dict_items" d)))) : Callf B A (.bi "dict.items") [.ref d] σ Q := fun fv vs hf hvs s R => by
  obtain rfl := ab_bi hf
  obtain ⟨u, rfl, hu⟩ := one hvs
  obtain rfl := ab_ref hu
  obtain ⟨kvs, hm, rfl, hs⟩ := dict_at R e
  refine call_meetsIn PySem.F.slot_dict_items hm.dictOf.typeIs PySem.F.entry_dict_items (PySem.F.args_dict_items_1 _) (meets_dict_items (intKind B.prog B.w) d hs) ⟨⟨kvs, hm.dictOf⟩, ?_⟩
  obtain ⟨R', S, hm'⟩ := R.push (o := viewObj "dict_items" d) (ao := .raw (viewObj "dict_items" d)) rfl rfl
  exact ⟨_, R', S, k _ hm'⟩
theorem c_list_dict (hh : A.handled = none) {d : Addr} {es : List (Int × AV)} {n : Nat} {Q : AV → St → Prop} (e : σ.m d = some (.dict es n)) (hz : es.length ≤ sizeLine) (k : ∀ a, σ.m a = none → Q (.ref a) (σ.put a (.list (es.map fun p => .int p.1)))) : Callf B A (.ty "list") [.ref d] σ Q := fun fv vs hf hvs s R => by
  obtain rfl := ab_ty hf
  obtain ⟨u, rfl, hu⟩ := one hvs
  obtain rfl := ab_ref hu
  obtain ⟨kvs, hm, rfl, hs⟩ := dict_at R e
  rw [List.length_map] at hz
  refine kdl_call (kdl_dict (knd := intKind B.prog B.w) (kvs := kvs) (ep := n) hs) hh hm hz fun h' tk acc' c' hk hD hacc => ?_
  have hi : OIs { cls := .type "list", dict := none, data := .seq acc' c', slots := #[] } (.list ((kvs.map fun p => (p.1, ab p.2)).map fun p => .int p.1)) := by
    refine ⟨acc', c', rfl, ?_⟩
    rw [List.map_map]
    apply List.ext_getElem?
    intro j
    rw [List.getElem?_map, List.getElem?_map, Array.getElem?_toList]
    cases hj : acc'[j]? with
    | none =>
      have : acc'.size ≤ j := by simpa using hj
      rw [hacc.1] at this
      rw [List.getElem?_eq_none this]; rfl
    | some v =>
      obtain ⟨key, x, hx, hk'⟩ := hacc.2 j v hj
      obtain ⟨t, rfl⟩ := Value.isInt_shape hk'
      rw [hx]; rfl
  obtain ⟨a1, a2, a3⟩ := R.grown (k := tk) (no_obj _) hk hD hi R.size_low
  exact ⟨_, a1, a2, k _ a3⟩
theorem c_list_list (hh : A.handled = none) {l : Addr} {Q : AV → St → Prop} (e : σ.m l = some (.list xs)) (hz : xs.length ≤ sizeLine) (k : ∀ a, σ.m a = none → Q (.ref a) (σ.put a (.list xs))) : Callf B A (.ty "list") [.ref l] σ Q := fun fv vs hf hvs s R => by
  obtain rfl := ab_ty hf
  obtain ⟨u, rfl, hu⟩ := one hvs
  obtain rfl := ab_ref hu
  obtain ⟨ws, n, ho, hw⟩ := sq_at IsSq.list R e
  refine call_list_seq (hsz := by rw [sq_size hw]; exact hz) l (.inl rfl) ho rfl rfl fun h' c' hk hD => ?_
  obtain ⟨a1, a2, a3⟩ := R.grown (k := s.toks) (ao := .list xs) (no_obj _) hk hD ⟨ws, c', rfl, hw⟩ R.size_low
  exact ⟨_, a1, a2, k _ a3⟩

-- isinstance
theorem plain_nested : plainId "isinstance.nested" = true := by decide +kernel
theorem kind_nested : builtinKind "isinstance.nested" = none := by decide +kernel
theorem args_nested (x y z : Value) : argsOk "isinstance.nested" ⟨[x, y, z], []⟩ := by unfold argsOk; kernel_rfl
theorem chk_nested {x y z : Value} {Q : Unit → St → Prop} (h : Q () σ) : T0 B A (checkBuiltinCall "isinstance.nested" ⟨[x, y, z], []⟩) σ Q := by
  have k1 := kind_nested
  have k2 := args_nested x y z
  exact @chk_free B A σ "isinstance.nested" ⟨[x, y, z], []⟩ Q k1 k2 h
theorem T0.look {t : Sem α} {v : α} {Q : α → St → Prop} (h : ∀ s, Rel B σ s → Looks (model B.prog B.w) s.heap t v) (k : Q v σ) : T0 B A t σ Q := fun s R => (h s R).here ⟨σ, R, .refl .., k⟩
theorem Rr.of {Q : AV → St → Prop} {s : Shared} (R : Rel B σ s) {v : Value} (h : Q (ab v) σ) : Rr B σ s Q (.ok (.ret v)) s := ⟨v, σ, rfl, R, .refl .., h⟩
theorem Tf.rule {t : String} {k : Unit → Sem Fin} {Q : AV → St → Prop} (h : Tf B A (k ()) σ Q) : Tf B A (PySem.rule t >>= k) σ Q := Tf.bind (T0.rule h)
theorem f_isi_cls (O : B.Ok) {C : Addr} {ao : AObj} {d : Value} {Q : AV → St → Prop} (e : σ.m a = some ao) (hc : ao.cls = some c) (ht : typeIn B.K (.ref C) = some (.type "type")) (hcl : (clsIn B.K C).isSome = true) (hs : subIn B.K c (.ref C) = some true) (k : Q (.bool true) σ) :
    Tf B A (Builtin.«isinstance.nested» ⟨[.ref a, .ref C, rawInt 0], []⟩) σ Q := by
  unfold Builtin.«isinstance.nested»
  refine Tf.bind (T0.typeOf e hc ?_)
  show Tf B A (if (c == Value.ref C) = true then _ else _) σ Q
  split
  · exact Tf.rule (Tf.ret k)
  · refine Tf.bind (T0.look (fun s R => looks_typeIn (R.kin O) ht) ?_)
    show Tf B A (if (Value.type "type" == Value.type "type") = true then _ else _) σ Q
    rw [if_pos (by decide)]
    refine Tf.bind ?_
    refine T0.bind (t := isType (.ref C)) (T0.look (v := true) (fun s R => ?_) ?_)
    · obtain ⟨cd, hcd⟩ := Option.isSome_iff_exists.mp hcl
      unfold clsIn at hcd
      split at hcd
      · rename_i oc od cd' sl ho
        exact (Looks.ld ((R.kin O) _ _ ho)).andThen .now
      · cases hcd
    · refine T0.bind (t := isInstance (.ref a) (.ref C)) (T0.look (fun s R => isInst_at O R e hc hs) ?_)
      exact T0.pure (Tf.ret k)
theorem f_isi {id : String} {x y : Value} {Q : AV → St → Prop} (hx : (x == .builtin "__main__.__loader__#opaque") = false) (h : Tf B A (Builtin.«isinstance.nested» ⟨[x, y, rawInt 0], []⟩) σ Q) : Tf B A (Builtin.«isinstance» ⟨[x, y], []⟩) σ Q := by
  show Tf B A (if (x == .builtin "__main__.__loader__#opaque") = true then _ else _) σ Q
  rw [hx, if_neg Bool.false_ne_true]
  exact Tf.againB plain_nested entry_isinstance_nested h
theorem c_isi_cls (O : B.Ok) {C : Addr} {ao : AObj} {Q : AV → St → Prop} (e : σ.m a = some ao) (hc : ao.cls = some c) (k : Q (.bool true) σ) (ht : typeIn B.K (.ref C) = some (.type "type")) (hcl : (clsIn B.K C).isSome = true) (hs : subIn B.K c (.ref C) = some true) : Callf B A (.bi "isinstance") [.ref a, .ref C] σ Q :=
  call_builtin plain_isinstance entry_isinstance fun vs hv => by
    obtain ⟨u, v, rfl, h1, h2⟩ := two hv
    obtain rfl := ab_ref h1
    obtain rfl := ab_ref h2
    exact chk_free kind_isinstance (args_isinstance _ _) (f_isi (id := "") rfl (f_isi_cls O (d := .none) e hc ht hcl hs k))
theorem f_isi_list' {n : Int} {tk : Tok} {Q : AV → St → Prop} (e : σ.m a = some (.list xs)) (k : Q (.bool true) σ) : Tf B A (Builtin.«isinstance.nested» ⟨[.ref a, .type "list", .int n tk], []⟩) σ Q := by
  unfold Builtin.«isinstance.nested»
  refine Tf.bind (T0.typeOf e rfl ?_)
  show Tf B A (if (Value.type "list" == Value.type "list") = true then _ else _) σ Q
  rw [if_pos (by decide)]
  exact Tf.rule (Tf.ret k)
theorem c_isi_tup (O : B.Ok) {t : Addr} {Q : AV → St → Prop} (e : σ.m a = some (.list xs)) (e2 : σ.m t = some (.tup [.ty "list", .ty "tuple"])) (k : Q (.bool true) σ) (hs : subIn B.K (.type "tuple") (.type "tuple") = some true := by rfl) : Callf B A (.bi "isinstance") [.ref a, .ref t] σ Q :=
  call_builtin plain_isinstance entry_isinstance fun vs hv => by
    obtain ⟨u, v, rfl, h1, h2⟩ := two hv
    obtain rfl := ab_ref h1
    obtain rfl := ab_ref h2
    refine chk_free kind_isinstance (args_isinstance _ _) (f_isi (id := "") rfl ?_)
    unfold Builtin.«isinstance.nested»
    refine Tf.bind (T0.typeOf e rfl ?_)
    show Tf B A (if (Value.type "list" == Value.ref t) = true then _ else _) σ Q
    rw [if_neg (show ¬ ((Value.type "list" == Value.ref t) = true) from Bool.false_ne_true)]
    refine Tf.bind (T0.typeOf e2 rfl ?_)
    show Tf B A (if (Value.type "tuple" == Value.type "type") = true then _ else _) σ Q
    rw [if_neg (by decide)]
    refine Tf.bind (T0.bind (T0.typeOf e2 rfl ?_))
    rw [if_neg (by decide)]
    refine T0.pure ?_
    refine Tf.bind (T0.look (fun s R => isInst_at O R e2 rfl hs) ?_)
    dsimp only
    rw [if_pos rfl, if_neg (by decide)]
    refine Tf.bind fun s R => ?_
    obtain ⟨ws, n, ho, hw⟩ := tup_at R e2
    refine wpAny_seqItems ho rfl ⟨σ, R, .refl .., ?_⟩
    obtain ⟨w1, w2, hww, h1, h2⟩ := two hw
    obtain rfl := ab_ty h1
    obtain rfl := ab_ty h2
    have : ws = #[.type "list", .type "tuple"] := by rw [← Array.toArray_toList (xs := ws), hww]
    subst this
    show Tf B A (forIn #[Value.type "list", Value.type "tuple"] (none, ()) _ >>= _) σ Q
    rw [← Array.forIn_toList]
    show Tf B A (forIn [Value.type "list", Value.type "tuple"] (none, ()) _ >>= _) σ Q
    rw [List.forIn_cons]
    have cl : Callf B A.in1 (.bi "isinstance.nested") [.ref a, .ty "list", .int 1] σ fun v σ' => v = .bool true ∧ σ' = σ := call_builtin plain_nested entry_isinstance_nested fun vs hv => by
      rcases vs with _ | ⟨u1, _ | ⟨u2, _ | ⟨u3, _ | ⟨u4, r⟩⟩⟩⟩ <;> simp at hv
      obtain ⟨h1, h2, h3⟩ := hv
      obtain rfl := ab_ref h1
      obtain rfl := ab_ty h2
      obtain ⟨tk, rfl⟩ := ab_int h3
      exact chk_nested (f_isi_list' e ⟨rfl, rfl⟩)
    refine Tf.bind (T0.bind (T0.bind (T0.mono (cl _ _ rfl (by rfl)) ?_)))
    rintro w σ' ⟨hw', rfl⟩
    obtain rfl := ab_bool hw'
    refine T0.bind (T0.mono (tru_bool (Q := fun b τ => b = true ∧ τ = σ') ⟨rfl, rfl⟩ (.bool true) rfl) ?_)
    rintro b τ ⟨rfl, rfl⟩
    rw [if_pos rfl]
    refine T0.bind (T0.pure (T0.pure (T0.pure ?_)))
    exact fun s R => wpAny_pure (Rr.of R k)
end Mine
set_option maxHeartbeats 200000
namespace Mine
variable {B : Bs} {A : Around} {L : Addr} {α β : Type} {σ : St} {ℓ : Loc} {mk : List AV → AObj} {c : Value} {dd : Option Addr} {a : Addr} {xs : List AV}

theorem fm_congr {α β : Type} {f g : α → Option β} : ∀ {l : List α}, (∀ x ∈ l, f x = g x) → l.filterMap f = l.filterMap g
  | [], _ => rfl
  | x :: l, h => by
    rw [List.filterMap_cons, List.filterMap_cons, h x (List.mem_cons_self ..), fm_congr fun y hy => h y (List.mem_cons_of_mem _ hy)]
-- slices taken out of a list
def adel (xs : List AV) (i j : Int) : List AV := xs.zipIdx.filterMap fun x => if decide (i ≤ (x.2 : Int)) && decide ((x.2 : Int) < j) then none else some x.1
theorem adel_of {vs : List Value} (p : Nat → Bool) (i j : Int) (hp : ∀ k, p k = (decide (i ≤ (k : Int)) && decide ((k : Int) < j))) : (vs.zipIdx.filterMap fun x => match x with | (x, k) => if p k = true then none else some x).map ab = adel (vs.map ab) i j := by
  unfold adel
  rw [List.map_filterMap, List.zipIdx_map, List.filterMap_map]
  congr 1
  funext x
  obtain ⟨v, k⟩ := x
  simp only [hp, Function.comp, Prod.map]
  split <;> rename_i h <;> simp_all
theorem adel_all : adel xs 0 xs.length = [] := by
  unfold adel
  rw [List.filterMap_eq_nil_iff]
  intro x hx
  have := List.snd_lt_of_mem_zipIdx hx
  have h : (decide ((0 : Int) ≤ (x.2 : Int)) && decide ((x.2 : Int) < xs.length)) = true := by simp; omega
  rw [h]; rfl
theorem adel_last (k : Nat) (h : k ≤ xs.length) : adel xs (xs.length - k : Nat) xs.length = xs.take (xs.length - k) := by
  unfold adel
  generalize hm : xs.length - k = m
  have hm' : m ≤ xs.length := by omega
  rw [← List.take_append_drop m xs, List.zipIdx_append, List.filterMap_append]
  have h1 : ((xs.take m).zipIdx).filterMap (fun x => if (decide ((m : Int) ≤ (x.2 : Int)) && decide ((x.2 : Int) < ((xs.take m ++ xs.drop m).length : Int))) = true then none else some x.1) = xs.take m := by
    have : ((xs.take m).zipIdx).filterMap (fun x => if (decide ((m : Int) ≤ (x.2 : Int)) && decide ((x.2 : Int) < ((xs.take m ++ xs.drop m).length : Int))) = true then none else some x.1) = ((xs.take m).zipIdx).filterMap (fun x => some x.1) := by
      apply fm_congr
      intro x hx
      have := List.snd_lt_of_mem_zipIdx hx
      rw [List.length_take] at this
      have h : (decide ((m : Int) ≤ (x.2 : Int)) && decide ((x.2 : Int) < ((xs.take m ++ xs.drop m).length : Int))) = false := by simp; omega
      rw [h]; rfl
    rw [this]
    simp
  have h2 : ((xs.drop m).zipIdx (0 + (xs.take m).length)).filterMap (fun x => if (decide ((m : Int) ≤ (x.2 : Int)) && decide ((x.2 : Int) < ((xs.take m ++ xs.drop m).length : Int))) = true then none else some x.1) = [] := by
    rw [List.filterMap_eq_nil_iff]
    intro x hx
    have h3 := List.snd_lt_add_of_mem_zipIdx hx
    have h4 := List.le_snd_of_mem_zipIdx hx
    rw [List.length_take] at h3 h4
    rw [List.length_drop] at h3
    have h : (decide ((m : Int) ≤ (x.2 : Int)) && decide ((x.2 : Int) < ((xs.take m ++ xs.drop m).length : Int))) = true := by simp; omega
    rw [h]; rfl
  rw [Nat.zero_add] at h2
  rw [h1]
  rw [show List.zipIdx (xs.drop m) (0 + (xs.take m).length) = List.zipIdx (xs.drop m) ((xs.take m).length) by rw [Nat.zero_add], h2, List.append_nil]
  simp
theorem kind_del : builtinKind "list.__delitem__" = some .slot := by decide +kernel
theorem split_del : splitId "list.__delitem__" = some ("list", "__delitem__") := by decide +kernel
theorem plain_del : plainId "list.__delitem__" = true := by decide +kernel
theorem chk_del {Q : Unit → St → Prop} {v : Value} (hi : ∀ s, Rel B σ s → Looks (model B.prog B.w) s.heap (isInstance (.ref a) (.type "list")) true) (h : Q () σ) : T0 B A (checkBuiltinCall "list.__delitem__" ⟨[.ref a, v], []⟩) σ Q := by
  have k1 := kind_del
  have k2 := split_del
  have k3 := PySem.F.args_list_delitem_2 (.ref a) v
  exact @chk_slot B A σ "list.__delitem__" "list" "__delitem__" a [v] Q k1 k2 hi k3 h
theorem f_delslice {vl vu : Value} {sl : Addr} {lo hi : Option Int} {Q : AV → St → Prop} (h : IsSq mk c dd) (e : σ.m a = some (mk xs)) (es : σ.m sl = some (.raw (sliceObj vl vu .none))) (pl : IsPart vl lo) (pu : IsPart vu hi) (hz : xs.length ≤ sizeLine)
    (k : Q .none (σ.put a (mk (adel xs (sliceBounds lo hi none xs.length).1 (sliceBounds lo hi none xs.length).2.1)))) : Tf B A (Builtin.«list.__delitem__» ⟨[.ref a, .ref sl], []⟩) σ Q := by
  have ps : IsPart .none none := .none
  have sp : ∀ {α : Type} {f : Value × Value × Value → Sem α} {A : Around} {s : Shared} {Q : α → Shared → Prop} {E : Value → Shared → Prop}, Rel B σ s → wpAny (model B.prog B.w) A (f (rawPart lo, rawPart hi, rawPart none)) Q E s → wpAny (model B.prog B.w) A (Builtin.List.listSliceParts (.ref sl) >>= f) Q E s := fun {α f A s Q E} R q => by
    have hs := raw_at R es
    rw [listSliceParts_eq]
    refine wpAny_bind (wpAny_bind (wpAny_field hs rfl (x := .none) rfl (wpAny_bind (wpAny_listPart ps ?_))))
    rw [if_neg (show ¬ ((rawPart none == rawInt 0) = true) from Bool.false_ne_true)]
    refine wpAny_bind (wpAny_field hs rfl (x := vl) rfl (wpAny_bind (wpAny_listPart pl ?_)))
    exact wpAny_bind (wpAny_field hs rfl (x := vu) rfl (wpAny_bind (wpAny_listPart pu (wpAny_pure q))))
  have ls : ∀ {α : Type} {f : Option Int → Sem α} {A : Around} {s : Shared} {Q : α → Shared → Prop} {E : Value → Shared → Prop}, Rel B σ s → wpAny (model B.prog B.w) A (f none) Q E s → wpAny (model B.prog B.w) A (Builtin.List.listSubscript? (.ref sl) >>= f) Q E s := fun {α f A s Q E} R q => by
    have hTs : s.TypeIs (.ref sl) "slice" := ⟨_, raw_at R es, rfl⟩
    refine wpAny_bind ?_
    unfold Builtin.List.listSubscript?
    refine wpAny_bind (wpAny_specialOf hTs slice_no_index ?_)
    simp only [Option.isNone_none, if_true]
    exact wpAny_pure q
  have ty : ∀ {α : Type} {f : Value → Sem α} {A : Around} {s : Shared} {Q : α → Shared → Prop} {E : Value → Shared → Prop}, Rel B σ s → wpAny (model B.prog B.w) A (f (.type "slice")) Q E s → wpAny (model B.prog B.w) A (typeOf (.ref sl) >>= f) Q E s := fun {α f A s Q E} R q => by
    have hTs : s.TypeIs (.ref sl) "slice" := ⟨_, raw_at R es, rfl⟩
    exact wpAny_bind (wpAny_typeOf hTs q)
  intro s R
  show wpAny _ _ (Builtin.List.listSubscript? (.ref sl) >>= _) _ _ s
  refine ls R ?_
  refine ty R ?_
  rw [if_neg (by decide)]
  refine sp R ?_
  refine Tf.bind (T0.items h e fun vs hvs => ?_) s R
  have sz := sq_size hvs
  refine Tf.bind (T0.of_eq (sliceIndices_raw lo hi none vs.size (by simp)) ?_)
  refine Tf.rule ?_
  refine Tf.bind (T0.update (ys := adel xs (sliceBounds lo hi none xs.length).1 (sliceBounds lo hi none xs.length).2.1) h e (fun ws hws => ?_) hz ?_ ?_)
  · show (List.filterMap _ _).map ab = _
    rw [← sz, ← hws]
    refine adel_of _ _ _ fun k => ?_
    show (if (1 : Int) > 0 then _ else _) = _
    rw [if_pos (by decide)]
    have key : ∀ x y : Int, (decide (x ≤ (k : Int)) && decide ((k : Int) < y) && (((k : Int) - x) % 1 == 0)) = (decide (x ≤ (k : Int)) && decide ((k : Int) < y)) := fun x y => by simp [Int.emod_one]
    exact key _ _
  · unfold adel
    refine Nat.le_trans (List.length_filterMap_le _ _) ?_
    rw [List.length_zipIdx]; omega
  · exact Tf.bind (T0.letGo (Tf.ret k))
theorem di_slice (O : B.Ok) {vl vu : Value} {sl : Addr} {lo hi : Option Int} {Q : St → Prop} (h : IsSq mk c dd) (e : σ.m a = some (mk xs)) (es : σ.m sl = some (.raw (sliceObj vl vu .none))) (pl : IsPart vl lo) (pu : IsPart vu hi) (hz : xs.length ≤ sizeLine)
    (k : Q (σ.put a (mk (adel xs (sliceBounds lo hi none xs.length).1 (sliceBounds lo hi none xs.length).2.1)))) (hq : seqKeyOk B.K c = true) (hf : findIn B.K c "__delitem__" = some (some (.builtin "list.__delitem__"))) (hs : subIn B.K c (.type "list") = some true) : Di B A (.ref a) (.ref sl) σ Q := fun vo vi ho hi' => by
  obtain rfl := ab_ref ho
  obtain rfl := ab_ref hi'
  unfold delItem
  try with_reducible refine T0.holding ?_
  refine T0.bind (T0.seqKey O e (h.cls xs) hq h.shape (T0.bind (special_at O e (h.cls xs) hf PySem.F.slot_list_delitem.bind (call_builtin plain_del PySem.F.entry_list_delitem fun vs' hv => ?_))))
  obtain ⟨u, v, rfl, h1, h2⟩ := two hv
  obtain rfl := ab_ref h1
  obtain rfl := ab_ref h2
  refine chk_del (inst_sq O h e hs) (f_delslice h e es pl pu hz fun w hw => ?_)
  exact T0.pure k
theorem x_delslice (O : B.Ok) {env : Env} {o : PySem.Expr} {lower upper : Option PySem.Expr} {ps p pos : Pos} {Q : AF → Loc → St → Prop} {lo hi : Option Int} (h : IsSq mk c dd)
    (hh : Te B A env o ℓ σ fun ov σ₁ => Tp B A env lower ℓ σ₁ fun l σ₂ => Tp B A env upper ℓ σ₂ fun u σ₃ => ov = .ref a ∧ σ₃.m a = some (mk xs) ∧ IsP l lo ∧ IsP u hi ∧ xs.length ≤ sizeLine ∧
      Q .next ℓ (σ₃.put a (mk (adel xs (sliceBounds lo hi none xs.length).1 (sliceBounds lo hi none xs.length).2.1))))
    (hq : seqKeyOk B.K c = true := by rfl) (hf : findIn B.K c "__delitem__" = some (some (.builtin "list.__delitem__")) := by rfl) (hs : subIn B.K c (.type "list") = some true := by rfl) : Tx B A env (.Delete [.Subscript o (.Slice lower upper none ps) p] pos) ℓ σ Q := by
  show T _ _ _ (do standAt pos; deleteEach [.Subscript o (.Slice lower upper none ps) p] env; pure Flow.next) _ _ _
  refine T.bind (T.standAt (T.bind ?_))
  show T _ _ _ (delete (.Subscript o (.Slice lower upper none ps) p) env >>= fun _ => pure ()) _ _ _
  refine T.bind ?_
  show T _ _ _ (do let ov ← eval o env; let iv ← holding [ov] (eval (.Slice lower upper none ps) env); standAt p; holding [ov, iv] (delItem ov iv); release [ov, iv] []) _ _ _
  refine T.bind (T.mono hh ?_)
  rintro ov ℓ' σ' ⟨rfl, h'⟩
  rw [arm_eval_Slice]
  refine T.bind (T.holding (T.bind (T.mono (T.part h') ?_)))
  rintro l ℓ₁ σ₁ ⟨rfl, h₁⟩
  refine T.bind (T.holding (T.mono (T.part h₁) ?_))
  rintro u ℓ₂ σ₂ ⟨rfl, ho, e, p1, p2, hz, k⟩
  obtain rfl := ab_ref ho
  refine T.bind (T.holding (T.mono (T.part (o := none) (Q := fun v σ' => v = .none ∧ σ' = σ₂) ⟨rfl, rfl⟩) ?_))
  rintro t ℓ₃ σ₃ ⟨rfl, ht, rfl⟩
  obtain rfl := ab_none ht
  refine T.of0 (fun s R => ?_)
  refine wpAny_newObj_type ?_
  obtain ⟨R', S, hm⟩ := R.push (o := sliceObj l u .none) (ao := .raw (sliceObj l u .none)) rfl rfl
  refine ⟨_, R', S, ?_⟩
  have ea : (σ₃.put s.heap.objs.size (.raw (sliceObj l u .none))).m a = some (mk xs) := put_fresh hm e
  have hne : a ≠ s.heap.objs.size := by rintro rfl; rw [hm] at e; cases e
  have G := di_slice (A := A) O (Q := fun σ' => ∃ σ₂, St.Sub σ₂ σ' ∧ Q .next ℓ₃ σ₂) h ea (put_same ..) (p1.part rfl) (p2.part rfl) hz ⟨_, sub_put hm hne, k⟩ hq hf hs
  refine T.bind (T.standAt (T.bind (T.holding (T.of0 (T0.mono (G _ _ rfl rfl) ?_)))))
  rintro _ σ₅ ⟨σ₆, S6, q⟩
  exact T.sub (T.of0 (T0.release ⟨σ₆, S6, T.pure (T.pure q)⟩))
end Mine
set_option maxHeartbeats 200000
namespace Mine
variable {B : Bs} {A : Around} {L : Addr} {α β : Type} {σ : St} {ℓ : Loc} {mk : List AV → AObj} {c : Value} {dd : Option Addr} {a : Addr} {xs : List AV}

-- sorting: what the comparisons answer decides
def runT (lt : Nat → Nat → Bool) : KasT α → α
  | .ret a => a
  | .ask i j k => runT lt (k (lt i j))
def OkT (n : Nat) (P : α → Prop) : KasT α → Prop
  | .ret a => P a
  | .ask i j k => i < n ∧ j < n ∧ ∀ b, OkT n P (k b)
theorem OkT.bind {n : Nat} {P : β → Prop} {f : α → KasT β} : ∀ {t : KasT α}, OkT n (fun a => OkT n P (f a)) t → OkT n P (t.bind f)
  | .ret _, h => h
  | .ask _ _ k, h => ⟨h.1, h.2.1, fun b => OkT.bind (h.2.2 b)⟩
theorem OkT.run {n : Nat} {P : α → Prop} (lt : Nat → Nat → Bool) : ∀ (t : KasT α), OkT n P t → P (runT lt t)
  | .ret _, h => h
  | .ask i j k, h => OkT.run lt (k (lt i j)) (h.2.2 (lt i j))
theorem OkT.wp {n : Nat} {P : α → Prop} {lt : Nat → Nat → Bool} {I : Shared → Prop} {cmp : Nat → Nat → (Bool → Shared → Prop) → Shared → Prop} (hc : ∀ i j, i < n → j < n → ∀ (C : Bool → Shared → Prop) s, I s → (∀ s', I s' → C (lt i j) s') → cmp i j C s) {Q : α → Shared → Prop} :
    ∀ {t : KasT α} {s : Shared}, OkT n P t → I s → (∀ s', I s' → Q (runT lt t) s') → t.kasWp cmp Q s
  | .ret _, s, _, hs, k => k s hs
  | .ask i j g, s, h, hs, k => hc i j h.1 h.2.1 _ s hs fun s' hs' => OkT.wp hc (h.2.2 (lt i j)) hs' k
def Pm (n : Nat) (p : Array Nat) : Prop := p.toList.Perm (List.range n)
theorem Pm.lt {n : Nat} {p : Array Nat} (h : Pm n p) (hn : 0 < n) (i : Nat) : p.getD i 0 < n := by
  unfold Array.getD
  split
  · rename_i hi
    have : p[i] ∈ p.toList := by simp
    exact List.mem_range.mp (h.mem_iff.mp this)
  · exact hn
theorem Pm.rev {n : Nat} {p : Array Nat} (h : Pm n p) (i j : Nat) : Pm n (kas_rev p i j) := (Array.perm_iff_toList_perm.mp (mirror_perm p i j _)).trans h
theorem Pm.bub {n : Nat} {p : Array Nat} (h : Pm n p) (i j : Nat) : Pm n (bubble p i j) := (Array.perm_iff_toList_perm.mp (bubble_perm p i j)).trans h
theorem ok_asc {n : Nat} (hn : 0 < n) {p : Array Nat} (h : Pm n p) : ∀ (f m : Nat), OkT n (fun _ => True) (kas_asc p f m)
  | 0, m => trivial
  | f + 1, m => ⟨h.lt hn _, h.lt hn _, fun b => by
    cases b
    · exact ok_asc hn h f (m + 1)
    · exact trivial⟩
theorem ok_desc {n : Nat} (hn : 0 < n) : ∀ (f : Nat) {p : Array Nat}, Pm n p → ∀ (m q : Nat), OkT n (fun r => Pm n r.1) (kas_desc f p m q)
  | 0, p, h, m, q => h
  | f + 1, p, h, m, q => ⟨h.lt hn _, h.lt hn _, fun b => by
    cases b
    · refine ⟨h.lt hn _, h.lt hn _, fun d => ?_⟩
      cases d
      · exact ok_desc hn f h _ _
      · exact h
    · show OkT n _ (if q > 0 then _ else _)
      split
      · exact ok_desc hn f (h.rev _ _) _ _
      · exact ok_desc hn f h _ _⟩
theorem ok_mono {n : Nat} {P P' : α → Prop} (k : ∀ a, P a → P' a) : ∀ {t : KasT α}, OkT n P t → OkT n P' t
  | .ret _, h => k _ h
  | .ask _ _ _, h => ⟨h.1, h.2.1, fun b => ok_mono k (h.2.2 b)⟩
theorem ok_tail3 {n : Nat} (hn : 0 < n) {p : Array Nat} (h : Pm n p) (m q : Nat) : OkT n (fun r => Pm n r.2) (kas_tail3 m q p) := OkT.bind (ok_mono (fun _ _ => h.rev _ _) (ok_asc hn (h.rev _ _) _ _))
theorem ok_descPart {n : Nat} (hn : 0 < n) {p : Array Nat} (h : Pm n p) (m q : Nat) : OkT n (fun r => Pm n r.2) (kas_descPart m q p) :=
  OkT.bind (ok_mono (fun r hr => by
    split
    · exact ok_tail3 hn (hr.rev _ _) _ _
    · exact ok_tail3 hn hr _ _) (ok_desc hn _ h _ _))
theorem ok_count {n : Nat} (hn : 0 < n) {p : Array Nat} (h : Pm n p) (q : Nat) : OkT n (fun r => Pm n r.2) (kas_count q p) :=
  OkT.bind (ok_mono (fun r _ => by
    split
    · exact h
    · split
      · refine ⟨h.lt hn _, h.lt hn _, fun b => ?_⟩
        cases b
        · exact ok_descPart hn (h.rev _ _) _ _
        · exact h
      · exact ok_descPart hn h _ _) (ok_asc hn h _ _))
theorem ok_place {n : Nat} (hn : 0 < n) {p : Array Nat} (h : Pm n p) (k : Nat) : ∀ (f l r : Nat), OkT n (fun _ => True) (kas_place p k f l r)
  | 0, l, r => trivial
  | f + 1, l, r => by
    unfold kas_place
    split
    · exact trivial
    · refine ⟨h.lt hn _, h.lt hn _, fun b => ?_⟩
      cases b
      · exact ok_place hn h k f _ _
      · exact ok_place hn h k f _ _
theorem ok_bin {n : Nat} (hn : 0 < n) : ∀ (f : Nat) {p : Array Nat}, Pm n p → ∀ k, OkT n (Pm n) (kas_bin f p k)
  | 0, p, h, k => h
  | f + 1, p, h, k => OkT.bind (ok_mono (fun l _ => ok_bin hn f (h.bub _ _) _) (ok_place hn h k _ _ _))
theorem ok_sort {n : Nat} (hn : 0 < n) : OkT n (Pm n) (kas_sort n) := OkT.bind (ok_mono (fun r hr => by
    split
    · exact ok_bin hn _ hr _
    · exact hr) (ok_count hn (show Pm n _ from by unfold Pm; simp) _))
def sortIdx (lt : Nat → Nat → Bool) (n : Nat) : List Nat := if n < 2 then List.range n else (runT lt (kas_sort n)).toList
theorem sortIdx_perm (lt : Nat → Nat → Bool) (n : Nat) : (sortIdx lt n).Perm (List.range n) := by
  unfold sortIdx
  split
  · exact .refl _
  · exact OkT.run lt _ (ok_sort (by omega))

theorem f_sort {lt : Nat → Nat → Bool} {Q : AV → St → Prop} (e : σ.m a = some (.list xs)) (h64 : xs.length < 64) (Kd : SortKind → Prop)
    (kd : 2 ≤ xs.length → ∀ (vs : List Value), vs.map ab = xs → ∀ s, Rel B (σ.put a (.list [])) s → ∀ Q : SortKind → Shared → Prop, (∀ κ, Kd κ → Q κ s) → wpAny (model B.prog B.w) A.in1 (keyKind' vs.toArray) Q (fun _ _ => False) s)
    (cmp : ∀ (vs : List Value), vs.map ab = xs → ∀ κ, Kd κ → ∀ i j, i < xs.length → j < xs.length → ∀ s, Rel B (σ.put a (.list [])) s → ∀ C : Bool → Shared → Prop, (∀ tk, C (lt i j) { s with toks := tk }) → wpAny (model B.prog B.w) A.in1 (keyLt' κ (vs.getD i .none) (vs.getD j .none)) C (fun _ _ => False) s)
    (k : Q .none (σ.put a (.list ((sortIdx lt xs.length).map fun i => xs.getD i .none)))) : Tf B A (Builtin.«list.sort» ⟨[.ref a], []⟩) σ Q := fun s R => by
  obtain ⟨ws, n, ho, hw⟩ := sq_at IsSq.list R e
  obtain ⟨vs, rfl⟩ : ∃ vs : List Value, ws = vs.toArray := ⟨ws.toList, by simp⟩
  have hwv : vs.map ab = xs := by simpa using hw
  have hlen : vs.length = xs.length := by rw [← hwv, List.length_map]
  have s1 := Heap.SameBut.update s.heap a (Obj.mapSeq fun _ => (#[] : Array Value))
  obtain ⟨e1, ho1⟩ : ∃ e1, (s.heap.update a (Obj.mapSeq fun _ => (#[] : Array Value))).get? a = some (seqObj "list" #[] e1) := ⟨_, get?_update_seq ho fun _ => #[]⟩
  obtain ⟨R1, S1⟩ := R.same (k := s.toks) (ao' := .list []) e s1 ho1 ⟨_, _, rfl, rfl⟩
  rw [list_sort_plain]
  refine wpAny_bind (listItems_at ho rfl ?_)
  refine wpAny_bind (listUpdate_at ho rfl ?_ (by rw [List.size_toArray, sizeLine_eq]; omega) (Nat.zero_le _))
  refine wpAny_bind (seqEpoch_at ho1 rfl ?_)
  refine wpAny_bind (wpAny_newTuple ?_ (by show vs.length ≤ _; rw [sizeLine_eq]; omega))
  refine wpAny_bind (wpAny_newList ?_ (Nat.zero_le _))
  refine wpAny_holding ?_
  generalize hs3 : ({ s with heap := ((s.heap.update a (Obj.mapSeq fun _ => (#[] : Array Value))).push (seqObj "tuple" vs.toArray 0)).push (seqObj "list" #[] 0) } : Shared) = s3
  have hk3 : ∀ b o, (s.heap.update a (Obj.mapSeq fun _ => (#[] : Array Value))).get? b = some o → s3.heap.get? b = some o := fun b o e => by rw [← hs3]; exact Heap.get?_push_of_some _ (Heap.get?_push_of_some _ e)
  have R3 : Rel B (σ.put a (.list [])) s3 := ⟨fun b o e => hk3 b o (R1.base b o e), fun b ao e => let ⟨x, o, ho, y⟩ := R1.own b ao e; ⟨x, o, hk3 b o ho, y⟩, by rw [← hs3]; exact R1.gens, R1.low⟩
  have S3 : Step σ s (σ.put a (.list [])) s3 := ⟨fun b o e h => hk3 b o (S1.kept b o e h), S1.grow, by rw [← hs3]⟩
  have ho3 := hk3 _ _ ho1
  dsimp only
  -- the end, from the sorted places
  have fin : ∀ (idx : List Nat) (out : Array Value) (s4 : Shared), idx = sortIdx lt xs.length → out.toList = idx.map (fun i => vs.getD i Value.none) → Rel B (σ.put a (.list [])) s4 → Step σ s (σ.put a (.list [])) s4 → s4.heap.get? a = some (seqObj "list" #[] e1) →
      Rr B σ s Q (.ok (.ret .none)) { s4 with heap := s4.heap.update a (Obj.mapSeq fun _ => out) } ∧ out.size ≤ sizeLine + 1 := fun idx out s4 hi hout R4 S4 ho4 => by
    have hl : idx.length = xs.length := by rw [hi, (sortIdx_perm lt _).length_eq, List.length_range]
    obtain ⟨c2, hc2⟩ : ∃ c2, (s4.heap.update a (Obj.mapSeq fun _ => out)).get? a = some (seqObj "list" out c2) := ⟨_, get?_update_seq ho4 fun _ => out⟩
    have hoi : OIs (seqObj "list" out c2) (.list ((sortIdx lt xs.length).map fun i => xs.getD i .none)) := by
      refine ⟨out, c2, rfl, ?_⟩
      rw [hout, hi, List.map_map]
      apply List.map_congr_left
      intro i _
      subst hwv
      simp only [Function.comp, List.getD_eq_getElem?_getD, List.getElem?_map]
      cases vs[i]? <;> rfl
    obtain ⟨R5, S5⟩ := R4.same (k := s4.toks) (put_same ..) (Heap.SameBut.update ..) hc2 hoi
    rw [put_put] at R5 S5
    refine ⟨⟨.none, _, rfl, R5, S4.trans S5, k⟩, ?_⟩
    have : out.size = out.toList.length := by simp
    rw [this, hout, List.length_map, hl, sizeLine_eq]; omega
  by_cases h2 : vs.toArray.size < 2
  · rw [if_pos h2, if_pos h2]
    refine wpAny_bind (wpAny_pure ?_)
    rw [StateT.run_pure]
    refine wpAny_bind (wpAny_pure ?_)
    dsimp only
    refine wpAny_bind (seqEpoch_at ho3 rfl ?_)
    rw [List.size_toArray] at h2
    have hout : (Array.map (fun x => x.2) (arrOf (SortSt.mk' general' (vs.toArray.zip vs.toArray) #[] 7 none))).toList = (List.range xs.length).map (fun i => vs.getD i Value.none) := by
      show (Array.map (fun x => x.2) (vs.toArray.zip vs.toArray)).toList = _
      rw [← hlen]
      match vs, h2 with
      | [], _ => simp
      | [v], _ => simp
    have hidx : List.range xs.length = sortIdx lt xs.length := by unfold sortIdx; rw [if_pos (by omega)]
    obtain ⟨f1, f2⟩ := fin _ _ s3 hidx hout R3 S3 ho3
    refine wpAny_bind (listUpdate_at ho3 rfl ?_ (Nat.zero_le _) f2)
    simp only [bne_self_eq_false, Bool.false_eq_true, if_false]
    exact wpAny_pure f1
  · rw [if_neg h2, if_neg h2]
    rw [List.size_toArray] at h2
    refine wpAny_bind (wpAny_mono (kd (by omega) vs hwv s3 R3 _ fun κ hκ => ?_) (fun _ _ x => x) fun _ _ x => x.elim)
    have est : SortSt.mk' κ (vs.toArray.zip vs.toArray) #[] 7 none = kas_st κ (pairsOf vs) (List.toArray (List.range vs.length)) := by
      have e := kas_range (pairsOf vs)
      rw [pairsOf_size] at e
      show SortSt.mk' κ (pairsOf vs) #[] 7 none = SortSt.mk' κ ((List.toArray (List.range vs.length)).map (kas_item (pairsOf vs))) #[] 7 none
      rw [e]
    have ask : (kas_sort vs.length).kasWp (kas_ask B.prog B.w A.in1 κ vs) (fun p s' => p = runT lt (kas_sort vs.length) ∧ Rel B (σ.put a (.list [])) s' ∧ Step σ s (σ.put a (.list [])) s' ∧ s'.heap.get? a = some (seqObj "list" #[] e1)) s3 := by
      refine OkT.wp (I := fun s' => Rel B (σ.put a (.list [])) s' ∧ Step σ s (σ.put a (.list [])) s' ∧ s'.heap.get? a = some (seqObj "list" #[] e1)) (lt := lt) (P := Pm vs.length) ?_ (ok_sort (by omega)) ⟨R3, S3, ho3⟩ fun s' hs' => ⟨rfl, hs'⟩
      intro i j hi hj C s' ⟨R', S', ho'⟩ kC
      exact cmp vs hwv κ hκ i j (by omega) (by omega) s' R' C fun tk => kC _ ⟨R'.tok, S'.trans .tok, ho'⟩
    rw [kas_ask_eq] at ask
    have run := kas_runs (E := fun _ _ => False) (Q := fun _ st' s' => ∃ p : Array Nat, arrOf st' = p.map (kas_item (pairsOf vs)) ∧ failedOf st' = none ∧ p = runT lt (kas_sort vs.length) ∧ Rel B (σ.put a (.list [])) s' ∧ Step σ s (σ.put a (.list [])) s' ∧ s'.heap.get? a = some (seqObj "list" #[] e1))
      (by omega) (by omega) (fun p' st' s' a1 a2 a3 a4 => ⟨p', a2, a3, a4⟩) ask
    rw [← est] at run
    refine wpAny_bind (wpAny_mono run ?_ fun _ _ e => e)
    rintro ⟨⟨⟩, st'⟩ s' ⟨p, har, hf, hp, R', S', ho'⟩
    dsimp only
    have hout : ((arrOf st').map (·.2)).toList = p.toList.map (fun i => vs.getD i Value.none) := by
      rw [har, Array.map_map, Array.toList_map]
      exact List.map_congr_left fun i _ => by show (kas_item (pairsOf vs) i).2 = _; rw [kas_item_eq]
    have hidx : p.toList = sortIdx lt xs.length := by unfold sortIdx; rw [if_neg (by omega), hp, hlen]
    obtain ⟨f1, f2⟩ := fin _ _ s' hidx hout R' S' ho'
    refine wpAny_bind (seqEpoch_at ho' rfl ?_)
    refine wpAny_bind (listUpdate_at ho' rfl ?_ (Nat.zero_le _) f2)
    rw [hf]
    simp only [bne_self_eq_false, Bool.false_eq_true, if_false]
    exact wpAny_pure f1
-- tuples of ints
def katB (fin : Bool) : List (Int × Int) → Bool
  | [] => fin
  | (p, q) :: r => if p == q then katB fin r else decide (p < q)
def rowLt (xs ys : List Int) : Bool := katB (decide (xs.length < ys.length)) (xs.zip ys)
theorem one_int {b : Bool} {p q : Int} {t u : Tok} {s : Shared} {Q : Bool → Shared → Prop} (h : Q (decide (p < q)) s) : wpAny (model B.prog B.w) A (oneLt' b (.int p t) (.int q u)) Q (fun _ _ => False) s := by
  cases b with
  | true => exact oneLt_int h
  | false => exact kat_one _ _ (lt_int h)
theorem ints_of {vs : List Value} {xs : List Int} (h : vs.map ab = xs.map AV.int) : vs.length = xs.length ∧ ∀ i (hi : i < xs.length), ∃ t, vs[i]? = some (.int xs[i] t) := by
  have hl : vs.length = xs.length := by have := congrArg List.length h; simpa using this
  refine ⟨hl, fun i hi => ?_⟩
  have q : (vs.map ab)[i]? = (xs.map AV.int)[i]? := by rw [h]
  rw [List.getElem?_map, List.getElem?_map, List.getElem?_eq_getElem hi, List.getElem?_eq_getElem (by omega)] at q
  obtain ⟨t, ht⟩ := ab_int (Option.some.inj q)
  exact ⟨t, by rw [List.getElem?_eq_getElem (by omega), ht]⟩
theorem kat_ints {b fin : Bool} {s : Shared} {Q : Bool → Shared → Prop} : ∀ {vs ws : List Value} {xs ys : List Int} {i : Nat}, vs.map ab = xs.map AV.int → ws.map ab = ys.map AV.int → Q (katB fin (xs.zip ys)) s → KatLex B.prog B.w A b fin Q (vs.zip ws) i s
  | [], _, [], _, _, _, _, h => h
  | _ :: _, [], _ :: _, [], _, _, _, h => h
  | v :: vs, w :: ws, x :: xs, y :: ys, i, h1, h2, h => by
    rw [List.map_cons, List.map_cons, List.cons.injEq] at h1 h2
    obtain ⟨t, rfl⟩ := ab_int h1.1
    obtain ⟨u, rfl⟩ := ab_int h2.1
    refine kat_cons (wpAny_eqBool_int ?_)
    rw [List.zip_cons_cons] at h
    unfold katB at h
    cases hxy : x == y with
    | true => rw [hxy] at h; exact kat_yes (kat_ints h1.2 h2.2 h)
    | false => rw [hxy] at h; exact kat_no (one_int h)
  | [], _, _ :: _, _, _, h1, _, _ => by simp at h1
  | _ :: _, _, [], _, _, h1, _, _ => by simp at h1
  | _ :: _, [], _ :: _, _ :: _, _, _, h2, _ => by simp at h2
  | _ :: _, _ :: _, _ :: _, [], _, _, h2, _ => by simp at h2
theorem c_sort_tups (O : B.Ok) {ts : List Addr} {rows : List (List Int)} {Q : AV → St → Prop} (e : σ.m a = some (.list (ts.map .ref))) (h64 : ts.length < 64) (hl : ts.length = rows.length) (hr : ∀ i (h1 : i < ts.length) (h2 : i < rows.length), σ.m ts[i] = some (.tup (rows[i].map .int)) ∧ rows[i] ≠ [])
    (k : Q .none (σ.put a (.list ((sortIdx (fun i j => rowLt (rows.getD i []) (rows.getD j [])) ts.length).map fun i => (ts.map AV.ref).getD i .none)))) (hs : subIn B.K (.type "list") (.type "list") = some true := by rfl) : Callf B A (.bi "list.sort") [.ref a] σ Q := by
  have hk : builtinKind "list.sort" = some .method := by decide +kernel
  have hsp : splitId "list.sort" = some ("list", "sort") := by decide +kernel
  have hpl : plainId "list.sort" = true := by decide +kernel
  have hne : ∀ i (h1 : i < ts.length), ts[i] ≠ a := fun i h1 q => by
    have := (hr i h1 (by omega)).1
    rw [q, e] at this; cases this
  have tup : ∀ (vs : List Value), vs.map ab = ts.map AV.ref → ∀ i, i < ts.length → ∃ x, vs[i]? = some (.ref x) ∧ ts[i]? = some x := fun vs hv i hi => by
    have q : (vs.map ab)[i]? = (ts.map AV.ref)[i]? := by rw [hv]
    rw [List.getElem?_map, List.getElem?_map, List.getElem?_eq_getElem hi] at q
    obtain ⟨v, h1, h2⟩ := Option.map_eq_some_iff.mp q
    obtain rfl := ab_ref h2
    exact ⟨_, h1, List.getElem?_eq_getElem hi⟩
  have at_ : ∀ s, Rel B (σ.put a (.list [])) s → ∀ i (h1 : i < ts.length), ∃ ws n, s.heap.get? ts[i] = some ⟨.type "tuple", none, .seq ws n, #[]⟩ ∧ ws.toList.map ab = (rows[i]'(by omega)).map AV.int := fun s R i h1 =>
    tup_at R (by rw [put_other (hne i h1)]; exact (hr i h1 (by omega)).1)
  refine call_builtin hpl entry_list_sort fun vs hv => ?_
  obtain ⟨u, rfl, h1⟩ := one hv
  obtain rfl := ab_ref h1
  refine chk_meth hk hsp (inst_sq O IsSq.list e hs) (args_list_sort _) ?_
  refine f_sort (lt := fun i j => rowLt (rows.getD i []) (rows.getD j [])) e (by rw [List.length_map]; exact h64) (fun κ => ∃ b, κ = tuples' b) ?_ ?_ (by rw [List.length_map]; exact k)
  · intro h2 vs hv s R Q kq
    rw [List.length_map] at h2
    have hvl : vs.length = ts.length := by have := congrArg List.length hv; simpa using this
    have T : ∀ (n : Nat), n ≤ ts.length → ∃ fs : List Value, fs.length = n ∧ KatTups s.heap (vs.drop (ts.length - n)) fs ∧ ∀ v ∈ fs, ∃ i t, v = .int i t := by
      intro n
      induction n with
      | zero => intro _; exact ⟨[], rfl, by rw [List.drop_eq_nil_of_le (by omega)]; exact .nil, fun _ h => by cases h⟩
      | succ n ih =>
        intro hn
        obtain ⟨fs, hf, kt, hi⟩ := ih (by omega)
        have hlt : ts.length - (n + 1) < ts.length := by omega
        obtain ⟨x, hx, hx2⟩ := tup vs hv _ hlt
        obtain ⟨ws, m, ho, hw⟩ := at_ s R _ hlt
        rw [List.getElem?_eq_getElem hlt] at hx2
        obtain rfl := Option.some.inj hx2
        have hne' := (hr _ hlt (by omega)).2
        obtain ⟨i, r, hrow⟩ : ∃ i r, rows[ts.length - (n + 1)]'(by omega) = i :: r := by
          cases q : rows[ts.length - (n + 1)]'(by omega) with
          | nil => exact absurd q hne'
          | cons i r => exact ⟨i, r, rfl⟩
        rw [hrow] at hw
        obtain ⟨t, ht⟩ := (ints_of (xs := i :: r) hw).2 0 (by simp)
        refine ⟨.int i t :: fs, by simp [hf], ?_, ?_⟩
        · have hd : vs.drop (ts.length - (n + 1)) = .ref ts[ts.length - (n + 1)] :: vs.drop (ts.length - n) := by
            rw [List.drop_eq_getElem_cons (by omega)]
            congr 1
            · have := List.getElem?_eq_getElem (l := vs) (i := ts.length - (n + 1)) (by omega)
              rw [hx] at this; exact (Option.some.inj this).symm
            · congr 1; omega
          rw [hd]
          exact .cons ho rfl rfl (by rw [← Array.getElem?_toList]; exact ht) kt
        · intro v hv
          rcases List.mem_cons.mp hv with rfl | hv
          · exact ⟨i, t, rfl⟩
          · exact hi v hv
    obtain ⟨fs, hf, kt, hi⟩ := T ts.length (Nat.le_refl _)
    rw [Nat.sub_self, List.drop_zero] at kt
    exact kat_kind kt (by omega) (T := .type "int") (fun v hv => by obtain ⟨i, t, rfl⟩ := hi v hv; exact .now) (by decide) (kq _ ⟨_, rfl⟩)
  · rintro vs hv κ ⟨b, rfl⟩ i j hi hj s R C kC
    rw [List.length_map] at hi hj
    obtain ⟨x, hx, hx2⟩ := tup vs hv i hi
    obtain ⟨y, hy, hy2⟩ := tup vs hv j hj
    obtain ⟨ws, n, ho, hw⟩ := at_ s R i hi
    obtain ⟨zs, m, ho2, hz⟩ := at_ s R j hj
    rw [List.getElem?_eq_getElem hi] at hx2
    rw [List.getElem?_eq_getElem hj] at hy2
    obtain rfl := Option.some.inj hx2
    obtain rfl := Option.some.inj hy2
    have e1 : vs.getD i .none = .ref ts[i] := by rw [List.getD_eq_getElem?_getD, hx]; rfl
    have e2 : vs.getD j .none = .ref ts[j] := by rw [List.getD_eq_getElem?_getD, hy]; rfl
    rw [e1, e2]
    refine kat_lt ho rfl ho2 rfl (kat_ints hw hz ?_)
    have l1 : ws.size = (rows[i]'(by omega)).length := by have := congrArg List.length hw; simpa using this
    have l2 : zs.size = (rows[j]'(by omega)).length := by have := congrArg List.length hz; simpa using this
    have := kC s.toks
    rw [l1, l2]
    have g1 : rows.getD i [] = rows[i]'(by omega) := by rw [List.getD_eq_getElem?_getD, List.getElem?_eq_getElem (by omega)]; rfl
    have g2 : rows.getD j [] = rows[j]'(by omega) := by rw [List.getD_eq_getElem?_getD, List.getElem?_eq_getElem (by omega)]; rfl
    rw [g1, g2] at this
    exact this
end Mine
set_option maxHeartbeats 200000
namespace Mine
variable {B : Bs} {A : Around} {L : Addr} {α β : Type} {σ : St} {ℓ : Loc}

/-- what holds while a generator runs: `ac` is its consumer's list, `told` what that holds -/
structure GI (B : Bs) (L : Addr) (ac : Option Addr) (σi : St) (si : Shared) (ℓ : Loc) (σ : St) (s : Shared) : Prop where
  rel : Rel B σ s
  fr : FrIs B L ℓ σ s.heap
  step : StepL L σi si σ s
  acc : ∀ a, ac = some a → σ.m a = none ∧ a ≠ L ∧ B.h0.get? a = none ∧ si.heap.get? a = none
def AccIs (ac : Option Addr) (h : Heap) (told : List AV) : Prop := match ac with
  | none => told = []
  | some a => ∃ vs n, h.get? a = some ⟨.type "list", none, .seq vs n, #[]⟩ ∧ vs.toList.map ab = told
structure Gp' where
  L : Addr
  ac : Option Addr
  σi : St
  si : Shared
  gR : Array GenState
  Fin : List AV → St → Prop
  Yv : List AV → AV → St → Prop
def GR (B : Bs) (G : Gp') : GenEnd := fun _ s₀ r s' => r = .ok (.ret .none) ∧ ∃ told ℓ σ, AccIs G.ac s₀.heap told ∧ AccIs G.ac s'.heap told ∧ GI B G.L G.ac G.σi G.si ℓ σ s' ∧ σ.g = G.gR ∧ G.Fin told σ
def GY (B : Bs) (G : Gp') : Protocol := fun _ s₀ v s' kap => ∃ told ℓ σ, AccIs G.ac s₀.heap told ∧ AccIs G.ac s'.heap told ∧ GI B G.L G.ac G.σi G.si ℓ σ s' ∧ σ.g = G.gR ∧ G.Yv told (ab v) σ ∧
  ∀ s'', GI B G.L G.ac G.σi G.si ℓ σ s'' → AccIs G.ac s''.heap (told ++ [ab v]) → kap (.send .none) s''
def GS (B : Bs) (A : Around) (G : Gp') (told : List AV) (n : Nat) (c : Code) (t : Sem PySem.Fin) (fs : List Frame) (ℓ : Loc) (σ : St) : Prop :=
  ∀ s₀ s, AccIs G.ac s₀.heap told → AccIs G.ac s.heap told → GI B G.L G.ac G.σi G.si ℓ σ s → Seg (model B.prog B.w) A (GR B G) (GY B G) n s₀ c t fs s

variable {G : Gp'} {told : List AV} {n : Nat} {c : Code} {fs : List Frame} {K : Flow → Sem PySem.Fin} {H : Value → Sem PySem.Fin} {gd : Bool → Bool} {lv : List Value → List Value} {env : Env}
theorem GI.move {ac : Option Addr} {σi : St} {si s s' : Shared} {ℓ' : Loc} {σ' : St} (g : GI B L ac σi si ℓ σ s) (R : Rel B σ' s') (F : FrIs B L ℓ' σ' s'.heap) (S : StepL L σ s σ' s') {told : List AV} (h : AccIs ac s.heap told) : GI B L ac σi si ℓ' σ' s' ∧ AccIs ac s'.heap told := by
  cases ac with
  | none => exact ⟨⟨R, F, g.step.trans S, fun a e => by cases e⟩, h⟩
  | some a =>
    obtain ⟨vs, m, ho, hv⟩ := h
    obtain ⟨g1, g2, g3⟩ := g.acc a rfl
    exact ⟨⟨R, F, g.step.trans S, fun b e => by cases e; exact ⟨S.old ho g1, g2, g3⟩⟩, vs, m, S.kept a _ ho g1 g2, hv⟩
theorem gs_wrap {m : Sem α} {K : α → Sem PySem.Fin} (h : T B (A.over c fs) G.L m ℓ σ fun v ℓ' σ' => GS B A G told n c (K v) fs ℓ' σ') : GS B A G told n c (m.wrap K H gd lv) fs ℓ σ := fun s₀ s h0 h1 g =>
  seg_wrap (wpAny_mono (h s g.rel g.fr) (fun v s' ⟨ℓ', σ', R, F, S, q⟩ => by
    obtain ⟨g', h'⟩ := g.move R F S h1
    exact q s₀ s' h0 h' g') fun _ _ x => x.elim)
theorem gs_nil (h : GS B A G told n c (K .next) fs ℓ σ) : GS B A G told n c ((execs [] env).wrap K H gd lv) fs ℓ σ := h
theorem gs_cons {st : Stmt} {rest : List Stmt} (h : GS B A G told n c ((exec st env).wrap (fun f => match f with | .next => (execs rest env).wrap K H gd lv | f => K f) H gd lv) fs ℓ σ) : GS B A G told n c ((execs (st :: rest) env).wrap K H gd lv) fs ℓ σ := by
  rw [execs_cons_wrap]; exact h
/-- a statement that yields nothing -/
theorem gs_stmt {st : Stmt} {rest : List Stmt} (hL : env.locals = G.L) (h : Tx B (A.over c fs) env st ℓ σ fun f ℓ' σ' => match f with
    | .next => GS B A G told n c ((execs rest env).wrap K H gd lv) fs ℓ' σ'
    | .brk => GS B A G told n c (K .brk) fs ℓ' σ'
    | .cont => GS B A G told n c (K .cont) fs ℓ' σ'
    | .ret v => v = .none ∧ GS B A G told n c (K (.ret .none)) fs ℓ' σ') : GS B A G told n c ((execs (st :: rest) env).wrap K H gd lv) fs ℓ σ := by
  refine gs_cons (gs_wrap ?_)
  rw [← hL]
  refine T.mono h fun f ℓ' σ' q => ?_
  cases f with
  | next => exact q
  | brk => exact q
  | cont => exact q
  | ret v => obtain ⟨hv, q⟩ := q; obtain rfl := ab_none hv; exact q
theorem gs_yield {e : PySem.Expr} {ypos pos : Pos} {rest : List Stmt} (hL : env.locals = G.L) (hfs : splitAtGen fs = none) (hgd : gd false = false) (hfg : fs.any Frame.guarded = false)
    (h : Te B (A.over c fs) env e ℓ σ fun v σ' => σ'.g = G.gR ∧ G.Yv told v σ' ∧ GS B A G (told ++ [v]) n c ((execs rest env).wrap K H gd lv) fs ℓ σ') (hco : env.scope.isCoroutine = false := by rfl) (hi : interactive env = false := by rfl) :
    GS B A G told (n + 1) c ((execs (.Expr (.Yield (some e) ypos) pos :: rest) env).wrap K H gd lv) fs ℓ σ := by
  refine gs_cons fun s₀ s h0 h1 g => ?_
  refine seg_Expr_Yield hfs hgd hfg ?_ hco hi
  refine wpAny_mono (h s g.rel (hL ▸ g.fr)) (fun v s' ⟨ℓ', σ', R, F, S, e, yg, y, q⟩ => ?_) fun _ _ x => x.elim
  subst e
  obtain ⟨g', h'⟩ := g.move R (hL ▸ F) (hL ▸ S) h1
  intro kap hk
  refine ⟨told, ℓ', σ', h0, h', g', yg, y, fun s'' g'' h'' => hk .none s'' ?_⟩
  exact q s'' s'' h'' h'' g''
/-- the frame that a loop's own activation stands on -/
def ownK (env : Env) (K : Flow → Sem PySem.Fin) (H : Value → Sem PySem.Fin) (gd : Bool → Bool) (lv : List Value → List Value) (r : Result) : Sem PySem.Fin :=
  ((match r with | .ok f => (.pure f : Sem Flow) | .error e => .raise e).onRaise fun (x : Value) => do
        if (← field x 1) == Value.none then unsupported "frame.own-activation:exception-without-traceback"
        setFlight x env.frame).wrap K H gd lv
theorem gs_leaf {c' : Code} {p : Pos} (f : Flow) (h : GS B A G told n c (K f) fs ℓ σ) : GS B A G told n c' (.pure (.done f)) (.ret (ownK env K H gd lv) none (gd false) (lv []) c p [] :: fs) ℓ σ := fun s₀ s h0 h1 g =>
  seg_leaf (.ok f) (h s₀ s h0 h1 g)
theorem gs_again {c' : Code} (hq : c'.quiet = true) (h : GS B A G told n c' ((model B.prog B.w).den c') fs ℓ σ) : GS B A G told n c (.pure (.again c')) fs ℓ σ := fun s₀ s h0 h1 g => seg_again hq (h s₀ s h0 h1 g)
theorem gs_end (hg : σ.g = G.gR) (h : G.Fin told σ) : GS B A G told n c (.pure (.done (.ret .none))) [] ℓ σ := fun s₀ s h0 h1 g => seg_end (.ok (.ret .none)) ⟨rfl, told, ℓ, σ, h0, h1, g, hg, h⟩
def whileK (test : PySem.Expr) (body orelse : List Stmt) (env : Env) : Flow → Sem PySem.Fin
  | .next | .cont => .pure (.again (.whileLoop test body orelse env))
  | .brk => .pure (.done .next)
  | .ret v => .pure (.done (.ret v))
def noteH (env : Env) (e : Value) : Sem PySem.Fin := (do noteFrame e env; theTreesLotGoes e : Sem Unit).wrap (fun _ => .raise e) .raise id id
theorem gs_whileLoop {test : PySem.Expr} {body orelse : List Stmt} (hL : env.locals = G.L)
    (h : Tt B (A.over (.whileLoop test body orelse env) fs) env test ℓ σ fun b σ' => if b = true then GS B A G told n (.whileLoop test body orelse env) ((execs body env).wrap (whileK test body orelse env) (noteH env) id id) fs ℓ σ'
      else GS B A G told n (.whileLoop test body orelse env) ((execs orelse env).wrap (fun f => .pure (.done f)) (noteH env) id id) fs ℓ σ') :
    GS B A G told n (.whileLoop test body orelse env) ((model B.prog B.w).den (.whileLoop test body orelse env)) fs ℓ σ := fun s₀ s h0 h1 g => by
  refine seg_whileLoop ?_
  refine wpAny_mono (h s g.rel (hL ▸ g.fr)) (fun b s' ⟨ℓ', σ', R, F, S, e, q⟩ => ?_) fun _ _ x => x.elim
  subst e
  obtain ⟨g', h'⟩ := g.move R (hL ▸ F) (hL ▸ S) h1
  cases b with
  | true =>
    rw [if_pos rfl] at q ⊢
    have := q s₀ s' h0 h' g'
    unfold whileK noteH at this
    exact this
  | false =>
    rw [if_neg Bool.false_ne_true] at q ⊢
    exact q s₀ s' h0 h' g'
theorem gs_While {test : PySem.Expr} {body orelse rest : List Stmt} {pos : Pos}
    (h : ∀ p, GS B A G told n (.whileLoop test body orelse env) ((model B.prog B.w).den (.whileLoop test body orelse env)) (.ret (ownK env (fun f => match f with | .next => (execs rest env).wrap K H gd lv | f => K f) H gd lv) none (gd false) (lv []) c p [] :: fs) ℓ σ) :
    GS B A G told n c ((execs (.While test body orelse pos :: rest) env).wrap K H gd lv) fs ℓ σ := gs_cons fun s₀ s h0 h1 g => seg_While fun p => h p s₀ s h0 h1 g
theorem gs_func {body : List Stmt} (h : GS B A G told n (.func body env) ((execs body env).wrap (fun f => .pure (.done (.ret (match f with | .ret v => v | _ => .none)))) (fun e => (leaving env e).wrap (fun _ => .raise e) .raise id id) id id) fs ℓ σ) :
    GS B A G told n (.func body env) ((model B.prog B.w).den (.func body env)) fs ℓ σ := fun s₀ s h0 h1 g => seg_func (h s₀ s h0 h1 g)
theorem gs_block {body : List Stmt} (h : GS B A G told n (.block body env) ((execs body env).wrap (fun f => .pure (.done f)) (noteH env) id id) fs ℓ σ) :
    GS B A G told n (.block body env) ((model B.prog B.w).den (.block body env)) fs ℓ σ := fun s₀ s h0 h1 g => by
  show Seg _ A _ _ n s₀ _ (((execs body env).onRaise (fun x => do noteFrame x env; theTreesLotGoes x)) >>= fun f => pure (Fin.done f)) fs s
  rw [Sem.onRaise_eq_wrap, Sem.bind_eq_wrap', Sem.wrap_wrap]
  rw [Sem.wrap_congr (execs body env) _ _ (K' := fun f => (.pure (.done f) : Sem PySem.Fin)) (H' := noteH env) (fun f => by rfl)
    (fun e => by unfold noteH; rw [Sem.bind_eq_wrap, Sem.wrap_wrap]; rfl)]
  exact h s₀ s h0 h1 g
theorem StepL.soft' {σ' : St} {s s' : Shared} {h' : Heap} {k : Nat} {I : Addr} (S : StepL L σ s σ' s') (hI : I ≠ L) (hn : ∀ o, s.heap.get? I = some o → σ.m I = none → False) (hk : ∀ b o, b ≠ I → s'.heap.get? b = some o → h'.get? b = some o) : StepL L σ s σ' { s' with heap := h', toks := k } where
  kept b o e h n := hk b o (by rintro rfl; exact hn o e h) (S.kept b o e h n)
  grow := S.grow
  os := S.os
  live := by obtain ⟨o, e⟩ := Option.isSome_iff_exists.mp S.live; rw [hk L o (Ne.symm hI) e]; rfl
-- a for loop over a list whose else part yields
def forPre (iter : PySem.Expr) (pos : Pos) (env : Env) : Sem Value := standAt pos >>= fun _ => eval iter env >>= fun a => foldedSetIterable iter env a >>= fun x => standAt iter.pos >>= fun _ => holding [x] (pyIter x)
theorem exec_For_pre (target iter : PySem.Expr) (body orelse : List Stmt) (pos : Pos) : exec (.For target iter body orelse pos) env = (forPre iter pos env >>= fun it => runOwn (.forLoop target it body orelse env) env) := by
  rw [exec_For]
  unfold forPre
  simp only [bind_assoc]
def forTn (target : PySem.Expr) (it : Value) (body : List Stmt) (env : Env) : Sem (Option Flow) := standAt target.pos >>= fun _ => (pyNext it).onRaise (fun _ => standAt { target.pos with line := 0 }) >>= fun r => match r with
  | none => pure none
  | some v => letOwnedTupleGo target it v >>= fun _ => assign target env v >>= fun _ => execs body env >>= fun f => pure (some f)
def forAfter (target : PySem.Expr) (it : Value) (body orelse : List Stmt) (env : Env) : Option Flow → Sem PySem.Fin
  | none => .pure (.again (.block orelse env))
  | some .next => .pure (.again (.forLoop target it body orelse env))
  | some .cont => .pure (.again (.forLoop target it body orelse env))
  | some .brk => .pure (.done .next)
  | some (.ret v) => .pure (.done (.ret v))
theorem forTurn_tn (target : PySem.Expr) (it : Value) (body orelse : List Stmt) : forTurn target it body orelse env = (forTn target it body env >>= forAfter target it body orelse env) := by
  unfold forTurn forTn
  simp only [bind_assoc]
  congr 1
  funext _
  congr 1
  funext r
  cases r with
  | none => rfl
  | some v =>
    simp only [bind_assoc, pure_bind]
    congr 1
    funext _
    congr 1
    funext _
    congr 1
    funext f
    cases f <;> rfl
theorem den_for (target : PySem.Expr) (it : Value) (body orelse : List Stmt) : (model B.prog B.w).den (.forLoop target it body orelse env) = (forTn target it body env).wrap (forAfter target it body orelse env) (noteH env) id id := by
  show (forTurn target it body orelse env).onRaise (fun x => do noteFrame x env; theTreesLotGoes x) = _
  rw [forTurn_tn, Sem.onRaise_eq_wrap, Sem.bind_eq_wrap', Sem.wrap_wrap]
  refine Sem.wrap_congr _ _ _ (fun o => ?_) fun e => (by
    show (do noteFrame e env; theTreesLotGoes e : Sem Unit).bind (fun _ => .raise e) = noteH env e
    unfold noteH; rw [Sem.bind_eq_wrap])
  cases o with
  | none => rfl
  | some f => cases f <;> rfl
theorem gs_For {target iter : PySem.Expr} {body orelse rest : List Stmt} {pos : Pos} (hL : env.locals = G.L)
    (h : Te B (A.over c fs) env iter ℓ σ fun x σ₁ => ∃ l xs, ∃ J : Nat → Loc → St → Prop, x = .ref l ∧ σ₁.m l = some (.list xs) ∧ J 0 ℓ σ₁ ∧ (∀ i ℓ' σ', J i ℓ' σ' → σ'.m l = some (.list xs)) ∧
      (∀ I p i v ℓ' σ', i < xs.length → xs[i]? = some v → J i ℓ' σ' →
        Ta B (A.over (.forLoop target (.ref I) body orelse env) (.ret (ownK env (fun f => match f with | .next => (execs rest env).wrap K H gd lv | f => K f) H gd lv) none (gd false) (lv []) c p [] :: fs)) env target v ℓ' σ' fun ℓ₂ σ₂ =>
        Ts B (A.over (.forLoop target (.ref I) body orelse env) (.ret (ownK env (fun f => match f with | .next => (execs rest env).wrap K H gd lv | f => K f) H gd lv) none (gd false) (lv []) c p [] :: fs)) env body ℓ₂ σ₂ fun f ℓ₃ σ₃ => match f with
          | .next => J (i + 1) ℓ₃ σ₃
          | .cont => J (i + 1) ℓ₃ σ₃
          | .brk => GS B A G told n c ((execs rest env).wrap K H gd lv) fs ℓ₃ σ₃
          | .ret v => False) ∧
      (∀ p ℓ' σ', J xs.length ℓ' σ' → GS B A G told n (.block orelse env) ((execs orelse env).wrap (fun f => .pure (.done f)) (noteH env) id id) (.ret (ownK env (fun f => match f with | .next => (execs rest env).wrap K H gd lv | f => K f) H gd lv) none (gd false) (lv []) c p [] :: fs) ℓ' σ'))
    (hh : ∀ I p, (A.over (.forLoop target (.ref I) body orelse env) (.ret (ownK env (fun f => match f with | .next => (execs rest env).wrap K H gd lv | f => K f) H gd lv) none (gd false) (lv []) c p [] :: fs)).handled = none)
    (hs : ∀ x, foldedSetIterable iter env x = Pure.pure x := by intro _; rfl) :
    GS B A G told n c ((execs (.For target iter body orelse pos :: rest) env).wrap K H gd lv) fs ℓ σ := by
  refine gs_cons ?_
  rw [exec_For_pre, Sem.bind_eq_wrap', Sem.wrap_wrap]
  intro s₀ s h0 h1 g
  refine seg_wrap ?_
  unfold forPre
  refine wpAny_bind (wpAny_standAt (wpAny_bind (wpAny_mono (h s g.rel (hL ▸ g.fr)) (fun x s₁ ⟨ℓ₁, σ₁, R₁, F₁, S₁, e₁, l, xs, J, hx, hl, j0, jD, step, fin⟩ => ?_) fun _ _ x => x.elim)))
  subst e₁
  obtain rfl := ab_ref hx
  refine wpAny_bind (wpAny_of_eq (hs _) (wpAny_bind (wpAny_standAt (wpAny_holding ?_))))
  obtain ⟨ws, m, ho, hw⟩ := sq_at IsSq.list R₁ hl
  refine wpAny_pyIter_list ⟨_, ho, rfl, _, rfl⟩ ?_
  obtain ⟨g₁, a₁⟩ := g.move R₁ (hL ▸ F₁) (hL ▸ S₁) h1
  have hI := no_obj s₁.heap
  obtain ⟨f1, f2⟩ := R₁.free hI
  obtain ⟨oL, eL⟩ := F₁.at
  have hIL : s₁.heap.objs.size ≠ env.locals := by intro q; rw [← q, hI] at eL; cases eL
  have keep : ∀ {h' : Heap}, (∀ b o, b ≠ s₁.heap.objs.size → s₁.heap.get? b = some o → h'.get? b = some o) → True := fun _ => trivial
  generalize hII : s₁.heap.objs.size = I at hI f1 f2 hIL ⊢
  generalize hit : (s₁.heap.push { cls := .type "list_iterator", data := .fields #[.ref l, .int 0 0] }) = h₂
  have hk2 : ∀ b o, s₁.heap.get? b = some o → h₂.get? b = some o := fun b o e => by rw [← hit]; exact Heap.get?_push_of_some _ e
  have hit2 : h₂.IsListIter I l 0 := by rw [← hit, ← hII]; exact ⟨_, Heap.get?_push_size _ rfl, rfl, rfl⟩
  -- the loop
  have hiddenStep : ∀ {σ' : St} {ℓ' : Loc} {s' : Shared} {h' : Heap} {k : Nat}, GI B G.L G.ac G.σi G.si ℓ' σ' s' → AccIs G.ac s'.heap told → σ'.m I = none → s₁.heap.get? I = none → (∀ a, G.ac = some a → a ≠ I) → (∀ o, G.si.heap.get? I = some o → G.σi.m I = none → False) →
      (∀ b o, b ≠ I → s'.heap.get? b = some o → h'.get? b = some o) → GI B G.L G.ac G.σi G.si ℓ' σ' { s' with heap := h', toks := k } ∧ AccIs G.ac h' told := fun {σ' ℓ' s' h' k} g' a' hσ _ hac hsi hk => by
    refine ⟨⟨g'.rel.soft f1 hσ hk, g'.fr.soft hk (hL ▸ hIL), g'.step.soft' (hL ▸ hIL) hsi hk, g'.acc⟩, ?_⟩
    generalize hq : G.ac = ac at a' hac
    cases ac with
    | none => exact a'
    | some a => obtain ⟨vs, m, ho, hv⟩ := a'; exact ⟨vs, m, hk a _ (hac a rfl) ho, hv⟩
  have hac : ∀ a, G.ac = some a → a ≠ I := fun a ea => by
    rintro rfl
    have q := a₁
    rw [ea] at q
    obtain ⟨vs, m, ho, hv⟩ := q
    rw [hI] at ho; cases ho
  have hsi : ∀ o, G.si.heap.get? I = some o → G.σi.m I = none → False := fun o e h => by
    have := g₁.step.kept I o e h (hL ▸ hIL)
    rw [hI] at this; cases this
  refine seg_call fun p => ?_
  obtain ⟨g₂, a₂⟩ := hiddenStep (k := s₁.toks) g₁ a₁ f2 hI hac hsi fun b o _ e => hk2 b o e
  have loop : ∀ (k i : Nat) (ℓ' : Loc) (σ' : St) (s' : Shared), k = xs.length - i → i ≤ xs.length → GI B G.L G.ac G.σi G.si ℓ' σ' s' → AccIs G.ac s'.heap told → σ'.m I = none → s'.heap.IsListIter I l i → J i ℓ' σ' →
      Seg (model B.prog B.w) A (GR B G) (GY B G) n s₀ (.forLoop target (.ref I) body orelse env) ((model B.prog B.w).den (.forLoop target (.ref I) body orelse env)) (.ret (ownK env (fun f => match f with | .next => (execs rest env).wrap K H gd lv | f => K f) H gd lv) none (gd false) (lv []) c p [] :: fs) s' := by
    intro k
    induction k with
    | zero =>
      intro i ℓ' σ' s' hki hi g' a' hσ hH hJ
      have hin : i = xs.length := by omega
      subst hin
      rw [den_for]
      refine seg_wrap ?_
      have SR := src_sq (B := B) (xs := xs) (I := I) (l := l) (hh I p) IsSq.list
      unfold forTn
      refine wpAny_bind (wpAny_standAt (wpAny_bind (wpAny_onRaise (wpAny_mono (SR.done σ' s' (jD _ _ _ hJ) g'.rel hH _ fun h3 tk3 hk3 => ?_) (fun _ _ x => x) fun _ _ x => x.elim))))
      refine wpAny_pure ?_
      obtain ⟨g₃, a₃⟩ := hiddenStep (k := tk3) g' a' hσ hI hac hsi hk3
      exact seg_again rfl (gs_block (fin p ℓ' σ' hJ) s₀ _ h0 a₃ g₃)
    | succ k ih =>
      intro i ℓ' σ' s' hki hi g' a' hσ hH hJ
      have hlt : i < xs.length := by omega
      rw [den_for]
      refine seg_wrap ?_
      have SR := src_sq (B := B) (xs := xs) (I := I) (l := l) (hh I p) IsSq.list
      unfold forTn
      refine wpAny_bind (wpAny_standAt (wpAny_bind (wpAny_onRaise (wpAny_mono (SR.item i σ' s' hlt (jD _ _ _ hJ) g'.rel hH _ fun v h3 tk3 hP hH3 hk3 => ?_) (fun _ _ x => x) fun _ _ x => x.elim))))
      obtain ⟨g₃, a₃⟩ := hiddenStep (k := tk3) g' a' hσ hI hac hsi hk3
      refine wpAny_bind (wpAny_mono (SR.go (i + 1) { s' with heap := h3, toks := tk3 } target v hH3 _ ?_) (fun _ _ x => x) fun _ _ x => x.elim)
      refine wpAny_bind (wpAny_mono (step I p i (ab v) ℓ' σ' hlt hP hJ v rfl _ g₃.rel (hL ▸ g₃.fr)) (fun _ s₄ ⟨ℓ₄, σ₄, R₄, F₄, S₄, z⟩ => ?_) fun _ _ x => x.elim)
      refine wpAny_bind (wpAny_mono (z s₄ R₄ F₄) (fun f s₅ ⟨ℓ₅, σ₅, R₅, F₅, S₅, y⟩ => ?_) fun _ _ x => x.elim)
      have S45 := S₄.trans S₅
      obtain ⟨g₅, a₅⟩ := g₃.move R₅ (hL ▸ F₅) (hL ▸ S45) a₃
      obtain ⟨oI, eI⟩ := SR.here _ _ hH3
      have hσ5 : σ₅.m I = none := S45.old eI hσ
      have hH5 : s₅.heap.IsListIter I l (i + 1) := SR.frame _ _ _ hH3 fun o e => S45.kept I o e hσ hIL
      refine wpAny_pure ?_
      cases f with
      | next => exact seg_again rfl (ih (i + 1) ℓ₅ σ₅ s₅ (by omega) hlt g₅ a₅ hσ5 hH5 y)
      | cont => exact seg_again rfl (ih (i + 1) ℓ₅ σ₅ s₅ (by omega) hlt g₅ a₅ hσ5 hH5 y)
      | brk => exact seg_leaf (.ok .next) (y s₀ s₅ h0 a₅ g₅)
      | ret v => exact y.elim
  exact loop xs.length 0 ℓ₁ σ₁ _ rfl (Nat.zero_le _) g₂ a₂ f2 hit2 j0
end Mine
set_option maxHeartbeats 200000
namespace Mine
variable {B : Bs} {A : Around} {L : Addr} {α β : Type} {σ : St} {ℓ : Loc} {G : Gp'}

/-- a frame as an object -/
def FrObj (o : Obj) (ℓ : Loc) : Prop := ∃ es ep, o.data = .dict es ep ∧ StrKeys es ∧ ∀ x, (nsFind es x).map ab = ℓ x
def GenObj (o : Obj) (g : Nat) : Prop := o.isFreed = false ∧ ∃ nm qn, o.cls = .type "generator" ∧ o.data = .fields #[.int g 0, nm, qn] ∧ o.slots = #[]
def St.gens (σ : St) (g : Array GenState) : St := ⟨σ.m, g⟩
def St.hide (σ : St) (a : Addr) : St := ⟨fun b => if b = a then none else σ.m b, σ.g⟩
theorem hide_sub {σ : St} {a : Addr} : St.Sub (σ.hide a) σ := ⟨fun b ao e => by
  unfold St.hide at e; dsimp only at e; split at e; cases e; exact e, rfl⟩
theorem Binds.mono {env : Env} {P Q : Loc → St → Prop} : ∀ {bs : List (Str × AV)} {ℓ : Loc} {σ : St}, Binds env bs ℓ σ P → (∀ ℓ σ, P ℓ σ → Q ℓ σ) → Binds env bs ℓ σ Q
  | [], _, _, h, k => k _ _ h
  | (x, v) :: r, ℓ, σ, h, k => by
    unfold Binds at h ⊢
    split
    · rename_i hl; rw [hl] at h; exact h.mono k
    · rename_i hl; rw [hl] at h; obtain ⟨c, v₀, h1, h2, h3⟩ := h; exact ⟨c, v₀, h1, h2, h3.mono k⟩
    · rename_i h1 h2; revert h; split <;> simp_all
/-- a generator of the text, made -/
theorem gen_code (O : B.Ok) {k n : Nat} {f : Addr} {oc : Value} {od : Option Addr} {osl : Array (Option Value)} {fd : FuncData} {body : List Stmt} {ps : List Str} {ds : List (Str × Value)} {args : List AV} {Q : AV → St → Prop}
    (lo : Lo (k + 1) A) (hK : B.K.lookup f = some ⟨oc, od, .func fd, osl⟩) (hbody : fd.body = .stmts body) (hcd : codeIn B.K fd.code fd.qualname = true)
    (hb : ∀ (s : Shared) (g : Nat → Value), B.K.In s.heap → BindsTo s fd ⟨(List.range n).map g, []⟩ (ps.zip ((List.range n).map g) ++ ds))
    (hargs : args.length = n) (hps : ps.length = n)
    (h : ∀ C, σ.m C = none → OnCells fd.scope.names fd.closure σ fun cs σ' => Binds (newEnv fd.scope C fd.globals cs (fd.qualname ++ ".<locals>.") (some f) fd.code none fd.builtins) (ps.zip args ++ ds.map fun p => (p.1, ab p.2)) (fun _ => none) σ' fun ℓ₂ σ₂ =>
      ∀ oC a o, FrObj oC ℓ₂ → GenObj o σ₂.g.size → σ₂.m C = none → (σ₂.put C (.raw oC)).m a = none →
        Q (.ref a) (((σ₂.put C (.raw oC)).put a (.raw o)).gens (σ₂.g.push (.fresh (.func body (newEnv fd.scope C fd.globals cs (fd.qualname ++ ".<locals>.") (some f) fd.code none fd.builtins))))))
    (hco : fd.scope.isCoroutine = false := by rfl) (hgen : fd.scope.isGenerator = true := by rfl) (hk : fd.scope.kind = .function := by rfl) : Cc B A (.ref f) args σ Q := fun fv vs hf hvs s R => by
  obtain rfl := ab_ref hf
  have hlen : vs.length = n := by rw [← hargs, ← hvs, List.length_map]
  have hg : (List.range n).map (fun i => vs.getD i .none) = vs := by
    apply List.ext_getElem
    · simp [hlen]
    · intro i h1 h2; simp [List.getD, h2]
  have X := R.kin O
  obtain ⟨mg, mb, _, _, hlim, _⟩ := O.top
  have hbs := hb s (fun i => vs.getD i .none) X
  rw [hg] at hbs
  have hz : (ps.zip vs ++ ds).map (fun p => (p.1, ab p.2)) = ps.zip args ++ ds.map fun p => (p.1, ab p.2) := by
    rw [List.map_append, ← hvs, List.zip_map_right]; rfl
  refine codeAny_call_generator lo.room (X _ _ hK) rfl hco hgen hbody (codeRec_of X hcd) (hbs _ _ _ _ ?_)
  refine wpAny_mono (new_env' (A := A.in1) (closure := fd.closure) (binds := ps.zip vs ++ ds) (around := none) (Z := fun env ℓ₂ σ₂ => mainGlobals < env.locals ∧ ∀ oC a o, FrObj oC ℓ₂ → GenObj o σ₂.g.size → σ₂.m env.locals = none → (σ₂.put env.locals (.raw oC)).m a = none →
        Q (.ref a) (((σ₂.put env.locals (.raw oC)).put a (.raw o)).gens (σ₂.g.push (.fresh (.func body env))))) R hk (by rw [hz]; exact fun C hlow hC => (h C hC).mono fun cs σ' q => q.mono fun ℓ₂ σ₂ y => ⟨hlow, y⟩)) (fun env s₂ ⟨C, ℓ₂, σ₂, cs, hC, he, R₂, F₂, S₂, hlow, z⟩ => ⟨hlim.keeps R₂.base, ?_⟩) fun _ _ x => x.elim
  have hl : env.locals = C := by rw [he]; rfl
  subst hl
  obtain ⟨f0, fσ, m, ⟨oC, es, ep, eC, r1, r2, r3⟩, hm⟩ := F₂
  have W := S₂.whole hC
  have R3 : Rel B (σ₂.put env.locals (.raw oC)) s₂ := by
    refine ⟨R₂.base, fun b ao e => ?_, R₂.gens, R₂.low.1, fun b hb => ?_⟩
    · by_cases q : b = env.locals
      · subst q; rw [put_same] at e; cases e; exact ⟨f0, oC, eC, rfl⟩
      · rw [put_other q] at e; exact R₂.own b ao e
    · by_cases q : b = env.locals
      · subst q; exact hlow
      · rw [put_other q] at hb; exact R₂.low.2 b hb
  have S3 : Step σ s (σ₂.put env.locals (.raw oC)) s₂ := ⟨W.kept, fun b hb => by
    by_cases q : b = env.locals
    · subst q; exact .inr hC
    · rw [put_other q] at hb; exact W.grow b hb, W.os⟩
  have hko : ∀ b o, s₂.heap.get? b = some o → (s₂.heap.push { cls := .type "generator", data := .fields #[.int s₂.gens.size 0, .str fd.name s₂.toks, .str fd.qualname (s₂.toks + 1)] }).get? b = some o := fun b o e => Heap.get?_push_of_some _ e
  obtain ⟨R4, S4, hm4⟩ := R3.push (o := { cls := .type "generator", data := .fields #[.int s₂.gens.size 0, .str fd.name s₂.toks, .str fd.qualname (s₂.toks + 1)] }) (ao := .raw { cls := .type "generator", data := .fields #[.int s₂.gens.size 0, .str fd.name s₂.toks, .str fd.qualname (s₂.toks + 1)] }) rfl rfl
  have hgs : s₂.gens = σ₂.g := R₂.gens
  have Qz := z oC s₂.heap.objs.size { cls := .type "generator", data := .fields #[.int s₂.gens.size 0, .str fd.name s₂.toks, .str fd.qualname (s₂.toks + 1)] } ⟨es, ep, r1, r2, fun x => by rw [r3]; exact hm x⟩ ⟨rfl, .str fd.name s₂.toks, .str fd.qualname (s₂.toks + 1), rfl, by rw [hgs], rfl⟩ fσ hm4
  refine ⟨_, ((σ₂.put env.locals (.raw oC)).put s₂.heap.objs.size (.raw { cls := .type "generator", data := .fields #[.int s₂.gens.size 0, .str fd.name s₂.toks, .str fd.qualname (s₂.toks + 1)] })).gens (σ₂.g.push (.fresh (.func body env))), rfl, ⟨R4.base, R4.own, ?_, R4.low⟩, ⟨fun b o e hb => (S3.trans S4).kept b o e hb, (S3.trans S4).grow, (S3.trans S4).os⟩, Qz⟩
  show s₂.gens.push _ = σ₂.g.push _
  rw [hgs]
theorem AccIs.uniq {ac : Option Addr} {h : Heap} {t1 t2 : List AV} (h1 : AccIs ac h t1) (h2 : AccIs ac h t2) : t1 = t2 := by
  cases ac with
  | none => exact (show t1 = [] from h1).trans (show t2 = [] from h2).symm
  | some a =>
    obtain ⟨vs, n, e, q⟩ := h1
    obtain ⟨ws, m, e', q'⟩ := h2
    rw [e] at e'
    injection e' with e'
    injection e' with _ _ e' _
    injection e' with e' _
    subst e'
    exact q.symm.trans q'
/-- a generator woken -/
theorem wake_gen {A : Around} {g n : Nat} {s : Shared} {gs : GenState} {R : GenEnd} {Y : Protocol} {Q : PySem.Fin → Shared → Prop} {E : Value → Shared → Prop} {o : Obj} {a : Addr} (hh : A.handled = none) (hl : s.heap.NoLimit) (hroom : A.depth < recursionLimit) (ho : s.heap.get? a = some o) (hgo : GenObj o g) (hgs : s.gens[g]? = some gs)
    (hr : ∀ n s₀ r s₁, R n s₀ r s₁ → r = .ok (.ret .none)) (hgoes : gs.Goes (model B.prog B.w) A R Y n (.send .none) (s.setGen g .running))
    (hY : ∀ v s₁ gs', gs'.bare = true → Y (n - 1) (s.setGen g .running) v s₁ (fun r' s'' => match n with
        | 0 => False
        | m + 1 => gs'.Goes (model B.prog B.w) A R Y m r' s'') → Q (.done (.ret v)) (s₁.setGen g gs'))
    (hR : ∀ s₁, R n (s.setGen g .running) (.ok (.ret .none)) s₁ → ∀ h' e x, (∀ b o, s₁.heap.get? b = some o → h'.get? b = some o) → h'.get? e = some x → x.cls = .type "StopIteration" → s₁.heap.get? e = none → (∃ vs, x.data = .fields vs ∧ vs[1]? = some Value.none) → E (.ref e) { s₁.setGen g .finished with heap := h' }) :
    wpAny (model B.prog B.w) A (Builtin.Generator.genWake (.ref a) (.send .none)) Q E s := by
  obtain ⟨_, nm, qn, h1, h2, h3⟩ := hgo
  have hg : s.heap.IsGen a g := ⟨o, nm, qn, ho, h1, h2, h3⟩
  unfold Builtin.Generator.genWake
  refine wpAny_bind (wpAny_holding (wpAny_genNumber hg (wpAny_bind (wpAny_genState hgs ?_))))
  cases gs with
  | running => exact hgoes.elim
  | finished => exact hgoes.elim
  | _ =>
    refine wpAny_bind (wpAny_roomToWake hl hroom ?_)
    show wpAny _ _ (.resume g (.send .none) [] _) _ _ s
    refine wpAny_resumeQ hgs hgoes (fun x s₁ hx => ?_) (fun v s₁ gs' hb hv => ?_)
    · obtain rfl := hr _ _ _ _ hx
      show wpAny _ _ (newExc (.type "StopIteration") [] >>= _) _ _ _
      refine wpAny_bind ?_
      simp only [newExc, newTuple]
      refine wpAny_bind (wpAny_newObj_type ?_ (by size_fits))
      refine wpAny_bind (m := firstArgMember _ _) (wpAny_of_eq (a := Value.none) (by first | rfl | (simp only [firstArgMember]; rfl)) ?_)
      refine wpAny_newObj_type ?_ (by size_fits)
      simp only [raiseNew]
      refine wpAny_bind (wpAny_bind (wpAny_handled ?_))
      rw [hh]
      refine wpAny_throw ?_
      exact hR s₁ hx _ _ _ (fun b o hb => Heap.get?_push_of_some _ (Heap.get?_push_of_some _ hb)) (Heap.get?_push_size _ rfl) rfl (Heap.get?_none_of_le (by show s₁.heap.objs.size ≤ _; simp; exact Nat.le_succ _)) ⟨_, rfl, by rfl⟩
    · exact wpAny_pure (hY v s₁ gs' hb hv)
theorem GI.push {ac : Option Addr} {S : Addr} {σi : St} {si s : Shared} {told : List AV} {v : Value} (g : GI B L ac σi si ℓ σ s) (hS : ac = some S) (h : AccIs ac s.heap told) : GI B L ac σi si ℓ σ { s with heap := s.heap.update S (Obj.mapSeq (·.push v)) } ∧ AccIs ac (s.heap.update S (Obj.mapSeq (·.push v))) (told ++ [ab v]) := by
  subst hS
  obtain ⟨vs, n, ho, hv⟩ := h
  obtain ⟨g1, g2, g3, g4⟩ := g.acc S rfl
  have hk : ∀ b o, b ≠ S → s.heap.get? b = some o → (s.heap.update S (Obj.mapSeq (·.push v))).get? b = some o := fun b o hb e => (Heap.get?_update_other _ _ (Ne.symm hb)).trans e
  refine ⟨⟨g.rel.soft (k := s.toks) g3 g1 hk, g.fr.soft hk g2, g.step.soft' (k := s.toks) g2 (fun o e _ => by rw [g4] at e; cases e) hk, fun b e => by cases e; exact ⟨g1, g2, g3, g4⟩⟩, vs.push v, n + 1, ?_, ?_⟩
  · have := Heap.get?_update_self (Obj.mapSeq (·.push v)) ho rfl
    rw [this]
    show some (Obj.mk _ _ _ _) = _
    simp [Obj.mapSeq]
  · simp [hv]
/-- a generator at rest, as its consumer holds it -/
def AtRest (B : Bs) (A : Around) (G : Gp') (g n : Nat) (told : List AV) (s : Shared) : Prop :=
  ∃ ℓ σ gs, (∀ s'', GI B G.L G.ac G.σi G.si ℓ σ s'' → AccIs G.ac s''.heap told → gs.Goes (model B.prog B.w) A (GR B G) (GY B G) n (.send .none) s'') ∧
    GI B G.L G.ac G.σi G.si ℓ σ (s.setGen g .running) ∧ AccIs G.ac s.heap told ∧ σ.g = G.gR ∧ s.gens[g]? = some gs ∧ gs.bare = true
theorem rest_next {A : Around} {g n : Nat} {told : List AV} {s : Shared} {o : Obj} {a : Addr} {Q : PySem.Fin → Shared → Prop} {E : Value → Shared → Prop} (hh : A.handled = none) (hl : s.heap.NoLimit) (hroom : A.depth < recursionLimit) (ho : s.heap.get? a = some o) (hgo : GenObj o g)
    (hrun : G.gR[g]? = some .running) (hz : n ≠ 0 ∨ ∃ S, G.ac = some S) (C : AtRest B A G g n told s)
    (hY : ∀ v s₁ m, n = m + 1 → (∃ ℓ σ gs, (∀ s'', GI B G.L G.ac G.σi G.si ℓ σ s'' → AccIs G.ac s''.heap (told ++ [ab v]) → gs.Goes (model B.prog B.w) A (GR B G) (GY B G) m (.send .none) s'') ∧
      GI B G.L G.ac G.σi G.si ℓ σ (s₁.setGen g .running) ∧ AccIs G.ac s₁.heap told ∧ σ.g = G.gR ∧ s₁.gens[g]? = some gs ∧ gs.bare = true ∧ G.Yv told (ab v) σ) → Q (.done (.ret v)) s₁)
    (hR : ∀ ℓ σ s₁ s₂ e x, GI B G.L G.ac G.σi G.si ℓ σ s₁ → AccIs G.ac s₁.heap told → σ.g = G.gR → G.Fin told σ → (∀ b o, s₁.heap.get? b = some o → s₂.heap.get? b = some o) → s₂.gens = G.gR.setIfInBounds g .finished → s₂.os = s₁.os → s₂.heap.get? e = some x → x.cls = .type "StopIteration" → s₁.heap.get? e = none → (∃ vs, x.data = .fields vs ∧ vs[1]? = some Value.none) → E (.ref e) s₂) :
    wpAny (model B.prog B.w) A (Builtin.Generator.genWake (.ref a) (.send .none)) Q E s := by
  obtain ⟨ℓ, σ, gs, goes, gi, acc, hg, hgs, hb⟩ := C
  have hgi : g < G.gR.size := by
    rcases Nat.lt_or_ge g G.gR.size with q | q
    · exact q
    · rw [Array.getElem?_eq_none q] at hrun; cases hrun
  refine wake_gen (R := GR B G) (Y := GY B G) (n := n) hh hl hroom ho hgo hgs (fun _ _ _ _ h => h.1) (goes _ gi acc) (fun v s₁ gs' hb' y => ?_) fun s₁ r h' e x hk he hx hfr hdt => ?_
  · obtain ⟨told', ℓ', σ', a0, a1, gi', hg', yv, kap⟩ := y
    have ht : told' = told := AccIs.uniq a0 acc
    subst ht
    have hs1 : s₁.gens = G.gR := gi'.rel.gens.trans hg'
    cases n with
    | zero =>
      exfalso
      rcases hz with q | ⟨S, hS⟩
      · exact q rfl
      · obtain ⟨p1, p2⟩ := gi'.push (v := v) hS a1
        exact kap _ p1 p2
    | succ m =>
      refine hY v (s₁.setGen g gs') m rfl ⟨ℓ', σ', gs', kap, ?_, a1, hg', ?_, hb', yv⟩
      · have : (s₁.setGen g gs').setGen g .running = s₁ := by
          unfold Shared.setGen
          dsimp only
          have q : (s₁.gens.setIfInBounds g gs').setIfInBounds g .running = s₁.gens := by
            rw [hs1]
            apply Array.ext_getElem?
            intro i
            rw [Array.getElem?_setIfInBounds, Array.getElem?_setIfInBounds]
            by_cases hi : g = i
            · subst hi; rw [if_pos rfl, if_pos (by simpa using hgi), hrun]
            · rw [if_neg hi, if_neg hi]
          rw [q]
        rw [this]; exact gi'
      · show (s₁.gens.setIfInBounds g gs')[g]? = some gs'
        rw [hs1, Array.getElem?_setIfInBounds, if_pos rfl, if_pos hgi]
  · obtain ⟨_, told', ℓ', σ', a0, a1, gi', hg', fin⟩ := r
    have ht : told' = told := AccIs.uniq a0 acc
    subst ht
    have hs1 : s₁.gens = G.gR := gi'.rel.gens.trans hg'
    exact hR ℓ' σ' s₁ _ e x gi' a1 hg' fin hk (by show s₁.gens.setIfInBounds g .finished = _; rw [hs1]) rfl he hx hfr hdt
theorem gen_next {A : Around} {s : Shared} {o : Obj} {g : Nat} {a : Addr} {Q : Option Value → Shared → Prop} (ho : s.heap.get? a = some o) (hgo : GenObj o g)
    (h : wpAny (model B.prog B.w) A.in1 (Builtin.Generator.genWake (.ref a) (.send .none)) (fun fin s' => ∃ v, fin = .done (.ret v) ∧ Q (some v) s') (fun e s' => ∃ b x, e = .ref b ∧ s'.heap.get? b = some x ∧ x.cls = .type "StopIteration" ∧ Q none s') s) :
    wpAny (model B.prog B.w) A (pyNext (.ref a)) Q (fun _ _ => False) s := by
  obtain ⟨_, nm, qn, h1, h2, h3⟩ := hgo
  have hg : s.heap.IsGen a g := ⟨o, nm, qn, ho, h1, h2, h3⟩
  unfold pyNext
  refine wpAny_bind (wpAny_attempt (wpAny_callSpecial?_slot (name := Str.ofString "__next__") hg.typeIs slot_gen_next
    (wpAny_call_entry slot_gen_next hg.typeIs entry_gen_next ?_ (args_gen_next _))))
  show wpAny _ _ (Builtin.Generator.genWake (.ref a) (.send .none)) _ _ s
  refine wpAny_mono h (fun fin s' hq => ?_) fun e s' hq => ?_
  · obtain ⟨v, rfl, q⟩ := hq
    exact ⟨v, rfl, wpAny_pure q⟩
  · obtain ⟨b, x, rfl, hx, hc, q⟩ := hq
    refine wpAny_bind (wpAny_isInstance (T := "StopIteration") (b := true) ⟨x, hx, hc⟩ isSubtype_stop ?_)
    exact wpAny_pure q
theorem extend_gen {S a : Addr} {g : Nat} {o : Obj} {res : Value} {R : Result → Shared → Prop} (O : B.Ok) (hh : A.handled = none) (hroom : A.in1.in1.depth < recursionLimit) (hgo : GenObj o g) (hrun : G.gR[g]? = some .running) (hS : G.ac = some S)
    (N : Nat) (hN : N ≤ sizeLine) (ha0 : G.si.heap.get? a = some o) (haσ : G.σi.m a = none) (haL : a ≠ G.L)
    (hR : ∀ told ℓ σ s₁ s₂, GI B G.L G.ac G.σi G.si ℓ σ s₁ → AccIs G.ac s₁.heap told → σ.g = G.gR → G.Fin told σ → (∀ b o, s₁.heap.get? b = some o → s₂.heap.get? b = some o) → s₂.gens = G.gR.setIfInBounds g .finished → s₂.os = s₁.os → R (.ok (.ret res)) s₂) :
    ∀ (n : Nat) (told : List AV) (s : Shared), told.length + n = N → AtRest B A.in1.in1 G g n told s → codeAny (model B.prog B.w) A (.builtin "list.extend.loop" ⟨[.ref S, .ref a, res], []⟩) R s := by
  intro n
  induction n with
  | zero =>
    intro told s hl C
    obtain ⟨ℓ, σ, gs, goes, gi, acc, hg, hgs, hb⟩ := id C
    obtain ⟨mg, mb, _, _, hlim, _⟩ := O.top
    have ho := gi.step.kept a o ha0 haσ haL
    refine codeAny_builtin PySem.F.entry_extend_loop ?_
    rw [Around.under_plainId PySem.F.plain_extend_loop _]
    show wpAny _ A.in1 (pyNext (.ref a) >>= _) _ _ s
    refine wpAny_bind (wpAny_mono (Q := fun r s' => r = none ∧ R (.ok (.ret res)) s') (gen_next ho hgo (rest_next (A := A.in1.in1) (n := 0) (told := told) hh (hlim.keeps gi.rel.base) hroom ho hgo hrun (.inr ⟨S, hS⟩) C (fun v s₁ m hm _ => by cases hm) fun ℓ σ s₁ s₂ e x gi' a' hg' fin hk hgens hos he hx _ _ => ?_)) (fun r s' hr => ?_) fun _ _ x => x.elim)
    · exact ⟨e, x, rfl, he, hx, rfl, hR told ℓ σ s₁ s₂ gi' a' hg' fin hk hgens hos⟩
    · obtain ⟨rfl, hr⟩ := hr
      exact wpAny_pure hr
  | succ n ih =>
    intro told s hl C
    obtain ⟨ℓ, σ, gs, goes, gi, acc, hg, hgs, hb⟩ := id C
    obtain ⟨mg, mb, _, _, hlim, _⟩ := O.top
    have ho := gi.step.kept a o ha0 haσ haL
    refine codeAny_builtin PySem.F.entry_extend_loop ?_
    rw [Around.under_plainId PySem.F.plain_extend_loop _]
    show wpAny _ A.in1 (pyNext (.ref a) >>= _) _ _ s
    refine wpAny_bind (wpAny_mono (Q := fun r s' => match r with
      | none => R (.ok (.ret res)) s'
      | some v => AccIs G.ac s'.heap told ∧ ∃ ℓ σ gs, (∀ s'', GI B G.L G.ac G.σi G.si ℓ σ s'' → AccIs G.ac s''.heap (told ++ [ab v]) → gs.Goes (model B.prog B.w) A.in1.in1 (GR B G) (GY B G) n (.send .none) s'') ∧
        GI B G.L G.ac G.σi G.si ℓ σ (s'.setGen g .running) ∧ σ.g = G.gR ∧ s'.gens[g]? = some gs ∧ gs.bare = true)
      (gen_next ho hgo (rest_next (A := A.in1.in1) (n := n + 1) (told := told) hh (hlim.keeps gi.rel.base) hroom ho hgo hrun (.inr ⟨S, hS⟩) C (fun v s₁ m hm y => ?_) fun ℓ σ s₁ s₂ e x gi' a' hg' fin hk hgens hos he hx _ _ => ?_)) (fun r s' hr => ?_) fun _ _ x => x.elim)
    · cases hm
      obtain ⟨ℓ', σ', gs', k1, k2, k3, k4, k5, k6, k7⟩ := y
      exact ⟨v, rfl, k3, ℓ', σ', gs', k1, k2, k4, k5, k6⟩
    · exact ⟨e, x, rfl, he, hx, hR told ℓ σ s₁ s₂ gi' a' hg' fin hk hgens hos⟩
    · cases r with
      | none => exact wpAny_pure hr
      | some v =>
        obtain ⟨k3, ℓ', σ', gs', k1, k2, k4, k5, k6⟩ := hr
        obtain ⟨p1, p2⟩ := k2.push (v := v) hS k3
        rw [hS] at k3
        obtain ⟨vs, m, hoS, hvs⟩ := k3
        have hsz : vs.size = told.length := by rw [← hvs]; simp
        show wpAny _ A.in1 (updateSeq S (·.push v) >>= _) _ _ _
        refine wpAny_bind (wpAny_updateSeq hoS rfl (wpAny_pure ⟨plainId_quiet PySem.F.plain_extend_loop _, ih (told ++ [ab v]) _ (by rw [List.length_append, List.length_singleton]; omega) ⟨ℓ', σ', gs', k1, p1, p2, k4, k5, k6⟩⟩) (by rw [hsz]; omega) (by show (vs.push v).size ≤ _; rw [Array.size_push, hsz]; omega))
theorem Rel.to {σ' : St} {s s' : Shared} (R : Rel B σ s) (hm : ∀ b ao, σ'.m b = some ao → σ.m b = some ao) (hk : ∀ b o, s.heap.get? b = some o → s'.heap.get? b = some o) (hg : s'.gens = σ'.g) : Rel B σ' s' where
  base b o e := hk b o (R.base b o e)
  own b ao e := let ⟨x, o, ho, y⟩ := R.own b ao (hm b ao e); ⟨x, o, hk b o ho, y⟩
  gens := hg
  low := ⟨R.low.1, fun b e => R.low.2 b (by
    obtain ⟨ao, q⟩ := Option.ne_none_iff_exists'.mp e
    rw [hm b ao q]; exact nofun)⟩
/-- the state that a generator starts in -/
def genSt (σ : St) (L a : Addr) (g : Nat) : St := ((σ.hide L).hide a).gens (σ.g.setIfInBounds g .running)
theorem genSt_m {σ : St} {L a : Addr} {g : Nat} {b : Addr} {ao : AObj} (h : (genSt σ L a g).m b = some ao) : σ.m b = some ao ∧ b ≠ L ∧ b ≠ a := by
  unfold genSt St.gens St.hide at h
  dsimp only at h
  split at h
  · cases h
  · rename_i h1
    split at h
    · cases h
    · rename_i h2; exact ⟨h, h2, h1⟩
theorem c_list_gen (O : B.Ok) {a : Addr} {g N : Nat} {o oC : Obj} {body : List Stmt} {env : Env} {Q : AV → St → Prop} (lo : Lo 1 A) (e : σ.m a = some (.raw o)) (hgo : GenObj o g) (eg : σ.g[g]? = some (.fresh (.func body env))) (eL : σ.m env.locals = some (.raw oC)) (hF : FrObj oC ℓ) (haL : a ≠ env.locals) (hN : N ≤ sizeLine)
    (Fin : List AV → St → Prop) (Yv : List AV → AV → St → Prop)
    (h : ∀ S si, σ.m S = none → GS B A.in1.in1.in1 ⟨env.locals, some S, genSt σ env.locals a g, si, σ.g.setIfInBounds g .running, Fin, Yv⟩ [] N (.func body env) ((model B.prog B.w).den (.func body env)) [] ℓ (genSt σ env.locals a g))
    (k : ∀ S told σ', σ.m S = none → σ'.m S = none → σ'.g = σ.g.setIfInBounds g .running → Fin told σ' → Q (.ref S) ((σ'.gens ((σ.g.setIfInBounds g .running).setIfInBounds g .finished)).put S (.list told))) :
    Callf B A (.ty "list") [.ref a] σ Q := fun fv vs hf hvs s R => by
  obtain rfl := ab_ty hf
  obtain ⟨u, rfl, hu⟩ := one hvs
  obtain rfl := ab_ref hu
  have ho := raw_at R e
  have hoC := raw_at R eL
  have hI := no_obj s.heap
  obtain ⟨f1, f2⟩ := R.free hI
  have hlow := R.size_low
  have hgi : g < σ.g.size := by
    rcases Nat.lt_or_ge g σ.g.size with q | q
    · exact q
    · rw [Array.getElem?_eq_none q] at eg; cases eg
  refine callType_codes (Q₁ := fun obj s₁ => obj = .ref s.heap.objs.size ∧ s₁ = { s with heap := s.heap.push { cls := .type "list", data := .seq #[] } }) PySem.F.called_list (PySem.F.typeCall_list_1 _) PySem.F.entry_list_init
    (code_list_new _ ⟨rfl, rfl⟩) fun obj s₁ h₁ => ?_
  obtain ⟨rfl, rfl⟩ := h₁
  have hS : (s.heap.push { cls := .type "list", data := .seq #[] }).get? s.heap.objs.size = some { cls := .type "list", data := .seq #[] } := Heap.get?_push_size _ rfl
  refine ⟨⟨_, hS, rfl⟩, PySem.F.args_list_init_2 _ _, ?_⟩
  have hSa : s.heap.objs.size ≠ a := by intro q; rw [q, ho] at hI; cases hI
  have hSL : s.heap.objs.size ≠ env.locals := by intro q; rw [q, hoC] at hI; cases hI
  generalize hSS : s.heap.objs.size = S at hS hI f1 f2 hlow hSa hSL ⊢
  have hk1 : ∀ b o', b ≠ S → s.heap.get? b = some o' → (s.heap.push { cls := .type "list", data := .seq #[] }).get? b = some o' := fun b o' _ e' => Heap.get?_push_of_some _ e'
  -- the prelude of list.__init__
  show wpAny _ _ (do let old ← Builtin.List.listItems (.ref S); Builtin.List.listUpdate (.ref S) (fun _ => #[]); letGo old.toList.reverse; Builtin.List.listExtendWith (.ref S) (.ref a) .none) _ _ _
  refine wpAny_bind ?_
  unfold Builtin.List.listItems
  refine wpAny_bind (wpAny_seqItems hS rfl (wpAny_pure ?_))
  show wpAny _ _ (updateSeq S (fun _ => #[]) >>= fun _ => letGo (#[] : Array Value).toList.reverse >>= fun _ => Builtin.List.listExtendWith (.ref S) (.ref a) .none) _ _ _
  refine wpAny_bind (wpAny_updateSeq hS rfl ?_)
  have hS₂ := Heap.get?_update_self (Obj.mapSeq (fun _ => (#[] : Array Value))) hS rfl
  refine wpAny_bind (wpAny_letGo ?_)
  obtain ⟨_, nm, qn, c1, c2, c3⟩ := id hgo
  have hk2 : ∀ b o', b ≠ S → s.heap.get? b = some o' → ((s.heap.push { cls := .type "list", data := .seq #[] }).update S (Obj.mapSeq (fun _ => (#[] : Array Value)))).get? b = some o' := fun b o' hb e' => (Heap.get?_update_other _ _ (Ne.symm hb)).trans (hk1 b o' hb e')
  have hg2 : ((s.heap.push { cls := .type "list", data := .seq #[] }).update S (Obj.mapSeq (fun _ => (#[] : Array Value)))).IsGen a g := ⟨o, nm, qn, hk2 a o (Ne.symm hSa) ho, c1, c2, c3⟩
  unfold Builtin.List.listExtendWith
  refine wpAny_bind (wpAny_typeOf (T := "generator") ⟨o, hk2 a o (Ne.symm hSa) ho, c1⟩ ?_)
  have h1 : Builtin.List.listSameRef (.ref S) (.ref a) = false := by simp [Builtin.List.listSameRef, hSa]
  have h2 : (Value.type "generator" == Value.type "list") = false := by decide
  have h3 : (Value.type "generator" == Value.type "tuple") = false := by decide
  simp only [h1, h2, h3, Bool.or_false, Bool.false_eq_true, if_false]
  refine wpAny_bind (wpAny_pyIter_gen hg2 ?_)
  refine wpAny_bind (wpAny_holding ?_)
  unfold Builtin.List.listLengthHint
  refine wpAny_bind (wpAny_specialOf (T := "generator") ⟨o, hk2 a o (Ne.symm hSa) ho, c1⟩ PySem.F.gen_no_len ?_)
  show wpAny _ _ (specialOf (Value.ref a) (Str.ofString "__length_hint__") >>= _) _ _ _
  refine wpAny_bind (wpAny_specialOf (T := "generator") ⟨o, hk2 a o (Ne.symm hSa) ho, c1⟩ PySem.F.gen_no_hint ?_)
  refine wpAny_pure ?_
  show wpAny _ _ (rule "list.extend.makes-room" >>= fun _ => Builtin.List.listTouch (.ref S) >>= fun _ =>
    again (.builtin "list.extend.loop" ⟨[.ref S, .ref a, .none], []⟩)) _ _ _
  refine wpAny_bind (wpAny_rule ?_)
  refine wpAny_bind ?_
  show wpAny _ _ (updateSeq S (·.push .none) >>= fun _ => updateSeq S (·.pop)) _ _ _
  refine wpAny_bind (wpAny_updateSeq hS₂ rfl ?_)
  have hS₃ := Heap.get?_update_self (Obj.mapSeq (·.push Value.none)) hS₂ rfl
  refine wpAny_updateSeq (hz := by seq_fits) hS₃ rfl ?_
  have hS₄ := Heap.get?_update_self (Obj.mapSeq (·.pop)) hS₃ rfl
  have hk4 : ∀ b o', b ≠ S → s.heap.get? b = some o' → ((((s.heap.push { cls := .type "list", data := .seq #[] }).update S (Obj.mapSeq (fun _ => (#[] : Array Value)))).update S (Obj.mapSeq (·.push Value.none))).update S (Obj.mapSeq (·.pop))).get? b = some o' :=
    fun b o' hb e' => (Heap.get?_update_other _ _ (Ne.symm hb)).trans ((Heap.get?_update_other _ _ (Ne.symm hb)).trans (hk2 b o' hb e'))
  generalize hH4 : (((s.heap.push { cls := .type "list", data := .seq #[] }).update S (Obj.mapSeq (fun _ => (#[] : Array Value)))).update S (Obj.mapSeq (·.push Value.none))).update S (Obj.mapSeq (·.pop)) = H4 at hS₄ hk4 ⊢
  have hk5 : ∀ b o', s.heap.get? b = some o' → H4.get? b = some o' := fun b o' e' => hk4 b o' (by rintro rfl; rw [hI] at e'; cases e') e'
  have hgens : s.gens = σ.g := R.gens
  have R5 : Rel B (genSt σ env.locals a g) ({ s with heap := H4 }.setGen g .running) := R.to (fun b ao e' => (genSt_m e').1) hk5 (by show s.gens.setIfInBounds g .running = _; rw [hgens]; rfl)
  have mL : (genSt σ env.locals a g).m env.locals = none := by
    cases q : (genSt σ env.locals a g).m env.locals with
    | none => rfl
    | some ao => exact absurd rfl (genSt_m q).2.1
  have ma : (genSt σ env.locals a g).m a = none := by
    cases q : (genSt σ env.locals a g).m a with
    | none => rfl
    | some ao => exact absurd rfl (genSt_m q).2.2
  have mS : (genSt σ env.locals a g).m S = none := by
    cases q : (genSt σ env.locals a g).m S with
    | none => rfl
    | some ao => have := (genSt_m q).1; rw [f2] at this; cases this
  have F5 : FrIs B env.locals ℓ (genSt σ env.locals a g) H4 := by
    obtain ⟨es, ep, r1, r2, r3⟩ := hF
    exact ⟨(R.own _ _ eL).1, mL, fun x => nsFind es x, ⟨oC, es, ep, hk5 _ _ hoC, r1, r2, fun _ => rfl⟩, r3⟩
  have gi : GI B env.locals (some S) (genSt σ env.locals a g) s ℓ (genSt σ env.locals a g) ({ s with heap := H4 }.setGen g .running) :=
    ⟨R5, F5, ⟨fun b o' e' _ _ => hk5 b o' e', fun _ hb => .inl hb, rfl, by show (H4.get? env.locals).isSome = true; rw [hk5 _ _ hoC]; rfl⟩, fun b e' => by cases e'; exact ⟨mS, hSL, f1, hI⟩⟩
  have acc0 : AccIs (some S) H4 [] := ⟨_, _, hS₄, by simp [Obj.mapSeq]⟩
  have hrun : (σ.g.setIfInBounds g .running)[g]? = some .running := by rw [Array.getElem?_setIfInBounds, if_pos rfl, if_pos hgi]
  refine wpAny_pure ⟨plainId_quiet PySem.F.plain_extend_loop _, ?_⟩
  refine extend_gen (A := A.in1) (G := ⟨env.locals, some S, genSt σ env.locals a g, s, σ.g.setIfInBounds g .running, Fin, Yv⟩) (S := S) (a := a) (o := o) O lo.hh (by have := lo.depth; show A.depth < 1000; omega) hgo hrun rfl N hN ho ma haL (fun told ℓ' σ' s₁ s₂ gi' a' hg' fin hk hgens' hos => ?_) N [] _ (by simp)
    ⟨ℓ, genSt σ env.locals a g, .fresh (.func body env), fun s'' gi'' a'' => ⟨rfl, h S s f2 s'' s'' a'' a'' gi''⟩, gi, acc0, rfl, by show s.gens[g]? = _; rw [hgens]; exact eg, rfl⟩
  obtain ⟨g1, g2, g3, g4⟩ := gi'.acc S rfl
  obtain ⟨ws, m, hoS, hws⟩ := a'
  refine ⟨rfl, ?_⟩
  have Rf : Rel B ((σ'.gens ((σ.g.setIfInBounds g .running).setIfInBounds g .finished)).put S (.list told)) s₂ := by
    refine ⟨fun b o' e' => hk b o' (gi'.rel.base b o' e'), fun b ao e' => ?_, hgens', gi'.rel.low.1, fun b hb => ?_⟩
    · by_cases q : b = S
      · subst q; rw [put_same] at e'; cases e'; exact ⟨f1, _, hk _ _ hoS, ws, m, rfl, hws⟩
      · rw [put_other q] at e'; obtain ⟨x, o', ho', y⟩ := gi'.rel.own b ao e'; exact ⟨x, o', hk _ _ ho', y⟩
    · by_cases q : b = S
      · subst q; exact hlow
      · rw [put_other q] at hb; exact gi'.rel.low.2 b hb
  refine ⟨_, Rf, ⟨fun b o' e' hb => hk b o' (gi'.step.kept b o' e' ?_ ?_), fun b hb => ?_, by rw [hos, gi'.step.os]⟩, k S told σ' f2 g1 hg' fin⟩
  · cases q : (genSt σ env.locals a g).m b with
    | none => rfl
    | some ao => have := (genSt_m q).1; rw [hb] at this; cases this
  · show b ≠ env.locals
    rintro rfl; rw [eL] at hb; cases hb
  · by_cases q : b = S
    · subst q; exact .inr hI
    · rw [put_other q] at hb
      rcases gi'.step.grow b hb with x | x
      · left
        obtain ⟨ao, y⟩ := Option.ne_none_iff_exists'.mp x
        rw [(genSt_m y).1]; exact nofun
      · exact .inr x
end Mine
set_option maxHeartbeats 200000
namespace Mine
variable {B : Bs} {A : Around} {L : Addr} {α β : Type} {σ : St} {ℓ : Loc} {mk : List AV → AObj} {c : Value} {dd : Option Addr} {a : Addr} {xs : List AV}

/-- a display of one entry -/
theorem e_dict1 {env : Env} {pos : Pos} {ke ve : PySem.Expr} {Q : AV → St → Prop} (h : Te B A env ke ℓ σ fun kv σ₁ => Te B A env ve ℓ σ₁ fun v σ₂ => ∃ k, kv = .int k ∧ ∀ a n, σ₂.m a = none → Q (.ref a) (σ₂.put a (.dict [(k, v)] n))) :
    Te B A env (.Dict [some ke] [ve] pos) ℓ σ Q := fun s R F => by
  have hI := no_obj s.heap
  obtain ⟨f1, f2⟩ := R.free hI
  obtain ⟨oL, eL⟩ := F.at
  have hIL : s.heap.objs.size ≠ env.locals := by intro q; rw [← q, hI] at eL; cases eL
  have hk : ∀ b o, s.heap.get? b = some o → (s.heap.push { cls := .type "dict", data := .dict #[] }).get? b = some o := fun b o e => Heap.get?_push_of_some _ e
  refine wpAny_Dict_pairs (knd := intKind B.prog B.w) (pairs := [(eval ke env, do let x ← eval ve env; standAt pos; pure x)]) (by rfl) (by simp) (by simp) ?_
  have R1 : Rel B σ { s with heap := s.heap.push { cls := .type "dict", data := .dict #[] } } := R.soft (k := s.toks) f1 f2 fun b o _ e => hk b o e
  have F1 : FrIs B env.locals ℓ σ (s.heap.push { cls := .type "dict", data := .dict #[] }) := F.soft (fun b o _ e => hk b o e) hIL
  have S1 : StepL env.locals σ s σ { s with heap := s.heap.push { cls := .type "dict", data := .dict #[] } } := (StepL.refl F).soft (k := s.toks) hIL hI fun b o _ e => hk b o e
  have E0 : ∀ (e : Value) (s : Shared), False → False := fun _ _ x => x
  refine evalPairs_cons (wpAny_mono (h _ R1 F1) (fun kv s₂ ⟨ℓ₂, σ₂, R₂, F₂, S₂, e₂, h₂⟩ => ?_) fun _ _ x => x)
  subst e₂
  refine wpAny_bind (wpAny_mono (h₂ s₂ R₂ F₂) (fun v s₃ ⟨ℓ₃, σ₃, R₃, F₃, S₃, e₃, k, hkv, h₃⟩ => ?_) fun _ _ x => x)
  subst e₃
  refine wpAny_bind (wpAny_standAt (wpAny_pure ?_))
  obtain ⟨t, rfl⟩ := ab_int hkv
  refine wpAny_pure ?_
  have S13 := S₂.trans S₃
  have hs : s₃.heap.get? s.heap.objs.size = some { cls := .type "dict", data := .dict #[] } := S13.kept _ _ (Heap.get?_push_size _ rfl) f2 hIL
  have hσ : σ₃.m s.heap.objs.size = none := S13.old (Heap.get?_push_size _ rfl) f2
  refine ⟨[(k, v)], ⟨by simp [intKind, Value.isInt], rfl, trivial⟩, ⟨_, #[], 0, hs, ⟨rfl, rfl, rfl⟩, rfl, fun _ he => by simp at he, Pairs.nil, List.nodup_nil⟩, fun h' hD hB => ?_⟩
  obtain ⟨n, hA⟩ := hD.dictAt
  obtain ⟨o, ho, hi, _⟩ := is_dict hA
  have hm : ((merged ([] : List (Int × Value)) [(k, v)]).map fun p => (p.1, ab p.2)) = [(k, ab v)] := rfl
  rw [hm] at hi
  have Rf : Rel B (σ₃.put s.heap.objs.size (.dict [(k, ab v)] n)) { s₃ with heap := h', toks := s₃.toks + [((Value.int k t), v)].length } := by
    refine ⟨fun b o' e' => (hB.2 b (by rintro rfl; rw [f1] at e'; cases e')).trans (R₃.base b o' e'), fun b ao e' => ?_, R₃.gens, R₃.low.1, fun b hb => ?_⟩
    · by_cases q : b = s.heap.objs.size
      · subst q; rw [put_same] at e'; cases e'; exact ⟨f1, o, ho, hi⟩
      · rw [put_other q] at e'; obtain ⟨x, o', ho', y⟩ := R₃.own b ao e'; exact ⟨x, o', (hB.2 b q).trans ho', y⟩
    · by_cases q : b = s.heap.objs.size
      · subst q; exact R.size_low
      · rw [put_other q] at hb; exact R₃.low.2 b hb
  have F3 : FrIs B env.locals ℓ₃ (σ₃.put s.heap.objs.size (.dict [(k, ab v)] n)) h' := by
    obtain ⟨q1, q2, m, ⟨o', es, ep, e', r⟩, hm'⟩ := F₃
    exact ⟨q1, by rw [put_other (Ne.symm hIL)]; exact q2, m, ⟨o', es, ep, (hB.2 _ (Ne.symm hIL)).trans e', r⟩, hm'⟩
  refine ⟨ℓ₃, _, Rf, F3, ⟨fun b o' e' hb hL => (hB.2 b (by rintro rfl; rw [hI] at e'; cases e')).trans (S13.kept b o' (hk b o' e') hb hL), fun b hb => ?_, S13.os, ?_⟩, rfl, h₃ _ n hσ⟩
  · by_cases q : b = s.heap.objs.size
    · subst q; exact .inr hI
    · rw [put_other q] at hb
      rcases S13.grow b hb with x | x
      · exact .inl x
      · right
        cases e' : s.heap.get? b with
        | none => rfl
        | some o' => rw [hk b o' e'] at x; cases x
  · obtain ⟨o', e'⟩ := F₃.at
    show (h'.get? env.locals).isSome = true
    rw [hB.2 _ (Ne.symm hIL), e']; rfl
theorem tup_is {s : Shared} (R : Rel B σ s) (e : σ.m a = some (.tup xs)) : ∃ vs, s.heap.IsTuple a vs ∧ vs.toList.map ab = xs := by
  obtain ⟨vs, n, ho, h⟩ := tup_at R e
  exact ⟨vs, ⟨_, ho, rfl, n, rfl⟩, h⟩
theorem eqs_same {v : AV} (h : ∀ u u' : Value, ab u = v → ab u' = v → u = u') : Eqs B A v v σ true := fun vx vy h1 h2 s R => by
  obtain rfl := h vx vy h1 h2
  exact SeqAt.EqAt.same vx B.prog B.w _ _ ⟨σ, R, .refl .., rfl, rfl⟩
theorem refs_same {r : Addr} : ∀ u u' : Value, ab u = .ref r → ab u' = .ref r → u = u' := fun u u' h1 h2 => by rw [ab_ref h1, ab_ref h2]
/-- two tuples of the same objects -/
theorem eqs_tup_same {t1 t2 p q : Addr} (hu : Lo 1 A) (ne : t1 ≠ t2) (e1 : σ.m t1 = some (.tup [.ref p, .ref q])) (e2 : σ.m t2 = some (.tup [.ref p, .ref q])) : Eqs B A (.ref t1) (.ref t2) σ true := fun vx vy h1 h2 s R => by
  obtain rfl := ab_ref h1
  obtain rfl := ab_ref h2
  obtain ⟨v1, i1, m1⟩ := tup_is R e1
  obtain ⟨v2, i2, m2⟩ := tup_is R e2
  obtain ⟨x1, x2, l1, a1, a2⟩ := two m1
  obtain ⟨y1, y2, l2, b1, b2⟩ := two m2
  obtain rfl := ab_ref a1; obtain rfl := ab_ref a2; obtain rfl := ab_ref b1; obtain rfl := ab_ref b2
  have : v1 = v2 := by rw [← Array.toArray_toList (xs := v1), ← Array.toArray_toList (xs := v2), l1, l2]
  subst this
  have he : SeqAt.RcAt A s (.ref t1) (.ref t2) ((List.range (min v1.size v1.size)).all (fun _ => true) && v1.size == v1.size) := SeqAt.RcAt.tuples i1 i2 hu.line fun j h1 h2 => SeqAt.EqAt.same _
  have e0 : ((List.range (min v1.size v1.size)).all (fun _ => true) && v1.size == v1.size) = true := by simp
  rw [e0] at he
  exact SeqAt.EqAt.of_refs ne he B.prog B.w _ _ ⟨σ, R, .refl .., rfl, rfl⟩
end Mine
set_option maxHeartbeats 200000
namespace Mine
variable {B : Bs} {A : Around} {L : Addr} {α β : Type} {σ : St} {ℓ : Loc} {outer : List Env}
/-- as Step, but the frames of those who wait may have been written to beside their names -/
structure StepV (σ : St) (s : Shared) (σ' : St) (s' : Shared) : Prop where
  kept : ∀ b o, s.heap.get? b = some o → σ.m b = none → ∃ sl, s'.heap.get? b = some { o with slots := sl }
  grow : ∀ b, σ'.m b ≠ none → σ.m b ≠ none ∨ s.heap.get? b = none
  os : s'.os = s.os
structure StepW (L : Addr) (σ : St) (s : Shared) (σ' : St) (s' : Shared) : Prop where
  kept : ∀ b o, s.heap.get? b = some o → σ.m b = none → b ≠ L → ∃ sl, s'.heap.get? b = some { o with slots := sl }
  grow : ∀ b, σ'.m b ≠ none → σ.m b ≠ none ∨ s.heap.get? b = none
  os : s'.os = s.os
  live : (s'.heap.get? L).isSome = true
theorem StepW.of {σ' : St} {s s' : Shared} (x : StepL L σ s σ' s') : StepW L σ s σ' s' := ⟨fun b o e h n => ⟨o.slots, x.kept b o e h n⟩, x.grow, x.os, x.live⟩
theorem StepV.of {σ' : St} {s s' : Shared} (x : Step σ s σ' s') : StepV σ s σ' s' := ⟨fun b o e h => ⟨o.slots, x.kept b o e h⟩, x.grow, x.os⟩
theorem StepW.old {σ' : St} {s s' : Shared} (x : StepW L σ s σ' s') {b : Addr} {o : Obj} (e : s.heap.get? b = some o) (h : σ.m b = none) : σ'.m b = none := by
  cases q : σ'.m b with
  | none => rfl
  | some ao => rcases x.grow b (by rw [q]; exact nofun) with y | y
               · exact absurd h y
               · rw [e] at y; cases y
theorem StepV.old {σ' : St} {s s' : Shared} (x : StepV σ s σ' s') {b : Addr} {o : Obj} (e : s.heap.get? b = some o) (h : σ.m b = none) : σ'.m b = none := by
  cases q : σ'.m b with
  | none => rfl
  | some ao => rcases x.grow b (by rw [q]; exact nofun) with y | y
               · exact absurd h y
               · rw [e] at y; cases y
theorem StepW.trans {σ₁ σ₂ σ₃ : St} {s₁ s₂ s₃ : Shared} (x : StepW L σ₁ s₁ σ₂ s₂) (y : StepW L σ₂ s₂ σ₃ s₃) : StepW L σ₁ s₁ σ₃ s₃ where
  kept b o e h n := by
    obtain ⟨sl, e1⟩ := x.kept b o e h n
    obtain ⟨sl2, e2⟩ := y.kept b _ e1 (x.old e h) n
    exact ⟨sl2, e2⟩
  grow b h := by
    rcases y.grow b h with h | h
    · exact x.grow b h
    · cases q : σ₁.m b with
      | some ao => exact .inl nofun
      | none =>
        right
        cases r : s₁.heap.get? b with
        | none => rfl
        | some o =>
          by_cases hb : b = L
          · subst hb; obtain ⟨o', e'⟩ := Option.isSome_iff_exists.mp x.live; rw [e'] at h; cases h
          · obtain ⟨sl, e1⟩ := x.kept b o r q hb; rw [e1] at h; cases h
  os := y.os.trans x.os
  live := y.live
/-- the frames of those who wait -/
def Fo (B : Bs) (σ : St) (outer : List Env) (h : Heap) : Prop := h.FunFrames B.h0 outer ∧ ∀ b ∈ outer.filterMap (·.frame), σ.m b = none
theorem fun_mem {h h' base : Heap} : ∀ {l : List Env}, h.FunFrames base l → (∀ b ∈ l.filterMap (·.frame), ∀ o, h.get? b = some o → ∃ o', h'.get? b = some o' ∧ o'.data = o.data) → h'.FunFrames base l
  | [], _, _ => trivial
  | env :: rest, hl, k => by
    obtain ⟨hk, ⟨L, o, hf, hn, ho, hd⟩, hr⟩ := hl
    obtain ⟨o', ho', hd'⟩ := k L (by rw [List.filterMap_cons, hf]; exact List.mem_cons_self ..) o ho
    refine ⟨hk, ⟨L, o', hf, hn, ho', fun vs => hd' ▸ hd vs⟩, fun_mem hr fun b hb => k b (by rw [List.filterMap_cons, hf]; exact List.mem_cons_of_mem _ hb)⟩
theorem Fo.mem {h : Heap} (x : Fo B σ outer h) {b : Addr} (hb : b ∈ outer.filterMap (·.frame)) : B.h0.get? b = none ∧ σ.m b = none ∧ ∃ o, h.get? b = some o := by
  obtain ⟨h1, o, h2, _⟩ := x.1.mem hb
  exact ⟨h1, x.2 b hb, o, h2⟩
theorem Fo.step {σ' : St} {s s' : Shared} (x : Fo B σ outer s.heap) (y : StepW L σ s σ' s') (hL : L ∉ outer.filterMap (·.frame)) : Fo B σ' outer s'.heap :=
  ⟨fun_mem x.1 fun b hb o ho => by
    obtain ⟨sl, e⟩ := y.kept b o ho (x.2 b hb) (fun q => hL (q ▸ hb))
    exact ⟨_, e, rfl⟩, fun b hb => by obtain ⟨_, h1, o, h2⟩ := x.mem hb; exact y.old h2 h1⟩
def Tw (B : Bs) (A : Around) (L : Addr) (outer : List Env) {α : Type} (t : Sem α) (ℓ : Loc) (σ : St) (Q : α → Loc → St → Prop) : Prop :=
  ∀ s, Rel B σ s → FrIs B L ℓ σ s.heap → Fo B σ outer s.heap → L ∉ outer.filterMap (·.frame) → wpAny (model B.prog B.w) A t (fun v s' => ∃ ℓ' σ', Rel B σ' s' ∧ FrIs B L ℓ' σ' s'.heap ∧ StepW L σ s σ' s' ∧ Q v ℓ' σ') (fun _ _ => False) s
def T0w (B : Bs) (A : Around) (outer : List Env) {α : Type} (t : Sem α) (σ : St) (Q : α → St → Prop) : Prop :=
  ∀ s, Rel B σ s → Fo B σ outer s.heap → wpAny (model B.prog B.w) A t (fun v s' => ∃ σ', Rel B σ' s' ∧ StepV σ s σ' s' ∧ Q v σ') (fun _ _ => False) s
theorem Tw.mono {t : Sem α} {Q Q' : α → Loc → St → Prop} (h : Tw B A L outer t ℓ σ Q) (k : ∀ v ℓ' σ', Q v ℓ' σ' → Q' v ℓ' σ') : Tw B A L outer t ℓ σ Q' := fun s R F Fo hL =>
  wpAny_mono (h s R F Fo hL) (fun _ _ ⟨ℓ', σ', a, f, b, c⟩ => ⟨ℓ', σ', a, f, b, k _ _ _ c⟩) fun _ _ x => x
theorem Tw.bind {t : Sem α} {f : α → Sem β} {Q : β → Loc → St → Prop} (h : Tw B A L outer t ℓ σ fun v ℓ' σ' => Tw B A L outer (f v) ℓ' σ' Q) : Tw B A L outer (t >>= f) ℓ σ Q := fun s R F Fo hL =>
  wpAny_bind (wpAny_mono (h s R F Fo hL) (fun _ s' ⟨ℓ', σ', a, f, b, c⟩ => wpAny_mono (c s' a f (Fo.step b hL) hL) (fun _ _ ⟨ℓ'', σ'', a', f', b', c'⟩ => ⟨ℓ'', σ'', a', f', b.trans b', c'⟩) fun _ _ x => x) fun _ _ x => x)
theorem Tw.ofT {t : Sem α} {Q : α → Loc → St → Prop} (h : T B A L t ℓ σ Q) : Tw B A L outer t ℓ σ Q := fun s R F _ _ =>
  wpAny_mono (h s R F) (fun _ _ ⟨ℓ', σ', a, f, b, c⟩ => ⟨ℓ', σ', a, f, .of b, c⟩) fun _ _ x => x
theorem Tw.bindT {t : Sem α} {f : α → Sem β} {Q : β → Loc → St → Prop} (h : T B A L t ℓ σ fun v ℓ' σ' => Tw B A L outer (f v) ℓ' σ' Q) : Tw B A L outer (t >>= f) ℓ σ Q := Tw.bind (Tw.ofT h)
theorem Tw.pure {v : α} {Q : α → Loc → St → Prop} (h : Q v ℓ σ) : Tw B A L outer (pure v) ℓ σ Q := Tw.ofT (T.pure h)
theorem Tw.holding {vs : List Value} {t : Sem α} {Q : α → Loc → St → Prop} (h : Tw B A L outer t ℓ σ Q) : Tw B A L outer (holding vs t) ℓ σ Q := fun s R F Fo hL => wpAny_holding (h s R F Fo hL)
theorem FrIs.slots {σ' : St} {s s' : Shared} (F : FrIs B L ℓ σ s.heap) (x : StepV σ s σ' s') : FrIs B L ℓ σ' s'.heap := by
  obtain ⟨h1, h2, m, ⟨o, es, ep, e, r⟩, hm⟩ := F
  obtain ⟨sl, e1⟩ := x.kept L o e h2
  exact ⟨h1, x.old e h2, m, ⟨_, es, ep, e1, r⟩, hm⟩
theorem FrIs.isDict {h : Heap} (F : FrIs B L ℓ σ h) : ∃ o, h.get? L = some o ∧ ∀ vs, o.data ≠ .fields vs := by
  obtain ⟨_, _, m, ⟨o, es, ep, e, r, _⟩, _⟩ := F
  exact ⟨o, e, fun vs q => by rw [r] at q; cases q⟩
theorem Tw.of0 {env : Env} {t : Sem α} {Q : α → Loc → St → Prop} (hf : env.frame = some L) (hk : env.scope.kind ≠ .module) (h : T0w B A (env :: outer) t σ fun v σ' => Q v ℓ σ') : Tw B A L outer t ℓ σ Q := fun s R F fo hL => by
  obtain ⟨o, ho, hd⟩ := F.isDict
  refine wpAny_mono (h s R ⟨⟨hk, ⟨L, o, hf, F.1, ho, hd⟩, fo.1⟩, fun b hb => ?_⟩) (fun v s' ⟨σ', a, b, c⟩ => ⟨ℓ, σ', a, F.slots b, ⟨fun b' o' e h n => b.kept b' o' e h, b.grow, b.os, ?_⟩, c⟩) fun _ _ x => x
  · rw [List.filterMap_cons, hf] at hb
    rcases List.mem_cons.mp hb with q | q
    · rw [q]; exact F.2.1
    · exact fo.2 b q
  · obtain ⟨sl, e1⟩ := b.kept L o ho F.2.1
    rw [e1]; rfl
theorem T0w.mono {t : Sem α} {Q Q' : α → St → Prop} (h : T0w B A outer t σ Q) (k : ∀ v σ', Q v σ' → Q' v σ') : T0w B A outer t σ Q' := fun s R Fo =>
  wpAny_mono (h s R Fo) (fun _ _ ⟨σ', a, b, c⟩ => ⟨σ', a, b, k _ _ c⟩) fun _ _ x => x
theorem T0w.keep {t : Sem α} {vs : List Value} {Q : α → St → Prop} (h : T0w B A outer t σ Q) : T0w B A outer (t.keep vs) σ Q := fun s R F Γ p hΓ => by
  rw [Sem.wp_keep]; exact h s R F Γ p hΓ
theorem T0w.operate {vs : List Value} {t : Sem Value} {Q : Value → St → Prop} (h : T0w B A outer t σ Q) : T0w B A outer (operate vs t) σ Q := fun s R F => wpAny_operateT (h s R F)
def Callw (B : Bs) (A : Around) (outer : List Env) (f : AV) (args : List AV) (σ : St) (Q : AV → St → Prop) : Prop := ∀ fv vs, ab fv = f → vs.map ab = args → T0w B A outer (call fv vs []) σ fun v => Q (ab v)
abbrev Tew (B : Bs) (A : Around) (env : Env) (outer : List Env) (e : PySem.Expr) (ℓ : Loc) (σ : St) (Q : AV → St → Prop) : Prop := Tw B A env.locals outer (eval e env) ℓ σ fun v ℓ' σ' => ℓ' = ℓ ∧ Q (ab v) σ'
abbrev Txw (B : Bs) (A : Around) (env : Env) (outer : List Env) (st : Stmt) (ℓ : Loc) (σ : St) (Q : AF → Loc → St → Prop) : Prop := Tw B A env.locals outer (exec st env) ℓ σ fun f ℓ' σ' => Q (abF f) ℓ' σ'
abbrev Tsw (B : Bs) (A : Around) (env : Env) (outer : List Env) (ss : List Stmt) (ℓ : Loc) (σ : St) (Q : AF → Loc → St → Prop) : Prop := Tw B A env.locals outer (execs ss env) ℓ σ fun f ℓ' σ' => Q (abF f) ℓ' σ'
section
variable {env : Env} {pos : Pos}
theorem wCallWith {cpos pos : Pos} {fv : Value} {first : List Value} {args : List PySem.Expr} {Q : AV → St → Prop} (hn : noStar args = true) (hf : env.frame = some env.locals) (hkd : env.scope.kind ≠ .module)
    (h : Tes B A env pos args ℓ σ fun vs σ' => Kee B A (ab fv) σ' ∧ Callw B A (env :: outer) (ab fv) (first.map ab ++ vs) σ' Q) :
    Tw B A env.locals outer (callWith cpos fv first (backTo pos (starEach args env)) []) ℓ σ fun v ℓ' σ' => ℓ' = ℓ ∧ Q (ab v) σ' := by
  unfold callWith
  refine Tw.bindT (T.holding (T.mono (tEvalArgs hn h) ?_))
  rintro a ℓ' σ' ⟨rfl, vs, rfl, hk, hc⟩
  refine Tw.bindT (T.standAt ?_)
  have hs : ((backTo pos (starEach args env)).any (·.1) || ([] : List (Option Str × Sem Value)).any (·.1.isNone)) = false := by rw [any_false hn]; rfl
  have C : T0w B A (env :: outer) (call fv (first ++ vs) []) σ' fun v => Q (ab v) := hc fv (first ++ vs) rfl (by rw [List.map_append])
  dsimp only
  rw [hs]
  refine Tw.bindT (T.of0 (T0.mono (hk fv rfl) ?_))
  rintro kp σ₂ rfl
  have fin : ∀ r σ₃, Q (ab r) σ₃ → Tw B A env.locals outer (holding [r] point >>= fun _ => pure r) ℓ' σ₃ fun v ℓ₃ σ' => ℓ₃ = ℓ' ∧ Q (ab v) σ' := fun r σ₃ q => Tw.ofT (T.bind (T.of0 (T0.holding (T0.point (σ := σ₃) (T.pure ⟨rfl, q⟩)))))
  cases kp with
  | frame =>
    dsimp only
    split
    · exact Tw.bind (Tw.of0 hf hkd (T0w.mono C fun r σ₃ q => fin r σ₃ q))
    · exact Tw.bind (Tw.of0 hf hkd (T0w.mono (T0w.keep C) fun r σ₃ q => fin r σ₃ q))
  | boundFrame =>
    dsimp only
    split
    · exact Tw.bind (Tw.of0 hf hkd (T0w.mono C fun r σ₃ q => fin r σ₃ q))
    · exact Tw.bind (Tw.of0 hf hkd (T0w.mono (T0w.keep C) fun r σ₃ q => fin r σ₃ q))
  | machine => exact Tw.bind (Tw.of0 hf hkd (T0w.mono C fun r σ₃ q => fin r σ₃ q))
  | caller => exact Tw.bind (Tw.of0 hf hkd (T0w.mono (T0w.operate C) fun r σ₃ q => fin r σ₃ q))
theorem ew_meth {o : PySem.Expr} {name : Str} {apos : Pos} {args : List PySem.Expr} {Q : AV → St → Prop} (h : Te B A env o ℓ σ fun ov σ₁ => ∀ pl, Meth B A ov name pl σ₁ fun f first σ₂ => Tes B A env pos args ℓ σ₂ fun vs σ₃ => Kee B A f σ₃ ∧ Callw B A (env :: outer) f (first ++ vs) σ₃ Q)
    (hf : env.frame = some env.locals := by rfl) (hkd : env.scope.kind ≠ .module := by exact nofun) (ho : noSuper o = true := by rfl) (hn : noStar args = true := by rfl) (hfew : decide (args.length < 30) = true := by rfl) (hline : (apos.endLine == pos.line) = true := by rfl) : Tew B A env outer (.Call (.Attribute o name apos) args [] pos) ℓ σ Q := by
  show Tw _ _ _ _ (attributeBase o name env (eval o env) >>= fun ov => standAt apos.atName >>= fun _ => methodCall o name apos pos env ov (args.length + 0) (backTo pos (starEach args env)) []) _ _ _
  rw [base_of ho]
  refine Tw.bindT (T.mono h ?_)
  rintro ov ℓ' σ' ⟨rfl, h'⟩
  refine Tw.bindT (T.standAt ?_)
  unfold methodCall
  have few : methodCallForm (args.length + 0) (backTo pos (starEach args env)) [] = true := by
    unfold methodCallForm
    have h1 : (backTo pos (starEach args env)).all (!·.1) = true := by
      have := any_false (env := env) (pos := pos) hn
      rw [List.all_eq_true]; intro x hx
      have := List.any_eq_false.mp this x hx
      simpa using this
    rw [h1]
    have := of_decide_eq_true hfew
    simp; omega
  rw [few]
  unfold calleeOf
  refine Tw.bindT (T.holding (T.of0 (T0.mono (h' _ ov rfl) ?_)))
  rintro ⟨f, first⟩ σ₂ q
  have mp : methodCallPos true o env apos pos = pure pos := by
    unfold methodCallPos
    rw [hline]; rfl
  dsimp only
  rw [mp]
  exact Tw.bindT (T.pure (wCallWith hn hf hkd q))
variable {Q : AF → Loc → St → Prop}
theorem w_nil (h : Q .next ℓ σ) : Tsw B A env outer [] ℓ σ Q := Tw.pure h
theorem w_cons {st : Stmt} {ss : List Stmt} (h : Txw B A env outer st ℓ σ fun f ℓ' σ' => match f with | .next => Tsw B A env outer ss ℓ' σ' Q | f => Q f ℓ' σ') : Tsw B A env outer (st :: ss) ℓ σ Q := by
  show Tw _ _ _ _ (execs _ _) _ _ _
  rw [execs_cons]
  refine Tw.bind (Tw.mono h fun f ℓ' σ' h' => ?_)
  cases f with
  | next => exact h'
  | brk => exact Tw.pure h'
  | cont => exact Tw.pure h'
  | ret v => exact Tw.pure h'
/-- a statement of the strong kind -/
theorem w_consT {st : Stmt} {ss : List Stmt} (h : Tx B A env st ℓ σ fun f ℓ' σ' => match f with | .next => Tsw B A env outer ss ℓ' σ' Q | f => Q f ℓ' σ') : Tsw B A env outer (st :: ss) ℓ σ Q := w_cons (Tw.ofT h)
theorem xw_ret {e : PySem.Expr} (h : Tew B A env outer e ℓ σ fun v σ₁ => Q (.ret v) ℓ σ₁) : Txw B A env outer (.Return (some e) pos) ℓ σ Q := by
  show Tw _ _ _ _ (exec _ _) _ _ _
  rw [exec_Return_some]
  refine Tw.bindT (T.standAt (Tw.bind (Tw.mono h ?_)))
  rintro c ℓ' σ' ⟨rfl, h'⟩
  exact Tw.pure h'
theorem xw_assign {t value : PySem.Expr} (h : Tew B A env outer value ℓ σ fun v σ₁ => Ta B A env t v ℓ σ₁ fun ℓ₂ σ₂ => Q .next ℓ₂ σ₂)
    (hs : swapsWithSole [t] value pos.line env = pure false := by rfl) (hw : swappedStores [t] value env = pure none := by rfl) (ha : assignEach [t] env = [(false, assign t env)] := by rfl) : Txw B A env outer (.Assign [t] value pos) ℓ σ Q := by
  show Tw _ _ _ _ (exec _ _) _ _ _
  rw [exec_Assign_arm]
  refine Tw.bindT (T.standAt ?_)
  rw [hs]
  refine Tw.bindT (T.pure (Tw.bind (Tw.mono h ?_)))
  rintro v ℓ' σ' ⟨rfl, h'⟩
  rw [hw]
  refine Tw.bindT (T.pure ?_)
  rw [ha]
  show Tw _ _ _ _ (assignAll v [assign t env] >>= fun _ => pure Flow.next) _ _ _
  exact Tw.ofT (T.bind (T.mono (h' v rfl) fun _ _ _ z => T.pure z))
end
theorem new_not_outer {s : Shared} (R : Rel B σ s) (fo : Fo B σ outer s.heap) : s.heap.objs.size ∉ outer.filterMap (·.frame) := fun q => by
  obtain ⟨_, _, o, e⟩ := fo.mem q
  exact absurd (Heap.lt_size e) (Nat.lt_irrefl _)
/-- a def of the text, called -/
theorem fn_codeW (O : B.Ok) {k n : Nat} {f : Addr} {oc : Value} {od : Option Addr} {osl : Array (Option Value)} {fd : FuncData} {body : List Stmt} {ps : List Str} {ds : List (Str × Value)} {rest : List Str} {args : List AV} {Q : AV → St → Prop}
    (lo : Lo (k + 1) A) (hK : B.K.lookup f = some ⟨oc, od, .func fd, osl⟩) (hbody : fd.body = .stmts body) (hcd : codeIn B.K fd.code fd.qualname = true)
    (hb : ∀ (s : Shared) (g : Nat → Value), B.K.In s.heap → BindsTo s fd ⟨(List.range n).map g, []⟩ (ps.zip ((List.range n).map g) ++ ds))
    (hargs : args.length = n) (hps : ps.length = n) (hnd : (ps ++ ds.map (·.1)).Nodup)
    (hloc : ((ps ++ ds.map (·.1)).all fun x => decide (fd.scope.names.lookup x = some .local)) = true) (hcell : (fd.scope.names.all fun x => x.2 != .cell) = true)
    (h : ∀ L, σ.m L = none → Tsw B (A.deeper (callEnv fd L f)) (callEnv fd L f) outer body (frm (ps ++ ds.map (·.1) ++ rest) (args.map some ++ ds.map (fun p => some (ab p.2)) ++ List.replicate rest.length none)) σ fun fl _ σ' => Q (retOf fl) σ')
    (hco : fd.scope.isCoroutine = false := by rfl) (hgen : fd.scope.isGenerator = false := by rfl) (hk : fd.scope.kind = .function := by rfl) : Callw B A outer (.ref f) args σ Q := fun fv vs hf hvs s R fo => by
  obtain rfl := ab_ref hf
  have hlen : vs.length = n := by rw [← hargs, ← hvs, List.length_map]
  have hg : (List.range n).map (fun i => vs.getD i .none) = vs := by
    apply List.ext_getElem
    · simp [hlen]
    · intro i h1 h2; simp [List.getD, h2]
  have X := R.kin O
  obtain ⟨mg, mb, _, _, hlim, _⟩ := O.top
  have hbs := hb s (fun i => vs.getD i .none) X
  rw [hg] at hbs
  have hm1 : (ps.zip vs ++ ds).map (·.1) = ps ++ ds.map (·.1) := by
    rw [List.map_append]
    congr 1
    exact List.map_fst_zip (by omega)
  have hm2 : (ps.zip vs ++ ds).map (fun p => some (ab p.2)) = args.map some ++ ds.map (fun p => some (ab p.2)) := by
    rw [List.map_append]
    congr 1
    have q : (ps.zip vs).map (fun p => some (ab p.2)) = ((ps.zip vs).map (·.2)).map fun v => some (ab v) := by rw [List.map_map]; rfl
    rw [q, List.map_snd_zip (by omega), ← hvs, List.map_map]; rfl
  refine wpAny_call ?_
  refine codeAny_call_def (binds := ps.zip vs ++ ds) lo.room (X _ _ hK) rfl (hlim.keeps R.base) (codeRec_of X hcd) hbody hbs (fun x hx => by simpa using List.all_eq_true.mp hcell x hx)
    (fun x hx => by
      have : x.1 ∈ ps ++ ds.map (·.1) := hm1 ▸ List.mem_map_of_mem hx
      simpa using List.all_eq_true.mp hloc _ this) (fun h₁ hns hk₁ => ?_) hco hgen hk
  obtain ⟨z1, z2, z3⟩ := R.size_free
  have hLo := new_not_outer R fo
  generalize hs1 : ({ s with heap := h₁, toks := s.toks + (ps.zip vs ++ ds).length } : Shared) = s₁
  have e1 : s₁.heap = h₁ := by rw [← hs1]
  have R1 : Rel B σ s₁ := ⟨fun b o e => by rw [e1]; exact hk₁ b o (R.base b o e), fun b ao e => let ⟨x, o, ho, y⟩ := R.own b ao e; ⟨x, o, by rw [e1]; exact hk₁ b o ho, y⟩, by rw [← hs1]; exact R.gens, R.low⟩
  have F1 : FrIs B s.heap.objs.size (frm (ps ++ ds.map (·.1) ++ rest) (args.map some ++ ds.map (fun p => some (ab p.2)) ++ List.replicate rest.length none)) σ s₁.heap := by
    refine ⟨z1, z2, _, e1 ▸ hns, fun x => ?_⟩
    rw [frm_binds rest (by rw [hm1]; exact hnd), hm1, hm2]
  have fo1 : Fo B σ outer s₁.heap := ⟨fun_mem fo.1 fun b hb o ho => ⟨o, by rw [e1]; exact hk₁ b o ho, rfl⟩, fo.2⟩
  refine wpAny_mono (h s.heap.objs.size z2 s₁ R1 F1 fo1 hLo) (fun fl s' ⟨ℓ', σ', R', _, S, q⟩ => ?_) fun _ _ x => x.elim
  refine ⟨σ', R', ⟨fun b o e hb => S.kept b o (by rw [e1]; exact hk₁ b o e) hb (by intro q; rw [show b = s.heap.objs.size from q, z3] at e; cases e), fun b hb => ?_, by rw [S.os, ← hs1]⟩, ?_⟩
  · rcases S.grow b hb with x | x
    · exact .inl x
    · right
      cases e : s.heap.get? b with
      | none => rfl
      | some o => rw [e1, hk₁ b o e] at x; cases x
  · cases fl <;> exact q
end Mine
set_option maxHeartbeats 200000
namespace Mine
variable {B : Bs} {A : Around} {L : Addr} {α β : Type} {σ : St} {ℓ : Loc} {outer : List Env}
/-- a call that may raise -/
theorem wp_eval_call {env : Env} {pos : Pos} {f : PySem.Expr} {args : List PySem.Expr} {Q : Value → Shared → Prop} {E : Value → Shared → Prop} {s : Shared}
    (h : Te B A env f ℓ σ fun fv σ₁ => Tes B A env pos args ℓ σ₁ fun vs σ₂ => Kee B A fv σ₂ ∧ ∀ fv' vs', ab fv' = fv → vs'.map ab = vs → ∀ s', Rel B σ₂ s' → FrIs B env.locals ℓ σ₂ s'.heap → StepL env.locals σ s σ₂ s' → wpAny (model B.prog B.w) A (call fv' vs' []) Q E s')
    (R : Rel B σ s) (F : FrIs B env.locals ℓ σ s.heap) (ha : notAttr f = true := by rfl) (hn : noStar args = true := by rfl) : wpAny (model B.prog B.w) A (eval (.Call f args [] pos) env) Q E s := by
  have e : eval (.Call f args [] pos) env = (do callWith pos (← eval f env) [] (backTo pos (starEach args env)) (backToKw pos (keywordEach [] env))) := by
    cases f <;> first | rfl | cases ha
  rw [e]
  refine wpAny_bind (wpAny_mono (h s R F) (fun fv s₁ ⟨ℓ₁, σ₁, R₁, F₁, S₁, e₁, h'⟩ => ?_) fun _ _ x => x.elim)
  subst e₁
  show wpAny _ _ (callWith pos fv [] (backTo pos (starEach args env)) []) _ _ _
  unfold callWith
  refine wpAny_bind (wpAny_holding (wpAny_mono (tEvalArgs (f := fv) hn h' s₁ R₁ F₁) (fun a s₂ ⟨ℓ₂, σ₂, R₂, F₂, S₂, e₂, vs, e₃, hk, hc⟩ => ?_) fun _ _ x => x.elim))
  subst e₂ e₃
  refine wpAny_bind (wpAny_standAt ?_)
  have hs : ((backTo pos (starEach args env)).any (·.1) || ([] : List (Option Str × Sem Value)).any (·.1.isNone)) = false := by rw [any_false hn]; rfl
  dsimp only
  rw [hs]
  refine wpAny_bind (wpAny_mono (hk fv rfl s₂ R₂) (fun kp s₃ ⟨σ₃, R₃, S₃, e₃⟩ => ?_) fun _ _ x => x.elim)
  subst e₃
  obtain ⟨oL, eL⟩ := F₂.at
  have C : wpAny (model B.prog B.w) A (call fv ([] ++ vs) []) Q E s₃ := hc fv vs rfl rfl s₃ R₃ (F₂.step S₃) ((S₁.trans S₂).trans (.of S₃ eL F₂.2.1))
  have fin : wpAny (model B.prog B.w) A (call fv ([] ++ vs) []) (fun r s => wpAny (model B.prog B.w) A (holding [r] point >>= fun _ => pure r) Q E s) E s₃ := wpAny_mono C (fun r s q => wpAny_bind (wpAny_holding (wpAny_point (wpAny_pure q)))) fun _ _ x => x
  have keep : ∀ l : List Value, wpAny (model B.prog B.w) A ((call fv ([] ++ vs) []).keep l) (fun r s => wpAny (model B.prog B.w) A (holding [r] point >>= fun _ => pure r) Q E s) E s₃ := fun l Γ p hΓ => by
    rw [Sem.wp_keep]; exact fin Γ p hΓ
  cases kp with
  | frame =>
    dsimp only
    split
    · exact wpAny_bind fin
    · exact wpAny_bind (keep _)
  | boundFrame =>
    dsimp only
    split
    · exact wpAny_bind fin
    · exact wpAny_bind (keep _)
  | machine => exact wpAny_bind fin
  | caller => exact wpAny_bind (wpAny_operateT fin)
theorem noteFrame_newM {M : Model} {E : Value → Shared → Prop} {s : Shared} {base : Heap} {env : Env} {e : Addr} {oe : Obj} {vs : Array Value} {Q : Unit → Shared → Prop} (hfr : A.frames = some (env :: outer)) (hl : s.heap.FunFrames base (env :: outer)) (hf : env.frame = some L)
    (he : s.heap.get? e = some oe) (hd : oe.data = .fields vs) (h1 : vs[1]? = some .none)
    (h : ∀ h' tb ot tvs, (∀ b o, b ∉ (env :: outer).filterMap (·.frame) → b ≠ e → s.heap.get? b = some o → h'.get? b = some o) → (∀ b o, b ∈ (env :: outer).filterMap (·.frame) → s.heap.get? b = some o → ∃ sl, h'.get? b = some { o with slots := sl }) → s.heap.get? tb = none →
      h'.get? e = some (oe.mapFields (·.setIfInBounds 1 (.ref tb))) → h'.get? tb = some ot → ot.data = .fields tvs → 3 < tvs.size →
      Q () { s with heap := h' }) :
    wpAny M A (noteFrame (.ref e) env) Q E s := by
  have hsz : 1 < vs.size := (Array.getElem?_eq_some_iff.mp h1).1
  have hene : e ∉ (env :: outer).filterMap (·.frame) := fun hm => by
    obtain ⟨_, o, ho, hnf⟩ := hl.mem hm
    rw [he] at ho; injection ho with ho; subst ho; exact hnf vs hd
  unfold noteFrame
  simp only [hf]
  refine wpAny_bind (wpAny_field he hd h1 ?_)
  rw [if_neg (by decide)]
  refine wpAny_bind (wpAny_frameOf_fun hfr hl hf fun h₁ hs₁ => ?_)
  refine wpAny_bind (wpAny_entryPlaceOf fun pl hpl => ?_)
  unfold EntryCells.newEntry newFields
  refine wpAny_bind (wpAny_newObj_type ?_ (hpl.sizeOk5 _ _ _ _ _))
  have he₁ : h₁.get? e = some oe := (hs₁.2.1 e hene).trans he
  have he₂ := Heap.get?_push_of_some (h := h₁) { cls := .type "traceback", dict := none, data := .fields ([Value.none, .ref L, .none, rawInt L, .none] ++ (if pl.isEmpty then List.replicate 6 Value.none else pl)).toArray } he₁
  refine wpAny_setField he₂ hd hsz ?_
  have hTe : h₁.objs.size ≠ e := Nat.ne_of_gt (Heap.lt_size he₁)
  have hd₃ := Obj.data_mapFields hd (·.setIfInBounds 1 (Value.ref h₁.objs.size))
  refine h _ h₁.objs.size { cls := .type "traceback", dict := none, data := .fields ([Value.none, .ref L, .none, rawInt L, .none] ++ (if pl.isEmpty then List.replicate 6 Value.none else pl)).toArray } ([Value.none, .ref L, .none, rawInt L, .none] ++ (if pl.isEmpty then List.replicate 6 Value.none else pl)).toArray (fun b o hbF hbe hb => ?_) (fun b o hbF hb => ?_) (Heap.get?_none_of_le (by rw [hs₁.1]; exact Nat.le_refl _)) (Heap.get?_update_self _ he₂ (Obj.isFreed_of_fields hd₃)) ?_ rfl ?_
  · rw [Heap.get?_update_other _ _ (Ne.symm hbe)]
    exact Heap.get?_push_of_some _ ((hs₁.2.1 b hbF).trans hb)
  · obtain ⟨sl, e1⟩ := hs₁.2.2 b o hb
    refine ⟨sl, ?_⟩
    rw [Heap.get?_update_other _ _ (show e ≠ b from fun q => hene (by rw [q]; exact hbF))]
    exact Heap.get?_push_of_some _ e1
  · rw [Heap.get?_update_other _ _ (Ne.symm hTe)]
    exact Heap.get?_push_size h₁ rfl
  · simp only [List.size_toArray, List.length_append, List.length_cons, List.length_nil]; omega
theorem stop_sub : isSubtype (.type "StopIteration") (.type "StopIteration") = pure true := isSubtype_stop
theorem stop_exc : isSubtype (.type "StopIteration") (.type "BaseException") = pure true := by rw [isSubtype_type]; kernel_rfl
theorem stop_nt : isSubtype (.type ((Manifest.find? "StopIteration").elim "type" fun x => x.metatype)) (.type "tuple") = pure false := by
  have e : ((Manifest.find? "StopIteration").elim "type" fun x => x.metatype) = "type" := by kernel_rfl
  rw [e, isSubtype_type]; kernel_rfl
/-- StopIteration caught: return None -/
theorem w_caught (O : B.Ok) {env : Env} {s : Shared} {σ₁ : St} {s₁ : Shared} {e : Addr} {x : Obj} {p5 p6 p7 p8 : Pos} {kk : Nat} {Q : AF → Loc → St → Prop} (hfr : A.frames = some (env :: outer)) (hf : env.frame = some L) (hL : L = env.locals) (hkd : env.scope.kind = .function) (hx : env.kindOf "StopIteration" = some .globalImplicit) (hg : env.globals = mainGlobals) (hbu : env.builtins = builtinsNs) (gst : nsIn B.K mainGlobals "StopIteration" = some none) (hst : bootBuiltins "StopIteration" = some (.type "StopIteration"))
    (R : Rel B σ₁ s₁) (F : FrIs B L ℓ σ₁ s₁.heap) (fo : Fo B σ₁ outer s₁.heap) (hLo : L ∉ outer.filterMap (·.frame)) (ex : s₁.heap.get? e = some x) (hc : x.cls = .type "StopIteration") (hdt : ∃ vs, x.data = .fields vs ∧ vs[1]? = some Value.none) (e0 : B.h0.get? e = none) (eσ : σ₁.m e = none)
    (es : ∀ o, s.heap.get? e = some o → σ.m e = none → e ≠ L → False) (S : StepW L σ s σ₁ s₁) (h : Q (.ret .none) ℓ σ₁) :
    wpAny (model B.prog B.w) A (noteFrame (.ref e) env) (fun _ s₂ => wpAny (model B.prog B.w) A (setFlight (.ref e) none) (fun _ s₃ => wpAny (model B.prog B.w) A (handleBy (.ref e) env [.ExceptHandler (some (.Name "StopIteration" p5)) none [.Return (some (.Constant .none kk p6)) p7] p8])
      (fun f s' => ∃ ℓ' σ', Rel B σ' s' ∧ FrIs B L ℓ' σ' s'.heap ∧ StepW L σ s σ' s' ∧ Q (abF f) ℓ' σ') (fun _ _ => False) s₃) (fun _ _ => False) s₂) (fun _ _ => False) s₁ := by
  obtain ⟨vs, hd, h1⟩ := hdt
  obtain ⟨oL, hoL, hdL⟩ := F.isDict
  have ff : s₁.heap.FunFrames B.h0 (env :: outer) := ⟨by rw [hkd]; exact nofun, ⟨L, oL, hf, F.1, hoL, hdL⟩, fo.1⟩
  have hsz : 1 < vs.size := (Array.getElem?_eq_some_iff.mp h1).1
  have hmF : ∀ b, b ∈ (env :: outer).filterMap (·.frame) → B.h0.get? b = none ∧ σ₁.m b = none := fun b hb => by
    refine ⟨(ff.mem hb).1, ?_⟩
    rw [List.filterMap_cons, hf] at hb
    rcases List.mem_cons.mp hb with q | q
    · rw [q]; exact F.2.1
    · exact fo.2 b q
  refine noteFrame_newM hfr ff hf ex hd h1 fun h' tb ot tvs k1 k2 htb he' htb' hdt' hsz' => ?_
  have hd' : (x.mapFields (·.setIfInBounds 1 (.ref tb))).data = .fields (vs.setIfInBounds 1 (.ref tb)) := by obtain ⟨c, d, dt, sl⟩ := x; obtain rfl : dt = .fields vs := hd; rfl
  have htbe : tb ≠ e := fun q => by rw [q, ex] at htb; cases htb
  have stb : ∀ b o, s₁.heap.get? b = some o → b ≠ tb := fun b o hb q => by rw [q, htb] at hb; cases hb
  refine wpAny_setFlight_none he' hd' (by simp [Array.getElem?_setIfInBounds, hsz]) htb' hdt' hsz' ?_
  have he₂ : (h'.update tb (Obj.mapFields (·.setIfInBounds 3 Value.none))).get? e = some (x.mapFields (·.setIfInBounds 1 (.ref tb))) := (Heap.get?_update_ne h' _ _ _ htbe.symm).trans he'
  have htb₂ := Heap.get?_update_self (Obj.mapFields (·.setIfInBounds 3 Value.none)) htb' (Obj.isFreed_of_fields (Obj.data_mapFields hdt' _))
  -- what the two writes keep
  have keep : ∀ (h'' : Heap), (∀ b o, b ≠ tb → h'.get? b = some o → h''.get? b = some o) → ∀ tk, Rel B σ₁ { s₁ with heap := h'', toks := tk } ∧ FrIs B L ℓ σ₁ h'' ∧ StepW L σ s σ₁ { s₁ with heap := h'', toks := tk } := fun h'' kk tk => by
    refine ⟨⟨fun b o hb => kk b o (stb b o (R.base b o hb)) (k1 b o (fun q => ?_) (fun q => ?_) (R.base b o hb)), fun b ao hb => ?_, R.gens, R.low⟩, ?_, ⟨fun b o hb hσ hn => ?_, S.grow, S.os, ?_⟩⟩
    · have := (hmF b q).1; rw [hb] at this; cases this
    · rw [q, e0] at hb; cases hb
    · obtain ⟨y, o, ho, z⟩ := R.own b ao hb
      refine ⟨y, o, kk b o (stb b o ho) (k1 b o (fun q => ?_) (fun q => ?_) ho), z⟩
      · have := (hmF b q).2; rw [hb] at this; cases this
      · rw [q, eσ] at hb; cases hb
    · obtain ⟨f1, f2, m, ⟨o, es', ep, eo, r⟩, hm⟩ := F
      obtain ⟨sl, e1⟩ := k2 L o (by rw [List.filterMap_cons, hf]; exact List.mem_cons_self ..) eo
      exact ⟨f1, f2, m, ⟨_, es', ep, kk L _ (stb L o eo) e1, r⟩, hm⟩
    · obtain ⟨sl, e1⟩ := S.kept b o hb hσ hn
      have nt := stb b _ e1
      have ne : b ≠ e := fun q => es o (q ▸ hb) (q ▸ hσ) (q ▸ hn)
      by_cases q : b ∈ (env :: outer).filterMap (·.frame)
      · obtain ⟨sl2, e2⟩ := k2 b _ q e1
        exact ⟨sl2, kk b _ nt e2⟩
      · exact ⟨sl, kk b _ nt (k1 b _ q ne e1)⟩
    · obtain ⟨sl, e1⟩ := k2 L oL (by rw [List.filterMap_cons, hf]; exact List.mem_cons_self ..) hoL
      show (h''.get? L).isSome = true
      rw [kk L _ (stb L oL hoL) e1]; rfl
  have kk1 : ∀ b o, b ≠ tb → h'.get? b = some o → (h'.update tb (Obj.mapFields (·.setIfInBounds 3 Value.none))).get? b = some o := fun b o hb e1 => (Heap.get?_update_ne h' _ _ _ hb).trans e1
  obtain ⟨R2, F2, S2⟩ := keep _ kk1 s₁.toks
  subst hL
  have evn := e_boot (B := B) (A := A.mark (some (.ref e))) (env := env) (ℓ := ℓ) (σ := σ₁) (pos := p5) (Q := fun v σ' => v = .ty "StopIteration" ∧ σ' = σ₁) O gst hst ⟨rfl, rfl⟩ (by decide) hkd hx hg hbu
  refine wpAny_handleBy_builtin (X := "StopIteration") (T := "StopIteration") (b := true) stop_exc stop_nt stop_sub (wpAny_mono (wpAny_mono (evn _ R2 F2) (fun c s₄ ⟨ℓ₄, σ₄, R₄, F₄, S₄, e₄, e₅, e₆⟩ => ?_) fun _ _ x => x) (fun _ _ x => x) fun _ _ x => x.elim)
  subst e₄ e₆
  obtain rfl := ab_ty e₅
  have neL : e ≠ env.locals := fun q => by rw [q, hoL] at ex; cases ex; exact hdL vs hd
  have tbL : tb ≠ env.locals := fun q => by rw [q, hoL] at htb; cases htb
  have tσ : σ₄.m tb = none := by
    cases q : σ₄.m tb with
    | none => rfl
    | some ao => obtain ⟨_, o, ho, _⟩ := R.own _ _ q; rw [htb] at ho; cases ho
  have t0 : B.h0.get? tb = none := by
    cases q : B.h0.get? tb with
    | none => rfl
    | some o => rw [R.base _ _ q] at htb; cases htb
  have he₄ := S₄.kept e _ he₂ eσ neL
  have htb₄ := S₄.kept tb _ htb₂ tσ tbL
  refine ⟨rfl, ⟨_, he₄, ?_⟩, ?_⟩
  · obtain ⟨c, d, dt, sl⟩ := x; cases dt <;> exact hc
  rw [if_pos rfl]
  refine wpAny_setFlight_none he₄ hd' (by simp [Array.getElem?_setIfInBounds, hsz]) htb₄ (Obj.data_mapFields hdt' _) (by rw [Array.size_setIfInBounds]; exact hsz') ?_
  have k5 : ∀ b o, b ≠ tb → s₄.heap.get? b = some o → (s₄.heap.update tb (Obj.mapFields (·.setIfInBounds 3 Value.none))).get? b = some o := fun b o hb e1 => (Heap.get?_update_ne s₄.heap _ _ _ hb).trans e1
  have R5 : Rel B σ₄ { s₄ with heap := s₄.heap.update tb (Obj.mapFields (·.setIfInBounds 3 Value.none)), toks := s₄.toks } := R₄.soft t0 tσ k5
  have F5 : FrIs B env.locals ℓ₄ σ₄ (s₄.heap.update tb (Obj.mapFields (·.setIfInBounds 3 Value.none))) := F₄.soft k5 tbL
  have S24 := S2.trans (.of S₄)
  have S5 : StepW env.locals σ s σ₄ { s₄ with heap := s₄.heap.update tb (Obj.mapFields (·.setIfInBounds 3 Value.none)), toks := s₄.toks } := by
    refine ⟨fun b o hb hσ hn => ?_, S24.grow, S24.os, ?_⟩
    · obtain ⟨sl, e1⟩ := S24.kept b o hb hσ hn
      refine ⟨sl, k5 b _ (fun q => ?_) e1⟩
      obtain ⟨sl0, e0'⟩ := S.kept b o hb hσ hn
      rw [q, htb] at e0'; cases e0'
    · obtain ⟨o4, e4⟩ := F₄.at
      show ((s₄.heap.update tb _).get? env.locals).isSome = true
      rw [k5 _ _ (Ne.symm tbL) e4]; rfl
  have body := s_cons (B := B) (A := A.mark (some (.ref e))) (env := env) (ss := []) (ℓ := ℓ₄) (σ := σ₄) (Q := Q) (x_ret (pos := p7) (e_none (k := kk) (pos := p6) h))
  refine wpAny_mono (body _ R5 F5) (fun f s₆ ⟨ℓ₆, σ₆, R₆, F₆, S₆, q⟩ => ⟨ℓ₆, σ₆, R₆, F₆, S5.trans (.of S₆), q⟩) fun _ _ x => x.elim
end Mine
set_option maxHeartbeats 200000
namespace Mine
variable {B : Bs} {A : Around} {L : Addr} {α β : Type} {σ : St} {ℓ : Loc} {outer : List Env}
theorem gens_set {ga : Array GenState} {g : Nat} {x : GenState} {gb : Array GenState} (h : gb.setIfInBounds g .running = ga.setIfInBounds g .running) (hx : gb[g]? = some x) : gb = ga.setIfInBounds g x := by
  apply Array.ext_getElem?
  intro i
  have hi := congrArg (fun z : Array GenState => z[i]?) h
  simp only [Array.getElem?_setIfInBounds] at hi
  have hs := congrArg Array.size h
  simp at hs
  rw [Array.getElem?_setIfInBounds]
  by_cases q : g = i
  · subst q
    rw [if_pos rfl, hx]
    have : g < gb.size := by
      rcases Nat.lt_or_ge g gb.size with r | r
      · exact r
      · rw [Array.getElem?_eq_none r] at hx; cases hx
    rw [if_pos (by omega)]
  · rw [if_neg q] at hi ⊢
    rw [if_neg q] at hi
    exact hi
theorem xw_try_next (O : B.Ok) {env genv : Env} {x : Str} {a : Addr} {g N : Nat} {o oC : Obj} {body : List Stmt} {ℓg : Loc} {Q : AF → Loc → St → Prop} {p1 p2 p3 p4 p5 p6 p7 p8 p9 : Pos} {kk : Nat}
    (lo : Lo 4 A) (hfr : A.frames = some (env :: outer)) (hf : env.frame = some env.locals) (hkd : env.scope.kind = .function) (kx : env.kindOf x = some .local) (hdx : (x == ("__debug__" : Str)) = false) (kn : env.kindOf "next" = some .globalImplicit) (ks : env.kindOf "StopIteration" = some .globalImplicit) (hg : env.globals = mainGlobals) (hbu : env.builtins = builtinsNs)
    (gn : nsIn B.K mainGlobals "next" = some none) (gst : nsIn B.K mainGlobals "StopIteration" = some none) (hnx : bootBuiltins "next" = some (.builtin "next")) (hst : bootBuiltins "StopIteration" = some (.type "StopIteration"))
    (hl : ℓ x = some (.ref a)) (e : σ.m a = some (.raw o)) (hgo : GenObj o g) (eg : σ.g[g]? = some (.fresh (.func body genv))) (eL : σ.m genv.locals = some (.raw oC)) (hF : FrObj oC ℓg) (haL : a ≠ genv.locals) (hN : N ≠ 0)
    (Fin : List AV → St → Prop) (Yv : List AV → AV → St → Prop)
    (hG : ∀ si, GS B A.in1.in1 ⟨genv.locals, none, genSt σ genv.locals a g, si, σ.g.setIfInBounds g .running, Fin, Yv⟩ [] N (.func body genv) ((model B.prog B.w).den (.func body genv)) [] ℓg (genSt σ genv.locals a g))
    (hY : ∀ v σ' gs, gs.bare = true → σ'.g = σ.g.setIfInBounds g .running → Yv [] v σ' → Q (.ret v) ℓ (σ'.gens (σ.g.setIfInBounds g gs)))
    (hE : ∀ σ', σ'.g = σ.g.setIfInBounds g .running → Fin [] σ' → Q (.ret .none) ℓ (σ'.gens ((σ.g.setIfInBounds g .running).setIfInBounds g .finished))) :
    Txw B A env outer (.Try [.Return (some (.Call (.Name "next" p1) [.Name x p2] [] p3)) p4] [.ExceptHandler (some (.Name "StopIteration" p5)) none [.Return (some (.Constant .none kk p6)) p7] p8] [] [] p9) ℓ σ Q := fun s R F fo hLo => by
  show wpAny _ A (exec _ _) _ _ _
  rw [arm_exec_Try]
  refine wpAny_bind (wpAny_standAt (wpAny_tryStmt_except ?_))
  rw [execs_cons, exec_Return_some]
  refine wpAny_bind (wpAny_bind (wpAny_standAt (wpAny_bind ?_)))
  refine wp_eval_call (ℓ := ℓ) (σ := σ) (e_boot O gn hnx (es_cons (e_local hl (es_nil ⟨kee_bi, fun fv' vs' h1 h2 s₁ R₁ F₁ S₁ => ?_⟩) hkd kx hdx)) (by decide) hkd kn hg hbu) R F
  obtain rfl := ab_bi h1
  obtain ⟨u, rfl, hu⟩ := one h2
  obtain rfl := ab_ref hu
  have ho := raw_at R₁ e
  have hoC := raw_at R₁ eL
  obtain ⟨_, nm, qn, c1, c2, c3⟩ := id hgo
  have hgen : s₁.heap.IsGen a g := ⟨o, nm, qn, ho, c1, c2, c3⟩
  have hgi : g < σ.g.size := by
    rcases Nat.lt_or_ge g σ.g.size with q | q
    · exact q
    · rw [Array.getElem?_eq_none q] at eg; cases eg
  have hgens : s₁.gens = σ.g := R₁.gens
  obtain ⟨mg, mb, _, _, hlim, _⟩ := O.top
  refine Calls.call_function_entry (by decide +kernel) (by decide +kernel) kdk_entry_next (kdk_args_next _) ?_
  unfold Builtin.«next»
  refine wpAny_bind (m := someArgs "next" 1 2 _) (wpAny_of_eq (a := [Value.ref a]) (by first | rfl | kernel_rfl!) ?_)
  dsimp only
  refine wpAny_bind (wpAny_specialOf (name := Str.ofString "__next__") hgen.typeIs slot_gen_next.lookup ?_)
  refine wpAny_ite_split (fun hab => absurd hab (by decide)) (fun _ => ?_)
  refine wpAny_bind (wpAny_callSpecial?_slot (name := Str.ofString "__next__") hgen.typeIs slot_gen_next (wpAny_call_entry slot_gen_next hgen.typeIs entry_gen_next ?_ (args_gen_next _)))
  show wpAny _ _ (Builtin.Generator.genWake (.ref a) (.send .none)) _ _ s₁
  -- the generator at rest
  have R5 : Rel B (genSt σ genv.locals a g) (s₁.setGen g .running) := R₁.to (fun b ao e' => (genSt_m e').1) (fun _ _ e => e) (by show s₁.gens.setIfInBounds g .running = _; rw [hgens]; rfl)
  have mL : (genSt σ genv.locals a g).m genv.locals = none := by
    cases q : (genSt σ genv.locals a g).m genv.locals with
    | none => rfl
    | some ao => exact absurd rfl (genSt_m q).2.1
  have F5 : FrIs B genv.locals ℓg (genSt σ genv.locals a g) s₁.heap := by
    obtain ⟨es, ep, r1, r2, r3⟩ := hF
    exact ⟨(R₁.own _ _ eL).1, mL, fun x => nsFind es x, ⟨oC, es, ep, hoC, r1, r2, fun _ => rfl⟩, r3⟩
  have gi : GI B genv.locals none (genSt σ genv.locals a g) s₁ ℓg (genSt σ genv.locals a g) (s₁.setGen g .running) :=
    ⟨R5, F5, ⟨fun b o e' _ _ => e', fun _ hb => .inl hb, rfl, by show (s₁.heap.get? genv.locals).isSome = true; rw [hoC]; rfl⟩, fun b e' => by cases e'⟩
  have hrun : (σ.g.setIfInBounds g .running)[g]? = some .running := by rw [Array.getElem?_setIfInBounds, if_pos rfl, if_pos hgi]
  have hid : ∀ {b : Addr}, σ.m b = none → (genSt σ genv.locals a g).m b = none ∧ b ≠ genv.locals := fun {b} hb => by
    refine ⟨?_, by rintro rfl; rw [eL] at hb; cases hb⟩
    cases q : (genSt σ genv.locals a g).m b with
    | none => rfl
    | some ao => have := (genSt_m q).1; rw [hb] at this; cases this
  -- how a state of the generator's is a state here
  have back : ∀ {ℓ' σ' s' s''} {gf : Array GenState}, GI B genv.locals none (genSt σ genv.locals a g) s₁ ℓ' σ' s' → (∀ b o, s'.heap.get? b = some o → s''.heap.get? b = some o) → s''.gens = gf → s''.os = s'.os → Rel B (σ'.gens gf) s'' ∧ FrIs B env.locals ℓ (σ'.gens gf) s''.heap ∧ StepL env.locals σ s (σ'.gens gf) s'' := fun {ℓ' σ' s' s'' gf} y hk hgf hos => by
    have Rf : Rel B (σ'.gens gf) s'' := y.rel.to (fun _ _ e => e) hk hgf
    have Sf : Step σ s₁ (σ'.gens gf) s'' := ⟨fun b o' e' hb => hk b o' (y.step.kept b o' e' (hid hb).1 (hid hb).2), fun b hb => by
      rcases y.step.grow b hb with z | z
      · left
        obtain ⟨ao, w⟩ := Option.ne_none_iff_exists'.mp z
        rw [(genSt_m w).1]; exact nofun
      · exact .inr z, hos.trans y.step.os⟩
    obtain ⟨oL, eL'⟩ := F₁.at
    exact ⟨Rf, F₁.step Sf, S₁.trans (.of Sf eL' F₁.2.1)⟩
  refine wpAny_mono (rest_next (A := A.in1.in1) (G := ⟨genv.locals, none, genSt σ genv.locals a g, s₁, σ.g.setIfInBounds g .running, Fin, Yv⟩) (n := N) (told := [])
    (Q := fun fin s' => ∃ v gs σ', fin = .done (.ret v) ∧ gs.bare = true ∧ σ'.g = σ.g.setIfInBounds g .running ∧ Yv [] (ab v) σ' ∧ Rel B (σ'.gens (σ.g.setIfInBounds g gs)) s' ∧ FrIs B env.locals ℓ (σ'.gens (σ.g.setIfInBounds g gs)) s'.heap ∧ StepL env.locals σ s (σ'.gens (σ.g.setIfInBounds g gs)) s')
    (E := fun ev s' => ∃ e x σ', ev = .ref e ∧ s'.heap.get? e = some x ∧ x.cls = .type "StopIteration" ∧ (∃ vs, x.data = .fields vs ∧ vs[1]? = some Value.none) ∧ B.h0.get? e = none ∧ σ'.m e = none ∧ (∀ o, s.heap.get? e = some o → σ.m e = none → e ≠ env.locals → False) ∧ σ'.g = σ.g.setIfInBounds g .running ∧ Fin [] σ' ∧
      Rel B (σ'.gens ((σ.g.setIfInBounds g .running).setIfInBounds g .finished)) s' ∧ FrIs B env.locals ℓ (σ'.gens ((σ.g.setIfInBounds g .running).setIfInBounds g .finished)) s'.heap ∧ StepL env.locals σ s (σ'.gens ((σ.g.setIfInBounds g .running).setIfInBounds g .finished)) s')
    lo.hh (hlim.keeps R₁.base) (by have := lo.depth; show A.depth < 1000; omega) ho hgo hrun (.inl hN) ⟨ℓg, genSt σ genv.locals a g, .fresh (.func body genv), fun s'' gi'' a'' => ⟨rfl, hG s₁ s'' s'' a'' a'' gi''⟩, gi, rfl, rfl, by show s₁.gens[g]? = _; rw [hgens]; exact eg, rfl⟩
    (fun v s' m hm y => ?_) (fun ℓ' σ' sa sb e' x' gi' a' hg' fin hk hgens' hos he hx hfr' hdt => ?_)) (fun fin s' hq => ?_) fun ev s' hq => ?_
  · obtain ⟨ℓ', σ', gs, _, gi', _, hg', hgs, hb, yv⟩ := y
    have e1 : s'.gens = σ.g.setIfInBounds g gs := gens_set (gi'.rel.gens.trans hg') hgs
    obtain ⟨b1, b2, b3⟩ := back gi' (s'' := s') (fun _ _ e => e) e1 rfl
    exact ⟨v, gs, σ', rfl, hb, hg', yv, b1, b2, b3⟩
  · obtain ⟨b1, b2, b3⟩ := back gi' hk hgens' hos
    have n0 : B.h0.get? e' = none := by
      cases q : B.h0.get? e' with
      | none => rfl
      | some o => rw [gi'.rel.base _ _ q] at hfr'; cases hfr'
    have nσ : σ'.m e' = none := by
      cases q : σ'.m e' with
      | none => rfl
      | some ao => obtain ⟨_, o, ho, _⟩ := gi'.rel.own _ _ q; rw [hfr'] at ho; cases ho
    have n1 : ∀ o, s.heap.get? e' = some o → σ.m e' = none → e' ≠ env.locals → False := fun o q1 q2 q3 => by
      have w1 := S₁.kept e' o q1 q2 q3
      have w2 := gi'.step.kept e' o w1 (hid q2).1 (hid q2).2
      rw [hfr'] at w2; cases w2
    exact ⟨e', x', σ', rfl, he, hx, hdt, n0, nσ, n1, hg', fin, b1, b2, b3⟩
  · obtain ⟨v, gs, σ', rfl, hb, hg', yv, b1, b2, b3⟩ := hq
    refine ⟨v, rfl, wpAny_pure ⟨_, rfl, ?_⟩⟩
    exact wpAny_pure (wpAny_pure ⟨ℓ, _, b1, b2, .of b3, hY _ _ _ hb hg' yv⟩)
  · obtain ⟨e', x', σ', rfl, he, hx, hdt, n0, nσ, n1, hg', fin, b1, b2, b3⟩ := hq
    have fo2 : Fo B (σ'.gens ((σ.g.setIfInBounds g .running).setIfInBounds g .finished)) outer s'.heap := fo.step (.of b3) hLo
    exact w_caught O (env := env) (L := env.locals) hfr hf rfl hkd ks hg hbu gst hst b1 b2 fo2 hLo he hx hdt n0 nσ n1 (.of b3) (hE _ hg' fin)
end Mine
set_option maxHeartbeats 200000
namespace Mine
noncomputable abbrev KK (P : Params) : Frag := hd.heap_39 P
noncomputable abbrev BB (w : World) (h0 : Heap) : Bs := ⟨PySem.Challenge.pw_bm0029_01, w, KK w.params, h0⟩
variable (P : Params)
theorem ga303 : findIn (KK P) (.ref 303) "__getattribute__" = some (some (.builtin "list.__getattribute__")) := by rfl
theorem gn303 : findIn (KK P) (.ref 303) "__getattr__" = some none := by rfl
theorem sub303 : subIn (KK P) (.ref 303) (.type "list") = some true := by rfl
theorem len303 : findIn (KK P) (.ref 303) "__len__" = some (some (.builtin "list.__len__")) := by rfl
theorem bool303 : findIn (KK P) (.ref 303) "__bool__" = some none := by rfl
theorem iter303 : findIn (KK P) (.ref 303) "__iter__" = some (some (.builtin "list.__iter__")) := by rfl
theorem gi303 : findIn (KK P) (.ref 303) "__getitem__" = some (some (.builtin "list.__getitem__")) := by rfl
theorem sk303 : seqKeyOk (KK P) (.ref 303) = true := by rfl
theorem mk303 : domMakes (KK P) 303 = true := by rfl
theorem at303_hidden : attIn (KK P) 303 "_hidden" = true := by rfl
theorem st303_hidden : satOk (KK P) 303 "_hidden" = true := by rfl
theorem at303_states : attIn (KK P) 303 "_states" = true := by rfl
theorem st303_states : satOk (KK P) 303 "_states" = true := by rfl
theorem m303_extend : findIn (KK P) (.ref 303) "extend" = some (some (.builtin "list.extend")) := by rfl
theorem m303_remove : findIn (KK P) (.ref 303) "remove" = some (some (.builtin "list.remove")) := by rfl
theorem m303___init__ : findIn (KK P) (.ref 303) "__init__" = some (some (.ref 272)) := by rfl
theorem ty272 : typeIn (KK P) (.ref 272) = some (.type "function") := by rfl
theorem m303_resetState : findIn (KK P) (.ref 303) "resetState" = some (some (.ref 279)) := by rfl
theorem ty279 : typeIn (KK P) (.ref 279) = some (.type "function") := by rfl
theorem m303_pushState : findIn (KK P) (.ref 303) "pushState" = some (some (.ref 286)) := by rfl
theorem ty286 : typeIn (KK P) (.ref 286) = some (.type "function") := by rfl
theorem m303_popState : findIn (KK P) (.ref 303) "popState" = some (some (.ref 293)) := by rfl
theorem ty293 : typeIn (KK P) (.ref 293) = some (.type "function") := by rfl
theorem m303_hideValue : findIn (KK P) (.ref 303) "hideValue" = some (some (.ref 300)) := by rfl
theorem ty300 : typeIn (KK P) (.ref 300) = some (.type "function") := by rfl
theorem m110___init__ : findIn (KK P) (.ref 110) "__init__" = some (some (.ref 36)) := by rfl
theorem ty36 : typeIn (KK P) (.ref 36) = some (.type "function") := by rfl
theorem m110_setSolver : findIn (KK P) (.ref 110) "setSolver" = some (some (.ref 50)) := by rfl
theorem ty50 : typeIn (KK P) (.ref 50) = some (.type "function") := by rfl
theorem m110_addVariable : findIn (KK P) (.ref 110) "addVariable" = some (some (.ref 64)) := by rfl
theorem ty64 : typeIn (KK P) (.ref 64) = some (.type "function") := by rfl
theorem m110_addConstraint : findIn (KK P) (.ref 110) "addConstraint" = some (some (.ref 79)) := by rfl
theorem ty79 : typeIn (KK P) (.ref 79) = some (.type "function") := by rfl
theorem m110_getSolution : findIn (KK P) (.ref 110) "getSolution" = some (some (.ref 86)) := by rfl
theorem ty86 : typeIn (KK P) (.ref 86) = some (.type "function") := by rfl
theorem m110_getSolutions : findIn (KK P) (.ref 110) "getSolutions" = some (some (.ref 93)) := by rfl
theorem ty93 : typeIn (KK P) (.ref 93) = some (.type "function") := by rfl
theorem m110__getArgs : findIn (KK P) (.ref 110) "_getArgs" = some (some (.ref 107)) := by rfl
theorem ty107 : typeIn (KK P) (.ref 107) = some (.type "function") := by rfl
theorem m186___init__ : findIn (KK P) (.ref 186) "__init__" = some (some (.ref 164)) := by rfl
theorem ty164 : typeIn (KK P) (.ref 164) = some (.type "function") := by rfl
theorem m186_getSolutionIter : findIn (KK P) (.ref 186) "getSolutionIter" = some (some (.ref 169)) := by rfl
theorem ty169 : typeIn (KK P) (.ref 169) = some (.type "function") := by rfl
theorem m186_getSolution : findIn (KK P) (.ref 186) "getSolution" = some (some (.ref 176)) := by rfl
theorem ty176 : typeIn (KK P) (.ref 176) = some (.type "function") := by rfl
theorem m186_getSolutions : findIn (KK P) (.ref 186) "getSolutions" = some (some (.ref 183)) := by rfl
theorem ty183 : typeIn (KK P) (.ref 183) = some (.type "function") := by rfl
theorem m225___init__ : findIn (KK P) (.ref 225) "__init__" = some (some (.ref 203)) := by rfl
theorem ty203 : typeIn (KK P) (.ref 203) = some (.type "function") := by rfl
theorem m225_recursiveBacktracking : findIn (KK P) (.ref 225) "recursiveBacktracking" = some (some (.ref 208)) := by rfl
theorem ty208 : typeIn (KK P) (.ref 208) = some (.type "function") := by rfl
theorem m225_getSolution : findIn (KK P) (.ref 225) "getSolution" = some (some (.ref 215)) := by rfl
theorem ty215 : typeIn (KK P) (.ref 215) = some (.type "function") := by rfl
theorem m225_getSolutions : findIn (KK P) (.ref 225) "getSolutions" = some (some (.ref 222)) := by rfl
theorem ty222 : typeIn (KK P) (.ref 222) = some (.type "function") := by rfl
theorem m410___init__ : findIn (KK P) (.ref 410) "__init__" = some (some (.ref 392)) := by rfl
theorem ty392 : typeIn (KK P) (.ref 392) = some (.type "function") := by rfl
theorem m410_preProcess : findIn (KK P) (.ref 410) "preProcess" = some (some (.ref 399)) := by rfl
theorem ty399 : typeIn (KK P) (.ref 399) = some (.type "function") := by rfl
theorem m410___call__ : findIn (KK P) (.ref 410) "__call__" = some (some (.ref 407)) := by rfl
theorem ty407 : typeIn (KK P) (.ref 407) = some (.type "function") := by rfl
theorem m445___init__ : findIn (KK P) (.ref 445) "__init__" = some (some (.ref 427)) := by rfl
theorem ty427 : typeIn (KK P) (.ref 427) = some (.type "function") := by rfl
theorem m445_preProcess : findIn (KK P) (.ref 445) "preProcess" = some (some (.ref 434)) := by rfl
theorem ty434 : typeIn (KK P) (.ref 434) = some (.type "function") := by rfl
theorem m445___call__ : findIn (KK P) (.ref 445) "__call__" = some (some (.ref 442)) := by rfl
theorem ty442 : typeIn (KK P) (.ref 442) = some (.type "function") := by rfl
theorem m473___init__ : findIn (KK P) (.ref 473) "__init__" = some (some (.ref 462)) := by rfl
theorem ty462 : typeIn (KK P) (.ref 462) = some (.type "function") := by rfl
theorem m473_preProcess : findIn (KK P) (.ref 473) "preProcess" = some (some (.ref 336)) := by rfl
theorem ty336 : typeIn (KK P) (.ref 336) = some (.type "function") := by rfl
theorem m473___call__ : findIn (KK P) (.ref 473) "__call__" = some (some (.ref 470)) := by rfl
theorem ty470 : typeIn (KK P) (.ref 470) = some (.type "function") := by rfl
theorem ga110 : findIn (KK P) (.ref 110) "__getattribute__" = some (some (.builtin "object.__getattribute__")) := by rfl
theorem gn110 : findIn (KK P) (.ref 110) "__getattr__" = some none := by rfl
theorem mk110 : makesIn (KK P) 110 = true := by rfl
theorem ga186 : findIn (KK P) (.ref 186) "__getattribute__" = some (some (.builtin "object.__getattribute__")) := by rfl
theorem gn186 : findIn (KK P) (.ref 186) "__getattr__" = some none := by rfl
theorem mk186 : makesIn (KK P) 186 = true := by rfl
theorem ga225 : findIn (KK P) (.ref 225) "__getattribute__" = some (some (.builtin "object.__getattribute__")) := by rfl
theorem gn225 : findIn (KK P) (.ref 225) "__getattr__" = some none := by rfl
theorem mk225 : makesIn (KK P) 225 = true := by rfl
theorem ga410 : findIn (KK P) (.ref 410) "__getattribute__" = some (some (.builtin "object.__getattribute__")) := by rfl
theorem gn410 : findIn (KK P) (.ref 410) "__getattr__" = some none := by rfl
theorem mk410 : makesIn (KK P) 410 = true := by rfl
theorem ga445 : findIn (KK P) (.ref 445) "__getattribute__" = some (some (.builtin "object.__getattribute__")) := by rfl
theorem gn445 : findIn (KK P) (.ref 445) "__getattr__" = some none := by rfl
theorem mk445 : makesIn (KK P) 445 = true := by rfl
theorem ga473 : findIn (KK P) (.ref 473) "__getattribute__" = some (some (.builtin "object.__getattribute__")) := by rfl
theorem gn473 : findIn (KK P) (.ref 473) "__getattr__" = some none := by rfl
theorem mk473 : makesIn (KK P) 473 = true := by rfl
theorem at110_solver : attIn (KK P) 110 "_solver" = true := by rfl
theorem st110_solver : satOk (KK P) 110 "_solver" = true := by rfl
theorem at110_constraints : attIn (KK P) 110 "_constraints" = true := by rfl
theorem st110_constraints : satOk (KK P) 110 "_constraints" = true := by rfl
theorem at110_variables : attIn (KK P) 110 "_variables" = true := by rfl
theorem st110_variables : satOk (KK P) 110 "_variables" = true := by rfl
theorem at186_forwardcheck : attIn (KK P) 186 "_forwardcheck" = true := by rfl
theorem st186_forwardcheck : satOk (KK P) 186 "_forwardcheck" = true := by rfl
theorem at225_forwardcheck : attIn (KK P) 225 "_forwardcheck" = true := by rfl
theorem st225_forwardcheck : satOk (KK P) 225 "_forwardcheck" = true := by rfl
theorem at410_maxsum : attIn (KK P) 410 "_maxsum" = true := by rfl
theorem st410_maxsum : satOk (KK P) 410 "_maxsum" = true := by rfl
theorem at410_multipliers : attIn (KK P) 410 "_multipliers" = true := by rfl
theorem st410_multipliers : satOk (KK P) 410 "_multipliers" = true := by rfl
theorem at445_exactsum : attIn (KK P) 445 "_exactsum" = true := by rfl
theorem st445_exactsum : satOk (KK P) 445 "_exactsum" = true := by rfl
theorem at445_multipliers : attIn (KK P) 445 "_multipliers" = true := by rfl
theorem st445_multipliers : satOk (KK P) 445 "_multipliers" = true := by rfl
theorem at473_minsum : attIn (KK P) 473 "_minsum" = true := by rfl
theorem st473_minsum : satOk (KK P) 473 "_minsum" = true := by rfl
theorem at473_multipliers : attIn (KK P) 473 "_multipliers" = true := by rfl
theorem st473_multipliers : satOk (KK P) 473 "_multipliers" = true := by rfl
theorem bool186 : findIn (KK P) (.ref 186) "__bool__" = some none := by rfl
theorem len186 : findIn (KK P) (.ref 186) "__len__" = some none := by rfl
theorem bool225 : findIn (KK P) (.ref 225) "__bool__" = some none := by rfl
theorem len225 : findIn (KK P) (.ref 225) "__len__" = some none := by rfl
theorem sub410 : subIn (KK P) (.ref 410) (.ref 347) = some true := by rfl
theorem sub445 : subIn (KK P) (.ref 445) (.ref 347) = some true := by rfl
theorem sub473 : subIn (KK P) (.ref 473) (.ref 347) = some true := by rfl
theorem ty347 : typeIn (KK P) (.ref 347) = some (.type "type") := by rfl
theorem cl347 : (clsIn (KK P) 347).isSome = true := by rfl
theorem g_len : nsIn (KK P) mainGlobals "len" = some none := by rfl
theorem g_list : nsIn (KK P) mainGlobals "list" = some none := by rfl
theorem g_isinstance : nsIn (KK P) mainGlobals "isinstance" = some none := by rfl
theorem g_zip : nsIn (KK P) mainGlobals "zip" = some none := by rfl
theorem g_range : nsIn (KK P) mainGlobals "range" = some none := by rfl
theorem g_next : nsIn (KK P) mainGlobals "next" = some none := by rfl
theorem g_sorted : nsIn (KK P) mainGlobals "sorted" = some none := by rfl
theorem g_sum : nsIn (KK P) mainGlobals "sum" = some none := by rfl
theorem g_max : nsIn (KK P) mainGlobals "max" = some none := by rfl
theorem g_min : nsIn (KK P) mainGlobals "min" = some none := by rfl
theorem g_abs : nsIn (KK P) mainGlobals "abs" = some none := by rfl
theorem g_set : nsIn (KK P) mainGlobals "set" = some none := by rfl
theorem g_StopIteration : nsIn (KK P) mainGlobals "StopIteration" = some none := by rfl
theorem g_tuple : nsIn (KK P) mainGlobals "tuple" = some none := by rfl
theorem g_Domain : nsIn (KK P) mainGlobals "Domain" = some (some (.ref 303)) := by rfl
theorem g_Constraint : nsIn (KK P) mainGlobals "Constraint" = some (some (.ref 347)) := by rfl
theorem g_BacktrackingSolver : nsIn (KK P) mainGlobals "BacktrackingSolver" = some (some (.ref 186)) := by rfl
theorem g_RecursiveBacktrackingSolver : nsIn (KK P) mainGlobals "RecursiveBacktrackingSolver" = some (some (.ref 225)) := by rfl
theorem g_MaxSumConstraint : nsIn (KK P) mainGlobals "MaxSumConstraint" = some (some (.ref 410)) := by rfl
theorem g_ExactSumConstraint : nsIn (KK P) mainGlobals "ExactSumConstraint" = some (some (.ref 445)) := by rfl
theorem g_MinSumConstraint : nsIn (KK P) mainGlobals "MinSumConstraint" = some (some (.ref 473)) := by rfl
theorem g_Problem : nsIn (KK P) mainGlobals "Problem" = some (some (.ref 110)) := by rfl
end Mine
set_option maxHeartbeats 200000
namespace Mine
variable {w : World} {h0 : Heap} {A : Around} {σ : St}

def domNs (hd st : Addr) : Loc := upd (upd (fun _ => none) "_hidden" (.ref hd)) "_states" (.ref st)
structure DomAt (σ : St) (d dx hd st : Addr) (k : Nat) (xs hid ss : List AV) : Prop where
  obj : σ.m d = some (.dom 303 dx xs)
  ns : σ.m dx = some (.ns k (domNs hd st))
  hid : σ.m hd = some (.list hid)
  sts : σ.m st = some (.list ss)
theorem DomAt.ne {d dx hd st : Addr} {k : Nat} {xs hid ss : List AV} (D : DomAt σ d dx hd st k xs hid ss) : d ≠ dx ∧ d ≠ hd ∧ d ≠ st ∧ dx ≠ hd ∧ dx ≠ st := by
  refine ⟨?_, ?_, ?_, ?_, ?_⟩ <;> rintro rfl
  · have := D.obj; rw [D.ns] at this; cases this
  · have := D.obj; rw [D.hid] at this; cases this
  · have := D.obj; rw [D.sts] at this; cases this
  · have := D.ns; rw [D.hid] at this; cases this
  · have := D.ns; rw [D.sts] at this; cases this
theorem r_hid (O : (BB w h0).Ok) {d dx hd st : Addr} {k : Nat} {xs hid ss : List AV} {ex : Bool} {Q : AV → St → Prop} (D : DomAt σ d dx hd st k xs hid ss) (h : Q (.ref hd) σ) : Att (BB w h0) A (.ref d) "_hidden" ex σ Q :=
  att_dom O D.obj D.ns (by rfl) h (ga303 _) (gn303 _) (at303_hidden _) (sub303 _)
theorem r_sts (O : (BB w h0).Ok) {d dx hd st : Addr} {k : Nat} {xs hid ss : List AV} {ex : Bool} {Q : AV → St → Prop} (D : DomAt σ d dx hd st k xs hid ss) (h : Q (.ref st) σ) : Att (BB w h0) A (.ref d) "_states" ex σ Q :=
  att_dom O D.obj D.ns (by rfl) h (ga303 _) (gn303 _) (at303_states _) (sub303 _)
section
variable {B : Bs} {xs : List AV} {a : Addr} {pl : Sem Bool} {Q : AV → List AV → St → Prop}
theorem ml_append (O : B.Ok) (e : σ.m a = some (.list xs)) (h : Q (.bi "list.append") [.ref a] σ) : Meth B A (.ref a) "append" pl σ Q := meth_of O e rfl (f := .builtin "list.append") rfl (by decide +kernel) rfl rfl rfl (by decide) (fun _ h => by cases h) h
theorem ml_pop (O : B.Ok) (e : σ.m a = some (.list xs)) (h : Q (.bi "list.pop") [.ref a] σ) : Meth B A (.ref a) "pop" pl σ Q := meth_of O e rfl (f := .builtin "list.pop") rfl (by decide +kernel) rfl rfl rfl (by decide) (fun _ h => by cases h) h
theorem ml_remove (O : B.Ok) (e : σ.m a = some (.list xs)) (h : Q (.bi "list.remove") [.ref a] σ) : Meth B A (.ref a) "remove" pl σ Q := meth_of O e rfl (f := .builtin "list.remove") rfl (by decide +kernel) rfl rfl rfl (by decide) (fun _ h => by cases h) h
theorem ml_sort (O : B.Ok) (e : σ.m a = some (.list xs)) (h : Q (.bi "list.sort") [.ref a] σ) : Meth B A (.ref a) "sort" pl σ Q := meth_of O e rfl (f := .builtin "list.sort") rfl (by decide +kernel) rfl rfl rfl (by decide) (fun _ h => by cases h) h
theorem md_copy (O : B.Ok) {es : List (Int × AV)} {n : Nat} (e : σ.m a = some (.dict es n)) (h : Q (.bi "dict.copy") [.ref a] σ) : Meth B A (.ref a) "copy" pl σ Q := meth_of O e rfl (f := .builtin "dict.copy") rfl (by decide +kernel) rfl rfl rfl (by decide) (fun _ h => by cases h) h
theorem md_values (O : B.Ok) {es : List (Int × AV)} {n : Nat} (e : σ.m a = some (.dict es n)) (h : Q (.bi "dict.values") [.ref a] σ) : Meth B A (.ref a) "values" pl σ Q := meth_of O e rfl (f := .builtin "dict.values") rfl (by decide +kernel) rfl rfl rfl (by decide) (fun _ h => by cases h) h
theorem md_items (O : B.Ok) {es : List (Int × AV)} {n : Nat} (e : σ.m a = some (.dict es n)) (h : Q (.bi "dict.items") [.ref a] σ) : Meth B A (.ref a) "items" pl σ Q := meth_of O e rfl (f := .builtin "dict.items") rfl (by decide +kernel) rfl rfl rfl (by decide) (fun _ h => by cases h) h
theorem le_line {n : Nat} (h : n ≤ 10000) : n ≤ sizeLine := by rw [sizeLine_eq]; omega
end
theorem tp_some {B : Bs} {env : Env} {e : PySem.Expr} {ℓ : Loc} {Q : AV → St → Prop} (h : Te B A env e ℓ σ Q) : Tp B A env (some e) ℓ σ Q := h
theorem tp_none {B : Bs} {env : Env} {ℓ : Loc} {Q : AV → St → Prop} (h : Q .none σ) : Tp B A env none ℓ σ Q := h
/-- a method of a Domain -/
theorem m303 (O : (BB w h0).Ok) {d dx hd st : Addr} {k : Nat} {xs hid ss : List AV} {name : Str} {f t : Value} {pl : Sem Bool} {Q : AV → List AV → St → Prop} (D : DomAt σ d dx hd st k xs hid ss) (hf : findIn (KK w.params) (.ref 303) name = some (some f)) (ht : typeIn (KK w.params) f = some t) (htt : fnKind t = true) (hn : domNs hd st name = none) (h : Q (ab f) [.ref d] σ) :
    Meth (BB w h0) A (.ref d) name pl σ Q := meth_of O D.obj rfl (ga303 _) (by decide +kernel) (gn303 _) hf ht htt (fun dx' e => by cases e; exact ⟨_, _, D.ns, hn⟩) h
theorem push_spec (O : (BB w h0).Ok) {d dx hd st : Addr} {k : Nat} {xs hid ss : List AV} {Q : AV → St → Prop} (lo : Lo 5 A) (D : DomAt σ d dx hd st k xs hid ss) (hz : xs.length ≤ 1000) (hz2 : ss.length ≤ 1000)
    (h : Q .none (σ.put st (.list (ss ++ [.int xs.length])))) : Callf (BB w h0) A (.ref 286) [.ref d] σ Q := by
  refine call_fn O (k := 4) (n := 1) (ps := ["self"]) (ds := []) (rest := []) lo rfl rfl rfl (fun s g X => BindsTo.of_eq rfl) rfl rfl (by decide) (by decide) (by decide) ?_
  intro L hL
  refine s_cons (x_expr (e_meth (e_attr (e_local rfl (r_sts O D fun pl => ml_append O D.sts ?_)))))
  refine es_cons (e_call (e_boot O (g_len _) rfl (es_cons (e_local rfl (es_nil ⟨kee_bi, c_len_sq O (IsSq.dom 303 dx) D.obj (le_line (by omega)) ?_ (len303 _) (sub303 _)⟩)))))
  exact es_nil ⟨kee_bi, c_append O IsSq.list D.sts (le_line (by omega)) (s_nil h)⟩
theorem eqs_eq {B : Bs} {x : Int} : Eqs B A (.int x) (.int x) σ true := by have := eqs_int (B := B) (A := A) (σ := σ) (x := x) (y := x); rwa [show (x == x) = true by simp] at this
theorem eqs_ne {B : Bs} {x y : Int} (h : x ≠ y) : Eqs B A (.int x) (.int y) σ false := by have := eqs_int (B := B) (A := A) (σ := σ) (x := x) (y := y); rwa [show (x == y) = false by simpa using h] at this
theorem DomAt.putObj {d dx hd st : Addr} {k : Nat} {xs hid ss ys : List AV} (D : DomAt σ d dx hd st k xs hid ss) : DomAt (σ.put d (.dom 303 dx ys)) d dx hd st k ys hid ss :=
  ⟨put_same .., by rw [put_other (Ne.symm D.ne.1)]; exact D.ns, by rw [put_other (Ne.symm D.ne.2.1)]; exact D.hid, by rw [put_other (Ne.symm D.ne.2.2.1)]; exact D.sts⟩
theorem DomAt.putHid {d dx hd st : Addr} {k : Nat} {xs hid ss ys : List AV} (D : DomAt σ d dx hd st k xs hid ss) (hs : hd ≠ st) : DomAt (σ.put hd (.list ys)) d dx hd st k xs ys ss :=
  ⟨by rw [put_other D.ne.2.1]; exact D.obj, by rw [put_other D.ne.2.2.2.1]; exact D.ns, put_same .., by rw [put_other (Ne.symm hs)]; exact D.sts⟩
theorem DomAt.putSts {d dx hd st : Addr} {k : Nat} {xs hid ss ys : List AV} (D : DomAt σ d dx hd st k xs hid ss) (hs : hd ≠ st) : DomAt (σ.put st (.list ys)) d dx hd st k xs hid ys :=
  ⟨by rw [put_other D.ne.2.2.1]; exact D.obj, by rw [put_other D.ne.2.2.2.2]; exact D.ns, by rw [put_other hs]; exact D.hid, put_same ..⟩
theorem hide_spec (O : (BB w h0).Ok) {d dx hd st : Addr} {k : Nat} {hid ss : List AV} {Q : AV → St → Prop} {v : Int} {pre post : List Int} (lo : Lo 5 A) (D : DomAt σ d dx hd st k ((pre ++ v :: post).map .int) hid ss) (hv : v ∉ pre) (hz : pre.length + post.length ≤ 1000) (hz2 : hid.length ≤ 1000)
    (h : Q .none ((σ.put d (.dom 303 dx ((pre ++ post).map .int))).put hd (.list (hid ++ [.int v])))) : Callf (BB w h0) A (.ref 300) [.ref d, .int v] σ Q := by
  refine call_fn O (k := 4) (n := 2) (ps := ["self", "value"]) (ds := []) (rest := []) lo rfl rfl rfl (fun s g X => BindsTo.of_eq rfl) rfl rfl (by decide) (by decide) (by decide) ?_
  intro L hL
  refine s_cons (x_expr (e_meth (e_local rfl fun pl => m303 O D (m303_remove _) (t := .type "method_descriptor") rfl (by decide) rfl ?_)))
  have e0 : (pre ++ v :: post).map AV.int = pre.map AV.int ++ AV.int v :: post.map AV.int := by simp
  refine es_cons (e_local rfl (es_nil ⟨kee_bi, c_remove O (IsSq.dom 303 dx) D.obj (le_line (by simp; omega)) e0 (fun z hz => ?_) eqs_eq ?_ (sub303 _)⟩))
  · obtain ⟨u, hu, rfl⟩ := List.mem_map.mp hz
    exact eqs_ne fun q => hv (q ▸ hu)
  rw [← List.map_append]
  have D1 := D.putObj (ys := (pre ++ post).map AV.int)
  refine s_cons (x_expr (e_meth (e_attr (e_local rfl (r_hid O D1 fun pl => ml_append O D1.hid ?_)))))
  exact es_cons (e_local rfl (es_nil ⟨kee_bi, c_append O IsSq.list D1.hid (le_line (by omega)) (s_nil h)⟩))
theorem sub_put2 {b d h : Addr} {o p q : AObj} (hb : σ.m b = none) (hd : d ≠ b) (hh : h ≠ b) : St.Sub ((σ.put d p).put h q) (((σ.put b o).put d p).put h q) := by
  refine ⟨fun x ao e => ?_, rfl⟩
  by_cases h1 : x = h
  · subst h1; rw [put_same] at e ⊢; exact e
  · rw [put_other h1] at e ⊢
    by_cases h2 : x = d
    · subst h2; rw [put_same] at e ⊢; exact e
    · rw [put_other h2] at e ⊢
      exact put_fresh hb e
theorem pop_spec (O : (BB w h0).Ok) {d dx hd st : Addr} {k : Nat} {xs hid ss : List AV} {j : Nat} {Q : AV → St → Prop} (lo : Lo 5 A) (hs : hd ≠ st) (D : DomAt σ d dx hd st k xs hid (ss ++ [.int (xs.length + j : Nat)])) (hj : j ≤ hid.length) (hz : xs.length ≤ 1000) (hz2 : ss.length ≤ 1000) (hz3 : hid.length ≤ 1000)
    (h1 : j = 0 → Q .none (σ.put st (.list ss)))
    (h2 : 0 < j → Q .none (((σ.put st (.list ss)).put d (.dom 303 dx (xs ++ hid.drop (hid.length - j)))).put hd (.list (hid.take (hid.length - j))))) : Callf (BB w h0) A (.ref 293) [.ref d] σ Q := by
  refine call_fn O (k := 4) (n := 1) (ps := ["self"]) (ds := []) (rest := ["diff"]) lo rfl rfl rfl (fun s g X => BindsTo.of_eq rfl) rfl rfl (by decide) (by decide) (by decide) ?_
  intro L hL
  have D1 := D.putSts (ys := ss) hs
  refine s_cons (x_assign (e_bin (e_meth (e_attr (e_local rfl (r_sts O D fun pl => ml_pop O D.sts (es_nil ⟨kee_bi, c_pop O IsSq.list D.sts (le_line (by omega)) ?_⟩)))))))
  refine e_call (e_boot O (g_len _) rfl (es_cons (e_local rfl (es_nil ⟨kee_bi, c_len_sq O (IsSq.dom 303 dx) D1.obj (le_line (by omega)) ?_ (len303 _) (sub303 _)⟩))))
  refine bin_sub (a_local ?_)
  have e1 : ((xs.length + j : Nat) : Int) - (xs.length : Int) = (j : Int) := by omega
  rw [e1, upd_frm (i := 1) rfl (by simp)]
  refine s_cons (x_if (t_val (e_local rfl (tru_int ?_))))
  by_cases hj0 : j = 0
  · subst hj0
    rw [if_neg (by simp)]
    exact s_nil (s_nil (h1 rfl))
  · have hne : ((j : Int) != 0) = true := by simpa using hj0
    rw [hne, if_pos rfl]
    refine s_cons (x_expr (e_meth (e_local rfl fun pl => m303 O D1 (m303_extend _) (t := .type "method_descriptor") rfl (by decide) rfl ?_)))
    refine es_cons (e_slice O (a := hd) (xs := hid) (lo := some (-(j : Int))) (hi := none) (st := none) IsSq.list (e_attr (e_local rfl (r_hid O D1 (tp_some (e_una (e_local rfl (una_neg (tp_none (tp_none ⟨rfl, D1.hid, .int _, .none, .none, le_line (by omega), fun b hb => ?_⟩))))))))))
    rw [apick_last j hj (by omega)]
    have hbd : b ≠ d := by rintro rfl; rw [D1.obj] at hb; cases hb
    have D2 : DomAt ((σ.put st (.list ss)).put b (.list (hid.drop (hid.length - j)))) d dx hd st k xs hid ss := ⟨put_fresh hb D1.obj, put_fresh hb D1.ns, put_fresh hb D1.hid, put_fresh hb D1.sts⟩
    refine es_nil ⟨kee_bi, c_extend O (IsSq.dom 303 dx) D2.obj (put_same ..) (le_line (by rw [List.length_drop]; omega)) ?_ (sub303 _)⟩
    have D3 := D2.putObj (ys := xs ++ hid.drop (hid.length - j))
    refine s_cons (x_delslice O (a := hd) (xs := hid) (lo := some (-(j : Int))) (hi := none) IsSq.list (e_attr (e_local rfl (r_hid O D3 (tp_some (e_una (e_local rfl (una_neg (tp_none ⟨rfl, D3.hid, .int _, .none, le_line (by omega), ?_⟩)))))))))
    have eb : (sliceBounds (some (-(j : Int))) none none hid.length).1 = ((hid.length - j : Nat) : Int) ∧ (sliceBounds (some (-(j : Int))) none none hid.length).2.1 = (hid.length : Int) := by
      have hj' : (-(j : Int)) < 0 := by omega
      simp only [sliceBounds, Option.getD_none, hj', if_true, show (1 : Int) > 0 by decide]
      constructor
      · omega
      · first | rfl | (simp; done) | (trace_state; omega)
    rw [eb.1, eb.2, adel_last j hj]
    have hbh : b ≠ hd := by rintro rfl; rw [D1.hid] at hb; cases hb
    exact T.sub (T.pure ⟨_, sub_put2 hb (Ne.symm hbd) (Ne.symm hbh), s_nil (h2 (by omega))⟩)
end Mine
set_option maxHeartbeats 200000
namespace Mine
variable {w : World} {h0 : Heap} {A : Around} {σ : St}
theorem m_list_init (O : (BB w h0).Ok) {pl : Sem Bool} {Q : AV → List AV → St → Prop} (h : Q (.bi "list.__init__") [] σ) : Meth (BB w h0) A (.ty "list") "__init__" pl σ Q := fun va hv s R => by
  obtain rfl := ab_ty hv
  have X := R.kin O
  unfold getMethod specialOf
  refine wpAny_bind (wpAny_bind (wpAny_of_eq (a := Value.type "type") rfl ((looks_findIn X (r := some (.builtin "type.__getattribute__")) (by rfl)).here ?_)))
  dsimp only
  rw [if_pos canon_tga]
  refine wpAny_bind ?_
  refine cls_open X (c := .type "list") (mc := .type "type") (r := .val (.builtin "list.__init__")) (hook := none) (Looks.of_pure (by rfl)) (Looks.of_pure (by rfl)) (by rfl) (Looks.of_pure (by rfl)) (by rfl) (by rfl) (wpAny_pure ?_)
  show wpAny _ _ (handedOut (.builtin "list.__init__")) _ _ _
  rw [handedOut_of (by decide +kernel)]
  exact wpAny_pure (wpAny_pure ⟨σ, R.tok, .tok, h⟩)
theorem m_cls (O : (BB w h0).Ok) {C f : Addr} {name : Str} {pl : Sem Bool} {Q : AV → List AV → St → Prop} (h : Q (.ref f) [] σ) (hg : specialIn (KK w.params) (.ref C) "__getattribute__" = some (some (.builtin "type.__getattribute__"))) (hr : readsIn (KK w.params) C (.type "type") = true) (e : findCls (KK w.params) (.ref C) (.type "type") name = some (.val (.ref f))) : Meth (BB w h0) A (.ref C) name pl σ Q := fun va hv s R => by
  obtain rfl := ab_ref hv
  have X := R.kin O
  exact method_cls X hg (cls_value X hr e rfl ⟨σ, R.tok, .tok, h⟩)
theorem g347 (P : Params) : specialIn (KK P) (.ref 347) "__getattribute__" = some (some (.builtin "type.__getattribute__")) := by rfl
theorem rd347 (P : Params) : readsIn (KK P) 347 (.type "type") = true := by rfl
theorem fc347 (P : Params) : findCls (KK P) (.ref 347) (.type "type") "preProcess" = some (.val (.ref 336)) := by rfl
theorem bnd_all (n : Nat) : (sliceBounds none none none n).1 = 0 ∧ (sliceBounds none none none n).2.1 = (n : Int) := by simp [sliceBounds]
theorem reset_spec (O : (BB w h0).Ok) {d dx hd st : Addr} {k : Nat} {xs hid ss : List AV} {Q : AV → St → Prop} (lo : Lo 5 A) (hs : hd ≠ st) (D : DomAt σ d dx hd st k xs hid ss) (hz : xs.length + hid.length ≤ 1000) (hz2 : ss.length ≤ 1000)
    (h : Q .none (((σ.put d (.dom 303 dx (xs ++ hid))).put hd (.list [])).put st (.list []))) : Callf (BB w h0) A (.ref 279) [.ref d] σ Q := by
  refine call_fn O (k := 4) (n := 1) (ps := ["self"]) (ds := []) (rest := []) lo rfl rfl rfl (fun s g X => BindsTo.of_eq rfl) rfl rfl (by decide) (by decide) (by decide) ?_
  intro L hL
  refine s_cons (x_expr (e_meth (e_local rfl fun pl => m303 O D (m303_extend _) (t := .type "method_descriptor") rfl (by decide) rfl ?_)))
  refine es_cons (e_attr (e_local rfl (r_hid O D (es_nil ⟨kee_bi, c_extend O (IsSq.dom 303 dx) D.obj D.hid (le_line (by omega)) ?_ (sub303 _)⟩))))
  have D1 := D.putObj (ys := xs ++ hid)
  refine s_cons (x_delslice O (a := hd) (xs := hid) (lo := none) (hi := none) IsSq.list (e_attr (e_local rfl (r_hid O D1 (tp_none (tp_none ⟨rfl, D1.hid, .none, .none, le_line (by omega), ?_⟩))))))
  rw [(bnd_all _).1, (bnd_all _).2, adel_all]
  have D2 := D1.putHid (ys := []) hs
  refine s_cons (x_delslice O (a := st) (xs := ss) (lo := none) (hi := none) IsSq.list (e_attr (e_local rfl (r_sts O D2 (tp_none (tp_none ⟨rfl, D2.sts, .none, .none, le_line (by omega), ?_⟩))))))
  rw [(bnd_all _).1, (bnd_all _).2, adel_all]
  exact s_nil h
theorem dinit_spec (O : (BB w h0).Ok) {d dx l : Addr} {xs : List AV} {Q : AV → St → Prop} (lo : Lo 5 A) (e : σ.m d = some (.dom 303 dx [])) (e2 : σ.m dx = some (.ns 0 fun _ => none)) (el : σ.m l = some (.list xs)) (hld : l ≠ d) (hz : xs.length ≤ 1000)
    (h : ∀ hd st σ', hd ≠ st → σ.m hd = none → σ.m st = none → DomAt σ' d dx hd st 2 xs [] [] → (∀ b, b ≠ d → b ≠ dx → b ≠ hd → b ≠ st → σ'.m b = σ.m b) → σ'.g = σ.g → Q .none σ') : Cc (BB w h0) A (.ref 272) [.ref d, .ref l] σ Q := by
  refine fn_code O (k := 4) (n := 2) (ps := ["self", "values"]) (ds := []) (rest := []) lo rfl rfl rfl (fun s g X => BindsTo.of_eq rfl) rfl rfl (by decide) (by decide) (by decide) ?_
  intro L hL
  refine s_cons (x_expr (e_meth (e_boot O (g_list _) rfl fun pl => m_list_init O ?_)))
  refine es_cons (e_local rfl (es_cons (e_local rfl (es_nil ⟨kee_bi, c_linit O (IsSq.dom 303 dx) e el hld (le_line (by omega)) ?_ (sub303 _)⟩))))
  have hdx : dx ≠ d := by rintro rfl; rw [e] at e2; cases e2
  have hdxl : l ≠ dx := by rintro rfl; rw [el] at e2; cases e2
  refine s_cons (x_assign (e_list (es_nil ⟨Nat.zero_le _, fun hd hhd => a_attr (e_local rfl ?_)⟩)))
  have hhd' : hd ≠ d ∧ hd ≠ dx := ⟨(by rintro rfl; rw [put_same] at hhd; cases hhd), (by rintro rfl; rw [put_other hdx, e2] at hhd; cases hhd)⟩
  have hhdσ : σ.m hd = none := by rw [put_other hhd'.1] at hhd; exact hhd
  refine sat_own O (C := 303) (dx := dx) (ao := .dom 303 dx xs) (k := 0) (m := fun _ => none) (by rw [put_other (Ne.symm hhd'.1), put_same]) (by rw [put_other (Ne.symm hhd'.2), put_other hdx]; exact e2) ?_ (by omega) rfl rfl (st303_hidden _)
  refine s_cons (x_assign (e_list (es_nil ⟨Nat.zero_le _, fun st hst => a_attr (e_local rfl ?_)⟩)))
  have hst' : st ≠ dx ∧ st ≠ hd ∧ st ≠ d := by
    refine ⟨?_, ?_, ?_⟩
    · rintro rfl; rw [put_same] at hst; cases hst
    · rintro rfl; rw [put_other hhd'.2, put_same] at hst; cases hst
    · rintro rfl; rw [put_other (Ne.symm hdx), put_other (Ne.symm hhd'.1), put_same] at hst; cases hst
  have hstσ : σ.m st = none := by rw [put_other hst'.1, put_other hst'.2.1, put_other hst'.2.2] at hst; exact hst
  refine sat_own O (C := 303) (dx := dx) (ao := .dom 303 dx xs) (k := 1) (m := upd (fun _ => none) "_hidden" (.ref hd)) (by rw [put_other (Ne.symm hst'.2.2), put_other (Ne.symm hdx), put_other (Ne.symm hhd'.1), put_same]) (by rw [put_other (Ne.symm hst'.1), put_same]) ?_ (by omega) rfl rfl (st303_states _)
  refine s_nil (h hd st _ (Ne.symm hst'.2.1) hhdσ hstσ ⟨?_, ?_, ?_, ?_⟩ (fun b h1 h2 h3 h4 => ?_) rfl)
  · rw [put_other (Ne.symm hdx), put_other (Ne.symm hst'.2.2), put_other (Ne.symm hdx), put_other (Ne.symm hhd'.1), put_same]
  · rw [put_same]; rfl
  · rw [put_other hhd'.2, put_other (Ne.symm hst'.2.1), put_other hhd'.2, put_same]
  · rw [put_other hst'.1, put_same]
  · rw [put_other h2, put_other h4, put_other h2, put_other h3, put_other h1]
end Mine
set_option maxHeartbeats 200000
namespace Mine
variable {w : World} {h0 : Heap} {A : Around} {σ σ' σ'' : St} {ℓ : Loc}

/-- what a step keeps -/
structure Kp (S : Addr → Prop) (σ σ' : St) : Prop where
  kept : ∀ b o, σ.m b = some o → ¬ S b → σ'.m b = some o
  live : ∀ b, σ'.m b = none → σ.m b = none
  g : σ'.g = σ.g
theorem Kp.refl {S : Addr → Prop} : Kp S σ σ := ⟨fun _ _ e _ => e, fun _ e => e, rfl⟩
theorem Kp.trans {S : Addr → Prop} (x : Kp S σ σ') (y : Kp S σ' σ'') : Kp S σ σ'' := ⟨fun b o e h => y.kept b o (x.kept b o e h) h, fun b e => x.live b (y.live b e), y.g.trans x.g⟩
theorem Kp.mono {S S' : Addr → Prop} (x : Kp S σ σ') (h : ∀ b, S b → S' b) : Kp S' σ σ' := ⟨fun b o e n => x.kept b o e fun q => n (h b q), x.live, x.g⟩
/-- what is new is kept too -/
theorem Kp.mono' {S S' : Addr → Prop} (x : Kp S σ σ') (h : ∀ b, S b → σ.m b ≠ none → S' b) : Kp S' σ σ' := ⟨fun b o e n => x.kept b o e fun q => n (h b q (by rw [e]; exact nofun)), x.live, x.g⟩
theorem Kp.put {S : Addr → Prop} {a : Addr} {o : AObj} (x : Kp S σ σ') (h : S a ∨ σ'.m a = none) : Kp S σ (σ'.put a o) := by
  refine ⟨fun b p e n => ?_, fun b e => ?_, x.g⟩
  · rw [put_other]
    · exact x.kept b p e n
    · rintro rfl
      rcases h with h | h
      · exact n h
      · rw [x.live _ h] at e; cases e
  · by_cases q : b = a
    · subst q; rw [put_same] at e; cases e
    · rw [put_other q] at e; exact x.live b e

structure Dm where
  xs : List Int
  hid : List Int
  ss : List Nat
structure Wd where
  n : Nat
  d : Nat → Addr
  dx : Nat → Addr
  hd : Nat → Addr
  st : Nat → Addr
def Wd.dyn (W : Wd) (a : Addr) : Prop := ∃ i, i < W.n ∧ (a = W.d i ∨ a = W.hd i ∨ a = W.st i)
structure Wd.Sep (W : Wd) : Prop where
  dd : ∀ i j, i < W.n → j < W.n → W.d i = W.d j → i = j
  hh : ∀ i j, i < W.n → j < W.n → W.hd i = W.hd j → i = j
  tt : ∀ i j, i < W.n → j < W.n → W.st i = W.st j → i = j
  ht : ∀ i j, i < W.n → j < W.n → W.hd i ≠ W.st j
abbrev iv (xs : List Int) : List AV := xs.map .int
abbrev nv (xs : List Nat) : List AV := xs.map fun (n : Nat) => .int n
abbrev DomI (σ : St) (W : Wd) (i : Nat) (x : Dm) : Prop := DomAt σ (W.d i) (W.dx i) (W.hd i) (W.st i) 2 (iv x.xs) (iv x.hid) (nv x.ss)
def Doms (σ : St) (W : Wd) (D : Nat → Dm) : Prop := ∀ i, i < W.n → DomI σ W i (D i)
def setD (D : Nat → Dm) (i : Nat) (x : Dm) : Nat → Dm := fun j => if j = i then x else D j
@[simp] theorem setD_same (D : Nat → Dm) (i : Nat) (x : Dm) : setD D i x i = x := if_pos rfl
theorem setD_other {D : Nat → Dm} {i j : Nat} {x : Dm} (h : j ≠ i) : setD D i x j = D j := if_neg h
theorem DomAt.keep {d dx hd st : Addr} {k : Nat} {xs hid ss : List AV} (D : DomAt σ d dx hd st k xs hid ss) (h : ∀ b o, σ.m b = some o → b = d ∨ b = dx ∨ b = hd ∨ b = st → σ'.m b = some o) : DomAt σ' d dx hd st k xs hid ss :=
  ⟨h _ _ D.obj (.inl rfl), h _ _ D.ns (.inr (.inl rfl)), h _ _ D.hid (.inr (.inr (.inl rfl))), h _ _ D.sts (.inr (.inr (.inr rfl)))⟩
theorem Doms.keep {W : Wd} {D : Nat → Dm} {S : Addr → Prop} (x : Doms σ W D) (k : Kp S σ σ') (h : ∀ i, i < W.n → ¬ S (W.d i) ∧ ¬ S (W.dx i) ∧ ¬ S (W.hd i) ∧ ¬ S (W.st i)) : Doms σ' W D := fun i hi =>
  (x i hi).keep fun b o e q => k.kept b o e (by obtain ⟨h1, h2, h3, h4⟩ := h i hi; rcases q with rfl | rfl | rfl | rfl <;> assumption)
theorem Doms.put {W : Wd} {D : Nat → Dm} {a : Addr} {o : AObj} (x : Doms σ W D) (h : ∀ i, i < W.n → a ≠ W.d i ∧ a ≠ W.dx i ∧ a ≠ W.hd i ∧ a ≠ W.st i) : Doms (σ.put a o) W D := fun i hi =>
  (x i hi).keep fun b p e q => by
    obtain ⟨h1, h2, h3, h4⟩ := h i hi
    rw [put_other]; · exact e
    rcases q with rfl | rfl | rfl | rfl
    · exact Ne.symm h1
    · exact Ne.symm h2
    · exact Ne.symm h3
    · exact Ne.symm h4
theorem Doms.new {W : Wd} {D : Nat → Dm} {a : Addr} {o : AObj} (x : Doms σ W D) (h : σ.m a = none) : Doms (σ.put a o) W D := x.put fun i hi => by
  refine ⟨?_, ?_, ?_, ?_⟩ <;> rintro rfl
  · rw [(x i hi).obj] at h; cases h
  · rw [(x i hi).ns] at h; cases h
  · rw [(x i hi).hid] at h; cases h
  · rw [(x i hi).sts] at h; cases h
/-- how the places of different Domains lie apart -/
theorem Doms.apart {W : Wd} {D : Nat → Dm} (x : Doms σ W D) (sp : W.Sep) {i j : Nat} (hi : i < W.n) (hj : j < W.n) (hne : j ≠ i) : ∀ b, b = W.d j ∨ b = W.dx j ∨ b = W.hd j ∨ b = W.st j → b ≠ W.d i ∧ b ≠ W.hd i ∧ b ≠ W.st i := by
  have di := x i hi; have dj := x j hj
  rintro b (rfl | rfl | rfl | rfl)
  · refine ⟨fun q => hne (sp.dd j i hj hi q), fun q => ?_, fun q => ?_⟩
    · have := dj.obj; rw [q, di.hid] at this; cases this
    · have := dj.obj; rw [q, di.sts] at this; cases this
  · refine ⟨fun q => ?_, fun q => ?_, fun q => ?_⟩
    · have := dj.ns; rw [q, di.obj] at this; cases this
    · have := dj.ns; rw [q, di.hid] at this; cases this
    · have := dj.ns; rw [q, di.sts] at this; cases this
  · refine ⟨fun q => ?_, fun q => hne (sp.hh j i hj hi q), sp.ht j i hj hi⟩
    have := dj.hid; rw [q, di.obj] at this; cases this
  · refine ⟨fun q => ?_, fun q => sp.ht i j hi hj q.symm, fun q => hne (sp.tt j i hj hi q)⟩
    have := dj.sts; rw [q, di.obj] at this; cases this
theorem Doms.set {W : Wd} {D : Nat → Dm} {i : Nat} {y : Dm} (x : Doms σ W D) (sp : W.Sep) (hi : i < W.n) (k : ∀ b o, σ.m b = some o → b ≠ W.d i → b ≠ W.hd i → b ≠ W.st i → σ'.m b = some o) (h : DomI σ' W i y) : Doms σ' W (setD D i y) := fun j hj => by
  by_cases q : j = i
  · subst q; rw [setD_same]; exact h
  · rw [setD_other q]
    exact (x j hj).keep fun b o e z => by obtain ⟨h1, h2, h3⟩ := x.apart sp hi hj q b z; exact k b o e h1 h2 h3
theorem Wd.dyn_d {W : Wd} {i : Nat} (h : i < W.n) : W.dyn (W.d i) := ⟨i, h, .inl rfl⟩
theorem Wd.dyn_h {W : Wd} {i : Nat} (h : i < W.n) : W.dyn (W.hd i) := ⟨i, h, .inr (.inl rfl)⟩
theorem Wd.dyn_t {W : Wd} {i : Nat} (h : i < W.n) : W.dyn (W.st i) := ⟨i, h, .inr (.inr rfl)⟩
/-- a place that is no Domain's, by its look -/
theorem Doms.not_dyn {W : Wd} {D : Nat → Dm} (x : Doms σ W D) {a : Addr} {o : AObj} (e : σ.m a = some o) (hd : ∀ C dx xs, o ≠ .dom C dx xs) (hl : ∀ xs, o ≠ .list xs) : ¬ W.dyn a := by
  rintro ⟨i, hi, rfl | rfl | rfl⟩
  · rw [(x i hi).obj] at e; cases e; exact hd _ _ _ rfl
  · rw [(x i hi).hid] at e; cases e; exact hl _ rfl
  · rw [(x i hi).sts] at e; cases e; exact hl _ rfl
theorem Doms.live {W : Wd} {D : Nat → Dm} (x : Doms σ W D) {a : Addr} (h : W.dyn a) : σ.m a ≠ none := by
  obtain ⟨i, hi, rfl | rfl | rfl⟩ := h
  · rw [(x i hi).obj]; exact nofun
  · rw [(x i hi).hid]; exact nofun
  · rw [(x i hi).sts]; exact nofun

/-- values that went out of sight -/
structure Hid (P : Int → Prop) (x y : Dm) : Prop where
  ss : y.ss = x.ss
  ex : ∃ h, y.hid = x.hid ++ h ∧ (y.xs ++ h).Perm x.xs ∧ ∀ v ∈ h, P v
theorem Hid.refl {P : Int → Prop} {x : Dm} : Hid P x x := ⟨rfl, [], by simp, by simp, by simp⟩
theorem Hid.trans {P : Int → Prop} {x y z : Dm} (a : Hid P x y) (b : Hid P y z) : Hid P x z := by
  obtain ⟨a1, h, a2, a3, a4⟩ := a
  obtain ⟨b1, k, b2, b3, b4⟩ := b
  refine ⟨b1.trans a1, h ++ k, by rw [b2, a2, List.append_assoc], ?_, fun v hv => ?_⟩
  · have : (z.xs ++ (h ++ k)).Perm ((z.xs ++ k) ++ h) := by
      rw [List.append_assoc]; exact List.Perm.append_left _ List.perm_append_comm
    exact (this.trans (b3.append_right h)).trans a3
  · rcases List.mem_append.mp hv with q | q
    · exact a4 v q
    · exact b4 v q
theorem Hid.mono {P P' : Int → Prop} {x y : Dm} (a : Hid P x y) (h : ∀ v, P v → P' v) : Hid P' x y := let ⟨a1, k, a2, a3, a4⟩ := a; ⟨a1, k, a2, a3, fun v hv => h v (a4 v hv)⟩
def hideD (p : Int → Bool) (x : Dm) : Dm := ⟨x.xs.filter (fun v => !p v), x.hid ++ x.xs.filter p, x.ss⟩
theorem Hid.of {p : Int → Bool} {x : Dm} : Hid (fun v => p v = true) x (hideD p x) := by
  refine ⟨rfl, x.xs.filter p, rfl, ?_, fun v hv => (List.mem_filter.mp hv).2⟩
  exact List.perm_append_comm.trans (List.filter_append_perm p x.xs)
def Sm (W : Wd) (D : Nat → Dm) : Prop := ∀ i, i < W.n → (D i).xs.length + (D i).hid.length ≤ 100 ∧ (D i).ss.length ≤ 100
theorem Hid.len {P : Int → Prop} {x y : Dm} (a : Hid P x y) : y.xs.length + y.hid.length = x.xs.length + x.hid.length := by
  obtain ⟨_, h, a2, a3, _⟩ := a
  have := a3.length_eq
  rw [a2]; simp only [List.length_append] at this ⊢; omega

def setL (ℓ : Loc) (x : Str) (u : Option AV) : Loc := fun y => if y = x then u else ℓ y
theorem upd_setL {x : Str} {u : Option AV} {v : AV} : upd (setL ℓ x u) x v = setL ℓ x (some v) := by
  funext y; unfold upd setL; split <;> rfl
theorem setL_self {x : Str} : setL ℓ x (ℓ x) = ℓ := by funext y; unfold setL; split <;> simp_all
theorem setL_same {x : Str} {u : Option AV} : setL ℓ x u x = u := if_pos rfl
theorem setL_other {x y : Str} {u : Option AV} (h : y ≠ x) : setL ℓ x u y = ℓ y := if_neg h
theorem setL_frm {ns : List Str} {vs : List (Option AV)} {x : Str} {i : Nat} {u : Option AV} (h : ns.idxOf? x = some i) (hi : i < vs.length) : setL (frm ns vs) x u = frm ns (vs.set i u) := by
  funext y
  unfold setL frm
  have key : ∀ {y : Str} {j : Nat}, ns.idxOf? y = some j → ns[j]? = some y := by
    intro y j hj
    unfold List.idxOf? at hj
    have := List.findIdx?_eq_some_iff_getElem.mp hj
    obtain ⟨hl, hb, _⟩ := this
    rw [List.getElem?_eq_getElem hl, beq_iff_eq.mp hb]
  by_cases hy : y = x
  · subst hy
    rw [if_pos rfl, h]
    simp [hi]
  · rw [if_neg hy]
    cases hj : ns.idxOf? y with
    | none => rfl
    | some j =>
      have : i ≠ j := by
        rintro rfl
        have e1 := key h; have e2 := key hj
        rw [e1] at e2; cases e2; exact hy rfl
      simp [List.getElem?_set_ne this]
end Mine
set_option maxHeartbeats 200000
namespace Mine
variable {w : World} {h0 : Heap} {A : Around} {σ σ' σ'' : St} {ℓ : Loc}

theorem Tt.mono {B : Bs} {env : Env} {e : PySem.Expr} {Q Q' : Bool → St → Prop} (h : Tt B A env e ℓ σ Q) (f : ∀ v σ', Q v σ' → Q' v σ') : Tt B A env e ℓ σ Q' := T.mono h fun _ _ _ ⟨a, b⟩ => ⟨a, f _ _ b⟩
theorem take_filter_succ {p : Int → Bool} {xs : List Int} {j : Nat} (h : j < xs.length) : (xs.take (j + 1)).filter p = (xs.take j).filter p ++ if p xs[j] = true then [xs[j]] else [] := by
  rw [List.take_succ_eq_append_getElem h, List.filter_append]
  congr 1
  by_cases q : p xs[j] = true
  · rw [if_pos q]; simp [q]
  · rw [if_neg q]; simp [q]
theorem iv_get {xs : List Int} {j : Nat} {v : AV} (h : (iv xs)[j]? = some v) : ∃ h' : j < xs.length, v = .int xs[j] := by
  rw [List.getElem?_map] at h
  obtain ⟨x, h1, h2⟩ := Option.map_eq_some_iff.mp h
  obtain ⟨h3, h4⟩ := List.getElem?_eq_some_iff.mp h1
  exact ⟨h3, by rw [← h2, h4]⟩
/-- values j of a Domain looked at -/
def midD (p : Int → Bool) (x : Dm) (j : Nat) : Dm := ⟨(x.xs.take j).filter (fun v => !p v) ++ x.xs.drop j, x.hid ++ (x.xs.take j).filter p, x.ss⟩
theorem midD_zero {p : Int → Bool} {x : Dm} : midD p x 0 = x := by simp [midD]
theorem midD_end {p : Int → Bool} {x : Dm} : midD p x x.xs.length = hideD p x := by simp [midD, hideD]
theorem midD_no {p : Int → Bool} {x : Dm} {j : Nat} (h : j < x.xs.length) (hp : p x.xs[j] = false) : midD p x (j + 1) = midD p x j := by
  unfold midD
  rw [take_filter_succ h, take_filter_succ h, hp, List.drop_eq_getElem_cons h]
  simp
theorem midD_yes {p : Int → Bool} {x : Dm} {j : Nat} (h : j < x.xs.length) (hp : p x.xs[j] = true) : midD p x (j + 1) = ⟨(x.xs.take j).filter (fun v => !p v) ++ x.xs.drop (j + 1), (x.hid ++ (x.xs.take j).filter p) ++ [x.xs[j]], x.ss⟩ := by
  unfold midD
  rw [take_filter_succ h, take_filter_succ h, hp]
  simp
theorem x_hide (O : (BB w h0).Ok) {env : Env} {test : PySem.Expr} {W : Wd} {D : Nat → Dm} {i : Nat} {p : Int → Bool} {Q : AF → Loc → St → Prop} {p1 p2 p3 p4 p5 p6 p7 p8 p9 p10 p11 : Pos} (lo : Lo 6 A) (hk : env.scope.kind = .function) (kd : env.kindOf "domain" = some .local) (kv : env.kindOf "value" = some .local)
    (hline : (p6.endLine == p8.line) = true) (hint : interactive env = false) (hsw : swapsWith (.Call (.Attribute (.Name "domain" p5) "hideValue" p6) [.Name "value" p7] [] p8) none p9.line env = pure false)
    (sp : W.Sep) (hi : i < W.n) (ds : Doms σ W D) (sm : Sm W D) (hdom : ℓ "domain" = some (.ref (W.d i)))
    (ht : ∀ v σ', Kp W.dyn σ σ' → Tt (BB w h0) A env test (setL ℓ "value" (some (.int v))) σ' fun b σ'' => b = p v ∧ σ'' = σ')
    (h : ∀ u σ', Kp W.dyn σ σ' → Doms σ' W (setD D i (hideD p (D i))) → Q .next (setL ℓ "value" u) σ') :
    Tx (BB w h0) A env (.For (.Name "value" p1) (.Subscript (.Name "domain" p2) (.Slice none none none p3) p4) [.If test [.Expr (.Call (.Attribute (.Name "domain" p5) "hideValue" p6) [.Name "value" p7] [] p8) p9] [] p10] [] p11) ℓ σ Q := by
  have dv : ∀ u, setL ℓ "value" u "domain" = some (.ref (W.d i)) := fun u => (setL_other (by decide)).trans hdom
  have sz := sm i hi
  refine x_for (e_slice O (a := W.d i) (xs := iv (D i).xs) (lo := none) (hi := none) (st := none) (IsSq.dom 303 (W.dx i)) (e_local hdom (tp_none (tp_none (tp_none ⟨rfl, (ds i hi).obj, .none, .none, .none, le_line (by simp; omega), fun b hb => ?_⟩))) hk kd rfl) (by decide) (sk303 _) (gi303 _) (sub303 _))
  rw [apick_all]
  refine ⟨_, _, _, fun j ℓ' σ' => ∃ u, ℓ' = setL ℓ "value" u ∧ σ'.m b = some (.list (iv (D i).xs)) ∧ Kp W.dyn σ σ' ∧ Doms σ' W (setD D i (midD p (D i) j)), it_list lo.hh (put_same ..), ⟨ℓ "value", setL_self.symm, put_same .., Kp.refl.put (.inr hb), ?_⟩, fun _ _ _ ⟨_, _, e, _⟩ => e, ?_, ?_⟩
  · rw [midD_zero]
    have : setD D i (D i) = D := by funext j; unfold setD; split <;> simp_all
    rw [this]; exact ds.new hb
  · rintro j v ℓ' σ' hj hv ⟨u, rfl, eb, kp, dm⟩
    obtain ⟨hj', rfl⟩ := iv_get hv
    refine a_local ?_ hk kv
    rw [upd_setL]
    refine s_cons (x_if (Tt.mono (ht _ _ kp) ?_))
    rintro c σ'' ⟨rfl, rfl⟩
    split
    · rename_i hp
      have di : DomI σ'' W i (midD p (D i) j) := by have := dm i hi; rwa [setD_same] at this
      have e0 : iv (midD p (D i) j).xs = (((D i).xs.take j).filter (fun v => !p v) ++ (D i).xs[j] :: (D i).xs.drop (j + 1)).map AV.int := by
        unfold midD; dsimp only; rw [← List.drop_eq_getElem_cons hj']
      unfold DomI at di
      rw [e0] at di
      have l1 : (((D i).xs.take j).filter (fun v => !p v)).length ≤ j := Nat.le_trans (List.length_filter_le _ _) (by simp; omega)
      have l2 : (((D i).xs.take j).filter p).length ≤ j := Nat.le_trans (List.length_filter_le _ _) (by simp; omega)
      refine s_cons (x_expr (e_meth (e_local (dv _) (fun pl => m303 O di (m303_hideValue _) (t := .type "function") (ty300 _) (by decide) rfl ?_) hk kd rfl) rfl rfl rfl hline) hint hsw)
      refine es_cons (e_local setL_same (es_nil ⟨kee_fn O rfl, hide_spec O (lo.mono (by decide)) di ?_ ?_ ?_ ?_⟩) hk kv rfl)
      · intro q
        have := (List.mem_filter.mp q).2
        rw [hp] at this; cases this
      · simp only [List.length_drop]; omega
      · simp only [midD, List.length_map, List.length_append]; omega
      · refine s_nil (s_nil ⟨_, rfl, ?_, ?_, ?_⟩)
        · have n1 : b ≠ W.d i := by rintro rfl; rw [(ds i hi).obj] at hb; cases hb
          have n2 : b ≠ W.hd i := by rintro rfl; rw [(ds i hi).hid] at hb; cases hb
          rw [put_other n2, put_other n1]; exact eb
        · exact (kp.put (.inl (W.dyn_d hi))).put (.inl (W.dyn_h hi))
        · rw [midD_yes hj' hp]
          have dset := dm.set (σ' := (σ''.put (W.d i) (.dom 303 (W.dx i) ((((D i).xs.take j).filter (fun v => !p v) ++ (D i).xs.drop (j + 1)).map AV.int))).put (W.hd i) (.list (iv (midD p (D i) j).hid ++ [.int (D i).xs[j]]))) (y := ⟨((D i).xs.take j).filter (fun v => !p v) ++ (D i).xs.drop (j + 1), ((D i).hid ++ ((D i).xs.take j).filter p) ++ [(D i).xs[j]], (D i).ss⟩) sp hi (fun b o e h1 h2 h3 => by rw [put_other h2, put_other h1]; exact e) ?_
          · have : setD (setD D i (midD p (D i) j)) i ⟨((D i).xs.take j).filter (fun v => !p v) ++ (D i).xs.drop (j + 1), ((D i).hid ++ ((D i).xs.take j).filter p) ++ [(D i).xs[j]], (D i).ss⟩ = setD D i ⟨((D i).xs.take j).filter (fun v => !p v) ++ (D i).xs.drop (j + 1), ((D i).hid ++ ((D i).xs.take j).filter p) ++ [(D i).xs[j]], (D i).ss⟩ := by
              funext k; unfold setD; split <;> rfl
            rw [this] at dset
            exact dset
          · have := (di.putObj (ys := (((D i).xs.take j).filter (fun v => !p v) ++ (D i).xs.drop (j + 1)).map AV.int)).putHid (ys := iv (midD p (D i) j).hid ++ [.int (D i).xs[j]]) (sp.ht i i hi hi)
            have e1 : iv (((D i).hid ++ ((D i).xs.take j).filter p) ++ [(D i).xs[j]]) = iv (midD p (D i) j).hid ++ [.int (D i).xs[j]] := by simp [midD]
            unfold DomI
            rw [e1]
            exact this
    · rename_i hp
      refine s_nil (s_nil ⟨_, rfl, eb, kp, ?_⟩)
      rw [midD_no hj' (by simpa using hp)]
      exact dm
  · rintro ℓ' σ' ⟨u, rfl, eb, kp, dm⟩
    refine s_nil (h u σ' kp ?_)
    rw [List.length_map, midD_end] at dm
    exact dm
end Mine
set_option maxHeartbeats 200000
namespace Mine
variable {w : World} {h0 : Heap} {A : Around} {σ σ' σ'' : St} {ℓ : Loc}

abbrev Asg := List (Nat × Int)
def look (a : Asg) (i : Nat) : Option Int := (a.find? fun p => p.1 = i).map (·.2)
def esOf (a : Asg) : List (Int × AV) := a.map fun p => ((p.1 : Int), .int p.2)
def esD (W : Wd) : List (Int × AV) := (List.range W.n).map fun (i : Nat) => ((i : Int), .ref (W.d i))
theorem dget_look {a : Asg} {i : Nat} : dget (esOf a) (i : Int) = (look a i).map .int := by
  unfold dget esOf look
  rw [List.find?_map]
  have : ((fun p : Int × AV => decide (p.1 = (i : Int))) ∘ fun p : Nat × Int => ((p.1 : Int), AV.int p.2)) = fun p => decide (p.1 = i) := by
    funext p; exact decide_eq_decide.mpr (by dsimp only; omega)
  rw [this]
  cases a.find? fun p => decide (p.1 = i) <;> rfl
theorem dget_range {f : Nat → AV} {n i : Nat} (h : i < n) : dget ((List.range n).map fun (i : Nat) => ((i : Int), f i)) (i : Int) = some (f i) := by
  unfold dget
  rw [List.find?_map]
  have : ((fun p : Int × AV => decide (p.1 = (i : Int))) ∘ fun i : Nat => ((i : Int), f i)) = fun p => decide (p = i) := by
    funext p; exact decide_eq_decide.mpr (by dsimp only; omega)
  rw [this]
  have : (List.range n).find? (fun p => decide (p = i)) = some i := by
    rw [List.find?_eq_some_iff_getElem]
    refine ⟨by simp, i, by simpa using h, by simp, fun j hj => ?_⟩
    simp; omega
  rw [this]; rfl
theorem dget_esD {W : Wd} {i : Nat} (h : i < W.n) : dget (esD W) (i : Int) = some (.ref (W.d i)) := dget_range (f := fun i => .ref (W.d i)) h
structure Con where
  kind : Nat
  b : Int
  vs : List Nat
  fs : List Int
def Con.ks (C : Con) : List (Nat × Int) := if C.fs = [] then C.vs.map fun i => (i, 1) else C.vs.zip C.fs
def part (a : Asg) (p : Nat × Int) : Int := match look a p.1 with
  | some v => v * p.2
  | none => 0
def psum (ks : List (Nat × Int)) (a : Asg) : Int := (ks.map (part a)).sum
def Con.holds (C : Con) (s : Int) : Prop := match C.kind with
  | 0 => s ≤ C.b
  | 1 => s = C.b
  | _ => C.b ≤ s
theorem psum_succ {ks : List (Nat × Int)} {a : Asg} {j : Nat} (h : j < ks.length) : psum (ks.take (j + 1)) a = psum (ks.take j) a + part a ks[j] := by
  unfold psum; rw [List.take_succ_eq_append_getElem h, List.map_append, List.sum_append]; simp
structure CallPost (W : Wd) (C : Con) (a : Asg) (D D' : Nat → Dm) (r : Bool) : Prop where
  hid : ∀ i, i < W.n → Hid (fun v => C.kind ≠ 2 ∧ look a i = none ∧ ∃ f, (i, f) ∈ C.ks ∧ psum C.ks a + v * f > C.b) (D i) (D' i)
  same : ∀ i, i < W.n → look a i ≠ none → D' i = D i
  nz : r = true → ∀ i, i < W.n → (D i).xs ≠ [] → (D' i).xs ≠ []
  yes : r = true → (∀ i ∈ C.vs, look a i ≠ none) → C.holds (psum C.ks a)
  no : r = false → (C.kind ≠ 2 ∧ psum C.ks a > C.b) ∨ (∃ i, i ∈ C.vs ∧ i < W.n ∧ look a i = none ∧ (D' i).xs = []) ∨ ((∀ p ∈ C.ks, look a p.1 ≠ none) ∧ ¬ C.holds (psum C.ks a))
/-- what a flag of looking ahead is -/
inductive FcIs (σ : St) : AV → Bool → Prop where
  | nil : FcIs σ .none false
  | no : FcIs σ (.bool false) false
  | list {l : Addr} {xs : List AV} (e : σ.m l = some (.list xs)) (hz : xs.length ≤ 1000) : FcIs σ (.ref l) (!xs.isEmpty)
theorem FcIs.tru {B : Bs} (O : B.Ok) {x : AV} {b : Bool} {Q : Bool → St → Prop} (h : FcIs σ x b) (k : Q b σ) (hb : findIn B.K (.type "list") "__bool__" = some none := by rfl) (hf : findIn B.K (.type "list") "__len__" = some (some (.builtin "list.__len__")) := by rfl) (hs : subIn B.K (.type "list") (.type "list") = some true := by rfl) : Tru B A x σ Q := by
  cases h with
  | nil => exact tru_none k
  | no => exact tru_bool k
  | list e hz => exact tru_sq O IsSq.list e (le_line (by omega)) k hb hf hs
theorem FcIs.keep {x : AV} {b : Bool} {S : Addr → Prop} (h : FcIs σ x b) (k : Kp S σ σ') (hS : ∀ l, x = .ref l → ¬ S l) : FcIs σ' x b := by
  cases h with
  | nil => exact .nil
  | no => exact .no
  | list e hz => exact .list (k.kept _ _ e (hS _ rfl)) hz
theorem Hid.sm {W : Wd} {D D' : Nat → Dm} {P : Nat → Int → Prop} (h : ∀ i, i < W.n → Hid (P i) (D i) (D' i)) (s : Sm W D) : Sm W D' := fun i hi => by
  rw [(h i hi).len, (h i hi).ss]; exact s i hi
theorem nv_get {xs : List Nat} {j : Nat} {v : AV} (h : (nv xs)[j]? = some v) : ∃ h' : j < xs.length, v = .int (xs[j] : Nat) := by
  rw [List.getElem?_map] at h
  obtain ⟨x, h1, h2⟩ := Option.map_eq_some_iff.mp h
  obtain ⟨h3, h4⟩ := List.getElem?_eq_some_iff.mp h1
  exact ⟨h3, by rw [← h2, h4]⟩

def set3 (ℓ : Loc) (u1 u2 u3 : Option AV) : Loc := setL (setL (setL ℓ "variable" u1) "domain" u2) "value" u3
theorem set3_other {x : Str} {u1 u2 u3 : Option AV} (h1 : x ≠ "variable") (h2 : x ≠ "domain") (h3 : x ≠ "value") : set3 ℓ u1 u2 u3 x = ℓ x := by
  unfold set3; rw [setL_other h3, setL_other h2, setL_other h1]
theorem set3_self : set3 ℓ (ℓ "variable") (ℓ "domain") (ℓ "value") = ℓ := by
  funext y; unfold set3 setL; split
  · simp_all
  · split
    · simp_all
    · split <;> simp_all
theorem set3_var {u1 u2 u3 : Option AV} {v : AV} : upd (set3 ℓ u1 u2 u3) "variable" v = set3 ℓ (some v) u2 u3 := by
  funext y; unfold set3 upd setL
  by_cases h : y = "variable"
  · subst h; simp [show ("variable" : Str) ≠ "value" by decide, show ("variable" : Str) ≠ "domain" by decide]
  · simp [h]
theorem set3_dom {u1 u2 u3 : Option AV} {v : AV} : upd (set3 ℓ u1 u2 u3) "domain" v = set3 ℓ u1 (some v) u3 := by
  funext y; unfold set3 upd setL
  by_cases h : y = "domain"
  · subst h; simp [show ("domain" : Str) ≠ "value" by decide]
  · simp [h]
theorem set3_val {u1 u2 u3 u : Option AV} : setL (set3 ℓ u1 u2 u3) "value" u = set3 ℓ u1 u2 u := by
  funext y; unfold set3 setL
  split <;> simp_all
theorem set3_v {u1 u2 u3 : Option AV} : set3 ℓ u1 u2 u3 "variable" = u1 := by
  unfold set3; rw [setL_other (by decide), setL_other (by decide), setL_same]
theorem set3_d {u1 u2 u3 : Option AV} : set3 ℓ u1 u2 u3 "domain" = u2 := by
  unfold set3; rw [setL_other (by decide), setL_same]
/-- looking ahead, no factors -/
theorem x_fwd (O : (BB w h0).Ok) {env : Env} {W : Wd} {D : Nat → Dm} {a : Asg} {vs : List Nat} {s b : Int} {mx : Str} {vl dd ad : Addr} {nd na : Nat} {Q : AF → Loc → St → Prop} {p1 p2 p3 p4 p5 p6 p7 p8 p9 pa pb pc pd pe pf pg ph pi pj pk pl pm pn po pp pq pr ps pt pu pv q1 q2 : Pos} {kf : Nat}
    (lo : Lo 6 A) (hk : env.scope.kind = .function) (kd : env.kindOf "domain" = some .local) (kv : env.kindOf "value" = some .local) (k1 : env.kindOf "variable" = some .local) (k2 : env.kindOf "variables" = some .local) (k3 : env.kindOf "assignments" = some .local) (k4 : env.kindOf "domains" = some .local) (k5 : env.kindOf "sum" = some .local) (k6 : env.kindOf mx = some .local)
    (m1 : mx ≠ "variable") (m2 : mx ≠ "domain") (m3 : mx ≠ "value") (m4 : (mx == ("__debug__" : Str)) = false)
    (hline : (pc.endLine == pe.line) = true) (hint : interactive env = false) (hsw : swapsWith (.Call (.Attribute (.Name "domain" pb) "hideValue" pc) [.Name "value" pd] [] pe) none pf.line env = pure false)
    (hsa : swapsWithSole [.Name "domain" p5] (.Subscript (.Name "domains" p6) (.Name "variable" p7) p8) p9.line env = pure false) (hsb : swappedStores [.Name "domain" p5] (.Subscript (.Name "domains" p6) (.Name "variable" p7) p8) env = pure none)
    (sp : W.Sep) (ds : Doms σ W D) (sm : Sm W D) (hvs : ∀ i ∈ vs, i < W.n) (e1 : σ.m vl = some (.list (nv vs))) (n1 : ¬ W.dyn vl) (e2 : σ.m dd = some (.dict (esD W) nd)) (e3 : σ.m ad = some (.dict (esOf a) na))
    (l1 : ℓ "variables" = some (.ref vl)) (l2 : ℓ "domains" = some (.ref dd)) (l3 : ℓ "assignments" = some (.ref ad)) (l4 : ℓ "sum" = some (.int s)) (l5 : ℓ mx = some (.int b))
    (h : ∀ u1 u2 u3 σ' D' f, Kp W.dyn σ σ' → Doms σ' W D' → (∀ i, i < W.n → Hid (fun v => look a i = none ∧ i ∈ vs ∧ s + v > b) (D i) (D' i)) → (∀ i, i < W.n → look a i ≠ none → D' i = D i) → (f = .next ∧ (∀ i, i < W.n → (D i).xs ≠ [] → (D' i).xs ≠ []) ∨ f = .ret (.bool false) ∧ ∃ i, i ∈ vs ∧ i < W.n ∧ look a i = none ∧ (D' i).xs = []) → Q f (set3 ℓ u1 u2 u3) σ') :
    Tx (BB w h0) A env (.For (.Name "variable" p1) (.Name "variables" p2) [.If (.Compare (.Name "variable" p3) [.NotIn] [.Name "assignments" p4] pg)
      [.Assign [.Name "domain" p5] (.Subscript (.Name "domains" p6) (.Name "variable" p7) p8) p9,
       .For (.Name "value" ph) (.Subscript (.Name "domain" pi) (.Slice none none none pj) pk) [.If (.Compare (.BinOp (.Name "sum" pl) .Add (.Name "value" pm) pn) [.Gt] [.Name mx po] pp) [.Expr (.Call (.Attribute (.Name "domain" pb) "hideValue" pc) [.Name "value" pd] [] pe) pf] [] pa] [] pq,
       .If (.UnaryOp .Not (.Name "domain" pr) ps) [.Return (some (.Constant (.bool false) kf pt)) pu] [] pv] [] q1] [] q2) ℓ σ Q := by
  have vv : ∀ u1 u2 u3, set3 ℓ u1 u2 u3 "variables" = some (.ref vl) := fun _ _ _ => (set3_other (by decide) (by decide) (by decide)).trans l1
  have vd : ∀ u1 u2 u3, set3 ℓ u1 u2 u3 "domains" = some (.ref dd) := fun _ _ _ => (set3_other (by decide) (by decide) (by decide)).trans l2
  have va : ∀ u1 u2 u3, set3 ℓ u1 u2 u3 "assignments" = some (.ref ad) := fun _ _ _ => (set3_other (by decide) (by decide) (by decide)).trans l3
  have vs' : ∀ u1 u2 u3, set3 ℓ u1 u2 u3 "sum" = some (.int s) := fun _ _ _ => (set3_other (by decide) (by decide) (by decide)).trans l4
  have vb : ∀ u1 u2 u3, set3 ℓ u1 u2 u3 mx = some (.int b) := fun _ _ _ => (set3_other m1 m2 m3).trans l5
  have nd2 := ds.not_dyn e2 nofun nofun
  have nd3 := ds.not_dyn e3 nofun nofun
  refine x_for (e_local l1 ?_ hk k2 rfl)
  refine ⟨_, _, _, fun j ℓ' σ' => ∃ u1 u2 u3 D', ℓ' = set3 ℓ u1 u2 u3 ∧ Kp W.dyn σ σ' ∧ Doms σ' W D' ∧ (∀ i, i < W.n → Hid (fun v => look a i = none ∧ i ∈ vs ∧ s + v > b) (D i) (D' i)) ∧ (∀ i, i < W.n → look a i ≠ none → D' i = D i) ∧ (∀ i, i < W.n → (D i).xs ≠ [] → (D' i).xs ≠ []), it_list lo.hh e1, ⟨_, _, _, D, set3_self.symm, .refl, ds, fun _ _ => .refl, fun _ _ _ => rfl, fun _ _ q => q⟩, fun _ _ _ ⟨_, _, _, _, _, k, _⟩ => k.kept _ _ e1 n1, ?_, ?_⟩
  · rintro j v ℓ' σ' hj hv ⟨u1, u2, u3, D', rfl, kp, dm, hid, same, nz⟩
    obtain ⟨hj', rfl⟩ := nv_get hv
    have hin : vs[j] < W.n := hvs _ (List.getElem_mem hj')
    refine a_local ?_ hk k1
    rw [set3_var]
    refine s_cons (x_if (t_cmp (e_local set3_v (e_local (va _ _ _) (cmp_notin_dict (kp.kept _ _ e3 nd3) (tru_bool ?_)) hk k3 rfl) hk k1 rfl)))
    rw [dget_look]
    cases hl : look a vs[j] with
    | some x =>
      rw [if_neg (by simp)]
      exact s_nil (s_nil ⟨_, _, _, D', rfl, kp, dm, hid, same, nz⟩)
    | none =>
      rw [if_pos (by simp)]
      refine s_cons (x_assign (e_sub (e_local (vd _ _ _) (e_local set3_v ⟨gp_of O (kp.kept _ _ e2 nd2) rfl, gi_dict (kp.kept _ _ e2 nd2) (dget_esD hin) (a_local ?_ hk kd)⟩ hk k1 rfl) hk k4 rfl)) hsa hsb)
      rw [set3_dom]
      refine s_cons (x_hide O (i := vs[j]) (p := fun v => decide (s + v > b)) lo hk kd kv hline hint hsw sp hin dm (Hid.sm hid sm) set3_d (fun v σ₂ k2 => ?_) (fun u σ₂ k2 dm2 => ?_))
      · rw [set3_val]
        exact t_cmp (e_bin (e_local (vs' _ _ _) (e_local (by unfold set3; exact setL_same) (bin_add (e_local (vb _ _ _) (cmp_gt (tru_bool ⟨rfl, rfl⟩)) hk k6 m4)) hk kv rfl) hk k5 rfl))
      · rw [set3_val]
        have hid2 : ∀ i, i < W.n → Hid (fun v => look a i = none ∧ i ∈ vs ∧ s + v > b) (D i) (setD D' vs[j] (hideD (fun v => decide (s + v > b)) (D' vs[j])) i) := fun i hi => by
          by_cases q : i = vs[j]
          · subst q; rw [setD_same]
            exact (hid _ hi).trans (Hid.of.mono fun v hv => ⟨hl, List.getElem_mem hj', of_decide_eq_true hv⟩)
          · rw [setD_other q]; exact hid i hi
        have same2 : ∀ i, i < W.n → look a i ≠ none → setD D' vs[j] (hideD (fun v => decide (s + v > b)) (D' vs[j])) i = D i := fun i hi hne => by
          rw [setD_other (by rintro rfl; exact hne hl)]; exact same i hi hne
        have sz := Hid.sm hid2 sm vs[j] hin
        have dv := dm2 vs[j] hin
        refine s_cons (x_if (t_not (t_val (e_local set3_d (tru_sq O (IsSq.dom 303 _) dv.obj (le_line (by simp only [List.length_map]; omega)) ?_ (bool303 _) (len303 _) (sub303 _)) hk kd rfl))))
        split
        · rename_i hemp
          have : (setD D' vs[j] (hideD (fun v => decide (s + v > b)) (D' vs[j])) vs[j]).xs = [] := by simpa using hemp
          refine s_cons (x_ret (e_bool ?_))
          exact h _ _ _ _ _ _ (kp.trans k2) dm2 hid2 same2 (.inr ⟨rfl, vs[j], List.getElem_mem hj', hin, hl, this⟩)
        · rename_i hemp
          refine s_nil (s_nil (s_nil ⟨_, _, _, _, rfl, kp.trans k2, dm2, hid2, same2, fun i hi hne => ?_⟩))
          by_cases q : i = vs[j]
          · subst q; simpa using hemp
          · rw [setD_other q]; exact nz i hi hne
  · rintro ℓ' σ' ⟨u1, u2, u3, D', rfl, kp, dm, hid, same, nz⟩
    exact s_nil (h _ _ _ _ _ _ kp dm hid same (.inl ⟨rfl, nz⟩))
end Mine
set_option maxHeartbeats 200000
namespace Mine
variable {w : World} {h0 : Heap} {A : Around} {σ σ' σ'' : St} {ℓ : Loc}
def bname : Nat → Str
  | 0 => "_maxsum"
  | 1 => "_exactsum"
  | _ => "_minsum"
def bcls : Nat → Addr
  | 0 => 410
  | 1 => 445
  | _ => 473
def conNs (C : Con) (ml : Addr) : Loc := upd (upd (fun _ => none) (bname C.kind) (.int C.b)) "_multipliers" (if C.fs = [] then .none else .ref ml)
structure ConAt (σ : St) (C : Con) (c cx ml : Addr) : Prop where
  obj : σ.m c = some (.inst (bcls C.kind) cx)
  ns : σ.m cx = some (.ns 2 (conNs C ml))
  ml : C.fs ≠ [] → σ.m ml = some (.list (iv C.fs))
theorem conNs_m {C : Con} {ml : Addr} : conNs C ml "_multipliers" = some (if C.fs = [] then .none else .ref ml) := by unfold conNs upd; exact if_pos rfl
theorem conNs_b0 {C : Con} {ml : Addr} (h : C.kind = 0) : conNs C ml "_maxsum" = some (.int C.b) := by
  unfold conNs upd; rw [if_neg (by decide), h]; exact if_pos rfl
theorem conNs_b1 {C : Con} {ml : Addr} (h : C.kind = 1) : conNs C ml "_exactsum" = some (.int C.b) := by
  unfold conNs upd; rw [if_neg (by decide), h]; exact if_pos rfl
theorem conNs_b2 {C : Con} {ml : Addr} (h : C.kind = 2) : conNs C ml "_minsum" = some (.int C.b) := by
  unfold conNs upd; rw [if_neg (by decide), h]; exact if_pos rfl
theorem part_one {a : Asg} {i : Nat} : part a (i, 1) = (look a i).getD 0 := by unfold part; cases look a i <;> simp
theorem psum_one {a : Asg} {vs : List Nat} {j : Nat} (h : j < vs.length) : psum ((vs.take (j + 1)).map fun i => (i, 1)) a = psum ((vs.take j).map fun i => (i, 1)) a + (look a vs[j]).getD 0 := by
  unfold psum
  rw [List.take_succ_eq_append_getElem h, List.map_append, List.map_append, List.sum_append]
  simp [part_one]
theorem ks_plain {C : Con} (h : C.fs = []) : C.ks = C.vs.map fun i => (i, 1) := if_pos h
theorem max_call0 (O : (BB w h0).Ok) {W : Wd} {D : Nat → Dm} {a : Asg} {C : Con} {c cx ml vl dd ad : Addr} {nd na : Nat} {x : AV} {fb : Bool} {Q : AV → St → Prop} (lo : Lo 8 A) (hk : C.kind = 0) (hf : C.fs = [])
    (sp : W.Sep) (ds : Doms σ W D) (sm : Sm W D) (hvs : ∀ i ∈ C.vs, i < W.n) (ca : ConAt σ C c cx ml) (e1 : σ.m vl = some (.list (nv C.vs))) (n1 : ¬ W.dyn vl) (e2 : σ.m dd = some (.dict (esD W) nd)) (e3 : σ.m ad = some (.dict (esOf a) na)) (fc : FcIs σ x fb)
    (h : ∀ r σ' D', Kp W.dyn σ σ' → Doms σ' W D' → CallPost W C a D D' r → (fb = false → D' = D) → Q (.bool r) σ') : Cc (BB w h0) A (.ref 407) [.ref c, .ref vl, .ref dd, .ref ad, x] σ Q := by
  obtain ⟨o1, o2, o3⟩ := ca
  rw [hk] at o1
  have hm := conNs_m (C := C) (ml := ml)
  rw [if_pos hf] at hm
  refine fn_code O (k := 7) (n := 5) (ps := ["self", "variables", "domains", "assignments", "forwardcheck"]) (ds := []) (rest := ["multipliers", "maxsum", "sum", "variable", "multiplier", "domain", "value"]) lo rfl rfl rfl (fun s g X => kp_binds X fun _ => rfl) rfl rfl (by decide) (by decide) (by decide) ?_
  intro L hL
  refine s_cons (x_assign (e_attr (e_local rfl (att_own O o1 o2 hm (a_local ?_) rfl rfl (ga410 _) (at410_multipliers _)))))
  rw [upd_frm (i := 5) rfl (by simp)]
  refine s_cons (x_assign (e_attr (e_local rfl (att_own O o1 o2 (conNs_b0 hk) (a_local ?_) rfl rfl (ga410 _) (at410_maxsum _)))))
  rw [upd_frm (i := 6) rfl (by simp)]
  refine s_cons (x_assign (e_int (a_local ?_)))
  rw [upd_frm (i := 7) rfl (by simp)]
  refine s_cons (x_if (t_val (e_local rfl (tru_none ?_))))
  rw [if_neg Bool.false_ne_true]
  refine s_cons (x_for (e_local rfl ?_))
  refine ⟨_, _, _, fun j ℓ' σ' => ∃ u, ℓ' = frm ["self", "variables", "domains", "assignments", "forwardcheck", "multipliers", "maxsum", "sum", "variable", "multiplier", "domain", "value"] [some (.ref c), some (.ref vl), some (.ref dd), some (.ref ad), some x, some .none, some (.int C.b), some (.int (psum ((C.vs.take j).map fun i => (i, 1)) a)), u, none, none, none] ∧ σ' = σ, it_list lo.hh e1, ⟨none, rfl, rfl⟩, ?_, ?_, ?_⟩
  · rintro _ _ _ ⟨_, _, rfl⟩; exact e1
  · rintro j v ℓ' σ' hj hv ⟨u, rfl, rfl⟩
    obtain ⟨hj', rfl⟩ := nv_get hv
    refine a_local ?_
    rw [upd_frm (i := 8) rfl (by simp)]
    refine s_cons (x_if (t_cmp (e_local rfl (e_local rfl (cmp_in_dict e3 (tru_bool ?_))))))
    rw [dget_look]
    cases hl : look a C.vs[j] with
    | none =>
      rw [if_neg (by simp)]
      refine s_nil (s_nil ⟨some (.int (C.vs[j] : Nat)), ?_, rfl⟩)
      rw [psum_one hj', hl, Option.getD_none, Int.add_zero]; rfl
    | some y =>
      rw [if_pos (by simp)]
      refine s_cons (x_aug_local rfl (e_sub (e_local rfl (e_local rfl ⟨gp_of O e3 rfl, gi_dict e3 (v := .int y) (by rw [dget_look, hl]; rfl) (ibin_add ?_)⟩))))
      rw [upd_frm (i := 7) rfl (by simp)]
      refine s_nil (s_nil ⟨some (.int (C.vs[j] : Nat)), ?_, rfl⟩)
      rw [psum_one hj', hl]; rfl
  · rintro ℓ' σ' ⟨u, rfl, rfl⟩
    have hsum : psum ((C.vs.take (nv C.vs).length).map fun i => (i, 1)) a = psum C.ks a := by rw [List.length_map, List.take_length, ks_plain hf]
    rw [hsum]
    refine s_nil ?_
    refine s_cons (x_if (t_cmp (e_local rfl (e_local rfl (cmp_gt (tru_bool ?_))))))
    by_cases hgt : psum C.ks a > C.b
    · rw [if_pos (by simpa using hgt)]
      refine s_cons (x_ret (e_bool (h _ _ D .refl ds ⟨fun _ _ => .refl, fun _ _ _ => rfl, fun _ _ _ q => q, nofun, fun _ => .inl ⟨by omega, hgt⟩⟩ fun _ => rfl)))
    · rw [if_neg (by simpa using hgt)]
      refine s_nil ?_
      have yes : C.holds (psum C.ks a) := by unfold Con.holds; rw [hk]; show psum C.ks a ≤ C.b; omega
      refine s_cons (x_if (t_val (e_local rfl (fc.tru O ?_))))
      cases fb with
      | false =>
        rw [if_neg Bool.false_ne_true]
        exact s_nil (s_nil (s_cons (x_ret (e_bool (h _ _ D .refl ds ⟨fun _ _ => .refl, fun _ _ _ => rfl, fun _ _ _ q => q, fun _ _ => yes, nofun⟩ fun _ => rfl)))))
      | true =>
        rw [if_pos rfl]
        refine s_cons (x_fwd O (W := W) (D := D) (a := a) (vs := C.vs) (s := psum C.ks a) (b := C.b) (mx := "maxsum") ((lo.deeper (n := 7)).mono (m := 6) (by decide)) rfl rfl rfl rfl rfl rfl rfl rfl rfl (by decide) (by decide) (by decide) rfl rfl rfl rfl rfl rfl sp ds sm hvs e1 n1 e2 e3 rfl rfl rfl rfl rfl ?_)
        intro u1 u2 u3 σ' D' f kp dm hid same hfl
        have hid2 : ∀ i, i < W.n → Hid (fun v => C.kind ≠ 2 ∧ look a i = none ∧ ∃ f, (i, f) ∈ C.ks ∧ psum C.ks a + v * f > C.b) (D i) (D' i) := fun i hi => (hid i hi).mono fun v ⟨q1, q2, q3⟩ => ⟨by omega, q1, 1, by rw [ks_plain hf]; exact List.mem_map.mpr ⟨i, q2, rfl⟩, by omega⟩
        rcases hfl with ⟨rfl, hnz⟩ | ⟨rfl, i, him, hi, hl, hx⟩
        · refine s_nil (s_nil (s_cons (x_ret (e_bool (h _ _ D' kp dm ⟨hid2, same, fun _ => hnz, fun _ _ => yes, nofun⟩ nofun)))))
        · exact h _ _ D' kp dm ⟨hid2, same, nofun, nofun, fun _ => .inr (.inl ⟨i, him, hi, hl, hx⟩)⟩ nofun
end Mine
set_option maxHeartbeats 200000
namespace Mine
variable {w : World} {h0 : Heap} {A : Around} {σ σ' σ'' : St} {ℓ : Loc}
theorem exact_call0 (O : (BB w h0).Ok) {W : Wd} {D : Nat → Dm} {a : Asg} {C : Con} {c cx ml vl dd ad : Addr} {nd na : Nat} {x : AV} {fb : Bool} {Q : AV → St → Prop} (lo : Lo 8 A) (hk : C.kind = 1) (hf : C.fs = [])
    (sp : W.Sep) (ds : Doms σ W D) (sm : Sm W D) (hvs : ∀ i ∈ C.vs, i < W.n) (ca : ConAt σ C c cx ml) (e1 : σ.m vl = some (.list (nv C.vs))) (n1 : ¬ W.dyn vl) (e2 : σ.m dd = some (.dict (esD W) nd)) (e3 : σ.m ad = some (.dict (esOf a) na)) (fc : FcIs σ x fb)
    (h : ∀ r σ' D', Kp W.dyn σ σ' → Doms σ' W D' → CallPost W C a D D' r → (fb = false → D' = D) → Q (.bool r) σ') : Cc (BB w h0) A (.ref 442) [.ref c, .ref vl, .ref dd, .ref ad, x] σ Q := by
  obtain ⟨o1, o2, o3⟩ := ca
  rw [hk] at o1
  have hm := conNs_m (C := C) (ml := ml)
  rw [if_pos hf] at hm
  refine fn_code O (k := 7) (n := 5) (ps := ["self", "variables", "domains", "assignments", "forwardcheck"]) (ds := []) (rest := ["multipliers", "exactsum", "sum", "missing", "variable", "multiplier", "domain", "value"]) lo rfl rfl rfl (fun s g X => kp_binds X fun _ => rfl) rfl rfl (by decide) (by decide) (by decide) ?_
  intro L hL
  refine s_cons (x_assign (e_attr (e_local rfl (att_own O o1 o2 hm (a_local ?_) rfl rfl (ga445 _) (at445_multipliers _)))))
  rw [upd_frm (i := 5) rfl (by simp)]
  refine s_cons (x_assign (e_attr (e_local rfl (att_own O o1 o2 (conNs_b1 hk) (a_local ?_) rfl rfl (ga445 _) (at445_exactsum _)))))
  rw [upd_frm (i := 6) rfl (by simp)]
  refine s_cons (x_assign (e_int (a_local ?_)))
  rw [upd_frm (i := 7) rfl (by simp)]
  refine s_cons (x_assign (e_bool (a_local ?_)))
  rw [upd_frm (i := 8) rfl (by simp)]
  refine s_cons (x_if (t_val (e_local rfl (tru_none ?_))))
  rw [if_neg Bool.false_ne_true]
  refine s_cons (x_for (e_local rfl ?_))
  refine ⟨_, _, _, fun j ℓ' σ' => ∃ u, ℓ' = frm ["self", "variables", "domains", "assignments", "forwardcheck", "multipliers", "exactsum", "sum", "missing", "variable", "multiplier", "domain", "value"] [some (.ref c), some (.ref vl), some (.ref dd), some (.ref ad), some x, some .none, some (.int C.b), some (.int (psum ((C.vs.take j).map fun i => (i, 1)) a)), some (.bool ((C.vs.take j).any fun i => (look a i).isNone)), u, none, none, none] ∧ σ' = σ, it_list lo.hh e1, ⟨none, rfl, rfl⟩, ?_, ?_, ?_⟩
  · rintro _ _ _ ⟨_, _, rfl⟩; exact e1
  · rintro j v ℓ' σ' hj hv ⟨u, rfl, rfl⟩
    obtain ⟨hj', rfl⟩ := nv_get hv
    have hany : ((C.vs.take (j + 1)).any fun i => (look a i).isNone) = (((C.vs.take j).any fun i => (look a i).isNone) || (look a C.vs[j]).isNone) := by
      rw [List.take_succ_eq_append_getElem hj', List.any_append]; simp
    refine a_local ?_
    rw [upd_frm (i := 9) rfl (by simp)]
    refine s_cons (x_if (t_cmp (e_local rfl (e_local rfl (cmp_in_dict e3 (tru_bool ?_))))))
    rw [dget_look]
    cases hl : look a C.vs[j] with
    | none =>
      rw [if_neg (by simp)]
      refine s_cons (x_assign (e_bool (a_local ?_)))
      rw [upd_frm (i := 8) rfl (by simp)]
      refine s_nil (s_nil ⟨some (.int (C.vs[j] : Nat)), ?_, rfl⟩)
      rw [psum_one hj', hany, hl, Option.getD_none, Int.add_zero, Option.isNone_none, Bool.or_true]; rfl
    | some y =>
      rw [if_pos (by simp)]
      refine s_cons (x_aug_local rfl (e_sub (e_local rfl (e_local rfl ⟨gp_of O e3 rfl, gi_dict e3 (v := .int y) (by rw [dget_look, hl]; rfl) (ibin_add ?_)⟩))))
      rw [upd_frm (i := 7) rfl (by simp)]
      refine s_nil (s_nil ⟨some (.int (C.vs[j] : Nat)), ?_, rfl⟩)
      rw [psum_one hj', hany, hl, Option.isNone_some, Bool.or_false]; rfl
  · rintro ℓ' σ' ⟨u, rfl, rfl⟩
    have hsum : psum ((C.vs.take (nv C.vs).length).map fun i => (i, 1)) a = psum C.ks a := by rw [List.length_map, List.take_length, ks_plain hf]
    have hmis : C.vs.take (nv C.vs).length = C.vs := by rw [List.length_map, List.take_length]
    rw [hsum, hmis]
    refine s_nil ?_
    refine s_cons (x_if (t_cmp (e_local rfl (e_local rfl (cmp_gt (tru_bool ?_))))))
    by_cases hgt : psum C.ks a > C.b
    · rw [if_pos (by simpa using hgt)]
      refine s_cons (x_ret (e_bool (h _ _ D .refl ds ⟨fun _ _ => .refl, fun _ _ _ => rfl, fun _ _ _ q => q, nofun, fun _ => .inl ⟨by omega, hgt⟩⟩ fun _ => rfl)))
    · rw [if_neg (by simpa using hgt)]
      refine s_nil ?_
      have hall : (C.vs.any fun i => (look a i).isNone) = false → ∀ i ∈ C.vs, look a i ≠ none := fun q i hi hl => by
        have := List.any_eq_false.mp q i hi
        rw [hl] at this; exact this rfl
      have hallk : (C.vs.any fun i => (look a i).isNone) = false → ∀ p ∈ C.ks, look a p.1 ≠ none := fun q p hp => by
        rw [ks_plain hf] at hp
        obtain ⟨i, hi, rfl⟩ := List.mem_map.mp hp
        exact hall q i hi
      have hsome : (C.vs.any fun i => (look a i).isNone) = true → ¬ ∀ i ∈ C.vs, look a i ≠ none := fun q k => by
        obtain ⟨i, hi, e⟩ := List.any_eq_true.mp q
        exact k i hi (Option.isNone_iff_eq_none.mp e)
      -- the end, whatever the frame
      have fin : ∀ {ℓ₂ : Loc} {σ₂ : St} {D₂ : Nat → Dm} {A₂ : Around} {env : Env} {p1 p2 p3 p4 p5 p6 p7 p8 p9 p10 : Pos}, env.scope.kind = .function → env.kindOf "missing" = some .local → env.kindOf "sum" = some .local → env.kindOf "exactsum" = some .local → ℓ₂ "missing" = some (.bool (C.vs.any fun i => (look a i).isNone)) → ℓ₂ "sum" = some (.int (psum C.ks a)) → ℓ₂ "exactsum" = some (.int C.b) → Kp W.dyn σ' σ₂ → Doms σ₂ W D₂ →
          (∀ i, i < W.n → Hid (fun v => C.kind ≠ 2 ∧ look a i = none ∧ ∃ f, (i, f) ∈ C.ks ∧ psum C.ks a + v * f > C.b) (D i) (D₂ i)) → (∀ i, i < W.n → look a i ≠ none → D₂ i = D i) → (fb = false → D₂ = D) → (∀ i, i < W.n → (D i).xs ≠ [] → (D₂ i).xs ≠ []) →
          Ts (BB w h0) A₂ env [.If (.Name "missing" p1) [.Return (some (.Compare (.Name "sum" p2) [.LtE] [.Name "exactsum" p3] p4)) p5] [.Return (some (.Compare (.Name "sum" p6) [.Eq] [.Name "exactsum" p7] p8)) p9] p10] ℓ₂ σ₂ fun fl _ σ' => Q (retOf fl) σ' := by
        intro ℓ₂ σ₂ D₂ A₂ env p1 p2 p3 p4 p5 p6 p7 p8 p9 p10 k0 k1 k2 k3 m1 m2 m3 kp dm hid same hfb hnz
        refine s_cons (x_if (t_val (e_local m1 (tru_bool ?_) k0 k1 rfl)))
        cases hmi : C.vs.any fun i => (look a i).isNone with
        | true =>
          rw [if_pos rfl]
          refine s_cons (x_ret (e_cmp (e_local m2 (e_local m3 (cmp_le (h _ _ D₂ kp dm ⟨hid, same, fun _ => hnz, fun _ q => absurd q (hsome hmi), fun q => .inl ⟨by omega, by simpa using q⟩⟩ hfb)) k0 k3 rfl) k0 k2 rfl)))
        | false =>
          rw [if_neg Bool.false_ne_true]
          refine s_cons (x_ret (e_cmp (e_local m2 (e_local m3 (cmp_eq (h _ _ D₂ kp dm ⟨hid, same, fun _ => hnz, fun q _ => ?_, fun q => .inr (.inr ⟨hallk hmi, ?_⟩)⟩ hfb)) k0 k3 rfl) k0 k2 rfl)))
          · unfold Con.holds; rw [hk]; exact beq_iff_eq.mp q
          · unfold Con.holds; rw [hk]; exact fun e => by rw [beq_eq_false_iff_ne] at q; exact q e
      refine s_cons (x_if (t_and (t_val (e_local rfl (fc.tru O ?_)))))
      cases fb with
      | false =>
        rw [if_neg Bool.false_ne_true, if_neg Bool.false_ne_true]
        exact s_nil (s_nil (fin rfl rfl rfl rfl rfl rfl rfl .refl ds (fun _ _ => .refl) (fun _ _ _ => rfl) (fun _ => rfl) fun _ _ q => q))
      | true =>
        rw [if_pos rfl]
        refine t_val (e_local rfl (tru_bool ?_))
        cases hmi : C.vs.any fun i => (look a i).isNone with
        | false =>
          rw [if_neg Bool.false_ne_true]
          exact s_nil (s_nil (fin rfl rfl rfl rfl (by rw [hmi]; rfl) rfl rfl .refl ds (fun _ _ => .refl) (fun _ _ _ => rfl) nofun fun _ _ q => q))
        | true =>
          rw [if_pos rfl]
          refine s_cons (x_fwd O (W := W) (D := D) (a := a) (vs := C.vs) (s := psum C.ks a) (b := C.b) (mx := "exactsum") ((lo.deeper (n := 7)).mono (m := 6) (by decide)) rfl rfl rfl rfl rfl rfl rfl rfl rfl (by decide) (by decide) (by decide) rfl rfl rfl rfl rfl rfl sp ds sm hvs e1 n1 e2 e3 rfl rfl rfl rfl rfl ?_)
          intro u1 u2 u3 σ₂ D' f kp dm hid same hfl
          have hid2 : ∀ i, i < W.n → Hid (fun v => C.kind ≠ 2 ∧ look a i = none ∧ ∃ f, (i, f) ∈ C.ks ∧ psum C.ks a + v * f > C.b) (D i) (D' i) := fun i hi => (hid i hi).mono fun v ⟨q1, q2, q3⟩ => ⟨by omega, q1, 1, by rw [ks_plain hf]; exact List.mem_map.mpr ⟨i, q2, rfl⟩, by omega⟩
          rcases hfl with ⟨rfl, hnz⟩ | ⟨rfl, i, him, hi, hl, hx⟩
          · exact s_nil (s_nil (fin rfl rfl rfl rfl ((set3_other (by decide) (by decide) (by decide)).trans (by rw [hmi]; rfl)) ((set3_other (by decide) (by decide) (by decide)).trans rfl) ((set3_other (by decide) (by decide) (by decide)).trans rfl) kp dm hid2 same nofun hnz))
          · exact h _ _ D' kp dm ⟨hid2, same, nofun, nofun, fun _ => .inr (.inl ⟨i, him, hi, hl, hx⟩)⟩ nofun
theorem min_call0 (O : (BB w h0).Ok) {W : Wd} {D : Nat → Dm} {a : Asg} {C : Con} {c cx ml vl dd ad : Addr} {nd na : Nat} {x : AV} {fb : Bool} {Q : AV → St → Prop} (lo : Lo 8 A) (hk : C.kind = 2) (hf : C.fs = [])
    (ds : Doms σ W D) (ca : ConAt σ C c cx ml) (e1 : σ.m vl = some (.list (nv C.vs))) (e3 : σ.m ad = some (.dict (esOf a) na))
    (h : ∀ r σ' D', Kp W.dyn σ σ' → Doms σ' W D' → CallPost W C a D D' r → (fb = false → D' = D) → Q (.bool r) σ') : Cc (BB w h0) A (.ref 470) [.ref c, .ref vl, .ref dd, .ref ad, x] σ Q := by
  obtain ⟨o1, o2, o3⟩ := ca
  rw [hk] at o1
  have hm := conNs_m (C := C) (ml := ml)
  rw [if_pos hf] at hm
  refine fn_code O (k := 7) (n := 5) (ps := ["self", "variables", "domains", "assignments", "forwardcheck"]) (ds := []) (rest := ["variable", "multipliers", "minsum", "sum", "multiplier"]) lo rfl rfl rfl (fun s g X => kp_binds X fun _ => rfl) rfl rfl (by decide) (by decide) (by decide) ?_
  intro L hL
  refine s_cons (x_for (e_local rfl ?_))
  refine ⟨_, _, _, fun j ℓ' σ' => ∃ u, ℓ' = frm ["self", "variables", "domains", "assignments", "forwardcheck", "variable", "multipliers", "minsum", "sum", "multiplier"] [some (.ref c), some (.ref vl), some (.ref dd), some (.ref ad), some x, u, none, none, none, none] ∧ σ' = σ ∧ ∀ i ∈ C.vs.take j, look a i ≠ none, it_list lo.hh e1, ⟨none, rfl, rfl, by simp⟩, ?_, ?_, ?_⟩
  · rintro _ _ _ ⟨_, _, rfl, _⟩; exact e1
  · rintro j v ℓ' σ' hj hv ⟨u, rfl, rfl, hall⟩
    obtain ⟨hj', rfl⟩ := nv_get hv
    refine a_local ?_
    rw [upd_frm (i := 5) rfl (by simp)]
    refine s_cons (x_if (t_cmp (e_local rfl (e_local rfl (cmp_notin_dict e3 (tru_bool ?_))))))
    rw [dget_look]
    cases hl : look a C.vs[j] with
    | none =>
      rw [if_pos (by simp)]
      exact s_cons (x_ret (e_bool (h _ _ D .refl ds ⟨fun _ _ => .refl, fun _ _ _ => rfl, fun _ _ _ q => q, fun _ q => absurd hl (q _ (List.getElem_mem hj')), nofun⟩ fun _ => rfl)))
    | some y =>
      rw [if_neg (by simp)]
      refine s_nil (s_nil ⟨some (.int (C.vs[j] : Nat)), rfl, rfl, fun i hi => ?_⟩)
      rw [List.take_succ_eq_append_getElem hj'] at hi
      rcases List.mem_append.mp hi with q | q
      · exact hall i q
      · obtain rfl := List.mem_singleton.mp q
        rw [hl]; exact nofun
  · rintro ℓ' σ' ⟨u, rfl, rfl, hall⟩
    rw [List.length_map, List.take_length] at hall
    refine s_cons (x_assign (e_attr (e_local rfl (att_own O o1 o2 hm (a_local ?_) rfl rfl (ga473 _) (at473_multipliers _)))))
    rw [upd_frm (i := 6) rfl (by simp)]
    refine s_cons (x_assign (e_attr (e_local rfl (att_own O o1 o2 (conNs_b2 hk) (a_local ?_) rfl rfl (ga473 _) (at473_minsum _)))))
    rw [upd_frm (i := 7) rfl (by simp)]
    refine s_cons (x_assign (e_int (a_local ?_)))
    rw [upd_frm (i := 8) rfl (by simp)]
    refine s_cons (x_if (t_val (e_local rfl (tru_none ?_))))
    rw [if_neg Bool.false_ne_true]
    refine s_cons (x_for (e_local rfl ?_))
    refine ⟨_, _, _, fun j ℓ' σ'' => ∃ u, ℓ' = frm ["self", "variables", "domains", "assignments", "forwardcheck", "variable", "multipliers", "minsum", "sum", "multiplier"] [some (.ref c), some (.ref vl), some (.ref dd), some (.ref ad), some x, u, some .none, some (.int C.b), some (.int (psum ((C.vs.take j).map fun i => (i, 1)) a)), none] ∧ σ'' = σ', it_list lo.hh e1, ⟨_, rfl, rfl⟩, ?_, ?_, ?_⟩
    · rintro _ _ _ ⟨_, _, rfl⟩; exact e1
    · rintro j v ℓ' σ'' hj hv ⟨u, rfl, rfl⟩
      obtain ⟨hj', rfl⟩ := nv_get hv
      refine a_local ?_
      rw [upd_frm (i := 5) rfl (by simp)]
      obtain ⟨y, hl⟩ := Option.ne_none_iff_exists'.mp (hall _ (List.getElem_mem hj'))
      refine s_cons (x_aug_local rfl (e_sub (e_local rfl (e_local rfl ⟨gp_of O e3 rfl, gi_dict e3 (v := .int y) (by rw [dget_look, hl]; rfl) (ibin_add ?_)⟩))))
      rw [upd_frm (i := 8) rfl (by simp)]
      refine s_nil ⟨some (.int (C.vs[j] : Nat)), ?_, rfl⟩
      rw [psum_one hj', hl]; rfl
    · rintro ℓ' σ'' ⟨u, rfl, rfl⟩
      have hsum : psum ((C.vs.take (nv C.vs).length).map fun i => (i, 1)) a = psum C.ks a := by rw [List.length_map, List.take_length, ks_plain hf]
      rw [hsum]
      refine s_nil (s_nil (s_cons (x_ret (e_cmp (e_local rfl (e_local rfl (cmp_ge (h _ _ D .refl ds ⟨fun _ _ => .refl, fun _ _ _ => rfl, fun _ _ _ q => q, fun q _ => ?_, fun q => .inr (.inr ⟨?_, ?_⟩)⟩ fun _ => rfl))))))))
      · unfold Con.holds; rw [hk]; show C.b ≤ psum C.ks a; exact of_decide_eq_true q
      · rw [ks_plain hf]; intro p hp; obtain ⟨i, hi, rfl⟩ := List.mem_map.mp hp; exact hall i hi
      · unfold Con.holds; rw [hk]; show ¬ C.b ≤ psum C.ks a; exact of_decide_eq_false q
end Mine
set_option maxHeartbeats 200000
namespace Mine
variable {w : World} {h0 : Heap} {A : Around} {σ σ' σ'' : St} {ℓ : Loc}
/-- the constraints that the walk covers -/
def GoodCon (C : Con) : Prop := C.kind ≤ 2 ∧ C.fs = []
theorem con_call (O : (BB w h0).Ok) {W : Wd} {D : Nat → Dm} {a : Asg} {C : Con} {c cx ml vl dd ad : Addr} {nd na : Nat} {x : AV} {fb : Bool} {Q : AV → St → Prop} (lo : Lo 8 A) (hg : GoodCon C)
    (sp : W.Sep) (ds : Doms σ W D) (sm : Sm W D) (hvs : ∀ i ∈ C.vs, i < W.n) (ca : ConAt σ C c cx ml) (e1 : σ.m vl = some (.list (nv C.vs))) (n1 : ¬ W.dyn vl) (e2 : σ.m dd = some (.dict (esD W) nd)) (e3 : σ.m ad = some (.dict (esOf a) na)) (fc : FcIs σ x fb)
    (h : ∀ r σ' D', Kp W.dyn σ σ' → Doms σ' W D' → CallPost W C a D D' r → (fb = false → D' = D) → Q (.bool r) σ') : Cc (BB w h0) A (.ref c) [.ref vl, .ref dd, .ref ad, x] σ Q := by
  obtain ⟨hk, hf⟩ := hg
  have o := ca.obj
  match hk' : C.kind, hk with
  | 0, _ =>
    rw [hk'] at o
    exact obj_code O o (max_call0 O lo hk' hf sp ds sm hvs ca e1 n1 e2 e3 fc h) (m410___call__ _) rfl (ty407 _)
  | 1, _ =>
    rw [hk'] at o
    exact obj_code O o (exact_call0 O lo hk' hf sp ds sm hvs ca e1 n1 e2 e3 fc h) (m445___call__ _) rfl (ty442 _)
  | 2, _ =>
    rw [hk'] at o
    exact obj_code O o (min_call0 O (nd := nd) lo hk' hf ds ca e1 e3 h) (m473___call__ _) rfl (ty470 _)
  | k + 3, h3 => omega

theorem x_rem (O : (BB w h0).Ok) {env : Env} {test : PySem.Expr} {W : Wd} {D : Nat → Dm} {i : Nat} {Rr : Int → Bool → Prop} {Q : AF → Loc → St → Prop} {p1 p2 p3 p4 p5 p6 p7 p8 p9 p10 p11 : Pos} (lo : Lo 6 A) (hk : env.scope.kind = .function) (kd : env.kindOf "domain" = some .local) (kv : env.kindOf "value" = some .local)
    (hline : (p6.endLine == p8.line) = true) (hint : interactive env = false) (hsw : swapsWith (.Call (.Attribute (.Name "domain" p5) "remove" p6) [.Name "value" p7] [] p8) none p9.line env = pure false)
    (sp : W.Sep) (hi : i < W.n) (ds : Doms σ W D) (sm : Sm W D) (nd : (D i).xs.Nodup) (hdom : ℓ "domain" = some (.ref (W.d i)))
    (ht : ∀ v σ' D', Kp W.dyn σ σ' → Doms σ' W D' → Sm W D' → Tt (BB w h0) A env test (setL ℓ "value" (some (.int v))) σ' fun b σ'' => Rr v b ∧ Kp W.dyn σ' σ'' ∧ Doms σ'' W D')
    (h : ∀ u σ' ys, Kp W.dyn σ σ' → Doms σ' W (setD D i ⟨ys, (D i).hid, (D i).ss⟩) → ys.Sublist (D i).xs → (∀ v ∈ ys, Rr v false) → (∀ v ∈ (D i).xs, v ∉ ys → Rr v true) → Q .next (setL ℓ "value" u) σ') :
    Tx (BB w h0) A env (.For (.Name "value" p1) (.Subscript (.Name "domain" p2) (.Slice none none none p3) p4) [.If test [.Expr (.Call (.Attribute (.Name "domain" p5) "remove" p6) [.Name "value" p7] [] p8) p9] [] p10] [] p11) ℓ σ Q := by
  have dv : ∀ u, setL ℓ "value" u "domain" = some (.ref (W.d i)) := fun u => (setL_other (by decide)).trans hdom
  have sz := sm i hi
  refine x_for (e_slice O (a := W.d i) (xs := iv (D i).xs) (lo := none) (hi := none) (st := none) (IsSq.dom 303 (W.dx i)) (e_local hdom (tp_none (tp_none (tp_none ⟨rfl, (ds i hi).obj, .none, .none, .none, le_line (by simp; omega), fun b hb => ?_⟩))) hk kd rfl) (by decide) (sk303 _) (gi303 _) (sub303 _))
  rw [apick_all]
  have ndb : ¬ W.dyn b := fun q => ds.live q hb
  refine ⟨_, _, _, fun j ℓ' σ' => ∃ u ys, ℓ' = setL ℓ "value" u ∧ σ'.m b = some (.list (iv (D i).xs)) ∧ Kp W.dyn σ σ' ∧ Doms σ' W (setD D i ⟨ys ++ (D i).xs.drop j, (D i).hid, (D i).ss⟩) ∧ ys.Sublist ((D i).xs.take j) ∧ (∀ v ∈ ys, Rr v false) ∧ (∀ v ∈ (D i).xs.take j, v ∉ ys → Rr v true), it_list lo.hh (put_same ..), ⟨ℓ "value", [], setL_self.symm, put_same .., Kp.refl.put (.inr hb), ?_, by simp, by simp, by simp⟩, fun _ _ _ ⟨_, _, _, e, _⟩ => e, ?_, ?_⟩
  · have : setD D i ⟨[] ++ (D i).xs.drop 0, (D i).hid, (D i).ss⟩ = D := by funext j; unfold setD; split <;> simp_all
    rw [this]; exact ds.new hb
  · rintro j v ℓ' σ' hj hv ⟨u, ys, rfl, eb, kp, dm, sub, ok, bad⟩
    obtain ⟨hj', rfl⟩ := iv_get hv
    have hys : ys.length ≤ j := Nat.le_trans sub.length_le (by simp; omega)
    have sm' : Sm W (setD D i ⟨ys ++ (D i).xs.drop j, (D i).hid, (D i).ss⟩) := fun k hk => by
      by_cases q : k = i
      · subst q; rw [setD_same]; dsimp only
        exact ⟨by simp only [List.length_append, List.length_drop]; omega, sz.2⟩
      · rw [setD_other q]; exact sm k hk
    refine a_local ?_ hk kv
    rw [upd_setL]
    refine s_cons (x_if (Tt.mono (ht _ _ _ kp dm sm') ?_))
    rintro c σ'' ⟨hr, kp2, dm2⟩
    have tk : (D i).xs.take (j + 1) = (D i).xs.take j ++ [(D i).xs[j]] := List.take_succ_eq_append_getElem hj'
    split
    · rename_i hc
      subst hc
      have hni : (D i).xs[j] ∉ ys := fun q => by
        have h1 : (D i).xs[j] ∈ (D i).xs.take j := sub.subset q
        have nd2 := nd
        rw [← List.take_append_drop j (D i).xs] at nd2
        exact (List.nodup_append.mp nd2).2.2 _ h1 _ (by rw [List.drop_eq_getElem_cons hj']; exact List.mem_cons_self ..) rfl
      have di : DomI σ'' W i ⟨ys ++ (D i).xs.drop j, (D i).hid, (D i).ss⟩ := by have := dm2 i hi; rwa [setD_same] at this
      have e0 : iv (ys ++ (D i).xs.drop j) = ys.map AV.int ++ AV.int (D i).xs[j] :: ((D i).xs.drop (j + 1)).map AV.int := by
        show (ys ++ (D i).xs.drop j).map AV.int = _
        rw [List.drop_eq_getElem_cons hj', List.map_append, List.map_cons]
      refine s_cons (x_expr (e_meth (e_local (dv _) (fun pl => m303 O di (m303_remove _) (t := .type "method_descriptor") rfl (by decide) rfl ?_) hk kd rfl) rfl rfl rfl hline) hint hsw)
      refine es_cons (e_local setL_same (es_nil ⟨kee_bi, c_remove O (IsSq.dom 303 _) di.obj (le_line (by simp only [List.length_map, List.length_append, List.length_drop]; omega)) e0 (fun z hz => ?_) eqs_eq ?_ (sub303 _)⟩) hk kv rfl)
      · obtain ⟨y, hy, rfl⟩ := List.mem_map.mp hz
        exact eqs_ne fun q => hni (q ▸ hy)
      · refine s_nil (s_nil ⟨_, ys, rfl, ?_, (kp.trans kp2).put (.inl (W.dyn_d hi)), ?_, sub.trans (by rw [tk]; exact List.sublist_append_left _ _), ok, fun v hv hn => ?_⟩)
        · have n1 : b ≠ W.d i := by rintro rfl; exact ndb (W.dyn_d hi)
          rw [put_other n1]; exact kp2.kept _ _ eb ndb
        · have e1 : ys.map AV.int ++ ((D i).xs.drop (j + 1)).map AV.int = iv (ys ++ (D i).xs.drop (j + 1)) := by simp
          rw [e1]
          have dset := dm2.set (σ' := σ''.put (W.d i) (.dom 303 (W.dx i) (iv (ys ++ (D i).xs.drop (j + 1))))) (y := ⟨ys ++ (D i).xs.drop (j + 1), (D i).hid, (D i).ss⟩) sp hi (fun b o e h1 h2 h3 => by rw [put_other h1]; exact e) di.putObj
          have : setD (setD D i ⟨ys ++ (D i).xs.drop j, (D i).hid, (D i).ss⟩) i ⟨ys ++ (D i).xs.drop (j + 1), (D i).hid, (D i).ss⟩ = setD D i ⟨ys ++ (D i).xs.drop (j + 1), (D i).hid, (D i).ss⟩ := by
            funext k; unfold setD; split <;> rfl
          rw [this] at dset
          exact dset
        · rw [tk] at hv
          rcases List.mem_append.mp hv with q | q
          · exact bad v q hn
          · obtain rfl := List.mem_singleton.mp q; exact hr
    · rename_i hc
      obtain rfl : c = false := by simpa using hc
      refine s_nil (s_nil ⟨_, ys ++ [(D i).xs[j]], rfl, kp2.kept _ _ eb ndb, kp.trans kp2, ?_, ?_, fun v hv => ?_, fun v hv hn => ?_⟩)
      · have : ys ++ [(D i).xs[j]] ++ (D i).xs.drop (j + 1) = ys ++ (D i).xs.drop j := by rw [List.drop_eq_getElem_cons hj']; simp
        rw [this]; exact dm2
      · rw [tk]; exact sub.append_right _
      · rcases List.mem_append.mp hv with q | q
        · exact ok v q
        · obtain rfl := List.mem_singleton.mp q; exact hr
      · rw [tk] at hv
        rcases List.mem_append.mp hv with q | q
        · exact bad v q fun q' => hn (List.mem_append_left _ q')
        · exact absurd (List.mem_append_right _ q) hn
  · rintro ℓ' σ' ⟨u, ys, rfl, eb, kp, dm, sub, ok, bad⟩
    rw [List.length_map] at dm sub bad
    rw [List.drop_length, List.append_nil] at dm
    rw [List.take_length] at sub bad
    exact s_nil (h u σ' ys kp dm sub ok bad)
end Mine
set_option maxHeartbeats 200000
namespace Mine
variable {w : World} {h0 : Heap} {A : Around} {σ σ' σ'' : St} {ℓ : Loc}
def BadV (C : Con) (i : Nat) (v : Int) : Prop := (C.kind ≠ 2 ∧ ∃ f, (i, f) ∈ C.ks ∧ v * f > C.b) ∨ (C.vs = [i] ∧ ¬ C.holds (psum C.ks [(i, v)]))
structure PrePost (W : Wd) (C : Con) (D D' : Nat → Dm) : Prop where
  dom : ∀ i, i < W.n → (D' i).hid = (D i).hid ∧ (D' i).ss = (D i).ss ∧ (D' i).xs.Sublist (D i).xs
  gone : ∀ i, i < W.n → ∀ v ∈ (D i).xs, v ∉ (D' i).xs → BadV C i v
  unary : ∀ k, C.vs = [k] → ∀ v ∈ (D' k).xs, C.holds (psum C.ks [(k, v)])
theorem ConAt.keep {C : Con} {c cx ml : Addr} {S : Addr → Prop} (x : ConAt σ C c cx ml) (k : Kp S σ σ') (h1 : ¬ S c) (h2 : ¬ S cx) (h3 : C.fs ≠ [] → ¬ S ml) : ConAt σ' C c cx ml := ⟨k.kept _ _ x.obj h1, k.kept _ _ x.ns h2, fun q => k.kept _ _ (x.ml q) (h3 q)⟩
theorem holds_not {C : Con} (hk : C.kind ≤ 2) {s : Int} (h : C.kind ≠ 2 ∧ s > C.b) : ¬ C.holds s := by
  unfold Con.holds
  match hk' : C.kind, hk with
  | 0, _ => show ¬ s ≤ C.b; omega
  | 1, _ => show ¬ s = C.b; omega
  | 2, _ => exact absurd hk' h.1
  | k + 3, h3 => omega
/-- where preProcess may write -/
def PreS (W : Wd) (cl : Addr) (vv : Nat → Addr) (b : Addr) : Prop := W.dyn b ∨ b = cl ∨ ∃ i, i < W.n ∧ b = vv i
structure VcAt (σ : St) (W : Wd) (vl cl vd : Addr) (vv : Nat → Addr) (nv : Nat) (cxs : List AV) (vc : Nat → List AV) : Prop where
  ecl : σ.m cl = some (.list cxs)
  evd : σ.m vd = some (.dict ((List.range W.n).map fun (i : Nat) => ((i : Int), .ref (vv i))) nv)
  evv : ∀ i, i < W.n → σ.m (vv i) = some (.list (vc i))
  ncl : ¬ W.dyn cl ∧ cl ≠ vl
  nvv : ∀ i, i < W.n → ¬ W.dyn (vv i) ∧ vv i ≠ cl ∧ vv i ≠ vl
  inj : ∀ i j, i < W.n → j < W.n → vv i = vv j → i = j
theorem cpre (O : (BB w h0).Ok) {W : Wd} {D : Nat → Dm} {C : Con} {c cx ml vl dd cl vd : Addr} {vv : Nat → Addr} {nd nv' : Nat} {cxs : List AV} {vc : Nat → List AV} {Q : AV → St → Prop} (lo : Lo 16 A) (hg : GoodCon C)
    (sp : W.Sep) (ds : Doms σ W D) (sm : Sm W D) (nod : ∀ i, i < W.n → (D i).xs.Nodup) (hvs : ∀ i ∈ C.vs, i < W.n) (hvl : C.vs.length ≤ 100) (ca : ConAt σ C c cx ml) (nml : C.fs ≠ [] → ¬ PreS W cl vv ml) (e1 : σ.m vl = some (.list (nv C.vs))) (n1 : ¬ W.dyn vl) (e2 : σ.m dd = some (.dict (esD W) nd))
    (V : VcAt σ W vl cl vd vv nv' cxs vc) (hz1 : cxs.length ≤ 100) (hz2 : ∀ i, i < W.n → (vc i).length ≤ 100)
    (h1 : C.vs.length ≠ 1 → Q .none σ)
    (h2 : ∀ k, C.vs = [k] → ∃ pre t post pre' t' post', cxs = pre ++ .ref t :: post ∧ vc k = pre' ++ .ref t' :: post' ∧ σ.m t = some (.tup [.ref c, .ref vl]) ∧ σ.m t' = some (.tup [.ref c, .ref vl]) ∧
      (∀ A' σ' b, Lo 8 A' → Kp (PreS W cl vv) σ σ' → σ'.m b = some (.tup [.ref c, .ref vl]) → ∀ z, z ∈ pre ∨ z ∈ pre' → Eqs (BB w h0) A' z (.ref b) σ' false) ∧
      ∀ σ' D', Kp (PreS W cl vv) σ σ' → Doms σ' W D' → PrePost W C D D' → σ'.m cl = some (.list (pre ++ post)) → (∀ i, i < W.n → σ'.m (vv i) = some (.list (if i = k then pre' ++ post' else vc i))) → Q .none σ') :
    Callf (BB w h0) A (.ref 336) [.ref c, .ref vl, .ref dd, .ref cl, .ref vd] σ Q := by
  refine call_fn O (k := 15) (n := 5) (ps := ["self", "variables", "domains", "constraints", "vconstraints"]) (ds := []) (rest := ["variable", "domain", "value"]) lo rfl rfl rfl (fun s g X => BindsTo.of_eq rfl) rfl rfl (by decide) (by decide) (by decide) ?_
  intro L hL
  refine s_cons (x_if (t_cmp (e_call (e_boot O (g_len _) rfl (es_cons (e_local rfl (es_nil ⟨kee_bi, c_len_sq O IsSq.list e1 (le_line (by simp; omega)) (e_int (cmp_eq (tru_bool ?_)))⟩)))))))
  rw [List.length_map]
  by_cases hl' : C.vs.length ≠ 1
  · rw [if_neg (by simp; omega)]
    exact s_nil (s_nil (h1 hl'))
  have hl : C.vs.length = 1 := by omega
  rw [if_pos (by rw [hl]; rfl)]
  obtain ⟨k, hk⟩ := List.length_eq_one_iff.mp hl
  obtain ⟨pre, t, post, pre', t', post', x1, x2, x3, x4, x5, x6⟩ := h2 k hk
  have hkn : k < W.n := hvs k (by rw [hk]; simp)
  refine s_cons (x_assign (e_sub (e_local rfl (e_int ⟨gp_of O e1 rfl, gi_list e1 (by decide) (le_line (by simp; omega)) (v := .int (k : Nat)) (by rw [hk]; rfl) (a_local ?_)⟩))))
  rw [upd_frm (i := 5) rfl (by simp)]
  refine s_cons (x_assign (e_sub (e_local rfl (e_local rfl ⟨gp_of O e2 rfl, gi_dict e2 (dget_esD hkn) (a_local ?_)⟩))))
  rw [upd_frm (i := 6) rfl (by simp)]
  have nd2 := ds.not_dyn e2 nofun nofun
  have nc := ds.not_dyn ca.obj nofun nofun
  have ncx := ds.not_dyn ca.ns nofun nofun
  refine s_cons (x_rem O (i := k) (Rr := fun v b => if b = true then ¬ C.holds (psum C.ks [(k, v)]) else C.holds (psum C.ks [(k, v)])) ((lo.deeper (n := 15)).mono (by decide)) rfl rfl rfl rfl rfl rfl sp hkn ds sm (nod k hkn) rfl (fun v σ' D' kp dm sm' => ?_) (fun u σ' ys kp dm sub ok bad => ?_))
  · -- the test
    have ca' := ca.keep kp nc ncx fun q n => nml q (.inl n)
    refine t_not (t_val (e_call (e_local rfl ?_)))
    refine es_cons (e_local rfl (es_cons (e_local rfl (es_cons (e_dict1 (e_local rfl (e_local rfl ⟨_, rfl, fun a n ha => ?_⟩))) ))))
    refine es_cons (e_bool (es_nil ⟨kee_inst (put_fresh ha ca'.obj), ?_⟩))
    have k2 : Kp W.dyn σ' (σ'.put a (.dict (esOf [(k, v)]) n)) := Kp.refl.put (.inr ha)
    refine (con_call O (W := W) (D := D') (a := [(k, v)]) (C := C) (cx := cx) (ml := ml) (fb := false) ((lo.deeper (n := 15)).mono (by decide)) hg sp (dm.new ha) sm' hvs (ca'.keep k2 (dm.not_dyn ca'.obj nofun nofun) (dm.not_dyn ca'.ns nofun nofun) fun q n => nml q (.inl n)) (put_fresh ha (kp.kept _ _ e1 n1)) n1 (put_fresh ha (kp.kept _ _ e2 nd2)) (put_same ..) .no ?_).callf
    intro r σ₂ D₂ kp2 dm2 post hfb
    obtain rfl := hfb rfl
    refine tru_bool ⟨?_, k2.trans kp2, dm2⟩
    have hlk : look [(k, v)] k = some v := by simp [look]
    cases r with
    | true => exact post.yes rfl fun i hi => by rw [hk] at hi; obtain rfl := List.mem_singleton.mp hi; rw [hlk]; exact nofun
    | false =>
      show ¬ C.holds _
      rcases post.no rfl with q | ⟨i, hi, _, q, _⟩ | ⟨_, q⟩
      · exact holds_not hg.1 q
      · rw [hk] at hi; obtain rfl := List.mem_singleton.mp hi; rw [hlk] at q; cases q
      · exact q
  · rw [setL_frm (i := 7) rfl (by simp)]
    have ecl : σ'.m cl = some (.list cxs) := kp.kept _ _ V.ecl V.ncl.1
    have evd : σ'.m vd = some (.dict ((List.range W.n).map fun (i : Nat) => ((i : Int), .ref (vv i))) nv') := kp.kept _ _ V.evd (ds.not_dyn V.evd nofun nofun)
    have evv : ∀ i, i < W.n → σ'.m (vv i) = some (.list (vc i)) := fun i hi => kp.kept _ _ (V.evv i hi) (V.nvv i hi).1
    have et : σ'.m t = some (.tup [.ref c, .ref vl]) := kp.kept _ _ x3 (ds.not_dyn x3 nofun nofun)
    have et' : σ'.m t' = some (.tup [.ref c, .ref vl]) := kp.kept _ _ x4 (ds.not_dyn x4 nofun nofun)
    have kp' : Kp (PreS W cl vv) σ σ' := kp.mono fun b q => .inl q
    refine s_cons (x_expr (e_meth (e_local rfl fun pl => ml_remove O ecl ?_)))
    refine es_cons (e_tuple (es_cons (e_local rfl (es_cons (e_local rfl (es_nil ⟨le_line (show 2 ≤ 10000 by decide), fun b hb => ?_⟩)))))) 
    have nbt : ∀ {x : Addr} {o : AObj}, σ'.m x = some o → x ≠ b := fun e q => by rw [← q, e] at hb; cases hb
    refine es_nil ⟨kee_bi, c_remove O IsSq.list (put_fresh hb ecl) (le_line (by omega)) x1 (fun z hz => x5 _ _ _ ((((lo.deeper (n := 15)).mono (m := 9) (by decide))).in1) (kp'.put (.inr hb)) (put_same ..) z (.inl hz)) (eqs_tup_same (((lo.deeper (n := 15)).mono (m := 2) (by decide)).in1) (nbt et) (put_fresh hb et) (put_same ..)) ?_⟩
    have kp1 : Kp (PreS W cl vv) σ ((σ'.put b (.tup [.ref c, .ref vl])).put cl (.list (pre ++ post))) := (kp'.put (.inr hb)).put (.inl (.inr (.inl rfl)))
    have g1 : ∀ {x : Addr} {o : AObj}, σ'.m x = some o → x ≠ cl → ((σ'.put b (.tup [.ref c, .ref vl])).put cl (.list (pre ++ post))).m x = some o := fun e q => by rw [put_other q]; exact put_fresh hb e
    have ncl : ∀ {x : Addr} {o : AObj}, σ'.m x = some o → (∀ xs, o ≠ .list xs) → x ≠ cl := fun e q1 q => by rw [q, ecl] at e; cases e; exact q1 _ rfl
    have evd1 := g1 evd (ncl evd nofun)
    have hvk := g1 (evv k hkn) (V.nvv k hkn).2.1
    refine s_cons (x_expr (e_meth (e_sub (e_local rfl (e_local rfl ⟨gp_of O evd1 rfl, gi_dict evd1 (dget_range (f := fun i => .ref (vv i)) hkn) fun pl => ml_remove O hvk ?_⟩)))))
    refine es_cons (e_tuple (es_cons (e_local rfl (es_cons (e_local rfl (es_nil ⟨le_line (show 2 ≤ 10000 by decide), fun b2 hb2 => ?_⟩)))))) 
    have nbt2 : t' ≠ b2 := by rintro rfl; rw [g1 et' (ncl et' nofun)] at hb2; cases hb2
    refine es_nil ⟨kee_bi, c_remove O IsSq.list (put_fresh hb2 hvk) (le_line (by have := hz2 k hkn; omega)) x2 (fun z hz => x5 _ _ _ ((((lo.deeper (n := 15)).mono (m := 9) (by decide))).in1) (kp1.put (.inr hb2)) (put_same ..) z (.inr hz)) (eqs_tup_same (((lo.deeper (n := 15)).mono (m := 2) (by decide)).in1) nbt2 (put_fresh hb2 (g1 et' (ncl et' nofun))) (put_same ..)) ?_⟩
    refine s_nil (s_nil ?_)
    have dm1 : Doms ((((σ'.put b (.tup [.ref c, .ref vl])).put cl (.list (pre ++ post))).put b2 (.tup [.ref c, .ref vl])).put (vv k) (.list (pre' ++ post'))) W (setD D k ⟨ys, (D k).hid, (D k).ss⟩) := by
      have far : ∀ x : Addr, ¬ W.dyn x → (∀ i, i < W.n → x ≠ W.dx i) → ∀ i, i < W.n → x ≠ W.d i ∧ x ≠ W.dx i ∧ x ≠ W.hd i ∧ x ≠ W.st i := fun x nx q i hi => ⟨fun e => nx (e ▸ W.dyn_d hi), q i hi, fun e => nx (e ▸ W.dyn_h hi), fun e => nx (e ▸ W.dyn_t hi)⟩
      have dm1 := (dm.new (o := .tup [.ref c, .ref vl]) hb).put (o := .list (pre ++ post)) (far cl V.ncl.1 fun i hi e => by have := (dm i hi).ns; rw [← e, ecl] at this; cases this)
      exact (dm1.new hb2).put (far (vv k) (V.nvv k hkn).1 fun i hi e => by have := (dm i hi).ns; rw [← e, evv k hkn] at this; cases this)
    refine x6 _ _ ((kp1.put (.inr hb2)).put (.inl (.inr (.inr ⟨k, hkn, rfl⟩)))) dm1 ⟨fun i hi => ?_, fun i hi v hv hn => ?_, fun j hj v hv => ?_⟩ ?_ (fun i hi => ?_)
    · by_cases q : i = k
      · subst q; rw [setD_same]; exact ⟨rfl, rfl, sub⟩
      · rw [setD_other q]; exact ⟨rfl, rfl, .refl _⟩
    · by_cases q : i = k
      · subst q; rw [setD_same] at hn; exact .inr ⟨hk, by have := bad v hv hn; simpa using this⟩
      · rw [setD_other q] at hn; exact absurd hv hn
    · obtain rfl : k = j := by rw [hk] at hj; simpa using hj
      rw [setD_same] at hv
      have := ok v hv; simpa using this
    · have n1 : cl ≠ vv k := (V.nvv k hkn).2.1.symm
      have n2 : cl ≠ b2 := by rintro rfl; rw [put_same] at hb2; cases hb2
      rw [put_other n1, put_other n2, put_same]
    · by_cases q : i = k
      · subst q; rw [put_same, if_pos rfl]
      · have n1 : vv i ≠ vv k := fun e => q (V.inj i k hi hkn e)
        have e1 := g1 (evv i hi) (V.nvv i hi).2.1
        rw [put_other n1, put_fresh hb2 e1, if_neg q]
end Mine
set_option maxHeartbeats 200000
namespace Mine
variable {w : World} {h0 : Heap} {A : Around} {σ σ' σ'' : St} {ℓ : Loc}
theorem Sub.sm {W : Wd} {D D' : Nat → Dm} (h : ∀ i, i < W.n → (D' i).hid = (D i).hid ∧ (D' i).ss = (D i).ss ∧ (D' i).xs.Sublist (D i).xs) (s : Sm W D) : Sm W D' := fun i hi => by
  obtain ⟨h1, h2, h3⟩ := h i hi
  have := h3.length_le
  have := s i hi
  rw [h1, h2]; omega
theorem x_pre2 (O : (BB w h0).Ok) {env : Env} {W : Wd} {D : Nat → Dm} {vs : List Nat} {b : Int} {mx : Str} {vl dd : Addr} {nd : Nat} {Q : AF → Loc → St → Prop} {p1 p2 p5 p6 p7 p8 p9 pa pb pc pd pe pf ph pi pj pk pm po pp pq q2 : Pos}
    (lo : Lo 6 A) (hk : env.scope.kind = .function) (kd : env.kindOf "domain" = some .local) (kv : env.kindOf "value" = some .local) (k1 : env.kindOf "variable" = some .local) (k2 : env.kindOf "variables" = some .local) (k4 : env.kindOf "domains" = some .local) (k6 : env.kindOf mx = some .local)
    (m1 : mx ≠ "variable") (m2 : mx ≠ "domain") (m3 : mx ≠ "value") (m4 : (mx == ("__debug__" : Str)) = false)
    (hline : (pc.endLine == pe.line) = true) (hint : interactive env = false) (hsw : swapsWith (.Call (.Attribute (.Name "domain" pb) "remove" pc) [.Name "value" pd] [] pe) none pf.line env = pure false)
    (hsa : swapsWithSole [.Name "domain" p5] (.Subscript (.Name "domains" p6) (.Name "variable" p7) p8) p9.line env = pure false) (hsb : swappedStores [.Name "domain" p5] (.Subscript (.Name "domains" p6) (.Name "variable" p7) p8) env = pure none)
    (sp : W.Sep) (ds : Doms σ W D) (sm : Sm W D) (nod : ∀ i, i < W.n → (D i).xs.Nodup) (hvs : ∀ i ∈ vs, i < W.n) (e1 : σ.m vl = some (.list (nv vs))) (n1 : ¬ W.dyn vl) (e2 : σ.m dd = some (.dict (esD W) nd))
    (l1 : ℓ "variables" = some (.ref vl)) (l2 : ℓ "domains" = some (.ref dd)) (l5 : ℓ mx = some (.int b))
    (h : ∀ u1 u2 u3 σ' D', Kp W.dyn σ σ' → Doms σ' W D' → (∀ i, i < W.n → (D' i).hid = (D i).hid ∧ (D' i).ss = (D i).ss ∧ (D' i).xs.Sublist (D i).xs) → (∀ i, i < W.n → ∀ v ∈ (D i).xs, v ∉ (D' i).xs → i ∈ vs ∧ v > b) → Q .next (set3 ℓ u1 u2 u3) σ') :
    Tx (BB w h0) A env (.For (.Name "variable" p1) (.Name "variables" p2) [.Assign [.Name "domain" p5] (.Subscript (.Name "domains" p6) (.Name "variable" p7) p8) p9,
       .For (.Name "value" ph) (.Subscript (.Name "domain" pi) (.Slice none none none pj) pk) [.If (.Compare (.Name "value" pm) [.Gt] [.Name mx po] pp) [.Expr (.Call (.Attribute (.Name "domain" pb) "remove" pc) [.Name "value" pd] [] pe) pf] [] pa] [] pq] [] q2) ℓ σ Q := by
  have vv : ∀ u1 u2 u3, set3 ℓ u1 u2 u3 "variables" = some (.ref vl) := fun _ _ _ => (set3_other (by decide) (by decide) (by decide)).trans l1
  have vd : ∀ u1 u2 u3, set3 ℓ u1 u2 u3 "domains" = some (.ref dd) := fun _ _ _ => (set3_other (by decide) (by decide) (by decide)).trans l2
  have vb : ∀ u1 u2 u3, set3 ℓ u1 u2 u3 mx = some (.int b) := fun _ _ _ => (set3_other m1 m2 m3).trans l5
  have nd2 := ds.not_dyn e2 nofun nofun
  refine x_for (e_local l1 ?_ hk k2 rfl)
  refine ⟨_, _, _, fun j ℓ' σ' => ∃ u1 u2 u3 D', ℓ' = set3 ℓ u1 u2 u3 ∧ Kp W.dyn σ σ' ∧ Doms σ' W D' ∧ (∀ i, i < W.n → (D' i).hid = (D i).hid ∧ (D' i).ss = (D i).ss ∧ (D' i).xs.Sublist (D i).xs) ∧ (∀ i, i < W.n → ∀ v ∈ (D i).xs, v ∉ (D' i).xs → i ∈ vs ∧ v > b), it_list lo.hh e1, ⟨_, _, _, D, set3_self.symm, .refl, ds, fun _ _ => ⟨rfl, rfl, .refl _⟩, fun _ _ v h1 h2 => absurd h1 h2⟩, fun _ _ _ ⟨_, _, _, _, _, k, _⟩ => k.kept _ _ e1 n1, ?_, ?_⟩
  · rintro j v ℓ' σ' hj hv ⟨u1, u2, u3, D', rfl, kp, dm, sub, gone⟩
    obtain ⟨hj', rfl⟩ := nv_get hv
    have hin : vs[j] < W.n := hvs _ (List.getElem_mem hj')
    refine a_local ?_ hk k1
    rw [set3_var]
    refine s_cons (x_assign (e_sub (e_local (vd _ _ _) (e_local set3_v ⟨gp_of O (kp.kept _ _ e2 nd2) rfl, gi_dict (kp.kept _ _ e2 nd2) (dget_esD hin) (a_local ?_ hk kd)⟩ hk k1 rfl) hk k4 rfl)) hsa hsb)
    rw [set3_dom]
    refine s_cons (x_rem O (i := vs[j]) (Rr := fun v c => decide (v > b) = c) lo hk kd kv hline hint hsw sp hin dm (Sub.sm sub sm) ((sub _ hin).2.2.nodup (nod _ hin)) set3_d (fun v σ₂ D₂ k2 dm2 _ => ?_) (fun u σ₂ ys k2 dm2 sub2 ok bad => ?_))
    · rw [set3_val]
      exact t_cmp (e_local (by unfold set3; exact setL_same) (e_local (vb _ _ _) (cmp_gt (tru_bool ⟨rfl, .refl, dm2⟩)) hk k6 m4) hk kv rfl)
    · rw [set3_val]
      refine s_nil ⟨_, _, _, _, rfl, kp.trans k2, dm2, fun i hi => ?_, fun i hi v hv hn => ?_⟩
      · by_cases q : i = vs[j]
        · subst q; rw [setD_same]; obtain ⟨s1, s2, s3⟩ := sub _ hi; exact ⟨s1, s2, sub2.trans s3⟩
        · rw [setD_other q]; exact sub i hi
      · by_cases q : i = vs[j]
        · subst q; rw [setD_same] at hn
          by_cases q2 : v ∈ (D' vs[j]).xs
          · exact ⟨List.getElem_mem hj', of_decide_eq_true (bad v q2 hn)⟩
          · exact gone _ hi v hv q2
        · rw [setD_other q] at hn; exact gone i hi v hv hn
  · rintro ℓ' σ' ⟨u1, u2, u3, D', rfl, kp, dm, sub, gone⟩
    exact s_nil (h _ _ _ _ _ kp dm sub gone)

/-- what preProcess takes out of the rows -/
def Cut (w : World) (h0 : Heap) (σ : St) (W : Wd) (C : Con) (c vl cl : Addr) (vv : Nat → Addr) (cxs : List AV) (vc : Nat → List AV) (cxs' : List AV) (vc' : Nat → List AV) : Prop :=
  (C.vs.length ≠ 1 → cxs' = cxs ∧ ∀ i, i < W.n → vc' i = vc i) ∧ ∀ k, C.vs = [k] → ∃ pre t post pre' t' post', cxs = pre ++ .ref t :: post ∧ vc k = pre' ++ .ref t' :: post' ∧ σ.m t = some (.tup [.ref c, .ref vl]) ∧ σ.m t' = some (.tup [.ref c, .ref vl]) ∧
      (∀ A' σ' b, Lo 8 A' → Kp (PreS W cl vv) σ σ' → σ'.m b = some (.tup [.ref c, .ref vl]) → ∀ z, z ∈ pre ∨ z ∈ pre' → Eqs (BB w h0) A' z (.ref b) σ' false) ∧
      cxs' = pre ++ post ∧ ∀ i, i < W.n → vc' i = if i = k then pre' ++ post' else vc i
section
variable {W : Wd} {D : Nat → Dm} {C : Con} {c cx ml vl dd cl vd : Addr} {vv : Nat → Addr} {nd nv' : Nat} {cxs cxs' : List AV} {vc vc' : Nat → List AV} {Q : AV → St → Prop}
theorem cpre' (O : (BB w h0).Ok) (lo : Lo 16 A) (hg : GoodCon C)
    (sp : W.Sep) (ds : Doms σ W D) (sm : Sm W D) (nod : ∀ i, i < W.n → (D i).xs.Nodup) (hvs : ∀ i ∈ C.vs, i < W.n) (hvl : C.vs.length ≤ 100) (ca : ConAt σ C c cx ml) (nml : C.fs ≠ [] → ¬ PreS W cl vv ml) (e1 : σ.m vl = some (.list (nv C.vs))) (n1 : ¬ W.dyn vl) (e2 : σ.m dd = some (.dict (esD W) nd))
    (V : VcAt σ W vl cl vd vv nv' cxs vc) (hz1 : cxs.length ≤ 100) (hz2 : ∀ i, i < W.n → (vc i).length ≤ 100) (cut : Cut w h0 σ W C c vl cl vv cxs vc cxs' vc')
    (h : ∀ σ' D', Kp (PreS W cl vv) σ σ' → Doms σ' W D' → PrePost W C D D' → σ'.m cl = some (.list cxs') → (∀ i, i < W.n → σ'.m (vv i) = some (.list (vc' i))) → Q .none σ') :
    Callf (BB w h0) A (.ref 336) [.ref c, .ref vl, .ref dd, .ref cl, .ref vd] σ Q := by
  refine cpre O lo hg sp ds sm nod hvs hvl ca nml e1 n1 e2 V hz1 hz2 (fun q => ?_) (fun k hk => ?_)
  · obtain ⟨rfl, hvc⟩ := cut.1 q
    exact h _ D .refl ds ⟨fun _ _ => ⟨rfl, rfl, .refl _⟩, fun _ _ v h1 h2 => absurd h1 h2, fun k hk => absurd (by rw [hk]; rfl) q⟩ V.ecl fun i hi => by rw [hvc i hi]; exact V.evv i hi
  · obtain ⟨pre, t, post, pre', t', post', x1, x2, x3, x4, x5, rfl, hvc⟩ := cut.2 k hk
    exact ⟨pre, t, post, pre', t', post', x1, x2, x3, x4, x5, fun σ' D' a b c d e => h σ' D' a b c d fun i hi => by rw [hvc i hi]; exact e i hi⟩
theorem PrePost.step {D' D'' : Nat → Dm} (x : PrePost W C D D') (h : ∀ i, i < W.n → (D'' i).hid = (D' i).hid ∧ (D'' i).ss = (D' i).ss ∧ (D'' i).xs.Sublist (D' i).xs) (g : ∀ i, i < W.n → ∀ v ∈ (D' i).xs, v ∉ (D'' i).xs → BadV C i v) (hvs : ∀ i ∈ C.vs, i < W.n) : PrePost W C D D'' :=
  ⟨fun i hi => by obtain ⟨a1, a2, a3⟩ := x.dom i hi; obtain ⟨b1, b2, b3⟩ := h i hi; exact ⟨b1.trans a1, b2.trans a2, b3.trans a3⟩,
   fun i hi v hv hn => by
    by_cases q : v ∈ (D' i).xs
    · exact g i hi v q hn
    · exact x.gone i hi v hv q,
   fun k hk v hv => x.unary k hk v ((h k (hvs k (by rw [hk]; simp))).2.2.subset hv)⟩
theorem max_pre0 (O : (BB w h0).Ok) (lo : Lo 18 A) (hg : GoodCon C) (hk : C.kind = 0)
    (sp : W.Sep) (ds : Doms σ W D) (sm : Sm W D) (nod : ∀ i, i < W.n → (D i).xs.Nodup) (hvs : ∀ i ∈ C.vs, i < W.n) (hvl : C.vs.length ≤ 100) (ca : ConAt σ C c cx ml) (nca : ∀ b, b = c ∨ b = cx → ¬ PreS W cl vv b) (nml : C.fs ≠ [] → ¬ PreS W cl vv ml) (e1 : σ.m vl = some (.list (nv C.vs))) (n1 : ¬ W.dyn vl) (e2 : σ.m dd = some (.dict (esD W) nd)) (ndd : ¬ PreS W cl vv dd)
    (V : VcAt σ W vl cl vd vv nv' cxs vc) (hz1 : cxs.length ≤ 100) (hz2 : ∀ i, i < W.n → (vc i).length ≤ 100) (cut : Cut w h0 σ W C c vl cl vv cxs vc cxs' vc')
    (h : ∀ σ' D', Kp (PreS W cl vv) σ σ' → Doms σ' W D' → PrePost W C D D' → σ'.m cl = some (.list cxs') → (∀ i, i < W.n → σ'.m (vv i) = some (.list (vc' i))) → Q .none σ') :
    Callf (BB w h0) A (.ref 399) [.ref c, .ref vl, .ref dd, .ref cl, .ref vd] σ Q := by
  have hf := hg.2
  have hm := conNs_m (C := C) (ml := ml)
  rw [if_pos hf] at hm
  have nvl : ¬ PreS W cl vv vl := by
    rintro (q | q | ⟨i, hi, q⟩)
    · exact n1 q
    · exact V.ncl.2 q.symm
    · exact (V.nvv i hi).2.2 q.symm
  refine call_fn O (k := 17) (n := 5) (ps := ["self", "variables", "domains", "constraints", "vconstraints"]) (ds := []) (rest := ["multipliers", "maxsum", "variable", "multiplier", "domain", "value"]) lo rfl rfl rfl (fun s g X => BindsTo.of_eq rfl) rfl rfl (by decide) (by decide) (by decide) ?_
  intro L hL
  refine s_cons (x_expr (e_meth (e_glob O (g_Constraint _) fun pl => m_cls O ?_ (g347 _) (rd347 _) (fc347 _))))
  refine es_cons (e_local rfl (es_cons (e_local rfl (es_cons (e_local rfl (es_cons (e_local rfl (es_cons (e_local rfl (es_nil ⟨kee_fn O rfl, cpre' O ((lo.deeper (n := 17)).mono (by decide)) hg sp ds sm nod hvs hvl ca nml e1 n1 e2 V hz1 hz2 cut ?_⟩))))))))))
  intro σ₁ D₁ kp dm post r1 r2
  have o := ca.obj
  rw [hk] at o
  have o1 := kp.kept _ _ o (nca _ (.inl rfl))
  have o2 := kp.kept _ _ ca.ns (nca _ (.inr rfl))
  refine s_cons (x_assign (e_attr (e_local rfl (att_own O o1 o2 hm (a_local ?_) rfl rfl (ga410 _) (at410_multipliers _)))))
  rw [upd_frm (i := 5) rfl (by simp)]
  refine s_cons (x_assign (e_attr (e_local rfl (att_own O o1 o2 (conNs_b0 hk) (a_local ?_) rfl rfl (ga410 _) (at410_maxsum _)))))
  rw [upd_frm (i := 6) rfl (by simp)]
  refine s_cons (x_if (t_val (e_local rfl (tru_none ?_))))
  rw [if_neg Bool.false_ne_true]
  refine s_cons (x_pre2 O (vs := C.vs) (b := C.b) (mx := "maxsum") ((lo.deeper (n := 17)).mono (by decide)) rfl rfl rfl rfl rfl rfl rfl (by decide) (by decide) (by decide) rfl rfl rfl rfl rfl rfl sp dm (Sub.sm post.dom sm) (fun i hi => (post.dom i hi).2.2.nodup (nod i hi)) hvs (kp.kept _ _ e1 nvl) n1 (kp.kept _ _ e2 ndd) rfl rfl rfl ?_)
  intro u1 u2 u3 σ₂ D₂ k2 dm2 sub gone
  refine s_nil (s_nil (h σ₂ D₂ (kp.trans (k2.mono fun b q => .inl q)) dm2 (post.step sub (fun i hi v hv hn => ?_) hvs) (k2.kept _ _ r1 V.ncl.1) fun i hi => k2.kept _ _ (r2 i hi) (V.nvv i hi).1))
  obtain ⟨q1, q2⟩ := gone i hi v hv hn
  exact .inl ⟨by omega, 1, by rw [ks_plain hf]; exact List.mem_map.mpr ⟨i, q1, rfl⟩, by omega⟩
theorem exact_pre0 (O : (BB w h0).Ok) (lo : Lo 18 A) (hg : GoodCon C) (hk : C.kind = 1)
    (sp : W.Sep) (ds : Doms σ W D) (sm : Sm W D) (nod : ∀ i, i < W.n → (D i).xs.Nodup) (hvs : ∀ i ∈ C.vs, i < W.n) (hvl : C.vs.length ≤ 100) (ca : ConAt σ C c cx ml) (nca : ∀ b, b = c ∨ b = cx → ¬ PreS W cl vv b) (nml : C.fs ≠ [] → ¬ PreS W cl vv ml) (e1 : σ.m vl = some (.list (nv C.vs))) (n1 : ¬ W.dyn vl) (e2 : σ.m dd = some (.dict (esD W) nd)) (ndd : ¬ PreS W cl vv dd)
    (V : VcAt σ W vl cl vd vv nv' cxs vc) (hz1 : cxs.length ≤ 100) (hz2 : ∀ i, i < W.n → (vc i).length ≤ 100) (cut : Cut w h0 σ W C c vl cl vv cxs vc cxs' vc')
    (h : ∀ σ' D', Kp (PreS W cl vv) σ σ' → Doms σ' W D' → PrePost W C D D' → σ'.m cl = some (.list cxs') → (∀ i, i < W.n → σ'.m (vv i) = some (.list (vc' i))) → Q .none σ') :
    Callf (BB w h0) A (.ref 434) [.ref c, .ref vl, .ref dd, .ref cl, .ref vd] σ Q := by
  have hf := hg.2
  have hm := conNs_m (C := C) (ml := ml)
  rw [if_pos hf] at hm
  have nvl : ¬ PreS W cl vv vl := by
    rintro (q | q | ⟨i, hi, q⟩)
    · exact n1 q
    · exact V.ncl.2 q.symm
    · exact (V.nvv i hi).2.2 q.symm
  refine call_fn O (k := 17) (n := 5) (ps := ["self", "variables", "domains", "constraints", "vconstraints"]) (ds := []) (rest := ["multipliers", "exactsum", "variable", "multiplier", "domain", "value"]) lo rfl rfl rfl (fun s g X => BindsTo.of_eq rfl) rfl rfl (by decide) (by decide) (by decide) ?_
  intro L hL
  refine s_cons (x_expr (e_meth (e_glob O (g_Constraint _) fun pl => m_cls O ?_ (g347 _) (rd347 _) (fc347 _))))
  refine es_cons (e_local rfl (es_cons (e_local rfl (es_cons (e_local rfl (es_cons (e_local rfl (es_cons (e_local rfl (es_nil ⟨kee_fn O rfl, cpre' O ((lo.deeper (n := 17)).mono (by decide)) hg sp ds sm nod hvs hvl ca nml e1 n1 e2 V hz1 hz2 cut ?_⟩))))))))))
  intro σ₁ D₁ kp dm post r1 r2
  have o := ca.obj
  rw [hk] at o
  have o1 := kp.kept _ _ o (nca _ (.inl rfl))
  have o2 := kp.kept _ _ ca.ns (nca _ (.inr rfl))
  refine s_cons (x_assign (e_attr (e_local rfl (att_own O o1 o2 hm (a_local ?_) rfl rfl (ga445 _) (at445_multipliers _)))))
  rw [upd_frm (i := 5) rfl (by simp)]
  refine s_cons (x_assign (e_attr (e_local rfl (att_own O o1 o2 (conNs_b1 hk) (a_local ?_) rfl rfl (ga445 _) (at445_exactsum _)))))
  rw [upd_frm (i := 6) rfl (by simp)]
  refine s_cons (x_if (t_val (e_local rfl (tru_none ?_))))
  rw [if_neg Bool.false_ne_true]
  refine s_cons (x_pre2 O (vs := C.vs) (b := C.b) (mx := "exactsum") ((lo.deeper (n := 17)).mono (by decide)) rfl rfl rfl rfl rfl rfl rfl (by decide) (by decide) (by decide) rfl rfl rfl rfl rfl rfl sp dm (Sub.sm post.dom sm) (fun i hi => (post.dom i hi).2.2.nodup (nod i hi)) hvs (kp.kept _ _ e1 nvl) n1 (kp.kept _ _ e2 ndd) rfl rfl rfl ?_)
  intro u1 u2 u3 σ₂ D₂ k2 dm2 sub gone
  refine s_nil (s_nil (h σ₂ D₂ (kp.trans (k2.mono fun b q => .inl q)) dm2 (post.step sub (fun i hi v hv hn => ?_) hvs) (k2.kept _ _ r1 V.ncl.1) fun i hi => k2.kept _ _ (r2 i hi) (V.nvv i hi).1))
  obtain ⟨q1, q2⟩ := gone i hi v hv hn
  exact .inl ⟨by omega, 1, by rw [ks_plain hf]; exact List.mem_map.mpr ⟨i, q1, rfl⟩, by omega⟩
end
end Mine
set_option maxHeartbeats 200000
namespace Mine
variable {w : World} {h0 : Heap} {A : Around} {σ σ' σ'' : St} {ℓ : Loc}
def dpre : Nat → Addr
  | 0 => 399
  | 1 => 434
  | _ => 336
theorem conNs_pre {C : Con} {ml : Addr} (hk : C.kind ≤ 2) : conNs C ml "preProcess" = none := by
  unfold conNs upd
  rw [if_neg (by decide)]
  match hk' : C.kind, hk with
  | 0, _ => exact if_neg (by decide)
  | 1, _ => exact if_neg (by decide)
  | 2, _ => exact if_neg (by decide)
  | k + 3, h3 => omega
theorem m_con_pre (O : (BB w h0).Ok) {C : Con} {c cx ml : Addr} {pl : Sem Bool} {Q : AV → List AV → St → Prop} (hk : C.kind ≤ 2) (ca : ConAt σ C c cx ml) (h : Q (.ref (dpre C.kind)) [.ref c] σ) : Meth (BB w h0) A (.ref c) "preProcess" pl σ Q := by
  have o := ca.obj
  have sh : ∀ dx, AObj.dx (.inst (bcls C.kind) cx) = some dx → ∃ k m, σ.m dx = some (.ns k m) ∧ m "preProcess" = none := fun dx e => by cases e; exact ⟨_, _, ca.ns, conNs_pre hk⟩
  match hk' : C.kind, hk with
  | 0, _ => rw [hk'] at o h sh; exact meth_of O o rfl (ga410 _) (by decide +kernel) (gn410 _) (m410_preProcess _) (ty399 _) (by decide) sh h
  | 1, _ => rw [hk'] at o h sh; exact meth_of O o rfl (ga445 _) (by decide +kernel) (gn445 _) (m445_preProcess _) (ty434 _) (by decide) sh h
  | 2, _ => rw [hk'] at o h sh; exact meth_of O o rfl (ga473 _) (by decide +kernel) (gn473 _) (m473_preProcess _) (ty336 _) (by decide) sh h
  | k + 3, h3 => omega
theorem kee_dpre (O : (BB w h0).Ok) {k : Nat} : Kee (BB w h0) A (.ref (dpre k)) σ := by
  match k with
  | 0 => exact kee_fn O rfl
  | 1 => exact kee_fn O rfl
  | k + 2 => exact kee_fn O rfl
section
variable {W : Wd} {D : Nat → Dm} {C : Con} {c cx ml vl dd cl vd : Addr} {vv : Nat → Addr} {nd nv' : Nat} {cxs cxs' : List AV} {vc vc' : Nat → List AV} {Q : AV → St → Prop}
theorem con_pre (O : (BB w h0).Ok) (lo : Lo 18 A) (hg : GoodCon C)
    (sp : W.Sep) (ds : Doms σ W D) (sm : Sm W D) (nod : ∀ i, i < W.n → (D i).xs.Nodup) (hvs : ∀ i ∈ C.vs, i < W.n) (hvl : C.vs.length ≤ 100) (ca : ConAt σ C c cx ml) (nca : ∀ b, b = c ∨ b = cx → ¬ PreS W cl vv b) (nml : C.fs ≠ [] → ¬ PreS W cl vv ml) (e1 : σ.m vl = some (.list (nv C.vs))) (n1 : ¬ W.dyn vl) (e2 : σ.m dd = some (.dict (esD W) nd)) (ndd : ¬ PreS W cl vv dd)
    (V : VcAt σ W vl cl vd vv nv' cxs vc) (hz1 : cxs.length ≤ 100) (hz2 : ∀ i, i < W.n → (vc i).length ≤ 100) (cut : Cut w h0 σ W C c vl cl vv cxs vc cxs' vc')
    (h : ∀ σ' D', Kp (PreS W cl vv) σ σ' → Doms σ' W D' → PrePost W C D D' → σ'.m cl = some (.list cxs') → (∀ i, i < W.n → σ'.m (vv i) = some (.list (vc' i))) → Q .none σ') :
    Callf (BB w h0) A (.ref (dpre C.kind)) [.ref c, .ref vl, .ref dd, .ref cl, .ref vd] σ Q := by
  have hk := hg.1
  match hk' : C.kind, hk with
  | 0, _ => exact max_pre0 O lo hg hk' sp ds sm nod hvs hvl ca nca nml e1 n1 e2 ndd V hz1 hz2 cut h
  | 1, _ => exact exact_pre0 O lo hg hk' sp ds sm nod hvs hvl ca nca nml e1 n1 e2 ndd V hz1 hz2 cut h
  | 2, _ => exact cpre' O (lo.mono (by decide)) hg sp ds sm nod hvs hvl ca nml e1 n1 e2 V hz1 hz2 cut h
  | k + 3, h3 => omega
end
/-- 0 made, no factors -/
theorem max1_made (O : (BB w h0).Ok) {b : Int} {vs : List Nat} {Q : AV → St → Prop} (lo : Lo 8 A)
    (h : ∀ c cx σ', σ.m c = none → σ.m cx = none → c ≠ cx → Kp (fun _ => False) σ σ' → ConAt σ' ⟨0, b, vs, []⟩ c cx 0 → Q (.ref c) σ') : Cc (BB w h0) A (.ref 410) [.int b] σ Q := by
  refine make_code O (mk410 _) (m410___init__ _) (ty392 _) fun vs' x dx hvs' hx hdx hne => ?_
  refine fn_code O (k := 6) (n := 2) (ps := ["self", "maxsum"]) (ds := [("multipliers", .none)]) (rest := []) (lo.make (n := 7)) rfl rfl rfl (fun s g X => kp_binds X fun _ => rfl) rfl rfl (by decide) (by decide) (by decide) ?_
  intro L hL
  refine s_cons (x_assign (e_local rfl (a_attr (e_local rfl ?_))))
  refine sat_own O (C := 410) (dx := dx) (ao := .inst 410 dx) (k := 0) (m := fun _ => none) (put_same ..) (by rw [put_other (Ne.symm hne), put_same]) ?_ (by omega) rfl rfl (st410_maxsum _)
  refine s_cons (x_assign (e_local rfl (a_attr (e_local rfl ?_))))
  refine sat_own O (C := 410) (dx := dx) (ao := .inst 410 dx) (k := 1) (m := upd (fun _ => none) "_maxsum" (.int b)) (by rw [put_other hne, put_same]) (put_same ..) ?_ (by omega) rfl rfl (st410_multipliers _)
  refine s_nil ⟨rfl, h x dx _ hx hdx hne ⟨fun y o e _ => ?_, fun y e => ?_, rfl⟩ ⟨?_, ?_, fun q => absurd rfl q⟩⟩
  · have n1 : y ≠ dx := by rintro rfl; rw [hdx] at e; cases e
    have n2 : y ≠ x := by rintro rfl; rw [hx] at e; cases e
    rw [put_other n1, put_other n1, put_other n2, put_other n1]; exact e
  · by_cases n1 : y = dx
    · subst n1; exact hdx
    · rw [put_other n1, put_other n1] at e
      by_cases n2 : y = x
      · subst n2; exact hx
      · rw [put_other n2, put_other n1] at e; exact e
  · rw [put_other hne, put_other hne, put_same]; rfl
  · rw [put_same]; exact congrArg (fun m => some (AObj.ns 2 m)) (by rfl)
/-- 1 made, no factors -/
theorem exact1_made (O : (BB w h0).Ok) {b : Int} {vs : List Nat} {Q : AV → St → Prop} (lo : Lo 8 A)
    (h : ∀ c cx σ', σ.m c = none → σ.m cx = none → c ≠ cx → Kp (fun _ => False) σ σ' → ConAt σ' ⟨1, b, vs, []⟩ c cx 0 → Q (.ref c) σ') : Cc (BB w h0) A (.ref 445) [.int b] σ Q := by
  refine make_code O (mk445 _) (m445___init__ _) (ty427 _) fun vs' x dx hvs' hx hdx hne => ?_
  refine fn_code O (k := 6) (n := 2) (ps := ["self", "exactsum"]) (ds := [("multipliers", .none)]) (rest := []) (lo.make (n := 7)) rfl rfl rfl (fun s g X => kp_binds X fun _ => rfl) rfl rfl (by decide) (by decide) (by decide) ?_
  intro L hL
  refine s_cons (x_assign (e_local rfl (a_attr (e_local rfl ?_))))
  refine sat_own O (C := 445) (dx := dx) (ao := .inst 445 dx) (k := 0) (m := fun _ => none) (put_same ..) (by rw [put_other (Ne.symm hne), put_same]) ?_ (by omega) rfl rfl (st445_exactsum _)
  refine s_cons (x_assign (e_local rfl (a_attr (e_local rfl ?_))))
  refine sat_own O (C := 445) (dx := dx) (ao := .inst 445 dx) (k := 1) (m := upd (fun _ => none) "_exactsum" (.int b)) (by rw [put_other hne, put_same]) (put_same ..) ?_ (by omega) rfl rfl (st445_multipliers _)
  refine s_nil ⟨rfl, h x dx _ hx hdx hne ⟨fun y o e _ => ?_, fun y e => ?_, rfl⟩ ⟨?_, ?_, fun q => absurd rfl q⟩⟩
  · have n1 : y ≠ dx := by rintro rfl; rw [hdx] at e; cases e
    have n2 : y ≠ x := by rintro rfl; rw [hx] at e; cases e
    rw [put_other n1, put_other n1, put_other n2, put_other n1]; exact e
  · by_cases n1 : y = dx
    · subst n1; exact hdx
    · rw [put_other n1, put_other n1] at e
      by_cases n2 : y = x
      · subst n2; exact hx
      · rw [put_other n2, put_other n1] at e; exact e
  · rw [put_other hne, put_other hne, put_same]; rfl
  · rw [put_same]; exact congrArg (fun m => some (AObj.ns 2 m)) (by rfl)
/-- 2 made, no factors -/
theorem min1_made (O : (BB w h0).Ok) {b : Int} {vs : List Nat} {Q : AV → St → Prop} (lo : Lo 8 A)
    (h : ∀ c cx σ', σ.m c = none → σ.m cx = none → c ≠ cx → Kp (fun _ => False) σ σ' → ConAt σ' ⟨2, b, vs, []⟩ c cx 0 → Q (.ref c) σ') : Cc (BB w h0) A (.ref 473) [.int b] σ Q := by
  refine make_code O (mk473 _) (m473___init__ _) (ty462 _) fun vs' x dx hvs' hx hdx hne => ?_
  refine fn_code O (k := 6) (n := 2) (ps := ["self", "minsum"]) (ds := [("multipliers", .none)]) (rest := []) (lo.make (n := 7)) rfl rfl rfl (fun s g X => kp_binds X fun _ => rfl) rfl rfl (by decide) (by decide) (by decide) ?_
  intro L hL
  refine s_cons (x_assign (e_local rfl (a_attr (e_local rfl ?_))))
  refine sat_own O (C := 473) (dx := dx) (ao := .inst 473 dx) (k := 0) (m := fun _ => none) (put_same ..) (by rw [put_other (Ne.symm hne), put_same]) ?_ (by omega) rfl rfl (st473_minsum _)
  refine s_cons (x_assign (e_local rfl (a_attr (e_local rfl ?_))))
  refine sat_own O (C := 473) (dx := dx) (ao := .inst 473 dx) (k := 1) (m := upd (fun _ => none) "_minsum" (.int b)) (by rw [put_other hne, put_same]) (put_same ..) ?_ (by omega) rfl rfl (st473_multipliers _)
  refine s_nil ⟨rfl, h x dx _ hx hdx hne ⟨fun y o e _ => ?_, fun y e => ?_, rfl⟩ ⟨?_, ?_, fun q => absurd rfl q⟩⟩
  · have n1 : y ≠ dx := by rintro rfl; rw [hdx] at e; cases e
    have n2 : y ≠ x := by rintro rfl; rw [hx] at e; cases e
    rw [put_other n1, put_other n1, put_other n2, put_other n1]; exact e
  · by_cases n1 : y = dx
    · subst n1; exact hdx
    · rw [put_other n1, put_other n1] at e
      by_cases n2 : y = x
      · subst n2; exact hx
      · rw [put_other n2, put_other n1] at e; exact e
  · rw [put_other hne, put_other hne, put_same]; rfl
  · rw [put_same]; exact congrArg (fun m => some (AObj.ns 2 m)) (by rfl)
end Mine
set_option maxHeartbeats 200000
namespace Mine
variable {w : World} {h0 : Heap} {A : Around} {σ σ' σ'' : St} {ℓ : Loc}
theorem tru_inst {B : Bs} (O : B.Ok) {a C dx : Addr} {Q : Bool → St → Prop} (e : σ.m a = some (.inst C dx)) (k : Q true σ) (hb : findIn B.K (.ref C) "__bool__" = some none) (hf : findIn B.K (.ref C) "__len__" = some none) : Tru B A (.ref a) σ Q := fun va hv => by
  obtain rfl := ab_ref hv
  show T0 B A (callSpecial? (.ref a) "__bool__" >>= _) σ Q
  refine T0.bind (special_none O e rfl hb ?_)
  refine T0.bind (t := specialOf (.ref a) "__len__") (T0.special O e rfl hf ?_)
  exact T0.pure k
structure SolvAt (σ : St) (C s sx : Addr) (fc : Bool) : Prop where
  obj : σ.m s = some (.inst C sx)
  ns : σ.m sx = some (.ns 1 (upd (fun _ => none) "_forwardcheck" (.bool fc)))
theorem bt_made (O : (BB w h0).Ok) {fc : Bool} {Q : AV → St → Prop} (lo : Lo 8 A)
    (h : ∀ c cx σ', σ.m c = none → σ.m cx = none → c ≠ cx → Kp (fun _ => False) σ σ' → SolvAt σ' 186 c cx fc → Q (.ref c) σ') : Cc (BB w h0) A (.ref 186) [.bool fc] σ Q := by
  refine make_code O (mk186 _) (m186___init__ _) (ty164 _) fun vs' x dx hvs' hx hdx hne => ?_
  refine fn_code O (k := 6) (n := 2) (ps := ["self", "forwardcheck"]) (ds := []) (rest := []) (lo.make (n := 7)) rfl rfl rfl (fun s g X => kp_binds X fun _ => rfl) rfl rfl (by decide) (by decide) (by decide) ?_
  intro L hL
  refine s_cons (x_assign (e_local rfl (a_attr (e_local rfl ?_))))
  refine sat_own O (C := 186) (dx := dx) (ao := .inst 186 dx) (k := 0) (m := fun _ => none) (put_same ..) (by rw [put_other (Ne.symm hne), put_same]) ?_ (by omega) rfl rfl (st186_forwardcheck _)
  refine s_nil ⟨rfl, h x dx _ hx hdx hne ⟨fun y o e _ => ?_, fun y e => ?_, rfl⟩ ⟨?_, ?_⟩⟩
  · have n1 : y ≠ dx := by rintro rfl; rw [hdx] at e; cases e
    have n2 : y ≠ x := by rintro rfl; rw [hx] at e; cases e
    rw [put_other n1, put_other n2, put_other n1]; exact e
  · by_cases n1 : y = dx
    · subst n1; exact hdx
    · rw [put_other n1] at e
      by_cases n2 : y = x
      · subst n2; exact hx
      · rw [put_other n2, put_other n1] at e; exact e
  · rw [put_other hne, put_same]
  · rw [put_same]
theorem rb_made (O : (BB w h0).Ok) {fc : Bool} {Q : AV → St → Prop} (lo : Lo 8 A)
    (h : ∀ c cx σ', σ.m c = none → σ.m cx = none → c ≠ cx → Kp (fun _ => False) σ σ' → SolvAt σ' 225 c cx fc → Q (.ref c) σ') : Cc (BB w h0) A (.ref 225) [.bool fc] σ Q := by
  refine make_code O (mk225 _) (m225___init__ _) (ty203 _) fun vs' x dx hvs' hx hdx hne => ?_
  refine fn_code O (k := 6) (n := 2) (ps := ["self", "forwardcheck"]) (ds := []) (rest := []) (lo.make (n := 7)) rfl rfl rfl (fun s g X => kp_binds X fun _ => rfl) rfl rfl (by decide) (by decide) (by decide) ?_
  intro L hL
  refine s_cons (x_assign (e_local rfl (a_attr (e_local rfl ?_))))
  refine sat_own O (C := 225) (dx := dx) (ao := .inst 225 dx) (k := 0) (m := fun _ => none) (put_same ..) (by rw [put_other (Ne.symm hne), put_same]) ?_ (by omega) rfl rfl (st225_forwardcheck _)
  refine s_nil ⟨rfl, h x dx _ hx hdx hne ⟨fun y o e _ => ?_, fun y e => ?_, rfl⟩ ⟨?_, ?_⟩⟩
  · have n1 : y ≠ dx := by rintro rfl; rw [hdx] at e; cases e
    have n2 : y ≠ x := by rintro rfl; rw [hx] at e; cases e
    rw [put_other n1, put_other n2, put_other n1]; exact e
  · by_cases n1 : y = dx
    · subst n1; exact hdx
    · rw [put_other n1] at e
      by_cases n2 : y = x
      · subst n2; exact hx
      · rw [put_other n2, put_other n1] at e; exact e
  · rw [put_other hne, put_same]
  · rw [put_same]
def probNs (sv cl vd : Addr) : Loc := upd (upd (upd (fun _ => none) "_solver" (.ref sv)) "_constraints" (.ref cl)) "_variables" (.ref vd)
structure ProbAt (σ : St) (p px sv cl vd : Addr) (k : Nat) : Prop where
  obj : σ.m p = some (.inst 110 px)
  ns : σ.m px = some (.ns k (probNs sv cl vd))
theorem ProbAt.keep {p px sv cl vd : Addr} {k : Nat} {S : Addr → Prop} (x : ProbAt σ p px sv cl vd k) (kp : Kp S σ σ') (h1 : ¬ S p) (h2 : ¬ S px) : ProbAt σ' p px sv cl vd k := ⟨kp.kept _ _ x.obj h1, kp.kept _ _ x.ns h2⟩
theorem prob_made (O : (BB w h0).Ok) {C s sx : Addr} {fc : Bool} {Q : AV → St → Prop} (lo : Lo 8 A) (sa : SolvAt σ C s sx fc) (hC : C = 186 ∨ C = 225)
    (h : ∀ p px cl vd σ', σ.m p = none → σ.m px = none → σ.m cl = none → σ.m vd = none → Kp (fun _ => False) σ σ' → ProbAt σ' p px s cl vd 3 → σ'.m cl = some (.list []) → σ'.m vd = some (.dict [] 0) → Q (.ref p) σ') : Cc (BB w h0) A (.ref 110) [.ref s] σ Q := by
  refine make_code O (mk110 _) (m110___init__ _) (ty36 _) fun vs' x dx hvs' hx hdx hne => ?_
  refine fn_code O (k := 6) (n := 2) (ps := ["self", "solver"]) (ds := []) (rest := []) (lo.make (n := 7)) rfl rfl rfl (fun s g X => kp_binds X fun _ => rfl) rfl rfl (by decide) (by decide) (by decide) ?_
  intro L hL
  have es : ((σ.put dx (.ns 0 (fun _ => none))).put x (.inst 110 dx)).m s = some (.inst C sx) := put_fresh (by rw [put_other hne]; exact hx) (put_fresh hdx sa.obj)
  have tr : ∀ A' : Around, Tru (BB w h0) A' (.ref s) ((σ.put dx (.ns 0 (fun _ => none))).put x (.inst 110 dx)) fun b σ' => b = true ∧ σ' = ((σ.put dx (.ns 0 (fun _ => none))).put x (.inst 110 dx)) := by
    intro A'
    rcases hC with rfl | rfl
    · exact tru_inst O es ⟨rfl, rfl⟩ (bool186 _) (len186 _)
    · exact tru_inst O es ⟨rfl, rfl⟩ (bool225 _) (len225 _)
  refine s_cons (x_assign (e_or (e_local rfl fun va hva => T0.mono (tr _ va hva) ?_)))
  rintro b σ₁ ⟨rfl, rfl⟩
  rw [if_pos rfl]
  refine a_attr (e_local rfl ?_)
  refine sat_own O (C := 110) (dx := dx) (ao := .inst 110 dx) (k := 0) (m := fun _ => none) (put_same ..) (by rw [put_other (Ne.symm hne), put_same]) ?_ (by omega) rfl rfl (st110_solver _)
  refine s_cons (x_assign (e_list (es_nil ⟨Nat.zero_le _, fun cl hcl => a_attr (e_local rfl ?_)⟩)))
  have c1 : cl ≠ dx := by rintro rfl; rw [put_same] at hcl; cases hcl
  have c2 : cl ≠ x := by rintro rfl; rw [put_other c1, put_same] at hcl; cases hcl
  have c3 : σ.m cl = none := by rw [put_other c1, put_other c2, put_other c1] at hcl; exact hcl
  refine sat_own O (C := 110) (dx := dx) (ao := .inst 110 dx) (k := 1) (m := upd (fun _ => none) "_solver" (.ref s)) (by rw [put_other (Ne.symm c2), put_other hne, put_same]) (by rw [put_other (Ne.symm c1), put_same]) ?_ (by omega) rfl rfl (st110_constraints _)
  refine s_cons (x_assign (e_dict0 fun vd hvd => a_attr (e_local rfl ?_)))
  have d1 : vd ≠ dx := by rintro rfl; rw [put_same] at hvd; cases hvd
  have d2 : vd ≠ cl := by rintro rfl; rw [put_other d1, put_same] at hvd; cases hvd
  have d3 : vd ≠ x := by rintro rfl; rw [put_other d1, put_other d2, put_other d1, put_same] at hvd; cases hvd
  have d4 : σ.m vd = none := by rw [put_other d1, put_other d2, put_other d1, put_other d3, put_other d1] at hvd; exact hvd
  refine sat_own O (C := 110) (dx := dx) (ao := .inst 110 dx) (k := 2) (m := upd (upd (fun _ => none) "_solver" (.ref s)) "_constraints" (.ref cl)) (by rw [put_other (Ne.symm d3), put_other hne, put_other (Ne.symm c2), put_other hne, put_same]) (by rw [put_other (Ne.symm d1), put_same]) ?_ (by omega) rfl rfl (st110_variables _)
  refine s_nil ⟨rfl, h x dx cl vd _ hx hdx c3 d4 ⟨fun y o e _ => ?_, fun y e => ?_, rfl⟩ ⟨?_, ?_⟩ ?_ ?_⟩
  · have n1 : y ≠ dx := by rintro rfl; rw [hdx] at e; cases e
    have n2 : y ≠ x := by rintro rfl; rw [hx] at e; cases e
    have n3 : y ≠ cl := by rintro rfl; rw [c3] at e; cases e
    have n4 : y ≠ vd := by rintro rfl; rw [d4] at e; cases e
    rw [put_other n1, put_other n4, put_other n1, put_other n3, put_other n1, put_other n2, put_other n1]; exact e
  · by_cases n1 : y = dx
    · subst n1; exact hdx
    · by_cases n2 : y = x
      · subst n2; exact hx
      · by_cases n3 : y = cl
        · subst n3; exact c3
        · by_cases n4 : y = vd
          · subst n4; exact d4
          · rw [put_other n1, put_other n4, put_other n1, put_other n3, put_other n1, put_other n2, put_other n1] at e; exact e
  · rw [put_other hne, put_other (Ne.symm d3), put_other hne, put_other (Ne.symm c2), put_other hne, put_same]
  · rw [put_same]; rfl
  · rw [put_other c1, put_other (Ne.symm d2), put_other c1, put_same]
  · rw [put_other d1, put_same]
end Mine
set_option maxHeartbeats 200000
namespace Mine
variable {w : World} {h0 : Heap} {A : Around} {σ σ' σ'' : St} {ℓ : Loc}
theorem addv_spec (O : (BB w h0).Ok) {p px sv cl vd l : Addr} {k nv' : Nat} {es : List (Int × AV)} {i : Int} {xs : List AV} {Q : AV → St → Prop} (lo : Lo 12 A) (pa : ProbAt σ p px sv cl vd k) (ev : σ.m vd = some (.dict es nv')) (hn : dget es i = none) (el : σ.m l = some (.list xs)) (hz : xs.length ≤ 1000) (hxe : xs ≠ []) (hze : es.length ≤ 1000)
    (h : ∀ d dx hd st σ' n', σ.m d = none → σ.m dx = none → σ.m hd = none → σ.m st = none → hd ≠ st → Kp (fun b => b = vd) σ σ' → DomAt σ' d dx hd st 2 xs [] [] → σ'.m vd = some (.dict (dset es i (.ref d)) n') → Q .none σ') :
    Callf (BB w h0) A (.ref 64) [.ref p, .int i, .ref l] σ Q := by
  refine call_fn O (k := 11) (n := 3) (ps := ["self", "variable", "domain"]) (ds := []) (rest := ["msg"]) lo rfl rfl rfl (fun s g X => BindsTo.of_eq rfl) rfl rfl (by decide) (by decide) (by decide) ?_
  intro L hL
  refine s_cons (x_if (t_cmp (e_local rfl (e_attr (e_local rfl (att_own O pa.obj pa.ns (by rfl) (cmp_in_dict ev (tru_bool ?_)) rfl rfl (ga110 _) (at110_variables _)))))))
  rw [hn, if_neg (by decide)]
  refine s_nil ?_
  refine s_cons (x_if (t_val (e_call (e_boot O (g_isinstance _) rfl (es_cons (e_local rfl (es_cons (e_tuple (es_cons (e_boot O (g_list _) rfl (es_cons (e_boot O (g_tuple _) rfl (es_nil ⟨le_line (show 2 ≤ 10000 by decide), fun b hb => ?_⟩)))))))))))))
  refine es_nil ⟨kee_bi, c_isi_tup O (put_fresh hb el) (put_same ..) (tru_bool ?_)⟩
  rw [if_pos rfl]
  have pa1 : ProbAt (σ.put b (.tup [.ty "list", .ty "tuple"])) p px sv cl vd k := ⟨put_fresh hb pa.obj, put_fresh hb pa.ns⟩
  refine s_cons (x_assign (e_call (e_glob O (g_Domain _) (es_cons (e_local rfl (es_nil ⟨kee_cls O rfl rfl, (dom_code O (mk303 _) (m303___init__ _) (ty272 _) fun vs x dx hvs hx hdx hne => ?_).callf⟩))))))
  have hlx : l ≠ x := by rintro rfl; rw [put_fresh hb el] at hx; cases hx
  have hldx : l ≠ dx := by rintro rfl; rw [put_fresh hb el] at hdx; cases hdx
  refine dinit_spec O ((((lo.deeper (n := 11)).mono (m := 6) (by decide))).make (n := 5)) (dx := dx) (xs := xs) (put_same ..) (by rw [put_other (Ne.symm hne), put_same]) (by rw [put_other hlx, put_other hldx]; exact put_fresh hb el) hlx hz ?_
  intro hd st σ₁ hs h1 h2 dm keep hg
  refine ⟨rfl, a_local ?_⟩
  rw [upd_frm (i := 2) rfl (by simp)]
  have bx : b ≠ x := by rintro rfl; rw [put_same] at hx; cases hx
  have bdx : b ≠ dx := by rintro rfl; rw [put_same] at hdx; cases hdx
  have fx : σ.m x = none := by rw [put_other (Ne.symm bx)] at hx; exact hx
  have fdx : σ.m dx = none := by rw [put_other (Ne.symm bdx)] at hdx; exact hdx
  have hb2 : ((((σ.put b (.tup [.ty "list", .ty "tuple"])).put dx (.ns 0 fun _ => none)).put x (.dom 303 dx []))).m b = some (.tup [.ty "list", .ty "tuple"]) := by rw [put_other bx, put_other bdx, put_same]
  have fr : ∀ y, ((((σ.put b (.tup [.ty "list", .ty "tuple"])).put dx (.ns 0 fun _ => none)).put x (.dom 303 dx []))).m y = none → σ.m y = none := fun y e => by
    by_cases q1 : y = x
    · subst q1; exact fx
    · by_cases q2 : y = dx
      · subst q2; exact fdx
      · by_cases q3 : y = b
        · subst q3; exact hb
        · rw [put_other q1, put_other q2, put_other q3] at e; exact e
  have fhd := fr hd h1
  have fst := fr st h2
  have kp : Kp (fun b => b = vd) σ σ₁ := by
    refine ⟨fun y o e _ => ?_, fun y e => ?_, hg⟩
    · have n1 : y ≠ x := by rintro rfl; rw [fx] at e; cases e
      have n2 : y ≠ dx := by rintro rfl; rw [fdx] at e; cases e
      have n3 : y ≠ hd := by rintro rfl; rw [fhd] at e; cases e
      have n4 : y ≠ st := by rintro rfl; rw [fst] at e; cases e
      have n5 : y ≠ b := by rintro rfl; rw [hb] at e; cases e
      rw [keep y n1 n2 n3 n4, put_other n1, put_other n2, put_other n5]; exact e
    · by_cases n1 : y = x
      · subst n1; exact fx
      by_cases n2 : y = dx
      · subst n2; exact fdx
      by_cases n3 : y = hd
      · subst n3; exact fhd
      by_cases n4 : y = st
      · subst n4; exact fst
      rw [keep y n1 n2 n3 n4] at e
      exact fr y e
  refine s_nil (s_cons (x_if (t_not (t_val (e_local rfl (tru_sq O (IsSq.dom 303 dx) dm.obj (le_line (by omega)) ?_ (bool303 _) (len303 _) (sub303 _)))))))
  rw [if_neg (by simpa using hxe)]
  refine s_nil ?_
  have ne : ∀ {y : Addr} {o : AObj}, σ.m y = some o → ∀ S, S = vd → y ≠ S → σ₁.m y = some o := fun e S q n => kp.kept _ _ e (by rw [← q]; exact n)
  have npx : px ≠ vd := by rintro rfl; rw [pa.ns] at ev; cases ev
  have np : p ≠ vd := by rintro rfl; rw [pa.obj] at ev; cases ev
  have ev1 : σ₁.m vd = some (.dict es nv') := by
    have n1 : vd ≠ x := by rintro rfl; rw [fx] at ev; cases ev
    have n2 : vd ≠ dx := by rintro rfl; rw [fdx] at ev; cases ev
    have n3 : vd ≠ hd := by rintro rfl; rw [fhd] at ev; cases ev
    have n4 : vd ≠ st := by rintro rfl; rw [fst] at ev; cases ev
    have n5 : vd ≠ b := by rintro rfl; rw [hb] at ev; cases ev
    rw [keep vd n1 n2 n3 n4, put_other n1, put_other n2, put_other n5]; exact ev
  refine s_cons (x_assign (e_local rfl (a_sub (e_attr (e_local rfl (att_own O (ne pa.obj _ rfl np) (ne pa.ns _ rfl npx) (by rfl) (e_local rfl (si_dict ev1 (le_line (by omega)) fun n' => ?_)) rfl rfl (ga110 _) (at110_variables _)))))))
  refine s_nil (h x dx hd st _ n' fx fdx fhd fst hs (kp.put (.inl rfl)) (dm.keep fun y o e q => ?_) (put_same ..))
  rw [put_other]; · exact e
  rintro rfl
  rcases q with q | q | q | q
  · rw [q, fx] at ev; cases ev
  · rw [q, fdx] at ev; cases ev
  · rw [q, fhd] at ev; cases ev
  · rw [q, fst] at ev; cases ev
theorem sub_bcls {k : Nat} : subIn (KK w.params) (.ref (bcls k)) (.ref 347) = some true := by
  match k with
  | 0 => exact sub410 _
  | 1 => exact sub445 _
  | k + 2 => exact sub473 _
theorem addc1_spec (O : (BB w h0).Ok) {p px sv cl vd c cx ml : Addr} {C : Con} {k : Nat} {cs : List AV} {Q : AV → St → Prop} (lo : Lo 12 A) (pa : ProbAt σ p px sv cl vd k) (ec : σ.m cl = some (.list cs)) (ca : ConAt σ C c cx ml) (hz : cs.length ≤ 1000)
    (h : ∀ t σ', σ.m t = none → Kp (fun b => b = cl) σ σ' → σ'.m t = some (.tup [.ref c, .none]) → σ'.m cl = some (.list (cs ++ [.ref t])) → Q .none σ') :
    Callf (BB w h0) A (.ref 79) [.ref p, .ref c] σ Q := by
  refine call_fn O (k := 11) (n := 2) (ps := ["self", "constraint"]) (ds := [("variables", .none)]) (rest := ["msg"]) lo rfl rfl rfl (fun s g X => kp_binds X fun _ => rfl) rfl rfl (by decide) (by decide) (by decide) ?_
  intro L hL
  refine s_cons (x_if (t_not (t_val (e_call (e_boot O (g_isinstance _) rfl (es_cons (e_local rfl (es_cons (e_glob O (g_Constraint _) (es_nil ⟨kee_bi, c_isi_cls O ca.obj rfl (tru_bool ?_) (ty347 _) (cl347 _) sub_bcls⟩))))))))))
  rw [if_neg (by decide)]
  refine s_nil (s_cons (x_expr (e_meth (e_attr (e_local rfl (att_own O pa.obj pa.ns (by rfl) (fun pl => ml_append O ec ?_) rfl rfl (ga110 _) (at110_constraints _)))))))
  refine es_cons (e_tuple (es_cons (e_local rfl (es_cons (e_local rfl (es_nil ⟨le_line (show 2 ≤ 10000 by decide), fun b hb => ?_⟩))))))
  have nb : cl ≠ b := by rintro rfl; rw [ec] at hb; cases hb
  refine es_nil ⟨kee_bi, c_append O IsSq.list (put_fresh hb ec) (le_line (by omega)) (s_nil ?_)⟩
  exact h b _ hb ((Kp.refl.put (.inr hb)).put (.inl rfl)) (by rw [put_other (Ne.symm nb), put_same]; rfl) (put_same ..)
end Mine
set_option maxHeartbeats 200000
namespace Mine
variable {w : World} {h0 : Heap} {A : Around} {σ σ' σ'' : St} {ℓ : Loc}
theorem cmp_is_ne {B : Bs} {a b : Addr} {ao bo : AObj} {ca cb : Value} {Q : AV → St → Prop} (ea : σ.m a = some ao) (eb : σ.m b = some bo) (ha : ao.cls = some ca) (hb : bo.cls = some cb) (hn : cb ≠ .type "tuple") (hne : a ≠ b) (h : Q (.bool false) σ) : Cmp B A .Is (.ref a) (.ref b) σ Q := fun va vb h1 h2 s R => by
  obtain rfl := ab_ref h1
  obtain rfl := ab_ref h2
  obtain ⟨oa, xa, _⟩ := obj_at R ea ha
  obtain ⟨ob, xb, yb, _⟩ := obj_at R eb hb
  exact wpAny_bind (SeqAt.wpAny_isSame_ref_other' hne xa xb (by rw [yb]; exact hn) (wpAny_pure ⟨σ, R, .refl .., h⟩))
theorem eq321 (O : (BB w h0).Ok) {C C' : Con} {c cx ml c' cx' ml' : Addr} {Q : AV → St → Prop} (lo : Lo 3 A) (ca : ConAt σ C c cx ml) (ca' : ConAt σ C' c' cx' ml') (hne : c ≠ c') (h : Q (.bool false) σ) : Callf (BB w h0) A (.ref 321) [.ref c, .ref c'] σ Q := by
  refine call_fn O (k := 2) (n := 2) (ps := ["self", "other"]) (ds := []) (rest := []) lo rfl rfl rfl (fun s g X => BindsTo.of_eq rfl) rfl rfl (by decide) (by decide) (by decide) ?_
  intro L hL
  refine s_cons (x_ret (e_and (e_call (e_boot O (g_isinstance _) rfl (es_cons (e_local rfl (es_cons (e_glob O (g_Constraint _) (es_nil ⟨kee_bi, c_isi_cls O ca'.obj rfl (tru_bool ?_) (ty347 _) (cl347 _) sub_bcls⟩)))))))))
  rw [if_pos rfl]
  exact e_cmp (e_local rfl (e_local rfl (cmp_is_ne ca.obj ca'.obj rfl rfl nofun hne h)))
theorem ty321 : typeIn (KK w.params) (.ref 321) = some (.type "function") := by rfl
theorem eq410 : findIn (KK w.params) (.ref 410) "__eq__" = some (some (.ref 321)) := by rfl
theorem eq445 : findIn (KK w.params) (.ref 445) "__eq__" = some (some (.ref 321)) := by rfl
theorem eq473 : findIn (KK w.params) (.ref 473) "__eq__" = some (some (.ref 321)) := by rfl
theorem eq_bcls {k : Nat} : findIn (KK w.params) (.ref (bcls k)) "__eq__" = some (some (.ref 321)) := by
  match k with
  | 0 => exact eq410
  | 1 => exact eq445
  | k + 2 => exact eq473
theorem nsub_bcls {k j : Nat} (h : bcls k ≠ bcls j) : subIn (KK w.params) (.ref (bcls k)) (.ref (bcls j)) = some false := by
  match k, j with
  | 0, 0 => exact absurd rfl h
  | 0, 1 => rfl
  | 0, j + 2 => rfl
  | 1, 0 => rfl
  | 1, 1 => exact absurd rfl h
  | 1, j + 2 => rfl
  | k + 2, 0 => rfl
  | k + 2, 1 => rfl
  | k + 2, j + 2 => exact absurd rfl h
/-- two constraints are never equal -/
theorem eqs_con_ne (O : (BB w h0).Ok) {C C' : Con} {c cx ml c' cx' ml' : Addr} (lo : Lo 4 A) (ca : ConAt σ C c cx ml) (ca' : ConAt σ C' c' cx' ml') (hne : c ≠ c') : Eqs (BB w h0) A (.ref c) (.ref c') σ false := fun vx vy h1 h2 s R => by
  obtain rfl := ab_ref h1
  obtain rfl := ab_ref h2
  obtain ⟨oa, xa, ya, _⟩ := obj_at R ca.obj rfl
  obtain ⟨ob, xb, yb, _⟩ := obj_at R ca'.obj rfl
  have X := R.kin O
  unfold eqBool
  refine wpAny_holding ?_
  refine wpAny_ite_split (fun q => absurd (by have := eq_of_beq q; injection this) hne) fun _ => ?_
  show wpAny _ _ (richCompare .Eq (.ref c) (.ref c') >>= truthOfDropped) _ _ s
  refine wpAny_bind ?_
  have key : ∀ Q : Value → Shared → Prop, (∀ s', (∃ σ', Rel (BB w h0) σ' s' ∧ Step σ s σ' s' ∧ σ' = σ) → Q (.bool false) s') → wpAny (model (BB w h0).prog (BB w h0).w) A (richCompare .Eq (.ref c) (.ref c')) Q (fun _ _ => False) s := fun Q k => by
    simp only [richCompare, cmpInfo, oneThing?]
    refine wpAny_holding (wpAny_bind (wpAny_cRoomFor lo.line ?_))
    refine wpAny_bind ((type_at R ca.obj rfl).here (wpAny_bind ((type_at R ca'.obj rfl).here ?_)))
    have tc : ∀ Q : Option Value → Shared → Prop, (∀ s₂, (∃ σ', Rel (BB w h0) σ' s₂ ∧ Step σ s σ' s₂ ∧ σ' = σ) → Q (some (.bool false)) s₂) → wpAny (model (BB w h0).prog (BB w h0).w) A (tryCompare (.ref c) "__eq__" (.ref c')) Q (fun _ _ => False) s := fun Q k => by
      simp only [tryCompare, callSpecialIfBound?, bindSpecialIfBound?, specialOf]
      have call : wpAny (model (BB w h0).prog (BB w h0).w) A (call (.ref 321) ([.ref c] ++ [.ref c']) >>= fun v => pure (some v)) (fun r s₂ => wpAny (model (BB w h0).prog (BB w h0).w) A (match r with | some .notImplemented => pure none | none => pure none | some v => pure (some v)) Q (fun _ _ => False) s₂) (fun _ _ => False) s := by
        refine wpAny_bind (wpAny_mono (eq321 O (lo.mono (by decide)) ca ca' hne (Q := fun v σ' => v = .bool false ∧ σ' = σ) ⟨rfl, rfl⟩ (.ref 321) [.ref c, .ref c'] rfl rfl s R) (fun v s₂ ⟨σ', a1, a2, a3, a4⟩ => ?_) fun _ _ x => x)
        obtain rfl := ab_bool a3
        exact wpAny_pure (wpAny_pure (k s₂ ⟨σ', a1, a2, a4⟩))
      refine wpAny_bind (wpAny_holding (wpAny_bind (wpAny_bind (wpAny_bind ((type_at R ca.obj rfl).here ((looks_findIn X eq_bcls).here ?_))))))
      refine wpAny_bind (wpAny_askSetting (wpAny_ite ?_))
      split
      · exact wpAny_bind ((bind_fn X _ ty321).here (wpAny_pure call))
      · exact wpAny_tryCatch (wpAny_bind ((bind_fn X _ ty321).here (wpAny_pure call)))
    split
    · rename_i q
      have ne : bcls C'.kind ≠ bcls C.kind := fun e => by rw [e] at q; simp at q
      refine wpAny_bind ((looks_subIn X (nsub_bcls ne)).here ?_)
      simp only [Bool.false_eq_true, if_false]
      exact wpAny_bind (tc _ fun s₂ h2 => wpAny_pure (k s₂ h2))
    · simp only [pure_bind, Bool.false_eq_true, if_false]
      exact wpAny_bind (tc _ fun s₂ h2 => wpAny_pure (k s₂ h2))
  exact key _ fun s' ⟨σ', a, b, e⟩ => wpAny_truthy_bool ⟨σ', a, b, rfl, e⟩
end Mine
set_option maxHeartbeats 200000
namespace Mine
variable {w : World} {h0 : Heap} {A : Around} {σ σ' σ'' : St} {ℓ : Loc}
theorem kind_teq : builtinKind "tuple.__eq__" = some .slot := by decide +kernel
theorem split_teq : splitId "tuple.__eq__" = some ("tuple", "__eq__") := by decide +kernel
theorem plain_teq : plainId "tuple.__eq__" = true := by decide +kernel
theorem tt_tuple : subIn (KK w.params) (.type "tuple") (.type "tuple") = some true := by rfl
theorem T0.tupItems {B : Bs} {a : Addr} {xs : List AV} {Q : Array Value → St → Prop} (e : σ.m a = some (.tup xs)) (k : ∀ vs : Array Value, vs.toList.map ab = xs → Q vs σ) : T0 B A (Builtin.Tuple.tupleItemsOf (.ref a)) σ Q := fun s R => by
  obtain ⟨vs, n, ho, h⟩ := tup_at R e
  exact wpAny_bind (wpAny_seqItems ho rfl (wpAny_pure ⟨σ, R, .refl .., k vs h⟩))
theorem f_teq_ne (O : (BB w h0).Ok) {t1 t2 : Addr} {x x' y y' : AV} {Q : AV → St → Prop} (e1 : σ.m t1 = some (.tup [x, y])) (e2 : σ.m t2 = some (.tup [x', y'])) (hx : Eqs (BB w h0) A.in1 x x' σ false) (k : Q (.bool false) σ) : Tf (BB w h0) A (Builtin.«tuple.__eq__» ⟨[.ref t1, .ref t2], []⟩) σ Q := by
  show Tf (BB w h0) A (Bind.bind (PySem.slotArgs "__eq__" 1 ⟨[.ref t1, .ref t2], []⟩) _) σ Q
  refine Tf.bind (T0.of_eq (v := ((Value.ref t1, [Value.ref t2]) : Value × List Value)) (by rfl) ?_)
  dsimp only
  refine Tf.bind (T0.look (v := true) (fun s R => isInst_at O R e2 rfl tt_tuple) ?_)
  rw [if_neg (by decide)]
  refine Tf.bind (T0.tupItems e1 fun vs hv => Tf.bind (T0.tupItems e2 fun ws hw => ?_))
  obtain ⟨u, u', hu, a1, a2⟩ := two hv
  obtain ⟨z, z', hz, b1, b2⟩ := two hw
  rw [hu, hz]
  show Tf (BB w h0) A (forIn [(u, z), (u', z')] (none, ()) _ >>= _) σ Q
  rw [List.forIn_cons]
  refine Tf.bind (T0.bind (T0.bind (T0.mono (hx u z a1 b1) ?_)))
  rintro r σ' ⟨rfl, rfl⟩
  rw [if_pos (by rfl)]
  refine T0.bind (T0.pure (T0.pure (T0.pure ?_)))
  exact fun s R => wpAny_pure (Rr.of R k)
/-- tuples of unlike constraints -/
theorem eqs_tup_ne (O : (BB w h0).Ok) {C C' : Con} {c cx ml c' cx' ml' t1 t2 : Addr} {y y' : AV} (lo : Lo 8 A) (ht : t1 ≠ t2) (e1 : σ.m t1 = some (.tup [.ref c, y])) (e2 : σ.m t2 = some (.tup [.ref c', y'])) (ca : ConAt σ C c cx ml) (ca' : ConAt σ C' c' cx' ml') (hne : c ≠ c') : Eqs (BB w h0) A (.ref t1) (.ref t2) σ false := fun vx vy h1 h2 s R => by
  obtain rfl := ab_ref h1
  obtain rfl := ab_ref h2
  obtain ⟨v1, n1, o1, _⟩ := tup_at R e1
  obtain ⟨v2, n2, o2, _⟩ := tup_at R e2
  unfold eqBool
  refine wpAny_holding ?_
  refine wpAny_ite_split (fun q => absurd (by have := eq_of_beq q; injection this) ht) fun _ => ?_
  show wpAny _ _ (richCompare .Eq (.ref t1) (.ref t2) >>= truthOfDropped) _ _ s
  have call : Callf (BB w h0) A (.bi "tuple.__eq__") [.ref t1, .ref t2] σ fun v σ' => v = .bool false ∧ σ' = σ :=
    call_builtin plain_teq F.entry_tuple_eq fun vs hv => by
      obtain ⟨u, v, rfl, g1, g2⟩ := two hv
      obtain rfl := ab_ref g1
      obtain rfl := ab_ref g2
      have k3 := F.args_tuple_eq_2 (.ref t1) (.ref t2)
      exact chk_slot kind_teq split_teq (fun s R => isInst_at O R e1 rfl tt_tuple) k3 (f_teq_ne O e1 e2 (eqs_con_ne O (((lo.mono (m := 5) (by decide)).in1)) ca ca' hne) ⟨rfl, rfl⟩)
  refine wpAny_bind (wpAny_richCompare_same_room (op := .Eq) (T := "tuple") ⟨_, o1, rfl⟩ ⟨_, o2, rfl⟩ F.slot_tuple_eq (wpAny_mono (call (.builtin "tuple.__eq__") [.ref t1, .ref t2] rfl rfl s R) (fun v s' ⟨σ', a1, a2, a3, a4⟩ => ?_) fun _ _ x => x) lo.line)
  obtain rfl := ab_bool a3
  exact ⟨nofun, wpAny_truthy_bool ⟨σ', a1, a2, rfl, a4⟩⟩
end Mine
set_option maxHeartbeats 200000
set_option maxHeartbeats 4000000
namespace Mine
variable {w : World} {h0 : Heap} {A : Around} {σ σ' σ'' : St} {ℓ : Loc}
/-- changes to what is new are no changes -/
theorem Kp.tail {S S' : Addr → Prop} (x : Kp S σ σ') (y : Kp S' σ' σ'') (h : ∀ b, S' b → S b ∨ σ.m b = none) : Kp S σ σ'' := by
  refine ⟨fun b o e n => y.kept b o (x.kept b o e n) fun q => ?_, fun b e => x.live b (y.live b e), y.g.trans x.g⟩
  rcases h b q with z | z
  · exact n z
  · rw [z] at e; cases e
theorem ta_nil {B : Bs} {env : Env} {Q : Loc → St → Prop} (h : Q ℓ σ) : TaL B A env [] [] ℓ σ Q := by unfold TaL; exact h
/-- a constraint as it was added -/
structure CE where
  C : Con
  c : Addr
  cx : Addr
  ml : Addr
  v : AV
/-- the row of its names, once the unnamed are filled in -/
def CE.vl (e : CE) (av : Addr) : Addr := match e.v with
  | .ref l => l
  | _ => av
structure CEOk (σ : St) (W : Wd) (e : CE) : Prop where
  at' : ConAt σ e.C e.c e.cx e.ml
  good : GoodCon e.C
  lt : ∀ i ∈ e.C.vs, i < W.n
  len : e.C.vs.length ≤ 100
  nod : e.C.vs.Nodup
  ne : e.C.vs ≠ []
  row : (e.v = .none ∧ e.C.vs = List.range W.n) ∨ ∃ l, e.v = .ref l ∧ σ.m l = some (.list (nv e.C.vs)) ∧ ¬ W.dyn l
  ml : e.C.fs ≠ [] → ¬ W.dyn e.ml
def fdOf (K : Frag) (a : Addr) : FuncData := match K.lookup a with
  | some ⟨_, _, .func fd, _⟩ => fd
  | _ => default
def bodyOf (K : Frag) (a : Addr) : List Stmt := match (fdOf K a).body with
  | .stmts b => b
  | _ => []
theorem pairs_get {ts : List Addr} {j : Nat} {v : AV} (h : (ts.map AV.ref)[j]? = some v) : ∃ h' : j < ts.length, v = .ref ts[j] := by
  rw [List.getElem?_map] at h
  obtain ⟨x, h1, h2⟩ := Option.map_eq_some_iff.mp h
  obtain ⟨h3, h4⟩ := List.getElem?_eq_some_iff.mp h1
  exact ⟨h3, by rw [← h2, h4]⟩
theorem esD_keys {W : Wd} : ((esD W).map fun p => AV.int p.1) = nv (List.range W.n) := by
  unfold esD; rw [List.map_map]; rfl
/-- the first part of _getArgs: fresh rows -/
theorem ga1 (O : (BB w h0).Ok) {W : Wd} {p px sv pcl vd L : Addr} {k nvd : Nat} {cons : List CE} {ts : List Addr} {Q : AF → Loc → St → Prop} (lo : Lo 30 A) (pa : ProbAt σ p px sv pcl vd k) (evd : σ.m vd = some (.dict (esD W) nvd)) (hn : W.n ≤ 100) (ecl : σ.m pcl = some (.list (ts.map .ref))) (hlen : ts.length = cons.length) (hc : cons.length ≤ 100)
    (hts : ∀ j (h1 : j < ts.length) (h2 : j < cons.length), σ.m ts[j] = some (.tup [.ref cons[j].c, cons[j].v])) (ok : ∀ e ∈ cons, CEOk σ W e)
    (h : ∀ dd nd av cl (us : List Addr) u1 u2 σ', Kp (fun _ => False) σ σ' → σ.m dd = none → σ.m av = none → σ.m cl = none → us.length = cons.length → (∀ u ∈ us, σ.m u = none) → σ'.m dd = some (.dict (esD W) nd) → σ'.m av = some (.list (nv (List.range W.n))) → σ'.m cl = some (.list (us.map .ref)) → av ≠ cl →
      (∀ j (h1 : j < us.length) (h2 : j < cons.length), σ'.m us[j] = some (.tup [.ref cons[j].c, .ref (cons[j].vl av)])) →
      Ts (BB w h0) A (callEnv (fdOf (KK w.params) 107) L 107) ((bodyOf (KK w.params) 107).drop 4) (frm ["self", "domains", "allvariables", "constraints", "constraint", "variables", "vconstraints", "variable", "domain"] [some (.ref p), some (.ref dd), some (.ref av), some (.ref cl), u1, u2, none, none, none]) σ' Q) :
    Ts (BB w h0) A (callEnv (fdOf (KK w.params) 107) L 107) (bodyOf (KK w.params) 107) (frm ["self", "domains", "allvariables", "constraints", "constraint", "variables", "vconstraints", "variable", "domain"] [some (.ref p), none, none, none, none, none, none, none, none]) σ Q := by
  refine s_cons (x_assign (e_meth (e_attr (e_local rfl (att_own O pa.obj pa.ns (by rfl) (fun pl => md_copy O evd (es_nil ⟨kee_bi, c_dict_copy evd (le_line (by simp [esD]; omega)) fun dd nd hdd => a_local ?_⟩)) rfl rfl (ga110 _) (at110_variables _))))))
  rw [upd_frm (i := 1) rfl (by simp)]
  refine s_cons (x_assign (e_call (e_boot O (g_list _) rfl (es_cons (e_local rfl (es_nil ⟨kee_ty, c_list_dict lo.hh (put_same ..) (le_line (by simp [esD]; omega)) fun av hav => a_local ?_⟩))))))
  rw [upd_frm (i := 2) rfl (by simp), esD_keys]
  refine s_cons (x_assign (e_list (es_nil ⟨Nat.zero_le _, fun cl hcl => a_local ?_⟩)))
  rw [upd_frm (i := 3) rfl (by simp)]
  have hda : dd ≠ av := by rintro rfl; rw [put_same] at hav; cases hav
  have hdc : dd ≠ cl := by rintro rfl; rw [put_other hda, put_same] at hcl; cases hcl
  have hac : av ≠ cl := by rintro rfl; rw [put_same] at hcl; cases hcl
  have fav : σ.m av = none := by rw [put_other (Ne.symm hda)] at hav; exact hav
  have fcl : σ.m cl = none := by rw [put_other (Ne.symm hac), put_other (Ne.symm hdc)] at hcl; exact hcl
  have kp0 : Kp (fun _ => False) σ (((σ.put dd (.dict (esD W) nd)).put av (.list (nv (List.range W.n)))).put cl (.list [])) := ((Kp.refl.put (.inr hdd)).put (.inr hav)).put (.inr hcl)
  refine s_cons (x_for (e_attr (e_local rfl (att_own O (kp0.kept _ _ pa.obj id) (kp0.kept _ _ pa.ns id) (by rfl) ?_ rfl rfl (ga110 _) (at110_constraints _)))))
  refine ⟨_, _, _, fun j ℓ' σ' => ∃ u1 u2, ∃ us : List Addr, ℓ' = frm ["self", "domains", "allvariables", "constraints", "constraint", "variables", "vconstraints", "variable", "domain"] [some (.ref p), some (.ref dd), some (.ref av), some (.ref cl), u1, u2, none, none, none] ∧ Kp (fun b => b = cl) (((σ.put dd (.dict (esD W) nd)).put av (.list (nv (List.range W.n)))).put cl (.list [])) σ' ∧ us.length = j ∧ (∀ u ∈ us, σ.m u = none ∧ u ≠ cl) ∧ σ'.m cl = some (.list (us.map .ref)) ∧
      (∀ i (h1 : i < us.length) (h2 : i < cons.length), σ'.m us[i] = some (.tup [.ref cons[i].c, .ref (cons[i].vl av)])), it_list lo.hh (kp0.kept _ _ ecl id), ⟨none, none, [], rfl, .refl, rfl, by simp, put_same .., by simp⟩, ?_, ?_, ?_⟩
  · rintro j ℓ' σ' ⟨u1, u2, us, _, kp, _⟩
    have : pcl ≠ cl := by rintro rfl; rw [ecl] at fcl; cases fcl
    exact kp.kept _ _ (kp0.kept _ _ ecl id) this
  · rintro j v ℓ' σ' hj hv ⟨u1, u2, us, rfl, kp, hus, fus, ecl', tup⟩
    obtain ⟨hj', rfl⟩ := pairs_get hv
    have hj2 : j < cons.length := hlen ▸ hj'
    have keep : ∀ {x : Addr} {o : AObj}, σ.m x = some o → σ'.m x = some o := fun {x o} e => kp.kept _ _ (kp0.kept _ _ e id) (by rintro rfl; rw [e] at fcl; cases fcl)
    have et := keep (hts j hj' hj2)
    have eok := ok _ (List.getElem_mem hj2)
    refine a_tuple lo.hh et rfl (a_local (a_local (ta_nil ?_)))
    rw [upd_frm (i := 4) rfl (by simp), upd_frm (i := 5) rfl (by simp)]
    have eav : σ'.m av = some (.list (nv (List.range W.n))) := kp.kept _ _ (by rw [put_other hac, put_same]) hac
    -- the row filled in
    have fin : ∀ {ℓ₂ : Loc} {A' : Around}, ℓ₂ = frm ["self", "domains", "allvariables", "constraints", "constraint", "variables", "vconstraints", "variable", "domain"] [some (.ref p), some (.ref dd), some (.ref av), some (.ref cl), some (.ref cons[j].c), some (.ref (cons[j].vl av)), none, none, none] → True := fun _ => trivial
    refine s_cons (x_if (t_not (t_val (e_local rfl ?_))))
    have app : ∀ b, σ'.m b = none → ∃ u1 u2, ∃ us' : List Addr, frm ["self", "domains", "allvariables", "constraints", "constraint", "variables", "vconstraints", "variable", "domain"] [some (.ref p), some (.ref dd), some (.ref av), some (.ref cl), some (.ref cons[j].c), some (.ref (cons[j].vl av)), none, none, none] = frm ["self", "domains", "allvariables", "constraints", "constraint", "variables", "vconstraints", "variable", "domain"] [some (.ref p), some (.ref dd), some (.ref av), some (.ref cl), u1, u2, none, none, none] ∧ Kp (fun b => b = cl) (((σ.put dd (.dict (esD W) nd)).put av (.list (nv (List.range W.n)))).put cl (.list [])) ((σ'.put b (.tup [.ref cons[j].c, .ref (cons[j].vl av)])).put cl (.list (us.map .ref ++ [.ref b]))) ∧ us'.length = j + 1 ∧ (∀ u ∈ us', σ.m u = none ∧ u ≠ cl) ∧ ((σ'.put b (.tup [.ref cons[j].c, .ref (cons[j].vl av)])).put cl (.list (us.map .ref ++ [.ref b]))).m cl = some (.list (us'.map .ref)) ∧
      (∀ i (h1 : i < us'.length) (h2 : i < cons.length), ((σ'.put b (.tup [.ref cons[j].c, .ref (cons[j].vl av)])).put cl (.list (us.map .ref ++ [.ref b]))).m us'[i] = some (.tup [.ref cons[i].c, .ref (cons[i].vl av)])) := by
      intro b hb
      have nbc : b ≠ cl := by rintro rfl; rw [ecl'] at hb; cases hb
      refine ⟨_, _, us ++ [b], rfl, (kp.put (.inr hb)).put (.inl rfl), by simp [hus], fun u hu => ?_, by rw [put_same]; simp, fun i h1 h2 => ?_⟩
      · rcases List.mem_append.mp hu with q | q
        · exact fus u q
        · obtain rfl := List.mem_singleton.mp q
          exact ⟨kp0.live _ (kp.live _ hb), nbc⟩
      · by_cases q : i < us.length
        · have e1 : (us ++ [b])[i] = us[i] := List.getElem_append_left q
          rw [e1, put_other (fus _ (List.getElem_mem q)).2]
          exact put_fresh hb (tup i q h2)
        · have q2 : i = j := by simp at h1; omega
          subst q2
          have e1 : (us ++ [b])[i] = b := by rw [List.getElem_append_right (by omega)]; simp
          rw [e1, put_other nbc, put_same]
    rcases eok.row with ⟨r1, r2⟩ | ⟨l, r1, r2, r3⟩
    · have hvl : cons[j].vl av = av := by unfold CE.vl; rw [r1]
      rw [r1]
      refine tru_none ?_
      rw [if_pos (show (!false) = true from rfl)]
      refine s_cons (x_assign (e_local rfl (a_local ?_)))
      rw [upd_frm (i := 5) rfl (by simp)]
      refine s_nil (s_cons (x_expr (e_meth (e_local rfl fun pl => ml_append O ecl' ?_))))
      refine es_cons (e_tuple (es_cons (e_local rfl (es_cons (e_local rfl (es_nil ⟨le_line (show 2 ≤ 10000 by decide), fun b hb => ?_⟩))))))
      refine es_nil ⟨kee_bi, c_append O IsSq.list (put_fresh hb ecl') (le_line (by simp; omega)) (s_nil ?_)⟩
      have := app b hb
      rw [hvl] at this
      exact this
    · have hvl : cons[j].vl av = l := by unfold CE.vl; rw [r1]
      rw [r1]
      refine tru_sq O IsSq.list (keep r2) (le_line (by have := eok.len; simp; omega)) ?_
      rw [if_neg (by have := eok.ne; simpa using this)]
      refine s_nil (s_cons (x_expr (e_meth (e_local rfl fun pl => ml_append O ecl' ?_))))
      refine es_cons (e_tuple (es_cons (e_local rfl (es_cons (e_local rfl (es_nil ⟨le_line (show 2 ≤ 10000 by decide), fun b hb => ?_⟩))))))
      refine es_nil ⟨kee_bi, c_append O IsSq.list (put_fresh hb ecl') (le_line (by simp; omega)) (s_nil ?_)⟩
      have := app b hb
      rw [hvl] at this
      exact this
  · rintro ℓ' σ' ⟨u1, u2, us, rfl, kp, hus, fus, ecl', tup⟩
    rw [List.length_map] at hus
    refine s_nil (h dd nd av cl us u1 u2 σ' (kp0.tail kp fun b q => .inr (by rw [q]; exact fcl)) hdd fav fcl (hus.trans hlen) (fun u hu => (fus u hu).1) (kp.kept _ _ (by rw [put_other hdc, put_other hda, put_same]) hdc) (kp.kept _ _ (by rw [put_other hac, put_same]) hac) ecl' hac tup)
end Mine
set_option maxHeartbeats 200000
set_option maxHeartbeats 4000000
namespace Mine
variable {w : World} {h0 : Heap} {A : Around} {σ σ' σ'' : St} {ℓ : Loc}
theorem dset_new {es : List (Int × AV)} {k : Int} {v : AV} (h : ∀ p ∈ es, p.1 ≠ k) : dset es k v = es ++ [(k, v)] := by
  unfold dset
  rw [if_neg]
  intro q
  obtain ⟨p, hp, e⟩ := List.any_eq_true.mp q
  exact h p hp (of_decide_eq_true e)
def esV (n : Nat) (vv : Nat → Addr) : List (Int × AV) := (List.range n).map fun (i : Nat) => ((i : Int), .ref (vv i))
theorem esV_succ {j b : Nat} {vv : Nat → Addr} : dset (esV j vv) (j : Int) (.ref b) = esV (j + 1) (fun i => if i = j then b else vv i) := by
  rw [dset_new]
  · unfold esV
    rw [List.range_succ, List.map_append]
    congr 1
    · apply List.map_congr_left
      intro i hi
      have : i ≠ j := by have := List.mem_range.mp hi; omega
      simp [this]
    · simp
  · intro p hp
    obtain ⟨i, hi, rfl⟩ := List.mem_map.mp hp
    have := List.mem_range.mp hi
    show (i : Int) ≠ j
    omega
abbrev gaN : List Str := ["self", "domains", "allvariables", "constraints", "constraint", "variables", "vconstraints", "variable", "domain"]
/-- the rows of the constraints of each name -/
structure Rows' (σ : St) (n : Nat) (cons : List CE) (av : Addr) (vv : Nat → Addr) (L : Nat → List (Addr × Nat)) (q : Nat → Nat → Prop) : Prop where
  at' : ∀ i, i < n → σ.m (vv i) = some (.list ((L i).map fun p => .ref p.1))
  tup : ∀ i, i < n → ∀ p ∈ L i, ∃ h : p.2 < cons.length, σ.m p.1 = some (.tup [.ref cons[p.2].c, .ref (cons[p.2].vl av)])
  nod : ∀ i, i < n → ((L i).map (·.2)).Nodup
  mem : ∀ i, i < n → ∀ e, e ∈ (L i).map (·.2) ↔ q i e
theorem Rows'.keep {n : Nat} {cons : List CE} {av : Addr} {vv : Nat → Addr} {R : Nat → List (Addr × Nat)} {q q' : Nat → Nat → Prop} (x : Rows' σ n cons av vv R q) (h : ∀ i e, i < n → (q i e ↔ q' i e)) : Rows' σ n cons av vv R q' :=
  ⟨x.at', x.tup, x.nod, fun i hi e => (x.mem i hi e).trans (h i e hi)⟩
theorem take_mem_nodup {vs : List Nat} (h : vs.Nodup) {m : Nat} (hm : m < vs.length) : vs[m] ∉ vs.take m := fun q => by
  rw [← List.take_append_drop m vs] at h
  exact (List.nodup_append.mp h).2.2 _ q _ (by rw [List.drop_eq_getElem_cons hm]; exact List.mem_cons_self ..) rfl
theorem ga2 (O : (BB w h0).Ok) {W : Wd} {p dd av cl L : Addr} {nd : Nat} {cons : List CE} {us : List Addr} {u1 u2 : Option AV} {Q : AF → Loc → St → Prop} (lo : Lo 20 A) (hn : W.n ≤ 100) (edd : σ.m dd = some (.dict (esD W) nd)) (ecl : σ.m cl = some (.list (us.map .ref))) (hlen : us.length = cons.length) (hc : cons.length ≤ 100)
    (hus : ∀ j (h1 : j < us.length) (h2 : j < cons.length), σ.m us[j] = some (.tup [.ref cons[j].c, .ref (cons[j].vl av)])) (hvl : ∀ e ∈ cons, σ.m (e.vl av) = some (.list (nv e.C.vs)) ∧ e.C.vs.Nodup ∧ ∀ i ∈ e.C.vs, i < W.n)
    (h : ∀ vd nvd vv R u1 u2 u3 σ', Kp (fun _ => False) σ σ' → σ.m vd = none → (∀ i, i < W.n → σ.m (vv i) = none) → (∀ i j, i < W.n → j < W.n → vv i = vv j → i = j) → σ'.m vd = some (.dict (esV W.n vv) nvd) → Rows' σ' W.n cons av vv R (fun i e => ∃ h : e < cons.length, i ∈ cons[e].C.vs) →
      Ts (BB w h0) A (callEnv (fdOf (KK w.params) 107) L 107) ((bodyOf (KK w.params) 107).drop 7) (frm gaN [some (.ref p), some (.ref dd), some (.ref av), some (.ref cl), u1, u2, some (.ref vd), u3, none]) σ' Q) :
    Ts (BB w h0) A (callEnv (fdOf (KK w.params) 107) L 107) ((bodyOf (KK w.params) 107).drop 4) (frm gaN [some (.ref p), some (.ref dd), some (.ref av), some (.ref cl), u1, u2, none, none, none]) σ Q := by
  refine s_cons (x_assign (e_dict0 fun vd hvd => a_local ?_))
  rw [upd_frm (i := 6) rfl (by simp)]
  have k0 : Kp (fun _ => False) σ (σ.put vd (.dict [] 0)) := Kp.refl.put (.inr hvd)
  refine s_cons (x_for (e_local rfl ?_))
  refine ⟨_, _, _, fun j ℓ' σ' => ∃ u3, ∃ vv : Nat → Addr, ∃ nvd, ℓ' = frm gaN [some (.ref p), some (.ref dd), some (.ref av), some (.ref cl), u1, u2, some (.ref vd), u3, none] ∧ Kp (fun b => b = vd) (σ.put vd (.dict [] 0)) σ' ∧ σ'.m vd = some (.dict (esV j vv) nvd) ∧ ∀ i, i < j → σ'.m (vv i) = some (.list []) ∧ σ.m (vv i) = none ∧ vv i ≠ vd ∧ ∀ i', i' < j → vv i = vv i' → i = i', it_dict lo.hh (k0.kept _ _ edd id), ⟨none, fun _ => 0, 0, rfl, .refl, by rw [put_same]; rfl, by simp⟩, ?_, ?_, ?_⟩
  · rintro j ℓ' σ' ⟨u3, vv, nvd, _, kp, _⟩
    exact kp.kept _ _ (k0.kept _ _ edd id) (by rintro rfl; rw [edd] at hvd; cases hvd)
  · rintro j v ℓ' σ' hj ⟨pr, hpr, rfl⟩ ⟨u3, vv, nvd, rfl, kp, evd, hvv⟩
    have hj' : j < W.n := by simpa [esD] using hj
    have hpr' : pr = ((j : Int), .ref (W.d j)) := by
      unfold esD at hpr
      rw [List.getElem?_map, List.getElem?_range hj'] at hpr
      cases hpr; rfl
    subst hpr'
    refine a_local ?_
    rw [upd_frm (i := 7) rfl (by simp)]
    refine s_cons (x_assign (e_list (es_nil ⟨Nat.zero_le _, fun b hb => a_sub (e_local rfl (e_local rfl (si_dict (put_fresh hb evd) (le_line (by simp [esV]; omega)) fun n' => ?_)))⟩)))
    rw [esV_succ]
    have fb : σ.m b = none := k0.live _ (kp.live _ hb)
    have nbv : b ≠ vd := by rintro rfl; rw [evd] at hb; cases hb
    refine s_nil ⟨_, _, n', rfl, (kp.put (.inr hb)).put (.inl rfl), put_same .., fun i hi => ?_⟩
    by_cases q : i = j
    · subst q
      rw [if_pos rfl, put_other nbv, put_same]
      refine ⟨rfl, fb, nbv, fun i' hi' e => ?_⟩
      by_cases q2 : i' = i
      · exact q2.symm
      · rw [if_neg q2] at e
        have := (hvv i' (by omega)).1
        rw [← e, hb] at this; cases this
    · obtain ⟨v1, v2, v3, v4⟩ := hvv i (by omega)
      rw [if_neg q, put_other v3]
      refine ⟨put_fresh hb v1, v2, v3, fun i' hi' e => ?_⟩
      by_cases q2 : i' = j
      · rw [if_pos q2] at e
        rw [e, hb] at v1; cases v1
      · rw [if_neg q2] at e
        exact v4 i' (by omega) e
  · rintro ℓ' σ' ⟨u3, vv, nvd, rfl, kp, evd, hvv⟩
    have hlen' : (esD W).length = W.n := by simp [esD]
    rw [hlen'] at evd hvv
    refine s_nil ?_
    have k1 : Kp (fun _ => False) σ σ' := k0.tail kp fun b q => .inr (by rw [q]; exact hvd)
    have fvv : ∀ i, i < W.n → σ.m (vv i) = none := fun i hi => (hvv i hi).2.1
    have inj : ∀ i j, i < W.n → j < W.n → vv i = vv j → i = j := fun i j hi hj e => (hvv i hi).2.2.2 j hj e
    refine s_cons (x_for (e_local rfl ?_))
    refine ⟨_, _, _, fun j ℓ' σ' => ∃ u1 u2 u3, ∃ R : Nat → List (Addr × Nat), ℓ' = frm gaN [some (.ref p), some (.ref dd), some (.ref av), some (.ref cl), u1, u2, some (.ref vd), u3, none] ∧ Kp (fun _ => False) σ σ' ∧ σ'.m vd = some (.dict (esV W.n vv) nvd) ∧ Rows' σ' W.n cons av vv R (fun i e => ∃ h : e < cons.length, e < j ∧ i ∈ cons[e].C.vs), it_list lo.hh (k1.kept _ _ ecl id), ⟨u1, u2, u3, fun _ => [], rfl, k1, evd, ⟨fun i hi => (hvv i hi).1, by simp, by simp, fun i hi e => by simp⟩⟩, ?_, ?_, ?_⟩
    · rintro j ℓ' σ₂ ⟨_, _, _, _, _, kp, _⟩
      exact kp.kept _ _ ecl id
    · rintro j v ℓ' σ₂ hj hv ⟨w1, w2, w3, R, rfl, kp, evd, rows⟩
      obtain ⟨hj', rfl⟩ := pairs_get hv
      have hj2 : j < cons.length := hlen ▸ hj'
      obtain ⟨g1, g2, g3⟩ := hvl _ (List.getElem_mem hj2)
      refine a_tuple lo.hh (kp.kept _ _ (hus j hj' hj2) id) rfl (a_local (a_local (ta_nil ?_)))
      rw [upd_frm (i := 4) rfl (by simp), upd_frm (i := 5) rfl (by simp)]
      refine s_cons (x_for (e_local rfl ?_))
      refine ⟨_, _, _, fun m ℓ' σ₃ => ∃ u3, ∃ R : Nat → List (Addr × Nat), ℓ' = frm gaN [some (.ref p), some (.ref dd), some (.ref av), some (.ref cl), some (.ref cons[j].c), some (.ref (cons[j].vl av)), some (.ref vd), u3, none] ∧ Kp (fun _ => False) σ σ₃ ∧ σ₃.m vd = some (.dict (esV W.n vv) nvd) ∧ Rows' σ₃ W.n cons av vv R (fun i e => (∃ h : e < cons.length, e < j ∧ i ∈ cons[e].C.vs) ∨ (e = j ∧ i ∈ cons[j].C.vs.take m)), it_list lo.hh (kp.kept _ _ g1 id), ⟨w3, R, rfl, kp, evd, rows.keep fun i e hi => by simp⟩, ?_, ?_, ?_⟩
      · rintro m ℓ' σ₃ ⟨_, _, _, kp, _⟩
        exact kp.kept _ _ g1 id
      · rintro m v ℓ' σ₃ hm hv ⟨w3, R, rfl, kp, evd, rows⟩
        obtain ⟨hm', rfl⟩ := nv_get hv
        have hin := g3 _ (List.getElem_mem hm')
        generalize hk : cons[j].C.vs[m] = k at hin
        refine a_local ?_
        rw [upd_frm (i := 7) rfl (by simp)]
        have ek := rows.at' k hin
        have sz : (R k).length ≤ 100 := by
          have h1 : ((R k).map (·.2)).length ≤ (List.range cons.length).length := by
            refine List.Nodup.length_le_of_subset (rows.nod k hin) fun e he => ?_
            rcases (rows.mem k hin e).mp he with ⟨h1, _⟩ | ⟨h1, _⟩
            · exact List.mem_range.mpr h1
            · exact List.mem_range.mpr (by omega)
          simp at h1; omega
        refine s_cons (x_expr (e_meth (e_sub (e_local rfl (e_local rfl ⟨gp_of O evd rfl, gi_dict evd (dget_range (f := fun i => .ref (vv i)) hin) fun pl => ml_append O ek ?_⟩)))))
        refine es_cons (e_tuple (es_cons (e_local rfl (es_cons (e_local rfl (es_nil ⟨le_line (show 2 ≤ 10000 by decide), fun b hb => ?_⟩))))))
        refine es_nil ⟨kee_bi, c_append O IsSq.list (put_fresh hb ek) (le_line (by simp; omega)) (s_nil ?_)⟩
        have nb : ∀ {x : Addr} {o : AObj}, σ₃.m x = some o → x ≠ b := fun e q => by rw [← q, e] at hb; cases hb
        have nkk : j ∉ (R k).map (·.2) := fun q => by
          rcases (rows.mem k hin j).mp q with ⟨_, q, _⟩ | ⟨_, q⟩
          · omega
          · exact take_mem_nodup g2 hm' (hk ▸ q)
        refine ⟨_, fun i => if i = k then R k ++ [(b, j)] else R i, rfl, (kp.put (.inr hb)).tail (Kp.refl.put (a := vv k) (S := fun x => x = vv k) (.inl rfl)) fun x q => .inr (by rw [q]; exact fvv k hin), ?_, ⟨fun i hi => ?_, fun i hi pr hp => ?_, fun i hi => ?_, fun i hi e => ?_⟩⟩
        · have : vd ≠ vv k := by intro q; rw [q, ek] at evd; cases evd
          rw [put_other this]; exact put_fresh hb evd
        · by_cases q : i = k
          · subst q; rw [put_same, if_pos rfl]; simp
          · rw [put_other (fun e => q (inj i k hi hin e)), if_neg q]; exact put_fresh hb (rows.at' i hi)
        · have old : ∀ pr ∈ R i, ∃ h : pr.2 < cons.length, ((σ₃.put b (.tup [.ref cons[j].c, .ref (cons[j].vl av)])).put (vv k) (.list ((R k).map (fun p => .ref p.1) ++ [.ref b]))).m pr.1 = some (.tup [.ref cons[pr.2].c, .ref (cons[pr.2].vl av)]) := fun pr hp => by
            obtain ⟨h1, h2⟩ := rows.tup i hi pr hp
            refine ⟨h1, ?_⟩
            rw [put_other (by intro q; rw [q, ek] at h2; cases h2)]
            exact put_fresh hb h2
          by_cases q : i = k
          · subst q
            rw [if_pos rfl] at hp
            rcases List.mem_append.mp hp with q | q
            · exact old pr q
            · obtain rfl := List.mem_singleton.mp q
              refine ⟨hj2, ?_⟩
              rw [put_other (Ne.symm (nb ek)), put_same]
          · rw [if_neg q] at hp; exact old pr hp
        · by_cases q : i = k
          · subst q; rw [if_pos rfl, List.map_append, List.nodup_append]
            refine ⟨rows.nod i hi, by simp, fun x hx y hy e => ?_⟩
            simp at hy; subst hy; subst e; exact nkk hx
          · rw [if_neg q]; exact rows.nod i hi
        · rw [List.take_succ_eq_append_getElem hm', hk]
          by_cases q : i = k
          · subst q; rw [if_pos rfl, List.map_append, List.mem_append, rows.mem i hi e]
            simp only [List.map_cons, List.map_nil, List.mem_singleton, List.mem_append]
            constructor
            · rintro (h1 | h1)
              · rcases h1 with h1 | ⟨h1, h2⟩
                · exact .inl h1
                · exact .inr ⟨h1, .inl h2⟩
              · exact .inr ⟨h1, .inr trivial⟩
            · rintro (h1 | ⟨h1, h2⟩)
              · exact .inl (.inl h1)
              · exact .inr h1
          · rw [if_neg q, rows.mem i hi e]
            simp only [List.mem_append, List.mem_singleton, q, or_false]
      · rintro ℓ' σ₃ ⟨w3, R, rfl, kp, evd, rows⟩
        refine s_nil (s_nil ⟨_, _, w3, R, rfl, kp, evd, rows.keep fun i e hi => ?_⟩)
        rw [List.length_map, List.take_length]
        constructor
        · rintro (⟨h1, h2, h3⟩ | ⟨rfl, h2⟩)
          · exact ⟨h1, by omega, h3⟩
          · exact ⟨hj2, by omega, h2⟩
        · rintro ⟨h1, h2, h3⟩
          by_cases q : e = j
          · subst q; exact .inr ⟨rfl, h3⟩
          · exact .inl ⟨h1, by omega, h3⟩
    · rintro ℓ' σ₂ ⟨w1, w2, w3, R, rfl, kp, evd, rows⟩
      refine s_nil (h vd nvd vv R w1 w2 w3 σ₂ kp hvd fvv inj evd (rows.keep fun i e hi => ?_))
      rw [List.length_map, hlen]
      exact ⟨fun ⟨h1, _, h3⟩ => ⟨h1, h3⟩, fun ⟨h1, h3⟩ => ⟨h1, h1, h3⟩⟩
end Mine
set_option maxHeartbeats 200000
set_option maxHeartbeats 4000000
namespace Mine
variable {w : World} {h0 : Heap} {A : Around} {σ σ' σ'' : St} {ℓ : Loc}
/-- the entries that j turns have left -/
def keepJ (one : Nat → Bool) (j : Nat) (p : Addr × Nat) : Bool := !(decide (p.2 < j) && one p.2)
theorem keepJ_zero {one : Nat → Bool} {X : List (Addr × Nat)} : X.filter (keepJ one 0) = X := by
  rw [List.filter_eq_self]; intro p _; simp [keepJ]
theorem keepJ_same {one : Nat → Bool} {j : Nat} (h : one j = false) : keepJ one (j + 1) = keepJ one j := by
  funext p
  unfold keepJ
  by_cases q : p.2 = j
  · rw [q, h]; simp
  · have : decide (p.2 < j + 1) = decide (p.2 < j) := by rw [decide_eq_decide]; omega
    rw [this]
theorem keepJ_absent {one : Nat → Bool} {j : Nat} {X : List (Addr × Nat)} (h : j ∉ X.map (·.2)) : X.filter (keepJ one (j + 1)) = X.filter (keepJ one j) := by
  refine List.filter_congr fun p hp => ?_
  have q : p.2 ≠ j := fun e => h (List.mem_map.mpr ⟨p, hp, e⟩)
  unfold keepJ
  have : decide (p.2 < j + 1) = decide (p.2 < j) := by rw [decide_eq_decide]; omega
  rw [this]
theorem keepJ_cut {one : Nat → Bool} {j : Nat} {X : List (Addr × Nat)} (h : one j = true) (hm : j ∈ X.map (·.2)) (hn : (X.map (·.2)).Nodup) : ∃ pre a post, (a, j) ∈ X ∧ X.filter (keepJ one j) = pre ++ (a, j) :: post ∧ X.filter (keepJ one (j + 1)) = pre ++ post ∧ ∀ p ∈ pre, p ∈ X ∧ p.2 ≠ j := by
  obtain ⟨p, hp, e⟩ := List.mem_map.mp hm
  obtain ⟨X1, X2, rfl⟩ := List.append_of_mem hp
  obtain ⟨a, i⟩ := p
  obtain rfl : i = j := e
  rw [List.map_append, List.map_cons, List.nodup_append] at hn
  obtain ⟨n1, n2, n3⟩ := hn
  have a1 : i ∉ X1.map (·.2) := fun q => n3 i q i (List.mem_cons_self ..) rfl
  have a2 : i ∉ X2.map (·.2) := (List.nodup_cons.mp n2).1
  refine ⟨X1.filter (keepJ one i), a, X2.filter (keepJ one i), hp, ?_, ?_, fun p hp => ?_⟩
  · rw [List.filter_append, List.filter_cons]
    have : keepJ one i (a, i) = true := by unfold keepJ; simp
    rw [if_pos this]
  · rw [List.filter_append, List.filter_cons, keepJ_absent a1, keepJ_absent a2]
    have : keepJ one (i + 1) (a, i) = false := by unfold keepJ; simp [h]
    rw [this]; rfl
  · have hp' := (List.mem_filter.mp hp).1
    exact ⟨List.mem_append_left _ hp', fun e => a1 (List.mem_map.mpr ⟨p, hp', e⟩)⟩
/-- what the whole of preProcess does to the Domains -/
structure PreAll (W : Wd) (cons : List CE) (j : Nat) (D D' : Nat → Dm) : Prop where
  dom : ∀ i, i < W.n → (D' i).hid = (D i).hid ∧ (D' i).ss = (D i).ss ∧ (D' i).xs.Sublist (D i).xs
  gone : ∀ i, i < W.n → ∀ v ∈ (D i).xs, v ∉ (D' i).xs → ∃ e ∈ cons.take j, BadV e.C i v
  unary : ∀ e ∈ cons.take j, ∀ k, e.C.vs = [k] → ∀ v ∈ (D' k).xs, e.C.holds (psum e.C.ks [(k, v)])
theorem PreAll.zero {W : Wd} {cons : List CE} {D : Nat → Dm} : PreAll W cons 0 D D := ⟨fun _ _ => ⟨rfl, rfl, .refl _⟩, fun _ _ v h1 h2 => absurd h1 h2, by simp⟩
theorem PreAll.step {W : Wd} {cons : List CE} {j : Nat} {D D' D'' : Nat → Dm} (x : PreAll W cons j D D') (h : j < cons.length) (hlt : ∀ e ∈ cons, ∀ i ∈ e.C.vs, i < W.n) (y : PrePost W cons[j].C D' D'') : PreAll W cons (j + 1) D D'' := by
  have tk : cons.take (j + 1) = cons.take j ++ [cons[j]] := List.take_succ_eq_append_getElem h
  refine ⟨fun i hi => ?_, fun i hi v hv hn => ?_, fun e he k hk v hv => ?_⟩
  · obtain ⟨a1, a2, a3⟩ := x.dom i hi; obtain ⟨b1, b2, b3⟩ := y.dom i hi; exact ⟨b1.trans a1, b2.trans a2, b3.trans a3⟩
  · by_cases q : v ∈ (D' i).xs
    · exact ⟨cons[j], by rw [tk]; exact List.mem_append_right _ (List.mem_singleton.mpr rfl), y.gone i hi v q hn⟩
    · obtain ⟨e, he, b⟩ := x.gone i hi v hv q
      exact ⟨e, by rw [tk]; exact List.mem_append_left _ he, b⟩
  · rw [tk] at he
    rcases List.mem_append.mp he with q | q
    · have hkn : k < W.n := hlt e (List.mem_of_mem_take q) k (by rw [hk]; simp)
      exact x.unary e q k hk v ((y.dom k hkn).2.2.subset hv)
    · obtain rfl := List.mem_singleton.mp q
      exact y.unary k hk v hv
end Mine
set_option maxHeartbeats 200000
set_option maxHeartbeats 4000000
namespace Mine
variable {w : World} {h0 : Heap} {A : Around} {σ σ' σ'' : St} {ℓ : Loc}
def oneOf (cons : List CE) (j : Nat) : Bool := match cons[j]? with
  | some e => e.C.vs.length == 1
  | none => false
theorem oneOf_get {cons : List CE} {j : Nat} (h : j < cons.length) : oneOf cons j = (cons[j].C.vs.length == 1) := by
  unfold oneOf; rw [List.getElem?_eq_getElem h]
theorem Doms.kp {W : Wd} {D : Nat → Dm} {S : Addr → Prop} (x : Doms σ W D) (k : Kp S σ σ') (h : ∀ b, S b → ¬ W.dyn b ∧ ∀ i, i < W.n → b ≠ W.dx i) : Doms σ' W D :=
  x.keep k fun i hi => ⟨fun q => (h _ q).1 (W.dyn_d hi), fun q => (h _ q).2 i hi rfl, fun q => (h _ q).1 (W.dyn_h hi), fun q => (h _ q).1 (W.dyn_t hi)⟩
theorem Rows'.kp {n : Nat} {cons : List CE} {av : Addr} {vv : Nat → Addr} {R : Nat → List (Addr × Nat)} {q : Nat → Nat → Prop} {S : Addr → Prop} (x : Rows' σ n cons av vv R q) (k : Kp S σ σ') (h1 : ∀ i, i < n → ¬ S (vv i)) (h2 : ∀ b xs, S b → σ.m b ≠ some (.tup xs)) : Rows' σ' n cons av vv R q :=
  ⟨fun i hi => k.kept _ _ (x.at' i hi) (h1 i hi), fun i hi p hp => by obtain ⟨a, b⟩ := x.tup i hi p hp; exact ⟨a, k.kept _ _ b fun q => h2 _ _ q b⟩, x.nod, x.mem⟩
/-- the pairs of place and number of what was added -/
def numd (us : List Addr) : List (Addr × Nat) := us.zip (List.range us.length)
theorem numd_fst {us : List Addr} : (numd us).map (·.1) = us := by
  unfold numd; rw [List.map_fst_zip]; simp
theorem numd_snd {us : List Addr} : (numd us).map (·.2) = List.range us.length := by
  unfold numd; rw [List.map_snd_zip]; simp
theorem numd_mem {us : List Addr} {p : Addr × Nat} (h : p ∈ numd us) : ∃ h : p.2 < us.length, us[p.2] = p.1 := by
  obtain ⟨i, hi, e⟩ := List.getElem_of_mem h
  unfold numd at e hi
  rw [List.getElem_zip] at e
  have h1 : i < us.length := by simp at hi; exact hi
  subst e
  simp only [List.getElem_range]
  exact ⟨h1, trivial⟩
abbrev gaF (p dd av cl vd : Addr) (u1 u2 u3 u4 : Option AV) : Loc := frm gaN [some (.ref p), some (.ref dd), some (.ref av), some (.ref cl), u1, u2, some (.ref vd), u3, u4]
theorem ga3 (O : (BB w h0).Ok) {W : Wd} {D : Nat → Dm} {p dd av cl vd L : Addr} {nd nvd : Nat} {vv : Nat → Addr} {R : Nat → List (Addr × Nat)} {cons : List CE} {us : List Addr} {u1 u2 u3 : Option AV} {Q : AF → Loc → St → Prop} (lo : Lo 20 A) (sp : W.Sep) (ds : Doms σ W D) (sm : Sm W D) (nod : ∀ i, i < W.n → (D i).xs.Nodup)
    (edd : σ.m dd = some (.dict (esD W) nd)) (ecl : σ.m cl = some (.list (us.map .ref))) (hlen : us.length = cons.length) (hc : cons.length ≤ 100) (ncl : ¬ W.dyn cl)
    (hus : ∀ j (h1 : j < us.length) (h2 : j < cons.length), σ.m us[j] = some (.tup [.ref cons[j].c, .ref (cons[j].vl av)]))
    (ok : ∀ e ∈ cons, CEOk σ W e) (cnod : (cons.map (·.c)).Nodup) (hml : ∀ e ∈ cons, e.C.fs ≠ [] → ¬ PreS W cl vv e.ml)
    (hvl : ∀ e ∈ cons, σ.m (e.vl av) = some (.list (nv e.C.vs)) ∧ ¬ PreS W cl vv (e.vl av))
    (evd : σ.m vd = some (.dict (esV W.n vv) nvd)) (nvv : ∀ i, i < W.n → ¬ W.dyn (vv i) ∧ vv i ≠ cl) (inj : ∀ i j, i < W.n → j < W.n → vv i = vv j → i = j)
    (rows : Rows' σ W.n cons av vv R (fun i e => ∃ h : e < cons.length, i ∈ cons[e].C.vs))
    (h : ∀ D' R' xs u1 u2 σ', Kp (PreS W cl vv) σ σ' → Doms σ' W D' → PreAll W cons cons.length D D' → σ'.m cl = some (.list xs) → Rows' σ' W.n cons av vv R' (fun i e => ∃ h : e < cons.length, i ∈ cons[e].C.vs ∧ cons[e].C.vs.length ≠ 1) →
      Ts (BB w h0) A (callEnv (fdOf (KK w.params) 107) L 107) ((bodyOf (KK w.params) 107).drop 8) (gaF p dd av cl vd u1 u2 u3 none) σ' Q) :
    Ts (BB w h0) A (callEnv (fdOf (KK w.params) 107) L 107) ((bodyOf (KK w.params) 107).drop 7) (gaF p dd av cl vd u1 u2 u3 none) σ Q := by
  have hz : (us.map AV.ref).length ≤ 100 := by rw [List.length_map]; omega
  -- what is no place of a write
  have nS : ∀ {x : Addr} {o : AObj}, σ.m x = some o → (∀ C dx xs, o ≠ .dom C dx xs) → (∀ xs, o ≠ .list xs) → ¬ PreS W cl vv x := fun {x o} e q1 q2 => by
    rintro (q | rfl | ⟨i, hi, rfl⟩)
    · exact ds.not_dyn e q1 q2 q
    · rw [ecl] at e; cases e; exact q2 _ rfl
    · rw [rows.at' i hi] at e; cases e; exact q2 _ rfl
  refine s_cons (x_for (e_slice O (a := cl) (xs := us.map .ref) (lo := none) (hi := none) (st := none) IsSq.list (e_local rfl (tp_none (tp_none (tp_none ⟨rfl, ecl, .none, .none, .none, le_line (by omega), fun b hb => ?_⟩))))))
  rw [apick_all]
  have nb : ∀ {x : Addr} {o : AObj}, σ.m x = some o → x ≠ b := fun e q => by rw [q, hb] at e; cases e
  have nbS : ¬ PreS W cl vv b := by
    rintro (q | rfl | ⟨i, hi, rfl⟩)
    · exact ds.live q hb
    · rw [ecl] at hb; cases hb
    · rw [rows.at' i hi] at hb; cases hb
  refine ⟨_, _, _, fun j ℓ' σ' => ∃ u1 u2 D', ℓ' = gaF p dd av cl vd u1 u2 u3 none ∧ σ'.m b = some (.list (us.map .ref)) ∧ Kp (PreS W cl vv) σ σ' ∧ Doms σ' W D' ∧ PreAll W cons j D D' ∧ σ'.m cl = some (.list (((numd us).filter (keepJ (oneOf cons) j)).map fun p => .ref p.1)) ∧ ∀ i, i < W.n → σ'.m (vv i) = some (.list (((R i).filter (keepJ (oneOf cons) j)).map fun p => .ref p.1)), it_list lo.hh (put_same ..), ⟨u1, u2, D, rfl, put_same .., Kp.refl.put (.inr hb), ds.new hb, .zero, ?_, fun i hi => ?_⟩, fun _ _ _ ⟨_, _, _, _, e, _⟩ => e, ?_, ?_⟩
  · have : (numd us).map (fun p => AV.ref p.1) = us.map AV.ref := by
      conv => rhs; rw [← numd_fst (us := us)]
      rw [List.map_map]; rfl
    rw [keepJ_zero, put_fresh hb ecl, this]
  · rw [keepJ_zero]; exact put_fresh hb (rows.at' i hi)
  · rintro j v ℓ' σ₁ hj hv ⟨u1, u2, D₁, rfl, eb, kp, dm, pre, ecl1, evv1⟩
    obtain ⟨hj', rfl⟩ := pairs_get hv
    have hj2 : j < cons.length := hlen ▸ hj'
    have hmem := List.getElem_mem hj2
    have eok := ok _ hmem
    obtain ⟨g1, g2⟩ := hvl _ hmem
    have keepS : ∀ {x : Addr} {o : AObj}, σ.m x = some o → (∀ C dx xs, o ≠ .dom C dx xs) → (∀ xs, o ≠ .list xs) → σ₁.m x = some o := fun e q1 q2 => kp.kept _ _ e (nS e q1 q2)
    refine a_tuple lo.hh (keepS (hus j hj' hj2) nofun nofun) rfl (a_local (a_local (ta_nil ?_)))
    rw [upd_frm (i := 4) rfl (by simp), upd_frm (i := 5) rfl (by simp)]
    have nc : ∀ b', b' = cons[j].c ∨ b' = cons[j].cx → ¬ PreS W cl vv b' := by
      rintro b' (rfl | rfl)
      · exact nS eok.at'.obj nofun nofun
      · exact nS eok.at'.ns nofun nofun
    have ca1 := eok.at'.keep kp (nc _ (.inl rfl)) (nc _ (.inr rfl)) (hml _ hmem)
    have sm1 := Sub.sm pre.dom sm
    have nod1 : ∀ i, i < W.n → (D₁ i).xs.Nodup := fun i hi => (pre.dom i hi).2.2.nodup (nod i hi)
    have sz1 : ∀ X : List (Addr × Nat), (X.map (·.2)).Nodup → (∀ p ∈ X, p.2 < cons.length) → ∀ f : Addr × Nat → Bool, ((X.filter f).map fun p => AV.ref p.1).length ≤ 100 := fun X h1 h2 f => by
      have h3 : (X.map (·.2)).length ≤ (List.range cons.length).length := List.Nodup.length_le_of_subset h1 fun e he => by
        obtain ⟨p, hp, rfl⟩ := List.mem_map.mp he
        exact List.mem_range.mpr (h2 p hp)
      have h4 := List.length_filter_le f X
      simp at h3 ⊢; omega
    have nnod : ((numd us).map (·.2)).Nodup := by rw [numd_snd]; exact List.nodup_range
    have V : VcAt σ₁ W (cons[j].vl av) cl vd vv nvd (((numd us).filter (keepJ (oneOf cons) j)).map fun p => .ref p.1) (fun i => ((R i).filter (keepJ (oneOf cons) j)).map fun p => .ref p.1) := by
      refine ⟨ecl1, keepS evd nofun nofun, evv1, ⟨ncl, fun q => g2 (.inr (.inl q.symm))⟩, fun i hi => ⟨(nvv i hi).1, (nvv i hi).2, fun q => g2 (.inr (.inr ⟨i, hi, q.symm⟩))⟩, inj⟩
    have tupN : ∀ {x : Addr × Nat}, x ∈ numd us → ∃ h : x.2 < cons.length, σ.m x.1 = some (.tup [.ref cons[x.2].c, .ref (cons[x.2].vl av)]) := fun {x} hx => by
      obtain ⟨q1, q2⟩ := numd_mem hx
      exact ⟨hlen ▸ q1, by rw [← q2]; exact hus _ q1 (hlen ▸ q1)⟩
    have cut : Cut w h0 σ₁ W cons[j].C cons[j].c (cons[j].vl av) cl vv (((numd us).filter (keepJ (oneOf cons) j)).map fun p => .ref p.1) (fun i => ((R i).filter (keepJ (oneOf cons) j)).map fun p => .ref p.1) (((numd us).filter (keepJ (oneOf cons) (j + 1))).map fun p => .ref p.1) (fun i => ((R i).filter (keepJ (oneOf cons) (j + 1))).map fun p => .ref p.1) := by
      refine ⟨fun q => ?_, fun k hk => ?_⟩
      · have : oneOf cons j = false := by rw [oneOf_get hj2]; simpa using q
        rw [keepJ_same this]
        exact ⟨rfl, fun _ _ => rfl⟩
      · have h1 : oneOf cons j = true := by rw [oneOf_get hj2, hk]; rfl
        have hkn : k < W.n := eok.lt k (by rw [hk]; simp)
        obtain ⟨pa, a, qa, m1, m2, m3, m4⟩ := keepJ_cut (X := numd us) h1 (by rw [numd_snd]; exact List.mem_range.mpr hj') nnod
        obtain ⟨pb, b', qb, r1, r2, r3, r4⟩ := keepJ_cut (X := R k) h1 ((rows.mem k hkn j).mpr ⟨hj2, by rw [hk]; simp⟩) (rows.nod k hkn)
        obtain ⟨_, ea⟩ := tupN m1
        obtain ⟨_, eb'⟩ := rows.tup k hkn _ r1
        refine ⟨pa.map fun p => .ref p.1, a, qa.map fun p => .ref p.1, pb.map fun p => .ref p.1, b', qb.map fun p => .ref p.1, by rw [m2]; simp, by dsimp only; rw [r2]; simp, keepS ea nofun nofun, keepS eb' nofun nofun, fun A' σ₂ b2 lo2 kp2 e2 z hz => ?_, by rw [m3]; simp, fun i hi => ?_⟩
        · have : ∃ x : Addr × Nat, z = .ref x.1 ∧ x.2 ≠ j ∧ ∃ h : x.2 < cons.length, σ.m x.1 = some (.tup [.ref cons[x.2].c, .ref (cons[x.2].vl av)]) := by
            rcases hz with hz | hz
            · obtain ⟨x, hx, rfl⟩ := List.mem_map.mp hz
              obtain ⟨y1, y2⟩ := m4 x hx
              exact ⟨x, rfl, y2, tupN y1⟩
            · obtain ⟨x, hx, rfl⟩ := List.mem_map.mp hz
              obtain ⟨y1, y2⟩ := r4 x hx
              exact ⟨x, rfl, y2, rows.tup k hkn _ y1⟩
          obtain ⟨x, rfl, hx, hxl, ex⟩ := this
          have hne : cons[x.2].c ≠ cons[j].c := fun e => hx (by
            have := (List.getElem_inj (h₀ := by simpa using hxl) (h₁ := by simpa using hj2) cnod).mp (by simpa using e)
            exact this)
          have kp3 := kp.trans kp2
          have ex2 := kp3.kept _ _ ex (nS ex nofun nofun)
          have eokx := ok _ (List.getElem_mem hxl)
          refine eqs_tup_ne O lo2 (fun e => ?_) ex2 e2 (eokx.at'.keep kp3 (nS eokx.at'.obj nofun nofun) (nS eokx.at'.ns nofun nofun) (hml _ (List.getElem_mem hxl))) (eok.at'.keep kp3 (nc _ (.inl rfl)) (nc _ (.inr rfl)) (hml _ hmem)) hne
          rw [e, e2] at ex2; injection ex2 with ex2; injection ex2 with ex2; injection ex2 with ex2; injection ex2 with ex2; exact hne ex2.symm
        · dsimp only
          by_cases q : i = k
          · subst q; rw [if_pos rfl, r3]; simp
          · rw [if_neg q, keepJ_absent]
            intro q2
            obtain ⟨_, q3⟩ := (rows.mem i hi j).mp q2
            rw [hk] at q3; exact q (List.mem_singleton.mp q3)
    refine s_cons (x_expr (e_meth (e_local rfl fun pl => m_con_pre O eok.good.1 ca1 ?_)))
    refine es_cons (e_local rfl (es_cons (e_local rfl (es_cons (e_local rfl (es_cons (e_local rfl (es_nil ⟨kee_dpre O, con_pre O (lo.mono (by decide)) eok.good sp dm sm1 nod1 eok.lt eok.len ca1 nc (hml _ hmem) (kp.kept _ _ g1 g2) (fun q => g2 (.inl q)) (keepS edd nofun nofun) (nS edd nofun nofun) V (sz1 _ nnod (fun p hp => (tupN hp).1) _) (fun i hi => sz1 _ (rows.nod i hi) (fun p hp => (rows.tup i hi p hp).1) _) cut ?_⟩))))))))
    intro σ₂ D₂ kp2 dm2 post r1 r2
    refine s_nil ⟨_, _, D₂, rfl, kp2.kept _ _ eb nbS, kp.trans kp2, dm2, pre.step hj2 (fun e he i hi => (ok e he).lt i hi) post, r1, r2⟩
  · rintro ℓ' σ₁ ⟨u1, u2, D₁, rfl, eb, kp, dm, pre, ecl1, evv1⟩
    rw [List.length_map, hlen] at pre ecl1 evv1
    refine s_nil (h D₁ (fun i => (R i).filter (keepJ (oneOf cons) cons.length)) _ u1 u2 σ₁ kp dm pre ecl1 ⟨evv1, fun i hi p hp => ?_, fun i hi => ?_, fun i hi e => ?_⟩)
    · obtain ⟨a, b⟩ := rows.tup i hi p (List.mem_filter.mp hp).1
      exact ⟨a, kp.kept _ _ b (nS b nofun nofun)⟩
    · exact (List.Sublist.map _ List.filter_sublist).nodup (rows.nod i hi)
    · constructor
      · intro q
        obtain ⟨p, hp, rfl⟩ := List.mem_map.mp q
        obtain ⟨h1, h2⟩ := List.mem_filter.mp hp
        obtain ⟨y1, y2⟩ := (rows.mem i hi p.2).mp (List.mem_map.mpr ⟨p, h1, rfl⟩)
        refine ⟨y1, y2, ?_⟩
        unfold keepJ at h2
        rw [oneOf_get y1] at h2
        simpa [y1] using h2
      · rintro ⟨y1, y2, y3⟩
        obtain ⟨p, hp, rfl⟩ := List.mem_map.mp ((rows.mem i hi e).mpr ⟨y1, y2⟩)
        refine List.mem_map.mpr ⟨p, List.mem_filter.mpr ⟨hp, ?_⟩, rfl⟩
        unfold keepJ
        rw [oneOf_get y1]
        simpa [y1] using y3
end Mine
set_option maxHeartbeats 200000
set_option maxHeartbeats 4000000
namespace Mine
variable {w : World} {h0 : Heap} {A : Around} {σ σ' σ'' : St} {ℓ : Loc}
def Clean (W : Wd) (D : Nat → Dm) : Prop := ∀ i, i < W.n → (D i).hid = [] ∧ (D i).ss = []
theorem ga4 (O : (BB w h0).Ok) {W : Wd} {D : Nat → Dm} {p dd av cl vd L : Addr} {nd : Nat} {u1 u2 u3 : Option AV} {Q : AF → Loc → St → Prop} (lo : Lo 20 A) (sp : W.Sep) (ds : Doms σ W D) (sm : Sm W D) (cln : Clean W D) (edd : σ.m dd = some (.dict (esD W) nd))
    (h1 : ∀ t i ℓ' σ', Kp W.dyn σ σ' → Doms σ' W D → i < W.n → (D i).xs = [] → σ'.m t = some (.tup [.none, .none, .none]) → Q (.ret (.ref t)) ℓ' σ')
    (h2 : ∀ t ℓ' σ', Kp W.dyn σ σ' → Doms σ' W D → (∀ i, i < W.n → (D i).xs ≠ []) → σ'.m t = some (.tup [.ref dd, .ref cl, .ref vd]) → Q (.ret (.ref t)) ℓ' σ') :
    Ts (BB w h0) A (callEnv (fdOf (KK w.params) 107) L 107) ((bodyOf (KK w.params) 107).drop 8) (gaF p dd av cl vd u1 u2 u3 none) σ Q := by
  have ndd := ds.not_dyn edd nofun nofun
  refine s_cons (x_for (e_meth (e_local rfl fun pl => md_values O edd (es_nil ⟨kee_bi, c_dict_values edd fun v hv => ?_⟩))))
  have kp0 : Kp W.dyn σ (σ.put v (.raw (viewObj "dict_values" dd))) := Kp.refl.put (.inr hv)
  have ds0 := ds.new (o := .raw (viewObj "dict_values" dd)) hv
  have nv0 : ¬ W.dyn v := ds0.not_dyn (put_same ..) nofun nofun
  refine ⟨_, _, _, fun j ℓ' σ' => ∃ u4, ℓ' = gaF p dd av cl vd u1 u2 u3 u4 ∧ Kp W.dyn σ σ' ∧ Doms σ' W D ∧ ∀ i, i < j → i < W.n → (D i).xs ≠ [], it_vals (d := dd) lo.hh (put_same ..) (put_fresh hv edd), ⟨none, rfl, kp0, ds0, by simp⟩, fun _ _ _ ⟨_, _, k, _⟩ => k.kept _ _ edd ndd, ?_, ?_⟩
  · rintro j x ℓ' σ₁ hj ⟨pr, hpr, rfl⟩ ⟨u4, rfl, kp, dm, hne⟩
    have hj' : j < W.n := by simpa [esD] using hj
    have hpr' : pr = ((j : Int), .ref (W.d j)) := by
      unfold esD at hpr
      rw [List.getElem?_map, List.getElem?_range hj'] at hpr
      cases hpr; rfl
    subst hpr'
    refine a_local ?_
    rw [upd_frm (i := 8) rfl (by simp)]
    obtain ⟨c1, c2⟩ := cln j hj'
    have dj := dm j hj'
    have sj := sm j hj'
    refine s_cons (x_expr (e_meth (e_local rfl fun pl => m303 O dj (m303_resetState _) (t := .type "function") (ty279 _) (by decide) rfl (es_nil ⟨kee_fn O rfl, reset_spec O (lo.mono (by decide)) (sp.ht j j hj' hj') dj (by simp only [List.length_map]; omega) (by simp only [List.length_map]; omega) ?_⟩))))
    have kp2 : Kp W.dyn σ (((σ₁.put (W.d j) (.dom 303 (W.dx j) (iv (D j).xs ++ iv (D j).hid))).put (W.hd j) (.list [])).put (W.st j) (.list [])) := ((kp.put (.inl (W.dyn_d hj'))).put (.inl (W.dyn_h hj'))).put (.inl (W.dyn_t hj'))
    have dm2 : Doms (((σ₁.put (W.d j) (.dom 303 (W.dx j) (iv (D j).xs ++ iv (D j).hid))).put (W.hd j) (.list [])).put (W.st j) (.list [])) W D := by
      have := dm.set (y := D j) (σ' := (((σ₁.put (W.d j) (.dom 303 (W.dx j) (iv (D j).xs ++ iv (D j).hid))).put (W.hd j) (.list [])).put (W.st j) (.list []))) sp hj' (fun b o e g1 g2 g3 => by rw [put_other g3, put_other g2, put_other g1]; exact e) ?_
      · have e : setD D j (D j) = D := by funext k; unfold setD; split <;> simp_all
        rwa [e] at this
      · have q := ((dj.putObj (ys := iv (D j).xs ++ iv (D j).hid)).putHid (ys := []) (sp.ht j j hj' hj')).putSts (ys := []) (sp.ht j j hj' hj')
        have e1 : iv (D j).xs ++ iv (D j).hid = iv (D j).xs := by rw [c1]; simp
        have e2 : iv (D j).hid = [] := by rw [c1]; rfl
        have e3 : nv (D j).ss = [] := by rw [c2]; rfl
        unfold DomI
        rw [e1] at q
        rw [e2, e3, List.append_nil]
        exact q
    refine s_cons (x_if (t_not (t_val (e_local rfl (tru_sq O (IsSq.dom 303 _) (dm2 j hj').obj (le_line (by simp only [List.length_map]; omega)) ?_ (bool303 _) (len303 _) (sub303 _))))))
    by_cases hx : (D j).xs = []
    · rw [if_pos (by rw [hx]; rfl)]
      refine s_cons (x_ret (e_tuple (es_cons (e_none (es_cons (e_none (es_cons (e_none (es_nil ⟨le_line (show 3 ≤ 10000 by decide), fun t ht => ?_⟩))))))))) 
      exact h1 t j _ _ (kp2.put (.inr ht)) (dm2.new ht) hj' hx (put_same ..)
    · rw [if_neg (by simpa using hx)]
      refine s_nil (s_nil ⟨_, rfl, kp2, dm2, fun i hi hin => ?_⟩)
      by_cases q : i = j
      · subst q; exact hx
      · exact hne i (by omega) hin
  · rintro ℓ' σ₁ ⟨u4, rfl, kp, dm, hne⟩
    have hl : (esD W).length = W.n := by simp [esD]
    refine s_nil (s_cons (x_ret (e_tuple (es_cons (e_local rfl (es_cons (e_local rfl (es_cons (e_local rfl (es_nil ⟨le_line (show 3 ≤ 10000 by decide), fun t ht => ?_⟩))))))))))
    exact h2 t _ _ (kp.put (.inr ht)) (dm.new ht) (fun i hi => hne i (by omega) hi) (put_same ..)
/-- what a solver is handed -/
structure Net (σ : St) (W : Wd) (cons : List CE) (dd vd av : Addr) (nd nvd : Nat) (vv : Nat → Addr) (R : Nat → List (Addr × Nat)) : Prop where
  edd : σ.m dd = some (.dict (esD W) nd)
  evd : σ.m vd = some (.dict (esV W.n vv) nvd)
  rows : Rows' σ W.n cons av vv R (fun i e => ∃ h : e < cons.length, i ∈ cons[e].C.vs ∧ cons[e].C.vs.length ≠ 1)
  ok : ∀ e ∈ cons, CEOk σ W e
  hvl : ∀ e ∈ cons, σ.m (e.vl av) = some (.list (nv e.C.vs)) ∧ ¬ W.dyn (e.vl av)
  nvv : ∀ i, i < W.n → ¬ W.dyn (vv i)
  hc : cons.length ≤ 100
  hn : W.n ≤ 100
theorem CEOk.kp {W : Wd} {D : Nat → Dm} {e : CE} {S : Addr → Prop} (x : CEOk σ W e) (k : Kp S σ σ') (h1 : ¬ S e.c) (h2 : ¬ S e.cx) (h3 : e.C.fs ≠ [] → ¬ S e.ml) (h4 : ∀ l, e.v = .ref l → ¬ S l) : CEOk σ' W e :=
  ⟨x.at'.keep k h1 h2 h3, x.good, x.lt, x.len, x.nod, x.ne, by
    rcases x.row with q | ⟨l, q1, q2, q3⟩
    · exact .inl q
    · exact .inr ⟨l, q1, k.kept _ _ q2 (h4 l q1), q3⟩, x.ml⟩
theorem getArgs (O : (BB w h0).Ok) {W : Wd} {D : Nat → Dm} {p px sv pcl pvd : Addr} {k nvd : Nat} {cons : List CE} {ts : List Addr} {Q : AV → St → Prop} (lo : Lo 31 A) (pa : ProbAt σ p px sv pcl pvd k) (epv : σ.m pvd = some (.dict (esD W) nvd)) (hn : W.n ≤ 100) (ecl : σ.m pcl = some (.list (ts.map .ref))) (hlen : ts.length = cons.length) (hc : cons.length ≤ 100)
    (hts : ∀ j (h1 : j < ts.length) (h2 : j < cons.length), σ.m ts[j] = some (.tup [.ref cons[j].c, cons[j].v])) (ok : ∀ e ∈ cons, CEOk σ W e) (cnod : (cons.map (·.c)).Nodup)
    (sp : W.Sep) (ds : Doms σ W D) (sm : Sm W D) (nod : ∀ i, i < W.n → (D i).xs.Nodup) (cln : Clean W D)
    (h1 : ∀ t i D' σ', Kp W.dyn σ σ' → Doms σ' W D' → PreAll W cons cons.length D D' → i < W.n → (D' i).xs = [] → σ'.m t = some (.tup [.none, .none, .none]) → Q (.ref t) σ')
    (h2 : ∀ t D' dd cl vd av nd nvd vv R σ', Kp W.dyn σ σ' → Doms σ' W D' → PreAll W cons cons.length D D' → (∀ i, i < W.n → (D' i).xs ≠ []) → σ'.m t = some (.tup [.ref dd, .ref cl, .ref vd]) → Net σ' W cons dd vd av nd nvd vv R → Q (.ref t) σ') :
    Callf (BB w h0) A (.ref 107) [.ref p] σ Q := by
  refine call_fn O (k := 30) (n := 1) (ps := ["self"]) (ds := []) (rest := ["domains", "allvariables", "constraints", "constraint", "variables", "vconstraints", "variable", "domain"]) lo rfl rfl rfl (fun s g X => BindsTo.of_eq rfl) rfl rfl (by decide) (by decide) (by decide) ?_
  intro L hL
  refine ga1 O (lo.deeper (n := 30)) pa epv hn ecl hlen hc hts ok ?_
  intro dd nd av cl us u1 u2 σ₁ kp1 fdd fav fcl husl fus edd eav ecl1 hac hus
  have ok1 : ∀ e ∈ cons, CEOk σ₁ W e := fun e he => (ok e he).kp (D := D) kp1 id id (fun _ => id) (fun _ _ => id)
  have ds1 : Doms σ₁ W D := ds.kp kp1 fun b q => q.elim
  have vl1 : ∀ e ∈ cons, σ₁.m (e.vl av) = some (.list (nv e.C.vs)) ∧ ¬ W.dyn (e.vl av) ∧ (σ.m (e.vl av) ≠ none ∨ e.vl av = av) := fun e he => by
    rcases (ok e he).row with ⟨r1, r2⟩ | ⟨l, r1, r2, r3⟩
    · have : e.vl av = av := by unfold CE.vl; rw [r1]
      rw [this, r2]
      exact ⟨eav, fun q => ds.live q fav, .inr rfl⟩
    · have : e.vl av = l := by unfold CE.vl; rw [r1]
      rw [this]
      exact ⟨kp1.kept _ _ r2 id, r3, .inl (by rw [r2]; exact nofun)⟩
  refine ga2 O ((lo.deeper (n := 30)).mono (by decide)) hn edd ecl1 husl hc hus (fun e he => ⟨(vl1 e he).1, (ok e he).nod, (ok e he).lt⟩) ?_
  intro vd nvd' vv R u1 u2 u3 σ₂ kp2 fvd fvv inj evd rows
  have kp12 := kp1.trans kp2
  have fcl2 : σ₁.m cl ≠ none := by rw [ecl1]; exact nofun
  have nvv : ∀ i, i < W.n → ¬ W.dyn (vv i) ∧ vv i ≠ cl := fun i hi => ⟨fun q => ds1.live q (fvv i hi), fun q => by have := fvv i hi; rw [q, ecl1] at this; cases this⟩
  have nPre : ∀ {x : Addr}, ¬ W.dyn x → (σ.m x ≠ none ∨ x = av) → ¬ PreS W cl vv x := fun {x} q1 q2 => by
    rintro (q | rfl | ⟨i, hi, rfl⟩)
    · exact q1 q
    · rcases q2 with q2 | q2
      · exact q2 fcl
      · exact hac q2.symm
    · have f1 := fvv i hi
      rcases q2 with q2 | q2
      · exact q2 (kp1.live _ f1)
      · rw [q2, eav] at f1; cases f1
  have mlS : ∀ e ∈ cons, e.C.fs ≠ [] → ¬ PreS W cl vv e.ml := fun e he q => nPre ((ok e he).ml q) (.inl (by rw [(ok e he).at'.ml q]; exact nofun))
  have ok2 : ∀ e ∈ cons, CEOk σ₂ W e := fun e he => (ok e he).kp (D := D) kp12 id id (fun _ => id) (fun _ _ => id)
  have vlS : ∀ e ∈ cons, ¬ PreS W cl vv (e.vl av) := fun e he => nPre (vl1 e he).2.1 (vl1 e he).2.2
  refine ga3 O ((lo.deeper (n := 30)).mono (by decide)) sp (ds.kp kp12 fun b q => q.elim) sm nod (kp2.kept _ _ edd id) (kp2.kept _ _ ecl1 id) husl hc (fun q => ds.live q fcl) (fun j g1 g2 => kp2.kept _ _ (hus j g1 g2) id) ok2 cnod mlS (fun e he => ⟨kp2.kept _ _ (vl1 e he).1 id, vlS e he⟩) evd nvv inj rows ?_
  intro D' R' xs u1 u2 σ₃ kp3 ds3 pre ecl3 rows3
  have kp13 : Kp W.dyn σ σ₃ := (kp12.mono (S' := W.dyn) (fun b q => q.elim)).tail kp3 fun b q => by
    rcases q with q | rfl | ⟨i, hi, rfl⟩
    · exact .inl q
    · exact .inr fcl
    · exact .inr (kp1.live _ (fvv i hi))
  have edd3 : σ₃.m dd = some (.dict (esD W) nd) := kp3.kept _ _ (kp2.kept _ _ edd id) (by
    rintro (q | q | ⟨i, hi, q⟩)
    · exact ds.live q fdd
    · rw [q, ecl1] at edd; cases edd
    · have := fvv i hi; rw [← q, edd] at this; cases this)
  have sm3 : Sm W D' := Sub.sm pre.dom sm
  have cln3 : Clean W D' := fun i hi => by obtain ⟨a, b, _⟩ := pre.dom i hi; rw [a, b]; exact cln i hi
  refine ga4 O ((lo.deeper (n := 30)).mono (by decide)) sp ds3 sm3 cln3 edd3 ?_ ?_
  · intro t i ℓ' σ₄ kp4 ds4 hi hx et
    exact h1 t i D' σ₄ (kp13.trans kp4) ds4 pre hi hx et
  · intro t ℓ' σ₄ kp4 ds4 hne et
    have evd3 : σ₃.m vd = some (.dict (esV W.n vv) nvd') := kp3.kept _ _ evd (by
      rintro (q | q | ⟨i, hi, q⟩)
      · exact ds1.live q fvd
      · rw [q, ecl1] at fvd; cases fvd
      · have := rows.at' i hi; rw [← q, evd] at this; cases this)
    have kp34 := kp3.trans (kp4.mono fun b q => Or.inl q)
    have tups : ∀ b xs, W.dyn b → σ₃.m b ≠ some (.tup xs) := fun b xs q e => ds3.not_dyn e nofun nofun q
    refine h2 t D' dd cl vd av nd nvd' vv R' σ₄ (kp13.trans kp4) ds4 pre hne et ⟨kp4.kept _ _ edd3 (ds3.not_dyn edd3 nofun nofun), kp4.kept _ _ evd3 (ds3.not_dyn evd3 nofun nofun), rows3.kp kp4 (fun i hi => (nvv i hi).1) tups, fun e he => ?_, fun e he => ⟨kp34.kept _ _ (kp2.kept _ _ (vl1 e he).1 id) (vlS e he), (vl1 e he).2.1⟩, fun i hi => (nvv i hi).1, hc, hn⟩
    have o := ok e he
    have nd1 := ds.not_dyn o.at'.obj nofun nofun
    have nd2 := ds.not_dyn o.at'.ns nofun nofun
    refine o.kp (D := D) (kp13.trans kp4) nd1 nd2 o.ml fun l hl => ?_
    rcases o.row with ⟨r1, _⟩ | ⟨l', r1, _, r3⟩
    · rw [r1] at hl; cases hl
    · rw [r1] at hl; cases hl; exact r3
end Mine
set_option maxHeartbeats 200000
set_option maxHeartbeats 4000000
namespace Mine
variable {w : World} {h0 : Heap} {A : Around} {σ σ' σ'' : St} {ℓ ℓ' : Loc}
/-- where a name of the frame stands: in the frame or in a cell -/
inductive NameAt (env : Env) (ℓ : Loc) (σ : St) (x : Str) (v : AV) : Prop where
  | loc (h : ℓ x = some v) (hl : env.kindOf x = some .local)
  | cell (c : Addr) (hc : env.cells.lookup x = some c) (h : σ.m c = some (.cell (some v))) (hl : env.kindOf x = some .cell)
section
variable {B : Bs} {env : Env} {x : Str} {v : AV}
theorem NameAt.te {Q : AV → St → Prop} {p : Pos} (h : NameAt env ℓ σ x v) (k : Q v σ) (hk : env.scope.kind = .function := by rfl) (hd : (x == ("__debug__" : Str)) = false := by rfl) : Te B A env (.Name x p) ℓ σ Q := by
  cases h with
  | loc h hl => exact e_local h k hk hl hd
  | cell c hc h hl => exact e_cell hc h k hk hl hd
theorem NameAt.kp {S : Addr → Prop} (h : NameAt env ℓ σ x v) (k : Kp S σ σ') (hS : ∀ c u, σ.m c = some (.cell u) → ¬ S c) : NameAt env ℓ σ' x v := by
  cases h with
  | loc h hl => exact .loc h hl
  | cell c hc h hl => exact .cell c hc (k.kept _ _ h (hS _ _ h)) hl
theorem NameAt.to (h : NameAt env ℓ σ x v) (hk : ∀ c u, σ.m c = some (.cell u) → σ'.m c = some (.cell u)) (he : ℓ' x = ℓ x) : NameAt env ℓ' σ' x v := by
  cases h with
  | loc h hl => exact .loc (he.trans h) hl
  | cell c hc h hl => exact .cell c hc (hk _ _ h) hl
theorem binds_nil {Q : Loc → St → Prop} (h : Q ℓ σ) : Binds env [] ℓ σ Q := by unfold Binds; exact h
theorem binds_loc {r : List (Str × AV)} {Q : Loc → St → Prop} (h : Binds env r (upd ℓ x v) σ Q) (hl : env.kindOf x = some .local := by rfl) : Binds env ((x, v) :: r) ℓ σ Q := by
  unfold Binds; rw [hl]; exact h
theorem binds_cell {r : List (Str × AV)} {Q : Loc → St → Prop} {c : Addr} {v₀ : Option AV} (hc : env.cells.lookup x = some c) (hv : σ.m c = some (.cell v₀)) (h : Binds env r ℓ (σ.put c (.cell (some v))) Q) (hl : env.kindOf x = some .cell := by rfl) : Binds env ((x, v) :: r) ℓ σ Q := by
  unfold Binds; rw [hl]; exact ⟨c, v₀, hc, hv, h⟩
theorem cells_nil {cs : List (Str × Addr)} {P : List (Str × Addr) → St → Prop} (h : P cs σ) : OnCells [] cs σ P := by unfold OnCells; exact h
theorem cells_skip {k : NameKind} {r : List (Str × NameKind)} {cs : List (Str × Addr)} {P : List (Str × Addr) → St → Prop} (h : OnCells r cs σ P) (hk : (k == NameKind.cell) = false := by rfl) : OnCells ((x, k) :: r) cs σ P := by
  unfold OnCells; rw [hk]; exact h
theorem cells_new {r : List (Str × NameKind)} {cs : List (Str × Addr)} {P : List (Str × Addr) → St → Prop} (h : ∀ a, σ.m a = none → OnCells r ((x, a) :: cs) (σ.put a (.cell none)) P) : OnCells ((x, .cell) :: r) cs σ P := by
  unfold OnCells; rw [if_pos (by rfl)]; exact h
end
theorem tif_nil {B : Bs} {env : Env} {Q : Bool → St → Prop} (h : Q true σ) : Tif B A env [] ℓ σ Q := by unfold Tif; exact h
theorem tif_one {B : Bs} {env : Env} {c : PySem.Expr} {Q : Bool → St → Prop} (h : Tt B A env c ℓ σ Q) : Tif B A env [c] ℓ σ Q := by unfold Tif; exact h
theorem t_emitC {B : Bs} (O : B.Ok) {elt : PySem.Expr} {gens : List Comprehension} {sc scope : Scope} {pos : Pos} {d : Nat} {acc C : Addr} {env : Env} {cs : List (Str × Addr)} {Q : Loc → St → Prop} (h : Te B A (compEnvC sc cs C env) elt ℓ σ fun v σ' => ∃ xs, σ'.m acc = some (.list xs) ∧ xs.length ≤ sizeLine ∧ Q ℓ (σ'.put acc (.list (xs ++ [v])))) (hg : gens[d + 1]? = none := by rfl) (hl : subIn B.K (.type "list") (.type "list") = some true := by rfl) :
    T B A C (CompIn elt gens scope pos d (.ref acc) (compEnvC sc cs C env)) ℓ σ fun _ => Q := t_emit (env := compEnvC sc cs C env) O h hg hl
theorem frm_all (ns : List Str) : (fun _ => none : Loc) = frm ns (List.replicate ns.length none) := by funext x; rw [frm_none]
theorem dget_esV {n i : Nat} {vv : Nat → Addr} (h : i < n) : dget (esV n vv) (i : Int) = some (.ref (vv i)) := dget_range (f := fun i => .ref (vv i)) h
theorem Net.kp {W : Wd} {D : Nat → Dm} {cons : List CE} {dd vd av : Addr} {nd nvd : Nat} {vv : Nat → Addr} {R : Nat → List (Addr × Nat)} {S : Addr → Prop} (x : Net σ W cons dd vd av nd nvd vv R) (k : Kp S σ σ')
    (h1 : ∀ b o, σ.m b = some o → S b → W.dyn b ∨ (∃ es n, o = .dict es n ∧ b ≠ dd ∧ b ≠ vd) ∨ (∃ u, o = .cell u) ∨ (∃ l, o = .list l ∧ (∀ i, i < W.n → b ≠ vv i) ∧ (∀ e ∈ cons, b ≠ e.vl av ∧ (∀ l, e.v = .ref l → b ≠ l) ∧ (e.C.fs ≠ [] → b ≠ e.ml)))) (ds : Doms σ W D) : Net σ' W cons dd vd av nd nvd vv R := by
  have keep : ∀ {b o}, σ.m b = some o → ¬ W.dyn b → (∀ es n, o = .dict es n → b = dd ∨ b = vd) → (∀ u, o ≠ .cell u) → (∀ l, o = .list l → (∃ i, i < W.n ∧ b = vv i) ∨ ∃ e ∈ cons, b = e.vl av ∨ (∃ l, e.v = .ref l ∧ b = l) ∨ (e.C.fs ≠ [] ∧ b = e.ml)) → σ'.m b = some o := fun {b o} e n1 n2 n3 n4 => k.kept _ _ e fun q => by
    rcases h1 b o e q with h | ⟨es, n, h2, h3, h4⟩ | ⟨u, h⟩ | ⟨l, h2, h3, h4⟩
    · exact n1 h
    · rcases n2 _ _ h2 with r | r
      · exact h3 r
      · exact h4 r
    · exact n3 u h
    · rcases n4 l h2 with ⟨i, hi, r⟩ | ⟨c, hc, r | ⟨l, r1, r⟩ | ⟨r0, r⟩⟩
      · exact h3 i hi r
      · exact (h4 c hc).1 r
      · exact (h4 c hc).2.1 l r1 r
      · exact (h4 c hc).2.2 r0 r
  have nd0 : ∀ {b o}, σ.m b = some o → (∀ C dx xs, o ≠ .dom C dx xs) → (∀ xs, o ≠ .list xs) → ¬ W.dyn b := fun e q1 q2 => ds.not_dyn e q1 q2
  refine ⟨keep x.edd (nd0 x.edd nofun nofun) (fun _ _ _ => .inl rfl) nofun nofun, keep x.evd (nd0 x.evd nofun nofun) (fun _ _ _ => .inr rfl) nofun nofun,
    ⟨fun i hi => keep (x.rows.at' i hi) (x.nvv i hi) nofun nofun (fun _ _ => .inl ⟨i, hi, rfl⟩), fun i hi p hp => by obtain ⟨a, b⟩ := x.rows.tup i hi p hp; exact ⟨a, keep b (nd0 b nofun nofun) nofun nofun nofun⟩, x.rows.nod, x.rows.mem⟩,
    fun e he => ?_, fun e he => ⟨keep (x.hvl e he).1 (x.hvl e he).2 nofun nofun (fun _ _ => .inr ⟨e, he, .inl rfl⟩), (x.hvl e he).2⟩, x.nvv, x.hc, x.hn⟩
  have o := x.ok e he
  refine ⟨⟨keep o.at'.obj (nd0 o.at'.obj nofun nofun) nofun nofun nofun, keep o.at'.ns (nd0 o.at'.ns nofun nofun) nofun nofun nofun, fun q => keep (o.at'.ml q) (o.ml q) nofun nofun fun _ _ => .inr ⟨e, he, .inr (.inr ⟨q, rfl⟩)⟩⟩, o.good, o.lt, o.len, o.nod, o.ne, ?_, o.ml⟩
  rcases o.row with q | ⟨l, q1, q2, q3⟩
  · exact .inl q
  · exact .inr ⟨l, q1, keep q2 q3 nofun nofun fun _ _ => .inr ⟨e, he, .inr (.inl ⟨l, q1, rfl⟩)⟩, q3⟩
abbrev lstScope : Scope := { kind := .function, names := [(".0", .local), ("variable", .local), ("len", .globalImplicit), ("domains", .free), ("vconstraints", .free)], isGenerator := false, isCoroutine := false, more := [] }
abbrev lstCl (cV cD : Addr) : List (Str × Addr) := [("vconstraints", cV), ("domains", cD)]
/-- the numbers of the names, as sorted -/
structure Items (σ : St) (n : Nat) (l : Addr) (qs : List (Addr × Nat)) : Prop where
  at' : σ.m l = some (.list (qs.map fun p => .ref p.1))
  perm : (qs.map (·.2)).Perm (List.range n)
  tup : ∀ p ∈ qs, ∃ x y, σ.m p.1 = some (.tup [.int x, .int y, .int (p.2 : Nat)])
theorem x_lst (O : (BB w h0).Ok) {env : Env} {W : Wd} {D : Nat → Dm} {cons : List CE} {dd vd av cD cV : Addr} {nd nvd : Nat} {vv : Nat → Addr} {R : Nat → List (Addr × Nat)} {rest : List Stmt} {Q : AF → Loc → St → Prop} {p1 p2 p3 p4 p5 p6 p7 p8 p9 pa pb pc pd pe pf pg ph pi pj pk pl pm : Pos} {kk : Nat}
    (lo : Lo 6 A) (ds : Doms σ W D) (sm : Sm W D) (N : Net σ W cons dd vd av nd nvd vv R) (hn : W.n ≤ 60) (hR : ∀ i, i < W.n → (R i).length ≤ 100)
    (hk : env.scope.kind = .function) (hg : env.globals = mainGlobals) (hbu : env.builtins = builtinsNs) (k1 : env.kindOf "lst" = some .local) (ecD : σ.m cD = some (.cell (some (.ref dd)))) (ecV : σ.m cV = some (.cell (some (.ref vd)))) (hD : env.cells.lookup ("domains" : Str) = some cD) (kD : env.kindOf "domains" = some .cell)
    (hclos : closureFor lstScope env = Pure.pure (lstCl cV cD))
    (q1 : ∀ C, (compEnvC lstScope (lstCl cV cD) C env).scope.kind = .function) (q2 : ∀ C, (compEnvC lstScope (lstCl cV cD) C env).kindOf "vconstraints" = some .cell) (q3 : ∀ C, (compEnvC lstScope (lstCl cV cD) C env).kindOf "domains" = some .cell) (q4 : ∀ C, (compEnvC lstScope (lstCl cV cD) C env).kindOf "variable" = some .local) (q5 : ∀ C, (compEnvC lstScope (lstCl cV cD) C env).kindOf "len" = some .globalImplicit)
    (hsw : swapsWith (.ListComp (.Tuple [.UnaryOp .USub (.Call (.Name "len" p1) [.Subscript (.Name "vconstraints" p2) (.Name "variable" p3) p4] [] p5) p6, .Call (.Name "len" p7) [.Subscript (.Name "domains" p8) (.Name "variable" p9) pa] [] pb, .Name "variable" pc] kk pd) [⟨.Name "variable" pe, .Name "domains" pf, [], 0⟩] lstScope pg) (some (.Name "lst" ph)) pi.line env = Pure.pure true)
    (hline : (pk.endLine == pl.line) = true) (hint : interactive env = false) (hsw2 : swapsWith (.Call (.Attribute (.Name "lst" pj) "sort" pk) [] [] pl) none pm.line env = pure false)
    (h : ∀ l qs σ', Kp (fun _ => False) σ σ' → σ.m l = none → Items σ' W.n l qs → Ts (BB w h0) A env rest (setL ℓ "lst" (some (.ref l))) σ' Q) :
    Ts (BB w h0) A env (.Assign [.Name "lst" ph] (.ListComp (.Tuple [.UnaryOp .USub (.Call (.Name "len" p1) [.Subscript (.Name "vconstraints" p2) (.Name "variable" p3) p4] [] p5) p6, .Call (.Name "len" p7) [.Subscript (.Name "domains" p8) (.Name "variable" p9) pa] [] pb, .Name "variable" pc] kk pd) [⟨.Name "variable" pe, .Name "domains" pf, [], 0⟩] lstScope pg) pi ::
      .Expr (.Call (.Attribute (.Name "lst" pj) "sort" pk) [] [] pl) pm :: rest) ℓ σ Q := by
  refine s_cons (x_assign_comp hclos (e_cell hD ecD ?_ hk kD) hsw hk k1)
  refine ⟨_, _, _, it_dict lo.hh N.edd, fun acc hacc C hC => cells_skip (cells_skip (cells_skip (cells_skip (cells_skip (cells_nil ?_)))))⟩
  have kp0 : Kp (fun _ => False) σ (σ.put acc (.list [])) := Kp.refl.put (.inr hacc)
  refine ⟨fun j ℓ' σ' => ∃ ts : List Addr, ts.length = j ∧ Kp (fun b => b = acc) (σ.put acc (.list [])) σ' ∧ σ'.m acc = some (.list (ts.map .ref)) ∧ (∀ i (h1 : i < ts.length), ts[i] ≠ acc ∧ σ'.m ts[i] = some (.tup [.int (-((R i).length : Int)), .int ((D i).xs.length : Int), .int (i : Int)])), ⟨[], rfl, .refl, put_same .., by simp⟩, fun j ℓ' σ' ⟨ts, _, kp, _, _⟩ => kp.kept _ _ (kp0.kept _ _ N.edd id) (by rintro rfl; rw [N.edd] at hacc; cases hacc), ?_, ?_⟩
  · rintro j v ℓ' σ₁ hj ⟨pr, hpr, rfl⟩ ⟨ts, hts, kp, eacc, tup⟩
    have hj' : j < W.n := by simpa [esD] using hj
    have hpr' : pr = ((j : Int), .ref (W.d j)) := by
      unfold esD at hpr
      rw [List.getElem?_map, List.getElem?_range hj'] at hpr
      cases hpr; rfl
    subst hpr'
    have keep : ∀ {x : Addr} {o : AObj}, σ.m x = some o → σ₁.m x = some o := fun {x o} e => kp.kept _ _ (kp0.kept _ _ e id) (by rintro rfl; rw [e] at hacc; cases hacc)
    refine a_local ?_ (q1 C) (q4 C)
    refine tif_nil ?_
    rw [if_pos rfl]
    refine t_emitC O ?_
    have eV := keep N.evd
    have eD := keep N.edd
    have eR := keep (N.rows.at' j hj')
    have dj := (ds j hj').obj
    have ed := keep dj
    have vj : upd ℓ' "variable" (.int (j : Int)) "variable" = some (.int (j : Int)) := by unfold upd; exact if_pos rfl
    refine e_tuple (es_cons (e_una (e_call (e_boot O (g_len _) rfl (es_cons (e_sub (e_cell (c := cV) rfl (keep ecV) (e_local vj ⟨gp_of O eV rfl, gi_dict eV (dget_esV hj') (es_nil ⟨kee_bi, c_len_sq O IsSq.list eR (le_line (by have := hR j hj'; simp; omega)) (una_neg ?_)⟩)⟩ (q1 C) (q4 C)) (q1 C) (q2 C)))) (by decide) (q1 C) (q5 C) hg hbu))))
    refine es_cons (e_call (e_boot O (g_len _) rfl (es_cons (e_sub (e_cell (c := cD) rfl (keep ecD) (e_local vj ⟨gp_of O eD rfl, gi_dict eD (dget_esD hj') (es_nil ⟨kee_bi, c_len_sq O (IsSq.dom 303 _) ed (le_line (by have := sm j hj'; simp; omega)) ?_ (len303 _) (sub303 _)⟩)⟩ (q1 C) (q4 C)) (q1 C) (q3 C)))) (by decide) (q1 C) (q5 C) hg hbu))
    refine es_cons (e_local vj (es_nil ⟨le_line (show 3 ≤ 10000 by decide), fun b hb => ?_⟩) (q1 C) (q4 C))
    have nb : acc ≠ b := by rintro rfl; rw [eacc] at hb; cases hb
    refine ⟨_, put_fresh hb eacc, le_line (by simp; omega), ts ++ [b], by simp [hts], (kp.put (.inr hb)).put (.inl rfl), by rw [put_same]; simp, fun i h1 => ?_⟩
    by_cases q : i < ts.length
    · have e1 : (ts ++ [b])[i] = ts[i] := List.getElem_append_left q
      obtain ⟨t1, t2⟩ := tup i q
      rw [e1, put_other t1]
      exact ⟨t1, put_fresh hb t2⟩
    · have qi : i = j := by simp at h1; omega
      subst qi
      have e1 : (ts ++ [b])[i] = b := by rw [List.getElem_append_right (by omega)]; simp [hts]
      rw [e1, put_other (Ne.symm nb), put_same]
      simp
      exact Ne.symm nb
  · rintro ℓ' σ₁ ⟨ts, hts, kp, eacc, tup⟩
    have hts' : ts.length = W.n := by rw [hts]; simp [esD]
    have vl : upd ℓ "lst" (.ref acc) "lst" = some (.ref acc) := by unfold upd; exact if_pos rfl
    refine s_cons (x_expr (e_meth (e_local vl (fun pl => ml_sort O eacc (es_nil ⟨kee_bi, c_sort_tups O (rows := (List.range W.n).map fun i => [-((R i).length : Int), ((D i).xs.length : Int), (i : Int)]) eacc (by omega) (by simp [hts']) (fun i h1 h2 => ?_) ?_⟩)) hk k1 rfl) rfl rfl rfl hline) hint hsw2)
    · rw [List.getElem_map, List.getElem_range]
      exact ⟨(tup i h1).2, nofun⟩
    · have e1 : upd ℓ "lst" (.ref acc) = setL ℓ "lst" (some (.ref acc)) := rfl
      rw [e1]
      generalize hidx : sortIdx _ ts.length = idx
      have hperm : idx.Perm (List.range ts.length) := by rw [← hidx]; exact sortIdx_perm _ _
      have hlt : ∀ i ∈ idx, i < ts.length := fun i hi => List.mem_range.mp (hperm.mem_iff.mp hi)
      refine h acc (idx.map fun i => (ts.getD i 0, i)) _ ((kp0.tail kp fun b q => .inr (by rw [q]; exact hacc)).tail (S' := fun b => b = acc) (Kp.refl.put (.inl rfl)) fun b q => .inr (by rw [q]; exact hacc)) hacc ⟨?_, ?_, fun p hp => ?_⟩
      · rw [put_same, List.map_map]
        congr 2
        apply List.map_congr_left
        intro i hi
        have := hlt i hi
        simp [List.getD, this]
      · rw [List.map_map, ← hts']
        have : ((fun p : Addr × Nat => p.2) ∘ fun i => (ts.getD i 0, i)) = id := rfl
        rw [this, List.map_id]; exact hperm
      · obtain ⟨i, hi, rfl⟩ := List.mem_map.mp hp
        have h1 := hlt i hi
        obtain ⟨t1, t2⟩ := tup i h1
        have e2 : ts.getD i 0 = ts[i] := by simp [List.getD, h1]
        dsimp only
        rw [e2, put_other t1]
        exact ⟨_, _, t2⟩
end Mine
set_option maxHeartbeats 200000
namespace Mine
variable {B : Bs} {A : Around} {L : Addr} {σ : St} {ℓ : Loc} {a l : Addr} {xs ys : List AV}
/-- a list that can be read: one of ours, or one of the heap below -/
def RL (B : Bs) (σ : St) (l : Addr) (xs : List AV) : Prop := ∀ s, Rel B σ s → ∃ vs, s.heap.IsList l vs ∧ vs.toList.map ab = xs
/-- a list of the heap below -/
def BL (B : Bs) (l : Addr) (xs : List AV) : Prop := ∃ vs, B.h0.IsList l vs ∧ vs.toList.map ab = xs
theorem RL.of (e : σ.m l = some (.list xs)) : RL B σ l xs := fun s R => let ⟨vs, n, h, q⟩ := sq_at IsSq.list R e; ⟨vs, ⟨_, h, rfl, n, rfl⟩, q⟩
theorem BL.rl (h : BL B l xs) : RL B σ l xs := fun s R => let ⟨vs, ⟨o, e, c, d⟩, q⟩ := h; ⟨vs, ⟨o, R.base _ _ e, c, d⟩, q⟩
theorem Rel.kept {s : Shared} {h' : Heap} {k : Nat} (R : Rel B σ s) (hk : ∀ b o, s.heap.get? b = some o → h'.get? b = some o) : Rel B σ { s with heap := h', toks := k } ∧ Step σ s σ { s with heap := h', toks := k } :=
  ⟨⟨fun b o e => hk b o (R.base b o e), fun b ao e => let ⟨x, o, ho, y⟩ := R.own b ao e; ⟨x, o, hk b o ho, y⟩, R.gens, R.low⟩, ⟨fun b o e _ => hk b o e, fun _ h => .inl h, rfl⟩⟩
theorem int_items {vs : List Value} {ns : List Int} (h : vs.map ab = ns.map AV.int) : ∃ arr : Array (Int × Tok), vs.toArray = intItems arr ∧ arr.toList.map (·.1) = ns := by
  induction vs generalizing ns with
  | nil =>
    cases ns with
    | nil => exact ⟨#[], by simp [intItems], rfl⟩
    | cons n r => cases h
  | cons v r ih =>
    cases ns with
    | nil => cases h
    | cons n ns =>
      rw [List.map_cons, List.map_cons] at h
      injection h with h1 h2
      obtain ⟨t, rfl⟩ := ab_int h1
      obtain ⟨arr, e1, e2⟩ := ih h2
      refine ⟨#[(n, t)] ++ arr, ?_, by simp [e2]⟩
      have : (Value.int n t :: r).toArray = #[Value.int n t] ++ r.toArray := by simp
      rw [this, e1]
      simp [intItems]
theorem RL.ints {ns : List Int} (h : RL B σ l (ns.map .int)) {s : Shared} (R : Rel B σ s) : ∃ arr : Array (Int × Tok), s.heap.IsList l (intItems arr) ∧ arr.toList.map (·.1) = ns := by
  obtain ⟨vs, e, q⟩ := h s R
  obtain ⟨arr, e1, e2⟩ := int_items q
  have : vs = intItems arr := by rw [← e1]
  exact ⟨arr, this ▸ e, e2⟩
variable {Q : AV → St → Prop}
theorem c_len_rl (h : RL B σ l xs) (hz : xs.length ≤ 10000) (k : Q (.int xs.length) σ) : Callf B A (.bi "len") [.ref l] σ Q := fun fv vs hf hvs s R => by
  obtain rfl := ab_bi hf
  obtain ⟨u, rfl, hu⟩ := one hvs
  obtain rfl := ab_ref hu
  obtain ⟨ws, e, q⟩ := h s R
  have hl : ws.size = xs.length := by rw [← q]; simp
  refine PySem.Calls.call_len_list (items := ws) e (by omega) ⟨σ, R.tok, .tok, ?_⟩
  rw [hl]; exact k
theorem num_sum (arr : Array (Int × Tok)) : preSum (numAt arr) arr.size = (arr.toList.map (·.1)).sum := by
  rw [preSum_eq, List.take_of_length_le (by simp)]
theorem c_sum_rl (hh : A.handled = none) {ns : List Int} (h : RL B σ l (ns.map .int)) (k : Q (.int ns.sum) σ) : Callf B A (.bi "sum") [.ref l] σ Q := fun fv vs hf hvs s R => by
  obtain rfl := ab_bi hf
  obtain ⟨u, rfl, hu⟩ := one hvs
  obtain rfl := ab_ref hu
  obtain ⟨arr, e1, e2⟩ := h.ints R
  refine sum_intListG hh e1 fun h' tk t' hk => ?_
  obtain ⟨R', S'⟩ := R.kept (k := tk) hk
  refine ⟨σ, R', S', ?_⟩
  rw [num_sum, e2]; exact k
theorem c_max_rl (hh : A.handled = none) {ns : List Int} (hne : ns ≠ []) (h : RL B σ l (ns.map .int)) (k : ∀ M, M ∈ ns → (∀ a ∈ ns, a ≤ M) → Q (.int M) σ) : Callf B A (.bi "max") [.ref l] σ Q := fun fv vs hf hvs s R => by
  obtain rfl := ab_bi hf
  obtain ⟨u, rfl, hu⟩ := one hvs
  obtain rfl := ab_ref hu
  obtain ⟨arr, e1, e2⟩ := h.ints R
  have hsz : 0 < arr.size := by
    have : ns.length = arr.size := by rw [← e2]; simp
    have := List.length_pos_iff.mpr hne; omega
  have Fm : True := trivial
  refine max_intList hh e1 hsz fun v h' tk hv hk => ?_
  obtain ⟨R', S'⟩ := R.kept (k := tk) hk
  obtain ⟨t, rfl⟩ := intItems_at hv
  obtain ⟨q1, q2⟩ := argBest_gt (numAt arr) (arr.size - 1)
  have hlt : argBest (fun i j => decide (numAt arr i > numAt arr j)) (arr.size - 1) < ns.length := by
    have : ns.length = arr.size := by rw [← e2]; simp
    omega
  refine ⟨σ, R', S', k _ ?_ fun a ha => ?_⟩
  · rw [numAt_eq, e2]; exact getD_mem hlt
  · obtain ⟨j, hj, rfl⟩ := mem_getD ha
    have := q2 j (by have : ns.length = arr.size := by rw [← e2]; simp
                     omega)
    rw [numAt_eq, numAt_eq, e2] at this
    rw [numAt_eq, e2]; exact this
theorem c_abs {n : Int} (k : Q (.int (if n < 0 then -n else n)) σ) : Callf B A (.bi "abs") [.int n] σ Q := fun fv vs hf hvs s R => by
  obtain rfl := ab_bi hf
  obtain ⟨u, rfl, hu⟩ := one hvs
  obtain ⟨t, rfl⟩ := ab_int hu
  exact call_abs_int fun u tk => ⟨σ, R.tok, .tok, k⟩
end Mine
set_option maxHeartbeats 200000
namespace Mine
variable {B : Bs} {A : Around} {L : Addr} {σ : St} {ℓ : Loc} {a b l : Addr} {xs ys : List AV} {Q : AV → St → Prop}
theorem RL.is (h : RL B σ l xs) {s : Shared} (R : Rel B σ s) : ∃ vs, s.heap.IsList l vs ∧ vs.toList.map ab = xs := h s R
/-- list + list -/
theorem bin_lists (h1 : RL B σ a xs) (h2 : RL B σ b ys) (hz : xs.length + ys.length ≤ sizeLine) (k : ∀ c, σ.m c = none → Q (.ref c) (σ.put c (.list (xs ++ ys)))) : Bin B A .Add (.ref a) (.ref b) σ Q := fun va vb ha hb s R => by
  obtain rfl := ab_ref ha
  obtain rfl := ab_ref hb
  obtain ⟨vs, ⟨⟨cls, dd, data, sl⟩, e, hc, n, hd⟩, q⟩ := h1 s R
  obtain ⟨ws, ⟨⟨cls2, dd2, data2, sl2⟩, e2, hc2, n2, hd2⟩, q2⟩ := h2 s R
  dsimp only at hc hd hc2 hd2
  subst hc hd hc2 hd2
  have s1 : vs.size + ws.size ≤ sizeLine := by rw [sq_size q, sq_size q2]; exact hz
  refine concat_meets ⟨_, e, rfl⟩ ⟨_, e2, rfl⟩ noFill_list_add seq_list_add PySem.F.slot_list_add PySem.F.entry_list_add (PySem.F.args_list_add_2 _ _) (list_addW a b vs ws n n2 dd dd2 sl sl2 s1) ⟨e, e2, ?_⟩
  obtain ⟨R', S', hm⟩ := R.push (o := { cls := .type "list", data := .seq (vs ++ ws) }) (ao := .list (xs ++ ys)) ⟨vs ++ ws, 0, rfl, by simp [q, q2]⟩ rfl
  exact ⟨_, R', S', k _ hm⟩
/-- a slice of a readable list, no step -/
theorem T.evalPart {env : Env} {o : Option PySem.Expr} {Q : AV → St → Prop} (h : Tp B A env o ℓ σ Q) : T B A env.locals (evalPart o env) ℓ σ fun v ℓ' σ' => ℓ' = ℓ ∧ Q (ab v) σ' := by
  cases o with
  | none => exact T.pure ⟨rfl, h⟩
  | some e => exact h
theorem e_sliceR {env : Env} {pos p : Pos} {value : PySem.Expr} {lower upper : Option PySem.Expr} {lo hi : Option Int}
    (hh : Te B A env value ℓ σ fun o σ₁ => Tp B A env lower ℓ σ₁ fun l σ₂ => Tp B A env upper ℓ σ₂ fun u σ₃ =>
      ∃ a xs, o = .ref a ∧ RL B σ₃ a xs ∧ IsP l lo ∧ IsP u hi ∧ xs.length ≤ sizeLine ∧ ∀ b, σ₃.m b = none → Q (.ref b) (σ₃.put b (.list (apick xs lo hi none))))
    (ht : ∀ o r, letTemporaryGo value o r = Pure.pure () := by intro _ _; rfl) : Te B A env (.Subscript value (.Slice lower upper none p) pos) ℓ σ Q := fun s R F => by
  refine wpAny_Subscript_list_slice ?_ ht
  refine wpAny_mono (hh s R F) (fun o s₁ ⟨ℓ₁, σ₁, R₁, F₁, S₁, e₁, h₁⟩ => ?_) fun _ _ x => x.elim
  subst e₁
  refine wpAny_mono (T.evalPart h₁ s₁ R₁ F₁) (fun vl s₂ ⟨ℓ₂, σ₂, R₂, F₂, S₂, e₂, h₂⟩ => ?_) fun _ _ x => x.elim
  subst e₂
  refine wpAny_mono (T.evalPart h₂ s₂ R₂ F₂) (fun vu s₃ ⟨ℓ₃, σ₃, R₃, F₃, S₃, e₃, a, xs, ho, rl, p1, p2, hz, k⟩ => ?_) fun _ _ x => x.elim
  subst e₃
  obtain ⟨items, il, q⟩ := rl.is R₃
  refine ⟨a, items, lo, hi, ab_ref ho, il, by rw [sq_size q]; exact hz, p1.part rfl, p2.part rfl, ?_⟩
  obtain ⟨R₄, S₄, hm⟩ := R₃.push (o := sliceObj vl vu .none) (ao := .raw (sliceObj vl vu .none)) rfl rfl
  have hs4 : ({ s₃ with heap := s₃.heap.push (sliceObj vl vu .none) } : Shared).heap.objs.size = s₃.heap.objs.size + 1 := Heap.size_push ..
  obtain ⟨R₅, S₅, hm₅⟩ := R₄.push (o := { cls := .type "list", data := .seq (slicePick items lo hi none) }) (ao := .list (apick xs lo hi none)) ⟨_, _, rfl, apick_of q lo hi none⟩ rfl
  rw [hs4] at R₅ S₅ hm₅
  have S45 := S₄.trans S₅
  have hne : s₃.heap.objs.size + 1 ≠ s₃.heap.objs.size := by omega
  have sub : St.Sub (σ₃.put (s₃.heap.objs.size + 1) (.list (apick xs lo hi none))) ((σ₃.put s₃.heap.objs.size (.raw (sliceObj vl vu .none))).put (s₃.heap.objs.size + 1) (.list (apick xs lo hi none))) := sub_put hm hne
  have R₆ := R₅.sub sub
  have S₆ : Step σ₃ s₃ (σ₃.put (s₃.heap.objs.size + 1) (.list (apick xs lo hi none))) _ := ⟨S45.kept, fun b e => S45.grow b (sub_none sub e), S45.os⟩
  refine ⟨_, _, R₆, F₃.step S₆, (S₁.trans (S₂.trans S₃)).trans (StepL.of S₆ F₃.at.choose_spec F₃.2.1), rfl, k _ ?_⟩
  rw [put_other hne] at hm₅; exact hm₅
/-- min(a, b) -/
theorem c_min2 (hh : A.handled = none) {x y : Int} (k : Q (.int (min x y)) σ) : Callf B A (.bi "min") [.int x, .int y] σ Q := fun fv vs hf hvs s R => by
  obtain rfl := ab_bi hf
  obtain ⟨u, v, rfl, h1, h2⟩ := two hvs
  obtain ⟨t, rfl⟩ := ab_int h1
  obtain ⟨t', rfl⟩ := ab_int h2
  refine min_two_ints hh fun h' tk hk => ?_
  obtain ⟨R', S'⟩ := R.kept (k := tk) hk
  refine ⟨σ, R', S', ?_⟩
  by_cases c : y < x
  · rw [if_pos c]; rw [show min x y = y by omega] at k; exact k
  · rw [if_neg c]; rw [show min x y = x by omega] at k; exact k
-- range
def rangeObj (n : Int) (t u v : Tok) : Obj := { cls := .type "range", dict := none, data := .fields #[.int 0 t, .int n u, .int 1 v], slots := #[] }
theorem c_range {n : Int} (k : ∀ a t u v, σ.m a = none → Q (.ref a) (σ.put a (.raw (rangeObj n t u v)))) : Callf B A (.ty "range") [.int n] σ Q := fun fv vs hf hvs s R => by
  obtain rfl := ab_ty hf
  obtain ⟨u, rfl, hu⟩ := one hvs
  obtain ⟨t, rfl⟩ := ab_int hu
  refine call_range_1 ?_
  obtain ⟨R', S', hm⟩ := (R.tok (k := s.toks + 1 + 1)).push (o := rangeObj n s.toks t (s.toks + 1)) (ao := .raw (rangeObj n s.toks t (s.toks + 1))) rfl rfl
  exact ⟨_, R', Step.trans .tok S', k _ _ _ _ hm⟩
theorem it_range (hh : A.handled = none) {n : Nat} {t u v : Tok} (hn : (n : Int) < 2 ^ 62) (e : σ.m a = some (.raw (rangeObj n t u v))) : Iter B A (.ref a) σ n (fun _ => True) (fun i v => v = .int i) := fun v hv s R Q k => by
  obtain rfl := ab_ref hv
  have hr : IsRange s.heap a 0 n 1 t u v := raw_at R e
  refine wpAny_pyIter_range hr (small_one (by omega) (by omega) (by omega) hn) ?_
  have ez : Builtin.Range.rangeSize 0 n 1 = ((n : Int) - ((0 : Nat) : Int)) := by rw [rangeSize_one]; split <;> omega
  refine k s.heap.objs.size _ _ s.toks (no_obj _) (fun b o e => Heap.get?_push_of_some _ e) (src_range hh) ?_
  show Heap.get? _ _ = _
  rw [Heap.get?_push_size _ rfl, ez]
  rfl
-- comparisons of lists
theorem cmp_ne_nil (hu : A.units < cLine) (h1 : RL B σ a xs) (h2 : RL B σ b []) (k : Q (.bool (!xs.isEmpty)) σ) : Cmp B A .NotEq (.ref a) (.ref b) σ Q := fun va vb ha hb s R => by
  obtain rfl := ab_ref ha
  obtain rfl := ab_ref hb
  obtain ⟨vs, il, q⟩ := h1.is R
  obtain ⟨ws, il2, q2⟩ := h2.is R
  have z2 := sq_size q2
  have z1 := sq_size q
  cases xs with
  | nil =>
    exact SeqAt.RcNeAt.lists (e := fun _ => true) il il2 (by rw [z1, z2]) hu (fun j h1 h2 => by rw [z2] at h2; cases h2) B.prog B.w _ _ (by
      have : ((List.range vs.size).all fun _ => true) = true := by simp
      rw [this]; exact ⟨σ, R, .refl .., k⟩)
  | cons x xs =>
    exact SeqAt.RcNeAt.lists_lengths il il2 (by rw [z1, z2]; rfl) hu B.prog B.w _ _ ⟨σ, R, .refl .., k⟩
theorem all_eq {ns ms : List Int} (h : ns.length = ms.length) : ((List.range ns.length).all fun j => ns.getD j 0 == ms.getD j 0) = decide (ns = ms) := by
  rw [Bool.eq_iff_iff, List.all_eq_true]
  simp only [List.mem_range, beq_iff_eq, decide_eq_true_eq]
  constructor
  · intro hj
    refine List.ext_getElem h fun i h1 h2 => ?_
    have := hj i h1
    rwa [getD_at h1, getD_at h2] at this
  · rintro rfl; intros; rfl
theorem rc_ints {s : Shared} {l b : Addr} {ns ms : List Int} {vs ws : Array Value} (il : s.heap.IsList l vs) (il2 : s.heap.IsList b ws) (q : vs.toList.map ab = ns.map .int) (q2 : ws.toList.map ab = ms.map .int) (hu : A.units < cLine) :
    SeqAt.RcAt A s (.ref l) (.ref b) (decide (ns = ms)) := by
  have z1 := sq_size q
  have z2 := sq_size q2
  simp only [List.length_map] at z1 z2
  obtain ⟨_, g1⟩ := ints_of q
  obtain ⟨_, g2⟩ := ints_of q2
  by_cases h : ns.length = ms.length
  · rw [← all_eq h, ← z1]
    refine SeqAt.RcAt.lists il il2 (by omega) hu fun j h1 h2 => ?_
    obtain ⟨t, e1⟩ := g1 j (by omega)
    obtain ⟨t', e2⟩ := g2 j (by omega)
    have f1 : vs[j] = .int ns[j] t := by
      have := e1; rw [Array.getElem?_toList, Array.getElem?_eq_getElem h1] at this; injection this
    have f2 : ws[j] = .int ms[j] t' := by
      have := e2; rw [Array.getElem?_toList, Array.getElem?_eq_getElem h2] at this; injection this
    rw [f1, f2, getD_at (by omega : j < ns.length), getD_at (by omega : j < ms.length)]
    exact SeqAt.EqAt.int_int _ _ _ _
  · rw [show decide (ns = ms) = false by rw [decide_eq_false_iff_not]; rintro rfl; exact h rfl]
    exact SeqAt.RcAt.lists_lengths il il2 (by rw [z1, z2]; simpa using h) hu
theorem cmp_eq_ints {ns ms : List Int} (hu : A.units < cLine) (h1 : RL B σ a (ns.map .int)) (h2 : RL B σ b (ms.map .int)) (k : Q (.bool (decide (ns = ms))) σ) : Cmp B A .Eq (.ref a) (.ref b) σ Q := fun va vb ha hb s R => by
  obtain rfl := ab_ref ha
  obtain rfl := ab_ref hb
  obtain ⟨vs, il, q⟩ := h1.is R
  obtain ⟨ws, il2, q2⟩ := h2.is R
  exact rc_ints il il2 q q2 hu B.prog B.w _ _ ⟨σ, R, .refl .., k⟩
def isI (x : Int) : AV → Bool
  | .int n => n == x
  | _ => false
theorem cmp_nin_ints {ns : List Int} {x : Int} (h : RL B σ b (ns.map .int)) (k : Q (.bool (decide (x ∉ ns))) σ) : Cmp B A .NotIn (.int x) (.ref b) σ Q := fun va vb ha hb s R => by
  obtain ⟨t, rfl⟩ := ab_int ha
  obtain rfl := ab_ref hb
  obtain ⟨vs, il, q⟩ := h.is R
  refine SeqAt.notIn_listAt (fun y => isI x (ab y)) il (fun y hy => ?_) ?_
  · have : ab y ∈ ns.map AV.int := by rw [← q]; exact List.mem_map_of_mem (by simpa using hy)
    obtain ⟨n, _, e⟩ := List.mem_map.mp this
    obtain ⟨t', rfl⟩ := ab_int e.symm
    exact SeqAt.EqAt.int_int (A := A.in1) (s := s) n t' x t
  · refine ⟨σ, R, .refl .., ?_⟩
    have : (vs.any fun y => isI x (ab y)) = decide (x ∈ ns) := by
      have : (vs.any fun y => isI x (ab y)) = (vs.toList.map ab).any (isI x) := by rw [List.any_map, ← Array.any_toList]; rfl
      rw [this, q, List.any_map, Bool.eq_iff_iff, List.any_eq_true]
      simp [isI]
    rw [this]
    have e : (!decide (x ∈ ns)) = decide (x ∉ ns) := by simp
    show Q (.bool _) σ
    rw [e]; exact k
end Mine
set_option maxHeartbeats 200000
namespace Mine
variable {B : Bs} {A : Around} {L : Addr} {σ : St} {ℓ : Loc} {a b l : Addr} {xs ys : List AV} {Q : AV → St → Prop}
/-- a op b op' c, as a test -/
theorem t_chain {env : Env} {pos : Pos} {x y z : PySem.Expr} {o1 o2 : CmpOp} {Q : Bool → St → Prop}
    (h : Te B A env x ℓ σ fun a σ₁ => Te B A env y ℓ σ₁ fun b σ₂ => Cmp B A o1 a b σ₂ fun c σ₃ => Tru B A c σ₃ fun t σ₄ => if t = true then Te B A env z ℓ σ₄ fun d σ₅ => Cmp B A o2 b d σ₅ fun c' σ₆ => Tru B A c' σ₆ Q else Q false σ₄)
    (hm : lastMarks [o1, o2] [y, z] = false := by with_unfolding_all rfl) : Tt B A env (.Compare x [o1, o2] [y, z] pos) ℓ σ Q := by
  show T _ _ _ (do testChain pos (← eval x env) [o1, o2] (markedEach [o1, o2] [y, z] (evalEach [y, z] env))) _ _ _
  rw [markedEach_of_false _ _ _ hm]
  refine T.bind (T.mono h ?_)
  rintro v ℓ₁ σ₁ ⟨rfl, h₁⟩
  show T _ _ _ (do
    let rv ← holding [v] (eval y env)
    standAt pos
    let c ← holding [v, rv] (compareOp o1 v rv)
    release [v, rv] [c]
    if ← holding [c, rv] (truthy c) then testChain pos rv [o2] [eval z env] else Pure.pure false) _ _ _
  refine T.bind (T.holding (T.mono h₁ ?_))
  rintro rv ℓ₂ σ₂ ⟨rfl, h₂⟩
  refine T.bind (T.standAt (T.bind (T.holding (T.of0 (T0.mono (h₂ _ _ rfl rfl) fun c σ₃ h₃ => ?_)))))
  refine T.bind (fun s R F => wpAny_release' ⟨_, σ₃, R, F, .refl F, ?_⟩)
  refine T.bind (T.holding (T.of0 (T0.mono (h₃ _ rfl) fun t σ₄ h₄ => ?_)))
  cases t with
  | false => exact T.pure ⟨rfl, h₄⟩
  | true =>
    show T _ _ _ (do
      let rv' ← holding [rv] (eval z env)
      standAt pos
      let c ← operate [rv, rv'] (compareOp o2 rv rv')
      holding [c] (truthy c)) _ _ _
    refine T.bind (T.holding (T.mono h₄ ?_))
    rintro rv' ℓ₅ σ₅ ⟨rfl, h₅⟩
    refine T.bind (T.standAt (T.bind (T.operate (T.of0 (T0.mono (h₅ _ _ rfl rfl) fun c' σ₆ h₆ => ?_)))))
    exact T.holding (T.of0 (T0.mono (h₆ _ rfl) fun _ _ y => ⟨rfl, y⟩))
/-- rows: lists of ints -/
structure RowsAt (σ : St) (ts : List Addr) (rows : List (List Int)) : Prop where
  len : ts.length = rows.length
  at_ : ∀ (i : Nat) (a : Addr) (r : List Int), ts[i]? = some a → rows[i]? = some r → σ.m a = some (.list (r.map .int))
theorem RowsAt.mem {ts : List Addr} {rows : List (List Int)} (h : RowsAt σ ts rows) {a : Addr} (ha : a ∈ ts) : ∃ (i : Nat) (r : List Int), ts[i]? = some a ∧ rows[i]? = some r ∧ σ.m a = some (.list (r.map .int)) := by
  obtain ⟨i, hi⟩ := List.mem_iff_getElem?.mp ha
  have hl : i < ts.length := by
    rcases Nat.lt_or_ge i ts.length with h | h
    · exact h
    · rw [List.getElem?_eq_none h] at hi; cases hi
  have h2 : rows[i]? = some (rows[i]'(by rw [← h.len]; exact hl)) := List.getElem?_eq_getElem _
  exact ⟨i, _, hi, h2, h.at_ i a _ hi h2⟩
theorem RowsAt.to {σ' : St} {ts : List Addr} {rows : List (List Int)} (h : RowsAt σ ts rows) (k : ∀ a ∈ ts, ∀ o, σ.m a = some o → σ'.m a = some o) : RowsAt σ' ts rows :=
  ⟨h.len, fun i a r h1 h2 => k a (List.mem_of_getElem? h1) _ (h.at_ i a r h1 h2)⟩
theorem ints_inj {xs ys : List Int} (h : xs.map AV.int = ys.map AV.int) : xs = ys := by
  induction xs generalizing ys with
  | nil => cases ys with
    | nil => rfl
    | cons y ys => cases h
  | cons x xs ih => cases ys with
    | nil => cases h
    | cons y ys =>
      rw [List.map_cons, List.map_cons] at h
      injection h with h1 h2
      injection h1 with h1
      rw [h1, ih h2]
theorem cmp_in_rows {ts : List Addr} {rows : List (List Int)} {x : Addr} {r : List Int} (hu : A.units + 1 < cLine) (e : σ.m l = some (.list (ts.map .ref))) (hr : RowsAt σ ts rows) (ex : σ.m x = some (.list (r.map .int))) (hx : x ∉ ts)
    (k : Q (.bool (decide (r ∈ rows))) σ) : Cmp B A .In (.ref x) (.ref l) σ Q := fun va vb ha hb s R => by
  obtain rfl := ab_ref ha
  obtain rfl := ab_ref hb
  obtain ⟨vs, il, q⟩ := (RL.of e).is R
  obtain ⟨ws, ix, q2⟩ := (RL.of ex).is R
  let f : Value → Bool := fun y => @decide (σ.m (match y with | .ref c => c | _ => x) = some (.list (r.map .int))) (Classical.propDecidable _)
  have fref : ∀ c i r', ts[i]? = some c → rows[i]? = some r' → f (.ref c) = decide (r' = r) := fun c i r' h1 h2 => by
    rw [Bool.eq_iff_iff]
    show @decide _ (Classical.propDecidable _) = true ↔ _
    rw [@decide_eq_true_iff _ (Classical.propDecidable _), decide_eq_true_iff]
    show σ.m c = _ ↔ _
    rw [hr.at_ i c r' h1 h2, Option.some.injEq, AObj.list.injEq]
    exact ⟨fun h => ints_inj h, fun h => by rw [h]⟩
  refine SeqAt.in_listAt f il (fun y hy => ?_) ?_
  · have : ab y ∈ ts.map AV.ref := by rw [← q]; exact List.mem_map_of_mem (by simpa using hy)
    obtain ⟨c, hc, e1⟩ := List.mem_map.mp this
    obtain rfl := ab_ref e1.symm
    obtain ⟨i, r', h1, h2, h3⟩ := hr.mem hc
    rw [fref c i r' h1 h2]
    obtain ⟨us, iu, qu⟩ := (RL.of h3).is R
    have hne : c ≠ x := by rintro rfl; exact hx hc
    have := SeqAt.EqAt.of_refs hne (rc_ints (A := A.in1) iu ix qu q2 hu)
    exact this
  · refine ⟨σ, R, .refl .., ?_⟩
    have : vs.any f = decide (r ∈ rows) := by
      rw [Bool.eq_iff_iff, Array.any_eq_true', decide_eq_true_iff]
      constructor
      · rintro ⟨y, hy, fy⟩
        have : ab y ∈ ts.map AV.ref := by rw [← q]; exact List.mem_map_of_mem (by simpa using hy)
        obtain ⟨c, hc, e1⟩ := List.mem_map.mp this
        obtain rfl := ab_ref e1.symm
        obtain ⟨i, r', h1, h2, h3⟩ := hr.mem hc
        rw [fref c i r' h1 h2, decide_eq_true_iff] at fy
        exact fy ▸ List.mem_of_getElem? h2
      · intro hm
        obtain ⟨i, hi⟩ := List.mem_iff_getElem?.mp hm
        have hl : i < ts.length := by
          rw [hr.len]
          rcases Nat.lt_or_ge i rows.length with h | h
          · exact h
          · rw [List.getElem?_eq_none h] at hi; cases hi
        have h1 : ts[i]? = some ts[i] := List.getElem?_eq_getElem hl
        refine ⟨.ref ts[i], ?_, by rw [fref _ i r h1 hi, decide_eq_true_iff]⟩
        have : AV.ref ts[i] ∈ vs.toList.map ab := by rw [q]; exact List.mem_map_of_mem (List.getElem_mem hl)
        obtain ⟨y, hy, e1⟩ := List.mem_map.mp this
        obtain rfl := ab_ref e1
        simpa using hy
    rw [this]
    exact k
/-- division of one large int by a large one of about its size -/
theorem noPylong_near {x y : Int} (h : x.natAbs ≤ 2 ^ 100 * y.natAbs) : Builtin.divisionGoesByPylong x y = false := by
  show (decide ((if y == 0 then 0 else y.natAbs.log2 / 30 + 1) > 300) && decide ((if x == 0 then 0 else x.natAbs.log2 / 30 + 1) > (if y == 0 then 0 else y.natAbs.log2 / 30 + 1) + 150)) = false
  by_cases hx : x = 0
  · subst hx; simp
  by_cases hy : y = 0
  · subst hy; simp at h; exact absurd h hx
  have h1 : (x == 0) = false := by simpa using hx
  have h2 : (y == 0) = false := by simpa using hy
  rw [h1, h2]
  simp only [Bool.false_eq_true, if_false]
  have hb : x.natAbs.log2 < 100 + y.natAbs.log2 + 1 := by
    rw [Nat.log2_lt (by omega)]
    have : y.natAbs < 2 ^ (y.natAbs.log2 + 1) := Nat.lt_log2_self
    calc x.natAbs ≤ 2 ^ 100 * y.natAbs := h
      _ < 2 ^ 100 * 2 ^ (y.natAbs.log2 + 1) := Nat.mul_lt_mul_of_pos_left this (by decide)
      _ = 2 ^ (100 + y.natAbs.log2 + 1) := by rw [← Nat.pow_add]; congr 1
  have : ¬ (x.natAbs.log2 / 30 + 1 > y.natAbs.log2 / 30 + 1 + 150) := by omega
  rw [decide_eq_false this, Bool.and_false]
end Mine
set_option maxHeartbeats 200000
namespace Mine
variable {B : Bs} {A : Around} {L : Addr} {σ : St} {ℓ : Loc} {a b l : Addr} {xs ys : List AV} {Q : AV → St → Prop}
/-- sorted(x): gather, make a list, sort it -/
theorem c_sorted {x : AV} (h : ∀ v, ab v = x → T0 B A.in1 (collect v) σ fun vs σ₁ => vs.length ≤ sizeLine ∧ ∀ c, σ₁.m c = none → Callf B A.in1 (.bi "list.sort") [.ref c] (σ₁.put c (.list (vs.map ab))) fun _ σ₂ => Q (.ref c) σ₂) :
    Callf B A (.bi "sorted") [x] σ Q := fun fv vs hf hvs s R => by
  obtain rfl := ab_bi hf
  obtain ⟨u, rfl, hu⟩ := one hvs
  refine Calls.call_function_entry kind_sorted plain_sorted entry_sorted (args_sorted1 _) ?_
  unfold Builtin.«sorted»
  refine wpAny_bind (m := checkCount "sorted" 1 1 _) (wpAny_pure ?_)
  refine wpAny_bind (wpAny_mono (h u hu s R) (fun ws s₁ ⟨σ₁, R₁, S₁, hz, k⟩ => ?_) fun _ _ x => x.elim)
  refine wpAny_bind (wpAny_newList ?_ hz)
  obtain ⟨R₂, S₂, hm⟩ := R₁.push (o := seqObj "list" ws.toArray 0) (ao := .list (ws.map ab)) ⟨_, _, rfl, by simp⟩ rfl
  refine wpAny_bind (wpAny_holding (wpAny_mono (k _ hm (.builtin "list.sort") [.ref s₁.heap.objs.size] rfl rfl _ R₂) (fun v s₃ ⟨σ₃, R₃, S₃, q⟩ => ?_) fun _ _ x => x.elim))
  exact wpAny_pure ⟨_, rfl, σ₃, R₃, S₁.trans (S₂.trans S₃), q⟩
/-- many new objects at once -/
def St.add (σ : St) (as : List Addr) (f : Addr → AObj) : St := ⟨fun b => if b ∈ as then some (f b) else σ.m b, σ.g⟩
theorem add_in {as : List Addr} {f : Addr → AObj} (h : a ∈ as) : (σ.add as f).m a = some (f a) := if_pos h
theorem add_out {as : List Addr} {f : Addr → AObj} (h : a ∉ as) : (σ.add as f).m a = σ.m a := if_neg h
theorem Rel.add {s : Shared} {h' : Heap} {tk : Nat} {as : List Addr} {f : Addr → AObj} (R : Rel B σ s) (hk : ∀ b o, s.heap.get? b = some o → h'.get? b = some o) (hn : ∀ a ∈ as, s.heap.objs.size ≤ a)
    (ho : ∀ a ∈ as, ∃ o, h'.get? a = some o ∧ OIs o (f a)) : Rel B (σ.add as f) { s with heap := h', toks := tk } ∧ Step σ s (σ.add as f) { s with heap := h', toks := tk } := by
  have new : ∀ a ∈ as, s.heap.get? a = none := fun a ha => by
    cases e : s.heap.get? a with
    | none => rfl
    | some o => exact absurd (Heap.lt_size e) (Nat.not_lt.mpr (hn a ha))
  refine ⟨⟨fun b o e => hk b o (R.base b o e), fun b ao e => ?_, R.gens, R.low.1, fun b hb => ?_⟩, ⟨fun b o e _ => hk b o e, fun b hb => ?_, rfl⟩⟩
  · by_cases hb : b ∈ as
    · rw [add_in hb] at e; cases e
      obtain ⟨o, h1, h2⟩ := ho b hb
      exact ⟨(R.free (new b hb)).1, o, h1, h2⟩
    · rw [add_out hb] at e
      obtain ⟨x, o, h1, h2⟩ := R.own b ao e
      exact ⟨x, o, hk b o h1, h2⟩
  · by_cases hb' : b ∈ as
    · exact Nat.lt_of_lt_of_le R.size_low (hn b hb')
    · rw [add_out hb'] at hb; exact R.low.2 b hb
  · by_cases hb' : b ∈ as
    · exact .inr (new b hb')
    · rw [add_out hb'] at hb; exact .inl hb
/-- the items of a dictionary of ints, sorted -/
def pairList (p : Int × Int) : List Int := [p.1, p.2]
def sortPs (ps : List (Int × Int)) : List (Int × Int) := (sortIdx (fun i j => rowLt ((ps.map pairList).getD i []) ((ps.map pairList).getD j [])) ps.length).map fun i => ps.getD i (0, 0)
theorem c_sorted_items (O : B.Ok) (hh : A.handled = none) {v d : Addr} {ps : List (Int × Int)} {n : Nat} (ev : σ.m v = some (.raw (viewObj "dict_items" d))) (e : σ.m d = some (.dict (ps.map fun p => (p.1, .int p.2)) n)) (h64 : ps.length < 64)
    (k : ∀ (c : Addr) (us : List Addr) (σ' : St), σ.m c = none → (∀ b o, σ.m b = some o → σ'.m b = some o) → σ'.g = σ.g → σ'.m c = some (.list (us.map .ref)) → us.length = ps.length → (∀ (i : Nat) (u : Addr) (q : Int × Int), us[i]? = some u → (sortPs ps)[i]? = some q → σ'.m u = some (.tup [.int q.1, .int q.2])) → Q (.ref c) σ') :
    Callf B A (.bi "sorted") [.ref v] σ Q := c_sorted fun vv hv s R => by
  obtain rfl := ab_ref hv
  obtain ⟨kvs, hm, hkv, hs⟩ := dict_at R e
  have hl : kvs.length = ps.length := by have := congrArg List.length hkv; simpa using this
  have hline : sizeLine = 16777216 := sizeLine_eq
  refine kdx_collect (A := A.in1) hh ⟨_, raw_at R ev, rfl, rfl⟩ hm (by omega) fun h' tk as hk hal hG => ?_
  have nd : as.Nodup := hG.rise.imp fun h => Nat.ne_of_lt h
  let f : Addr → AObj := fun a => .tup ((ps.map fun p => [AV.int p.1, AV.int p.2]).getD (as.idxOf a) [])
  have fat : ∀ (i : Nat) a p, as[i]? = some a → ps[i]? = some p → f a = .tup [.int p.1, .int p.2] := fun i a p h1 h2 => by
    have hi : i < as.length := by
      rcases Nat.lt_or_ge i as.length with h | h
      · exact h
      · rw [List.getElem?_eq_none h] at h1; cases h1
    rw [List.getElem?_eq_getElem hi] at h1
    obtain rfl := Option.some.inj h1
    show AObj.tup _ = _
    rw [nd.idxOf_getElem, List.getD_eq_getElem?_getD, List.getElem?_map, h2]; rfl
  obtain ⟨R₁, S₁⟩ := R.add (tk := tk) (as := as) (f := f) hk (fun a ha => Nat.le_of_lt (hG.above a ha)) (fun a ha => by
    obtain ⟨i, hi⟩ := List.mem_iff_getElem?.mp ha
    obtain ⟨key, kk, x, h1, h2, h3⟩ := hG.pairs i a hi
    obtain ⟨t, rfl⟩ := Value.isInt_shape h2
    have hp : (kvs.map fun p => (p.1, ab p.2))[i]? = (ps.map fun p => (p.1, AV.int p.2))[i]? := by rw [hkv]
    rw [List.getElem?_map, List.getElem?_map, h1] at hp
    obtain ⟨p, hp1, hp2⟩ := Option.map_eq_some_iff.mp hp.symm
    rw [fat i a p hi hp1]
    injection hp2 with q1 q2
    refine ⟨_, h3, ⟨_, _, rfl, ?_⟩⟩
    show [ab (.int kk t), ab x] = _
    dsimp only at q1 q2
    rw [q1, q2]; rfl)
  refine ⟨_, R₁, S₁, by rw [List.length_map]; omega, fun c hc => ?_⟩
  rw [List.map_map, show (ab ∘ Value.ref) = AV.ref from rfl]
  have hca : c ∉ as := fun h => by rw [add_in h] at hc; cases hc
  refine c_sort_tups (rows := ps.map pairList) O (put_same ..) (by omega) (by rw [List.length_map]; omega) (fun i h1 h2 => ?_) ?_
  · rw [List.length_map] at h2
    have hne : as[i] ≠ c := fun h => hca (h ▸ List.getElem_mem h1)
    rw [put_other hne, add_in (List.getElem_mem h1), fat i as[i] ps[i] (List.getElem?_eq_getElem h1) (List.getElem?_eq_getElem h2), List.getElem_map]
    exact ⟨rfl, nofun⟩
  · have hsp : (sortIdx (fun i j => rowLt ((ps.map pairList).getD i []) ((ps.map pairList).getD j [])) as.length).map (fun i => (as.map AV.ref).getD i .none) = ((sortIdx (fun i j => rowLt ((ps.map pairList).getD i []) ((ps.map pairList).getD j [])) as.length).map fun i => as.getD i 0).map AV.ref := by
      rw [List.map_map]
      refine List.map_congr_left fun i hi => ?_
      have hi' : i < as.length := by
        have := (sortIdx_perm _ _).mem_iff.mp hi
        simpa using this
      simp [List.getD_eq_getElem?_getD, hi']
    rw [hsp, put_put]
    have hlen : (sortIdx (fun i j => rowLt ((ps.map pairList).getD i []) ((ps.map pairList).getD j [])) as.length).length = ps.length := by rw [(sortIdx_perm _ _).length_eq, List.length_range]; omega
    refine k c _ _ (by rw [add_out hca] at hc; exact hc) (fun b o hb => ?_) rfl (put_same ..) (by rw [List.length_map, hlen]) fun i u q h1 h2 => ?_
    · have h1 : b ∉ as := fun h => by
        obtain ⟨_, o', ho', _⟩ := R.own b o hb
        exact absurd (Heap.lt_size ho') (Nat.not_lt.mpr (Nat.le_of_lt (hG.above b h)))
      have h2 : b ≠ c := by rintro rfl; rw [add_out h1, hb] at hc; cases hc
      rw [put_other h2, add_out h1]; exact hb
    · unfold sortPs at h2
      rw [← hl, ← hal] at h2
      rw [List.getElem?_map] at h1 h2
      obtain ⟨j, hj, rfl⟩ := Option.map_eq_some_iff.mp h1
      rw [hj] at h2
      obtain rfl := Option.some.inj h2
      have hj' : j < as.length := by
        have := (sortIdx_perm _ _).mem_iff.mp (List.mem_of_getElem? hj)
        simpa using this
      have hjp : j < ps.length := by omega
      have ga : as.getD j 0 = as[j] := by simp [List.getD_eq_getElem?_getD, hj']
      have gp : ps.getD j (0, 0) = ps[j] := by simp [List.getD_eq_getElem?_getD, hjp]
      rw [ga]
      dsimp only
      rw [gp]
      have hne : as[j] ≠ c := fun h => hca (h ▸ List.getElem_mem hj')
      rw [put_other hne, add_in (List.getElem_mem hj'), fat j as[j] ps[j] (List.getElem?_eq_getElem hj') (List.getElem?_eq_getElem hjp)]
end Mine
set_option maxHeartbeats 200000
namespace Mine
section
open PySem.SeqAt
open AutoSeq1 (wpAny_loadPart')
open MeetsSeq MeetsSeq2 MeetsSeq3
theorem lt_loopAt (l b : Addr) (items items2 : Array Value) (n n2 : Nat) (xs ys : List Int) (q1 : items.toList.map ab = xs.map AV.int) (q2 : items2.toList.map ab = ys.map AV.int) (k : Nat) :
    ∀ i : Nat, min items.size items2.size - i = k → i ≤ min items.size items2.size → Meets (Builtin.«list.__eq__.loop» ⟨[.ref l, .ref b, rawInt i, rawInt 0], []⟩)
      (fun A R s => s.heap.get? l = some { cls := .type "list", dict := none, data := .seq items n, slots := #[] } ∧ s.heap.get? b = some { cls := .type "list", dict := none, data := .seq items2 n2, slots := #[] } ∧
        R (.ok (.ret (.bool (katB (decide (xs.length < ys.length)) ((xs.zip ys).drop i))))) s) := by
  have z1 := sq_size q1
  have z2 := sq_size q2
  simp only [List.length_map] at z1 z2
  obtain ⟨_, g1⟩ := ints_of q1
  obtain ⟨_, g2⟩ := ints_of q2
  induction k with
  | zero =>
    intro i hk hi prog w A R s h
    obtain ⟨hp, g, d, tk, os⟩ := s; obtain ⟨hl, hb, h⟩ := h
    have hd : (xs.zip ys).drop i = [] := by rw [List.drop_eq_nil_iff, List.length_zip]; omega
    rw [hd] at h
    wp_walk using wpAny_loadPart' hl, wpAny_loadPart' hb
    have fin : ∀ {E : Value → Shared → Prop}, R (.ok (.ret (.bool (decide (items.size < items2.size))))) ⟨hp, g, d, tk, os⟩ := by
      intro E; rw [z1, z2]; exact h
    rcases Nat.lt_or_ge i items.size with c | c
    · have hi1 : items[((i : Nat) : Int).toNat]? = some items[i] := by simp [c]
      have hi2 : items2[((i : Nat) : Int).toNat]? = none := by simp; omega
      rw [hi1, hi2]
      wp_walk using wpAny_loadPart' hl, wpAny_loadPart' hb
      exact fin (E := fun _ _ => False)
    · have hi1 : items[((i : Nat) : Int).toNat]? = none := by simp; omega
      rw [hi1]
      wp_walk using wpAny_loadPart' hl, wpAny_loadPart' hb
      exact fin (E := fun _ _ => False)
  | succ k ih =>
    intro i hk hi prog w A R s h
    obtain ⟨hp, g, d, tk, os⟩ := s; obtain ⟨hl, hb, h⟩ := h
    have hlt : i < items.size := by omega
    have hlt2 : i < items2.size := by omega
    obtain ⟨t, e1⟩ := g1 i (by omega)
    obtain ⟨t', e2⟩ := g2 i (by omega)
    have f1 : items[i] = .int xs[i] t := by
      have := e1; rw [Array.getElem?_toList, Array.getElem?_eq_getElem hlt] at this; injection this
    have f2 : items2[i] = .int ys[i] t' := by
      have := e2; rw [Array.getElem?_toList, Array.getElem?_eq_getElem hlt2] at this; injection this
    have hi1 : items[((i : Nat) : Int).toNat]? = some (.int xs[i] t) := by simp [hlt, f1]
    have hi2 : items2[((i : Nat) : Int).toNat]? = some (.int ys[i] t') := by simp [hlt2, f2]
    have hd : (xs.zip ys).drop i = (xs[i], ys[i]) :: (xs.zip ys).drop (i + 1) := by
      rw [List.drop_eq_getElem_cons (by rw [List.length_zip]; omega)]; simp
    have hc : ((i : Int) + 1) = ((i + 1 : Nat) : Int) := by push_cast; rfl
    rw [hd] at h
    unfold katB at h
    wp_walk using wpAny_loadPart' hl, wpAny_loadPart' hb
    rw [hi1, hi2]
    refine wpAny_bind (wpAny_eqBool_int ?_)
    cases hb' : xs[i] == ys[i] with
    | true =>
      rw [hb'] at h
      wp_walk
      rw [hc]
      exact ⟨plainId_quiet plain_eq_loop _, codeAny_builtin entry_eq_loop (by
        rw [Around.under_plainId plain_eq_loop _]
        exact ih (i + 1) (by omega) (by omega) prog w A R _ ⟨hl, hb, h⟩)⟩
    | false =>
      rw [hb'] at h
      wp_walk using wpAny_loadPart' hl, wpAny_loadPart' hb
      rw [hi1, hi2]
      show wpAny _ _ (richCompare .Lt (.int xs[i] t) (.int ys[i] t') >>= fun v => ret v) _ _ _
      refine wpAny_bind (PyProof.Rows.lt_int ?_)
      exact wpAny_pure h
theorem list_ltAt (l b : Addr) (items items2 : Array Value) (n n2 : Nat) (xs ys : List Int) (q1 : items.toList.map ab = xs.map AV.int) (q2 : items2.toList.map ab = ys.map AV.int) :
    Meets (Builtin.«list.__lt__» ⟨[.ref l, .ref b], []⟩)
      (fun A R s => s.heap.get? l = some { cls := .type "list", dict := none, data := .seq items n, slots := #[] } ∧ s.heap.get? b = some { cls := .type "list", dict := none, data := .seq items2 n2, slots := #[] } ∧
        R (.ok (.ret (.bool (rowLt xs ys)))) s) := by
  intro prog w A R s h
  obtain ⟨hp, g, d, tk, os⟩ := s; obtain ⟨hl, hb, h⟩ := h
  have f3 := AutoSeq1.sub_list_list
  wp_walk using wpAny_loadPart' hl, wpAny_loadPart' hb
  exact ⟨plainId_quiet plain_eq_loop _, codeAny_builtin entry_eq_loop (by
    rw [Around.under_plainId plain_eq_loop _]
    exact lt_loopAt l b items items2 n n2 xs ys q1 q2 _ 0 rfl (Nat.zero_le _) prog w A R _ ⟨hl, hb, h⟩)⟩
theorem one_rows {prog : Program} {w : World} {A : Around} {E : Value → Shared → Prop} {s : Shared} {l b : Addr} {items items2 : Array Value} {n n2 : Nat} {xs ys : List Int} {Q : Bool → Shared → Prop} (hu : A.units < cLine)
    (hl : s.heap.get? l = some { cls := .type "list", dict := none, data := .seq items n, slots := #[] }) (hb : s.heap.get? b = some { cls := .type "list", dict := none, data := .seq items2 n2, slots := #[] })
    (q1 : items.toList.map ab = xs.map AV.int) (q2 : items2.toList.map ab = ys.map AV.int) (h : Q (rowLt xs ys) s) : wpAny (model prog w) A (keyLt' oneType' (.ref l) (.ref b)) Q E s := by
  rw [keyLt'_oneType, oneLt'_eq]
  simp only [if_true]
  refine wpAny_bind (wpAny_cRoomFor hu ?_)
  refine wpAny_bind (wpAny_callSpecialIfBound?_slot (T := "list") ⟨_, hl, rfl⟩ PySem.F.slot_list_lt (call_meets PySem.F.slot_list_lt ⟨_, hl, rfl⟩ PySem.F.entry_list_lt (PySem.F.args_list_lt_2 _ _) (list_ltAt l b items items2 n n2 xs ys q1 q2) ⟨hl, hb, ?_⟩))
  exact wpAny_truthy_bool h
end
variable {B : Bs} {A : Around} {L : Addr} {σ : St} {ℓ : Loc} {a b l : Addr} {xs ys : List AV} {Q : AV → St → Prop}
theorem row_at {s : Shared} (R : Rel B σ s) (e : σ.m a = some (.list xs)) : ∃ vs n, s.heap.get? a = some ⟨.type "list", none, .seq vs n, #[]⟩ ∧ vs.toList.map ab = xs := sq_at IsSq.list R e
/-- a list of lists of ints, sorted in place -/
theorem c_sort_rows (O : B.Ok) (lo : Lo 1 A) {ts : List Addr} {rows : List (List Int)} (e : σ.m a = some (.list (ts.map .ref))) (h64 : ts.length < 64) (hr : RowsAt σ ts rows) (ha : a ∉ ts)
    (k : Q .none (σ.put a (.list (((sortIdx (fun i j => rowLt (rows.getD i []) (rows.getD j [])) ts.length).map fun i => ts.getD i 0).map .ref)))) (hs : subIn B.K (.type "list") (.type "list") = some true := by rfl) : Callf B A (.bi "list.sort") [.ref a] σ Q := by
  have hk : builtinKind "list.sort" = some .method := by decide +kernel
  have hsp : splitId "list.sort" = some ("list", "sort") := by decide +kernel
  have hpl : plainId "list.sort" = true := by decide +kernel
  have hl := hr.len
  have hne : ∀ i (h1 : i < ts.length), ts[i] ≠ a := fun i h1 q => ha (q ▸ List.getElem_mem h1)
  have tup : ∀ (vs : List Value), vs.map ab = ts.map AV.ref → ∀ i (hi : i < ts.length), vs[i]? = some (.ref ts[i]) := fun vs hv i hi => by
    have q : (vs.map ab)[i]? = (ts.map AV.ref)[i]? := by rw [hv]
    rw [List.getElem?_map, List.getElem?_map, List.getElem?_eq_getElem hi] at q
    obtain ⟨v, h1, h2⟩ := Option.map_eq_some_iff.mp q
    obtain rfl := ab_ref h2
    exact h1
  have here : ∀ i (h1 : i < ts.length), (σ.put a (.list [])).m ts[i] = some (.list ((rows[i]'(by omega)).map .int)) := fun i h1 => by
    rw [put_other (hne i h1)]; exact hr.at_ i _ _ (List.getElem?_eq_getElem h1) (List.getElem?_eq_getElem _)
  refine call_builtin hpl entry_list_sort fun vs hv => ?_
  obtain ⟨u, rfl, h1⟩ := one hv
  obtain rfl := ab_ref h1
  refine chk_meth hk hsp (inst_sq O IsSq.list e hs) (args_list_sort _) ?_
  refine f_sort (lt := fun i j => rowLt (rows.getD i []) (rows.getD j [])) e (by rw [List.length_map]; exact h64) (fun κ => κ = oneType') ?_ ?_ ?_
  · intro h2 vs hv s R Q kq
    rw [List.length_map] at h2
    have hvl : vs.length = ts.length := by have := congrArg List.length hv; simpa using this
    refine kas_kind (T := .type "list") (by omega) (fun v hm => ?_) (by decide) (by decide) (kq _ rfl)
    obtain ⟨i, hi⟩ := List.mem_iff_getElem?.mp hm
    have hil : i < ts.length := by
      rcases Nat.lt_or_ge i vs.length with h | h
      · omega
      · rw [List.getElem?_eq_none h] at hi; cases hi
    rw [tup vs hv i hil] at hi
    obtain rfl := Option.some.inj hi
    exact type_at R (here i hil) rfl
  · rintro vs hv κ rfl i j hi hj s R C kC
    rw [List.length_map] at hi hj
    obtain ⟨ws, n, ho, hw⟩ := row_at R (here i hi)
    obtain ⟨zs, m, ho2, hz⟩ := row_at R (here j hj)
    have e1 : vs.getD i .none = .ref ts[i] := by rw [List.getD_eq_getElem?_getD, tup vs hv i hi]; rfl
    have e2 : vs.getD j .none = .ref ts[j] := by rw [List.getD_eq_getElem?_getD, tup vs hv j hj]; rfl
    have e3 : rows.getD i [] = rows[i]'(by omega) := by simp [List.getD_eq_getElem?_getD, (by omega : i < rows.length)]
    have e4 : rows.getD j [] = rows[j]'(by omega) := by simp [List.getD_eq_getElem?_getD, (by omega : j < rows.length)]
    rw [e1, e2]
    have := kC s.toks
    rw [e3, e4] at this
    exact one_rows lo.in1.line ho ho2 hw hz this
  · have : (sortIdx (fun i j => rowLt (rows.getD i []) (rows.getD j [])) (ts.map AV.ref).length).map (fun i => (ts.map AV.ref).getD i .none) = ((sortIdx (fun i j => rowLt (rows.getD i []) (rows.getD j [])) ts.length).map fun i => ts.getD i 0).map .ref := by
      rw [List.length_map, List.map_map]
      refine List.map_congr_left fun i hi => ?_
      have hi' : i < ts.length := by
        have := (sortIdx_perm _ _).mem_iff.mp hi
        simpa using this
      simp [List.getD_eq_getElem?_getD, hi']
    rw [this]; exact k
def sortRows (rows : List (List Int)) : List (List Int) := (sortIdx (fun i j => rowLt (rows.getD i []) (rows.getD j [])) rows.length).map fun i => rows.getD i []
theorem sortRows_perm (rows : List (List Int)) : (sortRows rows).Perm rows := by
  unfold sortRows
  have := (sortIdx_perm (fun i j => rowLt (rows.getD i []) (rows.getD j [])) rows.length).map fun i => rows.getD i []
  refine this.trans (.of_eq ?_)
  apply List.ext_getElem (by simp)
  intro i h1 h2
  simp [List.getD_eq_getElem?_getD, h2]
/-- sorted(list of lists) -/
theorem c_sorted_rows (O : B.Ok) (lo : Lo 2 A) {ts : List Addr} {rows : List (List Int)} (e : σ.m l = some (.list (ts.map .ref))) (h64 : ts.length < 64) (hr : RowsAt σ ts rows)
    (k : ∀ c us, σ.m c = none → us.length = ts.length → (∀ u ∈ us, u ∈ ts) → RowsAt σ us (sortRows rows) → Q (.ref c) (σ.put c (.list (us.map .ref)))) : Callf B A (.bi "sorted") [.ref l] σ Q := c_sorted fun vv hv s R => by
  obtain rfl := ab_ref hv
  obtain ⟨ws, n, ho, hw⟩ := row_at R e
  have hline : sizeLine = 16777216 := sizeLine_eq
  have hsz : ws.size = ts.length := by rw [sq_size hw, List.length_map]
  refine collect_list (vs := ws.toList) ⟨_, ho, rfl, n, by simp⟩ ?_ (by rw [Array.length_toList]; omega)
  have hk : ∀ b o, s.heap.get? b = some o → ((s.heap.push (seqObj "list" #[] 0)).update s.heap.objs.size (Obj.mapSeq (· ++ ws.toList.toArray))).get? b = some o := fun b o e =>
    (Heap.get?_update_other _ _ (Nat.ne_of_gt (Heap.lt_size e))).trans (Heap.get?_push_of_some _ e)
  obtain ⟨R₁, S₁⟩ := R.kept (k := s.toks) hk
  refine ⟨σ, R₁, S₁, by rw [Array.length_toList]; omega, fun c hc => ?_⟩
  rw [hw]
  have hcts : c ∉ ts := fun h => by obtain ⟨i, r, _, _, h3⟩ := hr.mem h; rw [h3] at hc; cases hc
  refine c_sort_rows (rows := rows) O lo.in1 (put_same ..) h64 (hr.to fun a ha o ho => put_fresh hc ho) hcts ?_
  rw [put_put]
  have hlen : ((sortIdx (fun i j => rowLt (rows.getD i []) (rows.getD j [])) ts.length).map fun i => ts.getD i 0).length = ts.length := by rw [List.length_map, (sortIdx_perm _ _).length_eq, List.length_range]
  have lt : ∀ j ∈ sortIdx (fun i j => rowLt (rows.getD i []) (rows.getD j [])) ts.length, j < ts.length := fun j hj => by
    have := (sortIdx_perm _ _).mem_iff.mp hj
    simpa using this
  refine k c _ hc hlen (fun u hu => ?_) ⟨?_, fun i u r h1 h2 => ?_⟩
  · obtain ⟨j, hj, rfl⟩ := List.mem_map.mp hu
    simp [List.getD_eq_getElem?_getD, lt j hj]
  · rw [hlen]; unfold sortRows; rw [List.length_map, (sortIdx_perm _ _).length_eq, List.length_range, hr.len]
  · unfold sortRows at h2
    rw [← hr.len] at h2
    rw [List.getElem?_map] at h1 h2
    obtain ⟨j, hj, rfl⟩ := Option.map_eq_some_iff.mp h1
    rw [hj] at h2
    obtain rfl := Option.some.inj h2
    have hj' := lt j (List.mem_of_getElem? hj)
    have hj2 : j < rows.length := by rw [← hr.len]; exact hj'
    refine hr.at_ j _ _ ?_ ?_
    · simp [List.getD_eq_getElem?_getD, hj']
    · simp [List.getD_eq_getElem?_getD, hj2]
end Mine
set_option maxHeartbeats 200000
namespace Mine
variable {B : Bs} {A : Around} {L : Addr} {α β : Type} {σ : St} {ℓ : Loc} {mk : List AV → AObj} {c : Value} {dd : Option Addr} {a : Addr} {xs : List AV} {U : Addr → Prop}

/-- hidden objects may change -/
theorem Rel.softU {s : Shared} {h' : Heap} {k : Nat} (R : Rel B σ s) (h0 : ∀ b, U b → B.h0.get? b = none) (hσ : ∀ b, U b → σ.m b = none) (hk : ∀ b o, ¬ U b → s.heap.get? b = some o → h'.get? b = some o) : Rel B σ { s with heap := h', toks := k } where
  base b o e := hk b o (fun u => by rw [h0 b u] at e; cases e) (R.base b o e)
  own b ao e := let ⟨x, o, ho, y⟩ := R.own b ao e; ⟨x, o, hk b o (fun u => by rw [hσ b u] at e; cases e) ho, y⟩
  gens := R.gens
  low := R.low
theorem FrIs.softU {h h' : Heap} (F : FrIs B L ℓ σ h) (hk : ∀ b o, ¬ U b → h.get? b = some o → h'.get? b = some o) (hL : ¬ U L) : FrIs B L ℓ σ h' := by
  obtain ⟨h1, h2, m, ⟨o, es, ep, e, r⟩, hm⟩ := F
  exact ⟨h1, h2, m, ⟨o, es, ep, hk L o hL e, r⟩, hm⟩
theorem StepL.softU {σ' : St} {s s' : Shared} {h' : Heap} {k : Nat} (S : StepL L σ s σ' s') (hL : ¬ U L) (hn : ∀ b, U b → σ.m b ≠ none ∨ s.heap.get? b = none) (hk : ∀ b o, ¬ U b → s'.heap.get? b = some o → h'.get? b = some o) : StepL L σ s σ' { s' with heap := h', toks := k } where
  kept b o e h n := hk b o (fun u => by
    rcases hn b u with q | q
    · exact q h
    · rw [q] at e; cases e) (S.kept b o e h n)
  grow := S.grow
  os := S.os
  live := by obtain ⟨o, e⟩ := Option.isSome_iff_exists.mp S.live; rw [hk L o hL e]; rfl
theorem gone {s : Shared} {T : Addr} (h : s.heap.objs.size ≤ T) : s.heap.get? T = none := by
  cases e : s.heap.get? T with
  | none => rfl
  | some o => exact absurd (Heap.lt_size e) (Nat.not_lt.mpr h)
theorem Rel.putU {s : Shared} {h' : Heap} {k : Nat} {T : Addr} {o : Obj} {ao : AObj} (R : Rel B σ s) (h0 : ∀ b, U b → B.h0.get? b = none) (hσ : ∀ b, U b → σ.m b = none) (hk : ∀ b o, ¬ U b → s.heap.get? b = some o → h'.get? b = some o)
    (hT : s.heap.objs.size ≤ T) (ho : h'.get? T = some o) (hi : OIs o ao) : Rel B (σ.put T ao) { s with heap := h', toks := k } := by
  have R' := R.softU (k := k) h0 hσ hk
  refine ⟨R'.base, fun b x e => ?_, R'.gens, R'.low.1, fun b hb => ?_⟩
  · by_cases q : b = T
    · subst q; rw [put_same] at e; cases e
      exact ⟨(R.free (gone hT)).1, o, ho, hi⟩
    · rw [put_other q] at e; exact R'.own b x e
  · by_cases q : b = T
    · subst q; exact Nat.lt_of_lt_of_le R.size_low hT
    · rw [put_other q] at hb; exact R.low.2 b hb
theorem StepL.putU {σ' : St} {s s' : Shared} {T : Addr} {ao : AObj} (S : StepL L σ s σ' s') (hT : s'.heap.get? T = none) {s'' : Shared} (S' : StepL L σ s σ' s'') : StepL L σ s (σ'.put T ao) s'' := by
  refine ⟨S'.kept, fun b hb => ?_, S'.os, S'.live⟩
  by_cases q : b = T
  · subst q
    by_cases h1 : σ.m b = none
    · right
      cases e : s.heap.get? b with
      | none => rfl
      | some o =>
        by_cases h2 : b = L
        · subst h2; have := S.live; rw [hT] at this; cases this
        · rw [S.kept b o e h1 h2] at hT; cases hT
    · exact .inl h1
  · rw [put_other q] at hb; exact S'.grow b hb
theorem FrIs.putU {h : Heap} {T : Addr} {ao : AObj} (F : FrIs B L ℓ σ h) (hT : T ≠ L) : FrIs B L ℓ (σ.put T ao) h := ⟨F.1, by rw [put_other (Ne.symm hT)]; exact F.2.1, F.2.2⟩
/-- a source that owns some hidden objects and gives new tuples -/
structure SrcT (B : Bs) (A : Around) (U : Addr → Prop) (I : Addr) (n : Nat) (D : St → Prop) (H : Nat → Heap → Prop) (M : Nat → Addr → Heap → Prop) (P : Nat → List AV → Prop) : Prop where
  frame : ∀ i h h', H i h → (∀ b, U b → ∀ o, h.get? b = some o → h'.get? b = some o) → H i h'
  here : ∀ i h, H i h → ∀ b, U b → ∃ o, h.get? b = some o
  item : ∀ i σ s, i < n → D σ → Rel B σ s → H i s.heap → ∀ (Q : Option Value → Shared → Prop), (∀ T vals o h' tk, P i vals → s.heap.objs.size ≤ T → h'.get? T = some o → OIs o (.tup vals) → M i T h' → (∀ b o, ¬ U b → s.heap.get? b = some o → h'.get? b = some o) → Q (some (.ref T)) { s with heap := h', toks := tk }) →
    wpAny (model B.prog B.w) A (pyNext (.ref I)) Q (fun _ _ => False) s
  done : ∀ σ s, D σ → Rel B σ s → H n s.heap → ∀ (Q : Option Value → Shared → Prop), (∀ h' tk, (∀ b o, ¬ U b → s.heap.get? b = some o → h'.get? b = some o) → Q none { s with heap := h', toks := tk }) →
    wpAny (model B.prog B.w) A (pyNext (.ref I)) Q (fun _ _ => False) s
  go : ∀ elts k pos i T s, M i T s.heap → ∀ (Q : Unit → Shared → Prop), (∀ h', H (i + 1) h' → (∀ b o, ¬ U b → s.heap.get? b = some o → h'.get? b = some o) → Q () { s with heap := h' }) → wpAny (model B.prog B.w) A (letOwnedTupleGo (.Tuple elts k pos) (.ref I) (.ref T)) Q (fun _ _ => False) s
  self : ∀ i s, H i s.heap → ∀ (Q : Value → Shared → Prop), Q (.ref I) s → wpAny (model B.prog B.w) A (pyIter (.ref I)) Q (fun _ _ => False) s
def IterT (B : Bs) (A : Around) (x : AV) (σ σm : St) (n : Nat) (D : St → Prop) (P : Nat → List AV → Prop) : Prop := St.Sub σm σ ∧ ∀ v, ab v = x → ∀ s, Rel B σ s → ∀ (Q : Value → Shared → Prop),
  (∀ U I H M h' tk, U I → (∀ b, U b → σm.m b = none ∧ B.h0.get? b = none ∧ (σ.m b ≠ none ∨ s.heap.get? b = none)) → (∀ b o, s.heap.get? b = some o → h'.get? b = some o) → SrcT B A U I n D H M P → H 0 h' → Q (.ref I) { s with heap := h', toks := tk }) → wpAny (model B.prog B.w) A (pyIter v) Q (fun _ _ => False) s
/-- one loop of a comprehension, over a hidden iterator -/
theorem comp_loopT {elt : PySem.Expr} {gens : List Comprehension} {scope : Scope} {pos : Pos} {d : Nat} {acc : Value} {env : Env} {elts : List PySem.Expr} {ek : Nat} {epos : Pos} {iter : PySem.Expr} {ifs : List PySem.Expr} {σ₀ : St} {s₀ s : Shared} {I : Addr} {H : Nat → Heap → Prop} {M : Nat → Addr → Heap → Prop} {n : Nat} {D : St → Prop} {P : Nat → List AV → Prop}
    (hg : gens[d]? = some ⟨.Tuple elts ek epos, iter, ifs, 0⟩) (ha : ∀ g, gens[d + 1]? = some g → g.is_async = 0) (J : Nat → Loc → St → Prop) (SR : SrcT B A U I n D H M P) (hI : ∀ b, U b → σ₀.m b ≠ none ∨ s₀.heap.get? b = none) (hIL : ¬ U env.locals) (f1 : ∀ b, U b → B.h0.get? b = none)
    (R : Rel B σ s) (F : FrIs B env.locals ℓ σ s.heap) (S : StepL env.locals σ₀ s₀ σ s) (hσ : ∀ b, U b → σ.m b = none) (h0 : H 0 s.heap) (j0 : J 0 ℓ σ) (jD : ∀ i ℓ' σ', J i ℓ' σ' → D σ')
    (step : ∀ i vals τ ℓ' σ', i < n → P i vals → J i ℓ' σ' → σ'.m τ = none → Ta B A env (.Tuple elts ek epos) (.ref τ) ℓ' (σ'.put τ (.tup vals)) fun ℓ₂ σ₂ => Tif B A env ifs ℓ₂ σ₂ fun b σ₃ => if b = true then T B A env.locals (CompIn elt gens scope pos d acc env) ℓ₂ σ₃ fun _ ℓ₄ σ₄ => J (i + 1) ℓ₄ σ₄ else J (i + 1) ℓ₂ σ₃) :
    codeAny (model B.prog B.w) A (.compLoop (.ListComp elt gens scope pos) d (.ref I) acc env) (fun r s' => match r with | .ok f => f = .next ∧ ∃ ℓ' σ', Rel B σ' s' ∧ FrIs B env.locals ℓ' σ' s'.heap ∧ StepL env.locals σ₀ s₀ σ' s' ∧ J n ℓ' σ' | .error _ => False) s := by
  refine codeAny_loop rfl (fun k s' => ∃ i ℓ' σ', i ≤ n ∧ k = n + 1 - i ∧ Rel B σ' s' ∧ FrIs B env.locals ℓ' σ' s'.heap ∧ StepL env.locals σ₀ s₀ σ' s' ∧ (∀ b, U b → σ'.m b = none) ∧ H i s'.heap ∧ J i ℓ' σ') ?_ (n + 1)
    ⟨0, ℓ, σ, Nat.zero_le _, rfl, R, F, S, hσ, h0, j0⟩
  rintro k s' ⟨i, ℓ', σ', hi, rfl, R', F', S', hσ, hH, hJ⟩
  show wpAny _ _ ((compTurn (.ListComp elt gens scope pos) d (.ref I) acc env).onRaise (fun x => do noteFrame x env; theTreesLotGoes x)) _ _ s'
  refine wpAny_noted ?_
  rw [compTurn_at hg ha]
  have E0 : ∀ {E : Value → Shared → Prop} (e : Value) (s : Shared), False → E e s := fun _ _ x => x.elim
  refine wpAny_bind (wpAny_standAt (wpAny_bind ?_))
  by_cases hlt : i < n
  · refine wpAny_mono (SR.item i σ' s' hlt (jD _ _ _ hJ) R' hH _ fun T vals o h3 tk3 hP hT ho hi3 hM hk3 => ?_) (fun _ _ x => x) E0
    have hUT : ¬ U T := fun u => by obtain ⟨_, e⟩ := SR.here _ _ hH T u; exact absurd (Heap.lt_size e) (Nat.not_lt.mpr hT)
    have gT := gone hT
    have nT : σ'.m T = none := (R'.free gT).2
    have TL : T ≠ env.locals := by rintro rfl; have := S'.live; rw [gT] at this; cases this
    have R3 : Rel B (σ'.put T (.tup vals)) { s' with heap := h3, toks := tk3 } := R'.putU f1 hσ hk3 hT ho hi3
    have F3 := (F'.softU hk3 hIL).putU (ao := .tup vals) TL
    have S3 : StepL env.locals σ₀ s₀ (σ'.put T (.tup vals)) { s' with heap := h3, toks := tk3 } := S'.putU gT (S'.softU hIL hI hk3)
    have hσT : ∀ b, U b → (σ'.put T (.tup vals)).m b = none := fun b u => by rw [put_other (by rintro rfl; exact hUT u)]; exact hσ b u
    refine wpAny_bind (wpAny_mono (SR.go elts ek epos i T { s' with heap := h3, toks := tk3 } hM _ fun h4 hH4 hk4 => ?_) (fun _ _ x => x) E0)
    have R4 : Rel B (σ'.put T (.tup vals)) { s' with heap := h4, toks := tk3 } := R3.softU (k := tk3) f1 hσT hk4
    have F4 := F3.softU hk4 hIL
    have S4' : StepL env.locals σ₀ s₀ (σ'.put T (.tup vals)) { s' with heap := h4, toks := tk3 } := S3.softU (k := tk3) hIL hI hk4
    refine wpAny_bind (wpAny_mono (step i vals T ℓ' σ' hlt hP hJ nT (.ref T) rfl _ R4 F4) (fun _ s₄ ⟨ℓ₄, σ₄, R₄, F₄, S₄, z⟩ => ?_) E0)
    refine wpAny_bind (wpAny_mono (z.run s₄ R₄ F₄) (fun ok s₅ ⟨ℓ₅, σ₅, R₅, F₅, S₅, e₅, y⟩ => ?_) E0)
    subst e₅
    have again : ∀ {ℓ₆ : Loc} {σ₆ : St} {s₆ : Shared}, Rel B σ₆ s₆ → FrIs B env.locals ℓ₆ σ₆ s₆.heap → StepL env.locals (σ'.put T (.tup vals)) { s' with heap := h4, toks := tk3 } σ₆ s₆ → J (i + 1) ℓ₆ σ₆ →
        ∃ m, m < n + 1 - i ∧ ∃ i ℓ' σ', i ≤ n ∧ m = n + 1 - i ∧ Rel B σ' s₆ ∧ FrIs B env.locals ℓ' σ' s₆.heap ∧ StepL env.locals σ₀ s₀ σ' s₆ ∧ (∀ b, U b → σ'.m b = none) ∧ H i s₆.heap ∧ J i ℓ' σ' := fun {ℓ₆ σ₆ s₆} R₆ F₆ S₆ j => by
      exact ⟨n + 1 - (i + 1), by omega, i + 1, ℓ₆, σ₆, hlt, rfl, R₆, F₆, S4'.trans S₆, (fun b u => let ⟨o, e⟩ := SR.here _ _ hH4 b u; S₆.old e (hσT b u)), SR.frame _ _ _ hH4 fun b u o e => S₆.kept b o e (hσT b u) (fun q => hIL (q ▸ u)), j⟩
    cases ok with
    | false =>
      rw [if_neg Bool.false_ne_true] at y
      simp only [Bool.false_eq_true, if_false]
      exact wpAny_pure ⟨rfl, again R₅ F₅ (S₄.trans S₅) y⟩
    | true =>
      rw [if_pos rfl] at y
      simp only [if_true]
      refine wpAny_bind (wpAny_mono (y s₅ R₅ F₅) (fun _ s₆ ⟨ℓ₆, σ₆, R₆, F₆, S₆, j⟩ => ?_) E0)
      exact wpAny_pure ⟨rfl, again R₆ F₆ ((S₄.trans S₅).trans S₆) j⟩
  · have hin : i = n := by omega
    subst hin
    refine wpAny_mono (SR.done σ' s' (jD _ _ _ hJ) R' hH _ fun h3 tk3 hk3 => ?_) (fun _ _ x => x) E0
    exact wpAny_pure ⟨rfl, ℓ', σ', R'.softU f1 hσ hk3, F'.softU hk3 hIL, S'.softU hIL hI hk3, hJ⟩
theorem comp_runT {elt : PySem.Expr} {gens : List Comprehension} {scope : Scope} {pos : Pos} {d : Nat} {acc : Value} {env : Env} {elts : List PySem.Expr} {ek : Nat} {epos : Pos} {iter : PySem.Expr} {ifs : List PySem.Expr} {σ₀ : St} {s₀ s : Shared} {I : Addr} {H : Nat → Heap → Prop} {M : Nat → Addr → Heap → Prop} {n : Nat} {D : St → Prop} {P : Nat → List AV → Prop}
    (hg : gens[d]? = some ⟨.Tuple elts ek epos, iter, ifs, 0⟩) (ha : ∀ g, gens[d + 1]? = some g → g.is_async = 0) (J : Nat → Loc → St → Prop) (SR : SrcT B A U I n D H M P) (hI : ∀ b, U b → σ₀.m b ≠ none ∨ s₀.heap.get? b = none) (hIL : ¬ U env.locals) (f1 : ∀ b, U b → B.h0.get? b = none)
    (R : Rel B σ s) (F : FrIs B env.locals ℓ σ s.heap) (S : StepL env.locals σ₀ s₀ σ s) (hσ : ∀ b, U b → σ.m b = none) (h0 : H 0 s.heap) (j0 : J 0 ℓ σ) (jD : ∀ i ℓ' σ', J i ℓ' σ' → D σ')
    (step : ∀ i vals τ ℓ' σ', i < n → P i vals → J i ℓ' σ' → σ'.m τ = none → Ta B A env (.Tuple elts ek epos) (.ref τ) ℓ' (σ'.put τ (.tup vals)) fun ℓ₂ σ₂ => Tif B A env ifs ℓ₂ σ₂ fun b σ₃ => if b = true then T B A env.locals (CompIn elt gens scope pos d acc env) ℓ₂ σ₃ fun _ ℓ₄ σ₄ => J (i + 1) ℓ₄ σ₄ else J (i + 1) ℓ₂ σ₃) :
    codeAny (model B.prog B.w) A (.compStart (.ListComp elt gens scope pos) d (.ref I) acc env) (fun r s' => match r with | .ok f => f = .next ∧ ∃ ℓ' σ', Rel B σ' s' ∧ FrIs B env.locals ℓ' σ' s'.heap ∧ StepL env.locals σ₀ s₀ σ' s' ∧ J n ℓ' σ' | .error _ => False) s :=
  comp_start hg rfl (comp_loopT hg ha J SR hI hIL f1 R F S hσ h0 j0 jD step) (SR.self 0 s h0 _ (comp_loopT hg ha J SR hI hIL f1 R F S hσ h0 j0 jD step))

section
variable {elt iter : PySem.Expr} {elts : List PySem.Expr} {ek : Nat} {epos : Pos} {gens rest : List Comprehension} {ifs : List PySem.Expr} {scope : Scope} {pos : Pos} {env : Env} {d : Nat} {acc : Addr}
/-- what a comprehension of one clause asks -/
def CompT (B : Bs) (A : Around) (env : Env) (elt : PySem.Expr) (elts : List PySem.Expr) (ek : Nat) (epos : Pos) (iter : PySem.Expr) (ifs : List PySem.Expr) (rest : List Comprehension) (scope : Scope) (pos : Pos) (cl : List (Str × Addr)) (x : AV) (σ : St) (Q : AV → St → Prop) : Prop :=
  ∃ (n : Nat) (D : St → Prop) (P : Nat → List AV → Prop) (σm : St), IterT B A x σ σm n D P ∧ ∀ acc, σm.m acc = none → ∀ C, (σm.put acc (.list [])).m C = none → OnCells scope.names cl (σm.put acc (.list [])) fun cs σ₂ => ∃ J : Nat → Loc → St → Prop, J 0 (fun _ => none) σ₂ ∧ (∀ i ℓ' σ', J i ℓ' σ' → D σ') ∧
    (∀ i vals τ ℓ' σ', i < n → P i vals → J i ℓ' σ' → σ'.m τ = none → Ta B A (compEnvC scope cs C env) (.Tuple elts ek epos) (.ref τ) ℓ' (σ'.put τ (.tup vals)) fun ℓ₂ σ₃ => Tif B A (compEnvC scope cs C env) ifs ℓ₂ σ₃ fun b σ₄ =>
      if b = true then T B A C (CompIn elt (⟨.Tuple elts ek epos, iter, ifs, 0⟩ :: rest) scope pos 0 (.ref acc) (compEnvC scope cs C env)) ℓ₂ σ₄ fun _ ℓ₄ σ₅ => J (i + 1) ℓ₄ σ₅ else J (i + 1) ℓ₂ σ₄) ∧
    (∀ ℓ' σ', J n ℓ' σ' → Q (.ref acc) σ')
theorem comp_wholeT {cl : List (Str × Addr)} {use : Option (Value → Sem Unit)} {Q : AV → St → Prop} {s : Shared} {E : Value → Shared → Prop} {Q' : Value → Shared → Prop} (hclos : closureFor scope env = Pure.pure cl) (hkind : scope.kind = .function) (hnames : ∀ x ∈ scope.names, x.2 = .local → scope.names.lookup x.1 = some .local) (ha : ∀ g, rest[0]? = some g → g.is_async = 0)
    (hs : ∀ x, foldedSetIterable iter env x = Pure.pure x) (h : Te B A env iter ℓ σ fun x σ₁ => CompT B A env elt elts ek epos iter ifs rest scope pos cl x σ₁ Q) (R : Rel B σ s) (F : FrIs B env.locals ℓ σ s.heap)
    (fin : ∀ acc C σ₁ s₁ σ' s', StepL env.locals σ s σ₁ s₁ → Rel B σ' s' → FrIs B env.locals ℓ σ' s'.heap → StepL env.locals σ₁ s₁ σ' s' → s₁.heap.get? C = none → C ≠ env.locals → (∃ ℓ', FrIs B C ℓ' σ' s'.heap) → Q (.ref acc) σ' → compPost (model B.prog B.w) A E use Q' (.ref acc) C (.ok .next) s') {fpos : Pos} :
    wpAny (model B.prog B.w) A (comprehension (.ListComp elt (⟨.Tuple elts ek epos, iter, ifs, 0⟩ :: rest) scope pos) scope env fpos (newList []) false (eval iter env) use) Q' E s := by
  refine wpAny_comprehension_free (g := ⟨.Tuple elts ek epos, iter, ifs, 0⟩) (gs := rest) (cl := cl) rfl hs hclos hkind hnames ?_
  refine wpAny_mono (h s R F) (fun x s₁ ⟨ℓ₁, σ₁, R₁, F₁, S₁, e₁, n, D, P, σm, ⟨sub, it⟩, K⟩ => ?_) fun _ _ x => x.elim
  subst e₁
  refine wpAny_mono (it x rfl s₁ R₁ (fun itv s₂ => ∃ U I H M, itv = .ref I ∧ (∀ b, U b → σm.m b = none ∧ B.h0.get? b = none ∧ (σ₁.m b ≠ none ∨ s₁.heap.get? b = none)) ∧ SrcT B A U I n D H M P ∧ H 0 s₂.heap ∧ Rel B σm s₂ ∧ FrIs B env.locals ℓ₁ σ₁ s₂.heap ∧ Step σ₁ s₁ σm s₂ ∧ ∀ b o, s₁.heap.get? b = some o → ∃ o', s₂.heap.get? b = some o') (fun U I H M h₂ tk hI hU hk SR h0 => ?_)) (fun itv s₂ ⟨U, I, H, M, hit, hU, SR, h0, R₂, F₂, S₂, live2⟩ => ?_) fun _ _ x => x.elim
  · have R₁' := R₁.kept (k := tk) hk
    exact ⟨U, I, H, M, rfl, hU, SR, h0, R₁'.1.sub sub, F₁.step R₁'.2, ⟨fun b o e _ => hk b o e, fun b h => .inl (sub_none sub h), rfl⟩, fun b o e => ⟨o, hk b o e⟩⟩
  subst hit
  have f1 : ∀ b, U b → B.h0.get? b = none := fun b u => (hU b u).2.1
  have f2 : ∀ b, U b → σm.m b = none := fun b u => (hU b u).1
  refine wpAny_newObj_type ?_ (Nat.zero_le _)
  obtain ⟨R₃, S₃, hm₃⟩ := R₂.push (o := { cls := .type "list", dict := none, data := .seq ([] : List Value).toArray }) (ao := .list []) ⟨_, _, rfl, rfl⟩ rfl
  generalize hacc : s₂.heap.objs.size = acc at R₃ S₃ hm₃ ⊢
  have hIa : ¬ U acc := fun u => by obtain ⟨_, e⟩ := SR.here _ _ h0 acc u; subst hacc; exact Nat.lt_irrefl _ (Heap.lt_size e)
  have S₂₃ := S₂.trans S₃
  have F₃ := F₁.step S₂₃
  have keep3 : ∀ b o, s₂.heap.get? b = some o → (s₂.heap.push { cls := .type "list", dict := none, data := .seq ([] : List Value).toArray }).get? b = some o := fun b o e => Heap.get?_push_of_some _ e
  generalize hs3 : ({ s₂ with heap := s₂.heap.push { cls := .type "list", dict := none, data := .seq ([] : List Value).toArray } } : Shared) = s₃ at R₃ S₃ F₃ S₂₃ ⊢
  have eI₃ : ∀ b, U b → ∀ o, s₂.heap.get? b = some o → s₃.heap.get? b = some o := fun b u o e => S₃.kept b o e (f2 b u)
  have hσ₃ : ∀ b, U b → (σm.put acc (.list [])).m b = none := fun b u => by rw [put_other (by rintro rfl; exact hIa u)]; exact f2 b u
  refine wpAny_mono (new_env (A := A) (closure := cl) (binds := []) (around := some env) (Z := fun env' ℓ' σ₂ => ∃ C cs, env' = newEnv scope C env.globals cs env.qual none .none (some env) builtinsNs ∧ ℓ' = (fun _ => none) ∧ ∃ J : Nat → Loc → St → Prop, J 0 (fun _ => none) σ₂ ∧ (∀ i ℓ' σ', J i ℓ' σ' → D σ') ∧
    (∀ i vals τ ℓ' σ', i < n → P i vals → J i ℓ' σ' → σ'.m τ = none → Ta B A (compEnvC scope cs C env) (.Tuple elts ek epos) (.ref τ) ℓ' (σ'.put τ (.tup vals)) fun ℓ₂ σ₃ => Tif B A (compEnvC scope cs C env) ifs ℓ₂ σ₃ fun b σ₄ =>
      if b = true then T B A C (CompIn elt (⟨.Tuple elts ek epos, iter, ifs, 0⟩ :: rest) scope pos 0 (.ref acc) (compEnvC scope cs C env)) ℓ₂ σ₄ fun _ ℓ₄ σ₅ => J (i + 1) ℓ₄ σ₅ else J (i + 1) ℓ₂ σ₄) ∧
    (∀ ℓ' σ', J n ℓ' σ' → Q (.ref acc) σ')) R₃ hkind fun C hC => (K acc hm₃ C hC).mono fun cs σ₂ k => ⟨C, cs, rfl, rfl, k⟩) (fun cenv s₄ ⟨C, ℓ₄, σ₄, cs, hC, hce, R₄, F₄, S₄, C', cs', he, hl, J, j0, jD, step, fin'⟩ => ?_) fun _ _ x => x.elim
  have hCC : C = C' := by have := congrArg Env.locals (hce.symm.trans he); exact this
  have hcs : cs = cs' := by have := congrArg Env.cells (hce.symm.trans he); exact this
  subst hCC hcs hl
  have S04 : Step σ₁ s₁ σ₄ s₄ := S₂₃.trans (S₄.whole hC)
  have eI₄ : ∀ b, U b → ∀ o, s₂.heap.get? b = some o → s₄.heap.get? b = some o := fun b u o e => (S₄.whole hC).kept b o (eI₃ b u o e) (hσ₃ b u)
  have hσ₄ : ∀ b, U b → σ₄.m b = none := fun b u => by obtain ⟨o, e⟩ := SR.here _ _ h0 b u; exact (S₄.whole hC).old (eI₃ b u o e) (hσ₃ b u)
  have hC1 : s₁.heap.get? C = none := by
    cases e : s₁.heap.get? C with
    | none => rfl
    | some o =>
      obtain ⟨o', e'⟩ : ∃ o', s₃.heap.get? C = some o' := by
        obtain ⟨o', e'⟩ := live2 C o e
        exact ⟨o', by rw [← hs3]; exact keep3 C o' e'⟩
      rw [hC] at e'; cases e'
  have hIC : ¬ U C := fun u => by obtain ⟨o, e⟩ := SR.here _ _ h0 C u; rw [eI₃ C u o e] at hC; cases hC
  obtain ⟨oC, eC⟩ := F₄.at
  have SL : StepL C σ₁ s₁ σ₄ s₄ := ⟨fun b o e hb _ => S04.kept b o e hb, S04.grow, S04.os, by rw [eC]; rfl⟩
  obtain ⟨oL, eL⟩ := F₁.at
  have hCL : C ≠ env.locals := by rintro rfl; rw [hC1] at eL; cases eL
  have henv : ({ cenv with scope := relabel scope env } : Env) = compEnvC scope cs C env := by rw [hce]; rfl
  have hloc : cenv.locals = C := by rw [hce]; rfl
  rw [henv, hloc]
  refine codeAny_mono (comp_runT (env := compEnvC scope cs C env) (gens := ⟨.Tuple elts ek epos, iter, ifs, 0⟩ :: rest) (d := 0) rfl ha J SR (fun b u => (hU b u).2.2) hIC f1 R₄ F₄ SL hσ₄ (SR.frame _ _ _ h0 eI₄) j0 jD step) fun r s₅ y => ?_
  cases r with
  | error e => exact y.elim
  | ok f =>
    obtain ⟨rfl, ℓ₅, σ₅, R₅, F₅, S₅, j⟩ := y
    have W := S₅.whole hC1
    exact fin acc C σ₁ s₁ σ₅ s₅ S₁ R₅ (F₁.step W) (.of W eL F₁.2.1) hC1 hCL ⟨_, F₅⟩ (fin' _ _ j)
theorem e_compT {cl : List (Str × Addr)} {Q : AV → St → Prop} (hclos : closureFor scope env = Pure.pure cl) (h : Te B A env iter ℓ σ fun x σ₁ => CompT B A env elt elts ek epos iter ifs rest scope pos cl x σ₁ Q)
    (hkind : scope.kind = .function := by rfl) (hnames : ∀ x ∈ scope.names, x.2 = .local → scope.names.lookup x.1 = some .local := by decide) (ha : ∀ g, rest[0]? = some g → g.is_async = 0 := by intro g h; cases h <;> rfl)
    (hs : ∀ x, foldedSetIterable iter env x = Pure.pure x := by intro _; rfl) : Te B A env (.ListComp elt (⟨.Tuple elts ek epos, iter, ifs, 0⟩ :: rest) scope pos) ℓ σ Q := fun s R F => by
  rw [eval_ListComp]
  refine comp_wholeT (use := none) hclos hkind hnames ha hs h R F fun acc C σ₁ s₁ σ' s' S₁ R' F' S' hC hCL FC q => ?_
  obtain ⟨ℓC, f0, fσ, m, hn, _⟩ := FC
  refine ⟨m, hn, fun h' hs' => ?_⟩
  exact ⟨ℓ, σ', R'.soft (k := s'.toks) f0 fσ fun b o hb e => hs'.extBut b o hb e, F'.soft (fun b o hb e => hs'.extBut b o hb e) hCL, S₁.trans (S'.soft (k := s'.toks) hCL hC fun b o hb e => hs'.extBut b o hb e), rfl, q⟩
end
end Mine
set_option maxHeartbeats 200000
namespace Mine
variable {B : Bs} {A : Around} {L : Addr} {σ : St} {ℓ : Loc} {a b l : Addr} {xs ys : List AV} {Q : AV → St → Prop}
def ZipU (z TI TO i1 i2 : Addr) (b : Addr) : Prop := b = z ∨ b = TI ∨ b = TO ∨ b = i1 ∨ b = i2
def ZipH (z TI TO i1 i2 l1 l2 : Addr) (i : Nat) (h : Heap) : Prop := IsZip h z TI TO .none ∧ IsPair h TI (.ref i1) (.ref i2) ∧ (∃ a b, IsPair h TO a b) ∧ h.IsListIter i1 l1 i ∧ h.IsListIter i2 l2 i
def ZipM (z TI TO i1 i2 l1 l2 : Addr) (i : Nat) (T : Addr) (h : Heap) : Prop := IsZip h z TI TO (rawInt T) ∧ IsPair h TI (.ref i1) (.ref i2) ∧ (∃ a b, IsPair h TO a b) ∧ h.IsListIter i1 l1 (i + 1) ∧ h.IsListIter i2 l2 (i + 1)
def ZipP (xs ys : List AV) (i : Nat) (vals : List AV) : Prop := ∃ x y, xs[i]? = some x ∧ ys[i]? = some y ∧ vals = [x, y]
theorem src_zip (hh : A.handled = none) {z TI TO i1 i2 l1 l2 : Addr} (D : ZipApart z TI TO i1 i2 l1 l2) :
    SrcT B A (ZipU z TI TO i1 i2) z (min xs.length ys.length) (fun σ => σ.m l1 = some (.list xs) ∧ σ.m l2 = some (.list ys)) (ZipH z TI TO i1 i2 l1 l2) (ZipM z TI TO i1 i2 l1 l2) (ZipP xs ys) where
  frame i h h' x k := by
    obtain ⟨hz, hTI, ⟨a, b, hTO⟩, h1, h2⟩ := x
    exact ⟨k z (.inl rfl) _ hz, k TI (.inr (.inl rfl)) _ hTI, ⟨a, b, k TO (.inr (.inr (.inl rfl))) _ hTO⟩, h1.at fun o e => k i1 (.inr (.inr (.inr (.inl rfl)))) o e, h2.at fun o e => k i2 (.inr (.inr (.inr (.inr rfl)))) o e⟩
  here i h x b u := by
    obtain ⟨hz, hTI, ⟨a, b', hTO⟩, ⟨o1, h1, _⟩, ⟨o2, h2, _⟩⟩ := x
    rcases u with rfl | rfl | rfl | rfl | rfl
    · exact ⟨_, hz⟩
    · exact ⟨_, hTI⟩
    · exact ⟨_, hTO⟩
    · exact ⟨_, h1⟩
    · exact ⟨_, h2⟩
  item i σ s hi hD R x Q k := by
    obtain ⟨hz, hTI, ⟨a, b', hTO⟩, h1, h2⟩ := x
    obtain ⟨vs, il1, q1⟩ := (RL.of hD.1).is R
    obtain ⟨ws, il2, q2⟩ := (RL.of hD.2).is R
    have hix : i < vs.size := by rw [sq_size q1]; omega
    have hiy : i < ws.size := by rw [sq_size q2]; omega
    have g1 := sq_get (i := i) q1
    have g2 := sq_get (i := i) q2
    rw [Array.getElem?_eq_getElem hix] at g1
    rw [Array.getElem?_eq_getElem hiy] at g2
    refine wpAny_pyNext_zip_item D hz hTI hTO h1 h2 il1 il2 (Array.getElem?_eq_getElem hix) (Array.getElem?_eq_getElem hiy) fun h' a1 a2 a3 a4 a5 a6 hk => ?_
    exact k s.heap.objs.size [ab vs[i], ab ws[i]] _ h' s.toks ⟨_, _, g1, g2, rfl⟩ (Nat.le_refl _) a5 ⟨_, _, rfl, rfl⟩
      ⟨a1, hk _ _ D.TIz D.TITO D.TIi1 D.TIi2 hTI, ⟨_, _, a2⟩, a3, a4⟩ fun c o hc e => hk c o (fun q => hc (.inl q)) (fun q => hc (.inr (.inr (.inl q)))) (fun q => hc (.inr (.inr (.inr (.inl q))))) (fun q => hc (.inr (.inr (.inr (.inr q))))) e
  done σ s hD R x Q k := by
    obtain ⟨hz, hTI, ⟨a, b', hTO⟩, h1, h2⟩ := x
    obtain ⟨vs, il1, q1⟩ := (RL.of hD.1).is R
    obtain ⟨ws, il2, q2⟩ := (RL.of hD.2).is R
    have z1 := sq_size q1
    have z2 := sq_size q2
    have hend : vs[min xs.length ys.length]? = none ∨ ws[min xs.length ys.length]? = none := by
      rcases Nat.le_total xs.length ys.length with h | h
      · exact .inl (by rw [Nat.min_eq_left h]; exact Array.getElem?_eq_none (by omega))
      · exact .inr (by rw [Nat.min_eq_right h]; exact Array.getElem?_eq_none (by omega))
    exact wpAny_pyNext_zip_end hh D hz hTI hTO h1 h2 il1 il2 hend fun h' hk => k h' s.toks fun c o hc e =>
      hk c o (fun q => hc (.inl q)) (fun q => hc (.inr (.inr (.inl q)))) (fun q => hc (.inr (.inr (.inr (.inl q))))) (fun q => hc (.inr (.inr (.inr (.inr q))))) e
  go elts k pos i T s x Q kk := by
    obtain ⟨hz, hTI, ⟨a, b, hTO⟩, h1, h2⟩ := x
    refine wpAny_letOwnedTupleGo_zip hz fun h' hz' hs' => kk h' ⟨hz', hs'.extBut _ _ D.TIz hTI, ⟨a, b, hs'.extBut _ _ D.TOz hTO⟩, h1.extBut hs'.extBut D.i1z, h2.extBut hs'.extBut D.i2z⟩ fun c o hc e => hs'.extBut _ _ (fun q => hc (.inl q)) e
  self i s x Q k := wpAny_pyIter_zip x.1 k
theorem c_zip (hh : A.handled = none) {l1 l2 : Addr} (e1 : σ.m l1 = some (.list xs)) (e2 : σ.m l2 = some (.list ys))
    (k : ∀ z σz, (∀ A' : Around, A'.handled = none → IterT B A' (.ref z) σz σ (min xs.length ys.length) (fun σ => σ.m l1 = some (.list xs) ∧ σ.m l2 = some (.list ys)) (ZipP xs ys)) → Q (.ref z) σz) : Callf B A (.ty "zip") [.ref l1, .ref l2] σ Q := fun fv vs hf hvs s R => by
  obtain rfl := ab_ty hf
  obtain ⟨u, v, rfl, h1, h2⟩ := two hvs
  obtain rfl := ab_ref h1
  obtain rfl := ab_ref h2
  obtain ⟨us, il1, q1⟩ := (RL.of e1).is R
  obtain ⟨ws, il2, q2⟩ := (RL.of e2).is R
  refine call_zip_2 il1 il2 fun h' hz hTI hTO hi1 hi2 hsz hk => ?_
  generalize hN : s.heap.objs.size = N at hz hTI hTO hi1 hi2 hsz ⊢
  have lt1 : @LT.lt Nat _ l1 N := by obtain ⟨_, e, _⟩ := il1; rw [← hN]; exact Heap.lt_size e
  have lt2 : @LT.lt Nat _ l2 N := by obtain ⟨_, e, _⟩ := il2; rw [← hN]; exact Heap.lt_size e
  let f : Addr → AObj := fun a => match h'.get? a with | some o => .raw o | none => .raw ⟨.type "list", none, .plain, #[]⟩
  obtain ⟨o1, ho1, hc1, hd1⟩ := id hi1
  obtain ⟨o2, ho2, hc2, hd2⟩ := id hi2
  have fo : ∀ b o, h'.get? b = some o → f b = .raw o := fun b o e => by show (match h'.get? b with | some o => AObj.raw o | none => _) = _; rw [e]
  obtain ⟨R₁, S₁⟩ := R.add (tk := s.toks) (as := [N + 4, N + 2, N + 3, N, N + 1]) (f := f) hk (fun a ha => by
    rw [hN]
    simp only [List.mem_cons, List.not_mem_nil, or_false] at ha
    rcases ha with rfl | rfl | rfl | rfl | rfl <;> omega) (fun a ha => by
    simp only [List.mem_cons, List.not_mem_nil, or_false] at ha
    rcases ha with rfl | rfl | rfl | rfl | rfl
    · exact ⟨_, hz, by rw [fo _ _ hz]; rfl⟩
    · exact ⟨_, hTI, by rw [fo _ _ hTI]; rfl⟩
    · exact ⟨_, hTO, by rw [fo _ _ hTO]; rfl⟩
    · exact ⟨_, ho1, by rw [fo _ _ ho1]; rfl⟩
    · exact ⟨_, ho2, by rw [fo _ _ ho2]; rfl⟩)
  have inU : ∀ b, ZipU (N + 4) (N + 2) (N + 3) N (N + 1) b → b ∈ [N + 4, N + 2, N + 3, N, N + 1] := fun b u => by
    rcases u with rfl | rfl | rfl | rfl | rfl <;> simp
  have old : ∀ b, ZipU (N + 4) (N + 2) (N + 3) N (N + 1) b → s.heap.objs.size ≤ b := fun b u => by rw [hN]; rcases u with rfl | rfl | rfl | rfl | rfl <;> omega
  refine ⟨_, R₁, S₁, k _ _ fun A' hh' => ⟨⟨fun b o e => ?_, rfl⟩, fun v hv s' R' Q' kk => ?_⟩⟩
  · by_cases hb : b ∈ [N + 4, N + 2, N + 3, N, N + 1]
    · have : s.heap.objs.size ≤ b := by
        rw [hN]
        simp only [List.mem_cons, List.not_mem_nil, or_false] at hb
        rcases hb with rfl | rfl | rfl | rfl | rfl <;> omega
      rw [(R.free (gone this)).2] at e; cases e
    · rw [add_out hb]; exact e
  · obtain rfl := ab_ref hv
    have D : ZipApart (N + 4) (N + 2) (N + 3) N (N + 1) l1 l2 := by
      constructor <;> (first | exact Nat.ne_of_lt (by omega) | exact Nat.ne_of_gt (by omega))
    have at_ : ∀ b o, b ∈ [N + 4, N + 2, N + 3, N, N + 1] → h'.get? b = some o → s'.heap.get? b = some o := fun b o hb e => raw_at R' (by rw [add_in hb, fo b o e])
    have hz' := at_ _ _ (by simp) hz
    refine wpAny_pyIter_zip hz' ?_
    refine kk (ZipU (N + 4) (N + 2) (N + 3) N (N + 1)) (N + 4) (ZipH (N + 4) (N + 2) (N + 3) N (N + 1) l1 l2) (ZipM (N + 4) (N + 2) (N + 3) N (N + 1) l1 l2) s'.heap s'.toks (.inl rfl)
      (fun b u => ⟨(R.free (gone (old b u))).2, (R.free (gone (old b u))).1, .inl (by rw [add_in (inU b u)]; exact nofun)⟩) (fun b o e => e) (src_zip hh' D) ?_
    exact ⟨hz', at_ _ _ (by simp) hTI, ⟨_, _, at_ _ _ (by simp) hTO⟩, ⟨o1, at_ _ _ (by simp) ho1, hc1, hd1⟩, ⟨o2, at_ _ _ (by simp) ho2, hc2, hd2⟩⟩
end Mine
set_option maxHeartbeats 200000
namespace Mine
variable {B : Bs} {A : Around} {L : Addr} {σ σ' σ'' : St} {ℓ : Loc} {a b l acc : Addr} {xs ys us : List AV}
theorem St.Sub.rfl' : St.Sub σ σ := ⟨fun _ _ e => e, rfl⟩
theorem St.Sub.trans (x : St.Sub σ σ') (y : St.Sub σ' σ'') : St.Sub σ σ'' := ⟨fun b o e => y.1 b o (x.1 b o e), x.2.trans y.2⟩
theorem Te.sub {env : Env} {e : PySem.Expr} {Q : AV → St → Prop} (h : Te B A env e ℓ σ fun v σ' => ∃ σ₂, St.Sub σ₂ σ' ∧ Q v σ₂) : Te B A env e ℓ σ Q :=
  T.sub (T.mono h fun _ _ _ ⟨e, σ₂, S, q⟩ => ⟨σ₂, S, e, q⟩)
theorem Callf.sub {f : AV} {args : List AV} {Q : AV → St → Prop} (h : Callf B A f args σ fun v σ' => ∃ σ₂, St.Sub σ₂ σ' ∧ Q v σ₂) : Callf B A f args σ Q := fun fv vs e1 e2 => T0.sub (h fv vs e1 e2)
/-- the state of a comprehension: the list under way, all else as it was -/
structure KC (σ : St) (acc : Addr) (us : List AV) (σ' : St) : Prop where
  list : σ'.m acc = some (.list us)
  kept : ∀ b o, σ.m b = some o → σ'.m b = some o
  g : σ'.g = σ.g
theorem KC.new (h : σ.m acc = none) : KC σ acc us (σ.put acc (.list us)) := ⟨put_same .., fun b o e => put_fresh h e, rfl⟩
theorem KC.put (x : KC σ acc us σ') (h : σ.m acc = none) : KC σ acc ys (σ'.put acc (.list ys)) := ⟨put_same .., fun b o e => by rw [put_other (by rintro rfl; rw [h] at e; cases e)]; exact x.kept b o e, x.g⟩
theorem KC.sub (x : KC σ acc us σ') (h : St.Sub σ' σ'') : KC σ acc us σ'' := ⟨h.1 _ _ x.list, fun b o e => h.1 _ _ (x.kept b o e), h.2.symm.trans x.g⟩
theorem KC.cell (x : KC σ acc us σ') {c : Addr} {o : AObj} (h : σ.m c = none) (hc : c ≠ acc) : KC σ acc us (σ'.put c o) := ⟨by rw [put_other hc.symm]; exact x.list, fun b o e => by rw [put_other (by rintro rfl; rw [h] at e; cases e)]; exact x.kept b o e, x.g⟩
theorem KC.to (x : KC σ acc us σ') : St.Sub σ σ' := ⟨x.kept, x.g.symm⟩
theorem KC.fin (x : KC σ acc us σ') : St.Sub (σ.put acc (.list us)) σ' := by
  refine ⟨fun b o e => ?_, x.g.symm⟩
  by_cases q : b = acc
  · subst q; rw [put_same] at e; cases e; exact x.list
  · rw [put_other q] at e; exact x.kept b o e
theorem fm_succ {g : Nat → Option AV} (i : Nat) : (List.range (i + 1)).filterMap g = (List.range i).filterMap g ++ (g i).toList := by
  rw [List.range_succ, List.filterMap_append]
  cases h : g i <;> simp [h]
theorem fm_len {g : Nat → Option AV} (n : Nat) : ((List.range n).filterMap g).length ≤ n := Nat.le_trans (List.length_filterMap_le _ _) (by simp)
section
variable {elt target iter : PySem.Expr} {ifs : List PySem.Expr} {scope : Scope} {pos : Pos} {env : Env}
theorem ta_mono {tg : PySem.Expr} {v : AV} {Q Q' : Loc → St → Prop} (h : Ta B A env tg v ℓ σ Q) (f : ∀ ℓ' σ', Q ℓ' σ' → Q' ℓ' σ') : Ta B A env tg v ℓ σ Q' := fun va hv => T.mono (h va hv) fun _ _ _ x => f _ _ x
/-- a comprehension whose scope has no cell; the items are told by g -/
theorem e_compP (O : B.Ok) {cl : List (Str × Addr)} {Q : AV → St → Prop} (hclos : closureFor scope env = Pure.pure cl)
    (hcells : ∀ (σ : St) (P : List (Str × Addr) → St → Prop), P cl σ → OnCells scope.names cl σ P)
    (h : Te B A env iter ℓ σ fun x σ₁ => ∃ (n : Nat) (D : St → Prop) (P : Nat → AV → Prop) (g : Nat → Option AV), Iter B A x σ₁ n D P ∧ n ≤ 1000 ∧ (∀ σ', St.Sub σ₁ σ' → D σ') ∧
      (∀ acc C i v us ℓ' σ', i < n → P i v → σ₁.m acc = none → KC σ₁ acc us σ' → Ta B A (compEnvC scope cl C env) target v ℓ' σ' fun ℓ₂ σ₂ => Tif B A (compEnvC scope cl C env) ifs ℓ₂ σ₂ fun b σ₃ =>
        if b = true then Te B A (compEnvC scope cl C env) elt ℓ₂ σ₃ fun u σ₄ => KC σ₁ acc us σ₄ ∧ g i = some u else KC σ₁ acc us σ₃ ∧ g i = none) ∧
      ∀ acc, σ₁.m acc = none → Q (.ref acc) (σ₁.put acc (.list ((List.range n).filterMap g))))
    (hl : subIn B.K (.type "list") (.type "list") = some true := by rfl)
    (hkind : scope.kind = .function := by rfl) (hnames : ∀ x ∈ scope.names, x.2 = .local → scope.names.lookup x.1 = some .local := by decide)
    (hs : ∀ x, foldedSetIterable iter env x = Pure.pure x := by intro _; rfl) : Te B A env (.ListComp elt [⟨target, iter, ifs, 0⟩] scope pos) ℓ σ Q := by
  refine Te.sub (e_comp hclos (h.mono ?_) hkind hnames (by intro g h; cases h) hs)
  rintro x σ₁ ⟨n, D, P, g, it, hn, hD, step, fin⟩
  refine ⟨n, D, P, it, fun acc hacc C hC => hcells _ _ ⟨fun i _ σ' => i ≤ n ∧ KC σ₁ acc ((List.range i).filterMap g) σ', ⟨Nat.zero_le _, KC.new hacc⟩, fun i _ σ' j => hD σ' j.2.to, fun i v ℓ' σ' hi hP j => ?_, fun ℓ' σ' j => ⟨_, j.2.fin, fin acc hacc⟩⟩⟩
  refine ta_mono (step acc C i v _ ℓ' σ' hi hP hacc j.2) (fun ℓ₂ σ₂ t => ?_)
  have key : ∀ {b : Bool} {σ₃ : St}, (if b = true then Te B A (compEnvC scope cl C env) elt ℓ₂ σ₃ fun u σ₄ => KC σ₁ acc ((List.range i).filterMap g) σ₄ ∧ g i = some u else KC σ₁ acc ((List.range i).filterMap g) σ₃ ∧ g i = none) →
      if b = true then T B A C (CompIn elt [⟨target, iter, ifs, 0⟩] scope pos 0 (.ref acc) (compEnvC scope cl C env)) ℓ₂ σ₃ fun _ ℓ₄ σ₅ => i + 1 ≤ n ∧ KC σ₁ acc ((List.range (i + 1)).filterMap g) σ₅ else i + 1 ≤ n ∧ KC σ₁ acc ((List.range (i + 1)).filterMap g) σ₃ := by
    intro b σ₃ h
    cases b with
    | true =>
      rw [if_pos rfl] at h ⊢
      have hsz : sizeLine = 16777216 := sizeLine_eq
      refine t_emitC O (h.mono ?_) rfl hl
      rintro u σ₄ ⟨k, e⟩
      refine ⟨_, k.list, Nat.le_trans (fm_len i) (by omega), hi, ?_⟩
      rw [fm_succ, e]
      exact k.put hacc
    | false =>
      rw [if_neg Bool.false_ne_true] at h ⊢
      refine ⟨hi, ?_⟩
      rw [fm_succ, h.2]
      simpa using h.1
  match ifs, t with
  | [], t => exact key (b := true) t
  | [c], t => exact T.mono t fun b ℓ' σ' ⟨e, x⟩ => ⟨e, key x⟩
  | _ :: _ :: _, t => exact t.elim
/-- the same, where the scope has one cell, x -/
theorem e_compPC (O : B.Ok) {x : Str} {cl : List (Str × Addr)} {Q : AV → St → Prop} (hclos : closureFor scope env = Pure.pure cl)
    (hcells : ∀ (σ : St) (P : List (Str × Addr) → St → Prop), (∀ c, σ.m c = none → P ((x, c) :: cl) (σ.put c (.cell none))) → OnCells scope.names cl σ P)
    (h : Te B A env iter ℓ σ fun xv σ₁ => ∃ (n : Nat) (D : St → Prop) (P : Nat → AV → Prop) (g : Nat → Option AV), Iter B A xv σ₁ n D P ∧ n ≤ 1000 ∧ (∀ σ', St.Sub σ₁ σ' → D σ') ∧
      (∀ acc C c i v us ℓ' σ' o, i < n → P i v → σ₁.m acc = none → σ₁.m c = none → c ≠ acc → KC σ₁ acc us σ' → σ'.m c = some (.cell o) → Ta B A (compEnvC scope ((x, c) :: cl) C env) target v ℓ' σ' fun ℓ₂ σ₂ => Tif B A (compEnvC scope ((x, c) :: cl) C env) ifs ℓ₂ σ₂ fun b σ₃ =>
        if b = true then Te B A (compEnvC scope ((x, c) :: cl) C env) elt ℓ₂ σ₃ fun u σ₄ => KC σ₁ acc us σ₄ ∧ (∃ o, σ₄.m c = some (.cell o)) ∧ g i = some u else KC σ₁ acc us σ₃ ∧ (∃ o, σ₃.m c = some (.cell o)) ∧ g i = none) ∧
      ∀ acc, σ₁.m acc = none → Q (.ref acc) (σ₁.put acc (.list ((List.range n).filterMap g))))
    (hl : subIn B.K (.type "list") (.type "list") = some true := by rfl)
    (hkind : scope.kind = .function := by rfl) (hnames : ∀ x ∈ scope.names, x.2 = .local → scope.names.lookup x.1 = some .local := by decide)
    (hs : ∀ x, foldedSetIterable iter env x = Pure.pure x := by intro _; rfl) : Te B A env (.ListComp elt [⟨target, iter, ifs, 0⟩] scope pos) ℓ σ Q := by
  refine Te.sub (e_comp hclos (h.mono ?_) hkind hnames (by intro g h; cases h) hs)
  rintro xv σ₁ ⟨n, D, P, g, it, hn, hD, step, fin⟩
  refine ⟨n, D, P, it, fun acc hacc C hC => hcells _ _ fun c hc => ?_⟩
  have nc : c ≠ acc := by rintro rfl; rw [put_same] at hc; cases hc
  have fc : σ₁.m c = none := by rw [put_other nc] at hc; exact hc
  refine ⟨fun i _ σ' => i ≤ n ∧ KC σ₁ acc ((List.range i).filterMap g) σ' ∧ ∃ o, σ'.m c = some (.cell o), ⟨Nat.zero_le _, (KC.new hacc).cell fc nc, _, put_same ..⟩, fun i _ σ' j => hD σ' j.2.1.to, fun i v ℓ' σ' hi hP j => ?_, fun ℓ' σ' j => ⟨_, j.2.1.fin, fin acc hacc⟩⟩
  obtain ⟨_, kc, o, ho⟩ := j
  refine ta_mono (step acc C c i v _ ℓ' σ' o hi hP hacc fc nc kc ho) (fun ℓ₂ σ₂ t => ?_)
  have key : ∀ {b : Bool} {σ₃ : St}, (if b = true then Te B A (compEnvC scope ((x, c) :: cl) C env) elt ℓ₂ σ₃ fun u σ₄ => KC σ₁ acc ((List.range i).filterMap g) σ₄ ∧ (∃ o, σ₄.m c = some (.cell o)) ∧ g i = some u else KC σ₁ acc ((List.range i).filterMap g) σ₃ ∧ (∃ o, σ₃.m c = some (.cell o)) ∧ g i = none) →
      if b = true then T B A C (CompIn elt [⟨target, iter, ifs, 0⟩] scope pos 0 (.ref acc) (compEnvC scope ((x, c) :: cl) C env)) ℓ₂ σ₃ fun _ ℓ₄ σ₅ => i + 1 ≤ n ∧ KC σ₁ acc ((List.range (i + 1)).filterMap g) σ₅ ∧ ∃ o, σ₅.m c = some (.cell o)
      else i + 1 ≤ n ∧ KC σ₁ acc ((List.range (i + 1)).filterMap g) σ₃ ∧ ∃ o, σ₃.m c = some (.cell o) := by
    intro b σ₃ h
    cases b with
    | true =>
      rw [if_pos rfl] at h ⊢
      have hsz : sizeLine = 16777216 := sizeLine_eq
      refine t_emitC O (h.mono ?_) rfl hl
      rintro u σ₄ ⟨k, ⟨o', ho'⟩, e⟩
      refine ⟨_, k.list, Nat.le_trans (fm_len i) (by omega), hi, ?_, o', by rw [put_other nc]; exact ho'⟩
      rw [fm_succ, e]
      exact k.put hacc
    | false =>
      rw [if_neg Bool.false_ne_true] at h ⊢
      refine ⟨hi, ?_, h.2.1⟩
      rw [fm_succ, h.2.2]
      simpa using h.1
  match ifs, t with
  | [], t => exact key (b := true) t
  | [cc], t => exact T.mono t fun b ℓ' σ' ⟨e, x⟩ => ⟨e, key x⟩
  | _ :: _ :: _, t => exact t.elim
/-- objects made by a comprehension -/
structure Objs (σ₁ : St) (acc : Addr) (ob : Nat → AObj) (i : Nat) (ts : List Addr) (σ' : St) : Prop where
  len : ts.length = i
  kc : KC σ₁ acc (ts.map .ref) σ'
  at_ : ∀ (j : Nat) (t : Addr), ts[j]? = some t → σ'.m t = some (ob j)
  new : ∀ t ∈ ts, σ₁.m t = none ∧ t ≠ acc
  nod : ts.Nodup
theorem Objs.sub {ob : Nat → AObj} {i : Nat} {ts : List Addr} {σ₁ : St} (x : Objs σ₁ acc ob i ts σ') (h : St.Sub σ' σ'') : Objs σ₁ acc ob i ts σ'' := ⟨x.len, x.kc.sub h, fun j t e => h.1 _ _ (x.at_ j t e), x.new, x.nod⟩
theorem Objs.nil {ob : Nat → AObj} {σ₁ : St} (h : σ₁.m acc = none) : Objs σ₁ acc ob 0 [] (σ₁.put acc (.list [])) := ⟨rfl, KC.new h, fun j t e => by simp at e, by simp, .nil⟩
theorem Objs.cell {ob : Nat → AObj} {i : Nat} {ts : List Addr} {σ₁ : St} (x : Objs σ₁ acc ob i ts σ') {c : Addr} {o' : Option AV} (h : σ₁.m c = none) (hc : c ≠ acc) (hts : c ∉ ts) : Objs σ₁ acc ob i ts (σ'.put c (.cell o')) :=
  ⟨x.len, x.kc.cell h hc, fun j t q => by rw [put_other (by rintro rfl; exact hts (List.mem_of_getElem? q))]; exact x.at_ j t q, x.new, x.nod⟩
theorem Objs.push {ob : Nat → AObj} {i : Nat} {ts : List Addr} {σ₁ : St} (x : Objs σ₁ acc ob i ts σ') (hacc : σ₁.m acc = none) {t : Addr} (ht : σ'.m t = none) (S : St.Sub σ' σ'') (e : σ''.m t = some (ob i)) : Objs σ₁ acc ob (i + 1) (ts ++ [t]) (σ''.put acc (.list ((ts ++ [t]).map .ref))) := by
  have nt : t ≠ acc := by rintro rfl; have := x.kc.list; rw [ht] at this; cases this
  have nts : t ∉ ts := fun h => by obtain ⟨j, hj⟩ := List.mem_iff_getElem?.mp h; have := x.at_ j t hj; rw [ht] at this; cases this
  have y := x.sub S
  have ft : σ₁.m t = none := by
    cases q : σ₁.m t with
    | none => rfl
    | some o => rw [x.kc.kept _ _ q] at ht; cases ht
  refine ⟨by simp [x.len], y.kc.put hacc, fun j u h => ?_, fun u hu => ?_, ?_⟩
  · have nu : u ≠ acc := by
      rcases List.mem_append.mp (List.mem_of_getElem? h) with q | q
      · exact (x.new u q).2
      · rw [List.mem_singleton.mp q]; exact nt
    rw [put_other nu]
    rcases Nat.lt_trichotomy j ts.length with c | c | c
    · rw [List.getElem?_append_left c] at h; exact y.at_ j u h
    · subst c
      have : t = u := by simpa using h
      subst this
      rw [x.len]; exact e
    · rw [List.getElem?_eq_none (by simp; omega)] at h; cases h
  · rcases List.mem_append.mp hu with q | q
    · exact x.new u q
    · rw [List.mem_singleton.mp q]; exact ⟨ft, nt⟩
  · exact List.nodup_append.mpr ⟨x.nod, by simp, fun a ha b hb => by rw [List.mem_singleton.mp hb]; rintro rfl; exact nts ha⟩
/-- a comprehension of new objects; no cell -/
theorem e_compR (O : B.Ok) {cl : List (Str × Addr)} {Q : AV → St → Prop} (hclos : closureFor scope env = Pure.pure cl)
    (hcells : ∀ (σ : St) (P : List (Str × Addr) → St → Prop), P cl σ → OnCells scope.names cl σ P)
    (h : Te B A env iter ℓ σ fun x σ₁ => ∃ (n : Nat) (D : St → Prop) (P : Nat → AV → Prop) (ob : Nat → AObj), Iter B A x σ₁ n D P ∧ n ≤ 1000 ∧ (∀ σ', St.Sub σ₁ σ' → D σ') ∧
      (∀ C i v ℓ' σ', i < n → P i v → St.Sub σ₁ σ' → Ta B A (compEnvC scope cl C env) target v ℓ' σ' fun ℓ₂ σ₂ => σ₂ = σ' ∧ Te B A (compEnvC scope cl C env) elt ℓ₂ σ' fun u σ₄ => ∃ t, u = .ref t ∧ σ'.m t = none ∧ St.Sub σ' σ₄ ∧ σ₄.m t = some (ob i)) ∧
      ∀ acc ts σ', σ₁.m acc = none → Objs σ₁ acc ob n ts σ' → Q (.ref acc) σ')
    (hifs : ifs = []) (hl : subIn B.K (.type "list") (.type "list") = some true := by rfl)
    (hkind : scope.kind = .function := by rfl) (hnames : ∀ x ∈ scope.names, x.2 = .local → scope.names.lookup x.1 = some .local := by decide)
    (hs : ∀ x, foldedSetIterable iter env x = Pure.pure x := by intro _; rfl) : Te B A env (.ListComp elt [⟨target, iter, ifs, 0⟩] scope pos) ℓ σ Q := by
  subst hifs
  refine e_comp hclos (h.mono ?_) hkind hnames (by intro g h; cases h) hs
  rintro x σ₁ ⟨n, D, P, ob, it, hn, hD, step, fin⟩
  refine ⟨n, D, P, it, fun acc hacc C hC => hcells _ _ ⟨fun i _ σ' => i ≤ n ∧ ∃ ts, Objs σ₁ acc ob i ts σ', ⟨Nat.zero_le _, [], .nil hacc⟩, fun i _ σ' j => by obtain ⟨_, ts, j⟩ := j; exact hD σ' j.kc.to, fun i v ℓ' σ' hi hP j => ?_, fun ℓ' σ' j => by obtain ⟨_, ts, j⟩ := j; exact fin acc ts σ' hacc j⟩⟩
  obtain ⟨_, ts, j⟩ := j
  refine ta_mono (step C i v ℓ' σ' hi hP j.kc.to) (fun ℓ₂ σ₂ ⟨e2, t⟩ => ?_)
  subst e2
  refine tif_nil ?_
  rw [if_pos rfl]
  have hsz : sizeLine = 16777216 := sizeLine_eq
  refine t_emitC O (t.mono ?_) rfl hl
  rintro u σ₄ ⟨t, rfl, ht, S, e⟩
  exact ⟨_, (j.sub S).kc.list, by rw [List.length_map, j.len]; omega, hi, ts ++ [t], by have := j.push hacc ht S e; rw [List.map_append] at this; exact this⟩
/-- a comprehension of new objects; one cell -/
theorem e_compRC (O : B.Ok) {x : Str} {cl : List (Str × Addr)} {Q : AV → St → Prop} (hclos : closureFor scope env = Pure.pure cl)
    (hcells : ∀ (σ : St) (P : List (Str × Addr) → St → Prop), (∀ c, σ.m c = none → P ((x, c) :: cl) (σ.put c (.cell none))) → OnCells scope.names cl σ P)
    (h : Te B A env iter ℓ σ fun xv σ₁ => ∃ (n : Nat) (D : St → Prop) (P : Nat → AV → Prop) (ob : Nat → AObj), Iter B A xv σ₁ n D P ∧ n ≤ 1000 ∧ (∀ σ', St.Sub σ₁ σ' → D σ') ∧
      (∀ C c i v ℓ' σ' o, i < n → P i v → St.Sub σ₁ σ' → σ'.m c = some (.cell o) → σ₁.m c = none → Ta B A (compEnvC scope ((x, c) :: cl) C env) target v ℓ' σ' fun ℓ₂ σ₂ => (∃ o', σ₂ = σ'.put c (.cell o')) ∧ Te B A (compEnvC scope ((x, c) :: cl) C env) elt ℓ₂ σ₂ fun u σ₄ => ∃ t, u = .ref t ∧ σ₂.m t = none ∧ St.Sub σ₂ σ₄ ∧ σ₄.m t = some (ob i)) ∧
      ∀ acc ts σ', σ₁.m acc = none → Objs σ₁ acc ob n ts σ' → Q (.ref acc) σ')
    (hifs : ifs = []) (hl : subIn B.K (.type "list") (.type "list") = some true := by rfl)
    (hkind : scope.kind = .function := by rfl) (hnames : ∀ x ∈ scope.names, x.2 = .local → scope.names.lookup x.1 = some .local := by decide)
    (hs : ∀ x, foldedSetIterable iter env x = Pure.pure x := by intro _; rfl) : Te B A env (.ListComp elt [⟨target, iter, ifs, 0⟩] scope pos) ℓ σ Q := by
  subst hifs
  refine e_comp hclos (h.mono ?_) hkind hnames (by intro g h; cases h) hs
  rintro xv σ₁ ⟨n, D, P, ob, it, hn, hD, step, fin⟩
  refine ⟨n, D, P, it, fun acc hacc C hC => hcells _ _ fun c hc => ?_⟩
  have nc : c ≠ acc := by rintro rfl; rw [put_same] at hc; cases hc
  have fc : σ₁.m c = none := by rw [put_other nc] at hc; exact hc
  refine ⟨fun i _ σ' => i ≤ n ∧ (∃ o, σ'.m c = some (.cell o)) ∧ ∃ ts, Objs σ₁ acc ob i ts σ' ∧ c ∉ ts, ⟨Nat.zero_le _, ⟨_, put_same ..⟩, [], (Objs.nil hacc).cell fc nc (by simp), by simp⟩, fun i _ σ' j => by obtain ⟨_, _, ts, j, _⟩ := j; exact hD σ' j.kc.to, fun i v ℓ' σ' hi hP j => ?_, fun ℓ' σ' j => by obtain ⟨_, _, ts, j, _⟩ := j; exact fin acc ts σ' hacc j⟩
  obtain ⟨_, ⟨o, ho⟩, ts, j, hcts⟩ := j
  refine ta_mono (step C c i v ℓ' σ' o hi hP j.kc.to ho fc) (fun ℓ₂ σ₂ ⟨⟨o', e2⟩, t⟩ => ?_)
  have j2 : Objs σ₁ acc ob i ts σ₂ := by rw [e2]; exact j.cell fc nc hcts
  have ho2 : σ₂.m c = some (.cell o') := by rw [e2, put_same]
  refine tif_nil ?_
  rw [if_pos rfl]
  have hsz : sizeLine = 16777216 := sizeLine_eq
  refine t_emitC O (t.mono ?_) rfl hl
  rintro u σ₄ ⟨t, rfl, ht, S, e⟩
  have nct : c ≠ t := by rintro rfl; rw [ho2] at ht; cases ht
  exact ⟨_, (j2.sub S).kc.list, by rw [List.length_map, j.len]; omega, hi, ⟨o', by rw [put_other nc]; exact S.1 _ _ ho2⟩, ts ++ [t], by have := j2.push hacc ht S e; rw [List.map_append] at this; exact this, by simp [hcts, nct]⟩
end
end Mine
set_option maxHeartbeats 200000
namespace Mine
variable {B : Bs} {A : Around} {L : Addr} {σ σ' σ'' : St} {ℓ : Loc} {a b l acc : Addr} {xs ys us : List AV}
variable {elt iter : PySem.Expr} {elts : List PySem.Expr} {ek : Nat} {epos : Pos} {ifs : List PySem.Expr} {scope : Scope} {pos : Pos} {env : Env}
/-- a comprehension over new tuples; no cell -/
theorem e_compZ (O : B.Ok) {cl : List (Str × Addr)} {Q : AV → St → Prop} (hclos : closureFor scope env = Pure.pure cl)
    (hcells : ∀ (σ : St) (P : List (Str × Addr) → St → Prop), P cl σ → OnCells scope.names cl σ P)
    (h : Te B A env iter ℓ σ fun x σ₁ => ∃ (n : Nat) (D : St → Prop) (P : Nat → List AV → Prop) (σm : St) (g : Nat → Option AV), IterT B A x σ₁ σm n D P ∧ n ≤ 1000 ∧ (∀ σ', St.Sub σm σ' → D σ') ∧
      (∀ acc C i vals τ us ℓ' σ', i < n → P i vals → σm.m acc = none → KC σm acc us σ' → σ'.m τ = some (.tup vals) → Ta B A (compEnvC scope cl C env) (.Tuple elts ek epos) (.ref τ) ℓ' σ' fun ℓ₂ σ₂ => Tif B A (compEnvC scope cl C env) ifs ℓ₂ σ₂ fun b σ₃ =>
        if b = true then Te B A (compEnvC scope cl C env) elt ℓ₂ σ₃ fun u σ₄ => KC σm acc us σ₄ ∧ g i = some u else KC σm acc us σ₃ ∧ g i = none) ∧
      ∀ acc, σm.m acc = none → Q (.ref acc) (σm.put acc (.list ((List.range n).filterMap g))))
    (hl : subIn B.K (.type "list") (.type "list") = some true := by rfl)
    (hkind : scope.kind = .function := by rfl) (hnames : ∀ x ∈ scope.names, x.2 = .local → scope.names.lookup x.1 = some .local := by decide)
    (hs : ∀ x, foldedSetIterable iter env x = Pure.pure x := by intro _; rfl) : Te B A env (.ListComp elt [⟨.Tuple elts ek epos, iter, ifs, 0⟩] scope pos) ℓ σ Q := by
  refine Te.sub (e_compT hclos (h.mono ?_) hkind hnames (by intro g h; cases h) hs)
  rintro x σ₁ ⟨n, D, P, σm, g, it, hn, hD, step, fin⟩
  refine ⟨n, D, P, σm, it, fun acc hacc C hC => hcells _ _ ⟨fun i _ σ' => i ≤ n ∧ KC σm acc ((List.range i).filterMap g) σ', ⟨Nat.zero_le _, KC.new hacc⟩, fun i _ σ' j => hD σ' j.2.to, fun i vals τ ℓ' σ' hi hP j hτ => ?_, fun ℓ' σ' j => ⟨_, j.2.fin, fin acc hacc⟩⟩⟩
  refine ta_mono (step acc C i vals τ _ ℓ' (σ'.put τ (.tup vals)) hi hP hacc (j.2.sub (sub_new hτ)) (put_same ..)) (fun ℓ₂ σ₂ t => ?_)
  have key : ∀ {b : Bool} {σ₃ : St}, (if b = true then Te B A (compEnvC scope cl C env) elt ℓ₂ σ₃ fun u σ₄ => KC σm acc ((List.range i).filterMap g) σ₄ ∧ g i = some u else KC σm acc ((List.range i).filterMap g) σ₃ ∧ g i = none) →
      if b = true then T B A C (CompIn elt [⟨.Tuple elts ek epos, iter, ifs, 0⟩] scope pos 0 (.ref acc) (compEnvC scope cl C env)) ℓ₂ σ₃ fun _ ℓ₄ σ₅ => i + 1 ≤ n ∧ KC σm acc ((List.range (i + 1)).filterMap g) σ₅ else i + 1 ≤ n ∧ KC σm acc ((List.range (i + 1)).filterMap g) σ₃ := by
    intro b σ₃ h
    cases b with
    | true =>
      rw [if_pos rfl] at h ⊢
      have hsz : sizeLine = 16777216 := sizeLine_eq
      refine t_emitC O (h.mono ?_) rfl hl
      rintro u σ₄ ⟨k, e⟩
      refine ⟨_, k.list, Nat.le_trans (fm_len i) (by omega), hi, ?_⟩
      rw [fm_succ, e]
      exact k.put hacc
    | false =>
      rw [if_neg Bool.false_ne_true] at h ⊢
      refine ⟨hi, ?_⟩
      rw [fm_succ, h.2]
      simpa using h.1
  match ifs, t with
  | [], t => exact key (b := true) t
  | [c], t => exact T.mono t fun b ℓ' σ' ⟨e, x⟩ => ⟨e, key x⟩
  | _ :: _ :: _, t => exact t.elim
end Mine
set_option maxHeartbeats 200000
namespace Mine
variable {A : Around} {L : Addr} {σ σ' σ'' : St} {ℓ : Loc}
theorem RL.mono {B : Bs} {a : Addr} {xs : List AV} (h : RL B σ a xs) (S : St.Sub σ σ') : RL B σ' a xs := fun s R => h s (R.sub S)
theorem e_sliceX {B : Bs} {Q : AV → St → Prop} {env : Env} {pos p : Pos} {value : PySem.Expr} {lower upper : Option PySem.Expr} {lo hi : Option Int}
    (hh : Te B A env value ℓ σ fun o σ₁ => Tp B A env lower ℓ σ₁ fun l σ₂ => Tp B A env upper ℓ σ₂ fun u σ₃ =>
      ∃ a xs, o = .ref a ∧ RL B σ₃ a xs ∧ IsP l lo ∧ IsP u hi ∧ xs.length ≤ sizeLine ∧ ∀ b, σ₃.m b = none → Q (.ref b) (σ₃.put b (.list (apick xs lo hi none)))) : Te B A env (.Subscript value (.Slice lower upper none p) pos) ℓ σ Q := by
  show T _ _ _ (eval _ _) _ _ _
  rw [eval_Subscript]
  refine T.bind (T.mono hh ?_)
  rintro o ℓ' σ' ⟨rfl, h'⟩
  rw [arm_eval_Slice]
  refine T.bind (T.holding (T.bind (T.mono (T.part h') ?_)))
  rintro l ℓ₁ σ₁ ⟨rfl, h₁⟩
  refine T.bind (T.holding (T.mono (T.part h₁) ?_))
  rintro u ℓ₂ σ₂ ⟨rfl, h₂⟩
  refine T.bind (T.holding (T.mono (T.part (o := none) (Q := fun v σ' => v = .none ∧ σ' = σ₂) ⟨rfl, rfl⟩) ?_))
  rintro t ℓ₃ σ₃ ⟨rfl, ht, rfl⟩
  obtain ⟨a, xs, ho, rl, p1, p2, hz, k⟩ := h₂
  obtain rfl := ab_ref ho
  obtain rfl := ab_none ht
  refine T.of0 (fun s R => ?_)
  refine wpAny_newObj_type ?_
  obtain ⟨R', S, hm⟩ := R.push (o := sliceObj l u .none) (ao := .raw (sliceObj l u .none)) rfl rfl
  refine ⟨_, R', S, ?_⟩
  have rl' := rl.mono (sub_new (o := .raw (sliceObj l u .none)) hm)
  refine T.bind (T.standAt (T.bind (T.of0 (fun s2 R2 => ?_))))
  obtain ⟨items, il, q⟩ := rl'.is R2
  rw [getitemInPython_of_ne il.typeIs.not_modules]
  refine wpAny_bind (wpAny_specialOf il.typeIs list_getitem_lookup (wpAny_pure ⟨_, R2, .refl .., ?_⟩))
  obtain ⟨vs, e'⟩ := subscripted_eq (.Slice lower upper none p) (.ref a) (.ref s.heap.objs.size)
  rw [e']
  refine T.sub (T.bind (T.operate (T.of0 (fun s3 R3 => ?_))))
  obtain ⟨items, il, q⟩ := rl'.is R3
  have hst : s3.heap.get? s.heap.objs.size = some (sliceObj l u .none) := raw_at R3 (put_same ..)
  refine wpAny_getItem_list_slice il ⟨_, hst, rfl, rfl⟩ (p1.part rfl) (p2.part rfl) .none (by simp) ?_ (by rw [sq_size q]; exact hz)
  obtain ⟨R₅, S₅, hm₅⟩ := R3.push (o := { cls := .type "list", data := .seq (slicePick items lo hi none) }) (ao := .list (apick xs lo hi none)) ⟨_, _, rfl, apick_of q lo hi none⟩ rfl
  refine ⟨_, R₅, S₅, ?_⟩
  refine T.bind (T.of0 fun s R => wpAny_letTemporaryGo ⟨_, R, .refl .., T.pure ⟨σ₃.put s3.heap.objs.size (.list (apick xs lo hi none)), ?_, rfl, ?_⟩⟩)
  · refine sub_put hm ?_
    intro e
    rw [e, put_same] at hm₅
    cases hm₅
  · refine k _ ?_
    cases hc : σ₃.m s3.heap.objs.size with
    | none => rfl
    | some o => rw [put_fresh hm hc] at hm₅; cases hm₅
end Mine
set_option maxHeartbeats 200000
set_option maxHeartbeats 4000000
namespace Mine
variable {w : World} {h0 : Heap} {A : Around} {σ σ' σ'' : St} {ℓ ℓ' : Loc}
/-- the Domains to be looked at ahead -/
inductive PdIs (σ : St) (W : Wd) : AV → List Nat → Prop where
  | nil : PdIs σ W .none []
  | list {l : Addr} {ps : List Nat} (e : σ.m l = some (.list (ps.map fun i => .ref (W.d i)))) (n : ¬ W.dyn l) (hz : ps.length ≤ 100) : PdIs σ W (.ref l) ps
theorem PdIs.kp {W : Wd} {pv : AV} {ps : List Nat} {S : Addr → Prop} (h : PdIs σ W pv ps) (k : Kp S σ σ') (hS : ∀ l, pv = .ref l → ¬ S l) : PdIs σ' W pv ps := by
  cases h with
  | nil => exact .nil
  | list e n hz => exact .list (k.kept _ _ e (hS _ rfl)) n hz
theorem PdIs.fc {W : Wd} {pv : AV} {ps : List Nat} (h : PdIs σ W pv ps) : FcIs σ pv (!ps.isEmpty) := by
  cases h with
  | nil => exact .nil
  | list e n hz =>
    have := FcIs.list e (by simp; omega)
    rwa [List.isEmpty_map] at this
def pushOne (x : Dm) : Dm := ⟨x.xs, x.hid, x.ss ++ [x.xs.length]⟩
def popOne (x : Dm) : Dm := ⟨x.xs ++ x.hid.drop (x.hid.length - (x.ss.getLast?.getD 0 - x.xs.length)), x.hid.take (x.hid.length - (x.ss.getLast?.getD 0 - x.xs.length)), x.ss.dropLast⟩
def onD (f : Dm → Dm) (ps : List Nat) (D : Nat → Dm) : Nat → Dm := fun i => if i ∈ ps then f (D i) else D i
theorem onD_nil {f : Dm → Dm} {D : Nat → Dm} : onD f [] D = D := by funext i; unfold onD; simp
theorem onD_in {f : Dm → Dm} {ps : List Nat} {D : Nat → Dm} {i : Nat} (h : i ∈ ps) : onD f ps D i = f (D i) := if_pos h
theorem onD_out {f : Dm → Dm} {ps : List Nat} {D : Nat → Dm} {i : Nat} (h : i ∉ ps) : onD f ps D i = D i := if_neg h
theorem onD_succ {f : Dm → Dm} {ps : List Nat} {D : Nat → Dm} {j : Nat} (hj : j < ps.length) (nod : ps.Nodup) : onD f (ps.take (j + 1)) D = setD (onD f (ps.take j) D) ps[j] (f (D ps[j])) := by
  funext i
  have tk : ps.take (j + 1) = ps.take j ++ [ps[j]] := List.take_succ_eq_append_getElem hj
  by_cases q : i = ps[j]
  · subst q; rw [setD_same, onD_in (by rw [tk]; exact List.mem_append_right _ (List.mem_singleton.mpr rfl))]
  · rw [setD_other q]
    by_cases q2 : i ∈ ps.take j
    · rw [onD_in q2, onD_in (by rw [tk]; exact List.mem_append_left _ q2)]
    · rw [onD_out q2, onD_out]
      rw [tk]
      intro q3
      rcases List.mem_append.mp q3 with q3 | q3
      · exact q2 q3
      · exact q (List.mem_singleton.mp q3)
theorem upd_setL' {x : Str} {u : Option AV} {v : AV} : upd (setL ℓ x u) x v = setL ℓ x (some v) := upd_setL
/-- for domain in pushdomains: domain.m() -/
theorem x_each (O : (BB w h0).Ok) {env : Env} {W : Wd} {D : Nat → Dm} {pv : AV} {ps : List Nat} {f : Dm → Dm} {nm : Str} {fa : Addr} {Q : AF → Loc → St → Prop} {p0 p1 p2 p3 p4 p5 p6 p7 p8 : Pos}
    (hh : A.handled = none) (hk : env.scope.kind = .function) (kd : env.kindOf "domain" = some .local) (kp' : env.kindOf "pushdomains" = some .local)
    (hline : (p4.endLine == p5.line) = true) (hint : interactive env = false) (hsw : swapsWith (.Call (.Attribute (.Name "domain" p3) nm p4) [] [] p5) none p6.line env = pure false)
    (sp : W.Sep) (ds : Doms σ W D) (pd : PdIs σ W pv ps) (nod : ps.Nodup) (hlt : ∀ i ∈ ps, i < W.n) (hl : ℓ "pushdomains" = some pv)
    (hm : ∀ i ∈ ps, ∀ (A' : Around) (pl : Sem Bool) σ' D' (Q : AV → List AV → St → Prop), Doms σ' W D' → Q (.ref fa) [.ref (W.d i)] σ' → Meth (BB w h0) A' (.ref (W.d i)) nm pl σ' Q) (hkee : ∀ A' σ', Kee (BB w h0) A' (.ref fa) σ')
    (hf : ∀ i ∈ ps, ∀ σ' D' (Q : AV → St → Prop), Doms σ' W D' → D' i = D i → (∀ σ₂, Kp W.dyn σ' σ₂ → Doms σ₂ W (setD D' i (f (D i))) → Q .none σ₂) → Callf (BB w h0) A (.ref fa) [.ref (W.d i)] σ' Q)
    (h : ∀ u σ', Kp W.dyn σ σ' → Doms σ' W (onD f ps D) → Q .next (setL ℓ "domain" u) σ') :
    Tx (BB w h0) A env (.If (.Name "pushdomains" p0) [.For (.Name "domain" p1) (.Name "pushdomains" p2) [.Expr (.Call (.Attribute (.Name "domain" p3) nm p4) [] [] p5) p6] [] p7] [] p8) ℓ σ Q := by
  refine x_if (t_val (e_local hl ?_ hk kp' rfl))
  cases pd with
  | nil =>
    refine tru_none ?_
    rw [if_neg Bool.false_ne_true]
    have := h (ℓ "domain") σ .refl (by rw [onD_nil]; exact ds)
    rw [setL_self] at this
    exact s_nil this
  | list e n hz =>
    refine tru_sq O IsSq.list e (le_line (by simp; omega)) ?_
    split
    · refine s_cons (x_for (e_local hl ?_ hk kp' rfl))
      refine ⟨_, _, _, fun j ℓ' σ' => ∃ u, ℓ' = setL ℓ "domain" u ∧ Kp W.dyn σ σ' ∧ Doms σ' W (onD f (ps.take j) D), it_list hh e, ⟨ℓ "domain", setL_self.symm, .refl, by rw [List.take_zero, onD_nil]; exact ds⟩, fun _ _ _ ⟨_, _, k, _⟩ => k.kept _ _ e n, ?_, ?_⟩
      · rintro j v ℓ' σ' hj hv ⟨u, rfl, kp, dm⟩
        have hj' : j < ps.length := by simpa using hj
        have hv' : v = .ref (W.d ps[j]) := by
          rw [List.getElem?_map, List.getElem?_eq_getElem hj'] at hv; cases hv; rfl
        subst hv'
        have hmem : ps[j] ∈ ps := List.getElem_mem hj'
        refine a_local ?_ hk kd
        rw [upd_setL]
        refine s_cons (x_expr (e_meth (e_local setL_same (fun pl => hm _ hmem _ pl σ' _ _ dm (es_nil ⟨hkee _ _, hf _ hmem σ' _ _ dm ?_ fun σ₂ kp2 dm2 => ?_⟩)) hk kd rfl) rfl rfl rfl hline) hint hsw)
        · exact onD_out (take_mem_nodup nod hj')
        · refine s_nil ⟨_, rfl, kp.trans kp2, ?_⟩
          rw [onD_succ hj' nod]; exact dm2
      · rintro ℓ' σ' ⟨u, rfl, kp, dm⟩
        rw [List.length_map, List.take_length] at dm
        exact s_nil (s_nil (h u σ' kp dm))
    · rename_i q
      have hps : ps = [] := by simpa using q
      have := h (ℓ "domain") σ .refl (by rw [hps, onD_nil]; exact ds)
      rw [setL_self] at this
      exact s_nil this
theorem x_push (O : (BB w h0).Ok) {env : Env} {W : Wd} {D : Nat → Dm} {pv : AV} {ps : List Nat} {Q : AF → Loc → St → Prop} {p0 p1 p2 p3 p4 p5 p6 p7 p8 : Pos}
    (lo : Lo 6 A) (hk : env.scope.kind = .function) (kd : env.kindOf "domain" = some .local) (kp' : env.kindOf "pushdomains" = some .local)
    (hline : (p4.endLine == p5.line) = true) (hint : interactive env = false) (hsw : swapsWith (.Call (.Attribute (.Name "domain" p3) "pushState" p4) [] [] p5) none p6.line env = pure false)
    (sp : W.Sep) (ds : Doms σ W D) (sm : Sm W D) (pd : PdIs σ W pv ps) (nod : ps.Nodup) (hlt : ∀ i ∈ ps, i < W.n) (hl : ℓ "pushdomains" = some pv)
    (h : ∀ u σ', Kp W.dyn σ σ' → Doms σ' W (onD pushOne ps D) → Q .next (setL ℓ "domain" u) σ') :
    Tx (BB w h0) A env (.If (.Name "pushdomains" p0) [.For (.Name "domain" p1) (.Name "pushdomains" p2) [.Expr (.Call (.Attribute (.Name "domain" p3) "pushState" p4) [] [] p5) p6] [] p7] [] p8) ℓ σ Q := by
  refine x_each O (fa := 286) lo.hh hk kd kp' hline hint hsw sp ds pd nod hlt hl (fun i hi A' pl σ' D' Q ds' q => m303 O (ds' i (hlt i hi)) (m303_pushState _) (t := .type "function") (ty286 _) (by decide) rfl q) (fun _ _ => kee_fn O rfl) (fun i hi σ' D' Q ds' e q => ?_) h
  have hi' := hlt i hi
  have di := ds' i hi'
  have s := sm i hi'
  refine push_spec O (lo.mono (by decide)) di (by rw [e]; simp; omega) (by rw [e]; simp; omega) (q _ (Kp.refl.put (.inl (W.dyn_t hi'))) ?_)
  refine ds'.set (y := pushOne (D i)) sp hi' (fun b o e g1 g2 g3 => by rw [put_other g3]; exact e) ?_
  have := di.putSts (ys := nv (D' i).ss ++ [.int (iv (D' i).xs).length]) (sp.ht i i hi' hi')
  have e1 : nv (pushOne (D i)).ss = nv (D' i).ss ++ [.int (iv (D' i).xs).length] := by rw [e]; simp [pushOne]
  unfold DomI
  rw [e1]
  rw [e] at this ⊢
  exact this
def PopOk (x : Dm) : Prop := ∃ ss n, x.ss = ss ++ [n] ∧ x.xs.length ≤ n ∧ n - x.xs.length ≤ x.hid.length
theorem x_pop (O : (BB w h0).Ok) {env : Env} {W : Wd} {D : Nat → Dm} {pv : AV} {ps : List Nat} {Q : AF → Loc → St → Prop} {p0 p1 p2 p3 p4 p5 p6 p7 p8 : Pos}
    (lo : Lo 6 A) (hk : env.scope.kind = .function) (kd : env.kindOf "domain" = some .local) (kp' : env.kindOf "pushdomains" = some .local)
    (hline : (p4.endLine == p5.line) = true) (hint : interactive env = false) (hsw : swapsWith (.Call (.Attribute (.Name "domain" p3) "popState" p4) [] [] p5) none p6.line env = pure false)
    (sp : W.Sep) (ds : Doms σ W D) (sm : Sm W D) (pd : PdIs σ W pv ps) (nod : ps.Nodup) (hlt : ∀ i ∈ ps, i < W.n) (hl : ℓ "pushdomains" = some pv) (hpo : ∀ i ∈ ps, PopOk (D i))
    (h : ∀ u σ', Kp W.dyn σ σ' → Doms σ' W (onD popOne ps D) → Q .next (setL ℓ "domain" u) σ') :
    Tx (BB w h0) A env (.If (.Name "pushdomains" p0) [.For (.Name "domain" p1) (.Name "pushdomains" p2) [.Expr (.Call (.Attribute (.Name "domain" p3) "popState" p4) [] [] p5) p6] [] p7] [] p8) ℓ σ Q := by
  refine x_each O (fa := 293) lo.hh hk kd kp' hline hint hsw sp ds pd nod hlt hl (fun i hi A' pl σ' D' Q ds' q => m303 O (ds' i (hlt i hi)) (m303_popState _) (t := .type "function") (ty293 _) (by decide) rfl q) (fun _ _ => kee_fn O rfl) (fun i hi σ' D' Q ds' e q => ?_) h
  have hi' := hlt i hi
  have di := ds' i hi'
  have s := sm i hi'
  obtain ⟨ss, n, p1, p2, p3⟩ := hpo i hi
  rw [e] at di
  unfold DomI at di
  have e0 : nv (D i).ss = nv ss ++ [.int ((iv (D i).xs).length + (n - (D i).xs.length) : Nat)] := by
    rw [p1]; simp; omega
  rw [e0] at di
  have hpop : popOne (D i) = ⟨(D i).xs ++ (D i).hid.drop ((D i).hid.length - (n - (D i).xs.length)), (D i).hid.take ((D i).hid.length - (n - (D i).xs.length)), ss⟩ := by
    unfold popOne; rw [p1]; simp
  have hss : ss.length ≤ 100 := by have := s.2; rw [p1] at this; simp at this; omega
  refine pop_spec O (lo.mono (by decide)) (sp.ht i i hi' hi') di (by simpa using p3) (by simp; omega) (by simp; omega) (by simp; omega) (fun hj => ?_) (fun hj => ?_)
  · refine q _ (Kp.refl.put (.inl (W.dyn_t hi'))) (ds'.set sp hi' (fun b o e g1 g2 g3 => by rw [put_other g3]; exact e) ?_)
    have := di.putSts (ys := nv ss) (sp.ht i i hi' hi')
    rw [hpop, hj]
    unfold DomI
    simpa using this
  · refine q _ (((Kp.refl.put (.inl (W.dyn_t hi'))).put (.inl (W.dyn_d hi'))).put (.inl (W.dyn_h hi'))) (ds'.set sp hi' (fun b o e g1 g2 g3 => by rw [put_other g2, put_other g1, put_other g3]; exact e) ?_)
    have := ((di.putSts (ys := nv ss) (sp.ht i i hi' hi')).putObj (ys := iv ((D i).xs ++ (D i).hid.drop ((D i).hid.length - (n - (D i).xs.length))))).putHid (ys := iv ((D i).hid.take ((D i).hid.length - (n - (D i).xs.length)))) (sp.ht i i hi' hi')
    rw [hpop]
    unfold DomI
    have e1 : iv ((D i).xs ++ (D i).hid.drop ((D i).hid.length - (n - (D i).xs.length))) = iv (D i).xs ++ (iv (D i).hid).drop ((iv (D i).hid).length - (n - (D i).xs.length)) := by simp [List.map_drop]
    have e2 : iv ((D i).hid.take ((D i).hid.length - (n - (D i).xs.length))) = (iv (D i).hid).take ((iv (D i).hid).length - (n - (D i).xs.length)) := by simp [List.map_take]
    rw [← e1, ← e2]
    exact this
end Mine
set_option maxHeartbeats 200000
set_option maxHeartbeats 4000000
namespace Mine
variable {w : World} {h0 : Heap} {A : Around} {σ σ' σ'' : St} {ℓ ℓ' : Loc}
structure ChkP (W : Wd) (cons : List CE) (a : Asg) (es : List Nat) (D D' : Nat → Dm) : Prop where
  hid : ∀ i, i < W.n → Hid (fun v => look a i = none ∧ ∃ e ∈ es, ∃ h : e < cons.length, cons[e].C.kind ≠ 2 ∧ ∃ f, (i, f) ∈ cons[e].C.ks ∧ psum cons[e].C.ks a + v * f > cons[e].C.b) (D i) (D' i)
  same : ∀ i, i < W.n → look a i ≠ none → D' i = D i
def ChkYes (cons : List CE) (a : Asg) (es : List Nat) : Prop := ∀ e ∈ es, ∀ h : e < cons.length, (∀ i ∈ cons[e].C.vs, look a i ≠ none) → cons[e].C.holds (psum cons[e].C.ks a)
def ChkNo (W : Wd) (cons : List CE) (a : Asg) (es : List Nat) (D' : Nat → Dm) : Prop := ∃ e ∈ es, ∃ h : e < cons.length, (cons[e].C.kind ≠ 2 ∧ psum cons[e].C.ks a > cons[e].C.b) ∨ (∃ i, i ∈ cons[e].C.vs ∧ i < W.n ∧ look a i = none ∧ (D' i).xs = []) ∨ ((∀ p ∈ cons[e].C.ks, look a p.1 ≠ none) ∧ ¬ cons[e].C.holds (psum cons[e].C.ks a))
theorem ChkP.nil {W : Wd} {cons : List CE} {a : Asg} {D : Nat → Dm} : ChkP W cons a [] D D := ⟨fun _ _ => .refl, fun _ _ _ => rfl⟩
theorem ChkP.step {W : Wd} {cons : List CE} {a : Asg} {es : List Nat} {e : Nat} {D D' D'' : Nat → Dm} {r : Bool} (x : ChkP W cons a es D D') (h : e < cons.length) (y : CallPost W cons[e].C a D' D'' r) : ChkP W cons a (es ++ [e]) D D'' := by
  refine ⟨fun i hi => ((x.hid i hi).mono ?_).trans ((y.hid i hi).mono ?_), fun i hi hl => (y.same i hi hl).trans (x.same i hi hl)⟩
  · rintro v ⟨h1, e', h2, h3⟩
    exact ⟨h1, e', List.mem_append_left _ h2, h3⟩
  · rintro v ⟨h1, h2, h3⟩
    exact ⟨h2, e, List.mem_append_right _ (List.mem_singleton.mpr rfl), h, h1, h3⟩
def set2 (ℓ : Loc) (u1 u2 : Option AV) : Loc := setL (setL ℓ "constraint" u1) "variables" u2
theorem set2_self : set2 ℓ (ℓ "constraint") (ℓ "variables") = ℓ := by
  funext y; unfold set2 setL; split
  · simp_all
  · split <;> simp_all
theorem set2_other {x : Str} {u1 u2 : Option AV} (h1 : x ≠ "constraint") (h2 : x ≠ "variables") : set2 ℓ u1 u2 x = ℓ x := by
  unfold set2; rw [setL_other h2, setL_other h1]
theorem set2_upd {u1 u2 : Option AV} {v1 v2 : AV} : upd (upd (set2 ℓ u1 u2) "constraint" v1) "variables" v2 = set2 ℓ (some v1) (some v2) := by
  funext y; unfold set2 upd setL
  by_cases h : y = "variables"
  · simp [h]
  · by_cases h2 : y = "constraint"
    · simp [h, h2]
    · simp [h, h2]
theorem set2_c {u1 u2 : Option AV} : set2 ℓ u1 u2 "constraint" = u1 := by unfold set2; rw [setL_other (by decide), setL_same]
theorem set2_v {u1 u2 : Option AV} : set2 ℓ u1 u2 "variables" = u2 := by unfold set2; exact setL_same
theorem row_len {W : Wd} {cons : List CE} {dd vd av : Addr} {nd nvd : Nat} {vv : Nat → Addr} {R : Nat → List (Addr × Nat)} (N : Net σ W cons dd vd av nd nvd vv R) {k : Nat} (hk : k < W.n) : (R k).length ≤ 100 := by
  have h1 : ((R k).map (·.2)).length ≤ (List.range cons.length).length := by
    refine List.Nodup.length_le_of_subset (N.rows.nod k hk) fun e he => ?_
    obtain ⟨h1, _⟩ := (N.rows.mem k hk e).mp he
    exact List.mem_range.mpr h1
  have := N.hc
  simp at h1; omega
/-- the constraints of a name asked -/
theorem x_check (O : (BB w h0).Ok) {env : Env} {W : Wd} {D : Nat → Dm} {cons : List CE} {a : Asg} {k : Nat} {dd vd av ad : Addr} {nd nvd na : Nat} {vv : Nat → Addr} {R : Nat → List (Addr × Nat)} {pv : AV} {fb : Bool} {els : List Stmt} {Q : AF → Loc → St → Prop} {p1 p2 p3 p4 p5 p6 p7 p8 p9 pa pb pc pd pe pf pg : Pos} {kk : Nat}
    (lo : Lo 10 A) (hk : env.scope.kind = .function) (kc : env.kindOf "constraint" = some .local) (kv : env.kindOf "variables" = some .local) (kp' : env.kindOf "pushdomains" = some .local)
    (sp : W.Sep) (ds : Doms σ W D) (sm : Sm W D) (N : Net σ W cons dd vd av nd nvd vv R) (hkn : k < W.n) (ea : σ.m ad = some (.dict (esOf a) na))
    (n1 : NameAt env ℓ σ "vconstraints" (.ref vd)) (n2 : NameAt env ℓ σ "variable" (.int (k : Nat))) (n3 : NameAt env ℓ σ "domains" (.ref dd)) (n4 : NameAt env ℓ σ "assignments" (.ref ad)) (n5 : ℓ "pushdomains" = some pv) (fc : FcIs σ pv fb) (nfc : ∀ l, pv = .ref l → ¬ W.dyn l)
    (hno : ∀ u1 u2 σ' D', Kp W.dyn σ σ' → Doms σ' W D' → ChkP W cons a ((R k).map (·.2)) D D' → (fb = false → D' = D) → ChkNo W cons a ((R k).map (·.2)) D' → Q .next (set2 ℓ u1 u2) σ')
    (hyes : ∀ u1 u2 σ' D', Kp W.dyn σ σ' → Doms σ' W D' → ChkP W cons a ((R k).map (·.2)) D D' → (fb = false → D' = D) → (∀ i, i < W.n → (D i).xs ≠ [] → (D' i).xs ≠ []) → ChkYes cons a ((R k).map (·.2)) → Ts (BB w h0) A env els (set2 ℓ u1 u2) σ' Q) :
    Tx (BB w h0) A env (.For (.Tuple [.Name "constraint" p1, .Name "variables" p2] kk p3) (.Subscript (.Name "vconstraints" p4) (.Name "variable" p5) p6)
      [.If (.UnaryOp .Not (.Call (.Name "constraint" p7) [.Name "variables" p8, .Name "domains" p9, .Name "assignments" pa, .Name "pushdomains" pb] [] pc) pd) [.Break pe] [] pf] els pg) ℓ σ Q := by
  have ncell : ∀ c u, σ.m c = some (.cell u) → ¬ W.dyn c := fun c u e => ds.not_dyn e nofun nofun
  refine x_for (e_sub (n1.te (n2.te ⟨gp_of O N.evd rfl, gi_dict N.evd (dget_esV hkn) ?_⟩ hk) hk))
  have er := N.rows.at' k hkn
  have nvk := N.nvv k hkn
  have nad := ds.not_dyn ea nofun nofun
  have ndd := ds.not_dyn N.edd nofun nofun
  refine ⟨_, _, _, fun j ℓ' σ' => ∃ u1 u2 D', ℓ' = set2 ℓ u1 u2 ∧ Kp W.dyn σ σ' ∧ Doms σ' W D' ∧ ChkP W cons a (((R k).map (·.2)).take j) D D' ∧ (fb = false → D' = D) ∧ (∀ i, i < W.n → (D i).xs ≠ [] → (D' i).xs ≠ []) ∧ ChkYes cons a (((R k).map (·.2)).take j), it_list lo.hh er, ⟨_, _, D, set2_self.symm, .refl, ds, by rw [List.take_zero]; exact .nil, fun _ => rfl, fun _ _ q => q, by rw [List.take_zero]; intro e he; cases he⟩, fun _ _ _ ⟨_, _, _, _, q, _⟩ => q.kept _ _ er nvk, ?_, ?_⟩
  · rintro j v ℓ' σ' hj hv ⟨u1, u2, D', rfl, kp, dm, chk, hfb, nz, yes⟩
    have hj' : j < (R k).length := by simpa using hj
    have hv' : v = .ref (R k)[j].1 := by rw [List.getElem?_map, List.getElem?_eq_getElem hj'] at hv; cases hv; rfl
    subst hv'
    have hmem : (R k)[j] ∈ R k := List.getElem_mem hj'
    obtain ⟨hel, et⟩ := N.rows.tup k hkn _ hmem
    generalize hpe : (R k)[j] = pe at hmem hel et
    obtain ⟨t, e⟩ := pe
    dsimp only at hel et
    have tk : ((R k).map (·.2)).take (j + 1) = ((R k).map (·.2)).take j ++ [e] := by
      rw [List.take_succ_eq_append_getElem (by simpa using hj'), List.getElem_map, hpe]
    have esub : e ∈ (R k).map (·.2) := List.mem_map.mpr ⟨_, hmem, rfl⟩
    have hce := List.getElem_mem hel
    have o := N.ok _ hce
    obtain ⟨g1, g2⟩ := N.hvl _ hce
    have nt := ds.not_dyn et nofun nofun
    refine a_tuple lo.hh (kp.kept _ _ et nt) rfl (a_local (a_local (ta_nil ?_) hk kv) hk kc)
    rw [set2_upd]
    have keepN : ∀ {x : Str} {v : AV} {c1 c2 : Option AV}, NameAt env ℓ σ x v → x ≠ "constraint" → x ≠ "variables" → NameAt env (set2 ℓ c1 c2) σ' x v := fun q h1 h2 => q.to (fun c u e => kp.kept _ _ e (ncell c u e)) (set2_other h1 h2)
    have o1 := kp.kept _ _ o.at'.obj (ds.not_dyn o.at'.obj nofun nofun)
    have ca : ConAt σ' cons[e].C cons[e].c cons[e].cx cons[e].ml := ⟨o1, kp.kept _ _ o.at'.ns (ds.not_dyn o.at'.ns nofun nofun), fun q => kp.kept _ _ (o.at'.ml q) (o.ml q)⟩
    refine s_cons (x_if (t_not (t_val (e_call (e_local set2_c (es_cons (e_local set2_v (es_cons ((keepN n3 (by decide) (by decide)).te (es_cons ((keepN n4 (by decide) (by decide)).te (es_cons (e_local ((set2_other (by decide) (by decide)).trans n5) (es_nil ⟨kee_inst o1, ?_⟩) hk kp' rfl)) hk)) hk)) hk kv rfl)) hk kc rfl)))))
    refine (con_call O (W := W) (D := D') (a := a) (C := cons[e].C) (cx := cons[e].cx) (ml := cons[e].ml) (fb := fb) (lo.mono (by decide)) o.good sp dm (Hid.sm chk.hid sm) o.lt ca (kp.kept _ _ g1 g2) g2 (kp.kept _ _ N.edd ndd) (kp.kept _ _ ea nad) (fc.keep kp nfc) ?_).callf
    intro r σ₂ D₂ kp2 dm2 post hfb2
    refine tru_bool ?_
    have chk2 : ChkP W cons a (((R k).map (·.2)).take (j + 1)) D D₂ := by rw [tk]; exact chk.step hel post
    have hfb' : fb = false → D₂ = D := fun q => (hfb2 q).trans (hfb q)
    cases r with
    | false =>
      rw [if_pos (show (!false) = true from rfl)]
      refine s_cons (x_brk ?_)
      refine hno _ _ σ₂ D₂ (kp.trans kp2) dm2 ⟨fun i hi => (chk2.hid i hi).mono ?_, chk2.same⟩ hfb' ⟨e, esub, hel, ?_⟩
      · rintro v ⟨h1, e', h2, h3⟩
        exact ⟨h1, e', List.take_subset _ _ h2, h3⟩
      · exact post.no rfl
    | true =>
      rw [if_neg (by decide)]
      refine s_nil (s_nil ⟨_, _, D₂, rfl, kp.trans kp2, dm2, chk2, hfb', fun i hi q => post.nz rfl i hi (nz i hi q), ?_⟩)
      rw [tk]
      intro e' he' hl' hall
      rcases List.mem_append.mp he' with q | q
      · exact yes e' q hl' hall
      · obtain rfl := List.mem_singleton.mp q
        exact post.yes rfl hall
  · rintro ℓ' σ' ⟨u1, u2, D', rfl, kp, dm, chk, hfb, nz, yes⟩
    have tk : ((R k).map (·.2)).take ((R k).map fun p => AV.ref p.1).length = (R k).map (·.2) := by
      rw [List.take_of_length_le]; simp
    rw [tk] at chk yes
    exact hyes _ _ σ' D' kp dm chk hfb nz yes
end Mine
set_option maxHeartbeats 200000
set_option linter.unusedSimpArgs false
set_option maxHeartbeats 4000000
namespace Mine
-- plain law of the search
abbrev Way := Nat → Int
def wsum (ks : List (Nat × Int)) (f : Way) : Int := (ks.map fun p => f p.1 * p.2).sum
def possum (ks : List (Nat × Int)) (f : Way) : Int := (ks.map fun p => max 0 (f p.1 * p.2)).sum
def SafeC (C : Con) (f : Way) : Prop := C.holds (wsum C.ks f) ∧ (C.kind = 2 ∨ possum C.ks f ≤ C.b)
def Safe (cons : List CE) (f : Way) : Prop := ∀ e ∈ cons, SafeC e.C f
def Agr (a : Asg) (f : Way) : Prop := ∀ i v, look a i = some v → f i = v
theorem part_le {a : Asg} {f : Way} (h : Agr a f) (p : Nat × Int) : part a p ≤ max 0 (f p.1 * p.2) := by
  unfold part
  cases q : look a p.1 with
  | none => exact Int.le_max_left ..
  | some v => dsimp only; rw [← h _ _ q]; exact Int.le_max_right ..
theorem psum_cons {a : Asg} {p : Nat × Int} {ks : List (Nat × Int)} : psum (p :: ks) a = part a p + psum ks a := by unfold psum; simp
theorem possum_cons {f : Way} {p : Nat × Int} {ks : List (Nat × Int)} : possum (p :: ks) f = max 0 (f p.1 * p.2) + possum ks f := by unfold possum; simp
theorem wsum_cons {f : Way} {p : Nat × Int} {ks : List (Nat × Int)} : wsum (p :: ks) f = f p.1 * p.2 + wsum ks f := by unfold wsum; simp
theorem psum_le_pos {a : Asg} {f : Way} (h : Agr a f) : ∀ ks, psum ks a ≤ possum ks f
  | [] => by simp [psum, possum]
  | p :: ks => by
    rw [psum_cons, possum_cons]
    have := psum_le_pos h ks
    have := part_le h p
    omega
theorem psum_add_le {a : Asg} {f : Way} (h : Agr a f) {i : Nat} {c : Int} (hi : look a i = none) : ∀ ks, (i, c) ∈ ks → psum ks a + f i * c ≤ possum ks f
  | [], q => by cases q
  | p :: ks, q => by
    rw [psum_cons, possum_cons]
    rcases List.mem_cons.mp q with q | q
    · subst q
      have e : part a (i, c) = 0 := by unfold part; rw [hi]
      have := psum_le_pos h ks
      have : f i * c ≤ max 0 (f (i, c).1 * (i, c).2) := Int.le_max_right ..
      omega
    · have := psum_add_le h hi ks q
      have := part_le h p
      omega
theorem psum_all {a : Asg} {f : Way} (h : Agr a f) : ∀ ks, (∀ p ∈ ks, look a p.1 ≠ none) → psum ks a = wsum ks f
  | [], _ => by simp [psum, wsum]
  | p :: ks, q => by
    rw [psum_cons, wsum_cons, psum_all h ks fun r hr => q r (List.mem_cons_of_mem _ hr)]
    obtain ⟨v, hv⟩ := Option.ne_none_iff_exists'.mp (q p (List.mem_cons_self ..))
    unfold part; rw [hv]; dsimp only; rw [h _ _ hv]
theorem psum_congr {a a' : Asg} : ∀ ks : List (Nat × Int), (∀ p ∈ ks, look a p.1 = look a' p.1) → psum ks a = psum ks a'
  | [], _ => by simp [psum]
  | p :: ks, q => by
    rw [psum_cons, psum_cons, psum_congr ks fun r hr => q r (List.mem_cons_of_mem _ hr)]
    unfold part; rw [q p (List.mem_cons_self ..)]
theorem ks_in {C : Con} {p : Nat × Int} (h : p ∈ C.ks) : p.1 ∈ C.vs := by
  unfold Con.ks at h
  split at h
  · obtain ⟨i, hi, rfl⟩ := List.mem_map.mp h; exact hi
  · exact (List.of_mem_zip (a := p.1) (b := p.2) h).1
theorem look_snoc {a : Asg} {k : Nat} {v : Int} (h : look a k = none) (i : Nat) : look (a ++ [(k, v)]) i = if i = k then some v else look a i := by
  unfold look at h ⊢
  rw [List.find?_append]
  by_cases q : i = k
  · subst q
    rw [Option.map_eq_none_iff] at h
    rw [h, if_pos rfl]; simp
  · rw [if_neg q]
    have : List.find? (fun p : Nat × Int => decide (p.1 = i)) [(k, v)] = none := by
      rw [List.find?_cons, List.find?_nil]
      have : decide ((k, v).1 = i) = false := by simpa using fun e => q e.symm
      rw [this]
    rw [this, Option.or_none]
theorem look_mem {a : Asg} {i : Nat} {v : Int} (h : look a i = some v) : (i, v) ∈ a := by
  unfold look at h
  obtain ⟨p, h1, h2⟩ := Option.map_eq_some_iff.mp h
  have h3 := List.mem_of_find?_eq_some h1
  have h4 := List.find?_some h1
  have : p.1 = i := by simpa using h4
  obtain ⟨x, y⟩ := p
  dsimp only at this h2
  subst this h2
  exact h3
theorem look_some {a : Asg} {i : Nat} : look a i ≠ none ↔ i ∈ a.map (·.1) := by
  constructor
  · intro h
    obtain ⟨v, hv⟩ := Option.ne_none_iff_exists'.mp h
    exact List.mem_map.mpr ⟨_, look_mem hv, rfl⟩
  · intro h q
    obtain ⟨p, hp, rfl⟩ := List.mem_map.mp h
    unfold look at q
    rw [Option.map_eq_none_iff, List.find?_eq_none] at q
    exact q p hp (by simp)
theorem look_nodup {a : Asg} (h : (a.map (·.1)).Nodup) {p : Nat × Int} (hp : p ∈ a) : look a p.1 = some p.2 := by
  obtain ⟨v, hv⟩ := Option.ne_none_iff_exists'.mp (look_some.mpr (List.mem_map.mpr ⟨p, hp, rfl⟩))
  have hm := look_mem hv
  rw [hv]
  obtain ⟨i, hi, e1⟩ := List.getElem_of_mem hp
  obtain ⟨j, hj, e2⟩ := List.getElem_of_mem hm
  have : i = j := by
    refine (List.getElem_inj (h₀ := by simpa using hi) (h₁ := by simpa using hj) h).mp ?_
    rw [List.getElem_map, List.getElem_map, e1, e2]
  subst this
  rw [e1] at e2; rw [e2]
variable {W : Wd} {cons : List CE} {L : Nat → List Int} {D D' D1 D2 : Nat → Dm} {a : Asg} {f : Way} {es : List Nat} {k : Nat} {v : Int} {ps : List Nat}
theorem ChkP.safe (x : ChkP W cons a es D D') (hs : Safe cons f) (ha : Agr a f) (h : ∀ i, i < W.n → look a i = none → f i ∈ (D i).xs) : ∀ i, i < W.n → look a i = none → f i ∈ (D' i).xs := fun i hi hl => by
  obtain ⟨_, hd, e1, e2, e3⟩ := x.hid i hi
  have := (e2.mem_iff (a := f i)).mpr (h i hi hl)
  rcases List.mem_append.mp this with q | q
  · exact q
  · obtain ⟨_, e, he, hel, hk, c, hc, hgt⟩ := e3 _ q
    rcases (hs _ (List.getElem_mem hel)).2 with r | r
    · exact absurd r hk
    · have := psum_add_le ha hl _ hc
      omega
theorem ChkNo.unsafe (x : ChkNo W cons a es D') (hs : Safe cons f) (ha : Agr a f) (h : ∀ i, i < W.n → look a i = none → f i ∈ (D' i).xs) : False := by
  obtain ⟨e, he, hel, h1 | ⟨i, h1, h2, h3, h4⟩ | ⟨h1, h2⟩⟩ := x
  · rcases (hs _ (List.getElem_mem hel)).2 with r | r
    · exact h1.1 r
    · have := psum_le_pos ha cons[e].C.ks
      omega
  · have := h i h2 h3
    rw [h4] at this; cases this
  · rw [psum_all ha _ h1] at h2
    exact h2 (hs _ (List.getElem_mem hel)).1
/-- a node of the search -/
structure Node (W : Wd) (cons : List CE) (L : Nat → List Int) (D : Nat → Dm) (a : Asg) : Prop where
  nod : (a.map (·.1)).Nodup
  lt : ∀ p ∈ a, p.1 < W.n
  inL : ∀ p ∈ a, p.2 ∈ L p.1
  yes : ∀ e ∈ cons, e.C.vs.length ≠ 1 → (∀ i ∈ e.C.vs, look a i ≠ none) → e.C.holds (psum e.C.ks a)
  xs : ∀ i, i < W.n → ∀ v ∈ (D i).xs, v ∈ L i
  xnod : ∀ i, i < W.n → (D i).xs.Nodup
def Unary (cons : List CE) (L : Nat → List Int) : Prop := ∀ e ∈ cons, ∀ k, e.C.vs = [k] → ∀ v ∈ L k, e.C.holds (psum e.C.ks [(k, v)])
/-- a way told -/
structure Sol (W : Wd) (cons : List CE) (L : Nat → List Int) (t : Asg) : Prop where
  nod : (t.map (·.1)).Nodup
  all : ∀ i, i ∈ t.map (·.1) ↔ i < W.n
  inL : ∀ p ∈ t, p.2 ∈ L p.1
  yes : ∀ e ∈ cons, e.C.holds (psum e.C.ks t)
theorem Node.sol (N : Node W cons L D a) (u : Unary cons L) (ne : ∀ e ∈ cons, e.C.vs ≠ [] ∧ ∀ i ∈ e.C.vs, i < W.n) (all : ∀ i, i < W.n → look a i ≠ none) : Sol W cons L a := by
  refine ⟨N.nod, fun i => ⟨fun h => ?_, fun h => look_some.mp (all i h)⟩, N.inL, fun e he => ?_⟩
  · obtain ⟨p, hp, rfl⟩ := List.mem_map.mp h; exact N.lt p hp
  · obtain ⟨n1, n2⟩ := ne e he
    by_cases q : e.C.vs.length = 1
    · obtain ⟨k, hk⟩ := List.length_eq_one_iff.mp q
      obtain ⟨v, hv⟩ := Option.ne_none_iff_exists'.mp (all k (n2 k (by rw [hk]; simp)))
      have := u e he k hk v (N.inL _ (look_mem hv))
      rwa [psum_congr e.C.ks (a' := a) fun p hp => ?_] at this
      have := ks_in hp
      rw [hk] at this
      rw [List.mem_singleton.mp this, hv]
      simp [look]
    · exact N.yes e he q fun i hi => all i (n2 i hi)
/-- the same Domains, up to the order of what no name has taken -/
def SameD (W : Wd) (a : Asg) (D D' : Nat → Dm) : Prop := ∀ i, i < W.n → (look a i ≠ none → D' i = D i) ∧ (D' i).hid = (D i).hid ∧ (D' i).ss = (D i).ss ∧ (D' i).xs.Perm (D i).xs
theorem SameD.refl : SameD W a D D := fun _ _ => ⟨fun _ => rfl, rfl, rfl, .refl _⟩
theorem SameD.trans (x : SameD W a D D1) (y : SameD W a D1 D2) : SameD W a D D2 := fun i hi => by
  obtain ⟨a1, a2, a3, a4⟩ := x i hi
  obtain ⟨b1, b2, b3, b4⟩ := y i hi
  exact ⟨fun q => (b1 q).trans (a1 q), b2.trans a2, b3.trans a3, b4.trans a4⟩
theorem Node.same (N : Node W cons L D a) (s : SameD W a D D') : Node W cons L D' a :=
  ⟨N.nod, N.lt, N.inL, N.yes, fun i hi v hv => N.xs i hi v ((s i hi).2.2.2.mem_iff.mp hv), fun i hi => (s i hi).2.2.2.nodup_iff.mpr (N.xnod i hi)⟩
def Sz (W : Wd) (D : Nat → Dm) (a : Asg) : Prop := W.n ≤ 60 ∧ ∀ i, i < W.n → (D i).xs.length + (D i).hid.length ≤ 4 ∧ (D i).ss.length ≤ a.length
theorem Node.len (N : Node W cons L D a) : a.length ≤ W.n := by
  have := List.Nodup.length_le_of_subset N.nod (l₂ := List.range W.n) fun i hi => by
    obtain ⟨p, hp, rfl⟩ := List.mem_map.mp hi; exact List.mem_range.mpr (N.lt p hp)
  simpa using this
theorem Sz.sm (s : Sz W D a) (N : Node W cons L D a) : Sm W D := fun i hi => by
  have := N.len; have := s.1; have := s.2 i hi; omega
theorem Sz.same (s : Sz W D a) (x : SameD W a D D') : Sz W D' a := ⟨s.1, fun i hi => by
  obtain ⟨_, b, c, d⟩ := x i hi
  rw [b, c, d.length_eq]; exact s.2 i hi⟩
/-- what is looked at ahead -/
structure PsOk (W : Wd) (a : Asg) (k : Nat) (ps : List Nat) : Prop where
  nod : ps.Nodup
  lt : ∀ i ∈ ps, i < W.n
  out : ∀ i ∈ ps, look a i = none ∧ i ≠ k
  all : ps = [] ∨ ∀ i, i < W.n → look a i = none → i ≠ k → i ∈ ps
theorem onD_xs {i : Nat} : (onD pushOne ps D i).xs = (D i).xs := by unfold onD; split <;> rfl
/-- one step down -/
theorem Node.down (N : Node W cons L D a) (hk : look a k = none) (hkn : k < W.n) (hv : v ∈ (D k).xs) (chk : ChkP W cons (a ++ [(k, v)]) es (onD pushOne ps D) D1) (yes : ChkYes cons (a ++ [(k, v)]) es) (row : ∀ e (h : e < cons.length), k ∈ cons[e].C.vs → cons[e].C.vs.length ≠ 1 → e ∈ es) : Node W cons L D1 (a ++ [(k, v)]) := by
  refine ⟨?_, fun p hp => ?_, fun p hp => ?_, fun e he h1 h2 => ?_, fun i hi u hu => ?_, fun i hi => ?_⟩
  · rw [List.map_append, List.nodup_append]
    refine ⟨N.nod, by simp, fun x hx y hy e => ?_⟩
    simp at hy; subst hy; subst e
    exact look_some.mpr hx hk
  · rcases List.mem_append.mp hp with q | q
    · exact N.lt p q
    · obtain rfl := List.mem_singleton.mp q; exact hkn
  · rcases List.mem_append.mp hp with q | q
    · exact N.inL p q
    · obtain rfl := List.mem_singleton.mp q; exact N.xs k hkn v hv
  · obtain ⟨j, hj, rfl⟩ := List.getElem_of_mem he
    by_cases q : k ∈ cons[j].C.vs
    · exact yes j (row j hj q h1) hj h2
    · have h3 : ∀ i ∈ cons[j].C.vs, look (a ++ [(k, v)]) i = look a i := fun i hi => by
        rw [look_snoc hk, if_neg (by rintro rfl; exact q hi)]
      rw [psum_congr _ fun p hp => h3 p.1 (ks_in hp)]
      exact N.yes _ he h1 fun i hi => by rw [← h3 i hi]; exact h2 i hi
  · obtain ⟨_, h, e1, e2, e3⟩ := chk.hid i hi
    refine N.xs i hi u ?_
    have := e2.mem_iff.mp (List.mem_append_left h hu)
    rwa [onD_xs] at this
  · obtain ⟨_, h, e1, e2, e3⟩ := chk.hid i hi
    have := e2.nodup_iff.mpr (by rw [onD_xs]; exact N.xnod i hi)
    exact (List.nodup_append.mp this).1
theorem Sz.push (s : Sz W D a) (p : PsOk W a k ps) : Sz W (onD pushOne ps D) (a ++ [(k, v)]) := ⟨s.1, fun i hi => by
  have := s.2 i hi
  unfold onD
  split
  · simp [pushOne]; omega
  · simp; omega⟩
theorem Sz.chk {a' : Asg} (s : Sz W D a') (chk : ChkP W cons a' es D D1) : Sz W D1 a' := ⟨s.1, fun i hi => by
  rw [(chk.hid i hi).len, (chk.hid i hi).ss]; exact s.2 i hi⟩
/-- one step back up -/
theorem back (hk : look a k = none) (p : PsOk W a k ps) (chk : ChkP W cons (a ++ [(k, v)]) es (onD pushOne ps D) D1) (hfb : ps = [] → D1 = onD pushOne ps D) (same : SameD W (a ++ [(k, v)]) D1 D2) : (∀ i ∈ ps, PopOk (D2 i)) ∧ SameD W a D (onD popOne ps D2) ∧ (k < W.n → onD popOne ps D2 k = D k) := by
  have key : ∀ i ∈ ps, ∃ h, (D2 i).hid = (D i).hid ++ h ∧ ((D2 i).xs ++ h).Perm (D i).xs ∧ (D2 i).ss = (D i).ss ++ [(D i).xs.length] := fun i hi => by
    obtain ⟨_, b2, b3, b4⟩ := same i (p.lt i hi)
    obtain ⟨e0, h, e1, e2, e3⟩ := chk.hid i (p.lt i hi)
    rw [onD_in hi] at e0 e1 e2
    exact ⟨h, b2.trans e1, (b4.append_right h).trans e2, b3.trans e0⟩
  have ok : ∀ i ∈ ps, PopOk (D2 i) := fun i hi => by
    obtain ⟨h, e1, e2, e3⟩ := key i hi
    have := e2.length_eq
    rw [List.length_append] at this
    refine ⟨_, _, e3, by omega, ?_⟩
    rw [e1, List.length_append]; omega
  have out : ∀ i, i < W.n → i ∉ ps → (look a i ≠ none ∨ i = k ∨ ps = []) → ((look a i ≠ none ∨ i = k) → D2 i = D i) ∧ (D2 i).hid = (D i).hid ∧ (D2 i).ss = (D i).ss ∧ (D2 i).xs.Perm (D i).xs := fun i hi ho hc => by
    have ea : look a i ≠ none ∨ i = k → look (a ++ [(k, v)]) i ≠ none := fun q => by
      rw [look_snoc hk]
      split
      · exact nofun
      · rename_i h1
        rcases q with q | q
        · exact q
        · exact absurd q h1
    have eq : look a i ≠ none ∨ i = k → D2 i = D i := fun q => by
      rw [(same i hi).1 (ea q), chk.same i hi (ea q), onD_out ho]
    refine ⟨eq, ?_⟩
    by_cases q : look a i ≠ none ∨ i = k
    · rw [eq q]; exact ⟨rfl, rfl, .refl _⟩
    · have hps : ps = [] := by
        rcases hc with h1 | h1 | h1
        · exact absurd (.inl h1) q
        · exact absurd (.inr h1) q
        · exact h1
      have e1 := hfb hps
      rw [hps, onD_nil] at e1
      obtain ⟨_, b2, b3, b4⟩ := same i hi
      rw [e1] at b2 b3 b4
      exact ⟨b2, b3, b4⟩
  have cls : ∀ i, i < W.n → i ∉ ps → (look a i ≠ none ∨ i = k ∨ ps = []) := fun i hi ho => by
    by_cases q : look a i = none
    · by_cases q2 : i = k
      · exact .inr (.inl q2)
      · rcases p.all with r | r
        · exact .inr (.inr r)
        · exact absurd (r i hi q q2) ho
    · exact .inl q
  refine ⟨ok, fun i hi => ?_, fun hkn => ?_⟩
  · by_cases q : i ∈ ps
    · obtain ⟨h, e1, e2, e3⟩ := key i q
      have hl := e2.length_eq
      rw [List.length_append] at hl
      have ej : (D i).xs.length - (D2 i).xs.length = h.length := by omega
      rw [onD_in q]
      have hp : popOne (D2 i) = ⟨(D2 i).xs ++ h, (D i).hid, (D i).ss⟩ := by
        unfold popOne
        rw [e3, e1]
        have e4 : ((D i).hid ++ h).length - (((D i).ss ++ [(D i).xs.length]).getLast?.getD 0 - (D2 i).xs.length) = (D i).hid.length := by
          simp; omega
        rw [e4]; simp
      rw [hp]
      exact ⟨fun r => absurd (p.out i q).1 r, rfl, rfl, e2⟩
    · rw [onD_out q]
      obtain ⟨c1, c2⟩ := out i hi q (cls i hi q)
      exact ⟨fun r => c1 (.inl r), c2⟩
  · have q : k ∉ ps := fun q => (p.out k q).2 rfl
    rw [onD_out q]
    exact (out k hkn q (cls k hkn q)).1 (.inr rfl)
/-- the ways told under a node -/
structure Good (W : Wd) (cons : List CE) (L : Nat → List Int) (D : Nat → Dm) (a : Asg) (new : List Asg) : Prop where
  sound : ∀ t ∈ new, Sol W cons L t ∧ ∀ i v, look a i = some v → look t i = some v
  nod : new.Pairwise fun s t => ∃ i, i < W.n ∧ look s i ≠ look t i
  comp : ∀ f, Safe cons f → Agr a f → (∀ i, i < W.n → look a i = none → f i ∈ (D i).xs) → ∃ t ∈ new, ∀ i, i < W.n → look t i = some (f i)
structure GoodP (W : Wd) (cons : List CE) (L : Nat → List Int) (D : Nat → Dm) (a : Asg) (k : Nat) (vals : List Int) (new : List Asg) : Prop where
  sound : ∀ t ∈ new, Sol W cons L t ∧ ∀ i v, look a i = some v → look t i = some v
  of : ∀ t ∈ new, ∃ v ∈ vals, look t k = some v
  nod : new.Pairwise fun s t => ∃ i, i < W.n ∧ look s i ≠ look t i
  comp : ∀ f, Safe cons f → Agr a f → (∀ i, i < W.n → look a i = none → f i ∈ (D i).xs) → f k ∈ vals → ∃ t ∈ new, ∀ i, i < W.n → look t i = some (f i)
theorem Good.leaf (N : Node W cons L D a) (u : Unary cons L) (ne : ∀ e ∈ cons, e.C.vs ≠ [] ∧ ∀ i ∈ e.C.vs, i < W.n) (all : ∀ i, i < W.n → look a i ≠ none) : Good W cons L D a [a] :=
  ⟨fun t ht => by obtain rfl := List.mem_singleton.mp ht; exact ⟨N.sol u ne all, fun _ _ h => h⟩, List.pairwise_singleton _ _, fun f _ ha _ => ⟨a, List.mem_singleton.mpr rfl, fun i hi => by
    obtain ⟨v, hv⟩ := Option.ne_none_iff_exists'.mp (all i hi)
    rw [hv, ha i v hv]⟩⟩
theorem GoodP.nil : GoodP W cons L D a k [] [] := ⟨by simp, by simp, .nil, fun _ _ _ _ h => by cases h⟩
theorem GoodP.done {new : List Asg} (g : GoodP W cons L D a k (D k).xs new) (hk : look a k = none) (hkn : k < W.n) : Good W cons L D a new := ⟨g.sound, g.nod, fun f h1 h2 h3 => g.comp f h1 h2 h3 (h3 k hkn hk)⟩
theorem agr_snoc (hk : look a k = none) (ha : Agr a f) (hf : f k = v) : Agr (a ++ [(k, v)]) f := fun i u h => by
  rw [look_snoc hk] at h
  split at h
  · rename_i q; subst q; cases h; exact hf
  · exact ha i u h
theorem GoodP.ok {vals : List Int} {new new2 : List Asg} (g : GoodP W cons L D a k vals new) (hk : look a k = none) (hkn : k < W.n) (hv : v ∉ vals) (s : SameD W a D D') (chk : ChkP W cons (a ++ [(k, v)]) es (onD pushOne ps D') D1) (c : Good W cons L D1 (a ++ [(k, v)]) new2) : GoodP W cons L D a k (vals ++ [v]) (new ++ new2) := by
  have hkv : ∀ t ∈ new2, look t k = some v := fun t ht => (c.sound t ht).2 k v (by rw [look_snoc hk, if_pos rfl])
  refine ⟨fun t ht => ?_, fun t ht => ?_, ?_, fun f h1 h2 h3 h4 => ?_⟩
  · rcases List.mem_append.mp ht with q | q
    · exact g.sound t q
    · refine ⟨(c.sound t q).1, fun i u hu => (c.sound t q).2 i u ?_⟩
      rw [look_snoc hk, if_neg (by rintro rfl; rw [hk] at hu; cases hu)]; exact hu
  · rcases List.mem_append.mp ht with q | q
    · obtain ⟨u, h1, h2⟩ := g.of t q; exact ⟨u, List.mem_append_left _ h1, h2⟩
    · exact ⟨v, List.mem_append_right _ (List.mem_singleton.mpr rfl), hkv t q⟩
  · rw [List.pairwise_append]
    refine ⟨g.nod, c.nod, fun x hx y hy => ⟨k, hkn, fun e => ?_⟩⟩
    obtain ⟨u, h1, h2⟩ := g.of x hx
    rw [h2, hkv y hy] at e
    cases e; exact hv h1
  · rcases List.mem_append.mp h4 with q | q
    · obtain ⟨t, t1, t2⟩ := g.comp f h1 h2 h3 q; exact ⟨t, List.mem_append_left _ t1, t2⟩
    · have hf := List.mem_singleton.mp q
      have ha' := agr_snoc hk h2 hf
      obtain ⟨t, t1, t2⟩ := c.comp f h1 ha' (chk.safe h1 ha' fun i hi hl => by
        rw [onD_xs]
        rw [look_snoc hk] at hl
        split at hl
        · cases hl
        · exact (s i hi).2.2.2.mem_iff.mpr (h3 i hi hl))
      exact ⟨t, List.mem_append_right _ t1, t2⟩
theorem GoodP.no {vals : List Int} {new : List Asg} (g : GoodP W cons L D a k vals new) (hk : look a k = none) (s : SameD W a D D') (chk : ChkP W cons (a ++ [(k, v)]) es (onD pushOne ps D') D1) (no : ChkNo W cons (a ++ [(k, v)]) es D1) : GoodP W cons L D a k (vals ++ [v]) new := by
  refine ⟨g.sound, fun t ht => ?_, g.nod, fun f h1 h2 h3 h4 => ?_⟩
  · obtain ⟨u, h1, h2⟩ := g.of t ht; exact ⟨u, List.mem_append_left _ h1, h2⟩
  · rcases List.mem_append.mp h4 with q | q
    · exact g.comp f h1 h2 h3 q
    · exfalso
      have ha' := agr_snoc hk h2 (List.mem_singleton.mp q)
      refine no.unsafe h1 ha' (chk.safe h1 ha' fun i hi hl => ?_)
      rw [onD_xs]
      rw [look_snoc hk] at hl
      split at hl
      · cases hl
      · exact (s i hi).2.2.2.mem_iff.mpr (h3 i hi hl)
end Mine
set_option maxHeartbeats 200000
set_option maxHeartbeats 4000000
namespace Mine
variable {w : World} {h0 : Heap} {A : Around} {σ σ' σ'' : St} {ℓ ℓ' : Loc}
abbrev pdScope : Scope := { kind := .function, names := [(".0", .local), ("x", .local), ("assignments", .free), ("domains", .free)], isGenerator := false, isCoroutine := false, more := [] }
abbrev pdCl (cD cA : Addr) : List (Str × Addr) := [("domains", cD), ("assignments", cA)]
theorem esD_get {W : Wd} {j : Nat} {pr : Int × AV} (hj : j < (esD W).length) (h : (esD W)[j]? = some pr) : j < W.n ∧ pr = ((j : Int), .ref (W.d j)) := by
  have hj' : j < W.n := by simpa [esD] using hj
  refine ⟨hj', ?_⟩
  unfold esD at h
  rw [List.getElem?_map, List.getElem?_range hj'] at h
  cases h; rfl
theorem filter_range_succ {p : Nat → Bool} {j : Nat} : (List.range (j + 1)).filter p = (List.range j).filter p ++ if p j = true then [j] else [] := by
  rw [List.range_succ, List.filter_append]
  congr 1
  by_cases q : p j = true
  · rw [if_pos q]; simp [q]
  · rw [if_neg q]; simp [q]
theorem x_pdR (O : (BB w h0).Ok) {env : Env} {W : Wd} {D : Nat → Dm} {es : List (Int × AV)} {p : Nat → Bool} {dd ad cD cA : Addr} {nd na : Nat} {Q : AF → Loc → St → Prop} {p1 p2 p3 p4 p5 p6 p7 p8 p9 pa pb : Pos}
    (lo : Lo 6 A) (edd : σ.m dd = some (.dict (esD W) nd)) (hn : W.n ≤ 60) (ead : σ.m ad = some (.dict es na)) (hp : ∀ i, i < W.n → (!(dget es (i : Int)).isSome) = p i)
    (hk : env.scope.kind = .function) (k1 : env.kindOf "pushdomains" = some .local) (ecD : σ.m cD = some (.cell (some (.ref dd)))) (ecA : σ.m cA = some (.cell (some (.ref ad)))) (hD : env.cells.lookup ("domains" : Str) = some cD) (kD : env.kindOf "domains" = some .cell)
    (hclos : closureFor pdScope env = Pure.pure (pdCl cD cA))
    (q1 : ∀ C, (compEnvC pdScope (pdCl cD cA) C env).scope.kind = .function) (q2 : ∀ C, (compEnvC pdScope (pdCl cD cA) C env).kindOf "assignments" = some .cell) (q3 : ∀ C, (compEnvC pdScope (pdCl cD cA) C env).kindOf "domains" = some .cell) (q4 : ∀ C, (compEnvC pdScope (pdCl cD cA) C env).kindOf "x" = some .local)
    (hsw : swapsWith (.ListComp (.Subscript (.Name "domains" p1) (.Name "x" p2) p3) [⟨.Name "x" p4, .Name "domains" p5, [.Compare (.Name "x" p6) [.NotIn] [.Name "assignments" p7] p8], 0⟩] pdScope p9) (some (.Name "pushdomains" pa)) pb.line env = Pure.pure true)
    (h : ∀ l σ', Kp (fun _ => False) σ σ' → σ.m l = none → σ'.m l = some (.list (((List.range W.n).filter p).map fun i => .ref (W.d i))) → Q .next (setL ℓ "pushdomains" (some (.ref l))) σ') :
    Tx (BB w h0) A env (.Assign [.Name "pushdomains" pa] (.ListComp (.Subscript (.Name "domains" p1) (.Name "x" p2) p3) [⟨.Name "x" p4, .Name "domains" p5, [.Compare (.Name "x" p6) [.NotIn] [.Name "assignments" p7] p8], 0⟩] pdScope p9) pb) ℓ σ Q := by
  refine x_assign_comp hclos (e_cell hD ecD ?_ hk kD) hsw hk k1
  refine ⟨_, _, _, it_dict lo.hh edd, fun acc hacc C hC => cells_skip (cells_skip (cells_skip (cells_skip (cells_nil ?_))))⟩
  have kp0 : Kp (fun _ => False) σ (σ.put acc (.list [])) := Kp.refl.put (.inr hacc)
  have nacc : ∀ {x : Addr} {o : AObj}, σ.m x = some o → x ≠ acc := fun e q => by rw [q, hacc] at e; cases e
  refine ⟨fun j ℓ' σ' => Kp (fun b => b = acc) (σ.put acc (.list [])) σ' ∧ σ'.m acc = some (.list (((List.range j).filter p).map fun i => .ref (W.d i))), ⟨.refl, put_same ..⟩, fun j ℓ' σ' ⟨kp, _⟩ => kp.kept _ _ (kp0.kept _ _ edd id) (nacc edd), ?_, ?_⟩
  · rintro j v ℓ' σ₁ hj ⟨pr, hpr, rfl⟩ ⟨kp, eacc⟩
    obtain ⟨hj', rfl⟩ := esD_get hj hpr
    have keep : ∀ {x : Addr} {o : AObj}, σ.m x = some o → σ₁.m x = some o := fun {x o} e => kp.kept _ _ (kp0.kept _ _ e id) (nacc e)
    refine a_local ?_ (q1 C) (q4 C)
    have vj : upd ℓ' "x" (.int (j : Int)) "x" = some (.int (j : Int)) := by unfold upd; exact if_pos rfl
    refine tif_one (t_cmp (e_local vj (e_cell (c := cA) rfl (keep ecA) (cmp_notin_dict (keep ead) (tru_bool ?_)) (q1 C) (q2 C)) (q1 C) (q4 C)))
    rw [hp j hj']
    split
    · rename_i hpj
      refine t_emitC O (e_sub (e_cell (c := cD) rfl (keep ecD) (e_local vj ⟨gp_of O (keep edd) rfl, gi_dict (keep edd) (dget_esD hj') ?_⟩ (q1 C) (q4 C)) (q1 C) (q3 C)))
      have hl : ((List.range j).filter p).length ≤ j := Nat.le_trans (List.length_filter_le _ _) (by simp)
      refine ⟨_, eacc, le_line (by rw [List.length_map]; omega), kp.put (.inl rfl), ?_⟩
      rw [put_same, filter_range_succ, if_pos hpj]; simp
    · rename_i hpj
      refine ⟨kp, ?_⟩
      rw [filter_range_succ, if_neg hpj, List.append_nil]; exact eacc
  · rintro ℓ' σ₁ ⟨kp, eacc⟩
    have e1 : (esD W).length = W.n := by simp [esD]
    rw [e1] at eacc
    exact h acc σ₁ (kp0.tail kp fun b q => .inr (by rw [q]; exact hacc)) hacc eacc
abbrev pdScopeG : Scope := { kind := .function, names := [(".0", .local), ("x", .local), ("assignments", .free), ("domains", .free), ("variable", .free)], isGenerator := false, isCoroutine := false, more := [] }
abbrev pdClG (cD cA cX : Addr) : List (Str × Addr) := [("variable", cX), ("domains", cD), ("assignments", cA)]
theorem x_pdG (O : (BB w h0).Ok) {env : Env} {W : Wd} {D : Nat → Dm} {es : List (Int × AV)} {p : Nat → Bool} {dd ad cD cA cX : Addr} {k nd na : Nat} {Q : AF → Loc → St → Prop} {p1 p2 p3 p4 p5 p6 p7 p8 p9 pa pb pc pd pe pf : Pos}
    (lo : Lo 6 A) (edd : σ.m dd = some (.dict (esD W) nd)) (hn : W.n ≤ 60) (ead : σ.m ad = some (.dict es na)) (hp : ∀ i, i < W.n → ((!(dget es (i : Int)).isSome) && decide (i ≠ k)) = p i)
    (hk : env.scope.kind = .function) (k1 : env.kindOf "pushdomains" = some .local) (ecD : σ.m cD = some (.cell (some (.ref dd)))) (ecA : σ.m cA = some (.cell (some (.ref ad)))) (ecX : σ.m cX = some (.cell (some (.int (k : Nat))))) (hD : env.cells.lookup ("domains" : Str) = some cD) (kD : env.kindOf "domains" = some .cell)
    (hclos : closureFor pdScopeG env = Pure.pure (pdClG cD cA cX))
    (q1 : ∀ C, (compEnvC pdScopeG (pdClG cD cA cX) C env).scope.kind = .function) (q2 : ∀ C, (compEnvC pdScopeG (pdClG cD cA cX) C env).kindOf "assignments" = some .cell) (q3 : ∀ C, (compEnvC pdScopeG (pdClG cD cA cX) C env).kindOf "domains" = some .cell) (q4 : ∀ C, (compEnvC pdScopeG (pdClG cD cA cX) C env).kindOf "x" = some .local) (q5 : ∀ C, (compEnvC pdScopeG (pdClG cD cA cX) C env).kindOf "variable" = some .cell)
    (hsw : swapsWith (.ListComp (.Subscript (.Name "domains" p1) (.Name "x" p2) p3) [⟨.Name "x" p4, .Name "domains" p5, [.BoolOp .And [.Compare (.Name "x" p6) [.NotIn] [.Name "assignments" p7] p8, .Compare (.Name "x" pc) [.NotEq] [.Name "variable" pd] pe] pf], 0⟩] pdScopeG p9) (some (.Name "pushdomains" pa)) pb.line env = Pure.pure true)
    (h : ∀ l σ', Kp (fun _ => False) σ σ' → σ.m l = none → σ'.m l = some (.list (((List.range W.n).filter p).map fun i => .ref (W.d i))) → Q .next (setL ℓ "pushdomains" (some (.ref l))) σ') :
    Tx (BB w h0) A env (.Assign [.Name "pushdomains" pa] (.ListComp (.Subscript (.Name "domains" p1) (.Name "x" p2) p3) [⟨.Name "x" p4, .Name "domains" p5, [.BoolOp .And [.Compare (.Name "x" p6) [.NotIn] [.Name "assignments" p7] p8, .Compare (.Name "x" pc) [.NotEq] [.Name "variable" pd] pe] pf], 0⟩] pdScopeG p9) pb) ℓ σ Q := by
  refine x_assign_comp hclos (e_cell hD ecD ?_ hk kD) hsw hk k1
  refine ⟨_, _, _, it_dict lo.hh edd, fun acc hacc C hC => cells_skip (cells_skip (cells_skip (cells_skip (cells_skip (cells_nil ?_)))))⟩
  have kp0 : Kp (fun _ => False) σ (σ.put acc (.list [])) := Kp.refl.put (.inr hacc)
  have nacc : ∀ {x : Addr} {o : AObj}, σ.m x = some o → x ≠ acc := fun e q => by rw [q, hacc] at e; cases e
  refine ⟨fun j ℓ' σ' => Kp (fun b => b = acc) (σ.put acc (.list [])) σ' ∧ σ'.m acc = some (.list (((List.range j).filter p).map fun i => .ref (W.d i))), ⟨.refl, put_same ..⟩, fun j ℓ' σ' ⟨kp, _⟩ => kp.kept _ _ (kp0.kept _ _ edd id) (nacc edd), ?_, ?_⟩
  · rintro j v ℓ' σ₁ hj ⟨pr, hpr, rfl⟩ ⟨kp, eacc⟩
    obtain ⟨hj', rfl⟩ := esD_get hj hpr
    have keep : ∀ {x : Addr} {o : AObj}, σ.m x = some o → σ₁.m x = some o := fun {x o} e => kp.kept _ _ (kp0.kept _ _ e id) (nacc e)
    refine a_local ?_ (q1 C) (q4 C)
    have vj : upd ℓ' "x" (.int (j : Int)) "x" = some (.int (j : Int)) := by unfold upd; exact if_pos rfl
    refine tif_one (t_and (t_cmp (e_local vj (e_cell (c := cA) rfl (keep ecA) (cmp_notin_dict (keep ead) (tru_bool ?_)) (q1 C) (q2 C)) (q1 C) (q4 C))))
    have hpj0 := hp j hj'
    have fin : ∀ b, b = p j → (if b = true then T (BB w h0) A C (CompIn (.Subscript (.Name "domains" p1) (.Name "x" p2) p3) [⟨.Name "x" p4, .Name "domains" p5, [.BoolOp .And [.Compare (.Name "x" p6) [.NotIn] [.Name "assignments" p7] p8, .Compare (.Name "x" pc) [.NotEq] [.Name "variable" pd] pe] pf], 0⟩] pdScopeG p9 0 (.ref acc) (compEnvC pdScopeG (pdClG cD cA cX) C env)) (upd ℓ' "x" (.int (j : Int))) σ₁ fun _ ℓ₄ σ₅ => Kp (fun b => b = acc) (σ.put acc (.list [])) σ₅ ∧ σ₅.m acc = some (.list (((List.range (j + 1)).filter p).map fun i => .ref (W.d i)))
        else Kp (fun b => b = acc) (σ.put acc (.list [])) σ₁ ∧ σ₁.m acc = some (.list (((List.range (j + 1)).filter p).map fun i => .ref (W.d i)))) := by
      rintro b rfl
      split
      · rename_i hpj
        refine t_emitC O (e_sub (e_cell (c := cD) rfl (keep ecD) (e_local vj ⟨gp_of O (keep edd) rfl, gi_dict (keep edd) (dget_esD hj') ?_⟩ (q1 C) (q4 C)) (q1 C) (q3 C)))
        have hl : ((List.range j).filter p).length ≤ j := Nat.le_trans (List.length_filter_le _ _) (by simp)
        refine ⟨_, eacc, le_line (by rw [List.length_map]; omega), kp.put (.inl rfl), ?_⟩
        rw [put_same, filter_range_succ, if_pos hpj]; simp
      · rename_i hpj
        refine ⟨kp, ?_⟩
        rw [filter_range_succ, if_neg hpj, List.append_nil]; exact eacc
    cases hs : (!(dget es (j : Int)).isSome) with
    | false =>
      rw [if_neg Bool.false_ne_true]
      exact fin false (by rw [← hpj0, hs]; rfl)
    | true =>
      rw [if_pos rfl]
      refine t_cmp (e_local vj (e_cell (c := cX) rfl (keep ecX) (cmp_ne (tru_bool (fin _ ?_))) (q1 C) (q5 C)) (q1 C) (q4 C))
      rw [← hpj0, hs, Bool.true_and]
      by_cases q : j = k
      · subst q; simp
      · simp [q]; omega
  · rintro ℓ' σ₁ ⟨kp, eacc⟩
    have e1 : (esD W).length = W.n := by simp [esD]
    rw [e1] at eacc
    exact h acc σ₁ (kp0.tail kp fun b q => .inr (by rw [q]; exact hacc)) hacc eacc
end Mine
set_option maxHeartbeats 200000
set_option maxHeartbeats 4000000
namespace Mine
variable {w : World} {h0 : Heap} {A : Around} {σ σ' σ'' : St} {ℓ ℓ' : Loc}
noncomputable abbrev envC (fd : FuncData) (C : Addr) (cs : List (Str × Addr)) (f : Addr) : Env := newEnv fd.scope C fd.globals cs (fd.qualname ++ ".<locals>.") (some f) fd.code none fd.builtins
theorem dset_last {es : List (Int × AV)} {k : Int} {x v : AV} (h : ∀ p ∈ es, p.1 ≠ k) : dset (es ++ [(k, x)]) k v = es ++ [(k, v)] := by
  unfold dset
  rw [if_pos (by simp)]
  rw [List.map_append]
  congr 1
  · conv => rhs; rw [← List.map_id es]
    apply List.map_congr_left
    intro p hp
    rw [if_neg (h p hp)]; rfl
  · simp
theorem ddel_last {es : List (Int × AV)} {k : Int} {x : AV} (h : ∀ p ∈ es, p.1 ≠ k) : ddel (es ++ [(k, x)]) k = es := by
  unfold ddel
  rw [List.filter_append]
  have h1 : es.filter (fun p => decide (p.1 ≠ k)) = es := by
    rw [List.filter_eq_self]; intro p hp; exact decide_eq_true (h p hp)
  rw [h1]; simp
theorem dget_last {es : List (Int × AV)} {k : Int} {x : AV} (h : ∀ p ∈ es, p.1 ≠ k) (i : Int) : dget (es ++ [(k, x)]) i = if i = k then some x else dget es i := by
  unfold dget
  rw [List.find?_append]
  by_cases q : i = k
  · subst q
    have : es.find? (fun p => decide (p.1 = i)) = none := by rw [List.find?_eq_none]; intro p hp; simpa using h p hp
    rw [this, if_pos rfl]; simp
  · rw [if_neg q]
    have : List.find? (fun p : Int × AV => decide (p.1 = i)) [(k, x)] = none := by
      rw [List.find?_cons, List.find?_nil]
      have : decide ((k, x).1 = i) = false := by simpa using fun e => q e.symm
      rw [this]
    rw [this, Option.or_none]
theorem esOf_ne {a : Asg} {k : Nat} (h : look a k = none) : ∀ p ∈ esOf a, p.1 ≠ (k : Int) := fun p hp e => by
  obtain ⟨q, hq, rfl⟩ := List.mem_map.mp hp
  have : q.1 = k := by dsimp only at e; omega
  exact look_some.mpr (List.mem_map.mpr ⟨q, hq, this⟩) h
theorem esOf_snoc {a : Asg} {k : Nat} {v : Int} : esOf (a ++ [(k, v)]) = esOf a ++ [((k : Int), .int v)] := by unfold esOf; simp
/-- a list that the net does not lean on -/
structure FarL (W : Wd) (cons : List CE) (av : Addr) (vv : Nat → Addr) (b : Addr) : Prop where
  nd : ¬ W.dyn b
  nv : ∀ i, i < W.n → b ≠ vv i
  nc : ∀ e ∈ cons, b ≠ e.vl av ∧ (∀ l, e.v = .ref l → b ≠ l) ∧ (e.C.fs ≠ [] → b ≠ e.ml)
def RbS (W : Wd) (sl ad : Addr) (b : Addr) : Prop := W.dyn b ∨ b = sl ∨ b = ad
theorem Net.rb {W : Wd} {D : Nat → Dm} {cons : List CE} {dd vd av sl ad : Addr} {nd nvd na : Nat} {vv : Nat → Addr} {R : Nat → List (Addr × Nat)} {xs : List AV} {es : List (Int × AV)} (N : Net σ W cons dd vd av nd nvd vv R) (ds : Doms σ W D) (far : FarL W cons av vv sl) (nad : ad ≠ dd ∧ ad ≠ vd) (es' : σ.m sl = some (.list xs)) (ea : σ.m ad = some (.dict es na)) (k : Kp (RbS W sl ad) σ σ') : Net σ' W cons dd vd av nd nvd vv R := by
  refine N.kp (D := D) k (fun b o e q => ?_) ds
  rcases q with q | rfl | rfl
  · exact .inl q
  · rw [es'] at e; cases e
    exact .inr (.inr (.inr ⟨_, rfl, far.nv, far.nc⟩))
  · rw [ea] at e; cases e
    exact .inr (.inl ⟨_, _, rfl, nad.1, nad.2⟩)
theorem Net.dyn {W : Wd} {D : Nat → Dm} {cons : List CE} {dd vd av : Addr} {nd nvd : Nat} {vv : Nat → Addr} {R : Nat → List (Addr × Nat)} (N : Net σ W cons dd vd av nd nvd vv R) (ds : Doms σ W D) (k : Kp W.dyn σ σ') : Net σ' W cons dd vd av nd nvd vv R :=
  N.kp (D := D) k (fun b o e q => .inl q) ds
theorem Net.new {W : Wd} {D : Nat → Dm} {cons : List CE} {dd vd av : Addr} {nd nvd : Nat} {vv : Nat → Addr} {R : Nat → List (Addr × Nat)} (N : Net σ W cons dd vd av nd nvd vv R) (ds : Doms σ W D) (k : Kp (fun _ => False) σ σ') : Net σ' W cons dd vd av nd nvd vv R :=
  N.kp (D := D) k (fun b o e q => q.elim) ds
theorem SolvAt.keep {C s sx : Addr} {fc : Bool} {S : Addr → Prop} (x : SolvAt σ C s sx fc) (k : Kp S σ σ') (h1 : ¬ S s) (h2 : ¬ S sx) : SolvAt σ' C s sx fc := ⟨k.kept _ _ x.obj h1, k.kept _ _ x.ns h2⟩
abbrev rbN : List Str := ["self", "solutions", "single", "variable", "lst", "item", "forwardcheck", "pushdomains", "value", "domain", "constraint", "variables"]
abbrev rbCs (cD cV cA : Addr) : List (Str × Addr) := [("assignments", cA), ("vconstraints", cV), ("domains", cD)]
/-- what a call of recursiveBacktracking promises -/
def RbC (w : World) (h0 : Heap) (W : Wd) (cons : List CE) (L : Nat → List Int) (dd vd av sl ad s sx : Addr) (nd nvd : Nat) (vv : Nat → Addr) (R : Nat → List (Addr × Nat)) (fc single : Bool) (m : Nat) : Prop :=
  ∀ (A : Around) (σ : St) (D : Nat → Dm) (a : Asg) (na : Nat) (xs : List AV) (Q : AV → St → Prop), a.length + m = W.n → Lo (20 * (m + 1)) A → Doms σ W D → Sz W D a → Node W cons L D a → Net σ W cons dd vd av nd nvd vv R → SolvAt σ 225 s sx fc →
    σ.m ad = some (.dict (esOf a) na) → σ.m sl = some (.list xs) → xs.length + 4 ^ m ≤ 10000 → (single = true → xs = []) →
    (∀ (new : List (Addr × Asg)) σ', Kp (RbS W sl ad) σ σ' → σ'.m sl = some (.list (xs ++ new.map fun p => .ref p.1)) → (∀ p ∈ new, p.1 ≠ ad ∧ σ.m p.1 = none ∧ ∃ n, σ'.m p.1 = some (.dict (esOf p.2) n)) → new.length ≤ 4 ^ m →
      ((single = true ∧ new ≠ [] ∧ ∀ p ∈ new, Sol W cons L p.2) ∨ ∃ D' na', Doms σ' W D' ∧ SameD W a D D' ∧ σ'.m ad = some (.dict (esOf a) na') ∧ Good W cons L D a (new.map (·.2))) → Q (.ref sl) σ') →
    Callf (BB w h0) A (.ref 208) [.ref s, .ref sl, .ref dd, .ref vd, .ref ad, .bool single] σ Q
theorem m225rb (O : (BB w h0).Ok) {s sx : Addr} {fc : Bool} {pl : Sem Bool} {Q : AV → List AV → St → Prop} (x : SolvAt σ 225 s sx fc) (h : Q (.ref 208) [.ref s] σ) : Meth (BB w h0) A (.ref s) "recursiveBacktracking" pl σ Q :=
  meth_of O x.obj rfl (ga225 _) (by decide +kernel) (gn225 _) (m225_recursiveBacktracking _) (ty208 _) (by decide) (fun dx e => by cases e; exact ⟨_, _, x.ns, by rfl⟩) h
theorem take_mem_nodup' {vs : List Int} (h : vs.Nodup) {m : Nat} (hm : m < vs.length) : vs[m] ∉ vs.take m := fun q => by
  rw [← List.take_append_drop m vs] at h
  exact (List.nodup_append.mp h).2.2 _ q _ (by rw [List.drop_eq_getElem_cons hm]; exact List.mem_cons_self ..) rfl
def forBody : Stmt → List Stmt
  | .For _ _ b _ _ => b
  | _ => []
section
variable {W : Wd} {cons : List CE} {L : Nat → List Int} {D : Nat → Dm} {a : Asg} {dd vd av sl ad s sx C cD cV cA : Addr} {nd nvd na m k : Nat} {vv : Nat → Addr} {R : Nat → List (Addr × Nat)} {fc single : Bool} {xs : List AV} {Q : AV → St → Prop} {ps : List Nat} {pv : AV} {u0 u3 u4 u5 u6 u8 u9 u10 u11 : Option AV}
noncomputable abbrev rbF (sl s : Addr) (single : Bool) (k : Nat) (pv : AV) (u4 u5 u6 u8 u9 u10 u11 : Option AV) : Loc := frm rbN [some (.ref s), some (.ref sl), some (.bool single), some (.int (k : Nat)), u4, u5, u6, some pv, u8, u9, u10, u11]
/-- between the turns -/
def RbJ (W : Wd) (cons : List CE) (L : Nat → List Int) (D : Nat → Dm) (a : Asg) (sl ad s : Addr) (single : Bool) (k m : Nat) (pv : AV) (u4 u5 u6 : Option AV) (xs : List AV) (σ : St) (j : Nat) (ℓ' : Loc) (σ' : St) : Prop :=
  ∃ u8 u9 u10 u11 Dj na' x, ∃ new : List (Addr × Asg), ℓ' = rbF sl s single k pv u4 u5 u6 u8 u9 u10 u11 ∧ Kp (RbS W sl ad) σ σ' ∧ Doms σ' W Dj ∧ SameD W a D Dj ∧ Dj k = D k ∧ σ'.m ad = some (.dict (esOf a ++ [((k : Int), x)]) na') ∧ σ'.m sl = some (.list (xs ++ new.map fun p => .ref p.1)) ∧ (∀ p ∈ new, p.1 ≠ ad ∧ σ.m p.1 = none ∧ ∃ n, σ'.m p.1 = some (.dict (esOf p.2) n)) ∧ new.length ≤ j * 4 ^ m ∧ (single = true → new = []) ∧ GoodP W cons L D a k ((D k).xs.take j) (new.map (·.2))
/-- the turns over the values -/
theorem rb_loop (O : (BB w h0).Ok) (ih : RbC w h0 W cons L dd vd av sl ad s sx nd nvd vv R fc single m) (hm : a.length + (m + 1) = W.n) (lo : Lo (20 * (m + 1) + 10) A) (sp : W.Sep) (ds : Doms σ W D) (sz : Sz W D a) (node : Node W cons L D a) (N : Net σ W cons dd vd av nd nvd vv R) (sv : SolvAt σ 225 s sx fc)
    (far : FarL W cons av vv sl) (nad : ad ≠ dd ∧ ad ≠ vd) (ea : σ.m ad = some (.dict (esOf a ++ [((k : Int), .none)]) na)) (esl : σ.m sl = some (.list xs)) (hxs : xs.length + 4 ^ (m + 1) ≤ 10000) (hsg : single = true → xs = []) (hk : look a k = none) (hkn : k < W.n)
    (ecD : σ.m cD = some (.cell (some (.ref dd)))) (ecV : σ.m cV = some (.cell (some (.ref vd)))) (ecA : σ.m cA = some (.cell (some (.ref ad)))) (pok : PsOk W a k ps) (pd : PdIs σ W pv ps) (npv : ∀ l, pv = .ref l → l ≠ sl ∧ l ≠ ad)
    (h : ∀ (new : List (Addr × Asg)) σ', Kp (RbS W sl ad) σ σ' → σ'.m sl = some (.list (xs ++ new.map fun p => .ref p.1)) → (∀ p ∈ new, p.1 ≠ ad ∧ σ.m p.1 = none ∧ ∃ n, σ'.m p.1 = some (.dict (esOf p.2) n)) → new.length ≤ 4 ^ (m + 1) →
      ((single = true ∧ new ≠ [] ∧ ∀ p ∈ new, Sol W cons L p.2) ∨ ∃ D' na', Doms σ' W D' ∧ SameD W a D D' ∧ σ'.m ad = some (.dict (esOf a) na') ∧ Good W cons L D a (new.map (·.2))) → Q (.ref sl) σ') :
    Ts (BB w h0) A (envC (fdOf (KK w.params) 208) C (rbCs cD cV cA) 208) ((bodyOf (KK w.params) 208).drop 7) (rbF sl s single k pv u4 u5 u6 u8 u9 u10 u11) σ fun fl _ σ' => Q (retOf fl) σ' := by
  have nS' : ∀ {b o}, σ.m b = some o → (∀ xs, o ≠ .list xs) → (∀ C dx xs, o ≠ .dom C dx xs) → (∀ es n, o ≠ .dict es n) → ¬ RbS W sl ad b := fun {b o} e q1 q2 q3 q => by
    rcases q with q | rfl | rfl
    · exact ds.not_dyn e q2 q1 q
    · rw [esl] at e; cases e; exact q1 _ rfl
    · rw [ea] at e; cases e; exact q3 _ _ rfl
  have ncell : ∀ c u, σ.m c = some (.cell u) → ¬ RbS W sl ad c := fun c u e => nS' e nofun nofun nofun
  have npd : ∀ l, pv = .ref l → ¬ RbS W sl ad l := fun l hl q => by
    obtain ⟨n1, n2⟩ := npv l hl
    rcases q with q | q | q
    · cases pd with
      | nil => cases hl
      | list e n hz => cases hl; exact n q
    · exact n1 q
    · exact n2 q
  have ndyn : ∀ l, pv = .ref l → ¬ W.dyn l := fun l hl q => npd l hl (.inl q)
  have hlt : ∀ i ∈ ps, i < W.n := pok.lt
  have eNe := esOf_ne hk
  have Sd : ∀ b, W.dyn b → RbS W sl ad b := fun b q => .inl q
  have nS : ∀ {σa σb : St} {b o}, Kp W.dyn σa σb → σa.m b = some o → ¬ W.dyn b → σb.m b = some o := fun k e n => k.kept _ _ e n
  have h4 : (D k).xs.length ≤ 4 := by have := (sz.2 k hkn).1; omega
  refine s_cons (x_for (e_sub (e_cell (c := cD) rfl ecD (e_local rfl ⟨gp_of O N.edd rfl, gi_dict N.edd (dget_esD hkn) ?_⟩))))
  refine ⟨_, _, _, RbJ W cons L D a sl ad s single k m pv u4 u5 u6 xs σ,
    it_dom O lo.hh (ds k hkn).obj (iter303 _) (sub303 _), ⟨u8, u9, u10, u11, D, na, .none, [], rfl, .refl, ds, .refl, rfl, ea, by simpa using esl, by simp, by simp, fun _ => rfl, by rw [List.take_zero]; exact .nil⟩, ?_, ?_, ?_⟩
  · rintro j ℓ' σ' ⟨_, _, _, _, Dj, _, _, _, _, _, dm, _, e, _⟩
    have := (dm k hkn).obj
    rwa [e] at this
  · rintro j v ℓ' σ₁ hj hv ⟨u8, u9, u10, u11, Dj, na', x, new, rfl, kp, dm, same, hDk, ea1, es1, outs, hlen, hsn, good⟩
    obtain ⟨hj', rfl⟩ := iv_get hv
    generalize hvj : (D k).xs[j] = v
    have tk : (D k).xs.take (j + 1) = (D k).xs.take j ++ [v] := by rw [List.take_succ_eq_append_getElem hj', hvj]
    have hvn : v ∉ (D k).xs.take j := by rw [← hvj]; exact take_mem_nodup' (node.xnod k hkn) hj'
    have hvm : v ∈ (D k).xs := by rw [← hvj]; exact List.getElem_mem hj'
    have hvm' : v ∈ (Dj k).xs := by rw [hDk]; exact hvm
    have cA1 := kp.kept _ _ ecA (ncell _ _ ecA)
    have nodej := node.same same
    have szj := sz.same same
    refine a_local ?_
    rw [upd_frm (i := 8) rfl (by simp)]
    refine s_cons (x_assign (e_local rfl (a_sub (e_cell (c := cA) rfl cA1 (e_local rfl (si_dict ea1 (le_line (by have := node.len; have := sz.1; simp [esOf]; omega)) fun na2 => ?_))))))
    rw [dset_last eNe, ← esOf_snoc]
    have kp2 : Kp (RbS W sl ad) σ (σ₁.put ad (.dict (esOf (a ++ [(k, v)])) na2)) := kp.put (.inl (.inr (.inr rfl)))
    have dm2 : Doms (σ₁.put ad (.dict (esOf (a ++ [(k, v)])) na2)) W Dj := dm.put fun i hi => by
      refine ⟨?_, ?_, ?_, ?_⟩ <;> rintro rfl
      · have := (dm i hi).obj; rw [ea1] at this; cases this
      · have := (dm i hi).ns; rw [ea1] at this; cases this
      · have := (dm i hi).hid; rw [ea1] at this; cases this
      · have := (dm i hi).sts; rw [ea1] at this; cases this
    have ea2 : (σ₁.put ad (.dict (esOf (a ++ [(k, v)])) na2)).m ad = some (.dict (esOf (a ++ [(k, v)])) na2) := put_same ..
    generalize hσ2 : σ₁.put ad (.dict (esOf (a ++ [(k, v)])) na2) = σ₂ at kp2 dm2 ea2 ⊢
    have es2 : σ₂.m sl = some (.list (xs ++ new.map fun p => .ref p.1)) := by
      rw [← hσ2, put_other]
      · exact es1
      · rintro rfl; rw [ea1] at es1; cases es1
    have outs2 : ∀ p ∈ new, p.1 ≠ ad ∧ σ.m p.1 = none ∧ ∃ n, σ₂.m p.1 = some (.dict (esOf p.2) n) := fun p hp => by
      obtain ⟨o1, o2, n, o3⟩ := outs p hp
      exact ⟨o1, o2, n, by rw [← hσ2, put_other o1]; exact o3⟩
    -- push
    refine s_cons (x_push O (lo.mono (by omega)) rfl rfl rfl rfl rfl rfl sp dm2 (szj.sm nodej) (pd.kp kp2 npd) pok.nod hlt rfl fun u9 σ₃ kp3 dm3 => ?_)
    rw [setL_frm (i := 9) rfl (by simp)]
    have kp13 := kp2.trans (kp3.mono Sd)
    have N3 := N.rb ds far nad esl ea kp13
    have ndad : ¬ W.dyn ad := dm2.not_dyn ea2 nofun nofun
    have ea3 := nS kp3 ea2 ndad
    have fcI := (pd.kp kp13 npd).fc
    have keepO : ∀ {σa σb : St} (out : List (Addr × Asg)), Kp W.dyn σa σb → (∀ {b es n}, σa.m b = some (.dict es n) → ¬ W.dyn b) → (∀ p ∈ out, p.1 ≠ ad ∧ σ.m p.1 = none ∧ ∃ n, σa.m p.1 = some (.dict (esOf p.2) n)) → ∀ p ∈ out, p.1 ≠ ad ∧ σ.m p.1 = none ∧ ∃ n, σb.m p.1 = some (.dict (esOf p.2) n) := fun out k n q p hp => by
      obtain ⟨o1, o2, n', o3⟩ := q p hp
      exact ⟨o1, o2, n', nS k o3 (n o3)⟩
    -- pop and the next turn
    have fin : ∀ {u8 u9 u10 u11 : Option AV} {σ₅ : St} {D1 D2 : Nat → Dm} {na5 : Nat} {new5 : List (Addr × Asg)} {Q₂ : AF → Loc → St → Prop}, Kp (RbS W sl ad) σ σ₅ → Doms σ₅ W D2 → ChkP W cons (a ++ [(k, v)]) ((R k).map (·.2)) (onD pushOne ps Dj) D1 → (ps = [] → D1 = onD pushOne ps Dj) → SameD W (a ++ [(k, v)]) D1 D2 → σ₅.m ad = some (.dict (esOf (a ++ [(k, v)])) na5) → σ₅.m sl = some (.list (xs ++ new5.map fun p => .ref p.1)) → (∀ p ∈ new5, p.1 ≠ ad ∧ σ.m p.1 = none ∧ ∃ n, σ₅.m p.1 = some (.dict (esOf p.2) n)) → new5.length ≤ (j + 1) * 4 ^ m → (single = true → new5 = []) → GoodP W cons L D a k ((D k).xs.take (j + 1)) (new5.map (·.2)) → Sm W D2 →
        (∀ ℓ₂ σ₂, RbJ W cons L D a sl ad s single k m pv u4 u5 u6 xs σ (j + 1) ℓ₂ σ₂ → Q₂ .next ℓ₂ σ₂) →
        Ts (BB w h0) A (envC (fdOf (KK w.params) 208) C (rbCs cD cV cA) 208) ((forBody ((bodyOf (KK w.params) 208).getD 7 (.Pass default))).drop 3) (rbF sl s single k pv u4 u5 u6 u8 u9 u10 u11) σ₅ Q₂ := by
      intro u8 u9 u10 u11 σ₅ D1 D2 na5 new5 Q₂ k5 dm5 chk hfb sm5 ea5 es5 outs5 len5 sg5 good5 smm q2
      obtain ⟨pok2, same2, hk2⟩ := back hk pok chk hfb sm5
      refine s_cons (x_pop O (pv := pv) (lo.mono (by omega)) rfl rfl rfl rfl rfl rfl sp dm5 smm (pd.kp k5 npd) pok.nod hlt rfl pok2 fun u9 σ₆ kp6 dm6 => ?_)
      rw [setL_frm (i := 9) rfl (by simp)]
      have ndad5 : ¬ W.dyn ad := dm5.not_dyn ea5 nofun nofun
      exact s_nil (q2 _ _ ⟨u8, u9, u10, u11, _, na5, .int v, new5, rfl, k5.trans (kp6.mono Sd), dm6, same.trans same2, (hk2 hkn).trans hDk, by rw [← esOf_snoc]; exact nS kp6 ea5 ndad5, nS kp6 es5 far.nd, keepO _ kp6 (fun e => dm5.not_dyn e nofun nofun) outs5, len5, sg5, good5⟩)
    have szp : Sz W (onD pushOne ps Dj) (a ++ [(k, v)]) := szj.push pok
    have smp : Sm W (onD pushOne ps Dj) := fun i hi => by
      have h1 := szp.1; have h2 := szp.2 i hi; have h3 := node.len
      simp at h2; omega
    have hlen1 : new.length ≤ (j + 1) * 4 ^ m := Nat.le_trans hlen (Nat.mul_le_mul_right _ (Nat.le_succ j))
    have fbps : ∀ {D1 : Nat → Dm}, ((!ps.isEmpty) = false → D1 = onD pushOne ps Dj) → (ps = [] → D1 = onD pushOne ps Dj) := fun q e => q (by rw [e]; rfl)
    have cell13 : ∀ {c u}, σ.m c = some (.cell u) → σ₃.m c = some (.cell u) := fun e => kp13.kept _ _ e (ncell _ _ e)
    refine s_cons (x_check O (fb := !ps.isEmpty) (a := a ++ [(k, v)]) (lo.mono (by omega)) rfl rfl rfl rfl sp dm3 smp N3 hkn ea3 (.cell cV rfl (cell13 ecV) rfl) (.loc rfl rfl) (.cell cD rfl (cell13 ecD) rfl) (.cell cA rfl (cell13 ecA) rfl) rfl fcI ndyn ?_ ?_)
    · -- a constraint said no
      intro u10 u11 σ₄ D1 kp4 dm4 chk hfb no
      unfold set2
      rw [setL_frm (i := 10) rfl (by simp), setL_frm (i := 11) rfl (by simp)]
      have dict4 : ∀ {b es n}, σ₂.m b = some (.dict es n) → ¬ W.dyn b := fun e => dm2.not_dyn e nofun nofun
      exact fin (D1 := D1) (D2 := D1) (new5 := new) (kp13.trans (kp4.mono Sd)) dm4 chk (fbps hfb) .refl (nS kp4 ea3 ndad) (nS kp4 (nS kp3 es2 far.nd) far.nd) (keepO _ kp4 (fun e => dm3.not_dyn e nofun nofun) (keepO _ kp3 dict4 outs2)) hlen1 hsn
        (by rw [tk]; exact good.no hk same chk no) (fun i hi => by
          have h1 := szp.1; have h2 := (szp.chk chk).2 i hi; have h3 := node.len
          simp at h2; omega) fun _ _ q => q
    · -- all said yes
      intro u10 u11 σ₄ D1 kp4 dm4 chk hfb hnz yes
      unfold set2
      rw [setL_frm (i := 10) rfl (by simp), setL_frm (i := 11) rfl (by simp)]
      have kp14 := kp13.trans (kp4.mono Sd)
      have N4 := N.rb ds far nad esl ea kp14
      have cell14 : ∀ {c u}, σ.m c = some (.cell u) → σ₄.m c = some (.cell u) := fun e => kp14.kept _ _ e (ncell _ _ e)
      have sv4 := sv.keep kp14 (nS' sv.obj nofun nofun nofun) (nS' sv.ns nofun nofun nofun)
      have ea4 := nS kp4 ea3 ndad
      have es4 := nS kp4 (nS kp3 es2 far.nd) far.nd
      have node4 : Node W cons L D1 (a ++ [(k, v)]) := nodej.down hk hkn hvm' chk yes fun e he h1 h2 => (N.rows.mem k hkn e).mpr ⟨he, h1, h2⟩
      have sz4 := szp.chk chk
      have outs4 : ∀ p ∈ new, p.1 ≠ ad ∧ σ.m p.1 = none ∧ ∃ n, σ₄.m p.1 = some (.dict (esOf p.2) n) := keepO _ kp4 (fun e => dm3.not_dyn e nofun nofun) (keepO _ kp3 (fun e => dm2.not_dyn e nofun nofun) outs2)
      have hpow : (j + 1) * 4 ^ m ≤ 4 ^ (m + 1) := by
        rw [Nat.pow_succ, Nat.mul_comm (4 ^ m) 4]; exact Nat.mul_le_mul_right _ (by omega)
      have hsucc : (j + 1) * 4 ^ m = j * 4 ^ m + 4 ^ m := Nat.succ_mul ..
      refine s_cons (x_expr (e_meth (e_local rfl fun pl => m225rb O sv4 ?_)))
      refine es_cons (e_local rfl (es_cons (e_cell (c := cD) rfl (cell14 ecD) (es_cons (e_cell (c := cV) rfl (cell14 ecV) (es_cons (e_cell (c := cA) rfl (cell14 ecA) (es_cons (e_local rfl (es_nil ⟨kee_fn O rfl, ?_⟩))))))))))
      refine ih A σ₄ D1 (a ++ [(k, v)]) na2 _ _ (by simp; omega) (lo.mono (by omega)) dm4 sz4 node4 N4 sv4 ea4 es4 (by simp; omega) (fun q => by rw [hsg q, hsn q]; rfl) ?_
      intro new2 σ₅ kp5 es5 outs5 len5 alt
      have kp15 := kp14.trans kp5
      have outs5' : ∀ p ∈ new ++ new2, p.1 ≠ ad ∧ σ.m p.1 = none ∧ ∃ n, σ₅.m p.1 = some (.dict (esOf p.2) n) := fun p hp => by
        rcases List.mem_append.mp hp with q | q
        · obtain ⟨o1, o2, n, o3⟩ := outs4 p q
          refine ⟨o1, o2, n, kp5.kept _ _ o3 fun z => ?_⟩
          rcases z with z | z | z
          · exact dm4.not_dyn o3 nofun nofun z
          · rw [z, es4] at o3; cases o3
          · exact o1 z
        · obtain ⟨o1, o2, o3⟩ := outs5 p q
          exact ⟨o1, kp14.live _ o2, o3⟩
      have es5' : σ₅.m sl = some (.list (xs ++ (new ++ new2).map fun p => .ref p.1)) := by rw [es5]; simp
      have l5 : (new ++ new2).length ≤ (j + 1) * 4 ^ m := by rw [List.length_append, hsucc]; omega
      -- on to the next turn
      have next : ∀ {Q₂ : AF → Loc → St → Prop} {D2 na5}, (single = true → new ++ new2 = []) → Doms σ₅ W D2 → SameD W (a ++ [(k, v)]) D1 D2 → σ₅.m ad = some (.dict (esOf (a ++ [(k, v)])) na5) → Good W cons L D1 (a ++ [(k, v)]) (new2.map (·.2)) → (∀ ℓ₂ σ₂, RbJ W cons L D a sl ad s single k m pv u4 u5 u6 xs σ (j + 1) ℓ₂ σ₂ → Q₂ .next ℓ₂ σ₂) →
          Ts (BB w h0) A (envC (fdOf (KK w.params) 208) C (rbCs cD cV cA) 208) ((forBody ((bodyOf (KK w.params) 208).getD 7 (.Pass default))).drop 3) (rbF sl s single k pv u4 u5 u6 (some (.int v)) u9 u10 u11) σ₅ Q₂ := fun {Q₂ D2 na5} c1 c2 c3 c4 c5 c6 =>
        fin (D1 := D1) (D2 := D2) (new5 := new ++ new2) kp15 c2 chk (fbps hfb) c3 c4 es5' outs5' l5 c1 (by rw [tk, List.map_append]; exact good.ok hk hkn hvn same chk c5) ((sz4.same c3).sm (node4.same c3)) c6
      have hl10 : (xs ++ (new ++ new2).map fun p => AV.ref p.1).length ≤ 10000 := by simp at l5 ⊢; omega
      refine s_cons (x_if (t_and (t_val (e_local rfl (tru_sq O IsSq.list es5' (le_line hl10) ?_)))))
      by_cases hemp : xs ++ (new ++ new2).map (fun p => AV.ref p.1) = []
      · rw [hemp, if_neg (by decide), if_neg (by decide)]
        refine s_nil (s_nil ?_)
        have hnil : new ++ new2 = [] := by
          have := (List.append_eq_nil_iff.mp hemp).2
          exact List.map_eq_nil_iff.mp this
        rcases alt with ⟨_, q, _⟩ | ⟨D2, na5, c1, c2, c3, c4⟩
        · exact absurd (List.append_eq_nil_iff.mp hnil).2 q
        · exact next (fun _ => hnil) c1 c2 c3 c4 fun _ _ q => q
      · rw [if_pos (by simpa using hemp)]
        refine t_val (e_local rfl (tru_bool ?_))
        cases hsgl : single with
        | false =>
          rw [if_neg (by decide)]
          refine s_nil (s_nil ?_)
          rcases alt with ⟨q, _⟩ | ⟨D2, na5, c1, c2, c3, c4⟩
          · rw [hsgl] at q; cases q
          · rw [← hsgl]
            exact next (fun q => by rw [hsgl] at q; cases q) c1 c2 c3 c4 fun _ _ q => q
        | true =>
          rw [if_pos rfl]
          refine s_cons (x_ret (e_local rfl ?_))
          refine h (new ++ new2) σ₅ kp15 es5' outs5' (Nat.le_trans l5 hpow) (.inl ⟨hsgl, fun q => ?_, fun p hp => ?_⟩)
          · rw [hsg hsgl, q] at hemp; exact hemp rfl
          · rw [hsn hsgl, List.nil_append] at hp
            rcases alt with ⟨_, _, q⟩ | ⟨D2, na5, c1, c2, c3, c4⟩
            · exact q p hp
            · exact (c4.sound p.2 (List.mem_map.mpr ⟨p, hp, rfl⟩)).1
  · rintro ℓ' σ₁ ⟨u8, u9, u10, u11, Dj, na', x, new, rfl, kp, dm, same, hDk, ea1, es1, outs, hlen, hsn, good⟩
    rw [List.length_map] at hlen good
    rw [List.take_length] at good
    refine s_nil ?_
    refine s_cons (x_del (e_cell (c := cA) rfl (kp.kept _ _ ecA (ncell _ _ ecA)) (e_local rfl (di_dict (v := x) ea1 (le_line (by have := node.len; have := sz.1; simp [esOf]; omega)) (by rw [dget_last eNe, if_pos rfl]) fun n2 => ?_))))
    rw [ddel_last eNe]
    have nas : sl ≠ ad := by rintro rfl; rw [ea1] at es1; cases es1
    refine s_cons (x_ret (e_local rfl ?_))
    refine h new _ (kp.put (.inl (.inr (.inr rfl)))) (by rw [put_other nas]; exact es1) (fun p hp => ?_) (Nat.le_trans hlen (by rw [Nat.pow_succ, Nat.mul_comm (4 ^ m) 4]; exact Nat.mul_le_mul_right _ h4)) (.inr ⟨Dj, n2, dm.put fun i hi => ?_, same, put_same .., good.done hk hkn⟩)
    · obtain ⟨o1, o2, n, o3⟩ := outs p hp
      exact ⟨o1, o2, n, by rw [put_other o1]; exact o3⟩
    · refine ⟨?_, ?_, ?_, ?_⟩ <;> rintro rfl
      · have := (dm i hi).obj; rw [ea1] at this; cases this
      · have := (dm i hi).ns; rw [ea1] at this; cases this
      · have := (dm i hi).hid; rw [ea1] at this; cases this
      · have := (dm i hi).sts; rw [ea1] at this; cases this
end
end Mine
set_option maxHeartbeats 200000
set_option maxHeartbeats 4000000
namespace Mine
variable {w : World} {h0 : Heap} {A : Around} {σ σ' σ'' : St} {ℓ ℓ' : Loc}
variable {W : Wd} {cons : List CE} {L : Nat → List Int} {D : Nat → Dm} {a : Asg} {dd vd av sl ad s sx : Addr} {nd nvd na m k : Nat} {vv : Nat → Addr} {R : Nat → List (Addr × Nat)} {fc single : Bool} {xs : List AV} {Q : AV → St → Prop}
theorem pairs_get' {α : Type} {ts : List (Addr × α)} {j : Nat} {v : AV} (h : (ts.map fun p => AV.ref p.1)[j]? = some v) : ∃ h' : j < ts.length, v = .ref ts[j].1 := by
  rw [List.getElem?_map] at h
  obtain ⟨x, h1, h2⟩ := Option.map_eq_some_iff.mp h
  obtain ⟨h3, h4⟩ := List.getElem?_eq_some_iff.mp h1
  exact ⟨h3, by rw [← h2, h4]⟩
theorem idx3 : seqIndex? (-1) 3 = some 2 := by decide
theorem rb_step (O : (BB w h0).Ok) (sp : W.Sep) (u : Unary cons L) (nad : ad ≠ dd ∧ ad ≠ vd) (far : FarL W cons av vv sl) (hn4 : W.n ≤ 60) (ih : ∀ m', m = m' + 1 → RbC w h0 W cons L dd vd av sl ad s sx nd nvd vv R fc single m') :
    RbC w h0 W cons L dd vd av sl ad s sx nd nvd vv R fc single m := by
  intro A σ D a na xs Q hm lo ds sz node N sv ea esl hxs hsg h
  have ne : ∀ e ∈ cons, e.C.vs ≠ [] ∧ ∀ i ∈ e.C.vs, i < W.n := fun e he => ⟨(N.ok e he).ne, (N.ok e he).lt⟩
  refine (fn_codeC O (k := 20 * (m + 1) - 1) (n := 6) (ps := ["self", "solutions", "domains", "vconstraints", "assignments", "single"]) (ds := []) (lo.mono (by omega)) rfl rfl rfl (fun s g X => BindsTo.of_eq rfl) rfl rfl (fun C hC => ?_)).callf
  refine cells_skip (cells_skip (cells_new fun cD hcD => cells_new fun cV hcV => cells_new fun cA hcA => cells_skip (cells_skip (cells_skip (cells_skip (cells_skip (cells_skip (cells_skip (cells_skip (cells_skip (cells_skip (cells_nil ?_)))))))))))) 
  have hDV : cD ≠ cV := by rintro rfl; rw [put_same] at hcV; cases hcV
  have hVA : cV ≠ cA := by rintro rfl; rw [put_same] at hcA; cases hcA
  have hDA : cD ≠ cA := by rintro rfl; rw [put_other hDV, put_same] at hcA; cases hcA
  have fV : σ.m cV = none := by rw [put_other hDV.symm] at hcV; exact hcV
  have fA : σ.m cA = none := by rw [put_other hVA.symm, put_other hDA.symm] at hcA; exact hcA
  refine binds_loc (binds_loc (binds_cell (c := cD) (v₀ := none) rfl (by rw [put_other hDA, put_other hDV, put_same]) (binds_cell (c := cV) (v₀ := none) rfl (by rw [put_other hDV.symm, put_other hVA, put_same]) (binds_cell (c := cA) (v₀ := none) rfl (by rw [put_other hVA.symm, put_other hDA.symm, put_same]) (binds_loc (binds_nil ?_))))))
  have kp0 : Kp (fun _ => False) σ ((((((σ.put cD (.cell none)).put cV (.cell none)).put cA (.cell none)).put cD (.cell (some (.ref dd)))).put cV (.cell (some (.ref vd)))).put cA (.cell (some (.ref ad)))) := by
    refine ⟨fun b o e _ => ?_, fun b e => ?_, rfl⟩
    · have n1 : b ≠ cD := by rintro rfl; rw [hcD] at e; cases e
      have n2 : b ≠ cV := by rintro rfl; rw [fV] at e; cases e
      have n3 : b ≠ cA := by rintro rfl; rw [fA] at e; cases e
      rw [put_other n3, put_other n2, put_other n1, put_other n3, put_other n2, put_other n1]; exact e
    · by_cases n1 : b = cD
      · subst n1; exact hcD
      by_cases n2 : b = cV
      · subst n2; exact fV
      by_cases n3 : b = cA
      · subst n3; exact fA
      rw [put_other n3, put_other n2, put_other n1, put_other n3, put_other n2, put_other n1] at e; exact e
  have ecD0 : ((((((σ.put cD (.cell none)).put cV (.cell none)).put cA (.cell none)).put cD (.cell (some (.ref dd)))).put cV (.cell (some (.ref vd)))).put cA (.cell (some (.ref ad)))).m cD = some (.cell (some (.ref dd))) := by rw [put_other hDA, put_other hDV, put_same]
  have ecV0 : ((((((σ.put cD (.cell none)).put cV (.cell none)).put cA (.cell none)).put cD (.cell (some (.ref dd)))).put cV (.cell (some (.ref vd)))).put cA (.cell (some (.ref ad)))).m cV = some (.cell (some (.ref vd))) := by rw [put_other hVA, put_same]
  have ecA0 : ((((((σ.put cD (.cell none)).put cV (.cell none)).put cA (.cell none)).put cD (.cell (some (.ref dd)))).put cV (.cell (some (.ref vd)))).put cA (.cell (some (.ref ad)))).m cA = some (.cell (some (.ref ad))) := put_same ..
  generalize ((((((σ.put cD (.cell none)).put cV (.cell none)).put cA (.cell none)).put cD (.cell (some (.ref dd)))).put cV (.cell (some (.ref vd)))).put cA (.cell (some (.ref ad)))) = σ₀ at kp0 ecD0 ecV0 ecA0 ⊢
  rw [frm_all rbN, upd_frm (i := 0) rfl (by simp), upd_frm (i := 1) rfl (by simp), upd_frm (i := 2) rfl (by simp)]
  have ds0 : Doms σ₀ W D := ds.kp kp0 fun b q => q.elim
  have N0 := N.new ds kp0
  have lo' : Lo (20 * (m + 1) - 1) (A.deeper (envC (fdOf (KK w.params) 208) C (rbCs cD cV cA) 208)) := Lo.deeper (by have : 20 * (m + 1) - 1 + 1 = 20 * (m + 1) := by omega
                                                                                                                     rw [this]; exact lo)
  refine x_lst O (cD := cD) (cV := cV) (lo'.mono (by omega)) ds0 (sz.sm node) N0 hn4 (fun i hi => row_len N hi) rfl rfl rfl rfl ecD0 ecV0 rfl rfl rfl (fun _ => rfl) (fun _ => rfl) (fun _ => rfl) (fun _ => rfl) (fun _ => rfl) rfl rfl rfl rfl fun l qs σ₁ kp1 hl items => ?_
  rw [setL_frm (i := 4) rfl (by simp)]
  have kp01 := kp0.trans kp1
  have ds1 : Doms σ₁ W D := ds.kp kp01 fun b q => q.elim
  have N1 := N.new ds kp01
  have ea1 := kp01.kept _ _ ea id
  have es1 := kp01.kept _ _ esl id
  have ecD1 := kp1.kept _ _ ecD0 id
  have ecV1 := kp1.kept _ _ ecV0 id
  have ecA1 := kp1.kept _ _ ecA0 id
  have sv1 := sv.keep kp01 id id
  refine s_cons (x_for (e_local rfl ?_))
  refine ⟨_, _, _, fun j ℓ' σ' => ∃ u, ℓ' = frm rbN [some (.ref s), some (.ref sl), some (.bool single), none, some (.ref l), u, none, none, none, none, none, none] ∧ σ₁ = σ' ∧ ∀ p ∈ qs.take j, look a p.2 ≠ none, it_list lo'.hh items.at', ⟨none, rfl, rfl, by simp⟩, ?_, ?_, ?_⟩
  · rintro _ _ _ ⟨_, _, rfl, _⟩; exact items.at'
  · rintro j v ℓ' σ' hj hv ⟨uu, rfl, rfl, hall⟩
    obtain ⟨hj', rfl⟩ := pairs_get' hv
    have hmem := List.getElem_mem hj'
    obtain ⟨x, y, et⟩ := items.tup _ hmem
    have tk : qs.take (j + 1) = qs.take j ++ [qs[j]] := List.take_succ_eq_append_getElem hj'
    have hkn : qs[j].2 < W.n := List.mem_range.mp (items.perm.mem_iff.mp (List.mem_map.mpr ⟨_, hmem, rfl⟩))
    generalize hq : qs[j] = qj at hmem et tk hkn
    obtain ⟨t, k⟩ := qj
    dsimp only at et hkn
    refine a_local ?_
    rw [upd_frm (i := 5) rfl (by simp)]
    refine s_cons (x_if (t_cmp (e_sub (e_local rfl (e_una (e_int (una_neg ⟨gp_of O et rfl, gi_tup et (k := 2) idx3 (v := .int (k : Nat)) rfl ?_⟩)))))))
    refine e_cell (c := cA) rfl ecA1 (cmp_notin_dict ea1 (tru_bool ?_))
    rw [dget_look]
    cases hlk : look a k with
    | some y =>
      rw [if_neg (by simp)]
      refine s_nil (s_nil ⟨_, rfl, rfl, fun p hp => ?_⟩)
      rw [tk] at hp
      rcases List.mem_append.mp hp with q | q
      · exact hall p q
      · obtain rfl := List.mem_singleton.mp q
        show look a k ≠ none
        rw [hlk]; exact nofun
    | none =>
      rw [if_pos (by simp)]
      refine s_cons (x_brk ?_)
      have hmk : ∃ m', m = m' + 1 := by
        have h1 : (a.map (·.1) ++ [k]).length ≤ (List.range W.n).length := by
          refine List.Nodup.length_le_of_subset ?_ fun i hi => ?_
          · rw [List.nodup_append]
            refine ⟨node.nod, by simp, fun x hx y hy e => ?_⟩
            simp at hy; subst hy; subst e
            exact look_some.mpr hx hlk
          · rcases List.mem_append.mp hi with q | q
            · obtain ⟨p, hp, rfl⟩ := List.mem_map.mp q
              exact List.mem_range.mpr (node.lt p hp)
            · rw [List.mem_singleton.mp q]; exact List.mem_range.mpr hkn
        simp at h1
        exact ⟨m - 1, by omega⟩
      obtain ⟨m', rfl⟩ := hmk
      -- variable = item[-1]
      refine s_cons (x_assign (e_sub (e_local rfl (e_una (e_int (una_neg ⟨gp_of O et rfl, gi_tup et (k := 2) idx3 (v := .int (k : Nat)) rfl (a_local ?_)⟩))))))
      rw [upd_frm (i := 3) rfl (by simp)]
      -- assignments[variable] = None
      have eNe := esOf_ne hlk
      refine s_cons (x_assign (e_none (a_sub (e_cell (c := cA) rfl ecA1 (e_local rfl (si_dict ea1 (le_line (by have := node.len; have := sz.1; simp [esOf]; omega)) fun na2 => ?_))))))
      rw [dset_new eNe]
      have kp2 : Kp (RbS W sl ad) σ₁ (σ₁.put ad (.dict (esOf a ++ [((k : Int), .none)]) na2)) := Kp.refl.put (.inl (.inr (.inr rfl)))
      have ds2 : Doms (σ₁.put ad (.dict (esOf a ++ [((k : Int), .none)]) na2)) W D := ds1.put fun i hi => by
        refine ⟨?_, ?_, ?_, ?_⟩ <;> rintro rfl
        · have := (ds1 i hi).obj; rw [ea1] at this; cases this
        · have := (ds1 i hi).ns; rw [ea1] at this; cases this
        · have := (ds1 i hi).hid; rw [ea1] at this; cases this
        · have := (ds1 i hi).sts; rw [ea1] at this; cases this
      have ea2 : (σ₁.put ad (.dict (esOf a ++ [((k : Int), .none)]) na2)).m ad = some (.dict (esOf a ++ [((k : Int), .none)]) na2) := put_same ..
      generalize hσ2 : σ₁.put ad (.dict (esOf a ++ [((k : Int), .none)]) na2) = σ₂ at kp2 ds2 ea2 ⊢
      have keep2 : ∀ {b o}, σ₁.m b = some o → (∀ es n, o ≠ .dict es n) → σ₂.m b = some o := fun {b o} e q => by
        rw [← hσ2, put_other]; · exact e
        rintro rfl; rw [ea1] at e; cases e; exact q _ _ rfl
      have N2 := N1.rb ds1 far nad es1 ea1 kp2
      have sv2 : SolvAt σ₂ 225 s sx fc := ⟨keep2 sv1.obj nofun, keep2 sv1.ns nofun⟩
      have es2 := keep2 es1 nofun
      have nas : sl ≠ ad := by rintro rfl; rw [ea] at esl; cases esl
      -- self._forwardcheck
      refine s_cons (x_assign (e_attr (e_local rfl (att_own O sv2.obj sv2.ns (by rfl) (a_local ?_) rfl rfl (ga225 _) (at225_forwardcheck _)))))
      rw [upd_frm (i := 6) rfl (by simp)]
      -- the whole's end
      have fin : ∀ {u4 u5 u6 u8 u9 u10 u11 : Option AV} {pv : AV} {ps : List Nat} {σ₃ : St}, Kp (fun _ => False) σ₂ σ₃ → PsOk W a k ps → PdIs σ₃ W pv ps → (∀ l, pv = .ref l → σ₂.m l = none) →
          Ts (BB w h0) (A.deeper (envC (fdOf (KK w.params) 208) C (rbCs cD cV cA) 208)) (envC (fdOf (KK w.params) 208) C (rbCs cD cV cA) 208) ((bodyOf (KK w.params) 208).drop 7) (rbF sl s single k pv u4 u5 u6 u8 u9 u10 u11) σ₃ fun fl _ σ' => Q (retOf fl) σ' := by
        intro u4 u5 u6 u8 u9 u10 u11 pv ps σ₃ kp3 pok pd fpv
        have ea3 := kp3.kept _ _ ea2 id
        have es3 := kp3.kept _ _ es2 id
        have ds3 : Doms σ₃ W D := ds2.kp kp3 fun b q => q.elim
        refine rb_loop O (ih m' rfl) (by omega) (lo'.mono (by omega)) sp ds3 sz node (N2.new ds2 kp3) (sv2.keep kp3 id id) far nad ea3 es3 hxs hsg hlk hkn (kp3.kept _ _ (keep2 ecD1 nofun) id) (kp3.kept _ _ (keep2 ecV1 nofun) id) (kp3.kept _ _ (keep2 ecA1 nofun) id) pok pd (fun l hl => ?_) ?_
        · have f := fpv l hl
          exact ⟨fun q => (by rw [q, es2] at f; cases f), fun q => (by rw [q, ea2] at f; cases f)⟩
        · have kp03 : Kp (RbS W sl ad) σ σ₃ := ((kp01.mono fun b q => q.elim).trans kp2).trans (kp3.mono fun b q => q.elim)
          intro new σ₄ kp4 es4 outs len alt
          exact h new σ₄ (kp03.trans kp4) es4 (fun p hp => by obtain ⟨o1, o2, o3⟩ := outs p hp; exact ⟨o1, kp03.live _ o2, o3⟩) len alt
      refine s_cons (x_if (t_val (e_local rfl (tru_bool ?_))))
      cases fc with
      | false =>
        rw [if_neg (by decide)]
        refine s_cons (x_assign (e_none (a_local ?_)))
        rw [upd_frm (i := 7) rfl (by simp)]
        exact s_nil (fin .refl ⟨.nil, by simp, by simp, .inl rfl⟩ .nil (fun l hl => by cases hl))
      | true =>
        rw [if_pos rfl]
        refine s_cons (x_pdR O (D := D) (p := fun i => (look a i).isNone && decide (i ≠ k)) (cD := cD) (cA := cA) (lo'.mono (by omega)) N2.edd hn4 ea2 (fun i hi => ?_) rfl rfl (keep2 ecD1 nofun) (keep2 ecA1 nofun) rfl rfl rfl (fun _ => rfl) (fun _ => rfl) (fun _ => rfl) (fun _ => rfl) rfl fun pl σ₃ kp3 fpl epl => ?_)
        · rw [dget_last eNe]
          by_cases q : i = k
          · subst q; simp
          · rw [if_neg (by omega), dget_look]
            cases look a i <;> simp [q]
        · rw [setL_frm (i := 7) rfl (by simp)]
          refine s_nil (fin kp3 ⟨List.filter_sublist.nodup List.nodup_range, fun i hi => List.mem_range.mp (List.mem_filter.mp hi).1, fun i hi => ?_, .inr fun i hi h1 h2 => List.mem_filter.mpr ⟨List.mem_range.mpr hi, by rw [h1]; simpa using h2⟩⟩ (.list epl ?_ ?_) (fun l' hl' => by cases hl'; exact fpl))
          · have := (List.mem_filter.mp hi).2
            simpa using this
          · exact fun q => (ds2.live q) fpl
          · refine Nat.le_trans (List.length_filter_le _ _) ?_
            simp; omega
  · rintro ℓ' σ' ⟨uu, rfl, rfl, hall⟩
    rw [List.length_map, List.take_length] at hall
    have all : ∀ i, i < W.n → look a i ≠ none := fun i hi => by
      obtain ⟨p, hp, rfl⟩ := List.mem_map.mp (items.perm.mem_iff.mpr (List.mem_range.mpr hi))
      exact hall p hp
    refine s_cons (x_expr (e_meth (e_local rfl fun pl => ml_append O es1 ?_)))
    refine es_cons (e_meth (e_cell (c := cA) rfl ecA1 fun pl => md_copy O ea1 (es_nil ⟨kee_bi, c_dict_copy ea1 (le_line (by have := node.len; have := sz.1; simp [esOf]; omega)) fun b n' hb => es_nil ⟨kee_bi, c_append O IsSq.list (put_fresh hb es1) (le_line (Nat.le_trans (Nat.le_add_right _ _) hxs)) ?_⟩⟩)))
    have nbs : b ≠ sl := by rintro rfl; rw [es1] at hb; cases hb
    have nba : b ≠ ad := by rintro rfl; rw [ea1] at hb; cases hb
    have nas : ad ≠ sl := by rintro rfl; rw [ea] at esl; cases esl
    refine s_cons (x_ret (e_local rfl ?_))
    refine h [(b, a)] _ (((kp01.mono (S' := RbS W sl ad) fun b q => q.elim).put (.inr hb)).put (.inl (.inr (.inl rfl)))) (by rw [put_same]; rfl) (fun p hp => ?_) (Nat.one_le_pow _ _ (by decide)) (.inr ⟨D, na, (ds1.new hb).put fun i hi => ?_, .refl, by rw [put_other nas]; exact put_fresh hb ea1, Good.leaf node u ne all⟩)
    · obtain rfl := List.mem_singleton.mp hp
      exact ⟨nba, kp01.live _ hb, n', by rw [put_other nbs, put_same]⟩
    · refine ⟨?_, ?_, ?_, ?_⟩ <;> rintro rfl
      · exact far.nd (W.dyn_d hi)
      · have := (ds1 i hi).ns; rw [es1] at this; cases this
      · exact far.nd (W.dyn_h hi)
      · exact far.nd (W.dyn_t hi)
theorem rb_all (O : (BB w h0).Ok) (sp : W.Sep) (u : Unary cons L) (nad : ad ≠ dd ∧ ad ≠ vd) (far : FarL W cons av vv sl) (hn4 : W.n ≤ 60) : ∀ m, RbC w h0 W cons L dd vd av sl ad s sx nd nvd vv R fc single m
  | 0 => rb_step O sp u nad far hn4 fun m' h => by cases h
  | m + 1 => rb_step O sp u nad far hn4 fun m' h => by cases h; exact rb_all O sp u nad far hn4 m
end Mine
set_option maxHeartbeats 200000
set_option maxHeartbeats 4000000
namespace Mine
variable {w : World} {h0 : Heap} {A : Around} {σ σ' σ'' : St} {ℓ ℓ' : Loc}
theorem tru_dict {B : Bs} {d : Addr} {es : List (Int × AV)} {n : Nat} {Q : Bool → St → Prop} (e : σ.m d = some (.dict es n)) (hz : es.length ≤ 10000) (k : Q (!es.isEmpty) σ) : Tru B A (.ref d) σ Q := fun va hv s R => by
  obtain rfl := ab_ref hv
  obtain ⟨kvs, h1, h2, h3⟩ := dict_at R e
  have hl : kvs.length = es.length := by rw [← h2, List.length_map]
  have he : kvs.isEmpty = es.isEmpty := by rw [← h2, List.isEmpty_map]
  exact wpAny_truthy_dict h3 h1.dictOf (by omega) ⟨σ, R.tok, .tok, by rw [he]; exact k⟩
/-- as Kp, but generators may have come -/
structure Kq (S : Addr → Prop) (σ σ' : St) : Prop where
  kept : ∀ b o, σ.m b = some o → ¬ S b → σ'.m b = some o
  live : ∀ b, σ'.m b = none → σ.m b = none
  bare : AllBare σ.g → AllBare σ'.g
theorem Kp.q {S : Addr → Prop} (x : Kp S σ σ') : Kq S σ σ' := ⟨x.kept, x.live, fun h => by rw [x.g]; exact h⟩
theorem Kq.trans {S : Addr → Prop} (x : Kq S σ σ') (y : Kq S σ' σ'') : Kq S σ σ'' := ⟨fun b o e h => y.kept b o (x.kept b o e h) h, fun b e => x.live b (y.live b e), fun h => y.bare (x.bare h)⟩
theorem Kq.mono {S S' : Addr → Prop} (x : Kq S σ σ') (h : ∀ b, S b → S' b) : Kq S' σ σ' := ⟨fun b o e n => x.kept b o e fun q => n (h b q), x.live, x.bare⟩
theorem Kq.tail {S S' : Addr → Prop} (x : Kq S σ σ') (y : Kq S' σ' σ'') (h : ∀ b, S' b → S b ∨ σ.m b = none) : Kq S σ σ'' := by
  refine ⟨fun b o e n => y.kept b o (x.kept b o e n) fun q => ?_, fun b e => x.live b (y.live b e), fun h => y.bare (x.bare h)⟩
  rcases h b q with z | z
  · exact n z
  · rw [z] at e; cases e
theorem FarL.fresh {W : Wd} {D : Nat → Dm} {cons : List CE} {dd vd av : Addr} {nd nvd : Nat} {vv : Nat → Addr} {R : Nat → List (Addr × Nat)} {b : Addr} (N : Net σ W cons dd vd av nd nvd vv R) (ds : Doms σ W D) (h : σ.m b = none) : FarL W cons av vv b := by
  refine ⟨fun q => ds.live q h, fun i hi q => ?_, fun e he => ⟨fun q => ?_, fun l hl q => ?_, fun hf q => ?_⟩⟩
  · have := N.rows.at' i hi; rw [← q, h] at this; cases this
  · have := (N.hvl e he).1; rw [← q, h] at this; cases this
  · rcases (N.ok e he).row with ⟨r, _⟩ | ⟨l', r1, r2, _⟩
    · rw [r] at hl; cases hl
    · rw [r1] at hl; cases hl; rw [← q, h] at r2; cases r2
  · have := (N.ok e he).at'.ml hf; rw [← q, h] at this; cases this
section
variable {W : Wd} {cons : List CE} {L : Nat → List Int} {D : Nat → Dm} {dd vd av cl s sx : Addr} {nd nvd : Nat} {vv : Nat → Addr} {R : Nat → List (Addr × Nat)} {fc : Bool} {Q : AV → St → Prop}
theorem rb_sols (O : (BB w h0).Ok) (lo : Lo (20 * (W.n + 1) + 5) A) (sp : W.Sep) (u : Unary cons L) (ds : Doms σ W D) (sz : Sz W D []) (hn : 4 ^ W.n ≤ 10000) (node : Node W cons L D []) (N : Net σ W cons dd vd av nd nvd vv R) (sv : SolvAt σ 225 s sx fc)
    (h : ∀ sl (new : List (Addr × Asg)) D' σ', Kp W.dyn σ σ' → Doms σ' W D' → SameD W [] D D' → σ'.m sl = some (.list (new.map fun p => .ref p.1)) → (∀ p ∈ new, σ.m p.1 = none ∧ ∃ n, σ'.m p.1 = some (.dict (esOf p.2) n)) → σ.m sl = none → new.length ≤ 4 ^ W.n → Good W cons L D [] (new.map (·.2)) → Q (.ref sl) σ') :
    Callf (BB w h0) A (.ref 222) [.ref s, .ref dd, .ref cl, .ref vd] σ Q := by
  refine call_fn O (k := 20 * (W.n + 1) + 4) (n := 4) (ps := ["self", "domains", "constraints", "vconstraints"]) (ds := []) (rest := []) lo rfl rfl rfl (fun s g X => BindsTo.of_eq rfl) rfl rfl (by decide) (by decide) (by decide) ?_
  intro Lf hL
  refine s_cons (x_ret (e_meth (e_local rfl fun pl => m225rb O sv ?_)))
  refine es_cons (e_list (es_nil ⟨Nat.zero_le _, fun sl hsl => es_cons (e_local rfl (es_cons (e_local rfl (es_cons (e_dict0 fun ad had => es_cons (e_bool (es_nil ⟨kee_fn O rfl, ?_⟩)))))))⟩))
  have kp1 : Kp (fun _ => False) σ (σ.put sl (.list [])) := Kp.refl.put (.inr hsl)
  have kp2 : Kp (fun _ => False) σ ((σ.put sl (.list [])).put ad (.dict [] 0)) := kp1.put (.inr had)
  have fad : σ.m ad = none := kp1.live _ had
  have nas : ad ≠ sl := by rintro rfl; rw [put_same] at had; cases had
  have nad : ad ≠ dd ∧ ad ≠ vd := ⟨fun q => (by have := N.edd; rw [← q, fad] at this; cases this), fun q => (by have := N.evd; rw [← q, fad] at this; cases this)⟩
  refine rb_all O sp u nad (FarL.fresh N ds hsl) sz.1 W.n _ _ D [] 0 [] _ (by simp) ((lo.deeper (n := 20 * (W.n + 1) + 4)).mono (by omega)) (ds.kp kp2 fun b q => q.elim) sz node (N.new ds kp2) (sv.keep kp2 id id) (put_same ..) (by rw [put_other nas.symm, put_same]) (by simpa using hn) (fun _ => rfl) ?_
  intro new σ₁ kp3 es outs len alt
  have kp13 : Kp W.dyn σ σ₁ := (kp2.mono (S' := W.dyn) fun b q => q.elim).tail kp3 fun b q => by
    rcases q with q | rfl | rfl
    · exact .inl q
    · exact .inr hsl
    · exact .inr fad
  rcases alt with ⟨q, _⟩ | ⟨D', na', d1, d2, d3, d4⟩
  · cases q
  · exact h sl new D' σ₁ kp13 d1 d2 es (fun p hp => ⟨kp2.live _ (outs p hp).2.1, (outs p hp).2.2⟩) hsl len d4
theorem rb_sol (O : (BB w h0).Ok) (lo : Lo (20 * (W.n + 1) + 5) A) (sp : W.Sep) (u : Unary cons L) (ds : Doms σ W D) (sz : Sz W D []) (hn : 4 ^ W.n ≤ 10000) (hn1 : 0 < W.n) (node : Node W cons L D []) (N : Net σ W cons dd vd av nd nvd vv R) (sv : SolvAt σ 225 s sx fc)
    (h1 : ∀ σ', Kp W.dyn σ σ' → (∀ f, Safe cons f → (∀ i, i < W.n → f i ∈ (D i).xs) → False) → Q .none σ')
    (h2 : ∀ b t n σ', Kp W.dyn σ σ' → Sol W cons L t → σ'.m b = some (.dict (esOf t) n) → Q (.ref b) σ') :
    Callf (BB w h0) A (.ref 215) [.ref s, .ref dd, .ref cl, .ref vd] σ Q := by
  refine call_fn O (k := 20 * (W.n + 1) + 4) (n := 4) (ps := ["self", "domains", "constraints", "vconstraints"]) (ds := []) (rest := ["solutions"]) lo rfl rfl rfl (fun s g X => BindsTo.of_eq rfl) rfl rfl (by decide) (by decide) (by decide) ?_
  intro Lf hL
  refine s_cons (x_assign (e_meth (e_local rfl fun pl => m225rb O sv ?_)))
  refine es_cons (e_list (es_nil ⟨Nat.zero_le _, fun sl hsl => es_cons (e_local rfl (es_cons (e_local rfl (es_cons (e_dict0 fun ad had => es_cons (e_bool (es_nil ⟨kee_fn O rfl, ?_⟩)))))))⟩))
  have kp1 : Kp (fun _ => False) σ (σ.put sl (.list [])) := Kp.refl.put (.inr hsl)
  have kp2 : Kp (fun _ => False) σ ((σ.put sl (.list [])).put ad (.dict [] 0)) := kp1.put (.inr had)
  have fad : σ.m ad = none := kp1.live _ had
  have nas : ad ≠ sl := by rintro rfl; rw [put_same] at had; cases had
  have nad : ad ≠ dd ∧ ad ≠ vd := ⟨fun q => (by have := N.edd; rw [← q, fad] at this; cases this), fun q => (by have := N.evd; rw [← q, fad] at this; cases this)⟩
  refine rb_all O sp u nad (FarL.fresh N ds hsl) sz.1 W.n _ _ D [] 0 [] _ (by simp) ((lo.deeper (n := 20 * (W.n + 1) + 4)).mono (by omega)) (ds.kp kp2 fun b q => q.elim) sz node (N.new ds kp2) (sv.keep kp2 id id) (put_same ..) (by rw [put_other nas.symm, put_same]) (by simpa using hn) (fun _ => rfl) ?_
  intro new σ₁ kp3 es outs len alt
  have kp13 : Kp W.dyn σ σ₁ := (kp2.mono (S' := W.dyn) fun b q => q.elim).tail kp3 fun b q => by
    rcases q with q | rfl | rfl
    · exact .inl q
    · exact .inr hsl
    · exact .inr fad
  rw [List.nil_append] at es
  refine a_local ?_
  rw [upd_frm (i := 4) rfl (by simp)]
  refine s_cons (x_ret (e_or (e_and (e_local rfl (tru_sq O IsSq.list es (le_line (by rw [List.length_map]; omega)) ?_)))))
  cases new with
  | nil =>
    rw [if_neg (by decide)]
    refine tru_sq O IsSq.list es (le_line (by simp)) ?_
    rw [if_neg (by decide)]
    refine e_none (h1 σ₁ kp13 fun f hs hf => ?_)
    rcases alt with ⟨_, q, _⟩ | ⟨D', na', d1, d2, d3, d4⟩
    · exact q rfl
    · obtain ⟨t, ht, _⟩ := d4.comp f hs (fun i v hv => by cases hv) fun i hi _ => hf i hi
      cases ht
  | cons p r =>
    rw [if_pos (by rfl)]
    obtain ⟨o1, o2, n, o3⟩ := outs p (List.mem_cons_self ..)
    have hs : Sol W cons L p.2 := by
      rcases alt with ⟨_, _, q⟩ | ⟨D', na', d1, d2, d3, d4⟩
      · exact q p (List.mem_cons_self ..)
      · exact (d4.sound p.2 (List.mem_map.mpr ⟨p, List.mem_cons_self .., rfl⟩)).1
    refine e_sub (e_local rfl (e_int ⟨gp_of O es rfl, gi_list es (by decide) (le_line (by rw [List.length_map]; omega)) (v := .ref p.1) rfl ?_⟩))
    have hl : (esOf p.2).length ≤ 10000 := by
      have := List.Nodup.length_le_of_subset hs.nod (l₂ := List.range W.n) fun i hi => List.mem_range.mpr ((hs.all i).mp hi)
      have := sz.1
      simp only [esOf, List.length_map, List.length_range] at *; omega
    have hne : esOf p.2 ≠ [] := fun q => by
      have := (hs.all 0).mpr hn1
      unfold esOf at q
      rw [List.map_eq_nil_iff.mp q] at this; cases this
    refine tru_dict o3 hl ?_
    rw [if_pos (by simpa using hne)]
    exact h2 p.1 p.2 n σ₁ kp13 hs o3
end
end Mine
set_option maxHeartbeats 200000
set_option linter.unusedSimpArgs false
set_option maxHeartbeats 4000000
namespace Mine
-- plain law of the search with a stack
/-- what stands on the heap for a name with values left -/
structure Fh where
  k : Nat
  vals : List Int
  ps : List Nat
  vl : Addr
  pv : AV
structure Fm extends Fh where
  a : Asg
  D : Nat → Dm
structure Fq where
  f : Fm
  t : Addr
  v : Int
variable {W : Wd} {cons : List CE} {L : Nat → List Int} {D D' D1 D2 D00 : Nat → Dm} {a : Asg} {es : List Nat} {k : Nat} {v : Int} {R : Nat → List (Addr × Nat)} {fr : List Fq} {f : Fm} {told : List Asg}
structure FmG (W : Wd) (cons : List CE) (L : Nat → List Int) (f : Fm) : Prop where
  node : Node W cons L f.D f.a
  sz : Sz W f.D f.a
  hk : look f.a f.k = none
  hkn : f.k < W.n
  pok : PsOk W f.a f.k f.ps
  nod : f.vals.Nodup
  sub : ∀ v ∈ f.vals, v ∈ (f.D f.k).xs
  ne : ∀ i, i < W.n → (f.D i).xs ≠ []
def Sunk (W : Wd) (cons : List CE) (R : Nat → List (Addr × Nat)) (f : Fm) (v : Int) (D : Nat → Dm) : Prop :=
  ∃ D1, ChkP W cons (f.a ++ [(f.k, v)]) ((R f.k).map (·.2)) (onD pushOne f.ps f.D) D1 ∧ (f.ps = [] → D1 = onD pushOne f.ps f.D) ∧ SameD W (f.a ++ [(f.k, v)]) D1 D
def Chain (W : Wd) (cons : List CE) (L : Nat → List Int) (R : Nat → List (Addr × Nat)) (D00 : Nat → Dm) : List Fq → (Nat → Dm) → Asg → Prop
  | [], D, a => a = [] ∧ SameD W [] D00 D
  | q :: r, D, a => a = q.f.a ++ [(q.f.k, q.v)] ∧ FmG W cons L q.f ∧ q.v ∉ q.f.vals ∧ q.v ∈ (q.f.D q.f.k).xs ∧ Sunk W cons R q.f q.v D ∧ Chain W cons L R D00 r q.f.D q.f.a
theorem Chain.same (x : Chain W cons L R D00 fr D a) (s : SameD W a D D') : Chain W cons L R D00 fr D' a := by
  cases fr with
  | nil => obtain ⟨rfl, h⟩ := x; exact ⟨rfl, h.trans s⟩
  | cons q r =>
    obtain ⟨rfl, h1, h2, h3, ⟨D1, h4, h5, h6⟩, h7⟩ := x
    exact ⟨rfl, h1, h2, h3, ⟨D1, h4, h5, h6.trans s⟩, h7⟩
def Ext (a t : Asg) : Prop := ∀ i v, look a i = some v → look t i = some v
theorem Ext.refl : Ext a a := fun _ _ h => h
theorem Ext.snoc (h : look a k = none) : Ext a (a ++ [(k, v)]) := fun i u e => by
  rw [look_snoc h, if_neg (by rintro rfl; rw [h] at e; cases e)]; exact e
theorem Ext.trans {a b c : Asg} (x : Ext a b) (y : Ext b c) : Ext a c := fun i v h => y i v (x i v h)
theorem Chain.look : ∀ {fr : List Fq} {D : Nat → Dm} {a : Asg}, Chain W cons L R D00 fr D a → ∀ q ∈ fr, Mine.look a q.f.k = some q.v ∧ q.v ∉ q.f.vals ∧ Ext q.f.a a
  | [], _, _, _ => by simp
  | p :: r, D, a, x => by
    obtain ⟨rfl, h1, h2, h3, h4, h7⟩ := x
    intro q hq
    rcases List.mem_cons.mp hq with e | e
    · subst e
      exact ⟨by rw [look_snoc h1.hk, if_pos rfl], h2, Ext.snoc h1.hk⟩
    · obtain ⟨e1, e2, e3⟩ := Chain.look h7 q e
      exact ⟨Ext.snoc h1.hk _ _ e1, e2, e3.trans (Ext.snoc h1.hk)⟩
theorem Chain.len : ∀ {fr : List Fq} {D : Nat → Dm} {a : Asg}, Chain W cons L R D00 fr D a → a.length = fr.length
  | [], _, _, x => by obtain ⟨rfl, _⟩ := x; rfl
  | p :: r, D, a, x => by
    obtain ⟨rfl, h1, h2, h3, h4, h7⟩ := x
    have := Chain.len h7
    simp [this]
/-- the ways that are still to come under a name -/
def InR (W : Wd) (f : Fm) (g : Way) : Prop := Agr f.a g ∧ g f.k ∈ f.vals ∧ ∀ i, i < W.n → look f.a i = none → g i ∈ (f.D i).xs
def TouR (f : Fm) (t : Asg) : Prop := Ext f.a t ∧ ∃ u ∈ f.vals, look t f.k = some u
def PW (W : Wd) (fr : List Fq) (g : Way) : Prop := ∃ q ∈ fr, InR W q.f g
def PT (fr : List Fq) (t : Asg) : Prop := ∃ q ∈ fr, TouR q.f t
structure Cov (W : Wd) (cons : List CE) (L : Nat → List Int) (D00 : Nat → Dm) (told : List Asg) (P : Way → Prop) (T : Asg → Prop) : Prop where
  sound : ∀ t ∈ told, Sol W cons L t
  nod : told.Pairwise fun s t => ∃ i, i < W.n ∧ look s i ≠ look t i
  comp : ∀ g, Safe cons g → (∀ i, i < W.n → g i ∈ (D00 i).xs) → (∃ t ∈ told, ∀ i, i < W.n → look t i = some (g i)) ∨ P g
  disj : ∀ t ∈ told, ¬ T t
theorem Cov.imp {P P' : Way → Prop} {T T' : Asg → Prop} (x : Cov W cons L D00 told P T) (h1 : ∀ g, Safe cons g → P g → P' g) (h2 : ∀ t, T' t → T t) : Cov W cons L D00 told P' T' :=
  ⟨x.sound, x.nod, fun g a b => (x.comp g a b).imp_right (h1 g a), fun t ht q => x.disj t ht (h2 t q)⟩
/-- the ways under a node -/
def InN (W : Wd) (D : Nat → Dm) (a : Asg) (g : Way) : Prop := Agr a g ∧ ∀ i, i < W.n → look a i = none → g i ∈ (D i).xs
theorem cov_expand (x : Cov W cons L D00 told (fun g => InN W D a g ∨ PW W fr g) (fun t => Ext a t ∨ PT fr t)) (hk : look a f.k = none) (hkn : f.k < W.n) (ea : f.a = a) (eD : f.D = D) (ev : f.vals = (D f.k).xs) : Cov W cons L D00 told (fun g => InR W f g ∨ PW W fr g) (fun t => TouR f t ∨ PT fr t) := by
  refine x.imp (fun g _ h => h.imp_left fun ⟨h1, h2⟩ => ⟨by rw [ea]; exact h1, by rw [ev]; exact h2 _ hkn hk, by rw [ea, eD]; exact h2⟩) fun t h => h.imp_left fun ⟨h1, _⟩ => by rw [← ea]; exact h1
theorem cov_tell (x : Cov W cons L D00 told (fun g => InN W D a g ∨ PW W fr g) (fun t => Ext a t ∨ PT fr t)) (s : Sol W cons L a) (ch : Chain W cons L R D00 fr D a) : Cov W cons L D00 (told ++ [a]) (PW W fr) (PT fr) := by
  have all : ∀ i, i < W.n → look a i ≠ none := fun i hi => look_some.mpr ((s.all i).mpr hi)
  have lt : ∀ i v, look a i = some v → i < W.n := fun i v h => (s.all i).mp (look_some.mp (by rw [h]; exact nofun))
  refine ⟨fun t ht => ?_, ?_, fun g h1 h2 => ?_, fun t ht q => ?_⟩
  · rcases List.mem_append.mp ht with q | q
    · exact x.sound t q
    · rw [List.mem_singleton.mp q]; exact s
  · rw [List.pairwise_append]
    refine ⟨x.nod, List.pairwise_singleton _ _, fun t ht b hb => ?_⟩
    obtain rfl := List.mem_singleton.mp hb
    have h1 : ¬ Ext b t := fun q => x.disj t ht (.inl q)
    unfold Ext at h1
    simp only [Classical.not_forall] at h1
    obtain ⟨i, v, h2, h3⟩ := h1
    exact ⟨i, lt i v h2, fun e => h3 (e.trans h2)⟩
  · rcases x.comp g h1 h2 with ⟨t, t1, t2⟩ | ⟨h3, _⟩ | h3
    · exact .inl ⟨t, List.mem_append_left _ t1, t2⟩
    · refine .inl ⟨a, List.mem_append_right _ (List.mem_singleton.mpr rfl), fun i hi => ?_⟩
      obtain ⟨v, hv⟩ := Option.ne_none_iff_exists'.mp (all i hi)
      rw [hv, h3 i v hv]
    · exact .inr h3
  · rcases List.mem_append.mp ht with r | r
    · exact x.disj t r (.inr q)
    · obtain rfl := List.mem_singleton.mp r
      obtain ⟨p, hp, h1, u, hu, h2⟩ := q
      obtain ⟨e1, e2, _⟩ := ch.look p hp
      rw [e1] at h2; cases h2; exact e2 hu
theorem cov_fail {vs : List Int} (x : Cov W cons L D00 told (fun g => InR W f g ∨ PW W fr g) (fun t => TouR f t ∨ PT fr t)) (hv : f.vals = vs ++ [v]) (hk : look f.a f.k = none) (chk : ChkP W cons (f.a ++ [(f.k, v)]) es (onD pushOne f.ps f.D) D1) (no : ChkNo W cons (f.a ++ [(f.k, v)]) es D1) {f' : Fm} (e1 : f'.a = f.a) (e2 : f'.k = f.k) (e3 : f'.vals = vs) (e4 : f'.D = f.D) : Cov W cons L D00 told (fun g => InR W f' g ∨ PW W fr g) (fun t => TouR f' t ∨ PT fr t) := by
  refine x.imp (fun g hs h => ?_) fun t h => h.imp_left fun ⟨h1, u, h2, h3⟩ => ⟨by rw [← e1]; exact h1, u, by rw [hv]; exact List.mem_append_left _ (e3 ▸ h2), by rw [← e2]; exact h3⟩
  rcases h with ⟨h1, h2, h3⟩ | h
  · rw [hv] at h2
    rcases List.mem_append.mp h2 with q | q
    · exact .inl ⟨by rw [e1]; exact h1, by rw [e2, e3]; exact q, by rw [e1, e4]; exact h3⟩
    · exfalso
      have ha := agr_snoc hk h1 (List.mem_singleton.mp q)
      refine no.unsafe hs ha (chk.safe hs ha fun i hi hl => ?_)
      rw [onD_xs]
      rw [look_snoc hk] at hl
      split at hl
      · cases hl
      · exact h3 i hi hl
  · exact .inr h
theorem cov_down {vs : List Int} (x : Cov W cons L D00 told (fun g => InR W f g ∨ PW W fr g) (fun t => TouR f t ∨ PT fr t)) (hv : f.vals = vs ++ [v]) (hk : look f.a f.k = none) (chk : ChkP W cons (f.a ++ [(f.k, v)]) es (onD pushOne f.ps f.D) D1) {q : Fq} (e1 : q.f.a = f.a) (e2 : q.f.k = f.k) (e3 : q.f.vals = vs) (e4 : q.f.D = f.D) : Cov W cons L D00 told (fun g => InN W D1 (f.a ++ [(f.k, v)]) g ∨ PW W (q :: fr) g) (fun t => Ext (f.a ++ [(f.k, v)]) t ∨ PT (q :: fr) t) := by
  refine x.imp (fun g hs h => ?_) fun t h => ?_
  · rcases h with ⟨h1, h2, h3⟩ | ⟨p, hp, h⟩
    · rw [hv] at h2
      rcases List.mem_append.mp h2 with z | z
      · exact .inr ⟨q, List.mem_cons_self .., by rw [e1]; exact h1, by rw [e2, e3]; exact z, by rw [e1, e4]; exact h3⟩
      · have ha := agr_snoc hk h1 (List.mem_singleton.mp z)
        refine .inl ⟨ha, chk.safe hs ha fun i hi hl => ?_⟩
        rw [onD_xs]
        rw [look_snoc hk] at hl
        split at hl
        · cases hl
        · exact h3 i hi hl
    · exact .inr ⟨p, List.mem_cons_of_mem _ hp, h⟩
  · rcases h with h | ⟨p, hp, h⟩
    · exact .inl ⟨(Ext.snoc hk).trans h, v, by rw [hv]; exact List.mem_append_right _ (List.mem_singleton.mpr rfl), h _ _ (by rw [look_snoc hk, if_pos rfl])⟩
    · rcases List.mem_cons.mp hp with z | z
      · subst z
        obtain ⟨h1, u, h2, h3⟩ := h
        exact .inl ⟨by rw [← e1]; exact h1, u, by rw [hv]; exact List.mem_append_left _ (e3 ▸ h2), by rw [← e2]; exact h3⟩
      · exact .inr ⟨p, z, h⟩
theorem cov_empty (x : Cov W cons L D00 told (fun g => InR W f g ∨ PW W fr g) (fun t => TouR f t ∨ PT fr t)) (h : f.vals = []) : Cov W cons L D00 told (PW W fr) (PT fr) :=
  x.imp (fun g _ q => q.resolve_left fun ⟨_, q, _⟩ => by rw [h] at q; cases q) fun t q => .inr q
theorem cov_up {q : Fq} (x : Cov W cons L D00 told (PW W (q :: fr)) (PT (q :: fr))) (s : SameD W q.f.a q.f.D f.D) (e1 : f.a = q.f.a) (e2 : f.k = q.f.k) (e3 : f.vals = q.f.vals) : Cov W cons L D00 told (fun g => InR W f g ∨ PW W fr g) (fun t => TouR f t ∨ PT fr t) := by
  refine x.imp (fun g _ h => ?_) fun t h => ?_
  · obtain ⟨p, hp, h⟩ := h
    rcases List.mem_cons.mp hp with z | z
    · subst z
      obtain ⟨h1, h2, h3⟩ := h
      exact .inl ⟨by rw [e1]; exact h1, by rw [e2, e3]; exact h2, fun i hi hl => (s i hi).2.2.2.mem_iff.mpr (h3 i hi (by rw [← e1]; exact hl))⟩
    · exact .inr ⟨p, z, h⟩
  · rcases h with ⟨h1, u, h2, h3⟩ | ⟨p, hp, h⟩
    · exact ⟨q, List.mem_cons_self .., by rw [← e1]; exact h1, u, by rw [← e3]; exact h2, by rw [← e2]; exact h3⟩
    · exact ⟨p, List.mem_cons_of_mem _ hp, h⟩
theorem Cov.good (x : Cov W cons L D00 told (PW W []) (PT [])) : Good W cons L D00 [] told :=
  ⟨fun t ht => ⟨x.sound t ht, fun i v h => (by cases h)⟩, x.nod, fun g h1 h2 h3 => (x.comp g h1 fun i hi => h3 i hi rfl).resolve_right fun ⟨q, hq, _⟩ => by cases hq⟩
theorem Cov.start : Cov W cons L D [] (fun g => InN W D [] g ∨ PW W [] g) (fun t => Ext [] t ∨ PT [] t) :=
  ⟨by simp, .nil, fun g _ h => .inr (.inl ⟨fun i v q => (by cases q), fun i hi _ => h i hi⟩), by simp⟩
/-- measures: turns and leaves -/
def tw : Nat → Nat
  | 0 => 1
  | h + 1 => 1 + 4 * tw h
theorem tw_pos (h : Nat) : 1 ≤ tw h := by cases h <;> simp [tw]
def mu (W : Wd) (fr : List Fq) : Nat := (fr.map fun q => q.f.vals.length * tw (W.n - (q.f.a.length + 1))).sum
def lam (W : Wd) (fr : List Fq) : Nat := (fr.map fun q => q.f.vals.length * 4 ^ (W.n - (q.f.a.length + 1))).sum
theorem mu_cons {q : Fq} : mu W (q :: fr) = q.f.vals.length * tw (W.n - (q.f.a.length + 1)) + mu W fr := by unfold mu; simp
theorem lam_cons {q : Fq} : lam W (q :: fr) = q.f.vals.length * 4 ^ (W.n - (q.f.a.length + 1)) + lam W fr := by unfold lam; simp
theorem look_free_len (N : Node W cons L D a) (hk : look a k = none) (hkn : k < W.n) : a.length + 1 ≤ W.n := by
  have h1 : (a.map (·.1) ++ [k]).length ≤ (List.range W.n).length := by
    refine List.Nodup.length_le_of_subset ?_ fun i hi => ?_
    · rw [List.nodup_append]
      refine ⟨N.nod, by simp, fun x hx y hy e => ?_⟩
      simp at hy; subst hy; subst e
      exact look_some.mpr hx hk
    · rcases List.mem_append.mp hi with q | q
      · obtain ⟨p, hp, rfl⟩ := List.mem_map.mp q
        exact List.mem_range.mpr (N.lt p hp)
      · rw [List.mem_singleton.mp q]; exact List.mem_range.mpr hkn
  simp at h1; omega
theorem tw_step {n l len : Nat} (h : l + 1 ≤ n) (h4 : len ≤ 4) : len * tw (n - (l + 1)) + 1 ≤ tw (n - l) ∧ len * 4 ^ (n - (l + 1)) ≤ 4 ^ (n - l) := by
  obtain ⟨m, rfl⟩ : ∃ m, n = l + 1 + m := ⟨n - (l + 1), by omega⟩
  have e1 : l + 1 + m - (l + 1) = m := by omega
  have e2 : l + 1 + m - l = m + 1 := by omega
  rw [e1, e2]
  have h1 : len * tw m ≤ 4 * tw m := Nat.mul_le_mul_right _ h4
  have h2 : len * 4 ^ m ≤ 4 * 4 ^ m := Nat.mul_le_mul_right _ h4
  have h3 : tw (m + 1) = 1 + 4 * tw m := rfl
  exact ⟨by omega, by rw [Nat.pow_succ]; omega⟩
end Mine
set_option maxHeartbeats 200000
set_option linter.unusedSimpArgs false
set_option maxHeartbeats 4000000
namespace Mine
variable {w : World} {h0 : Heap} {A : Around} {σ σ' σ'' σ0 : St} {ℓ ℓ' : Loc}
variable {W : Wd} {cons : List CE} {L : Nat → List Int} {D D' D00 : Nat → Dm} {a : Asg} {dd vd av ad qa cD cV cA cX : Addr} {nd nvd : Nat} {vv : Nat → Addr} {R : Nat → List (Addr × Nat)} {mu : List Fh} {fr : List Fq} {outs : List (Addr × Asg)}
/-- where the generator writes -/
def gS (W : Wd) (ad qa cX : Addr) (b : Addr) : Prop := W.dyn b ∨ b = ad ∨ b = qa ∨ b = cX
structure GCtx (σ0 : St) (W : Wd) (cons : List CE) (L : Nat → List Int) (D00 : Nat → Dm) (dd vd av ad qa cD cV cA cX : Addr) (nd nvd : Nat) (vv : Nat → Addr) (R : Nat → List (Addr × Nat)) : Prop where
  sp : W.Sep
  u : Unary cons L
  ds0 : Doms σ0 W D00
  N0 : Net σ0 W cons dd vd av nd nvd vv R
  far : FarL W cons av vv qa
  nad : ad ≠ dd ∧ ad ≠ vd
  ea0 : ∃ es n, σ0.m ad = some (.dict es n)
  eq0 : ∃ xs, σ0.m qa = some (.list xs)
  eX0 : ∃ u, σ0.m cX = some (.cell u)
  ecD : σ0.m cD = some (.cell (some (.ref dd)))
  ecV : σ0.m cV = some (.cell (some (.ref vd)))
  ecA : σ0.m cA = some (.cell (some (.ref ad)))
  nX : cX ≠ cD ∧ cX ≠ cV ∧ cX ≠ cA
  hn : W.n ≤ 60
structure GInv (σ0 : St) (W : Wd) (ad qa cX : Addr) (σ : St) (mu : List Fh) (fr : List Fq) (outs : List (Addr × Asg)) : Prop where
  kp : Kp (gS W ad qa cX) σ0 σ
  q : σ.m qa = some (.list (fr.reverse.map fun q => .ref q.t))
  tup : ∀ q ∈ fr, σ0.m q.t = none ∧ σ.m q.t = some (.tup [.int (q.f.k : Nat), .ref q.f.vl, q.f.pv])
  fm : ∀ f ∈ mu, σ.m f.vl = some (.list (iv f.vals)) ∧ PdIs σ W f.pv f.ps
  nod : (mu.map (·.vl)).Nodup
  far : ∀ f ∈ mu, σ0.m f.vl = none
  pv : ∀ f ∈ mu, ∀ l, f.pv = .ref l → σ0.m l = none ∧ ∀ f' ∈ mu, l ≠ f'.vl
  outs : ∀ p ∈ outs, σ0.m p.1 = none ∧ ∃ n, σ.m p.1 = some (.dict (esOf p.2) n)
variable (X : GCtx σ0 W cons L D00 dd vd av ad qa cD cV cA cX nd nvd vv R)
include X
theorem GCtx.fresh {b : Addr} (h : σ0.m b = none) : ¬ gS W ad qa cX b := by
  rintro (q | rfl | rfl | rfl)
  · exact X.ds0.live q h
  · obtain ⟨es, n, e⟩ := X.ea0; rw [h] at e; cases e
  · obtain ⟨xs, e⟩ := X.eq0; rw [h] at e; cases e
  · obtain ⟨u, e⟩ := X.eX0; rw [h] at e; cases e
theorem GCtx.ne : ad ≠ qa ∧ ad ≠ cX ∧ qa ≠ cX := by
  obtain ⟨es, n, e1⟩ := X.ea0
  obtain ⟨xs, e2⟩ := X.eq0
  obtain ⟨u, e3⟩ := X.eX0
  refine ⟨?_, ?_, ?_⟩ <;> rintro rfl
  · rw [e1] at e2; cases e2
  · rw [e1] at e3; cases e3
  · rw [e2] at e3; cases e3
theorem GCtx.ndA : ¬ W.dyn ad := by obtain ⟨es, n, e1⟩ := X.ea0; exact X.ds0.not_dyn e1 nofun nofun
theorem GCtx.ndX : ¬ W.dyn cX := by obtain ⟨u, e1⟩ := X.eX0; exact X.ds0.not_dyn e1 nofun nofun
theorem GInv.net (x : GInv σ0 W ad qa cX σ mu fr outs) : Net σ W cons dd vd av nd nvd vv R := by
  refine X.N0.kp (D := D00) x.kp (fun b o e q => ?_) X.ds0
  rcases q with q | rfl | rfl | rfl
  · exact .inl q
  · obtain ⟨es, n, e1⟩ := X.ea0; rw [e1] at e; cases e
    exact .inr (.inl ⟨_, _, rfl, X.nad.1, X.nad.2⟩)
  · obtain ⟨xs, e1⟩ := X.eq0; rw [e1] at e; cases e
    exact .inr (.inr (.inr ⟨_, rfl, X.far.nv, X.far.nc⟩))
  · obtain ⟨u, e1⟩ := X.eX0; rw [e1] at e; cases e
    exact .inr (.inr (.inl ⟨_, rfl⟩))
theorem GInv.cells (x : GInv σ0 W ad qa cX σ mu fr outs) : σ.m cD = some (.cell (some (.ref dd))) ∧ σ.m cV = some (.cell (some (.ref vd))) ∧ σ.m cA = some (.cell (some (.ref ad))) := by
  have key : ∀ {c v}, σ0.m c = some (.cell v) → cX ≠ c → ¬ gS W ad qa cX c := fun {c v} e n q => by
    rcases q with q | rfl | rfl | rfl
    · exact X.ds0.not_dyn e nofun nofun q
    · obtain ⟨es, n, e1⟩ := X.ea0; rw [e1] at e; cases e
    · obtain ⟨xs, e1⟩ := X.eq0; rw [e1] at e; cases e
    · exact n rfl
  exact ⟨x.kp.kept _ _ X.ecD (key X.ecD X.nX.1), x.kp.kept _ _ X.ecV (key X.ecV X.nX.2.1), x.kp.kept _ _ X.ecA (key X.ecA X.nX.2.2)⟩
theorem GInv.keep {S : Addr → Prop} (x : GInv σ0 W ad qa cX σ mu fr outs) (k : Kp S σ σ') (hS : ∀ b, S b → W.dyn b ∨ b = ad ∨ b = cX) : GInv σ0 W ad qa cX σ' mu fr outs := by
  have hS' : ∀ b, S b → gS W ad qa cX b := fun b q => by
    rcases hS b q with h | h | h
    · exact .inl h
    · exact .inr (.inl h)
    · exact .inr (.inr (.inr h))
  have keep : ∀ {b o}, σ0.m b = none → σ.m b = some o → σ'.m b = some o := fun h e => k.kept _ _ e fun q => X.fresh h (hS' _ q)
  refine ⟨x.kp.trans (k.mono hS'), k.kept _ _ x.q fun q => ?_, fun q hq => ⟨(x.tup q hq).1, keep (x.tup q hq).1 (x.tup q hq).2⟩, fun f hf => ⟨keep (x.far f hf) (x.fm f hf).1, (x.fm f hf).2.kp k fun l hl q => X.fresh (x.pv f hf l hl).1 (hS' _ q)⟩, x.nod, x.far, x.pv, fun p hp => ?_⟩
  · rcases hS _ q with h | h | h
    · exact X.far.nd h
    · exact X.ne.1 h.symm
    · exact X.ne.2.2 h
  · obtain ⟨h1, n, h2⟩ := x.outs p hp
    exact ⟨h1, n, keep h1 h2⟩
theorem GInv.new (x : GInv σ0 W ad qa cX σ mu fr outs) (k : Kp (fun _ => False) σ σ') : GInv σ0 W ad qa cX σ' mu fr outs := x.keep X k fun _ q => q.elim
theorem GInv.dyn (x : GInv σ0 W ad qa cX σ mu fr outs) (k : Kp W.dyn σ σ') : GInv σ0 W ad qa cX σ' mu fr outs := x.keep X k fun _ q => .inl q
theorem GInv.putA {o : AObj} (x : GInv σ0 W ad qa cX σ mu fr outs) : GInv σ0 W ad qa cX (σ.put ad o) mu fr outs := x.keep X (S := fun b => b = ad) (Kp.refl.put (.inl rfl)) fun _ q => .inr (.inl q)
theorem GInv.putX {o : AObj} (x : GInv σ0 W ad qa cX σ mu fr outs) : GInv σ0 W ad qa cX (σ.put cX o) mu fr outs := x.keep X (S := fun b => b = cX) (Kp.refl.put (.inl rfl)) fun _ q => .inr (.inr q)
theorem Kp.put0 {S : Addr → Prop} {b : Addr} {o : AObj} (x : Kp S σ0 σ) (h : S b ∨ σ0.m b = none) : Kp S σ0 (σ.put b o) :=
  x.tail (S' := fun c => c = b) (Kp.refl.put (.inl rfl)) fun c q => by rw [q]; exact h
theorem GInv.popV {h : Fh} {vs : List Int} (x : GInv σ0 W ad qa cX σ (h :: mu) fr outs) : GInv σ0 W ad qa cX (σ.put h.vl (.list (iv vs))) ({ h with vals := vs } :: mu) fr outs := by
  have hf := x.far h (List.mem_cons_self ..)
  have hnod := x.nod
  rw [List.map_cons, List.nodup_cons] at hnod
  have nq : qa ≠ h.vl := by rintro rfl; obtain ⟨xs, e⟩ := X.eq0; rw [hf] at e; cases e
  have pvk : ∀ f ∈ h :: mu, PdIs (σ.put h.vl (.list (iv vs))) W f.pv f.ps := fun f hf' => (x.fm f hf').2.kp (S := fun b => b = h.vl) (Kp.refl.put (.inl rfl)) fun l hl q => (x.pv f hf' l hl).2 h (List.mem_cons_self ..) q
  refine ⟨Kp.put0 X x.kp (.inr hf), by rw [put_other nq]; exact x.q, fun q hq => ⟨(x.tup q hq).1, ?_⟩, fun f hf' => ?_, x.nod, fun f hf' => ?_, fun f hf' l hl => ?_, fun p hp => ?_⟩
  · rw [put_other]; · exact (x.tup q hq).2
    intro e
    have h1 := (x.tup q hq).2
    rw [e, (x.fm h (List.mem_cons_self ..)).1] at h1; cases h1
  · rcases List.mem_cons.mp hf' with e | e
    · subst e
      exact ⟨put_same .., pvk h (List.mem_cons_self ..)⟩
    · refine ⟨?_, pvk f (List.mem_cons_of_mem _ e)⟩
      rw [put_other]; · exact (x.fm f (List.mem_cons_of_mem _ e)).1
      intro q; exact hnod.1 (List.mem_map.mpr ⟨f, e, q⟩)
  · rcases List.mem_cons.mp hf' with e | e
    · subst e; exact hf
    · exact x.far f (List.mem_cons_of_mem _ e)
  · have old : ∀ g ∈ h :: mu, g.pv = f.pv → σ0.m l = none ∧ ∀ f' ∈ { h with vals := vs } :: mu, l ≠ f'.vl := fun g hg e => by
      obtain ⟨h1, h2⟩ := x.pv g hg l (e.trans hl)
      refine ⟨h1, fun f' hf'' => ?_⟩
      rcases List.mem_cons.mp hf'' with e | e
      · subst e; exact h2 h (List.mem_cons_self ..)
      · exact h2 f' (List.mem_cons_of_mem _ e)
    rcases List.mem_cons.mp hf' with e | e
    · subst e; exact old h (List.mem_cons_self ..) rfl
    · exact old f (List.mem_cons_of_mem _ e) rfl
  · obtain ⟨h1, n, h2⟩ := x.outs p hp
    refine ⟨h1, n, ?_⟩
    rw [put_other]; · exact h2
    intro e
    rw [e, (x.fm h (List.mem_cons_self ..)).1] at h2; cases h2
theorem GInv.putQ {fr' : List Fq} (x : GInv σ0 W ad qa cX σ mu fr outs) (h : ∀ q ∈ fr', σ0.m q.t = none ∧ σ.m q.t = some (.tup [.int (q.f.k : Nat), .ref q.f.vl, q.f.pv])) : GInv σ0 W ad qa cX (σ.put qa (.list (fr'.reverse.map fun q => .ref q.t))) mu fr' outs := by
  have old : ∀ {b : Addr}, σ0.m b = none → b ≠ qa := fun h e => by obtain ⟨xs, e1⟩ := X.eq0; rw [e, e1] at h; cases h
  refine ⟨Kp.put0 X x.kp (.inl (.inr (.inr (.inl rfl)))), put_same .., fun q hq => ⟨(h q hq).1, by rw [put_other (old (h q hq).1)]; exact (h q hq).2⟩, fun f hf => ⟨by rw [put_other (old (x.far f hf))]; exact (x.fm f hf).1, (x.fm f hf).2.kp (S := fun b => b = qa) (Kp.refl.put (.inl rfl)) fun l hl q => old (x.pv f hf l hl).1 q⟩, x.nod, x.far, x.pv, fun p hp => ?_⟩
  obtain ⟨h1, n, h2⟩ := x.outs p hp
  exact ⟨h1, n, by rw [put_other (old h1)]; exact h2⟩
theorem GInv.cur {h : Fh} (x : GInv σ0 W ad qa cX σ mu fr outs) (k : Kp (fun _ => False) σ σ') (h1 : σ.m h.vl = none) (h2 : σ'.m h.vl = some (.list (iv h.vals))) (h3 : PdIs σ' W h.pv h.ps) (h4 : ∀ l, h.pv = .ref l → σ.m l = none ∧ l ≠ h.vl) : GInv σ0 W ad qa cX σ' (h :: mu) fr outs := by
  have y := x.new X k
  refine ⟨y.kp, y.q, y.tup, fun f hf => ?_, ?_, fun f hf => ?_, fun f hf l hl => ?_, y.outs⟩
  · rcases List.mem_cons.mp hf with e | e
    · subst e; exact ⟨h2, h3⟩
    · exact y.fm f e
  · rw [List.map_cons, List.nodup_cons]
    refine ⟨fun q => ?_, x.nod⟩
    obtain ⟨f, hf, e⟩ := List.mem_map.mp q
    have := (x.fm f hf).1
    rw [e, h1] at this; cases this
  · rcases List.mem_cons.mp hf with e | e
    · subst e; exact x.kp.live _ h1
    · exact x.far f e
  · rcases List.mem_cons.mp hf with e | e
    · subst e
      obtain ⟨g1, g2⟩ := h4 l hl
      refine ⟨x.kp.live _ g1, fun f' hf' => ?_⟩
      rcases List.mem_cons.mp hf' with e | e
      · subst e; exact g2
      · rintro rfl; rw [(x.fm f' e).1] at g1; cases g1
    · obtain ⟨g1, g2⟩ := x.pv f e l hl
      refine ⟨g1, fun f' hf' => ?_⟩
      rcases List.mem_cons.mp hf' with e' | e'
      · subst e'
        rintro rfl
        have := (x.fm f e).2
        rw [hl] at this
        cases this with
        | list e n hz => rw [h1] at e; cases e
      · exact g2 f' e'
theorem GInv.tell {b : Addr} (x : GInv σ0 W ad qa cX σ mu fr outs) (h1 : σ.m b = none) {n : Nat} : GInv σ0 W ad qa cX (σ.put b (.dict (esOf a) n)) mu fr (outs ++ [(b, a)]) := by
  have y := x.new X (Kp.refl.put (a := b) (o := .dict (esOf a) n) (.inr h1))
  refine ⟨y.kp, y.q, y.tup, y.fm, y.nod, y.far, y.pv, fun p hp => ?_⟩
  rcases List.mem_append.mp hp with e | e
  · exact y.outs p e
  · obtain rfl := List.mem_singleton.mp e
    exact ⟨x.kp.live _ h1, n, put_same ..⟩
end Mine
set_option maxHeartbeats 200000
set_option linter.unusedSimpArgs false
set_option linter.unusedSectionVars false
set_option maxHeartbeats 4000000
namespace Mine
variable {w : World} {h0 : Heap} {A : Around} {σ σ' σ'' σ0 : St} {ℓ ℓ' : Loc}
variable {W : Wd} {cons : List CE} {L : Nat → List Int} {D D' D00 : Nat → Dm} {a : Asg} {dd vd av ad qa cD cV cA cX C s cl : Addr} {nd nvd : Nat} {vv : Nat → Addr} {R : Nat → List (Addr × Nat)} {muL : List Fh} {fr : List Fq} {outs : List (Addr × Asg)} {fc : Bool} {u4 u5 u6 u7 u8 u9 u10 : Option AV} {q : Fq} {r : List Fq}
abbrev gN : List Str := ["self", "constraints", "forwardcheck", "queue", "lst", "item", "values", "pushdomains", "domain", "constraint", "variables"]
abbrev gCs (cD cV cA cX : Addr) : List (Str × Addr) := [("variable", cX), ("assignments", cA), ("vconstraints", cV), ("domains", cD)]
noncomputable abbrev gF (s cl qa : Addr) (fc : Bool) (u4 u5 u6 u7 u8 u9 u10 : Option AV) : Loc := frm gN [some (.ref s), some (.ref cl), some (.bool fc), some (.ref qa), u4, u5, u6, u7, u8, u9, u10]
noncomputable abbrev gEnv (P : Params) (C cD cV cA cX : Addr) : Env := envC (fdOf (KK P) 169) C (gCs cD cV cA cX) 169
def whBody : Stmt → List Stmt
  | .While _ b _ _ => b
  | _ => []
def ifBody : Stmt → List Stmt
  | .If _ b _ _ => b
  | _ => []
def forElse : Stmt → List Stmt
  | .For _ _ _ e _ => e
  | _ => []
def noSt : Stmt := .Pass default
noncomputable abbrev gOut (P : Params) : List Stmt := whBody ((bodyOf (KK P) 169).getD 3 noSt)
noncomputable abbrev gIn (P : Params) : List Stmt := whBody ((gOut P).getD 3 noSt)
noncomputable abbrev gQ (P : Params) : List Stmt := whBody ((ifBody ((gIn P).getD 0 noSt)).getD 1 noSt)
theorem Chain.szm (x : Chain W cons L R D00 (q :: r) D a) : Sz W D a ∧ Sm W D := by
  obtain ⟨rfl, h1, h2, h3, ⟨D1, h4, h5, h6⟩, h7⟩ := x
  have sz : Sz W D (q.f.a ++ [(q.f.k, q.v)]) := (((h1.sz.push (v := q.v) h1.pok).chk h4).same h6)
  refine ⟨sz, fun i hi => ?_⟩
  have := look_free_len h1.node h1.hk h1.hkn
  have h8 := sz.1; have h9 := sz.2 i hi
  simp at h9; omega
theorem GInv.drop {h : Fh} (x : GInv σ0 W ad qa cX σ (h :: muL) fr outs) : GInv σ0 W ad qa cX σ muL fr outs :=
  ⟨x.kp, x.q, x.tup, fun f hf => x.fm f (List.mem_cons_of_mem _ hf), (List.nodup_cons.mp x.nod).2, fun f hf => x.far f (List.mem_cons_of_mem _ hf), fun f hf l hl => ⟨(x.pv f (List.mem_cons_of_mem _ hf) l hl).1, fun f' hf' => (x.pv f (List.mem_cons_of_mem _ hf) l hl).2 f' (List.mem_cons_of_mem _ hf')⟩, x.outs⟩
theorem Doms.putOut {b : Addr} {o o' : AObj} (ds : Doms σ W D) (nd : ¬ W.dyn b) (e : σ.m b = some o') (hn : ∀ k m, o' ≠ .ns k m) : Doms (σ.put b o) W D := ds.put fun i hi => by
  refine ⟨?_, ?_, ?_, ?_⟩ <;> rintro rfl
  · exact nd (W.dyn_d hi)
  · rw [(ds i hi).ns] at e; cases e; exact hn _ _ rfl
  · exact nd (W.dyn_h hi)
  · exact nd (W.dyn_t hi)
section
variable (X : GCtx σ0 W cons L D00 dd vd av ad qa cD cV cA cX nd nvd vv R)
include X
/-- back to the name before -/
theorem g_up (O : (BB w h0).Ok) {rest : List Stmt} {Q : AF → Loc → St → Prop} {p1 p2 p3 p4 p5 p6 p7 p8 p9 pa pb pc pd pe pf pg ph : Pos} {kk : Nat} {xk : Option AV} (lo : Lo 10 A)
    (hl1 : (p6.endLine == p7.line) = true) (hsa : swapsWithSole [.Tuple [.Name "variable" p1, .Name "values" p2, .Name "pushdomains" p3] kk p4] (.Call (.Attribute (.Name "queue" p5) "pop" p6) [] [] p7) p8.line (gEnv w.params C cD cV cA cX) = pure false) (hsb : swappedStores [.Tuple [.Name "variable" p1, .Name "values" p2, .Name "pushdomains" p3] kk p4] (.Call (.Attribute (.Name "queue" p5) "pop" p6) [] [] p7) (gEnv w.params C cD cV cA cX) = pure none)
    (hl2 : (pd.endLine == pe.line) = true) (hsw : swapsWith (.Call (.Attribute (.Name "domain" pc) "popState" pd) [] [] pe) none pf.line (gEnv w.params C cD cV cA cX) = pure false)
    (x : GInv σ0 W ad qa cX σ ((q :: r).map (·.f.toFh)) (q :: r) outs) (ch : Chain W cons L R D00 (q :: r) D a) (ds : Doms σ W D) (hr : r.length ≤ 100) (eX : σ.m cX = some (.cell xk))
    (h : ∀ (D'' : Nat → Dm) u8 σ', GInv σ0 W ad qa cX σ' (q.f.toFh :: r.map (·.f.toFh)) r outs → Doms σ' W D'' → FmG W cons L { q.f with D := D'' } → Chain W cons L R D00 r D'' q.f.a → SameD W q.f.a q.f.D D'' → σ'.m cX = some (.cell (some (.int (q.f.k : Nat)))) → σ'.m ad = σ.m ad →
      Ts (BB w h0) A (gEnv w.params C cD cV cA cX) rest (gF s cl qa fc u4 u5 (some (.ref q.f.vl)) (some q.f.pv) u8 u9 u10) σ' Q) :
    Ts (BB w h0) A (gEnv w.params C cD cV cA cX) (.Assign [.Tuple [.Name "variable" p1, .Name "values" p2, .Name "pushdomains" p3] kk p4] (.Call (.Attribute (.Name "queue" p5) "pop" p6) [] [] p7) p8 ::
      .If (.Name "pushdomains" p9) [.For (.Name "domain" pa) (.Name "pushdomains" pb) [.Expr (.Call (.Attribute (.Name "domain" pc) "popState" pd) [] [] pe) pf] [] pg] [] ph :: rest) (gF s cl qa fc u4 u5 u6 u7 u8 u9 u10) σ Q := by
  obtain ⟨sz, sm⟩ := ch.szm
  obtain ⟨rfl, g1, g2, g3, ⟨D1, g4, g5, g6⟩, g7⟩ := ch
  have eq := x.q
  rw [List.reverse_cons, List.map_append] at eq
  have et := (x.tup q (List.mem_cons_self ..)).2
  have nqt : q.t ≠ qa := by rintro e; rw [e, eq] at et; cases et
  have nqX : qa ≠ cX := X.ne.2.2
  refine s_cons (x_assign (e_meth (e_local rfl fun pl => ml_pop O eq (es_nil ⟨kee_bi, c_pop O IsSq.list eq (le_line (by simp; omega)) ?_⟩)) rfl rfl rfl hl1) hsa hsb rfl)
  have x1 : GInv σ0 W ad qa cX (σ.put qa (.list (r.reverse.map fun q => .ref q.t))) ((q :: r).map (·.f.toFh)) r outs := x.putQ X fun p hp => x.tup p (List.mem_cons_of_mem _ hp)
  have ds1 : Doms (σ.put qa (.list (r.reverse.map fun q => .ref q.t))) W D := ds.putOut X.far.nd eq nofun
  have eX1 : (σ.put qa (.list (r.reverse.map fun q => .ref q.t))).m cX = some (.cell xk) := by rw [put_other nqX.symm]; exact eX
  have et1 : (σ.put qa (.list (r.reverse.map fun q => .ref q.t))).m q.t = some (.tup [.int (q.f.k : Nat), .ref q.f.vl, q.f.pv]) := by rw [put_other nqt]; exact et
  refine a_tuple lo.hh et1 rfl (a_cell (c := cX) rfl eX1 (a_local (a_local (ta_nil ?_))))
  rw [upd_frm (i := 6) rfl (by simp), upd_frm (i := 7) rfl (by simp)]
  have x2 := x1.putX X (o := .cell (some (.int (q.f.k : Nat))))
  have ds2 := ds1.putOut (o := .cell (some (.int (q.f.k : Nat)))) X.ndX eX1 nofun
  have eA2 : ((σ.put qa (.list (r.reverse.map fun q => .ref q.t))).put cX (.cell (some (.int (q.f.k : Nat))))).m ad = σ.m ad := by rw [put_other X.ne.2.1, put_other X.ne.1]
  have eX2 : ((σ.put qa (.list (r.reverse.map fun q => .ref q.t))).put cX (.cell (some (.int (q.f.k : Nat))))).m cX = some (.cell (some (.int (q.f.k : Nat)))) := put_same ..
  generalize ((σ.put qa (.list (r.reverse.map fun q => .ref q.t))).put cX (.cell (some (.int (q.f.k : Nat))))) = σ₂ at x2 ds2 eA2 eX2 ⊢
  obtain ⟨pok2, same2, hk2⟩ := back g1.hk g1.pok g4 g5 g6
  have pd := (x2.fm q.f.toFh (List.mem_cons_self ..)).2
  refine s_cons (x_pop O (lo.mono (by decide)) rfl rfl rfl hl2 rfl hsw X.sp ds2 sm pd g1.pok.nod g1.pok.lt rfl pok2 fun u8 σ₃ kp3 dm3 => ?_)
  rw [setL_frm (i := 8) rfl (by simp)]
  have ndA : ¬ W.dyn ad := X.ndA
  have eA3 : σ₃.m ad = σ.m ad := by
    obtain ⟨o, ho⟩ : ∃ o, σ.m ad = some o := by
      obtain ⟨es, n, e⟩ := X.ea0
      cases e2 : σ.m ad with
      | none => rw [x.kp.live _ e2] at e; cases e
      | some o => exact ⟨o, rfl⟩
    rw [ho]; exact kp3.kept _ _ (eA2.trans ho) ndA
  refine h (onD popOne q.f.ps D) u8 σ₃ (x2.dyn X kp3) dm3 ⟨g1.node.same same2, g1.sz.same same2, g1.hk, g1.hkn, g1.pok, g1.nod, fun v hv => ?_, fun i hi => ?_⟩ (g7.same same2) same2 (kp3.kept _ _ eX2 X.ndX) eA3
  · show v ∈ (onD popOne q.f.ps D q.f.k).xs
    rw [hk2 g1.hkn]; exact g1.sub v hv
  · intro e
    have := (same2 i hi).2.2.2.length_eq
    rw [e] at this
    exact g1.ne i hi (List.length_eq_zero_iff.mp this.symm)
end
end Mine
set_option maxHeartbeats 200000
set_option linter.unusedSimpArgs false
set_option linter.unusedSectionVars false
set_option maxHeartbeats 4000000
namespace Mine
variable {w : World} {h0 : Heap} {A : Around} {σ σ' σ'' σ0 : St} {ℓ ℓ' : Loc}
variable {W : Wd} {cons : List CE} {L : Nat → List Int} {D D' D00 : Nat → Dm} {a : Asg} {dd vd av ad qa cD cV cA cX C s cl : Addr} {nd nvd : Nat} {vv : Nat → Addr} {R : Nat → List (Addr × Nat)} {muL : List Fh} {fr : List Fq} {outs : List (Addr × Asg)} {fc : Bool} {u4 u5 u6 u7 u8 u9 u10 : Option AV} {q : Fq} {r : List Fq} {cur : Fm} {m N' : Nat}
structure InS (σ0 : St) (W : Wd) (cons : List CE) (L : Nat → List Int) (D00 : Nat → Dm) (R : Nat → List (Addr × Nat)) (ad qa cX : Addr) (outs : List (Addr × Asg)) (m N' : Nat) (σ : St) (cur : Fm) (fr : List Fq) : Prop where
  inv : GInv σ0 W ad qa cX σ (cur.toFh :: fr.map (·.f.toFh)) fr outs
  ds : Doms σ W cur.D
  g : FmG W cons L cur
  ch : Chain W cons L R D00 fr cur.D cur.a
  eX : σ.m cX = some (.cell (some (.int (cur.k : Nat))))
  cov : Cov W cons L D00 (outs.map (·.2)) (fun g => InR W cur g ∨ PW W fr g) (fun t => TouR cur t ∨ PT fr t)
  mu : cur.vals.length * tw (W.n - (cur.a.length + 1)) + mu W fr ≤ m
  lam : cur.vals.length * 4 ^ (W.n - (cur.a.length + 1)) + lam W fr ≤ N'
  ea : ∃ es na, σ.m ad = some (.dict es na) ∧ (es = esOf cur.a ∧ cur.vals ≠ [] ∨ ∃ x, es = esOf cur.a ++ [(((cur.k : Nat) : Int), x)])
structure BrS (σ0 : St) (W : Wd) (cons : List CE) (L : Nat → List Int) (D00 : Nat → Dm) (R : Nat → List (Addr × Nat)) (ad qa cX : Addr) (outs : List (Addr × Asg)) (m N' : Nat) (σ : St) (cur : Fm) (v : Int) (D1 : Nat → Dm) (fr : List Fq) : Prop where
  inv : GInv σ0 W ad qa cX σ (cur.toFh :: fr.map (·.f.toFh)) fr outs
  ds : Doms σ W D1
  g : FmG W cons L cur
  nv : v ∉ cur.vals
  vD : v ∈ (cur.D cur.k).xs
  sunk : Sunk W cons R cur v D1
  ch : Chain W cons L R D00 fr cur.D cur.a
  node : Node W cons L D1 (cur.a ++ [(cur.k, v)])
  ne : ∀ i, i < W.n → (D1 i).xs ≠ []
  ea : ∃ na, σ.m ad = some (.dict (esOf (cur.a ++ [(cur.k, v)])) na)
  eX : σ.m cX = some (.cell (some (.int (cur.k : Nat))))
  cov : ∀ t, Cov W cons L D00 (outs.map (·.2)) (fun g => InN W D1 (cur.a ++ [(cur.k, v)]) g ∨ PW W (⟨cur, t, v⟩ :: fr) g) (fun t' => Ext (cur.a ++ [(cur.k, v)]) t' ∨ PT (⟨cur, t, v⟩ :: fr) t')
  mu : tw (W.n - (cur.a.length + 1)) + (cur.vals.length * tw (W.n - (cur.a.length + 1)) + mu W fr) ≤ m
  lam : 4 ^ (W.n - (cur.a.length + 1)) + (cur.vals.length * 4 ^ (W.n - (cur.a.length + 1)) + lam W fr) ≤ N'
theorem snoc_of_ne {α : Type} : ∀ {l : List α}, l ≠ [] → ∃ vs v, l = vs ++ [v] := fun {l} h => ⟨l.dropLast, l.getLast h, (List.dropLast_concat_getLast h).symm⟩
section
variable (X : GCtx σ0 W cons L D00 dd vd av ad qa cD cV cA cX nd nvd vv R)
include X
theorem g_main (O : (BB w h0).Ok) {Q : AF → Loc → St → Prop} (lo : Lo 12 A) (x : InS σ0 W cons L D00 R ad qa cX outs m N' σ cur fr) (hne : cur.vals ≠ []) (hfr : fr.length ≤ 100)
    (hno : ∀ m' cur' u8 u9 u10 σ', m' < m → cur'.vl = cur.vl → cur'.pv = cur.pv → InS σ0 W cons L D00 R ad qa cX outs m' N' σ' cur' fr → Q .next (gF s cl qa fc u4 u5 (some (.ref cur'.vl)) (some cur'.pv) u8 u9 u10) σ')
    (hyes : ∀ cur' v D1 u8 u9 u10 σ', BrS σ0 W cons L D00 R ad qa cX outs m N' σ' cur' v D1 fr → Q .brk (gF s cl qa fc u4 u5 (some (.ref cur'.vl)) (some cur'.pv) u8 u9 u10) σ') :
    Ts (BB w h0) A (gEnv w.params C cD cV cA cX) ((gIn w.params).drop 1) (gF s cl qa fc u4 u5 (some (.ref cur.vl)) (some cur.pv) u8 u9 u10) σ Q := by
  obtain ⟨vs, v, hv⟩ := snoc_of_ne hne
  obtain ⟨inv, ds, g, ch, eX, cov, hmu, hlam, es, na, ea, hes⟩ := x
  have h4 : cur.vals.length ≤ 4 := by
    have h1 : cur.vals.length ≤ (cur.D cur.k).xs.length := List.Nodup.length_le_of_subset g.nod g.sub
    have := (g.sz.2 cur.k g.hkn).1; omega
  have hlv : cur.vals.length = vs.length + 1 := by rw [hv]; simp
  have evl := (inv.fm cur.toFh (List.mem_cons_self ..)).1
  have hal := look_free_len g.node g.hk g.hkn
  have hn := X.hn
  have hvn : v ∉ vs := by
    have := g.nod; rw [hv, List.nodup_append] at this
    exact fun q => this.2.2 v q v (List.mem_singleton.mpr rfl) rfl
  have hvD : v ∈ (cur.D cur.k).xs := g.sub v (by rw [hv]; exact List.mem_append_right _ (List.mem_singleton.mpr rfl))
  have eNe := esOf_ne g.hk
  -- assignments[variable] = values.pop()
  have evl' : σ.m cur.vl = some (.list (iv vs ++ [.int v])) := by rw [evl, hv]; simp
  refine s_cons (x_assign (e_meth (e_local rfl fun pl => ml_pop O evl' (es_nil ⟨kee_bi, c_pop O IsSq.list evl' (le_line (by simp; omega)) ?_⟩))))
  have inv1 := inv.popV X (vs := vs)
  have fvl := inv.far cur.toFh (List.mem_cons_self ..)
  have nvS := X.fresh fvl
  have nAv : ad ≠ cur.vl := fun e => nvS (.inr (.inl e.symm))
  have nXv : cX ≠ cur.vl := fun e => nvS (.inr (.inr (.inr e.symm)))
  have ndv : ¬ W.dyn cur.vl := fun e => nvS (.inl e)
  have ds1 := ds.putOut (o := .list (iv vs)) ndv evl nofun
  have ea1 : (σ.put cur.vl (.list (iv vs))).m ad = some (.dict es na) := by rw [put_other nAv]; exact ea
  have eX1 : (σ.put cur.vl (.list (iv vs))).m cX = some (.cell (some (.int (cur.k : Nat)))) := by rw [put_other nXv]; exact eX
  have cells1 := inv1.cells X
  have hesl : es.length ≤ 10000 := by
    have := g.node.len
    rcases hes with ⟨e, _⟩ | ⟨x, e⟩ <;> rw [e] <;> simp [esOf] <;> omega
  refine a_sub (e_cell (c := cA) rfl cells1.2.2 (e_cell (c := cX) rfl eX1 (si_dict ea1 (le_line hesl) fun na2 => ?_)))
  have hds : dset es ((cur.k : Nat) : Int) (.int v) = esOf (cur.a ++ [(cur.k, v)]) := by
    rw [esOf_snoc]
    rcases hes with ⟨e, _⟩ | ⟨x, e⟩ <;> rw [e]
    · exact dset_new eNe
    · exact dset_last eNe
  rw [hds]
  have inv2 := inv1.putA X (o := .dict (esOf (cur.a ++ [(cur.k, v)])) na2)
  have ds2 := ds1.putOut (o := .dict (esOf (cur.a ++ [(cur.k, v)])) na2) X.ndA ea1 nofun
  have ea2 : ((σ.put cur.vl (.list (iv vs))).put ad (.dict (esOf (cur.a ++ [(cur.k, v)])) na2)).m ad = some (.dict (esOf (cur.a ++ [(cur.k, v)])) na2) := put_same ..
  have eX2 : ((σ.put cur.vl (.list (iv vs))).put ad (.dict (esOf (cur.a ++ [(cur.k, v)])) na2)).m cX = some (.cell (some (.int (cur.k : Nat)))) := by rw [put_other X.ne.2.1.symm]; exact eX1
  generalize ((σ.put cur.vl (.list (iv vs))).put ad (.dict (esOf (cur.a ++ [(cur.k, v)])) na2)) = σ₂ at inv2 ds2 ea2 eX2 ⊢
  have pd2 := (inv2.fm _ (List.mem_cons_self ..)).2
  have smc : Sm W cur.D := g.sz.sm g.node
  -- push
  refine s_cons (x_push O (lo.mono (by decide)) rfl rfl rfl rfl rfl rfl X.sp ds2 smc pd2 g.pok.nod g.pok.lt rfl fun u8 σ₃ kp3 dm3 => ?_)
  rw [setL_frm (i := 8) rfl (by simp)]
  have inv3 := inv2.dyn X kp3
  have ea3 := kp3.kept _ _ ea2 X.ndA
  have eX3 := kp3.kept _ _ eX2 X.ndX
  have cells3 := inv3.cells X
  have N3 := inv3.net X
  have szp : Sz W (onD pushOne cur.ps cur.D) (cur.a ++ [(cur.k, v)]) := g.sz.push g.pok
  have smp : Sm W (onD pushOne cur.ps cur.D) := fun i hi => by
    have h2 := szp.2 i hi
    simp at h2; omega
  have pd3 := (inv3.fm _ (List.mem_cons_self ..)).2
  have npd : ∀ l, cur.pv = .ref l → ¬ W.dyn l := fun l hl q => X.fresh (inv.pv cur.toFh (List.mem_cons_self ..) l hl).1 (.inl q)
  have hm1 : (vs.length + 1) * tw (W.n - (cur.a.length + 1)) = vs.length * tw (W.n - (cur.a.length + 1)) + tw (W.n - (cur.a.length + 1)) := Nat.succ_mul ..
  have hl1 : (vs.length + 1) * 4 ^ (W.n - (cur.a.length + 1)) = vs.length * 4 ^ (W.n - (cur.a.length + 1)) + 4 ^ (W.n - (cur.a.length + 1)) := Nat.succ_mul ..
  rw [hlv] at hmu hlam
  rw [hm1] at hmu
  rw [hl1] at hlam
  have htw := tw_pos (W.n - (cur.a.length + 1))
  have fbps : ∀ {D1 : Nat → Dm}, ((!cur.ps.isEmpty) = false → D1 = onD pushOne cur.ps cur.D) → (cur.ps = [] → D1 = onD pushOne cur.ps cur.D) := fun q e => q (by rw [e]; rfl)
  have gsub : ∀ u ∈ vs, u ∈ (cur.D cur.k).xs := fun u hu => g.sub u (by rw [hv]; exact List.mem_append_left _ hu)
  have gnod : vs.Nodup := by have := g.nod; rw [hv, List.nodup_append] at this; exact this.1
  refine s_cons (x_check O (fb := !cur.ps.isEmpty) (a := cur.a ++ [(cur.k, v)]) (lo.mono (by decide)) rfl rfl rfl rfl X.sp dm3 smp N3 g.hkn ea3 (.cell cV rfl cells3.2.1 rfl) (.cell cX rfl eX3 rfl) (.cell cD rfl cells3.1 rfl) (.cell cA rfl cells3.2.2 rfl) rfl pd3.fc npd ?_ ?_)
  · -- a constraint said no
    intro u9 u10 σ₄ D1 kp4 dm4 chk hfb no
    unfold set2
    rw [setL_frm (i := 9) rfl (by simp), setL_frm (i := 10) rfl (by simp)]
    obtain ⟨pok2, same2, hk2⟩ := back g.hk g.pok chk (fbps hfb) SameD.refl
    have inv4 := inv3.dyn X kp4
    have ea4 := kp4.kept _ _ ea3 X.ndA
    have eX4 := kp4.kept _ _ eX3 X.ndX
    have pd4 := (inv4.fm _ (List.mem_cons_self ..)).2
    refine s_cons (x_pop O (lo.mono (by decide)) rfl rfl rfl rfl rfl rfl X.sp dm4 (fun i hi => ?_) pd4 g.pok.nod g.pok.lt rfl pok2 fun u8 σ₅ kp5 dm5 => ?_)
    · have h2 := (szp.chk chk).2 i hi
      simp at h2; omega
    · rw [setL_frm (i := 8) rfl (by simp)]
      refine s_nil (hno (vs.length * tw (W.n - (cur.a.length + 1)) + mu W fr) ⟨⟨cur.k, vs, cur.ps, cur.vl, cur.pv⟩, cur.a, onD popOne cur.ps D1⟩ u8 u9 u10 σ₅ (by omega) rfl rfl ⟨inv4.dyn X kp5, dm5, ⟨g.node.same same2, g.sz.same same2, g.hk, g.hkn, g.pok, gnod, fun u hu => ?_, fun i hi e => ?_⟩, ch.same same2, kp5.kept _ _ eX4 X.ndX, ?_, Nat.le_refl _, Nat.le_trans (Nat.add_le_add_right (Nat.le_add_right _ _) _) hlam, _, na2, kp5.kept _ _ ea4 X.ndA, .inr ⟨.int v, by rw [esOf_snoc]⟩⟩)
      · show u ∈ (onD popOne cur.ps D1 cur.k).xs
        rw [hk2 g.hkn]; exact gsub u hu
      · have := (same2 i hi).2.2.2.length_eq
        rw [e] at this
        exact g.ne i hi (List.length_eq_zero_iff.mp this.symm)
      · have c1 := cov_fail cov hv g.hk chk no (f' := ⟨⟨cur.k, vs, cur.ps, cur.vl, cur.pv⟩, cur.a, cur.D⟩) rfl rfl rfl rfl
        refine c1.imp (fun g' _ h => h.imp_left fun ⟨e1, e2, e3⟩ => ⟨e1, e2, fun i hi hl => (same2 i hi).2.2.2.mem_iff.mpr (e3 i hi hl)⟩) fun t h => h
  · -- all said yes
    intro u9 u10 σ₄ D1 kp4 dm4 chk hfb hnz yes
    unfold set2
    rw [setL_frm (i := 9) rfl (by simp), setL_frm (i := 10) rfl (by simp)]
    refine s_cons (x_brk ?_)
    have inv4 := inv3.dyn X kp4
    refine hyes ⟨⟨cur.k, vs, cur.ps, cur.vl, cur.pv⟩, cur.a, cur.D⟩ v D1 u8 u9 u10 σ₄ ⟨inv4, dm4, ⟨g.node, g.sz, g.hk, g.hkn, g.pok, gnod, gsub, g.ne⟩, hvn, hvD, ⟨D1, chk, fbps hfb, .refl⟩, ch, g.node.down g.hk g.hkn hvD chk yes fun e he h1 h2 => (N3.rows.mem cur.k g.hkn e).mpr ⟨he, h1, h2⟩, fun i hi => hnz i hi (by rw [onD_xs]; exact g.ne i hi), ⟨na2, kp4.kept _ _ ea3 X.ndA⟩, kp4.kept _ _ eX3 X.ndX, fun t => cov_down cov hv g.hk chk rfl rfl rfl rfl, by dsimp only; rw [Nat.add_left_comm, ← Nat.add_assoc]; exact hmu, by dsimp only; rw [Nat.add_left_comm, ← Nat.add_assoc]; exact hlam⟩
end
end Mine
set_option maxHeartbeats 200000
set_option linter.unusedSimpArgs false
set_option linter.unusedSectionVars false
set_option maxHeartbeats 4000000
namespace Mine
variable {w : World} {h0 : Heap} {A : Around} {σ σ' σ'' σ0 : St} {ℓ ℓ' : Loc}
variable {W : Wd} {cons : List CE} {L : Nat → List Int} {D D' D00 : Nat → Dm} {a : Asg} {dd vd av ad qa cD cV cA cX C s cl : Addr} {nd nvd : Nat} {vv : Nat → Addr} {R : Nat → List (Addr × Nat)} {muL : List Fh} {fr : List Fq} {outs : List (Addr × Asg)} {fc : Bool} {u4 u5 u6 u7 u8 u9 u10 : Option AV} {q : Fq} {r : List Fq} {cur : Fm} {m N' : Nat}
/-- the generator at its end -/
structure EndS (σ0 : St) (W : Wd) (cons : List CE) (L : Nat → List Int) (D00 : Nat → Dm) (ad qa cX : Addr) (outs : List (Addr × Asg)) (σ : St) : Prop where
  inv : GInv σ0 W ad qa cX σ [] [] outs
  ds : ∃ D, Doms σ W D ∧ SameD W [] D00 D
  good : Good W cons L D00 [] (outs.map (·.2))
theorem InS.len (x : InS σ0 W cons L D00 R ad qa cX outs m N' σ cur fr) : fr.length ≤ 60 := by
  have := x.ch.len; have := x.g.node.len; have := x.g.sz.1; omega
theorem InS.le {m' : Nat} (x : InS σ0 W cons L D00 R ad qa cX outs m N' σ cur fr) (h : m ≤ m') : InS σ0 W cons L D00 R ad qa cX outs m' N' σ cur fr := ⟨x.inv, x.ds, x.g, x.ch, x.eX, x.cov, Nat.le_trans x.mu h, x.lam, x.ea⟩
theorem BrS.le {v : Int} {D1 : Nat → Dm} {m' : Nat} (x : BrS σ0 W cons L D00 R ad qa cX outs m N' σ cur v D1 fr) (h : m ≤ m') : BrS σ0 W cons L D00 R ad qa cX outs m' N' σ cur v D1 fr := ⟨x.inv, x.ds, x.g, x.nv, x.vD, x.sunk, x.ch, x.node, x.ne, x.ea, x.eX, x.cov, Nat.le_trans x.mu h, x.lam⟩
section
variable (X : GCtx σ0 W cons L D00 dd vd av ad qa cD cV cA cX nd nvd vv R)
include X
theorem g_inner (O : (BB w h0).Ok) {Q : AF → Loc → St → Prop} (lo : Lo 14 A) (x : InS σ0 W cons L D00 R ad qa cX outs m N' σ cur fr)
    (hyes : ∀ cur' fr' v D1 u8 u9 u10 σ', BrS σ0 W cons L D00 R ad qa cX outs m N' σ' cur' v D1 fr' → Q .next (gF s cl qa fc u4 u5 (some (.ref cur'.vl)) (some cur'.pv) u8 u9 u10) σ')
    (hend : ∀ ℓ' σ', EndS σ0 W cons L D00 ad qa cX outs σ' → Q (.ret .none) ℓ' σ') :
    Tx (BB w h0) A (gEnv w.params C cD cV cA cX) ((gOut w.params).getD 3 noSt) (gF s cl qa fc u4 u5 (some (.ref cur.vl)) (some cur.pv) u8 u9 u10) σ Q := by
  refine x_while (fun k ℓ σ => k ≤ m ∧ ∃ cur fr u8 u9 u10, ℓ = gF s cl qa fc u4 u5 (some (.ref cur.vl)) (some cur.pv) u8 u9 u10 ∧ InS σ0 W cons L D00 R ad qa cX outs k N' σ cur fr) m ⟨Nat.le_refl _, cur, fr, u8, u9, u10, rfl, x⟩ ?_
  rintro k ℓ' σ₁ ⟨hkm, cur, fr, u8, u9, u10, rfl, x⟩
  refine t_val (e_bool (tru_bool ?_))
  rw [if_pos rfl]
  -- with a value left
  have main : ∀ {cur fr u8 u9 u10 σ₂}, InS σ0 W cons L D00 R ad qa cX outs k N' σ₂ cur fr → cur.vals ≠ [] →
      Ts (BB w h0) A (gEnv w.params C cD cV cA cX) ((gIn w.params).drop 1) (gF s cl qa fc u4 u5 (some (.ref cur.vl)) (some cur.pv) u8 u9 u10) σ₂ fun f ℓ₃ σ₃ => match f with | .next => ∃ m', m' < k ∧ (m' ≤ m ∧ ∃ cur fr u8 u9 u10, ℓ₃ = gF s cl qa fc u4 u5 (some (.ref cur.vl)) (some cur.pv) u8 u9 u10 ∧ InS σ0 W cons L D00 R ad qa cX outs m' N' σ₃ cur fr) | .cont => ∃ m', m' < k ∧ (m' ≤ m ∧ ∃ cur fr u8 u9 u10, ℓ₃ = gF s cl qa fc u4 u5 (some (.ref cur.vl)) (some cur.pv) u8 u9 u10 ∧ InS σ0 W cons L D00 R ad qa cX outs m' N' σ₃ cur fr) | .brk => Q .next ℓ₃ σ₃ | .ret v => Q (.ret v) ℓ₃ σ₃ := by
    intro cur fr u8 u9 u10 σ₂ y hne
    refine g_main X O (lo.mono (by decide)) y hne (by have := y.len; omega) (fun m' cur' u8 u9 u10 σ' hm' _ _ z => ?_) (fun cur' v D1 u8 u9 u10 σ' z => ?_)
    · exact ⟨m', hm', by omega, cur', fr, u8, u9, u10, rfl, z⟩
    · exact hyes cur' fr v D1 u8 u9 u10 σ' (z.le hkm)
  have evl := (x.inv.fm cur.toFh (List.mem_cons_self ..)).1
  have h4 : cur.vals.length ≤ 4 := by
    have h1 : cur.vals.length ≤ (cur.D cur.k).xs.length := List.Nodup.length_le_of_subset x.g.nod x.g.sub
    have := (x.g.sz.2 cur.k x.g.hkn).1; omega
  refine s_cons (x_if (t_not (t_val (e_local rfl (tru_sq O IsSq.list evl (le_line (by simp; omega)) ?_)))))
  by_cases hne : cur.vals = []
  · rw [if_pos (by rw [hne]; rfl)]
    obtain ⟨es, na, ea, hes⟩ := x.ea
    obtain ⟨y, rfl⟩ : ∃ y, es = esOf cur.a ++ [(((cur.k : Nat) : Int), y)] := by
      rcases hes with ⟨_, q⟩ | q
      · exact absurd hne q
      · exact q
    have eNe := esOf_ne x.g.hk
    have al := x.g.node.len
    have hn := X.hn
    have cells := x.inv.cells X
    refine s_cons (x_del (e_cell (c := cA) rfl cells.2.2 (e_cell (c := cX) rfl x.eX (di_dict (v := y) ea (le_line (by simp [esOf]; omega)) (by rw [dget_last eNe, if_pos rfl]) fun n2 => ?_))))
    rw [ddel_last eNe]
    have inv2 : GInv σ0 W ad qa cX (σ₁.put ad (.dict (esOf cur.a) n2)) (fr.map (·.f.toFh)) fr outs := (x.inv.putA X).drop
    have ds2 := x.ds.putOut (o := .dict (esOf cur.a) n2) X.ndA ea nofun
    have ea2 : (σ₁.put ad (.dict (esOf cur.a) n2)).m ad = some (.dict (esOf cur.a) n2) := put_same ..
    have eX2 : (σ₁.put ad (.dict (esOf cur.a) n2)).m cX = some (.cell (some (.int (cur.k : Nat)))) := by rw [put_other X.ne.2.1.symm]; exact x.eX
    generalize (σ₁.put ad (.dict (esOf cur.a) n2)) = σ₂ at inv2 ds2 ea2 eX2 ⊢
    -- while queue
    refine s_cons (x_while (fun m2 ℓ σ => ∃ fr D a u6 u7 u8 u9 u10 xk na, m2 = fr.length ∧ ℓ = gF s cl qa fc u4 u5 u6 u7 u8 u9 u10 ∧ GInv σ0 W ad qa cX σ (fr.map (·.f.toFh)) fr outs ∧ Doms σ W D ∧ Chain W cons L R D00 fr D a ∧ σ.m ad = some (.dict (esOf a) na) ∧ σ.m cX = some (.cell xk) ∧ Cov W cons L D00 (outs.map (·.2)) (PW W fr) (PT fr) ∧ Mine.mu W fr ≤ k ∧ Mine.lam W fr ≤ N' ∧ fr.length ≤ 60) fr.length
      ⟨fr, cur.D, cur.a, _, _, _, _, _, _, n2, rfl, rfl, inv2, ds2, x.ch, ea2, eX2, cov_empty x.cov hne, Nat.le_trans (Nat.le_add_left _ _) x.mu, Nat.le_trans (Nat.le_add_left _ _) x.lam, x.len⟩ ?_)
    rintro m2 ℓ' σ₃ ⟨fr, D, a, u6, u7, u8, u9, u10, xk, na, rfl, rfl, inv, ds, ch, ea, eX, cov, hmu, hlam, hfr⟩
    refine t_val (e_local rfl (tru_sq O IsSq.list inv.q (le_line (by simp; omega)) ?_))
    cases fr with
    | nil =>
      rw [if_neg (by decide)]
      refine s_cons (x_ret_none (hend _ _ ⟨inv, ?_, cov.good⟩))
      obtain ⟨_, h⟩ := ch
      exact ⟨D, ds, h⟩
    | cons q r =>
      rw [if_pos (by simp)]
      refine g_up X O (lo.mono (by decide)) rfl rfl rfl rfl rfl inv ch ds (by simp at hfr; omega) eX ?_
      intro D'' u8 σ₄ inv4 ds4 g4 ch4 same4 eX4 eA4
      have evl4 := (inv4.fm q.f.toFh (List.mem_cons_self ..)).1
      have hch := ch
      obtain ⟨rfl, g1, _⟩ := hch
      have h4' : q.f.vals.length ≤ 4 := by
        have h1 : q.f.vals.length ≤ (q.f.D q.f.k).xs.length := List.Nodup.length_le_of_subset g1.nod g1.sub
        have := (g1.sz.2 q.f.k g1.hkn).1; omega
      have cov4 := cov_up (f := { q.f with D := D'' }) cov same4 rfl rfl rfl
      rw [mu_cons] at hmu
      rw [lam_cons] at hlam
      have ea4 : σ₄.m ad = some (.dict (esOf (q.f.a ++ [(q.f.k, q.v)])) na) := eA4.trans ea
      have in4 : InS σ0 W cons L D00 R ad qa cX outs k N' σ₄ { q.f with D := D'' } r := ⟨inv4, ds4, g4, ch4, eX4, cov4, hmu, hlam, _, na, ea4, .inr ⟨.int q.v, by rw [esOf_snoc]⟩⟩
      refine s_cons (x_if (t_val (e_local rfl (tru_sq O IsSq.list evl4 (le_line (by simp; omega)) ?_))))
      by_cases hv : q.f.vals = []
      · rw [if_neg (by rw [show q.f.toFh.vals = [] from hv]; decide)]
        refine s_nil ?_
        have eNe4 := esOf_ne g1.hk
        have cells4 := inv4.cells X
        have al4 := g1.node.len
        refine s_cons (x_del (e_cell (c := cA) rfl cells4.2.2 (e_cell (c := cX) rfl eX4 (di_dict (v := .int q.v) (by rw [esOf_snoc] at ea4; exact ea4) (le_line (by simp [esOf]; omega)) (by rw [dget_last eNe4, if_pos rfl]) fun n3 => ?_))))
        rw [ddel_last eNe4]
        refine s_nil ⟨r.length, by simp, r, D'', q.f.a, _, _, _, _, _, _, n3, rfl, rfl, (inv4.putA X).drop, ds4.putOut X.ndA ea4 nofun, ch4, put_same .., by rw [put_other X.ne.2.1.symm]; exact eX4, cov_empty cov4 hv, Nat.le_trans (Nat.le_add_left _ _) hmu, Nat.le_trans (Nat.le_add_left _ _) hlam, by simp at hfr; omega⟩
      · rw [if_pos (by simpa using hv)]
        refine s_cons (x_brk (s_nil ?_))
        exact main (cur := { q.f with D := D'' }) in4 hv
  · rw [if_neg (by simpa using hne)]
    exact s_nil (main x hne)
end
end Mine
set_option maxHeartbeats 200000
set_option linter.unusedSimpArgs false
set_option linter.unusedSectionVars false
set_option maxHeartbeats 4000000
namespace Mine
variable {w : World} {h0 : Heap} {A : Around} {σ σ' σ'' σ0 : St} {ℓ ℓ' : Loc}
theorem gs_stmts {B : Bs} {G : Gp'} {told : List AV} {n : Nat} {c : Code} {fs : List Frame} {K : Flow → Sem PySem.Fin} {H : Value → Sem PySem.Fin} {gd : Bool → Bool} {lv : List Value → List Value} {env : Env} {ss rest : List Stmt} (hL : env.locals = G.L) (h : Ts B (A.over c fs) env ss ℓ σ fun f ℓ' σ' => match f with
    | .next => GS B A G told n c ((execs rest env).wrap K H gd lv) fs ℓ' σ'
    | .brk => GS B A G told n c (K .brk) fs ℓ' σ'
    | .cont => GS B A G told n c (K .cont) fs ℓ' σ'
    | .ret v => v = .none ∧ GS B A G told n c (K (.ret .none)) fs ℓ' σ') : GS B A G told n c ((execs (ss ++ rest) env).wrap K H gd lv) fs ℓ σ := by
  rw [execs_app_wrap]
  refine gs_wrap ?_
  rw [← hL]
  refine T.mono h fun f ℓ' σ' q => ?_
  cases f with
  | next => exact q
  | brk => exact q
  | cont => exact q
  | ret v => obtain ⟨hv, q⟩ := q; obtain rfl := ab_none hv; exact q
theorem Lo.over {n k : Nat} {c : Code} {fs : List Frame} (h : Lo (n + k) A) (hm : (marksOver fs (none, none)).1 = none) (hw : frameCount (fs.map Frame.where_) + c.weight ≤ k) (hu : unitsOf (fs.map Frame.where_) + c.cUnits ≤ 30 * k) : Lo n (A.over c fs) := by
  refine ⟨?_, ?_, ?_⟩
  · show (marksOver fs (A.handled, A.handled)).1 = none
    rw [h.hh]; exact hm
  · have := h.depth
    show A.depth + frameCount (fs.map Frame.where_) + c.weight + n ≤ 900
    omega
  · have := h.units
    show A.units + unitsOf (fs.map Frame.where_) + c.cUnits + 30 * n ≤ 9000
    omega
variable {W : Wd} {cons : List CE} {L : Nat → List Int} {D D' D00 : Nat → Dm} {a : Asg} {dd vd av ad qa cD cV cA cX C s cl : Addr} {nd nvd : Nat} {vv : Nat → Addr} {R : Nat → List (Addr × Nat)} {muL : List Fh} {fr : List Fq} {outs : List (Addr × Asg)} {fc : Bool} {u4 u5 u6 u7 u8 u9 u10 : Option AV} {q : Fq} {r : List Fq} {cur : Fm} {m N' : Nat}
structure OutS (σ0 : St) (W : Wd) (cons : List CE) (L : Nat → List Int) (D00 : Nat → Dm) (R : Nat → List (Addr × Nat)) (ad qa cX : Addr) (outs : List (Addr × Asg)) (m N' : Nat) (σ : St) (fr : List Fq) (D : Nat → Dm) (a : Asg) : Prop where
  inv : GInv σ0 W ad qa cX σ (fr.map (·.f.toFh)) fr outs
  ds : Doms σ W D
  ch : Chain W cons L R D00 fr D a
  node : Node W cons L D a
  sz : Sz W D a
  ne : ∀ i, i < W.n → (D i).xs ≠ []
  ea : ∃ na, σ.m ad = some (.dict (esOf a) na)
  eX : ∃ xk, σ.m cX = some (.cell xk)
  cov : Cov W cons L D00 (outs.map (·.2)) (fun g => InN W D a g ∨ PW W fr g) (fun t => Ext a t ∨ PT fr t)
  mu : tw (W.n - a.length) + mu W fr ≤ m
  lam : 4 ^ (W.n - a.length) + lam W fr ≤ N'
def wTest : Stmt → PySem.Expr
  | .While t _ _ _ => t
  | _ => .Constant .none 0 default
noncomputable abbrev gW (P : Params) (C cD cV cA cX : Addr) : Code := .whileLoop (wTest ((bodyOf (KK P) 169).getD 3 noSt)) (gOut P) [] (gEnv P C cD cV cA cX)
section
variable (X : GCtx σ0 W cons L D00 dd vd av ad qa cD cV cA cX nd nvd vv R)
include X
variable {G : Gp'} {fs : List Frame}
/-- the rest of a turn of the outer loop -/
theorem g_after (O : (BB w h0).Ok) (hL : C = G.L) (lo : Lo 20 (A.over (gW w.params C cD cV cA cX) fs))
    (hEnd : ∀ outs n c ℓ σ, EndS σ0 W cons L D00 ad qa cX outs σ → GS (BB w h0) A G (outs.map fun p => .ref p.1) n c (.pure (.done (.ret .none))) fs ℓ σ)
    (ih : ∀ outs n fr D a u4 u5 u6 u7 u8 u9 u10 σ, OutS σ0 W cons L D00 R ad qa cX outs m n σ fr D a → GS (BB w h0) A G (outs.map fun p => .ref p.1) n (gW w.params C cD cV cA cX) ((model (BB w h0).prog (BB w h0).w).den (gW w.params C cD cV cA cX)) fs (gF s cl qa fc u4 u5 u6 u7 u8 u9 u10) σ)
    {n : Nat} (x : InS σ0 W cons L D00 R ad qa cX outs m n σ cur fr) :
    GS (BB w h0) A G (outs.map fun p => .ref p.1) n (gW w.params C cD cV cA cX) ((execs ((gOut w.params).drop 3) (gEnv w.params C cD cV cA cX)).wrap (whileK (wTest ((bodyOf (KK w.params) 169).getD 3 noSt)) (gOut w.params) [] (gEnv w.params C cD cV cA cX)) (noteH (gEnv w.params C cD cV cA cX)) id id) fs (gF s cl qa fc u4 u5 (some (.ref cur.vl)) (some cur.pv) u8 u9 u10) σ := by
  refine gs_stmts (ss := (gOut w.params).drop 3) (rest := []) (by exact hL) ?_
  refine s_cons (g_inner X O (lo.mono (by decide)) x (fun cur' fr' v D1 u8 u9 u10 σ' y => ?_) fun ℓ' σ' y => ?_)
  · have hch := y.ch.len
    have hal := look_free_len y.g.node y.g.hk y.g.hkn
    have hn := X.hn
    have eq := y.inv.q
    refine s_cons (x_expr (e_meth (e_local rfl fun pl => ml_append O eq ?_)))
    refine es_cons (e_tuple (es_cons (e_cell (c := cX) rfl y.eX (es_cons (e_local rfl (es_cons (e_local rfl (es_nil ⟨le_line (show 3 ≤ 10000 by decide), fun b hb => ?_⟩))))))))
    have nbq : qa ≠ b := by rintro rfl; rw [eq] at hb; cases hb
    refine es_nil ⟨kee_bi, c_append O IsSq.list (put_fresh hb eq) (le_line (by simp; omega)) (s_nil ?_)⟩
    have inv2 := y.inv.new X (Kp.refl.put (a := b) (o := .tup [.int (cur'.k : Nat), .ref cur'.vl, cur'.pv]) (.inr hb))
    have e1 : (fr'.reverse.map fun q => AV.ref q.t) ++ [.ref b] = ((⟨cur', b, v⟩ :: fr').reverse.map fun q : Fq => AV.ref q.t) := by simp
    rw [e1]
    have inv3 := inv2.putQ X (fr' := ⟨cur', b, v⟩ :: fr') (fun q hq => by
      rcases List.mem_cons.mp hq with e | e
      · subst e; exact ⟨y.inv.kp.live _ hb, put_same ..⟩
      · exact inv2.tup q e)
    obtain ⟨na, ea⟩ := y.ea
    have al1 : (cur'.a ++ [(cur'.k, v)]).length = cur'.a.length + 1 := by simp
    refine gs_again rfl (ih outs n (⟨cur', b, v⟩ :: fr') D1 (cur'.a ++ [(cur'.k, v)]) _ _ _ _ _ _ _ _ ⟨inv3, (y.ds.new hb).putOut X.far.nd (put_fresh hb eq) nofun, ⟨rfl, y.g, y.nv, y.vD, y.sunk, y.ch⟩, y.node, ?_, y.ne, ⟨na, ?_⟩, ⟨some (.int (cur'.k : Nat)), ?_⟩, y.cov b, ?_, ?_⟩)
    · exact (Chain.szm (q := ⟨cur', b, v⟩) (r := fr') (D00 := D00) ⟨rfl, y.g, y.nv, y.vD, y.sunk, y.ch⟩).1
    · rw [put_other X.ne.1]; exact put_fresh hb ea
    · rw [put_other X.ne.2.2.symm]; exact put_fresh hb y.eX
    · rw [mu_cons, al1]; exact y.mu
    · rw [lam_cons, al1]; exact y.lam
  · exact ⟨rfl, hEnd outs n _ _ _ y⟩
end
end Mine
set_option maxHeartbeats 200000
set_option linter.unusedSimpArgs false
set_option linter.unusedSectionVars false
set_option maxHeartbeats 4000000
namespace Mine
variable {w : World} {h0 : Heap} {A : Around} {σ σ' σ'' σ0 : St} {ℓ ℓ' : Loc}
variable {W : Wd} {cons : List CE} {L : Nat → List Int} {D D' D00 : Nat → Dm} {a : Asg} {dd vd av ad qa cD cV cA cX C s cl : Addr} {nd nvd : Nat} {vv : Nat → Addr} {R : Nat → List (Addr × Nat)} {muL : List Fh} {fr : List Fq} {outs : List (Addr × Asg)} {fc : Bool} {u4 u5 u6 u7 u8 u9 u10 : Option AV} {q : Fq} {r : List Fq} {cur : Fm} {m N' : Nat}
abbrev gKf : Flow → Sem PySem.Fin := fun f => .pure (.done (.ret (match f with | .ret v => v | _ => .none)))
noncomputable abbrev gHf (env : Env) : Value → Sem PySem.Fin := fun e => (leaving env e).wrap (fun _ => .raise e) .raise id id
noncomputable abbrev gFs (P : Params) (C cD cV cA cX : Addr) (p : Pos) : List Frame :=
  [.ret (ownK (gEnv P C cD cV cA cX) (fun f => match f with | .next => (execs ((bodyOf (KK P) 169).drop 4) (gEnv P C cD cV cA cX)).wrap gKf (gHf (gEnv P C cD cV cA cX)) id id | f => gKf f) (gHf (gEnv P C cD cV cA cX)) id id) none (id false) (id []) (.func (bodyOf (KK P) 169) (gEnv P C cD cV cA cX)) p []]
noncomputable abbrev gFs2 (P : Params) (C cD cV cA cX : Addr) (p p' : Pos) : List Frame :=
  .ret (ownK (gEnv P C cD cV cA cX) (fun f => match f with | .next => (execs ((gOut P).drop 3) (gEnv P C cD cV cA cX)).wrap (whileK (wTest ((bodyOf (KK P) 169).getD 3 noSt)) (gOut P) [] (gEnv P C cD cV cA cX)) (noteH (gEnv P C cD cV cA cX)) id id | f => whileK (wTest ((bodyOf (KK P) 169).getD 3 noSt)) (gOut P) [] (gEnv P C cD cV cA cX) f) (noteH (gEnv P C cD cV cA cX)) id id) none (id false) (id []) (gW P C cD cV cA cX) p' [] :: gFs P C cD cV cA cX p
theorem lo_w {P : Params} {p : Pos} (lo : Lo 40 A) : Lo 30 (A.over (gW P C cD cV cA cX) (gFs P C cD cV cA cX p)) := by
  have e1 : frameCount ((gFs P C cD cV cA cX p).map Frame.where_) + (gW P C cD cV cA cX).weight = 1 := by rfl
  have e2 : unitsOf ((gFs P C cD cV cA cX p).map Frame.where_) + (gW P C cD cV cA cX).cUnits = 3 := by rfl
  exact Lo.over (k := 10) lo rfl (by omega) (by omega)
theorem lo_f {P : Params} {p p' : Pos} {t : PySem.Expr} {it : Value} {b o : List Stmt} {env : Env} (lo : Lo 40 A) : Lo 30 (A.over (.forLoop t it b o env) (gFs2 P C cD cV cA cX p p')) := by
  have e1 : frameCount ((gFs2 P C cD cV cA cX p p').map Frame.where_) + (Code.forLoop t it b o env).weight = 1 := by rfl
  have e2 : unitsOf ((gFs2 P C cD cV cA cX p p').map Frame.where_) + (Code.forLoop t it b o env).cUnits = 3 := by rfl
  exact Lo.over (k := 10) lo rfl (by omega) (by omega)
theorem lo_b {P : Params} {p p' : Pos} {o : List Stmt} {env : Env} (lo : Lo 40 A) : Lo 30 (A.over (.block o env) (gFs2 P C cD cV cA cX p p')) := by
  have e1 : frameCount ((gFs2 P C cD cV cA cX p p').map Frame.where_) + (Code.block o env).weight = 1 := by rfl
  have e2 : unitsOf ((gFs2 P C cD cV cA cX p p').map Frame.where_) + (Code.block o env).cUnits = 3 := by rfl
  exact Lo.over (k := 10) lo rfl (by omega) (by omega)
section
variable (X : GCtx σ0 W cons L D00 dd vd av ad qa cD cV cA cX nd nvd vv R)
include X
variable {G : Gp'} {p : Pos}
theorem g_outer (O : (BB w h0).Ok) (hL : C = G.L) (lo : Lo 40 A) (hg0 : σ0.g = G.gR)
    (hY : ∀ (outs : List (Addr × Asg)) b t n σ', Kp (gS W ad qa cX) σ0 σ' → Sol W cons L t → σ'.m b = some (.dict (esOf t) n) → G.Yv (outs.map fun p => .ref p.1) (.ref b) σ')
    (hF : ∀ outs σ, EndS σ0 W cons L D00 ad qa cX outs σ → G.Fin (outs.map fun p => .ref p.1) σ) :
    ∀ m outs n fr D a u4 u5 u6 u7 u8 u9 u10 σ, OutS σ0 W cons L D00 R ad qa cX outs m n σ fr D a → GS (BB w h0) A G (outs.map fun p => .ref p.1) n (gW w.params C cD cV cA cX) ((model (BB w h0).prog (BB w h0).w).den (gW w.params C cD cV cA cX)) (gFs w.params C cD cV cA cX p) (gF s cl qa fc u4 u5 u6 u7 u8 u9 u10) σ := by
  have gEq : ∀ {σ mu fr outs}, GInv σ0 W ad qa cX σ mu fr outs → σ.g = G.gR := fun y => y.kp.g.trans hg0
  have hEnd : ∀ (outs : List (Addr × Asg)) n c ℓ σ, EndS σ0 W cons L D00 ad qa cX outs σ → GS (BB w h0) A G (outs.map fun p => .ref p.1) n c (.pure (.done (.ret .none))) (gFs w.params C cD cV cA cX p) ℓ σ := fun outs n c ℓ σ y =>
    gs_leaf (.ret .none) (gs_end (gEq y.inv) (hF outs σ y))
  have ne : ∀ e ∈ cons, e.C.vs ≠ [] ∧ ∀ i ∈ e.C.vs, i < W.n := fun e he => ⟨(X.N0.ok e he).ne, (X.N0.ok e he).lt⟩
  intro m
  induction m using Nat.strongRecOn with
  | ind m ihm =>
  intro outs n fr D a u4 u5 u6 u7 u8 u9 u10 σ x
  have loW := lo_w (C := C) (cD := cD) (cV := cV) (cA := cA) (cX := cX) (P := w.params) (p := p) lo
  refine gs_whileLoop (by exact hL) ?_
  refine t_val (e_bool (tru_bool ?_))
  rw [if_pos rfl]
  have cells := x.inv.cells X
  have N := x.inv.net X
  have hn := X.hn
  have sm := x.sz.sm x.node
  obtain ⟨na, ea⟩ := x.ea
  obtain ⟨xk, eX⟩ := x.eX
  have after : ∀ {outs : List (Addr × Asg)} {n m' : Nat} {cur : Fm} {fr u4 u5 u8 u9 u10 σ}, m' < m → InS σ0 W cons L D00 R ad qa cX outs m' n σ cur fr →
      GS (BB w h0) A G (outs.map fun p => .ref p.1) n (gW w.params C cD cV cA cX) ((execs ((gOut w.params).drop 3) (gEnv w.params C cD cV cA cX)).wrap (whileK (wTest ((bodyOf (KK w.params) 169).getD 3 noSt)) (gOut w.params) [] (gEnv w.params C cD cV cA cX)) (noteH (gEnv w.params C cD cV cA cX)) id id) (gFs w.params C cD cV cA cX p) (gF s cl qa fc u4 u5 (some (.ref cur.vl)) (some cur.pv) u8 u9 u10) σ := fun hm' y =>
    g_after X O hL (loW.mono (by decide)) hEnd (fun outs n fr D a u4 u5 u6 u7 u8 u9 u10 σ z => ihm _ hm' outs n fr D a u4 u5 u6 u7 u8 u9 u10 σ z) y
  refine gs_stmts (ss := (gOut w.params).take 2) (rest := (gOut w.params).drop 2) (by exact hL) ?_
  refine x_lst O (cD := cD) (cV := cV) (loW.mono (by decide)) x.ds sm N hn (fun i hi => row_len N hi) rfl rfl rfl rfl cells.1 cells.2.1 rfl rfl rfl (fun _ => rfl) (fun _ => rfl) (fun _ => rfl) (fun _ => rfl) (fun _ => rfl) rfl rfl rfl rfl fun l qs σ₁ kp1 hl items => ?_
  rw [setL_frm (i := 4) rfl (by simp)]
  refine s_nil ?_
  have inv1 := x.inv.new X kp1
  have ds1 : Doms σ₁ W D := x.ds.kp kp1 fun b q => q.elim
  have ea1 := kp1.kept _ _ ea id
  have eX1 := kp1.kept _ _ eX id
  have cells1 := inv1.cells X
  have N1 := inv1.net X
  refine gs_For (by exact hL) (e_local rfl ?_) (fun I p' => (lo_f lo).hh)
  refine ⟨l, _, fun i ℓ' σ' => ∃ uu, ℓ' = gF s cl qa fc (some (.ref l)) uu u6 u7 u8 u9 u10 ∧ σ₁ = σ' ∧ ∀ p ∈ qs.take i, look a p.2 ≠ none, rfl, items.at', ⟨_, rfl, rfl, by simp⟩, fun i ℓ' σ' ⟨_, _, e, _⟩ => e ▸ items.at', ?_, ?_⟩
  · rintro I p' j v ℓ' σ' hj hv ⟨uu, rfl, rfl, hall⟩
    obtain ⟨hj', rfl⟩ := pairs_get' hv
    have hmem := List.getElem_mem hj'
    obtain ⟨x1, y1, et⟩ := items.tup _ hmem
    have tk : qs.take (j + 1) = qs.take j ++ [qs[j]] := List.take_succ_eq_append_getElem hj'
    have hkn : qs[j].2 < W.n := List.mem_range.mp (items.perm.mem_iff.mp (List.mem_map.mpr ⟨_, hmem, rfl⟩))
    generalize hq : qs[j] = qj at hmem et tk hkn
    obtain ⟨t, k⟩ := qj
    dsimp only at et hkn
    refine a_local ?_
    rw [upd_frm (i := 5) rfl (by simp)]
    refine s_cons (x_if (t_cmp (e_sub (e_local rfl (e_una (e_int (una_neg ⟨gp_of O et rfl, gi_tup et (k := 2) idx3 (v := .int (k : Nat)) rfl ?_⟩)))))))
    refine e_cell (c := cA) rfl cells1.2.2 (cmp_notin_dict ea1 (tru_bool ?_))
    rw [dget_look]
    cases hlk : look a k with
    | some y =>
      rw [if_neg (by simp)]
      refine s_nil (s_nil ⟨_, rfl, rfl, fun p hp => ?_⟩)
      rw [tk] at hp
      rcases List.mem_append.mp hp with q | q
      · exact hall p q
      · obtain rfl := List.mem_singleton.mp q
        show look a k ≠ none
        rw [hlk]; exact nofun
    | none =>
      rw [if_pos (by simp)]
      have hal := look_free_len x.node hlk hkn
      -- variable = item[-1]
      refine s_cons (x_assign (e_sub (e_local rfl (e_una (e_int (una_neg ⟨gp_of O et rfl, gi_tup et (k := 2) idx3 (v := .int (k : Nat)) rfl (a_cell (c := cX) rfl eX1 ?_)⟩))))))
      have inv2 := inv1.putX X (o := .cell (some (.int (k : Nat))))
      have ds2 := ds1.putOut (o := .cell (some (.int (k : Nat)))) X.ndX eX1 nofun
      have ea2 : (σ₁.put cX (.cell (some (.int (k : Nat))))).m ad = some (.dict (esOf a) na) := by rw [put_other X.ne.2.1]; exact ea1
      have eX2 : (σ₁.put cX (.cell (some (.int (k : Nat))))).m cX = some (.cell (some (.int (k : Nat)))) := put_same ..
      generalize (σ₁.put cX (.cell (some (.int (k : Nat))))) = σ₂ at inv2 ds2 ea2 eX2 ⊢
      have cells2 := inv2.cells X
      have N2 := inv2.net X
      have szk := (x.sz.2 k hkn).1
      -- values = domains[variable][:]
      refine s_cons (x_assign (e_slice O (a := W.d k) (xs := iv (D k).xs) (lo := none) (hi := none) (st := none) (IsSq.dom 303 (W.dx k)) (e_sub (e_cell (c := cD) rfl cells2.1 (e_cell (c := cX) rfl eX2 ⟨gp_of O N2.edd rfl, gi_dict N2.edd (dget_esD hkn) (tp_none (tp_none (tp_none ⟨rfl, (ds2 k hkn).obj, .none, .none, .none, le_line (by simp; omega), fun b hb => a_local ?_⟩)))⟩))) (by decide) (sk303 _) (gi303 _) (sub303 _)))
      rw [apick_all, upd_frm (i := 6) rfl (by simp)]
      have kp3 : Kp (fun _ => False) σ₂ (σ₂.put b (.list (iv (D k).xs))) := Kp.refl.put (.inr hb)
      have ea3 := kp3.kept _ _ ea2 id
      have eX3 := kp3.kept _ _ eX2 id
      have N3 := N2.new ds2 kp3
      have tws := tw_step (len := (D k).xs.length) hal (by omega)
      have hmu := x.mu
      have hlam := x.lam
      -- the break
      have fin : ∀ {pv : AV} {ps : List Nat} {σ₄ : St}, Kp (fun _ => False) (σ₂.put b (.list (iv (D k).xs))) σ₄ → PsOk W a k ps → PdIs σ₄ W pv ps → (∀ l, pv = .ref l → (σ₂.put b (.list (iv (D k).xs))).m l = none) →
          GS (BB w h0) A G (outs.map fun p => .ref p.1) n (gW w.params C cD cV cA cX) ((execs ((gOut w.params).drop 3) (gEnv w.params C cD cV cA cX)).wrap (whileK (wTest ((bodyOf (KK w.params) 169).getD 3 noSt)) (gOut w.params) [] (gEnv w.params C cD cV cA cX)) (noteH (gEnv w.params C cD cV cA cX)) id id) (gFs w.params C cD cV cA cX p) (gF s cl qa fc (some (.ref l)) (some (.ref t)) (some (.ref b)) (some pv) u8 u9 u10) σ₄ := by
        intro pv ps σ₄ kp4 pok pd fpv
        have kp24 := kp3.trans kp4
        have fresh : ∀ l, pv = .ref l → σ₂.m l = none ∧ l ≠ b := fun l hl => by
          have f := fpv l hl
          have : l ≠ b := by rintro rfl; rw [put_same] at f; cases f
          exact ⟨by rw [put_other this] at f; exact f, this⟩
        have inv4 := inv2.cur X (h := ⟨k, (D k).xs, ps, b, pv⟩) kp24 hb (kp4.kept _ _ (put_same ..) id) pd fresh
        refine after (m' := (D k).xs.length * tw (W.n - (a.length + 1)) + mu W fr) (cur := ⟨⟨k, (D k).xs, ps, b, pv⟩, a, D⟩) (fr := fr) (by omega) ⟨inv4, ds2.kp kp24 fun b q => q.elim, ⟨x.node, x.sz, hlk, hkn, pok, x.node.xnod k hkn, fun v hv => hv, x.ne⟩, x.ch, kp24.kept _ _ eX2 id, cov_expand x.cov hlk hkn rfl rfl rfl, Nat.le_refl _, Nat.le_trans (Nat.add_le_add_right tws.2 _) hlam, _, na, kp24.kept _ _ ea2 id, .inl ⟨rfl, x.ne k hkn⟩⟩
      refine s_cons (x_if (t_val (e_local rfl (tru_bool ?_))))
      cases fc with
      | false =>
        rw [if_neg (by decide)]
        refine s_cons (x_assign (e_none (a_local ?_)))
        rw [upd_frm (i := 7) rfl (by simp)]
        exact s_nil (s_cons (x_brk (fin .refl ⟨.nil, by simp, by simp, .inl rfl⟩ .nil (fun l hl => by cases hl))))
      | true =>
        rw [if_pos rfl]
        refine s_cons (x_pdG O (D := D) (k := k) (p := fun i => (look a i).isNone && decide (i ≠ k)) (cD := cD) (cA := cA) (cX := cX) (Lo.mono (lo_f lo) (by decide)) N3.edd hn ea3 (fun i hi => ?_) rfl rfl (kp3.kept _ _ cells2.1 id) (kp3.kept _ _ cells2.2.2 id) eX3 rfl rfl rfl (fun _ => rfl) (fun _ => rfl) (fun _ => rfl) (fun _ => rfl) (fun _ => rfl) rfl fun pl σ₄ kp4 fpl epl => ?_)
        · rw [dget_look]
          cases look a i <;> simp
        · rw [setL_frm (i := 7) rfl (by simp)]
          refine s_nil (s_cons (x_brk (fin kp4 ⟨List.filter_sublist.nodup List.nodup_range, fun i hi => List.mem_range.mp (List.mem_filter.mp hi).1, fun i hi => ?_, .inr fun i hi h1 h2 => List.mem_filter.mpr ⟨List.mem_range.mpr hi, by rw [h1]; simpa using h2⟩⟩ (.list epl ?_ ?_) (fun l' hl' => by cases hl'; exact fpl))))
          · have := (List.mem_filter.mp hi).2
            simpa using this
          · exact fun q => (ds2.new hb).live q fpl
          · refine Nat.le_trans (List.length_filter_le _ _) ?_
            simp; omega
  · rintro p' ℓ' σ' ⟨uu, rfl, rfl, hall⟩
    rw [List.length_map, List.take_length] at hall
    have all : ∀ i, i < W.n → look a i ≠ none := fun i hi => by
      obtain ⟨p, hp, rfl⟩ := List.mem_map.mp (items.perm.mem_iff.mpr (List.mem_range.mpr hi))
      exact hall p hp
    have hsol := x.node.sol X.u ne all
    have hlen : a.length = W.n := by
      have h1 := x.node.len
      have h2 := List.Nodup.length_le_of_subset (l₁ := List.range W.n) (l₂ := a.map (·.1)) List.nodup_range fun i hi => look_some.mp (all i (List.mem_range.mp hi))
      simp at h2; omega
    have hmu := x.mu
    have hlam := x.lam
    have e0 : W.n - a.length = 0 := by omega
    rw [e0] at hmu hlam
    obtain ⟨n', rfl⟩ : ∃ n', n = n' + 1 := ⟨n - 1, by simp at hlam; omega⟩
    have hlam' : lam W fr ≤ n' := by simp at hlam; omega
    have hmu' : mu W fr < m := by simp [tw] at hmu; omega
    refine gs_yield (by exact hL) rfl rfl rfl (e_meth (e_cell (c := cA) rfl cells1.2.2 fun pl => md_copy O ea1 (es_nil ⟨kee_bi, c_dict_copy ea1 (le_line (by simp [esOf]; omega)) fun b n2 hb => ?_⟩)))
    have inv2 := inv1.tell X (a := a) hb (n := n2)
    have ds2 := ds1.new (o := .dict (esOf a) n2) hb
    have eX2 : (σ₁.put b (.dict (esOf a) n2)).m cX = some (.cell xk) := put_fresh hb eX1
    have ea2 : (σ₁.put b (.dict (esOf a) n2)).m ad = some (.dict (esOf a) na) := put_fresh hb ea1
    refine ⟨gEq inv2, hY outs b a n2 _ inv2.kp hsol (put_same ..), ?_⟩
    have e1 : (outs.map fun p => AV.ref p.1) ++ [.ref b] = (outs ++ [(b, a)]).map fun p => AV.ref p.1 := by simp
    rw [e1]
    have cov2 : Cov W cons L D00 ((outs ++ [(b, a)]).map (·.2)) (PW W fr) (PT fr) := by
      have := cov_tell x.cov hsol x.ch
      rwa [List.map_append]
    generalize (σ₁.put b (.dict (esOf a) n2)) = σ₂ at inv2 ds2 eX2 ea2 ⊢
    have loB := Lo.mono (lo_b (C := C) (cD := cD) (cV := cV) (cA := cA) (cX := cX) (P := w.params) (p := p) (p' := p') (o := forElse ((gOut w.params).getD 2 noSt)) (env := gEnv w.params C cD cV cA cX) lo) (show 20 ≤ 30 by decide)
    have hch := x.ch.len
    refine gs_stmts (ss := (forElse ((gOut w.params).getD 2 noSt)).drop 1) (rest := []) (by exact hL) ?_
    refine s_cons (x_if (t_not (t_val (e_local rfl (tru_sq O IsSq.list inv2.q (le_line (by simp; omega)) ?_)))))
    cases fr with
    | nil =>
      rw [if_pos (by rfl)]
      refine s_cons (x_ret_none ⟨rfl, ?_⟩)
      refine gs_leaf (.ret .none) (hEnd _ _ _ _ _ ⟨inv2, ?_, cov2.good⟩)
      obtain ⟨_, h⟩ := x.ch
      exact ⟨D, ds2, h⟩
    | cons q r =>
      rw [if_neg (by simp)]
      refine s_nil ?_
      refine g_up X O (loB.mono (by decide)) rfl rfl rfl rfl rfl inv2 x.ch ds2 (by simp at hch; omega) eX2 ?_
      intro D'' u8 σ₄ inv4 ds4 g4 ch4 same4 eX4 eA4
      refine s_nil ?_
      obtain ⟨rfl, _⟩ := x.ch
      rw [mu_cons] at hmu'
      rw [lam_cons] at hlam'
      have ea4 := eA4.trans ea2
      refine gs_leaf .next ?_
      exact after (m' := q.f.vals.length * tw (W.n - (q.f.a.length + 1)) + mu W r) (cur := { q.f with D := D'' }) (fr := r) hmu' ⟨inv4, ds4, g4, ch4, eX4, cov_up (f := { q.f with D := D'' }) cov2 same4 rfl rfl rfl, Nat.le_refl _, hlam', _, na, ea4, .inr ⟨.int q.v, by rw [esOf_snoc]⟩⟩
end
end Mine
set_option maxHeartbeats 200000
set_option linter.unusedSimpArgs false
set_option linter.unusedSectionVars false
set_option maxHeartbeats 4000000
namespace Mine
variable {w : World} {h0 : Heap} {A : Around} {σ σ' σ'' σ0 : St} {ℓ ℓ' : Loc}
variable {W : Wd} {cons : List CE} {L : Nat → List Int} {D D' D00 : Nat → Dm} {a : Asg} {dd vd av ad qa cD cV cA cX C s sx cl : Addr} {nd nvd : Nat} {vv : Nat → Addr} {R : Nat → List (Addr × Nat)} {fc : Bool}
def gB (W : Wd) (cA cX : Addr) (b : Addr) : Prop := W.dyn b ∨ b = cA ∨ b = cX
theorem g_body (O : (BB w h0).Ok) {G : Gp'} {n : Nat} {wA wX : Option AV} (hL : C = G.L) (lo : Lo 60 A) (hg : σ.g = G.gR) (sp : W.Sep) (u : Unary cons L) (ds : Doms σ W D) (sz : Sz W D []) (node : Node W cons L D []) (hne : ∀ i, i < W.n → (D i).xs ≠ []) (N : Net σ W cons dd vd av nd nvd vv R) (sv : SolvAt σ 186 s sx fc)
    (ecD : σ.m cD = some (.cell (some (.ref dd)))) (ecV : σ.m cV = some (.cell (some (.ref vd)))) (ecA : σ.m cA = some (.cell wA)) (ecX : σ.m cX = some (.cell wX)) (nX : cX ≠ cD ∧ cX ≠ cV ∧ cX ≠ cA) (nA : cA ≠ cD ∧ cA ≠ cV) (hn : 4 ^ W.n ≤ n)
    (hY : ∀ told b t k σ', Kp (gB W cA cX) σ σ' → Sol W cons L t → σ'.m b = some (.dict (esOf t) k) → G.Yv told (.ref b) σ')
    (hF : ∀ (outs : List (Addr × Asg)) D' σ', Kp (gB W cA cX) σ σ' → Doms σ' W D' → SameD W [] D D' → (∀ p ∈ outs, σ.m p.1 = none ∧ ∃ k, σ'.m p.1 = some (.dict (esOf p.2) k)) → Good W cons L D [] (outs.map (·.2)) → G.Fin (outs.map fun p => .ref p.1) σ') :
    GS (BB w h0) A G [] n (.func (bodyOf (KK w.params) 169) (gEnv w.params C cD cV cA cX)) ((model (BB w h0).prog (BB w h0).w).den (.func (bodyOf (KK w.params) 169) (gEnv w.params C cD cV cA cX))) [] (frm gN [some (.ref s), some (.ref cl), none, none, none, none, none, none, none, none, none]) σ := by
  refine gs_func ?_
  have lo1 : Lo 50 (A.over (.func (bodyOf (KK w.params) 169) (gEnv w.params C cD cV cA cX)) []) := by
    have e1 : frameCount ([].map Frame.where_) + (Code.func (bodyOf (KK w.params) 169) (gEnv w.params C cD cV cA cX)).weight = 1 := by rfl
    have e2 : unitsOf ([].map Frame.where_) + (Code.func (bodyOf (KK w.params) 169) (gEnv w.params C cD cV cA cX)).cUnits = 3 := by rfl
    exact Lo.over (k := 10) lo rfl (by omega) (by omega)
  refine gs_stmts (ss := (bodyOf (KK w.params) 169).take 3) (rest := (bodyOf (KK w.params) 169).drop 3) (by exact hL) ?_
  refine s_cons (x_assign (e_attr (e_local rfl (att_own O sv.obj sv.ns (by rfl) (a_local ?_) rfl rfl (ga186 _) (at186_forwardcheck _)))))
  rw [upd_frm (i := 2) rfl (by simp)]
  refine s_cons (x_assign (e_dict0 fun ad had => a_cell (c := cA) rfl (put_fresh had ecA) ?_))
  have nAd : ad ≠ cA := by rintro rfl; rw [ecA] at had; cases had
  refine s_cons (x_assign (e_list (es_nil ⟨Nat.zero_le _, fun qa hqa => a_local ?_⟩)))
  rw [upd_frm (i := 3) rfl (by simp)]
  have fqa : σ.m qa = none := by
    have h1 : qa ≠ cA := by rintro rfl; rw [put_same] at hqa; cases hqa
    rw [put_other h1] at hqa
    by_cases h2 : qa = ad
    · subst h2; exact had
    · rw [put_other h2] at hqa; exact hqa
  have nqA : qa ≠ cA := by rintro rfl; rw [ecA] at fqa; cases fqa
  have nqd : qa ≠ ad := by rintro rfl; rw [put_other nAd, put_same] at hqa; cases hqa
  have kp0 : Kp (gB W cA cX) σ (((σ.put ad (.dict [] 0)).put cA (.cell (some (.ref ad)))).put qa (.list [])) := ((Kp.refl.put (.inr had)).put (.inl (.inr (.inl rfl)))).put (.inr hqa)
  have ncell : ∀ {b o}, σ.m b = some o → (∀ v, o ≠ .cell v) → b ≠ cA ∧ b ≠ cX := fun e n => ⟨by rintro rfl; rw [ecA] at e; cases e; exact n _ rfl, by rintro rfl; rw [ecX] at e; cases e; exact n _ rfl⟩
  have ds0 : Doms (((σ.put ad (.dict [] 0)).put cA (.cell (some (.ref ad)))).put qa (.list [])) W D := ((ds.new had).putOut (b := cA) ((ds.new (o := .dict [] 0) had).not_dyn (put_fresh had ecA) nofun nofun) (put_fresh had ecA) nofun).new hqa
  have N0 : Net (((σ.put ad (.dict [] 0)).put cA (.cell (some (.ref ad)))).put qa (.list [])) W cons dd vd av nd nvd vv R := N.kp (D := D) kp0 (fun b o e q => by
    rcases q with q | rfl | rfl
    · exact .inl q
    · rw [ecA] at e; cases e; exact .inr (.inr (.inl ⟨_, rfl⟩))
    · rw [ecX] at e; cases e; exact .inr (.inr (.inl ⟨_, rfl⟩))) ds
  have nad : ad ≠ dd ∧ ad ≠ vd := ⟨fun q => (by have := N.edd; rw [← q, had] at this; cases this), fun q => (by have := N.evd; rw [← q, had] at this; cases this)⟩
  have keep : ∀ {b o}, σ.m b = some o → b ≠ cA → (((σ.put ad (.dict [] 0)).put cA (.cell (some (.ref ad)))).put qa (.list [])).m b = some o := fun {b o} e n => by
    rw [put_other (by rintro rfl; rw [e] at fqa; cases fqa), put_other n]; exact put_fresh had e
  have ea0 : (((σ.put ad (.dict [] 0)).put cA (.cell (some (.ref ad)))).put qa (.list [])).m ad = some (.dict [] 0) := by rw [put_other nqd.symm, put_other nAd, put_same]
  have eq0 : (((σ.put ad (.dict [] 0)).put cA (.cell (some (.ref ad)))).put qa (.list [])).m qa = some (.list []) := put_same ..
  have eA0 : (((σ.put ad (.dict [] 0)).put cA (.cell (some (.ref ad)))).put qa (.list [])).m cA = some (.cell (some (.ref ad))) := by rw [put_other nqA.symm, put_same]
  have eX0 := keep ecX nX.2.2
  have eD0 := keep ecD nA.1.symm
  have eV0 := keep ecV nA.2.symm
  have X : GCtx (((σ.put ad (.dict [] 0)).put cA (.cell (some (.ref ad)))).put qa (.list [])) W cons L D dd vd av ad qa cD cV cA cX nd nvd vv R :=
    ⟨sp, u, ds0, N0, FarL.fresh N ds fqa, nad, ⟨_, _, ea0⟩, ⟨_, eq0⟩, ⟨_, eX0⟩, eD0, eV0, eA0, nX, sz.1⟩
  have hg0 : (((σ.put ad (.dict [] 0)).put cA (.cell (some (.ref ad)))).put qa (.list [])).g = G.gR := hg
  generalize (((σ.put ad (.dict [] 0)).put cA (.cell (some (.ref ad)))).put qa (.list [])) = σ₀ at kp0 ds0 N0 ea0 eq0 eA0 eX0 X hg0 ⊢
  have kpT : ∀ {σ'}, Kp (gS W ad qa cX) σ₀ σ' → Kp (gB W cA cX) σ σ' := fun k => kp0.tail k fun b q => by
    rcases q with q | rfl | rfl | rfl
    · exact .inl (.inl q)
    · exact .inr had
    · exact .inr fqa
    · exact .inl (.inr (.inr rfl))
  refine s_nil (gs_While fun p => ?_)
  refine g_outer X O hL (lo.mono (by decide)) hg0 (fun outs b t k σ' kp s e => hY _ b t k σ' (kpT kp) s e) (fun outs σ' y => ?_) _ [] n [] D [] _ _ _ _ _ _ _ _ ⟨⟨.refl, eq0, by simp, by simp, by simp, by simp, by simp, by simp⟩, ds0, ⟨rfl, .refl⟩, node, sz, hne, ⟨0, ea0⟩, ⟨_, eX0⟩, Cov.start, Nat.le_refl _, by simpa [lam] using hn⟩
  obtain ⟨D', d1, d2⟩ := y.ds
  exact hF outs D' σ' (kpT y.inv.kp) d1 d2 (fun p hp => ⟨kp0.live _ (y.inv.outs p hp).1, (y.inv.outs p hp).2⟩) y.good
end Mine
set_option maxHeartbeats 200000
set_option linter.unusedSimpArgs false
set_option linter.unusedSectionVars false
set_option maxHeartbeats 4000000
namespace Mine
variable {w : World} {h0 : Heap} {A : Around} {σ σ' σ'' σ0 : St} {ℓ ℓ' : Loc}
variable {W : Wd} {cons : List CE} {L : Nat → List Int} {D D' D00 : Nat → Dm} {a : Asg} {dd vd av ad qa cD cV cA cX C s sx cl : Addr} {nd nvd : Nat} {vv : Nat → Addr} {R : Nat → List (Addr × Nat)} {fc : Bool}
/-- facts do not ask for the generators -/
theorem Doms.same {W : Wd} {D : Nat → Dm} (x : Doms σ W D) (h : ∀ b o, σ.m b = some o → σ'.m b = some o) : Doms σ' W D := fun i hi => (x i hi).keep fun b o e _ => h b o e
theorem ConAt.same {C : Con} {c cx ml : Addr} (x : ConAt σ C c cx ml) (h : ∀ b o, σ.m b = some o → σ'.m b = some o) : ConAt σ' C c cx ml := ⟨h _ _ x.obj, h _ _ x.ns, fun q => h _ _ (x.ml q)⟩
theorem CEOk.same {W : Wd} {e : CE} (x : CEOk σ W e) (h : ∀ b o, σ.m b = some o → σ'.m b = some o) : CEOk σ' W e :=
  ⟨x.at'.same h, x.good, x.lt, x.len, x.nod, x.ne, by
    rcases x.row with q | ⟨l, q1, q2, q3⟩
    · exact .inl q
    · exact .inr ⟨l, q1, h _ _ q2, q3⟩, x.ml⟩
theorem Net.same (x : Net σ W cons dd vd av nd nvd vv R) (h : ∀ b o, σ.m b = some o → σ'.m b = some o) : Net σ' W cons dd vd av nd nvd vv R :=
  ⟨h _ _ x.edd, h _ _ x.evd, ⟨fun i hi => h _ _ (x.rows.at' i hi), fun i hi p hp => by obtain ⟨a, b⟩ := x.rows.tup i hi p hp; exact ⟨a, h _ _ b⟩, x.rows.nod, x.rows.mem⟩, fun e he => (x.ok e he).same h, fun e he => ⟨h _ _ (x.hvl e he).1, (x.hvl e he).2⟩, x.nvv, x.hc, x.hn⟩
theorem SolvAt.same {C s sx : Addr} {fc : Bool} (x : SolvAt σ C s sx fc) (h : ∀ b o, σ.m b = some o → σ'.m b = some o) : SolvAt σ' C s sx fc := ⟨h _ _ x.obj, h _ _ x.ns⟩
theorem genSt_keep {L a : Addr} {g : Nat} {b : Addr} {o : AObj} (e : σ.m b = some o) (h1 : b ≠ L) (h2 : b ≠ a) : (genSt σ L a g).m b = some o := by
  unfold genSt St.gens St.hide
  dsimp only
  rw [if_neg h2, if_neg h1]; exact e
theorem m186it (O : (BB w h0).Ok) {s sx : Addr} {fc : Bool} {pl : Sem Bool} {Q : AV → List AV → St → Prop} (x : SolvAt σ 186 s sx fc) (h : Q (.ref 169) [.ref s] σ) : Meth (BB w h0) A (.ref s) "getSolutionIter" pl σ Q :=
  meth_of O x.obj rfl (ga186 _) (by decide +kernel) (gn186 _) (m186_getSolutionIter _) (ty169 _) (by decide) (fun dx e => by cases e; exact ⟨_, _, x.ns, by rfl⟩) h
/-- the generator made, at rest -/
structure GenMade (P : Params) (σ σ₃ : St) (C a : Addr) (oC o : Obj) (s cl dd vd cD cV cA cX : Addr) : Prop where
  kept : ∀ b o, σ.m b = some o → σ₃.m b = some o ∧ b ≠ C ∧ b ≠ a
  live : ∀ b, σ₃.m b = none → σ.m b = none
  g : σ₃.g = σ.g.push (.fresh (.func (bodyOf (KK P) 169) (gEnv P C cD cV cA cX)))
  fr : FrObj oC (frm gN [some (.ref s), some (.ref cl), none, none, none, none, none, none, none, none, none])
  go : GenObj o σ.g.size
  ea : σ₃.m a = some (.raw o)
  eL : σ₃.m C = some (.raw oC)
  ne : a ≠ C
  fresh : σ.m C = none ∧ σ.m a = none ∧ σ.m cA = none ∧ σ.m cX = none
  ecD : σ₃.m cD = some (.cell (some (.ref dd)))
  ecV : σ₃.m cV = some (.cell (some (.ref vd)))
  ecA : σ₃.m cA = some (.cell none)
  ecX : σ₃.m cX = some (.cell none)
  nX : cX ≠ cD ∧ cX ≠ cV ∧ cX ≠ cA
  nA : cA ≠ cD ∧ cA ≠ cV
  nC : ∀ c, c = cD ∨ c = cV ∨ c = cA ∨ c = cX → c ≠ C ∧ c ≠ a
theorem gen_made (O : (BB w h0).Ok) {Q : AV → St → Prop} (lo : Lo 3 A) (h : ∀ C a oC o cD cV cA cX σ₃, GenMade w.params σ σ₃ C a oC o s cl dd vd cD cV cA cX → Q (.ref a) σ₃) :
    Callf (BB w h0) A (.ref 169) [.ref s, .ref dd, .ref cl, .ref vd] σ Q := by
  refine (gen_code O (k := 2) (n := 4) (ps := ["self", "domains", "constraints", "vconstraints"]) (ds := []) lo rfl rfl rfl (fun s g X => BindsTo.of_eq rfl) rfl rfl (fun C hC => ?_)).callf
  refine cells_skip (cells_new fun cD hcD => cells_skip (cells_new fun cV hcV => cells_skip (cells_new fun cA hcA => cells_skip (cells_new fun cX hcX => cells_skip (cells_skip (cells_skip (cells_skip (cells_skip (cells_skip (cells_skip (cells_skip (cells_nil ?_))))))))))))
  have n1 : cD ≠ cV := by rintro rfl; rw [put_same] at hcV; cases hcV
  have n2 : cV ≠ cA := by rintro rfl; rw [put_same] at hcA; cases hcA
  have n3 : cD ≠ cA := by rintro rfl; rw [put_other n1, put_same] at hcA; cases hcA
  have n4 : cA ≠ cX := by rintro rfl; rw [put_same] at hcX; cases hcX
  have n5 : cV ≠ cX := by rintro rfl; rw [put_other n2, put_same] at hcX; cases hcX
  have n6 : cD ≠ cX := by rintro rfl; rw [put_other n3, put_other n1, put_same] at hcX; cases hcX
  have fV : σ.m cV = none := by rw [put_other n1.symm] at hcV; exact hcV
  have fA : σ.m cA = none := by rw [put_other n2.symm, put_other n3.symm] at hcA; exact hcA
  have fX : σ.m cX = none := by rw [put_other n4.symm, put_other n5.symm, put_other n6.symm] at hcX; exact hcX
  refine binds_loc (binds_cell (c := cD) (v₀ := none) rfl (by rw [put_other n6, put_other n3, put_other n1, put_same]) (binds_loc (binds_cell (c := cV) (v₀ := none) rfl (by rw [put_other n1.symm, put_other n5, put_other n2, put_same]) (binds_nil ?_))))
  have kp0 : Kp (fun _ => False) σ ((((((σ.put cD (.cell none)).put cV (.cell none)).put cA (.cell none)).put cX (.cell none)).put cD (.cell (some (.ref dd)))).put cV (.cell (some (.ref vd)))) := by
    have k4 := (((Kp.refl.put (S := fun _ => False) (a := cD) (o := .cell none) (.inr hcD)).put (a := cV) (o := .cell none) (.inr hcV)).put (a := cA) (o := .cell none) (.inr hcA)).put (a := cX) (o := .cell none) (.inr hcX)
    refine (k4.tail (S' := fun b => b = cD) (Kp.refl.put (.inl rfl)) fun b q => .inr (by rw [q]; exact hcD)).tail (S' := fun b => b = cV) (Kp.refl.put (.inl rfl)) fun b q => .inr (by rw [q]; exact fV)
  have ecD : ((((((σ.put cD (.cell none)).put cV (.cell none)).put cA (.cell none)).put cX (.cell none)).put cD (.cell (some (.ref dd)))).put cV (.cell (some (.ref vd)))).m cD = some (.cell (some (.ref dd))) := by rw [put_other n1, put_same]
  have ecV : ((((((σ.put cD (.cell none)).put cV (.cell none)).put cA (.cell none)).put cX (.cell none)).put cD (.cell (some (.ref dd)))).put cV (.cell (some (.ref vd)))).m cV = some (.cell (some (.ref vd))) := put_same ..
  have ecA : ((((((σ.put cD (.cell none)).put cV (.cell none)).put cA (.cell none)).put cX (.cell none)).put cD (.cell (some (.ref dd)))).put cV (.cell (some (.ref vd)))).m cA = some (.cell none) := by rw [put_other n2.symm, put_other n3.symm, put_other n4, put_same]
  have ecX : ((((((σ.put cD (.cell none)).put cV (.cell none)).put cA (.cell none)).put cX (.cell none)).put cD (.cell (some (.ref dd)))).put cV (.cell (some (.ref vd)))).m cX = some (.cell none) := by rw [put_other n5.symm, put_other n6.symm, put_same]
  generalize ((((((σ.put cD (.cell none)).put cV (.cell none)).put cA (.cell none)).put cX (.cell none)).put cD (.cell (some (.ref dd)))).put cV (.cell (some (.ref vd)))) = σ₂ at kp0 ecD ecV ecA ecX ⊢
  intro oC a o hF hG hC2 ha
  rw [frm_all gN, upd_frm (i := 0) rfl (by simp), upd_frm (i := 1) rfl (by simp)] at hF
  have nCa : a ≠ C := by rintro rfl; rw [put_same] at ha; cases ha
  have ha2 : σ₂.m a = none := by rw [put_other nCa] at ha; exact ha
  have keep : ∀ {b o'}, σ₂.m b = some o' → (((σ₂.put C (.raw oC)).put a (.raw o)).gens (σ₂.g.push (.fresh (.func (bodyOf (KK w.params) 169) (gEnv w.params C cD cV cA cX))))).m b = some o' ∧ b ≠ C ∧ b ≠ a := fun {b o'} e => by
    have h1 : b ≠ C := by rintro rfl; rw [hC2] at e; cases e
    have h2 : b ≠ a := by rintro rfl; rw [ha2] at e; cases e
    refine ⟨?_, h1, h2⟩
    show ((σ₂.put C (.raw oC)).put a (.raw o)).m b = _
    rw [put_other h2, put_other h1]; exact e
  refine h C a oC o cD cV cA cX _ ⟨fun b o' e => keep (kp0.kept _ _ e id), fun b e => ?_, ?_, hF, ?_, put_same .., ?_, nCa, ⟨hC, kp0.live _ ha2, fA, fX⟩, (keep ecD).1, (keep ecV).1, (keep ecA).1, (keep ecX).1, ⟨n6.symm, n5.symm, n4.symm⟩, ⟨n3.symm, n2.symm⟩, ?_⟩
  · have e' : ((σ₂.put C (.raw oC)).put a (.raw o)).m b = none := e
    have h1 : b ≠ a := by rintro rfl; rw [put_same] at e'; cases e'
    rw [put_other h1] at e'
    have h2 : b ≠ C := by rintro rfl; rw [put_same] at e'; cases e'
    rw [put_other h2] at e'
    exact kp0.live _ e'
  · show σ₂.g.push _ = _; rw [kp0.g]; rfl
  · rw [kp0.g] at hG; exact hG
  · show ((σ₂.put C (.raw oC)).put a (.raw o)).m C = _
    rw [put_other nCa.symm, put_same]
  · rintro c (rfl | rfl | rfl | rfl)
    · exact (keep ecD).2
    · exact (keep ecV).2
    · exact (keep ecA).2
    · exact (keep ecX).2
end Mine
set_option maxHeartbeats 200000
set_option linter.unusedSimpArgs false
set_option linter.unusedSectionVars false
set_option maxHeartbeats 4000000
namespace Mine
variable {w : World} {h0 : Heap} {A : Around} {σ σ' σ'' σ0 : St} {ℓ ℓ' : Loc}
variable {W : Wd} {cons : List CE} {L : Nat → List Int} {D D' D00 : Nat → Dm} {a : Asg} {dd vd av ad qa cD cV cA cX C s sx cl : Addr} {nd nvd : Nat} {vv : Nat → Addr} {R : Nat → List (Addr × Nat)} {fc : Bool}
theorem genSt_none {L a : Addr} {g : Nat} {b : Addr} (e : (genSt σ L a g).m b = none) : σ.m b = none ∨ b = L ∨ b = a := by
  by_cases h1 : b = L
  · exact .inr (.inl h1)
  by_cases h2 : b = a
  · exact .inr (.inr h2)
  left
  cases q : σ.m b with
  | none => rfl
  | some o => rw [genSt_keep q h1 h2] at e; cases e
theorem bare_end {g : Array GenState} {f : GenState} (h : AllBare g) : AllBare (((g.push f).setIfInBounds g.size .running).setIfInBounds g.size .finished) := by
  have e : ((g.push f).setIfInBounds g.size .running).setIfInBounds g.size .finished = g.push .finished := by
    apply Array.ext_getElem?
    intro i
    rw [Array.getElem?_setIfInBounds, Array.getElem?_setIfInBounds, Array.getElem?_push, Array.getElem?_push]
    by_cases hi : g.size = i
    · subst hi; simp
    · rw [if_neg hi, if_neg hi, if_neg (Ne.symm hi), if_neg (Ne.symm hi)]
  rw [e]; exact h.push rfl
theorem Lo.in1' {n : Nat} (h : Lo (n + 1) A) : Lo n A.in1 := h.in1
theorem bt_sols (O : (BB w h0).Ok) {Q : AV → St → Prop} (lo : Lo 70 A) (sp : W.Sep) (u : Unary cons L) (ds : Doms σ W D) (sz : Sz W D []) (hn : 4 ^ W.n ≤ 10000) (node : Node W cons L D []) (hne : ∀ i, i < W.n → (D i).xs ≠ []) (N : Net σ W cons dd vd av nd nvd vv R) (sv : SolvAt σ 186 s sx fc)
    (h : ∀ sl (new : List (Addr × Asg)) D' σ', Kq W.dyn σ σ' → Doms σ' W D' → SameD W [] D D' → σ'.m sl = some (.list (new.map fun p => .ref p.1)) → (∀ p ∈ new, σ.m p.1 = none ∧ ∃ n, σ'.m p.1 = some (.dict (esOf p.2) n)) → σ.m sl = none → Good W cons L D [] (new.map (·.2)) → Q (.ref sl) σ') :
    Callf (BB w h0) A (.ref 183) [.ref s, .ref dd, .ref cl, .ref vd] σ Q := by
  refine call_fn O (k := 69) (n := 4) (ps := ["self", "domains", "constraints", "vconstraints"]) (ds := []) (rest := []) lo rfl rfl rfl (fun s g X => BindsTo.of_eq rfl) rfl rfl (by decide) (by decide) (by decide) ?_
  intro Lf hL
  refine s_cons (x_ret (e_call (e_boot O (g_list _) rfl (es_cons (e_meth (e_local rfl fun pl => m186it O sv ?_)))))) 
  refine es_cons (e_local rfl (es_cons (e_local rfl (es_cons (e_local rfl (es_nil ⟨kee_fn O rfl, gen_made O ((lo.deeper (n := 69)).mono (by decide)) fun C a oC o cD cV cA cX σ₃ M => es_nil ⟨kee_ty, ?_⟩⟩))))))
  have e3 : ∀ {b o'}, σ.m b = some o' → σ₃.m b = some o' := fun e => (M.kept _ _ e).1
  have e4 : ∀ {b o'}, σ.m b = some o' → (genSt σ₃ C a σ.g.size).m b = some o' := fun e => by obtain ⟨h1, h2, h3⟩ := M.kept _ _ e; exact genSt_keep h1 h2 h3
  have live4 : ∀ b, (genSt σ₃ C a σ.g.size).m b = none → σ.m b = none := fun b e => by
    rcases genSt_none e with q | rfl | rfl
    · exact M.live _ q
    · exact M.fresh.1
    · exact M.fresh.2.1
  have c4 : ∀ c v, (c = cD ∨ c = cV ∨ c = cA ∨ c = cX) → σ₃.m c = some v → (genSt σ₃ C a σ.g.size).m c = some v := fun c v hc e => by obtain ⟨h1, h2⟩ := M.nC c hc; exact genSt_keep e h1 h2
  have eg : σ₃.g[σ.g.size]? = some (.fresh (.func (bodyOf (KK w.params) 169) (gEnv w.params C cD cV cA cX))) := by rw [M.g]; simp
  refine c_list_gen O (a := a) (g := σ.g.size) (N := 4 ^ W.n) (o := o) (oC := oC) ((lo.deeper (n := 69)).mono (by decide)) M.ea M.go eg M.eL M.fr M.ne (le_line hn)
    (fun told σ' => ∃ (outs : List (Addr × Asg)) (D' : Nat → Dm), told = outs.map (fun p => .ref p.1) ∧ Kp (gB W cA cX) (genSt σ₃ C a σ.g.size) σ' ∧ Doms σ' W D' ∧ SameD W [] D D' ∧ (∀ p ∈ outs, (genSt σ₃ C a σ.g.size).m p.1 = none ∧ ∃ k, σ'.m p.1 = some (.dict (esOf p.2) k)) ∧ Good W cons L D [] (outs.map (·.2)))
    (fun _ _ _ => True) (fun S si hS => ?_) fun S told σ' hS hS' hg fin => ?_
  · have lo3 : Lo 60 (A.deeper (callEnv (fdOf (KK w.params) 183) Lf 183)).in1.in1.in1 := ((((lo.deeper (n := 69)).mono (show 63 ≤ 69 by decide)).in1).in1).in1
    refine g_body O rfl lo3 rfl sp u (ds.same fun _ _ => e4) sz node hne (N.same fun _ _ => e4) (sv.same fun _ _ => e4) (c4 _ _ (.inl rfl) M.ecD) (c4 _ _ (.inr (.inl rfl)) M.ecV) (c4 _ _ (.inr (.inr (.inl rfl))) M.ecA) (c4 _ _ (.inr (.inr (.inr rfl))) M.ecX) M.nX M.nA (Nat.le_refl _) (fun _ _ _ _ _ _ _ _ => trivial) fun outs D' σ' kp d1 d2 o1 g1 => ⟨outs, D', rfl, kp, d1, d2, o1, g1⟩
  · obtain ⟨outs, D', rfl, kp, d1, d2, o1, g1⟩ := fin
    have keep : ∀ b o', σ'.m b = some o' → ((σ'.gens ((σ₃.g.setIfInBounds σ.g.size .running).setIfInBounds σ.g.size .finished)).put S (.list (outs.map fun p => .ref p.1))).m b = some o' := fun b o' e => by
      rw [put_other (by rintro rfl; rw [hS'] at e; cases e)]; exact e
    have nB : ∀ {b o'}, σ.m b = some o' → ¬ W.dyn b → ¬ gB W cA cX b := fun {b o'} e n q => by
      rcases q with q | rfl | rfl
      · exact n q
      · rw [M.fresh.2.2.1] at e; cases e
      · rw [M.fresh.2.2.2] at e; cases e
    refine h S outs D' _ ⟨fun b o' e n => keep _ _ (kp.kept _ _ (e4 e) (nB e n)), fun b e => ?_, fun hb => ?_⟩ (d1.same keep) d2 (put_same ..) (fun p hp => ⟨live4 _ (o1 p hp).1, ?_⟩) (M.live _ hS) g1
    · have h1 : b ≠ S := by rintro rfl; rw [put_same] at e; cases e
      rw [put_other h1] at e
      exact live4 _ (kp.live _ e)
    · show AllBare ((σ₃.g.setIfInBounds σ.g.size .running).setIfInBounds σ.g.size .finished)
      rw [M.g]; exact bare_end hb
    · obtain ⟨k, e⟩ := (o1 p hp).2
      exact ⟨k, keep _ _ e⟩
end Mine
set_option maxHeartbeats 200000
set_option linter.unusedSimpArgs false
set_option linter.unusedSectionVars false
set_option maxHeartbeats 4000000
namespace Mine
variable {w : World} {h0 : Heap} {A : Around} {σ σ' σ'' σ0 : St} {ℓ ℓ' : Loc} {outer : List Env}
variable {W : Wd} {cons : List CE} {L : Nat → List Int} {D D' D00 : Nat → Dm} {a : Asg} {dd vd av ad qa cD cV cA cX C s sx cl : Addr} {nd nvd : Nat} {vv : Nat → Addr} {R : Nat → List (Addr × Nat)} {fc : Bool}
theorem bare_mid {g : Array GenState} {f gs : GenState} (h : AllBare g) (hb : gs.bare = true) : AllBare ((g.push f).setIfInBounds g.size gs) := by
  have e : (g.push f).setIfInBounds g.size gs = g.push gs := by
    apply Array.ext_getElem?
    intro i
    rw [Array.getElem?_setIfInBounds, Array.getElem?_push, Array.getElem?_push]
    by_cases hi : g.size = i
    · subst hi; simp
    · rw [if_neg hi, if_neg (Ne.symm hi), if_neg (Ne.symm hi)]
  rw [e]; exact h.push hb
theorem deeper_frames {env : Env} (h : A.frames = some outer) : (A.deeper env).frames = some (env :: outer) := by
  show A.frames.map _ = _; rw [h]; rfl
theorem bt_sol (O : (BB w h0).Ok) {Q : AV → St → Prop} (lo : Lo 70 A) (hfr : A.frames = some outer) (sp : W.Sep) (u : Unary cons L) (ds : Doms σ W D) (sz : Sz W D []) (hn : 4 ^ W.n ≤ 10000) (node : Node W cons L D []) (hne : ∀ i, i < W.n → (D i).xs ≠ []) (N : Net σ W cons dd vd av nd nvd vv R) (sv : SolvAt σ 186 s sx fc)
    (h1 : ∀ σ', Kq W.dyn σ σ' → (∀ f, Safe cons f → (∀ i, i < W.n → f i ∈ (D i).xs) → False) → Q .none σ')
    (h2 : ∀ b t n σ', Kq W.dyn σ σ' → Sol W cons L t → σ'.m b = some (.dict (esOf t) n) → Q (.ref b) σ') :
    Callw (BB w h0) A outer (.ref 176) [.ref s, .ref dd, .ref cl, .ref vd] σ Q := by
  refine fn_codeW O (k := 69) (n := 4) (ps := ["self", "domains", "constraints", "vconstraints"]) (ds := []) (rest := ["iter"]) lo rfl rfl rfl (fun s g X => BindsTo.of_eq rfl) rfl rfl (by decide) (by decide) (by decide) ?_
  intro Lf hL
  refine w_consT (x_assign (e_meth (e_local rfl fun pl => m186it O sv ?_)))
  refine es_cons (e_local rfl (es_cons (e_local rfl (es_cons (e_local rfl (es_nil ⟨kee_fn O rfl, gen_made O ((lo.deeper (n := 69)).mono (by decide)) fun C a oC o cD cV cA cX σ₃ M => a_local ?_⟩))))))
  rw [upd_frm (i := 4) rfl (by simp)]
  have e3 : ∀ {b o'}, σ.m b = some o' → σ₃.m b = some o' := fun e => (M.kept _ _ e).1
  have e4 : ∀ {b o'}, σ.m b = some o' → (genSt σ₃ C a σ.g.size).m b = some o' := fun e => by obtain ⟨h1, h2, h3⟩ := M.kept _ _ e; exact genSt_keep h1 h2 h3
  have live4 : ∀ b, (genSt σ₃ C a σ.g.size).m b = none → σ.m b = none := fun b e => by
    rcases genSt_none e with q | rfl | rfl
    · exact M.live _ q
    · exact M.fresh.1
    · exact M.fresh.2.1
  have c4 : ∀ c v, (c = cD ∨ c = cV ∨ c = cA ∨ c = cX) → σ₃.m c = some v → (genSt σ₃ C a σ.g.size).m c = some v := fun c v hc e => by obtain ⟨h1, h2⟩ := M.nC c hc; exact genSt_keep e h1 h2
  have eg : σ₃.g[σ.g.size]? = some (.fresh (.func (bodyOf (KK w.params) 169) (gEnv w.params C cD cV cA cX))) := by rw [M.g]; simp
  have nB : ∀ {b o'}, σ.m b = some o' → ¬ W.dyn b → ¬ gB W cA cX b := fun {b o'} e n q => by
    rcases q with q | rfl | rfl
    · exact n q
    · rw [M.fresh.2.2.1] at e; cases e
    · rw [M.fresh.2.2.2] at e; cases e
  refine w_cons (xw_try_next O (a := a) (g := σ.g.size) (N := 4 ^ W.n) (o := o) (oC := oC) ((lo.deeper (n := 69)).mono (by decide)) (deeper_frames hfr) rfl rfl rfl rfl rfl rfl rfl rfl (g_next _) (g_StopIteration _) boot_next (by decide +kernel) rfl M.ea M.go eg M.eL M.fr M.ne (Nat.ne_of_gt (Nat.pow_pos (by decide)))
    (fun told σ' => ∃ (outs : List (Addr × Asg)) (D' : Nat → Dm), told = outs.map (fun p => .ref p.1) ∧ Kp (gB W cA cX) (genSt σ₃ C a σ.g.size) σ' ∧ Good W cons L D [] (outs.map (·.2)))
    (fun _ v σ' => ∃ b t k, v = .ref b ∧ Kp (gB W cA cX) (genSt σ₃ C a σ.g.size) σ' ∧ Sol W cons L t ∧ σ'.m b = some (.dict (esOf t) k)) (fun si => ?_) (fun v σ' gs hb hg yv => ?_) fun σ' hg fin => ?_)
  · have lo3 : Lo 60 (A.deeper (callEnv (fdOf (KK w.params) 176) Lf 176)).in1.in1 := (((lo.deeper (n := 69)).mono (show 62 ≤ 69 by decide)).in1).in1
    refine g_body O rfl lo3 rfl sp u (ds.same fun _ _ => e4) sz node hne (N.same fun _ _ => e4) (sv.same fun _ _ => e4) (c4 _ _ (.inl rfl) M.ecD) (c4 _ _ (.inr (.inl rfl)) M.ecV) (c4 _ _ (.inr (.inr (.inl rfl))) M.ecA) (c4 _ _ (.inr (.inr (.inr rfl))) M.ecX) M.nX M.nA (Nat.le_refl _) (fun told b t k σ' kp s e => ⟨b, t, k, rfl, kp, s, e⟩) fun outs D' σ' kp d1 d2 o1 g1 => ⟨outs, D', rfl, kp, g1⟩
  · obtain ⟨b, t, k, rfl, kp, hs, e⟩ := yv
    refine h2 b t k _ ⟨fun b o' e n => kp.kept _ _ (e4 e) (nB e n), fun b e => live4 _ (kp.live _ e), fun hbr => ?_⟩ hs e
    show AllBare (σ₃.g.setIfInBounds σ.g.size gs)
    rw [M.g]; exact bare_mid hbr hb
  · obtain ⟨outs, D', e, kp, good⟩ := fin
    refine h1 _ ⟨fun b o' e n => kp.kept _ _ (e4 e) (nB e n), fun b e => live4 _ (kp.live _ e), fun hbr => ?_⟩ fun f hs hf => ?_
    · show AllBare ((σ₃.g.setIfInBounds σ.g.size .running).setIfInBounds σ.g.size .finished)
      rw [M.g]; exact bare_end hbr
    · have : outs = [] := List.map_eq_nil_iff.mp e.symm
      subst this
      obtain ⟨t, ht, _⟩ := good.comp f hs (fun i v hv => by cases hv) fun i hi _ => hf i hi
      cases ht
end Mine
set_option maxHeartbeats 200000
set_option linter.unusedSimpArgs false
set_option linter.unusedSectionVars false
set_option maxHeartbeats 4000000
namespace Mine
variable {w : World} {h0 : Heap} {A : Around} {σ σ' σ'' σ0 : St} {ℓ ℓ' : Loc} {outer : List Env}
variable {W : Wd} {cons : List CE} {L : Nat → List Int} {D D' : Nat → Dm} {p px s sx C pcl pvd : Addr} {k nvd : Nat} {ts : List Addr} {fc : Bool} {f : Way}
theorem psum_nil : ∀ ks : List (Nat × Int), psum ks [] = 0
  | [] => rfl
  | p :: ks => by rw [psum_cons, psum_nil ks]; rfl
theorem PreAll.safe (x : PreAll W cons cons.length D D') (hs : Safe cons f) (hf : ∀ i, i < W.n → f i ∈ (D i).xs) : ∀ i, i < W.n → f i ∈ (D' i).xs := fun i hi => by
  by_cases q : f i ∈ (D' i).xs
  · exact q
  · exfalso
    obtain ⟨e, he, b⟩ := x.gone i hi (f i) (hf i hi) q
    have he' : e ∈ cons := List.mem_of_mem_take he
    obtain ⟨h1, h2⟩ := hs e he'
    rcases b with ⟨hk, c, hc, hgt⟩ | ⟨hv, hh⟩
    · rcases h2 with h2 | h2
      · exact hk h2
      · have h3 := psum_add_le (a := []) (f := f) (fun i v q => by cases q) (i := i) (c := c) rfl e.C.ks hc
        have h4 := psum_nil e.C.ks
        omega
    · apply hh
      rw [psum_all (f := f) (fun j v q => ?_) _ (fun p hp => ?_)]
      · exact h1
      · unfold look at q
        by_cases hj : i = j
        · subst hj; simp at q; exact q
        · simp [hj] at q
      · have := ks_in hp
        rw [hv] at this
        rw [List.mem_singleton.mp this]
        simp [look]
/-- a problem as the law holds it -/
structure Prob (σ : St) (W : Wd) (cons : List CE) (D : Nat → Dm) (p px s sx C pcl pvd : Addr) (k nvd : Nat) (ts : List Addr) (fc : Bool) : Prop where
  pa : ProbAt σ p px s pcl pvd k
  sv : SolvAt σ C s sx fc
  hC : C = 186 ∨ C = 225
  epv : σ.m pvd = some (.dict (esD W) nvd)
  ecl : σ.m pcl = some (.list (ts.map .ref))
  npcl : ¬ W.dyn pcl
  hlen : ts.length = cons.length
  hc : cons.length ≤ 100
  hts : ∀ j (h1 : j < ts.length) (h2 : j < cons.length), σ.m ts[j] = some (.tup [.ref cons[j].c, cons[j].v])
  ok : ∀ e ∈ cons, CEOk σ W e
  cnod : (cons.map (·.c)).Nodup
  sp : W.Sep
  ds : Doms σ W D
  cln : Clean W D
  nod : ∀ i, i < W.n → (D i).xs.Nodup
  sz : ∀ i, i < W.n → (D i).xs.length ≤ 4
  hn : 0 < W.n ∧ W.n ≤ 4
theorem Prob.keep (x : Prob σ W cons D p px s sx C pcl pvd k nvd ts fc) (kq : Kq W.dyn σ σ') (ds : Doms σ' W D') (cln : Clean W D') (nod : ∀ i, i < W.n → (D' i).xs.Nodup) (sz : ∀ i, i < W.n → (D' i).xs.length ≤ 4) : Prob σ' W cons D' p px s sx C pcl pvd k nvd ts fc := by
  have nd : ∀ {b o}, σ.m b = some o → (∀ C dx xs, o ≠ .dom C dx xs) → (∀ xs, o ≠ .list xs) → σ'.m b = some o := fun e h1 h2 => kq.kept _ _ e (x.ds.not_dyn e h1 h2)
  refine ⟨⟨nd x.pa.obj nofun nofun, nd x.pa.ns nofun nofun⟩, ⟨nd x.sv.obj nofun nofun, nd x.sv.ns nofun nofun⟩, x.hC, nd x.epv nofun nofun, kq.kept _ _ x.ecl x.npcl, x.npcl, x.hlen, x.hc, fun j h1 h2 => nd (x.hts j h1 h2) nofun nofun, fun e he => ?_, x.cnod, x.sp, ds, cln, nod, sz, x.hn⟩
  have o := x.ok e he
  refine ⟨⟨nd o.at'.obj nofun nofun, nd o.at'.ns nofun nofun, fun q => kq.kept _ _ (o.at'.ml q) (o.ml q)⟩, o.good, o.lt, o.len, o.nod, o.ne, ?_, o.ml⟩
  rcases o.row with q | ⟨l, q1, q2, q3⟩
  · exact .inl q
  · exact .inr ⟨l, q1, kq.kept _ _ q2 q3, q3⟩
/-- what getSolutions tells -/
structure Told (W : Wd) (cons : List CE) (D : Nat → Dm) (new : List Asg) : Prop where
  sound : ∀ t ∈ new, Sol W cons (fun i => (D i).xs) t
  nod : new.Pairwise fun s t => ∃ i, i < W.n ∧ look s i ≠ look t i
  comp : ∀ f, Safe cons f → (∀ i, i < W.n → f i ∈ (D i).xs) → ∃ t ∈ new, ∀ i, i < W.n → look t i = some (f i)
/-- what it leaves of the Domains -/
structure Rest (W : Wd) (cons : List CE) (D D' : Nat → Dm) : Prop where
  sub : ∀ i, i < W.n → ∀ v ∈ (D' i).xs, v ∈ (D i).xs
  safe : ∀ f, Safe cons f → (∀ i, i < W.n → f i ∈ (D i).xs) → ∀ i, i < W.n → f i ∈ (D' i).xs
theorem pre_node (x : Prob σ W cons D p px s sx C pcl pvd k nvd ts fc) (pre : PreAll W cons cons.length D D') : Unary cons (fun i => (D' i).xs) ∧ Node W cons (fun i => (D' i).xs) D' [] ∧ Sz W D' [] ∧ Clean W D' ∧ (∀ i, i < W.n → (D' i).xs.Nodup) ∧ (∀ i, i < W.n → (D' i).xs.length ≤ 4) ∧ Rest W cons D D' := by
  have nod : ∀ i, i < W.n → (D' i).xs.Nodup := fun i hi => (pre.dom i hi).2.2.nodup (x.nod i hi)
  have len : ∀ i, i < W.n → (D' i).xs.length ≤ 4 := fun i hi => Nat.le_trans (pre.dom i hi).2.2.length_le (x.sz i hi)
  have cln : Clean W D' := fun i hi => by obtain ⟨a, b, _⟩ := pre.dom i hi; rw [a, b]; exact x.cln i hi
  refine ⟨fun e he k hk v hv => pre.unary e (by rw [List.take_length]; exact he) k hk v hv, ⟨.nil, by simp, by simp, fun e he _ h => ?_, fun _ _ v hv => hv, nod⟩, ⟨by have := x.hn.2; omega, fun i hi => ?_⟩, cln, nod, len, ⟨fun i hi v hv => (pre.dom i hi).2.2.subset hv, fun f hs hf => pre.safe hs hf⟩⟩
  · exfalso
    have := (x.ok e he).ne
    obtain ⟨i, hi⟩ := List.exists_mem_of_ne_nil _ this
    exact h i hi rfl
  · obtain ⟨c1, c2⟩ := cln i hi
    rw [c1, c2]
    have := len i hi
    exact ⟨by simpa using this, by simp⟩
theorem m110 (O : (BB w h0).Ok) {name : Str} {f t : Value} {pl : Sem Bool} {Q : AV → List AV → St → Prop} (pa : ProbAt σ p px s pcl pvd k) (hf : findIn (KK w.params) (.ref 110) name = some (some f)) (ht : typeIn (KK w.params) f = some t) (htt : fnKind t = true) (hn : probNs s pcl pvd name = none) (h : Q (ab f) [.ref p] σ) :
    Meth (BB w h0) A (.ref p) name pl σ Q := meth_of O pa.obj rfl (ga110 _) (by decide +kernel) (gn110 _) hf ht htt (fun dx' e => by cases e; exact ⟨_, _, pa.ns, hn⟩) h
theorem pow4 (x : 0 < W.n ∧ W.n ≤ 4) : 4 ^ W.n ≤ 256 := Nat.le_trans (Nat.pow_le_pow_right (by decide) x.2) (by decide)
theorem solv_sols (O : (BB w h0).Ok) (x : SolvAt σ C s sx fc) (hC : C = 186 ∨ C = 225) {pl : Sem Bool} {Q : AV → List AV → St → Prop} (h : ∀ f, (C = 186 ∧ f = 183 ∨ C = 225 ∧ f = 222) → Q (.ref f) [.ref s] σ) : Meth (BB w h0) A (.ref s) "getSolutions" pl σ Q := by
  rcases hC with rfl | rfl
  · exact meth_of O x.obj rfl (ga186 _) (by decide +kernel) (gn186 _) (m186_getSolutions _) (ty183 _) (by decide) (fun dx e => by cases e; exact ⟨_, _, x.ns, by rfl⟩) (h 183 (.inl ⟨rfl, rfl⟩))
  · exact meth_of O x.obj rfl (ga225 _) (by decide +kernel) (gn225 _) (m225_getSolutions _) (ty222 _) (by decide) (fun dx e => by cases e; exact ⟨_, _, x.ns, by rfl⟩) (h 222 (.inr ⟨rfl, rfl⟩))
theorem solv_sol (O : (BB w h0).Ok) (x : SolvAt σ C s sx fc) (hC : C = 186 ∨ C = 225) {pl : Sem Bool} {Q : AV → List AV → St → Prop} (h : ∀ f, (C = 186 ∧ f = 176 ∨ C = 225 ∧ f = 215) → Q (.ref f) [.ref s] σ) : Meth (BB w h0) A (.ref s) "getSolution" pl σ Q := by
  rcases hC with rfl | rfl
  · exact meth_of O x.obj rfl (ga186 _) (by decide +kernel) (gn186 _) (m186_getSolution _) (ty176 _) (by decide) (fun dx e => by cases e; exact ⟨_, _, x.ns, by rfl⟩) (h 176 (.inl ⟨rfl, rfl⟩))
  · exact meth_of O x.obj rfl (ga225 _) (by decide +kernel) (gn225 _) (m225_getSolution _) (ty215 _) (by decide) (fun dx e => by cases e; exact ⟨_, _, x.ns, by rfl⟩) (h 215 (.inr ⟨rfl, rfl⟩))
theorem Callf.weak {B : Bs} {f : AV} {args : List AV} {Q : AV → St → Prop} (h : Callf B A f args σ Q) : Callw B A outer f args σ Q := fun fv vs e1 e2 s R _ =>
  wpAny_mono (h fv vs e1 e2 s R) (fun _ _ ⟨σ', a, b, c⟩ => ⟨σ', a, .of b, c⟩) fun _ _ x => x
theorem told_of (x : Prob σ W cons D p px s sx C pcl pvd k nvd ts fc) {new : List Asg} (pre : PreAll W cons cons.length D D') (g : Good W cons (fun i => (D' i).xs) D' [] new) : Told W cons D new := by
  obtain ⟨_, _, _, _, _, _, rest⟩ := pre_node x pre
  refine ⟨fun t ht => ?_, g.nod, fun f hs hf => g.comp f hs (fun i v q => by cases q) fun i hi _ => rest.safe f hs hf i hi⟩
  obtain ⟨s1, _⟩ := g.sound t ht
  exact ⟨s1.nod, s1.all, fun p hp => rest.sub p.1 ((s1.all p.1).mp (List.mem_map.mpr ⟨p, hp, rfl⟩)) p.2 (s1.inL p hp), s1.yes⟩
theorem get_sols (O : (BB w h0).Ok) {Q : AV → St → Prop} (lo : Lo 140 A) (x : Prob σ W cons D p px s sx C pcl pvd k nvd ts fc)
    (h : ∀ sl (new : List (Addr × Asg)) D' σ', Kq W.dyn σ σ' → Prob σ' W cons D' p px s sx C pcl pvd k nvd ts fc → Rest W cons D D' → σ'.m sl = some (.list (new.map fun p => .ref p.1)) → (∀ p ∈ new, σ.m p.1 = none ∧ ∃ n, σ'.m p.1 = some (.dict (esOf p.2) n)) → σ.m sl = none → Told W cons D (new.map (·.2)) → Q (.ref sl) σ') :
    Callf (BB w h0) A (.ref 93) [.ref p] σ Q := by
  have hp4 := pow4 x.hn
  refine call_fn O (k := 139) (n := 1) (ps := ["self"]) (ds := []) (rest := ["domains", "constraints", "vconstraints"]) lo rfl rfl rfl (fun s g X => BindsTo.of_eq rfl) rfl rfl (by decide) (by decide) (by decide) ?_
  intro Lf hL
  refine s_cons (x_assign (e_meth (e_local rfl fun pl => m110 O x.pa (m110__getArgs _) (t := .type "function") (ty107 _) (by decide) rfl (es_nil ⟨kee_fn O rfl, getArgs O ((lo.deeper (n := 139)).mono (by decide)) x.pa x.epv (by have := x.hn; omega) x.ecl x.hlen x.hc x.hts x.ok x.cnod x.sp x.ds (fun i hi => ?_) x.nod x.cln ?_ ?_⟩))))
  · obtain ⟨c1, c2⟩ := x.cln i hi
    have := x.sz i hi
    rw [c1, c2]; simp; omega
  · -- a Domain is empty
    intro t i D' σ₁ kp ds1 pre hi he et
    refine a_tuple lo.hh et rfl (a_local (a_local (a_local (ta_nil ?_))))
    rw [upd_frm (i := 1) rfl (by simp), upd_frm (i := 2) rfl (by simp), upd_frm (i := 3) rfl (by simp)]
    refine s_cons (x_if (t_not (t_val (e_local rfl (tru_none ?_)))))
    rw [if_pos (show (!false) = true from rfl)]
    refine s_cons (x_ret (e_list (es_nil ⟨Nat.zero_le _, fun sl hsl => ?_⟩)))
    obtain ⟨u, node, sz, cln, nod, len, rest⟩ := pre_node x pre
    have kp2 := kp.put (o := .list []) (.inr hsl)
    refine h sl [] D' _ kp2.q (x.keep kp2.q (ds1.new hsl) cln nod len) rest (put_same ..) (by simp) (kp.live _ hsl) ⟨by simp, .nil, fun f hs hf => ?_⟩
    have := rest.safe f hs hf i hi
    rw [he] at this; cases this
  · intro t D' dd cl vd av nd nvd' vv R σ₁ kp ds1 pre hne et N
    refine a_tuple lo.hh et rfl (a_local (a_local (a_local (ta_nil ?_))))
    rw [upd_frm (i := 1) rfl (by simp), upd_frm (i := 2) rfl (by simp), upd_frm (i := 3) rfl (by simp)]
    obtain ⟨u, node, sz, cln, nod, len, rest⟩ := pre_node x pre
    have x1 := x.keep kp.q ds1 cln nod len
    have hed : (esD W).isEmpty = false := by
      have := x.hn.1
      unfold esD
      cases hw : W.n with
      | zero => omega
      | succ n => simp [List.range_succ]
    refine s_cons (x_if (t_not (t_val (e_local rfl (tru_dict N.edd (by simp [esD]; have := x.hn; omega) ?_)))))
    rw [hed, if_neg (by decide)]
    refine s_nil (s_cons (x_ret (e_meth (e_attr (e_local rfl (att_own O x1.pa.obj x1.pa.ns (by rfl) (fun pl => solv_sols O x1.sv x1.hC fun f hf => ?_) rfl rfl (ga110 _) (at110_solver _)))))))
    have fin : ∀ sl (new : List (Addr × Asg)) D'' σ', Kq W.dyn σ₁ σ' → Doms σ' W D'' → SameD W [] D' D'' → σ'.m sl = some (.list (new.map fun p => .ref p.1)) → (∀ p ∈ new, σ₁.m p.1 = none ∧ ∃ n, σ'.m p.1 = some (.dict (esOf p.2) n)) → σ₁.m sl = none → Good W cons (fun i => (D' i).xs) D' [] (new.map (·.2)) → Q (.ref sl) σ' := by
      intro sl new D'' σ' kq d1 same es outs hsl good
      have cln' : Clean W D'' := fun i hi => by obtain ⟨_, b, c, _⟩ := same i hi; rw [b, c]; exact cln i hi
      have kq2 := kp.q.trans kq
      refine h sl new D'' σ' kq2 (x.keep kq2 d1 cln' (fun i hi => (same i hi).2.2.2.nodup_iff.mpr (nod i hi)) fun i hi => by rw [(same i hi).2.2.2.length_eq]; exact len i hi) ⟨fun i hi v hv => rest.sub i hi v ((same i hi).2.2.2.mem_iff.mp hv), fun f hs hf i hi => (same i hi).2.2.2.mem_iff.mpr (rest.safe f hs hf i hi)⟩ es (fun p hp => ⟨kp.live _ (outs p hp).1, (outs p hp).2⟩) (kp.live _ hsl) (told_of x pre good)
    have lo2 : Lo 139 (A.deeper (callEnv (fdOf (KK w.params) 93) Lf 93)) := lo.deeper (n := 139)
    rcases hf with ⟨rfl, rfl⟩ | ⟨rfl, rfl⟩
    · refine es_cons (e_local rfl (es_cons (e_local rfl (es_cons (e_local rfl (es_nil ⟨kee_fn O rfl, bt_sols O (lo2.mono (by decide)) x.sp u ds1 sz (by omega) node hne N x1.sv fin⟩))))))
    · refine es_cons (e_local rfl (es_cons (e_local rfl (es_cons (e_local rfl (es_nil ⟨kee_fn O rfl, rb_sols O (lo2.mono (by have := x.hn; omega)) x.sp u ds1 sz (by omega) node N x1.sv fun sl new D'' σ' k1 d1 s1 e1 o1 h1 _ g1 => fin sl new D'' σ' k1.q d1 s1 e1 o1 h1 g1⟩))))))
end Mine
set_option maxHeartbeats 200000
set_option linter.unusedSimpArgs false
set_option linter.unusedSectionVars false
set_option maxHeartbeats 4000000
namespace Mine
variable {w : World} {h0 : Heap} {A : Around} {σ σ' σ'' σ0 : St} {ℓ ℓ' : Loc} {outer : List Env}
variable {W : Wd} {cons : List CE} {L : Nat → List Int} {D D' : Nat → Dm} {p px s sx C pcl pvd : Addr} {k nvd : Nat} {ts : List Addr} {fc : Bool} {f : Way}
theorem get_sol (O : (BB w h0).Ok) {Q : AV → St → Prop} (lo : Lo 140 A) (hfr : A.frames = some outer) (x : Prob σ W cons D p px s sx C pcl pvd k nvd ts fc)
    (h1 : ∀ σ', Kq W.dyn σ σ' → (∀ f, Safe cons f → (∀ i, i < W.n → f i ∈ (D i).xs) → False) → Q .none σ')
    (h2 : ∀ b t n σ', Kq W.dyn σ σ' → Sol W cons (fun i => (D i).xs) t → σ'.m b = some (.dict (esOf t) n) → Q (.ref b) σ') :
    Callw (BB w h0) A outer (.ref 86) [.ref p] σ Q := by
  have hp4 := pow4 x.hn
  refine fn_codeW O (k := 139) (n := 1) (ps := ["self"]) (ds := []) (rest := ["domains", "constraints", "vconstraints"]) lo rfl rfl rfl (fun s g X => BindsTo.of_eq rfl) rfl rfl (by decide) (by decide) (by decide) ?_
  intro Lf hL
  have hfr2 := deeper_frames (env := callEnv (fdOf (KK w.params) 86) Lf 86) hfr
  refine w_consT (x_assign (e_meth (e_local rfl fun pl => m110 O x.pa (m110__getArgs _) (t := .type "function") (ty107 _) (by decide) rfl (es_nil ⟨kee_fn O rfl, getArgs O ((lo.deeper (n := 139)).mono (by decide)) x.pa x.epv (by have := x.hn; omega) x.ecl x.hlen x.hc x.hts x.ok x.cnod x.sp x.ds (fun i hi => ?_) x.nod x.cln ?_ ?_⟩))))
  · obtain ⟨c1, c2⟩ := x.cln i hi
    have := x.sz i hi
    rw [c1, c2]; simp; omega
  · -- a Domain is empty
    intro t i D' σ₁ kp ds1 pre hi he et
    refine a_tuple lo.hh et rfl (a_local (a_local (a_local (ta_nil ?_))))
    rw [upd_frm (i := 1) rfl (by simp), upd_frm (i := 2) rfl (by simp), upd_frm (i := 3) rfl (by simp)]
    refine w_consT (x_if (t_not (t_val (e_local rfl (tru_none ?_)))))
    rw [if_pos (show (!false) = true from rfl)]
    obtain ⟨u, node, sz, cln, nod, len, rest⟩ := pre_node x pre
    refine s_cons (x_ret (e_none (h1 σ₁ kp.q fun f hs hf => ?_)))
    have := rest.safe f hs hf i hi
    rw [he] at this; cases this
  · intro t D' dd cl vd av nd nvd' vv R σ₁ kp ds1 pre hne et N
    refine a_tuple lo.hh et rfl (a_local (a_local (a_local (ta_nil ?_))))
    rw [upd_frm (i := 1) rfl (by simp), upd_frm (i := 2) rfl (by simp), upd_frm (i := 3) rfl (by simp)]
    obtain ⟨u, node, sz, cln, nod, len, rest⟩ := pre_node x pre
    have x1 := x.keep kp.q ds1 cln nod len
    have hed : (esD W).isEmpty = false := by
      have := x.hn.1
      unfold esD
      cases hw : W.n with
      | zero => omega
      | succ n => simp [List.range_succ]
    refine w_consT (x_if (t_not (t_val (e_local rfl (tru_dict N.edd (by simp [esD]; have := x.hn; omega) ?_)))))
    rw [hed, if_neg (by decide)]
    have lo2 : Lo 139 (A.deeper (callEnv (fdOf (KK w.params) 86) Lf 86)) := lo.deeper (n := 139)
    refine s_nil (w_cons (xw_ret (ew_meth (e_attr (e_local rfl (att_own O x1.pa.obj x1.pa.ns (by rfl) (fun pl => solv_sol O x1.sv x1.hC fun f hf => ?_) rfl rfl (ga110 _) (at110_solver _)))))))
    have f1 : ∀ σ', Kq W.dyn σ₁ σ' → (∀ f, Safe cons f → (∀ i, i < W.n → f i ∈ (D' i).xs) → False) → Q .none σ' := fun σ' kq no => h1 σ' (kp.q.trans kq) fun f hs hf => no f hs (rest.safe f hs hf)
    have f2 : ∀ b t n σ', Kq W.dyn σ₁ σ' → Sol W cons (fun i => (D' i).xs) t → σ'.m b = some (.dict (esOf t) n) → Q (.ref b) σ' := fun b t n σ' kq s1 e => h2 b t n σ' (kp.q.trans kq) ⟨s1.nod, s1.all, fun p hp => rest.sub p.1 ((s1.all p.1).mp (List.mem_map.mpr ⟨p, hp, rfl⟩)) p.2 (s1.inL p hp), s1.yes⟩ e
    rcases hf with ⟨rfl, rfl⟩ | ⟨rfl, rfl⟩
    · refine es_cons (e_local rfl (es_cons (e_local rfl (es_cons (e_local rfl (es_nil ⟨kee_fn O rfl, bt_sol O (lo2.mono (by decide)) hfr2 x.sp u ds1 sz (by omega) node hne N x1.sv f1 f2⟩))))))
    · refine es_cons (e_local rfl (es_cons (e_local rfl (es_cons (e_local rfl (es_nil ⟨kee_fn O rfl, Callf.weak (rb_sol O (lo2.mono (by have := x.hn; omega)) x.sp u ds1 sz (by omega) x.hn.1 node N x1.sv (fun σ' k1 => f1 σ' k1.q) fun b t n σ' k1 => f2 b t n σ' k1.q)⟩))))))
end Mine
set_option maxHeartbeats 200000
set_option linter.unusedSimpArgs false
set_option maxHeartbeats 4000000
namespace Mine
section
variable (P : Params)
theorem g_choose : nsIn (KK P) mainGlobals "_law_choose" = some (some (.ref 482)) := by rfl
theorem g_up_to : nsIn (KK P) mainGlobals "_law_up_to" = some (some (.ref 487)) := by rfl
end
variable {w : World} {h0 : Heap} {A : Around} {σ σ' σ'' σ0 : St} {ℓ ℓ' : Loc}
def chooseF (n : Int) : Nat → Int
  | 0 => 1
  | i + 1 => (chooseF n i * (n - i)).fdiv (i + 1)
theorem law_choose (O : (BB w h0).Ok) (lo : Lo 6 A) {n : Int} {k : Nat} {Q : AV → St → Prop} (hn : n.natAbs < 2 ^ 40) (hk : k ≤ 4) (q : Q (.int (chooseF n k)) σ) : Callf (BB w h0) A (.ref 482) [.int n, .int k] σ Q := by
  refine Callf.sub (call_fn O (k := 5) (n := 2) (ps := ["n", "k"]) (ds := []) (rest := ["many", "i"]) lo rfl rfl rfl (fun s g X => BindsTo.of_eq rfl) rfl rfl (by decide) (by decide) (by decide) ?_)
  intro Lf hL
  have lo2 : Lo 5 (A.deeper (callEnv (fdOf (KK w.params) 482) Lf 482)) := lo.deeper (n := 5)
  refine s_cons (x_assign (e_int (a_local ?_)))
  rw [upd_frm (i := 2) rfl (by simp)]
  refine s_cons (x_for (e_call (e_boot O (g_range _) rfl (es_cons (e_local rfl (es_nil ⟨kee_ty, c_range fun a t u v ha => ?_⟩))))))
  refine ⟨k, fun _ => True, fun i v => v = .int i, fun i ℓ' σ' => ∃ (x : Option AV), ℓ' = frm ["n", "k", "many", "i"] [some (.int n), some (.int k), some (.int (chooseF n i)), x] ∧ St.Sub σ σ', it_range lo2.hh (by omega) (put_same ..), ⟨none, rfl, sub_new ha⟩, fun _ _ _ _ => trivial, ?_, ?_⟩
  · rintro i v ℓ' σ' hi rfl ⟨x, rfl, S⟩
    refine a_local ?_
    rw [upd_frm (i := 3) rfl (by simp)]
    refine s_cons (x_assign (e_bin (e_bin (e_local rfl (e_bin (e_local rfl (e_local rfl (bin_sub (bin_mul (.of_right ?_) (e_bin (e_local rfl (e_int (bin_add (bin_div (by omega) (PyProof.noPylong_small (by omega)) (a_local ?_)))))))))))))))
    · exact intBits_le_64 (by omega) (by omega)
    · rw [upd_frm (i := 2) rfl (by simp)]
      exact s_nil ⟨_, rfl, S⟩
  · rintro ℓ' σ' ⟨x, rfl, S⟩
    exact s_nil (s_cons (x_ret (e_local rfl ⟨σ, S, q⟩)))
end Mine
set_option maxHeartbeats 200000
set_option linter.unusedSimpArgs false
set_option maxHeartbeats 4000000
namespace Mine
variable {w : World} {h0 : Heap} {A : Around} {σ σ' σ'' σ0 : St} {ℓ ℓ' : Loc}
def signs1 (cap : Int) (s : List (Int × Int)) : List (Int × Int) := s ++ s.map fun p => (-p.1, p.2 - cap - 1)
def signsF (caps : List Int) (balls : Int) : List (Int × Int) := caps.foldl (fun s c => signs1 c s) [(1, balls)]
def upItem (m : Nat) (p : Int × Int) : Option Int := if p.2 ≥ 0 then some (p.1 * chooseF (p.2 + m) m) else none
def upTo (caps : List Int) (balls : Int) : Int := ((signsF caps balls).filterMap (upItem caps.length)).sum
theorem range_fm {α β : Type} (h : α → Option β) : ∀ l : List α, (List.range l.length).filterMap (fun i => l[i]?.bind h) = l.filterMap h
  | [] => rfl
  | a :: l => by
    rw [List.length_cons, List.range_succ_eq_map, List.filterMap_cons, List.filterMap_map]
    have := range_fm h l
    simp only [List.getElem?_cons_zero, Option.bind_some, Function.comp_def, List.getElem?_cons_succ, List.filterMap_cons]
    rw [this]
structure PairsAt (σ : St) (ts : List Addr) (ps : List (Int × Int)) : Prop where
  len : ts.length = ps.length
  at_ : ∀ (i : Nat) (t : Addr) (p : Int × Int), ts[i]? = some t → ps[i]? = some p → σ.m t = some (.tup [.int p.1, .int p.2])
theorem PairsAt.sub {ts : List Addr} {ps : List (Int × Int)} (x : PairsAt σ ts ps) (S : St.Sub σ σ') : PairsAt σ' ts ps := ⟨x.len, fun i t p h1 h2 => S.1 _ _ (x.at_ i t p h1 h2)⟩
theorem PairsAt.get {ts : List Addr} {ps : List (Int × Int)} (x : PairsAt σ ts ps) {i : Nat} {v : AV} (h : (ts.map AV.ref)[i]? = some v) : ∃ t p, v = .ref t ∧ ps[i]? = some p ∧ σ.m t = some (.tup [.int p.1, .int p.2]) := by
  rw [List.getElem?_map] at h
  obtain ⟨t, h1, rfl⟩ := Option.map_eq_some_iff.mp h
  have hl : i < ps.length := by
    rw [← x.len]
    rcases Nat.lt_or_ge i ts.length with h | h
    · exact h
    · rw [List.getElem?_eq_none h] at h1; cases h1
  exact ⟨t, ps[i], rfl, List.getElem?_eq_getElem hl, x.at_ i t _ h1 (List.getElem?_eq_getElem hl)⟩
theorem signs_succ (caps : List Int) (balls : Int) {i : Nat} {c : Int} (h : caps[i]? = some c) : signsF (caps.take (i + 1)) balls = signs1 c (signsF (caps.take i) balls) := by
  have hl : i < caps.length := by
    rcases Nat.lt_or_ge i caps.length with h' | h'
    · exact h'
    · rw [List.getElem?_eq_none h'] at h; cases h
  rw [List.getElem?_eq_getElem hl] at h
  cases h
  rw [List.take_succ_eq_append_getElem hl]
  unfold signsF
  rw [List.foldl_append]; rfl
theorem signs_ok {caps : List Int} {balls : Int} {m : Nat} (hc : ∀ c ∈ caps, 0 ≤ c ∧ c ≤ 3) (hb : balls.natAbs ≤ m) : ∀ (k : Nat), (signsF (caps.take k) balls).length ≤ 2 ^ k ∧ ∀ p ∈ signsF (caps.take k) balls, p.1.natAbs = 1 ∧ p.2.natAbs ≤ m + 4 * k
  | 0 => by
    refine ⟨by simp [signsF], fun p hp => ?_⟩
    simp [signsF] at hp
    subst hp
    exact ⟨rfl, by dsimp only; omega⟩
  | k + 1 => by
    obtain ⟨h1, h2⟩ := signs_ok hc hb k
    cases h : caps[k]? with
    | none =>
      have : caps.take (k + 1) = caps.take k := by
        have := List.getElem?_eq_none_iff.mp h
        rw [List.take_of_length_le (by omega), List.take_of_length_le this]
      rw [this]
      exact ⟨Nat.le_trans h1 (Nat.pow_le_pow_right (by decide) (by omega)), fun p hp => ⟨(h2 p hp).1, by have := (h2 p hp).2; omega⟩⟩
    | some c =>
      rw [signs_succ caps balls h]
      unfold signs1
      have hc' := hc c (List.mem_of_getElem? h)
      refine ⟨by rw [List.length_append, List.length_map, Nat.pow_succ]; omega, fun p hp => ?_⟩
      rcases List.mem_append.mp hp with hp | hp
      · exact ⟨(h2 p hp).1, by have := (h2 p hp).2; omega⟩
      · obtain ⟨q, hq, rfl⟩ := List.mem_map.mp hp
        obtain ⟨q1, q2⟩ := h2 q hq
        dsimp only
        exact ⟨by omega, by omega⟩
noncomputable abbrev upEnv (w : World) (C c1 c2 : Addr) : Env := newEnv (fdOf (KK w.params) 487).scope C (fdOf (KK w.params) 487).globals [("cap", c2), ("caps", c1)] ((fdOf (KK w.params) 487).qualname ++ ".<locals>.") (some 487) (fdOf (KK w.params) 487).code none (fdOf (KK w.params) 487).builtins
theorem law_up_to (O : (BB w h0).Ok) (lo : Lo 12 A) {lc : Addr} {caps : List Int} {balls : Int} {Q : AV → St → Prop} (ec : σ.m lc = some (.list (caps.map .int))) (hc : ∀ c ∈ caps, 0 ≤ c ∧ c ≤ 3) (hl : caps.length ≤ 4) (hb : balls.natAbs ≤ 2 ^ 20)
    (q : Q (.int (upTo caps balls)) σ) : Callf (BB w h0) A (.ref 487) [.ref lc, .int balls] σ Q := by
  refine Callf.sub ((fn_codeC O (k := 11) (n := 2) (ps := ["caps", "balls"]) (ds := []) lo rfl rfl rfl (fun s g X => BindsTo.of_eq rfl) rfl rfl (fun C hC => ?_)).callf)
  refine cells_new fun c1 hc1 => cells_skip (cells_skip (cells_new fun c2 hc2 => cells_skip (cells_nil ?_)))
  have n12 : c2 ≠ c1 := by rintro rfl; rw [put_same] at hc2; cases hc2
  have f2 : σ.m c2 = none := by rw [put_other n12] at hc2; exact hc2
  refine binds_cell (c := c1) (v₀ := none) rfl (by rw [put_other n12.symm, put_same]) (binds_loc (binds_nil ?_))
  have S0 : St.Sub σ (((σ.put c1 (.cell none)).put c2 (.cell none)).put c1 (.cell (some (.ref lc)))) := by
    refine ⟨fun b o e => ?_, rfl⟩
    have h1 : b ≠ c1 := by rintro rfl; rw [hc1] at e; cases e
    have h2 : b ≠ c2 := by rintro rfl; rw [f2] at e; cases e
    rw [put_other h1, put_other h2, put_other h1]; exact e
  have e1 : (((σ.put c1 (.cell none)).put c2 (.cell none)).put c1 (.cell (some (.ref lc)))).m c1 = some (.cell (some (.ref lc))) := put_same ..
  have e2 : (((σ.put c1 (.cell none)).put c2 (.cell none)).put c1 (.cell (some (.ref lc)))).m c2 = some (.cell none) := by rw [put_other n12, put_same]
  generalize (((σ.put c1 (.cell none)).put c2 (.cell none)).put c1 (.cell (some (.ref lc)))) = σ₀ at S0 e1 e2 ⊢
  rw [frm_all ["balls", "signs"], upd_frm (i := 0) rfl (by simp)]
  have lo2 : Lo 11 (A.deeper (upEnv w C c1 c2)) := lo.deeper (n := 11)
  have hsz : sizeLine = 16777216 := sizeLine_eq
  refine s_cons (x_assign (e_list (es_cons (e_tuple (es_cons (e_int (es_cons (e_local rfl (es_nil ⟨by simp [hsz], fun t ht => es_nil ⟨by simp [hsz], fun sg hsg => a_local ?_⟩⟩)))))))))
  rw [upd_frm (i := 1) rfl (by simp)]
  have nts : t ≠ sg := by rintro rfl; rw [put_same] at hsg; cases hsg
  have fsg : σ₀.m sg = none := by rw [put_other nts.symm] at hsg; exact hsg
  have S1 : St.Sub σ₀ ((σ₀.put t (.tup [.int 1, .int balls])).put sg (.list [.ref t])) := (sub_new ht).trans (sub_new hsg)
  refine s_cons (x_for (e_cell (c := c1) rfl (S1.1 _ _ e1) ?_))
  have ecaps := S1.1 _ _ (S0.1 _ _ ec)
  refine ⟨_, _, _, fun i ℓ' σ' => ∃ sl ts, ℓ' = frm ["balls", "signs"] [some (.int balls), some (.ref sl)] ∧ St.Sub σ σ' ∧ σ'.m c1 = some (.cell (some (.ref lc))) ∧ (∃ u, σ'.m c2 = some (.cell u)) ∧ σ'.m sl = some (.list (ts.map .ref)) ∧ PairsAt σ' ts (signsF (caps.take i) balls),
    it_list lo2.hh ecaps, ⟨sg, [t], rfl, S0.trans S1, S1.1 _ _ e1, ⟨_, S1.1 _ _ e2⟩, put_same .., rfl, fun i u p h1 h2 => ?_⟩, ?_, ?_, ?_⟩
  · cases i with
    | zero =>
      cases h1; cases h2
      rw [put_other nts, put_same]
    | succ i => simp at h1
  · rintro i ℓ' σ' ⟨sl, ts, _, S, _⟩; exact S.1 _ _ ec
  · rintro i v ℓ' σ₁ hi hv ⟨sl, ts, rfl, S, k1, ⟨u, k2⟩, k3, pa⟩
    rw [List.getElem?_map] at hv
    obtain ⟨c, hv1, rfl⟩ := Option.map_eq_some_iff.mp hv
    rw [List.length_map] at hi
    have hok := signs_ok hc hb i
    have hp16 : 2 ^ i ≤ 16 := Nat.le_trans (Nat.pow_le_pow_right (by decide) (by omega : i ≤ 4)) (by decide)
    refine a_cell (c := c2) rfl k2 ?_
    have nsl : sl ≠ c2 := by rintro rfl; rw [k3] at k2; cases k2
    have nlc : c1 ≠ c2 := n12.symm
    have S2 : St.Sub σ (σ₁.put c2 (.cell (some (.int c)))) := ⟨fun b o e => by rw [put_other (by rintro rfl; rw [f2] at e; cases e)]; exact S.1 b o e, S.2⟩
    have k1' : (σ₁.put c2 (.cell (some (.int c)))).m c1 = some (.cell (some (.ref lc))) := by rw [put_other nlc]; exact k1
    have k2' : (σ₁.put c2 (.cell (some (.int c)))).m c2 = some (.cell (some (.int c))) := put_same ..
    have k3' : (σ₁.put c2 (.cell (some (.int c)))).m sl = some (.list (ts.map .ref)) := by rw [put_other nsl]; exact k3
    have pa' : PairsAt (σ₁.put c2 (.cell (some (.int c)))) ts (signsF (caps.take i) balls) := ⟨pa.len, fun j t p h1 h2 => by
      have := pa.at_ j t p h1 h2
      rw [put_other (by rintro rfl; rw [this] at k2; cases k2)]; exact this⟩
    generalize (σ₁.put c2 (.cell (some (.int c)))) = σ₂ at S2 k1' k2' k3' pa' ⊢
    refine s_cons (x_assign (e_bin (e_local rfl (e_compR O (cl := [("cap", c2)]) rfl (fun σ P h => cells_skip (cells_skip (cells_skip (cells_skip (cells_nil h))))) (e_local rfl ?_) rfl))))
    refine ⟨_, _, _, fun j => .tup [.int (-((signsF (caps.take i) balls).getD j (0, 0)).1), .int (((signsF (caps.take i) balls).getD j (0, 0)).2 - c - 1)], it_list lo2.hh k3', by rw [List.length_map, pa'.len]; omega, fun σ' S => S.1 _ _ k3', ?_, ?_⟩
    · intro C' j v ℓ₁ σ₃ hj hv S3
      obtain ⟨t', p, rfl, hp, et⟩ := pa'.get hv
      have et' := S3.1 _ _ et
      refine a_tuple lo2.hh et' rfl (a_local (a_local (ta_nil ⟨rfl, ?_⟩)))
      refine e_tuple (es_cons (e_una (e_local rfl (una_neg (es_cons (e_bin (e_bin (e_local rfl (e_cell (c := c2) rfl (S3.1 _ _ k2') (bin_sub (e_int (bin_sub (es_nil ⟨by simp [hsz], fun b hb => ⟨b, rfl, hb, sub_new hb, ?_⟩⟩)))))))))))))
      rw [put_same]
      dsimp only
      rw [List.getD_eq_getElem?_getD, hp]
      rfl
    · intro acc us σ₃ hacc ob
      have S3 : St.Sub σ₂ σ₃ := ob.kc.to
      have lus : us.length = ts.length := by rw [ob.len, List.length_map]
      refine bin_lists (RL.of (S3.1 _ _ k3')) (RL.of ob.kc.list) (by simp only [List.length_map]; rw [lus, pa'.len]; omega) fun nl hnl => ?_
      refine a_local ?_
      rw [upd_frm (i := 1) rfl (by simp)]
      have S4 : St.Sub σ₃ (σ₃.put nl (.list (ts.map .ref ++ us.map .ref))) := sub_new hnl
      refine s_nil ⟨nl, ts ++ us, rfl, S2.trans (S3.trans S4), S4.1 _ _ (S3.1 _ _ k1'), ⟨_, S4.1 _ _ (S3.1 _ _ k2')⟩, by rw [put_same, List.map_append], ?_⟩
      rw [signs_succ caps balls hv1]
      refine ⟨by unfold signs1; rw [List.length_append, List.length_append, List.length_map, lus, pa'.len], fun j t p h1 h2 => S4.1 _ _ ?_⟩
      unfold signs1 at h2
      rcases Nat.lt_or_ge j ts.length with hj | hj
      · rw [List.getElem?_append_left hj] at h1
        rw [List.getElem?_append_left (by rw [← pa'.len]; exact hj)] at h2
        exact S3.1 _ _ (pa'.at_ j t p h1 h2)
      · rw [List.getElem?_append_right hj] at h1
        rw [List.getElem?_append_right (by rw [← pa'.len]; exact hj), List.getElem?_map] at h2
        obtain ⟨p', hp', rfl⟩ := Option.map_eq_some_iff.mp h2
        rw [← pa'.len] at hp'
        have := ob.at_ _ t h1
        rw [this, List.getD_eq_getElem?_getD, hp']; rfl
  · rintro ℓ' σ₁ ⟨sl, ts, rfl, S, k1, ⟨u, k2⟩, k3, pa⟩
    rw [List.length_map, List.take_length] at pa
    have hok := signs_ok hc hb caps.length
    rw [List.take_length] at hok
    have hp16 : 2 ^ caps.length ≤ 16 := Nat.le_trans (Nat.pow_le_pow_right (by decide) hl) (by decide)
    refine s_nil (s_cons (x_ret (e_call (e_boot O (g_sum _) rfl (es_cons (e_compP O (cl := [("caps", c1)]) rfl (fun σ P h => cells_skip (cells_skip (cells_skip (cells_skip (cells_skip (cells_skip (cells_nil h))))))) (e_local rfl ?_)))))))
    refine ⟨_, _, _, fun j => (signsF caps balls)[j]?.bind fun p => (upItem caps.length p).map AV.int, it_list lo2.hh k3, by rw [List.length_map, pa.len]; omega, fun σ' S => S.1 _ _ k3, ?_, ?_⟩
    · intro acc C' j v us ℓ₁ σ₃ hj hv hacc kc
      obtain ⟨t', p, rfl, hp, et⟩ := pa.get hv
      have et' := kc.kept _ _ et
      have hpm := hok.2 p (List.mem_of_getElem? hp)
      refine a_tuple lo2.hh et' rfl (a_local (a_local (ta_nil (tif_one (t_cmp (e_local rfl (e_int (cmp_ge (tru_bool ?_)))))))))
      by_cases hp0 : p.2 ≥ 0
      · rw [if_pos (by simpa using hp0)]
        have ecs := kc.kept _ _ (S.1 _ _ ec)
        refine e_bin (e_local rfl (e_call (e_glob O (g_choose _) (es_cons (e_bin (e_local rfl (e_call (e_boot O (g_len _) rfl (es_cons (e_cell (c := c1) rfl (kc.kept _ _ k1) (es_nil ⟨kee_bi, c_len_rl (RL.of ecs) (by simp; omega) (bin_add
          (es_cons (e_call (e_boot O (g_len _) rfl (es_cons (e_cell (c := c1) rfl (kc.kept _ _ k1) (es_nil ⟨kee_bi, c_len_rl (RL.of ecs) (by simp; omega) (es_nil ⟨kee_fn O rfl, ?_⟩)⟩)))))))⟩)))))))))))
        rw [List.length_map]
        refine law_choose O (lo2.mono (by decide)) (by omega) hl (bin_mul (.of_left (intBits_le_64 (by omega) (by omega))) ⟨kc, ?_⟩)
        dsimp only
        rw [hp]
        show (upItem caps.length p).map AV.int = _
        unfold upItem
        rw [if_pos hp0]; rfl
      · rw [if_neg (by simpa using hp0)]
        refine ⟨kc, ?_⟩
        dsimp only
        rw [hp]
        show (upItem caps.length p).map AV.int = _
        unfold upItem
        rw [if_neg hp0]; rfl
    · intro acc hacc
      rw [List.length_map, pa.len, range_fm]
      have : (signsF caps balls).filterMap (fun p => (upItem caps.length p).map AV.int) = ((signsF caps balls).filterMap (upItem caps.length)).map AV.int := by rw [List.map_filterMap]
      rw [this]
      refine es_nil ⟨kee_bi, c_sum_rl lo2.hh (RL.of (put_same ..)) ⟨σ, S.trans (sub_new hacc), q⟩⟩
end Mine
set_option maxHeartbeats 200000
set_option linter.unusedSimpArgs false
set_option maxHeartbeats 4000000
namespace Mine
variable {w : World} {h0 : Heap} {A : Around} {σ σ' σ'' σ0 : St} {ℓ ℓ' : Loc}
/-- a def of the text with cells, called from the ground, its tail weak -/
theorem fn_codeC0 {B : Bs} (O : B.Ok) {k n : Nat} {f : Addr} {oc : Value} {od : Option Addr} {osl : Array (Option Value)} {fd : FuncData} {body : List Stmt} {ps : List Str} {ds : List (Str × Value)} {args : List AV} {Q : AV → St → Prop}
    (lo : Lo (k + 1) A) (hK : B.K.lookup f = some ⟨oc, od, .func fd, osl⟩) (hbody : fd.body = .stmts body) (hcd : codeIn B.K fd.code fd.qualname = true)
    (hb : ∀ (s : Shared) (g : Nat → Value), B.K.In s.heap → BindsTo s fd ⟨(List.range n).map g, []⟩ (ps.zip ((List.range n).map g) ++ ds))
    (hargs : args.length = n) (hps : ps.length = n)
    (h : ∀ C, σ.m C = none → OnCells fd.scope.names fd.closure σ fun cs σ' => Binds (newEnv fd.scope C fd.globals cs (fd.qualname ++ ".<locals>.") (some f) fd.code none fd.builtins) (ps.zip args ++ ds.map fun p => (p.1, ab p.2)) (fun _ => none) σ' fun ℓ₂ σ₂ =>
      Tsw B (A.deeper (newEnv fd.scope C fd.globals cs (fd.qualname ++ ".<locals>.") (some f) fd.code none fd.builtins)) (newEnv fd.scope C fd.globals cs (fd.qualname ++ ".<locals>.") (some f) fd.code none fd.builtins) [] body ℓ₂ σ₂ fun fl _ σ' => Q (retOf fl) σ')
    (hco : fd.scope.isCoroutine = false := by rfl) (hgen : fd.scope.isGenerator = false := by rfl) (hk : fd.scope.kind = .function := by rfl) : Callw B A [] (.ref f) args σ Q := fun fv vs hf hvs s R _ => by
  obtain rfl := ab_ref hf
  have hlen : vs.length = n := by rw [← hargs, ← hvs, List.length_map]
  have hg : (List.range n).map (fun i => vs.getD i .none) = vs := by
    apply List.ext_getElem
    · simp [hlen]
    · intro i h1 h2; simp [List.getD, h2]
  have X := R.kin O
  obtain ⟨mg, mb, _, _, hlim, _⟩ := O.top
  have hbs := hb s (fun i => vs.getD i .none) X
  rw [hg] at hbs
  have hz : (ps.zip vs ++ ds).map (fun p => (p.1, ab p.2)) = ps.zip args ++ ds.map fun p => (p.1, ab p.2) := by
    rw [List.map_append, ← hvs, List.zip_map_right]; rfl
  refine wpAny_call (codeAny_call_function lo.room (X _ _ hK) rfl hco hgen hbody (codeRec_of X hcd) (hbs _ _ _ _ ?_))
  refine wpAny_mono (new_env (A := A.in1) (closure := fd.closure) (binds := ps.zip vs ++ ds) (around := none) (Z := fun env ℓ₂ σ₂ => Tsw B (A.deeper env) env [] body ℓ₂ σ₂ fun fl _ σ' => Q (retOf fl) σ') R hk (by rw [hz]; exact h)) (fun env s₂ ⟨C, ℓ₂, σ₂, cs, hC, he, R₂, F₂, S₂, z⟩ => ⟨hlim.keeps R₂.base, ?_⟩) fun _ _ x => x.elim
  have hl : env.locals = C := by rw [he]; rfl
  subst hl
  refine codeAny_func (wpAny_mono (z s₂ R₂ F₂ ⟨trivial, by simp⟩ (by simp)) (fun fl s₃ ⟨ℓ₃, σ₃, R₃, F₃, S₃, q⟩ => ?_) fun _ _ x => x.elim)
  have S := (StepW.of S₂).trans S₃
  refine ⟨σ₃, R₃, ⟨fun b o e hb => S.kept b o e hb (by rintro rfl; rw [hC] at e; cases e), S.grow, S.os⟩, ?_⟩
  cases fl <;> exact q
/-- the law's cells -/
structure LC (σ : St) (cf : Nat → Addr) (vs : List (Option AV)) : Prop where
  at_ : ∀ (i : Nat) (o : Option AV), vs[i]? = some o → σ.m (cf i) = some (.cell o)
  inj : ∀ i j, i < vs.length → j < vs.length → cf i = cf j → i = j
theorem LC.sub {cf : Nat → Addr} {vs : List (Option AV)} (x : LC σ cf vs) (S : St.Sub σ σ') : LC σ' cf vs := ⟨fun i o e => S.1 _ _ (x.at_ i o e), x.inj⟩
theorem LC.put {cf : Nat → Addr} {vs : List (Option AV)} (x : LC σ cf vs) {i : Nat} (hi : i < vs.length) (o : Option AV) : LC (σ.put (cf i) (.cell o)) cf (vs.set i o) := by
  refine ⟨fun j u e => ?_, by simpa using x.inj⟩
  rw [List.getElem?_set] at e
  by_cases h : i = j
  · subst h
    rw [if_pos rfl, if_pos hi] at e; cases e
    exact put_same ..
  · rw [if_neg h] at e
    have hj : j < vs.length := by
      rcases Nat.lt_or_ge j vs.length with q | q
      · exact q
      · rw [List.getElem?_eq_none q] at e; cases e
    rw [put_other (fun q => h (x.inj _ _ hj hi q).symm)]
    exact x.at_ j u e
/-- all but cells kept -/
structure KeepO (σ σ' : St) : Prop where
  kept : ∀ b o, σ.m b = some o → (∀ u, o ≠ .cell u) → σ'.m b = some o
  g : σ'.g = σ.g
theorem KeepO.put {c : Addr} {u v : Option AV} (h : σ.m c = some (.cell u)) : KeepO σ (σ.put c (.cell v)) := ⟨fun b o e n => by rw [put_other (by rintro rfl; rw [h] at e; cases e; exact n _ rfl)]; exact e, rfl⟩
def lawN : List Str := ["script", "turn", "k", "problem", "one", "told", "due"]
def lawCs (cf : Nat → Addr) : List (Str × Addr) := [("least", cf 6), ("most", cf 5), ("lists", cf 4), ("caps", cf 3), ("step", cf 2), ("start", cf 1), ("boxes", cf 0)]
noncomputable def lawEnv (w : World) (C : Addr) (cf : Nat → Addr) : Env := newEnv (fdOf (KK w.params) 492).scope C (fdOf (KK w.params) 492).globals (lawCs cf) ((fdOf (KK w.params) 492).qualname ++ ".<locals>.") (some 492) (fdOf (KK w.params) 492).code none (fdOf (KK w.params) 492).builtins
noncomputable def rhs (w : World) (k : Nat) : PySem.Expr := match (bodyOf (KK w.params) 492)[k]? with
  | some (.Assign _ e _) => e
  | some (.Return (some e) _) => e
  | some (.If t _ _ _) => t
  | _ => .Constant .none 0 default
theorem range_map {α β : Type} (f : α → β) (l : List α) : (List.range l.length).filterMap (fun i => l[i]?.map f) = l.map f := by
  have := range_fm (fun a => some (f a)) l
  rw [List.filterMap_eq_map'] at this
  rw [← this]
  congr 1
  funext i
  cases l[i]? <;> rfl
theorem apick_ints (ns : List Int) (lo hi st : Option Int) : ∃ ns' : List Int, apick (ns.map .int) lo hi st = ns'.map .int ∧ ns'.length ≤ ns.length := by
  have h := apick_of (vs := (ns.map fun n => Value.int n 0).toArray) (xs := ns.map .int) (by simp [Function.comp_def, ab]) lo hi st
  have hz := slicePick_size_le (ns.map fun n => Value.int n 0).toArray lo hi st
  have hm : ∀ x ∈ apick (ns.map AV.int) lo hi st, ∃ n, x = AV.int n := by
    intro x hx
    unfold apick at hx
    obtain ⟨i, _, h2⟩ := List.mem_filterMap.mp hx
    have := Array.mem_of_getElem? h2
    simp at this
    obtain ⟨n, _, rfl⟩ := this
    exact ⟨n, rfl⟩
  have conv : ∀ l : List AV, (∀ x ∈ l, ∃ n, x = AV.int n) → ∃ ns' : List Int, l = ns'.map .int := by
    intro l
    induction l with
    | nil => intro _; exact ⟨[], rfl⟩
    | cons x l ih =>
      intro h
      obtain ⟨n, rfl⟩ := h x (by simp)
      obtain ⟨ns', rfl⟩ := ih fun y hy => h y (by simp [hy])
      exact ⟨n :: ns', rfl⟩
  obtain ⟨ns', e⟩ := conv _ hm
  refine ⟨ns', e, ?_⟩
  have : ns'.length = (slicePick (ns.map fun n => Value.int n 0).toArray lo hi st).size := by
    rw [← Array.length_toList, ← List.length_map (f := ab), h, e, List.length_map]
  rw [this]
  simpa using hz
def absI (n : Int) : Int := if n < 0 then -n else n
theorem law_start (O : (BB w h0).Ok) {C : Addr} {cf : Nat → Addr} {sc : Addr} {ns : List Int} {Q : AV → St → Prop} (hh : A.handled = none) (hsc : BL (BB w h0) sc (ns.map .int)) (hl : ns.length ≤ 63) (hv : ℓ "script" = some (.ref sc))
    (q : ∀ M : Int, 0 ≤ M → Q (.int M) σ) : Te (BB w h0) A (lawEnv w C cf) (rhs w 2) ℓ σ Q := by
  have hsz : sizeLine = 16777216 := sizeLine_eq
  refine Te.sub (e_call (e_boot O (g_max _) rfl (es_cons (e_bin (e_compP O (cl := []) rfl (fun σ P h => cells_skip (cells_skip (cells_skip (cells_nil h)))) (e_sliceR (e_local hv (tp_none (tp_some (e_int ⟨sc, _, rfl, hsc.rl, .none, .int _, by rw [List.length_map]; omega, fun b hb => ?_⟩))))))))))
  obtain ⟨ns', e, hl'⟩ := apick_ints ns none (some 1) none
  rw [e]
  refine ⟨_, _, _, fun i => ns'[i]?.map fun x => .int (absI x), it_list hh (put_same ..), by rw [List.length_map]; omega, fun σ' S => S.1 _ _ (put_same ..), ?_, ?_⟩
  · intro acc C' i v us ℓ' σ' hi hvi hacc kc
    rw [List.getElem?_map] at hvi
    obtain ⟨x, hx, rfl⟩ := Option.map_eq_some_iff.mp hvi
    refine a_local (tif_nil ?_)
    rw [if_pos rfl]
    exact e_call (e_boot O (g_abs _) rfl (es_cons (e_local rfl (es_nil ⟨kee_bi, c_abs ⟨kc, by dsimp only; rw [hx]; rfl⟩⟩))))
  · intro acc hacc
    rw [List.length_map, range_map]
    refine e_list (es_cons (e_int (es_nil ⟨by simp [hsz], fun z hz => ?_⟩)))
    refine bin_lists (RL.of (put_fresh hz (put_same ..))) (RL.of (put_same ..)) (by simp; omega) fun c hc => ?_
    have : ns'.map (fun x => AV.int (absI x)) ++ [AV.int 0] = (ns'.map absI ++ [0]).map AV.int := by simp [Function.comp_def]
    rw [this]
    refine es_nil ⟨kee_bi, c_max_rl hh (by simp) (RL.of (put_same ..)) fun M hM hle => ⟨σ, ?_, q M (hle 0 (by simp))⟩⟩
    exact (sub_new hb).trans ((sub_new hacc).trans ((sub_new hz).trans (sub_new hc)))
end Mine
set_option maxHeartbeats 200000
set_option linter.unusedSimpArgs false
set_option maxHeartbeats 4000000
namespace Mine
variable {w : World} {h0 : Heap} {A : Around} {σ σ' σ'' σ0 : St} {ℓ ℓ' : Loc}
theorem law_step (O : (BB w h0).Ok) {C : Addr} {cf : Nat → Addr} {sc : Addr} {ns : List Int} {Q : AV → St → Prop} (hh : A.handled = none) (hsc : BL (BB w h0) sc (ns.map .int)) (hl : ns.length ≤ 63) (hv : ℓ "script" = some (.ref sc))
    (q : ∀ M : Int, 1 ≤ M → Q (.int M) σ) : Te (BB w h0) A (lawEnv w C cf) (rhs w 3) ℓ σ Q := by
  have hsz : sizeLine = 16777216 := sizeLine_eq
  refine Te.sub (e_bin (e_int (e_call (e_boot O (g_max _) rfl (es_cons (e_bin (e_compP O (cl := []) rfl (fun σ P h => cells_skip (cells_skip (cells_skip (cells_nil h)))) (e_sliceR (e_local hv (tp_some (e_una (e_int (una_neg (tp_none ⟨sc, _, rfl, hsc.rl, .int _, .none, by rw [List.length_map]; omega, fun b hb => ?_⟩))))))))))))))
  obtain ⟨ns', e, hl'⟩ := apick_ints ns (some (-1)) none none
  rw [e]
  refine ⟨_, _, _, fun i => ns'[i]?.map fun x => .int (absI x), it_list hh (put_same ..), by rw [List.length_map]; omega, fun σ' S => S.1 _ _ (put_same ..), ?_, ?_⟩
  · intro acc C' i v us ℓ' σ' hi hvi hacc kc
    rw [List.getElem?_map] at hvi
    obtain ⟨x, hx, rfl⟩ := Option.map_eq_some_iff.mp hvi
    refine a_local (tif_nil ?_)
    rw [if_pos rfl]
    exact e_call (e_boot O (g_abs _) rfl (es_cons (e_local rfl (es_nil ⟨kee_bi, c_abs ⟨kc, by dsimp only; rw [hx]; rfl⟩⟩))))
  · intro acc hacc
    rw [List.length_map, range_map]
    refine e_list (es_cons (e_int (es_nil ⟨by simp [hsz], fun z hz => ?_⟩)))
    refine bin_lists (RL.of (put_fresh hz (put_same ..))) (RL.of (put_same ..)) (by simp; omega) fun c hc => ?_
    have : ns'.map (fun x => AV.int (absI x)) ++ [AV.int 0] = (ns'.map absI ++ [0]).map AV.int := by simp [Function.comp_def]
    rw [this]
    refine es_nil ⟨kee_bi, c_max_rl hh (by simp) (RL.of (put_same ..)) fun M hM hle => bin_add ⟨σ, ?_, q (1 + M) (by have := hle 0 (by simp); omega)⟩⟩
    exact (sub_new hb).trans ((sub_new hacc).trans ((sub_new hz).trans (sub_new hc)))
def capF (boxes : Nat) (x : Int) : Int := min (x.fmod 4) (if boxes < 4 then 3 else 2)
def capsF (ns : List Int) (boxes : Nat) : List Int := ((ns ++ [3]).take boxes).map (capF boxes)
theorem law_caps (O : (BB w h0).Ok) {C : Addr} {cf : Nat → Addr} {sc : Addr} {ns : List Int} {n : Nat} {vs : List (Option AV)} {Q : AV → St → Prop} (hh : A.handled = none) (hsc : BL (BB w h0) sc (ns.map .int)) (hl : ns.length ≤ 63) (hv : ℓ "script" = some (.ref sc))
    (lc : LC σ cf vs) (hb : vs[0]? = some (some (.int n))) (hn : n ≤ 4)
    (q : ∀ a, σ.m a = none → Q (.ref a) (σ.put a (.list ((capsF ns n).map .int)))) : Te (BB w h0) A (lawEnv w C cf) (rhs w 4) ℓ σ Q := by
  have hsz : sizeLine = 16777216 := sizeLine_eq
  have e0 := lc.at_ 0 _ hb
  refine Te.sub (e_compP O (cl := [("boxes", cf 0)]) rfl (fun σ P h => cells_skip (cells_skip (cells_skip (cells_skip (cells_nil h))))) (e_sliceX (lo := none) (hi := some (n : Int)) (e_bin (e_local hv (e_list (es_cons (e_int (es_nil ⟨by simp [hsz], fun z hz => bin_lists hsc.rl (RL.of (put_same ..)) (by simp; omega) fun c hc => ?_⟩))))))))
  have S1 : St.Sub σ ((σ.put z (.list [.int 3])).put c (.list (ns.map .int ++ [.int 3]))) := (sub_new hz).trans (sub_new hc)
  refine tp_none (tp_some (e_cell (c := cf 0) rfl (S1.1 _ _ e0) ⟨c, _, rfl, RL.of (put_same ..), .none, .int _, by simp; omega, fun b hb => ?_⟩))
  have e : apick (ns.map AV.int ++ [AV.int 3]) none (some (n : Int)) none = ((ns ++ [3]).take n).map .int := by
    rw [apick_upto, List.map_take]; simp
  rw [e]
  have S2 := S1.trans (sub_new (o := .list (((ns ++ [3]).take n).map .int)) hb)
  refine ⟨_, _, _, fun i => ((ns ++ [3]).take n)[i]?.map fun x => .int (capF n x), it_list hh (put_same ..), by rw [List.length_map, List.length_take]; omega, fun σ' S => S.1 _ _ (put_same ..), ?_, ?_⟩
  · intro acc C' i v us ℓ' σ' hi hvi hacc kc
    rw [List.getElem?_map] at hvi
    obtain ⟨x, hx, rfl⟩ := Option.map_eq_some_iff.mp hvi
    refine a_local (tif_nil ?_)
    rw [if_pos rfl]
    refine e_call (e_boot O (g_min _) rfl (es_cons (e_bin (e_local rfl (e_int (bin_mod (by decide) (es_cons (e_ite (t_cmp (e_cell (c := cf 0) rfl (kc.kept _ _ (S2.1 _ _ e0)) (e_int (cmp_lt (tru_bool ?_)))))))))))))
    have key : ∀ m : Int, m = (if n < 4 then 3 else 2) → Kee (BB w h0) A (.bi "min") σ' ∧ Callf (BB w h0) A (.bi "min") [.int (x.fmod 4), .int m] σ' fun u σ₄ => KC _ acc us σ₄ ∧ ((ns ++ [3]).take n)[i]?.map (fun x => AV.int (capF n x)) = some u := fun m hm =>
      ⟨kee_bi, c_min2 hh ⟨kc, by rw [hx, hm]; rfl⟩⟩
    by_cases h4 : n < 4
    · rw [if_pos (by simp; omega)]
      exact e_int (es_nil (key 3 (by rw [if_pos h4])))
    · rw [if_neg (by simp; omega)]
      exact e_int (es_nil (key 2 (by rw [if_neg h4])))
  · intro acc hacc
    refine ⟨σ.put acc (.list ((capsF ns n).map .int)), ?_, q acc ?_⟩
    · rw [List.length_map, range_map]
      unfold capsF
      rw [List.map_map]
      have f1 : σ.m acc = none := by
        cases q : σ.m acc with
        | none => rfl
        | some o => rw [S2.1 _ _ q] at hacc; cases hacc
      refine ⟨fun b o e => ?_, S2.2⟩
      by_cases h : b = acc
      · subst h; rw [put_same] at e ⊢; exact e
      · rw [put_other h] at e ⊢; exact S2.1 _ _ e
    · cases q : σ.m acc with
      | none => rfl
      | some o => rw [S2.1 _ _ q] at hacc; cases hacc
def listF (start step : Int) (caps : List Int) (k : Nat) : List Int := (List.range (caps.getD k 0 + 1).toNat).map fun (j : Nat) => start + step * (if k % 2 = 0 then (j : Int) else caps.getD k 0 - j)
theorem law_lists (O : (BB w h0).Ok) {C : Addr} {cf : Nat → Addr} {lc_ : Addr} {caps : List Int} {n : Nat} {start step : Int} {vs : List (Option AV)} {Q : AV → St → Prop} (hh : A.handled = none)
    (lc : LC σ cf vs) (hb : vs[0]? = some (some (.int n))) (h1 : vs[1]? = some (some (.int start))) (h2 : vs[2]? = some (some (.int step))) (h3 : vs[3]? = some (some (.ref lc_))) (ec : σ.m lc_ = some (.list (caps.map .int))) (hlen : caps.length = n) (hn : n ≤ 4) (hc : ∀ c ∈ caps, 0 ≤ c ∧ c ≤ 3)
    (q : ∀ acc ts σ', σ.m acc = none → Objs σ acc (fun k => .list ((listF start step caps k).map .int)) n ts σ' → Q (.ref acc) σ') : Te (BB w h0) A (lawEnv w C cf) (rhs w 5) ℓ σ Q := by
  have hsz : sizeLine = 16777216 := sizeLine_eq
  have e0 := lc.at_ 0 _ hb
  have e1 := lc.at_ 1 _ h1
  have e2 := lc.at_ 2 _ h2
  have e3 := lc.at_ 3 _ h3
  refine e_compRC O (x := "k") (cl := [("step", cf 2), ("start", cf 1), ("caps", cf 3)]) rfl (fun σ P h => cells_skip (cells_new fun c hc => cells_skip (cells_skip (cells_skip (cells_skip (cells_nil (h c hc))))))) (e_call (e_boot O (g_range _) rfl (es_cons (e_cell (c := cf 0) rfl e0 (es_nil ⟨kee_ty, c_range fun a t u v ha => ?_⟩))))) rfl
  refine ⟨n, fun _ => True, fun i v => v = .int i, fun k => .list ((listF start step caps k).map .int), it_range hh (by omega) (put_same ..), by omega, fun _ _ => trivial, ?_, ?_⟩
  · rintro C' c i v ℓ' σ₁ o hi rfl S ec1 fc
    have S1 := (sub_new ha).trans S
    refine a_cell (c := c) rfl ec1 ⟨⟨_, rfl⟩, ?_⟩
    have ncf : ∀ {b o}, σ.m b = some o → (σ₁.put c (.cell (some (.int i)))).m b = some o := fun {b o} e => by
      rw [put_other (by rintro rfl; rw [sub_new (o := .raw (rangeObj n t u v)) ha |>.1 _ _ e] at fc; cases fc)]; exact S1.1 _ _ e
    have ek : (σ₁.put c (.cell (some (.int i)))).m c = some (.cell (some (.int i))) := put_same ..
    have hil : i < caps.length := by omega
    have hcap := hc _ (List.getElem_mem hil)
    have gcap : caps.getD i 0 = caps[i] := by simp [List.getD_eq_getElem?_getD, hil]
    have vcap : (caps.map AV.int)[((i : Nat) : Int).toNat]? = some (.int caps[i]) := by simp [hil]
    generalize (σ₁.put c (.cell (some (.int i)))) = σ₂ at ncf ek ⊢
    have ec' := ncf ec
    refine e_compP O (cl := [("step", cf 2), ("start", cf 1), ("k", c), ("caps", cf 3)]) rfl (fun σ P h => cells_skip (cells_skip (cells_skip (cells_skip (cells_skip (cells_skip (cells_nil h))))))) (e_call (e_boot O (g_range _) rfl (es_cons (e_bin (e_sub (e_cell (c := cf 3) rfl (ncf e3) (e_cell (c := c) rfl ek ⟨gp_of O ec' rfl, gi_list ec' (by omega) (by rw [List.length_map]; omega) vcap (e_int (bin_add (es_nil ⟨kee_ty, ?_⟩)))⟩)))))))
    have hm : caps[i] + 1 = ((caps[i] + 1).toNat : Int) := by omega
    rw [hm]
    refine c_range fun a2 t2 u2 v2 ha2 => ?_
    refine ⟨(caps[i] + 1).toNat, fun _ => True, fun j v => v = .int j, fun j => some (.int (start + step * (if i % 2 = 0 then (j : Int) else caps[i] - j))), it_range hh (by omega) (put_same ..), by omega, fun _ _ => trivial, ?_, ?_⟩
    · rintro acc C2 j v us ℓ₂ σ₃ hj rfl hacc kc
      refine a_local (tif_nil ?_)
      rw [if_pos rfl]
      have k3 : ∀ {b o}, σ₂.m b = some o → σ₃.m b = some o := fun {b o} e => kc.kept _ _ (put_fresh ha2 e)
      have ec3 := k3 ec'
      have fin : ∀ m : Int, m = (if i % 2 = 0 then (j : Int) else caps[i] - j) → Bin (BB w h0) A .Mult (.int step) (.int m) σ₃ fun u σ₄ => Bin (BB w h0) A .Add (.int start) u σ₄ fun u σ₅ => KC _ acc us σ₅ ∧ some (AV.int (start + step * (if i % 2 = 0 then (j : Int) else caps[i] - j))) = some u := fun m hm =>
        bin_mul (.of_right (intBits_le_64 (by split at hm <;> omega) (by split at hm <;> omega))) (bin_add ⟨kc, by rw [hm]⟩)
      refine e_bin (e_cell (c := cf 1) rfl (k3 (ncf e1)) (e_bin (e_cell (c := cf 2) rfl (k3 (ncf e2)) (e_ite (t_cmp (e_bin (e_cell (c := c) rfl (k3 ek) (e_int (bin_mod (by decide) (e_int (cmp_eq (tru_bool ?_)))))))))))) 
      have hmod : ((i : Int).fmod 2 == 0) = decide (i % 2 = 0) := by
        rw [Int.fmod_eq_emod_of_nonneg _ (by decide), Bool.beq_eq_decide_eq]
        congr 1
        rw [eq_iff_iff]; omega
      rw [hmod]
      by_cases h2 : i % 2 = 0
      · rw [if_pos (by simpa using h2)]
        exact e_local rfl (fin _ (by rw [if_pos h2]))
      · rw [if_neg (by simpa using h2)]
        exact e_bin (e_sub (e_cell (c := cf 3) rfl (k3 (ncf e3)) (e_cell (c := c) rfl (k3 ek) ⟨gp_of O ec3 rfl, gi_list ec3 (by omega) (by rw [List.length_map]; omega) vcap (e_local rfl (bin_sub (fin _ (by rw [if_neg h2]))))⟩)))
    · intro acc hacc
      have fa : σ₂.m acc = none := by
        cases q : σ₂.m acc with
        | none => rfl
        | some o => rw [put_fresh ha2 q] at hacc; cases hacc
      refine ⟨acc, rfl, fa, (sub_new ha2).trans (sub_new hacc), ?_⟩
      rw [put_same]
      dsimp only
      unfold listF
      rw [gcap, List.map_map]
      congr 2
      have : ∀ (f : Nat → AV) (m : Nat), (List.range m).filterMap (fun j => some (f j)) = (List.range m).map f := fun f m => List.filterMap_eq_map' ▸ rfl
      rw [this]
      rfl
  · intro acc ts σ' hacc ob
    have fa : σ.m acc = none := by
      cases q : σ.m acc with
      | none => rfl
      | some o => rw [put_fresh ha q] at hacc; cases hacc
    refine q acc ts σ' fa ⟨ob.len, ⟨ob.kc.list, fun b o e => ob.kc.kept _ _ (put_fresh ha e), ob.kc.g⟩, ob.at_, fun t ht => ⟨?_, (ob.new t ht).2⟩, ob.nod⟩
    cases q : σ.m t with
    | none => rfl
    | some o => have := (ob.new t ht).1; rw [put_fresh ha q] at this; cases this
end Mine
set_option maxHeartbeats 200000
set_option linter.unusedSimpArgs false
set_option maxHeartbeats 4000000
namespace Mine
theorem run_congr {α : Type} {n : Nat} {P : α → Prop} {lt lt' : Nat → Nat → Bool} (h : ∀ i j, i < n → j < n → lt i j = lt' i j) : ∀ (t : KasT α), OkT n P t → runT lt t = runT lt' t
  | .ret _, _ => rfl
  | .ask i j k, o => by
    show runT lt (k (lt i j)) = runT lt' (k (lt' i j))
    rw [h i j o.1 o.2.1]
    exact run_congr h _ (o.2.2 _)
theorem sortIdx_congr {n : Nat} {lt lt' : Nat → Nat → Bool} (h : ∀ i j, i < n → j < n → lt i j = lt' i j) : sortIdx lt n = sortIdx lt' n := by
  unfold sortIdx
  split
  · rfl
  · rw [run_congr h _ (ok_sort (by omega))]
def keyLt (π : List Nat) (i j : Nat) : Bool := decide (π.getD i 0 < π.getD j 0)
def goodS (π : List Nat) : Bool := (sortIdx (keyLt π) π.length).map (fun i => π.getD i 0) == List.range π.length
theorem sort4 : (∀ a, a < 4 → ∀ b, b < 4 → ∀ c, c < 4 → ∀ d, d < 4 → [a, b, c, d].Nodup → goodS [a, b, c, d] = true) := by decide +kernel
theorem sort3 : (∀ a, a < 3 → ∀ b, b < 3 → ∀ c, c < 3 → [a, b, c].Nodup → goodS [a, b, c] = true) := by decide +kernel
theorem sort2 : (∀ a, a < 2 → ∀ b, b < 2 → [a, b].Nodup → goodS [a, b] = true) := by decide +kernel
theorem small_sort {π : List Nat} (h : π.Perm (List.range π.length)) (hn : π.length ≤ 4) : (sortIdx (keyLt π) π.length).map (fun i => π.getD i 0) = List.range π.length := by
  have hnd : π.Nodup := h.nodup_iff.mpr List.nodup_range
  have hlt : ∀ a ∈ π, a < π.length := fun a ha => List.mem_range.mp (h.mem_iff.mp ha)
  have : goodS π = true := by
    match π, hnd, hlt, hn with
    | [], _, _, _ => rfl
    | [a], _, hlt, _ =>
      have := hlt a (by simp)
      simp at this
      subst this; rfl
    | [a, b], hnd, hlt, _ => exact sort2 a (hlt a (by simp)) b (hlt b (by simp)) hnd
    | [a, b, c], hnd, hlt, _ => exact sort3 a (hlt a (by simp)) b (hlt b (by simp)) c (hlt c (by simp)) hnd
    | [a, b, c, d], hnd, hlt, _ => exact sort4 a (hlt a (by simp)) b (hlt b (by simp)) c (hlt c (by simp)) d (hlt d (by simp)) hnd
    | _ :: _ :: _ :: _ :: _ :: _, _, _, hn => simp at hn
  exact eq_of_beq this
def psOf (t : Asg) : List (Int × Int) := t.map fun p => ((p.1 : Int), p.2)
theorem psOf_es (t : Asg) : esOf t = (psOf t).map fun p => (p.1, .int p.2) := by unfold esOf psOf; rw [List.map_map]; rfl
def rowOf (n : Nat) (t : Asg) : List Int := (List.range n).map fun i => (look t i).getD 0
theorem sortPs_row {t : Asg} {n : Nat} (h : (t.map (·.1)).Perm (List.range n)) (hn : n ≤ 4) : (sortPs (psOf t)).map (·.2) = rowOf n t := by
  have hl : t.length = n := by have := h.length_eq; simpa using this
  have hnd : (t.map (·.1)).Nodup := h.nodup_iff.mpr List.nodup_range
  have hpl : (psOf t).length = n := by unfold psOf; rw [List.length_map, hl]
  have cg : sortIdx (fun i j => rowLt (((psOf t).map pairList).getD i []) (((psOf t).map pairList).getD j [])) n = sortIdx (keyLt (t.map (·.1))) n := by
    refine sortIdx_congr fun i j hi hj => ?_
    have g : ∀ i (hi : i < t.length), ((psOf t).map pairList).getD i [] = [(t[i].1 : Int), t[i].2] := fun i hi => by
      simp [psOf, pairList, List.getD_eq_getElem?_getD, hi]
    have g2 : ∀ i (hi : i < t.length), (t.map (·.1)).getD i 0 = t[i].1 := fun i hi => by simp [List.getD_eq_getElem?_getD, hi]
    rw [g i (by omega), g j (by omega)]
    show rowLt _ _ = decide _
    rw [g2 i (by omega), g2 j (by omega)]
    unfold rowLt
    rw [List.zip_cons_cons, List.zip_cons_cons, List.zip_nil_left]
    unfold katB
    by_cases hk : t[i].1 = t[j].1
    · have hij : i = j := by
        have e1 : (t.map (·.1))[i]'(by rw [List.length_map]; omega) = (t.map (·.1))[j]'(by rw [List.length_map]; omega) := by simpa using hk
        rcases Nat.lt_trichotomy i j with q | q | q
        · exact absurd e1 (List.pairwise_iff_getElem.mp hnd i j _ _ q)
        · exact q
        · exact absurd e1.symm (List.pairwise_iff_getElem.mp hnd j i _ _ q)
      subst hij
      simp [katB]
    · have : ((t[i].1 : Int) == (t[j].1 : Int)) = false := by rw [beq_eq_false_iff_ne]; omega
      rw [this]
      simp
  have hs := small_sort (π := t.map (·.1)) (by rw [List.length_map, hl]; exact h) (by rw [List.length_map, hl]; exact hn)
  rw [List.length_map, hl] at hs
  unfold sortPs
  rw [hpl, cg, List.map_map]
  unfold rowOf
  rw [← hs, List.map_map]
  refine List.map_congr_left fun i hi => ?_
  have hin : i < t.length := by
    have := (sortIdx_perm _ _).mem_iff.mp hi
    rw [hl]; simpa using this
  have e1 : (psOf t).getD i (0, 0) = ((t[i].1 : Int), t[i].2) := by simp [psOf, List.getD_eq_getElem?_getD, hin]
  have e2 : (t.map (·.1)).getD i 0 = t[i].1 := by simp [List.getD_eq_getElem?_getD, hin]
  show ((psOf t).getD i (0, 0)).2 = (look t ((t.map (·.1)).getD i 0)).getD 0
  rw [e1, e2, look_nodup hnd (List.getElem_mem hin)]
  rfl
end Mine
set_option maxHeartbeats 200000
set_option linter.unusedSimpArgs false
set_option maxHeartbeats 4000000
namespace Mine
variable {w : World} {h0 : Heap} {A : Around} {σ σ' σ'' σ0 : St} {ℓ ℓ' : Loc}
def rowScope : Scope := { kind := .function, names := [(".0", .local), ("k", .local), ("v", .local)], isGenerator := false, isCoroutine := false, more := [] }
/-- [v for k, v in sorted(one.items())] -/
theorem e_row (O : (BB w h0).Ok) (hh : A.handled = none) {env : Env} {p1 p2 p3 p4 p5 p6 p7 p8 p9 p10 : Pos} {d : Addr} {t : Asg} {n m : Nat} {Q : AV → St → Prop}
    (hone : ∀ Q : AV → St → Prop, Q (.ref d) σ → Te (BB w h0) A env (.Name "one" p6) ℓ σ Q) (hso : ∀ Q : AV → St → Prop, Q (.bi "sorted") σ → Te (BB w h0) A env (.Name "sorted" p5) ℓ σ Q)
    (hclos : closureFor rowScope env = Pure.pure []) (hk1 : ∀ C, (compEnvC rowScope [] C env).scope.kind = .function) (hk2 : ∀ C, (compEnvC rowScope [] C env).kindOf "k" = some .local) (hk3 : ∀ C, (compEnvC rowScope [] C env).kindOf "v" = some .local) (hline : (p7.endLine == p8.line) = true)
    (e : σ.m d = some (.dict (esOf t) m)) (hp : (t.map (·.1)).Perm (List.range n)) (hn : n ≤ 4)
    (q : ∀ b σ', σ.m b = none → St.Sub σ σ' → σ'.m b = some (.list ((rowOf n t).map .int)) → Q (.ref b) σ') :
    Te (BB w h0) A env (.ListComp (.Name "v" p1) [⟨.Tuple [.Name "k" p2, .Name "v" p3] 0 p4, .Call (.Name "sorted" p5) [.Call (.Attribute (.Name "one" p6) "items" p7) [] [] p8] [] p9, [], 0⟩] rowScope p10) ℓ σ Q := by
  have hl : t.length = n := by have := hp.length_eq; simpa using this
  have hpl : (psOf t).length = n := by unfold psOf; rw [List.length_map, hl]
  refine e_compP O (cl := []) hclos (fun σ P h => cells_skip (cells_skip (cells_skip (cells_nil h)))) (e_call (hso _ (es_cons (e_meth (hone _ fun pl => md_items O e (es_nil ⟨kee_bi, c_dict_items e fun v hv => es_nil ⟨kee_bi, ?_⟩⟩)) (hline := hline)))))
  refine c_sorted_items O hh (n := m) (ps := psOf t) (put_same ..) (by rw [put_fresh hv e, psOf_es]) (by omega) fun c us σ₁ hc S1 g1 ec lus rows => ?_
  have S01 : St.Sub σ σ₁ := ⟨fun b o q => S1 _ _ (put_fresh hv q), g1.symm⟩
  refine ⟨_, _, _, fun i => (sortPs (psOf t))[i]?.map fun q => .int q.2, it_list hh ec, by rw [List.length_map]; omega, fun σ' S => S.1 _ _ ec, ?_, ?_⟩
  · intro acc C' i v us' ℓ' σ₂ hi hvi hacc kc
    rw [List.getElem?_map] at hvi
    obtain ⟨u, hu, rfl⟩ := Option.map_eq_some_iff.mp hvi
    have hsl : (sortPs (psOf t)).length = us.length := by unfold sortPs; rw [List.length_map, (sortIdx_perm _ _).length_eq, List.length_range, lus]
    rw [List.length_map] at hi
    obtain ⟨pr, hpr⟩ : ∃ pr, (sortPs (psOf t))[i]? = some pr := ⟨_, List.getElem?_eq_getElem (by omega)⟩
    have et := kc.kept _ _ (rows i u pr hu hpr)
    refine a_tuple hh et rfl (a_local (a_local (ta_nil (tif_nil ?_)) (hk1 C') (hk3 C')) (hk1 C') (hk2 C'))
    rw [if_pos rfl]
    exact e_local rfl ⟨kc, by dsimp only; rw [hpr]; rfl⟩ (hk1 C') (hk3 C')
  · intro acc hacc
    have fa : σ.m acc = none := by
      cases q : σ.m acc with
      | none => rfl
      | some o => rw [S01.1 _ _ q] at hacc; cases hacc
    refine q acc _ fa (S01.trans (sub_new hacc)) ?_
    have hsl : (sortPs (psOf t)).length = us.length := by unfold sortPs; rw [List.length_map, (sortIdx_perm _ _).length_eq, List.length_range, lus]
    rw [put_same, List.length_map, ← hsl, range_map, ← sortPs_row hp hn, List.map_map]
    rfl
theorem sub_kp (S : St.Sub σ σ') : Kp (fun _ => False) σ σ' := ⟨fun b o e _ => S.1 b o e, (fun b h => by
  cases q : σ.m b with
  | none => rfl
  | some o => rw [S.1 _ _ q] at h; cases h), S.2.symm⟩
variable {W : Wd} {cons : List CE} {D D' : Nat → Dm} {p px s sx C pcl pvd : Addr} {k nvd : Nat} {ts : List Addr} {fc : Bool}
theorem Prob.sub (x : Prob σ W cons D p px s sx C pcl pvd k nvd ts fc) (S : St.Sub σ σ') : Prob σ' W cons D p px s sx C pcl pvd k nvd ts fc :=
  x.keep ((sub_kp S).mono (S' := W.dyn) fun b q => q.elim).q (x.ds.kp (sub_kp S) fun b q => q.elim) x.cln x.nod x.sz
theorem Sol.perm {L : Nat → List Int} {t : Asg} (s : Sol W cons L t) : (t.map (·.1)).Perm (List.range W.n) :=
  (List.perm_ext_iff_of_nodup s.nod List.nodup_range).mpr fun i => by rw [s.all i, List.mem_range]
noncomputable abbrev lawA (w : World) (A : Around) (Cl : Addr) (cf : Nat → Addr) : Around := A.deeper (lawEnv w Cl cf)
theorem law_told (O : (BB w h0).Ok) (lo : Lo 140 A) {Cl : Addr} {cf : Nat → Addr} {Q : AV → St → Prop} (hv : ℓ "problem" = some (.ref p)) (x : Prob σ W cons D p px s sx C pcl pvd k nvd ts fc)
    (hb : ∀ new, Told W cons D new → new.length < 64)
    (q : ∀ c us new D' σ', Kq W.dyn σ σ' → Prob σ' W cons D' p px s sx C pcl pvd k nvd ts fc → Rest W cons D D' → Told W cons D new → σ.m c = none → σ'.m c = some (.list (us.map .ref)) → RowsAt σ' us (sortRows (new.map (rowOf W.n))) → c ∉ us → (∀ u ∈ us, σ.m u = none) → Q (.ref c) σ') :
    Te (BB w h0) A (lawEnv w Cl cf) (rhs w 11) ℓ σ Q := by
  refine e_call (e_boot O (g_sorted _) rfl (es_cons (e_compR O (cl := []) rfl (fun σ P h => cells_skip (cells_skip (cells_skip (cells_nil h)))) (e_meth (e_local hv fun pl => m110 O x.pa (m110_getSolutions _) (t := .type "function") (ty93 _) (by decide) rfl (es_nil ⟨kee_fn O rfl, get_sols O lo x ?_⟩))) rfl)))
  intro sl new D' σ₁ kq x1 rest esl dicts fsl told
  have hb' := hb _ told
  rw [List.length_map] at hb'
  have hz : (new.map fun p => AV.ref p.1).length = new.length := List.length_map ..
  refine ⟨_, _, _, fun i => .list ((rowOf W.n ((new.map (·.2)).getD i [])).map .int), it_list lo.hh esl, by rw [hz]; omega, fun σ' S => S.1 _ _ esl, ?_, ?_⟩
  · intro C' i v ℓ' σ₂ hi hvi S
    rw [List.getElem?_map] at hvi
    obtain ⟨pr, hpr, rfl⟩ := Option.map_eq_some_iff.mp hvi
    have hm := List.mem_of_getElem? hpr
    obtain ⟨_, m, ed⟩ := dicts pr hm
    have sol := told.sound pr.2 (List.mem_map.mpr ⟨pr, hm, rfl⟩)
    refine a_local ⟨rfl, ?_⟩
    refine e_row O lo.hh (n := W.n) (fun Q h => e_local rfl h) (fun Q h => e_boot O (g_sorted _) rfl h) rfl (fun _ => rfl) (fun _ => rfl) (fun _ => rfl) rfl (S.1 _ _ ed) sol.perm x.hn.2 fun b σ₃ hb S3 eb => ⟨b, rfl, hb, S3, ?_⟩
    rw [eb]
    dsimp only
    rw [List.getD_eq_getElem?_getD, List.getElem?_map, hpr]; rfl
  · intro acc us σ₂ hacc ob
    have S12 : St.Sub σ₁ σ₂ := ob.kc.to
    have ol := ob.len
    rw [hz] at ol
    have hr : RowsAt σ₂ us ((new.map (·.2)).map (rowOf W.n)) := by
      refine ⟨by rw [ol, List.length_map, List.length_map], fun i a r h1 h2 => ?_⟩
      rw [ob.at_ i a h1]
      rw [List.getElem?_map] at h2
      obtain ⟨t, ht, rfl⟩ := Option.map_eq_some_iff.mp h2
      rw [List.getD_eq_getElem?_getD, ht]; rfl
    refine es_nil ⟨kee_bi, c_sorted_rows O (lo.mono (by decide)) ob.kc.list (by rw [ol]; omega) hr fun c us' hc lus sub rows => ?_⟩
    have S3 : St.Sub σ₁ (σ₂.put c (.list (us'.map .ref))) := S12.trans (sub_new hc)
    have fc1 : σ₁.m c = none := (sub_kp S12).live _ hc
    refine q c us' (new.map (·.2)) D' _ (kq.trans ((sub_kp S3).mono (S' := W.dyn) fun b q => q.elim).q) (x1.sub S3) rest told (kq.live _ fc1) (put_same ..) (rows.to fun a ha o ho => put_fresh hc ho) (fun hcu => ?_) fun u hu => kq.live _ (ob.new u (sub u hu)).1
    obtain ⟨i, r, _, _, h3⟩ := rows.mem hcu
    rw [hc] at h3; cases h3
end Mine
set_option maxHeartbeats 200000
set_option linter.unusedSimpArgs false
set_option maxHeartbeats 4000000
namespace Mine
variable {w : World} {h0 : Heap} {A : Around} {σ σ' σ'' σ0 : St} {ℓ ℓ' : Loc}
theorem Tt.sub {B : Bs} {env : Env} {e : PySem.Expr} {Q : Bool → St → Prop} (h : Tt B A env e ℓ σ fun v σ' => ∃ σ₂, St.Sub σ₂ σ' ∧ Q v σ₂) : Tt B A env e ℓ σ Q :=
  T.sub (T.mono h fun _ _ _ ⟨e, σ₂, S, q⟩ => ⟨σ₂, S, e, q⟩)
theorem t_or3 {B : Bs} {env : Env} {pos : Pos} {Q : Bool → St → Prop} {x y z : PySem.Expr} (h : Tt B A env x ℓ σ fun b σ₁ => if b = true then Q true σ₁ else Tt B A env y ℓ σ₁ fun b σ₂ => if b = true then Q true σ₂ else Tt B A env z ℓ σ₂ Q) : Tt B A env (.BoolOp .Or [x, y, z] pos) ℓ σ Q := by
  show T _ _ _ (allTrue .Or [x, y, z] env) _ _ _
  show T _ _ _ (isTrue x env (eval x env) >>= _) _ _ _
  refine T.bind (T.mono h ?_)
  rintro c ℓ' σ' ⟨rfl, h'⟩
  cases c with
  | true => exact T.pure ⟨rfl, h'⟩
  | false =>
    show T _ _ _ (isTrue y env (eval y env) >>= _) _ _ _
    refine T.bind (T.mono h' ?_)
    rintro c ℓ' σ' ⟨rfl, h'⟩
    cases c with
    | true => exact T.pure ⟨rfl, h'⟩
    | false =>
      show T _ _ _ (isTrue z env (eval z env) >>= _) _ _ _
      refine T.bind (T.mono h' ?_)
      rintro c ℓ' σ' ⟨rfl, h'⟩
      cases c <;> exact T.pure ⟨rfl, h'⟩
theorem fm_none {α : Type} (n : Nat) : (List.range n).filterMap (fun _ => (none : Option α)) = [] := by induction n <;> simp [List.range_succ, *]
theorem law_t1 (O : (BB w h0).Ok) (lo : Lo 20 A) {Cl : Addr} {cf : Nat → Addr} {c : Addr} {us : List Addr} {rows : List (List Int)} {due : Int} {Q : Bool → St → Prop} (hv : ℓ "told" = some (.ref c)) (hd : ℓ "due" = some (.int due))
    (e : σ.m c = some (.list (us.map .ref))) (hr : RowsAt σ us rows) (hnd : rows.Nodup) (h64 : us.length < 64) (hdue : due = us.length) (q : Q false σ) : Tt (BB w h0) A (lawEnv w Cl cf) (rhs w 13) ℓ σ Q := by
  have hsz : sizeLine = 16777216 := sizeLine_eq
  refine Tt.sub (t_or (t_cmp (e_call (e_boot O (g_len _) rfl (es_cons (e_local hv (es_nil ⟨kee_bi, c_len_rl (RL.of e) (by rw [List.length_map]; omega) (e_local hd (cmp_ne (tru_bool ?_)))⟩)))))))
  rw [List.length_map, hdue, if_neg (by simp)]
  refine t_cmp (e_compZ O (cl := []) rfl (fun σ P h => cells_skip (cells_skip (cells_skip (cells_nil h)))) (e_call (e_boot O (g_zip _) rfl (es_cons (e_local hv (es_cons (e_sliceR (lo := some 1) (hi := none) (e_local hv (tp_some (e_int (tp_none ⟨c, _, rfl, RL.of e, .int _, .none, by rw [List.length_map]; omega, fun b hb => es_nil ⟨kee_ty, ?_⟩⟩))))))))))) 
  refine c_zip lo.hh (put_fresh hb e) (put_same ..) fun z σz it => ?_
  have it' := it A lo.hh
  have S1 := sub_new (o := .list (apick (us.map AV.ref) (some 1) none none)) hb
  by_cases hz : us = []
  · subst hz
    refine ⟨_, _, _, _, fun _ => none, it', by simp, fun σ' S => ⟨S.1 _ _ (put_fresh hb e), S.1 _ _ (put_same ..)⟩, fun acc C' i vals τ us' ℓ' σ' hi => by simp at hi, ?_⟩
    intro acc hacc
    rw [fm_none]
    refine e_list (es_nil ⟨Nat.zero_le _, fun n hn => cmp_ne_nil lo.line (RL.of (put_fresh hn (put_same ..))) (RL.of (put_same ..)) (tru_bool ⟨σ, S1.trans ((sub_new hacc).trans (sub_new hn)), q⟩)⟩)
  · have hap : apick (us.map AV.ref) (some 1) none none = (us.map AV.ref).drop 1 := by
      have := List.length_pos_iff.mpr hz
      exact apick_from 1 (by rw [List.length_map]; omega)
    refine ⟨_, _, _, _, fun _ => none, it', by simp; omega, fun σ' S => ⟨S.1 _ _ (put_fresh hb e), S.1 _ _ (put_same ..)⟩, ?_, ?_⟩
    · intro acc C' i vals τ us' ℓ' σ' hi hP hacc kc eτ
      rw [hap] at hP
      obtain ⟨x, y, hx, hy, rfl⟩ := hP
      rw [List.getElem?_drop] at hy
      rw [List.getElem?_map] at hx hy
      obtain ⟨t1, ht1, rfl⟩ := Option.map_eq_some_iff.mp hx
      obtain ⟨t2, ht2, rfl⟩ := Option.map_eq_some_iff.mp hy
      obtain ⟨r1, hr1⟩ : ∃ r, rows[i]? = some r := by
        have : i < us.length := by
          rcases Nat.lt_or_ge i us.length with h | h
          · exact h
          · rw [List.getElem?_eq_none h] at ht1; cases ht1
        exact ⟨_, List.getElem?_eq_getElem (by rw [← hr.len]; exact this)⟩
      obtain ⟨r2, hr2⟩ : ∃ r, rows[1 + i]? = some r := by
        have : 1 + i < us.length := by
          rcases Nat.lt_or_ge (1 + i) us.length with h | h
          · exact h
          · rw [List.getElem?_eq_none h] at ht2; cases ht2
        exact ⟨_, List.getElem?_eq_getElem (by rw [← hr.len]; exact this)⟩
      have q1 := kc.kept _ _ (S1.1 _ _ (hr.at_ i t1 r1 ht1 hr1))
      have q2 := kc.kept _ _ (S1.1 _ _ (hr.at_ _ t2 r2 ht2 hr2))
      have hne : r1 ≠ r2 := by
        rintro rfl
        obtain ⟨h1, e1⟩ := List.getElem?_eq_some_iff.mp hr1
        obtain ⟨h2, e2⟩ := List.getElem?_eq_some_iff.mp hr2
        exact List.pairwise_iff_getElem.mp hnd i (1 + i) h1 h2 (by omega) (e1.trans e2.symm)
      refine a_tuple lo.hh eτ rfl (a_local (a_local (ta_nil (tif_one (t_cmp (e_local rfl (e_local rfl (cmp_eq_ints lo.line (RL.of q1) (RL.of q2) (tru_bool ?_)))))))))
      rw [if_neg (by simpa using hne)]
      exact ⟨kc, rfl⟩
    · intro acc hacc
      rw [fm_none]
      refine e_list (es_nil ⟨Nat.zero_le _, fun n hn => cmp_ne_nil lo.line (RL.of (put_fresh hn (put_same ..))) (RL.of (put_same ..)) (tru_bool ⟨σ, S1.trans ((sub_new hacc).trans (sub_new hn)), q⟩)⟩)
theorem law_t2 (O : (BB w h0).Ok) (lo : Lo 20 A) {Cl : Addr} {cf : Nat → Addr} {c ll : Addr} {us ts : List Addr} {rows lists : List (List Int)} {n : Nat} {least most : Int} {vs : List (Option AV)} {Q : Bool → St → Prop} (hv : ℓ "told" = some (.ref c))
    (lc : LC σ cf vs) (v0 : vs[0]? = some (some (.int n))) (v4 : vs[4]? = some (some (.ref ll))) (v5 : vs[5]? = some (some (.int most))) (v6 : vs[6]? = some (some (.int least)))
    (e : σ.m c = some (.list (us.map .ref))) (hr : RowsAt σ us rows) (h64 : us.length < 64) (el : σ.m ll = some (.list (ts.map .ref))) (hl : RowsAt σ ts lists) (hll : lists.length = n) (hn : n ≤ 4)
    (ok : ∀ r ∈ rows, r.length = n ∧ least ≤ r.sum ∧ r.sum ≤ most ∧ ∀ k, k < n → r.getD k 0 ∈ lists.getD k []) (q : Q false σ) : Tt (BB w h0) A (lawEnv w Cl cf) (rhs w 14) ℓ σ Q := by
  have e0 := lc.at_ 0 _ v0
  have e4 := lc.at_ 4 _ v4
  have e5 := lc.at_ 5 _ v5
  have e6 := lc.at_ 6 _ v6
  have htl : ts.length = n := by rw [hl.len, hll]
  refine Tt.sub (t_cmp (e_compPC O (x := "way") (cl := [("most", cf 5), ("lists", cf 4), ("least", cf 6), ("boxes", cf 0)]) rfl (fun σ P h => cells_skip (cells_new fun c hc => cells_skip (cells_skip (cells_skip (cells_skip (cells_skip (cells_skip (cells_skip (cells_nil (h c hc)))))))))) (e_local hv ?_)))
  refine ⟨_, _, _, fun _ => none, it_list lo.hh e, by rw [List.length_map]; omega, fun σ' S => S.1 _ _ e, ?_, ?_⟩
  · intro acc C' cw i v us' ℓ' σ₁ o hi hvi hacc fcw ncw kc ecw
    rw [List.getElem?_map] at hvi
    obtain ⟨u, hu, rfl⟩ := Option.map_eq_some_iff.mp hvi
    rw [List.length_map] at hi
    obtain ⟨r, hri⟩ : ∃ r, rows[i]? = some r := ⟨_, List.getElem?_eq_getElem (by rw [← hr.len]; exact hi)⟩
    obtain ⟨r1, r2, r3, r4⟩ := ok r (List.mem_of_getElem? hri)
    refine a_cell (c := cw) rfl ecw (tif_one ?_)
    have kc' : KC σ acc us' (σ₁.put cw (.cell (some (.ref u)))) := kc.cell fcw ncw
    have ew : (σ₁.put cw (.cell (some (.ref u)))).m cw = some (.cell (some (.ref u))) := put_same ..
    generalize (σ₁.put cw (.cell (some (.ref u)))) = σ₂ at kc' ew ⊢
    have er := kc'.kept _ _ (hr.at_ i u r hu hri)
    refine Tt.sub (t_or3 (t_cmp (e_call (e_boot O (g_len _) rfl (es_cons (e_cell (c := cw) rfl ew (es_nil ⟨kee_bi, c_len_rl (RL.of er) (by rw [List.length_map]; omega) (e_cell (c := cf 0) rfl (kc'.kept _ _ e0) (cmp_ne (tru_bool ?_)))⟩)))))))
    rw [List.length_map, r1, if_neg (by simp)]
    refine t_not (t_chain (e_cell (c := cf 6) rfl (kc'.kept _ _ e6) (e_call (e_boot O (g_sum _) rfl (es_cons (e_cell (c := cw) rfl ew (es_nil ⟨kee_bi, c_sum_rl lo.hh (RL.of er) (cmp_le (tru_bool ?_))⟩)))))))
    rw [if_pos (by simpa using r2)]
    refine e_cell (c := cf 5) rfl (kc'.kept _ _ e5) (cmp_le (tru_bool ?_))
    rw [show decide (r.sum ≤ most) = true by simpa using r3]
    rw [if_neg (by simp)]
    refine t_cmp (e_compP O (cl := [("way", cw), ("lists", cf 4)]) rfl (fun σ P h => cells_skip (cells_skip (cells_skip (cells_skip (cells_nil h))))) (e_call (e_boot O (g_range _) rfl (es_cons (e_cell (c := cf 0) rfl (kc'.kept _ _ e0) (es_nil ⟨kee_ty, c_range fun a t u' v' ha => ?_⟩))))))
    refine ⟨n, fun _ => True, fun i v => v = .int i, fun _ => none, it_range lo.hh (by omega) (put_same ..), by omega, fun _ _ => trivial, ?_, ?_⟩
    · rintro acc2 C2 k v us2 ℓ₂ σ₃ hk rfl hacc2 kc2
      refine a_local (tif_one ?_)
      have k3 : ∀ {b o}, σ₂.m b = some o → σ₃.m b = some o := fun {b o} e => kc2.kept _ _ (put_fresh ha e)
      have er3 := k3 er
      have el3 := k3 (kc'.kept _ _ el)
      obtain ⟨t, ht⟩ : ∃ t, ts[k]? = some t := ⟨_, List.getElem?_eq_getElem (by omega)⟩
      obtain ⟨l, hlk⟩ : ∃ l, lists[k]? = some l := ⟨_, List.getElem?_eq_getElem (by omega)⟩
      have et3 := k3 (kc'.kept _ _ (hl.at_ k t l ht hlk))
      have hrk : (r.map AV.int)[((k : Nat) : Int).toNat]? = some (.int (r.getD k 0)) := by
        have : k < r.length := by omega
        simp [List.getD_eq_getElem?_getD, this]
      refine t_cmp (e_sub (e_cell (c := cw) rfl (k3 ew) (e_local rfl ⟨gp_of O er3 rfl, gi_list er3 (by omega) (le_line (by rw [List.length_map]; omega)) hrk (e_sub (e_cell (c := cf 4) rfl (k3 (kc'.kept _ _ e4)) (e_local rfl ⟨gp_of O el3 rfl, gi_list el3 (by omega) (le_line (by rw [List.length_map]; omega)) (v := .ref t) (by simp [ht]) (cmp_nin_ints (RL.of et3) (tru_bool ?_))⟩)))⟩)))
      have := r4 k hk
      rw [List.getD_eq_getElem?_getD (l := lists), hlk] at this
      rw [if_neg (by simpa using this)]
      exact ⟨kc2, rfl⟩
    · intro acc2 hacc2
      rw [fm_none]
      refine e_list (es_nil ⟨Nat.zero_le _, fun m hm => cmp_ne_nil lo.line (RL.of (put_fresh hm (put_same ..))) (RL.of (put_same ..)) (tru_bool ⟨σ₂, (sub_new ha).trans ((sub_new hacc2).trans (sub_new hm)), ?_⟩)⟩)
      exact ⟨kc', ⟨_, ew⟩, rfl⟩
  · intro acc hacc
    rw [fm_none]
    refine e_list (es_nil ⟨Nat.zero_le _, fun m hm => cmp_ne_nil lo.line (RL.of (put_fresh hm (put_same ..))) (RL.of (put_same ..)) (tru_bool ⟨σ, (sub_new hacc).trans (sub_new hm), q⟩)⟩)
end Mine
set_option maxHeartbeats 200000
set_option linter.unusedSimpArgs false
set_option maxHeartbeats 4000000
namespace Mine
/-- the ways to fill boxes -/
def waysOf : List Int → List (List Int)
  | [] => [[]]
  | c :: r => (List.range (c + 1).toNat).flatMap fun (j : Nat) => (waysOf r).map fun t => (j : Int) :: t
def cnt (caps : List Int) (q : Int) : Nat := (waysOf caps).countP fun t => decide (t.sum ≤ q)
def capsAll (m : Nat) : Nat → List (List Int)
  | 0 => [[]]
  | n + 1 => (List.range (m + 1)).flatMap fun (j : Nat) => (capsAll m n).map fun t => (j : Int) :: t
theorem mem_capsAll (m : Nat) : ∀ (caps : List Int), (∀ c ∈ caps, 0 ≤ c ∧ c ≤ m) → caps ∈ capsAll m caps.length
  | [], _ => by simp [capsAll]
  | c :: r, h => by
    have hc := h c (by simp)
    refine List.mem_flatMap.mpr ⟨c.toNat, by rw [List.mem_range]; omega, List.mem_map.mpr ⟨r, mem_capsAll m r fun x hx => h x (by simp [hx]), ?_⟩⟩
    rw [Int.toNat_of_nonneg hc.1]
def capGood (caps : List Int) : Bool := (List.range 16).all fun q => decide (upTo caps ((q : Int) - 5) = cnt caps ((q : Int) - 5)) && decide (cnt caps ((q : Int) - 5) - cnt caps ((q : Int) - 9) < 64)
set_option maxRecDepth 1000000 in
theorem caps_good1 : ((capsAll 3 1).all capGood) = true := by decide +kernel
set_option maxRecDepth 1000000 in
theorem caps_good2 : ((capsAll 3 2).all capGood) = true := by decide +kernel
set_option maxRecDepth 1000000 in
theorem caps_good3 : ((capsAll 3 3).all capGood) = true := by decide +kernel
set_option maxRecDepth 1000000 in
theorem caps_good4 : ((capsAll 2 4).all capGood) = true := by decide +kernel
end Mine
set_option maxHeartbeats 200000
set_option linter.unusedSimpArgs false
set_option maxHeartbeats 4000000
namespace Mine
theorem mem_ways : ∀ {caps t : List Int}, t ∈ waysOf caps ↔ t.length = caps.length ∧ ∀ k, k < caps.length → 0 ≤ t.getD k 0 ∧ t.getD k 0 ≤ caps.getD k 0
  | [], t => by simp [waysOf]
  | c :: r, t => by
    unfold waysOf
    rw [List.mem_flatMap]
    constructor
    · rintro ⟨j, hj, ht⟩
      obtain ⟨t', ht', rfl⟩ := List.mem_map.mp ht
      obtain ⟨h1, h2⟩ := mem_ways.mp ht'
      rw [List.mem_range] at hj
      refine ⟨by simp [h1], fun k hk => ?_⟩
      cases k with
      | zero => simp; omega
      | succ k => simpa using h2 k (by simpa using hk)
    · rintro ⟨h1, h2⟩
      cases t with
      | nil => simp at h1
      | cons x t =>
        have h0 := h2 0 (by simp)
        simp at h0
        refine ⟨x.toNat, by rw [List.mem_range]; omega, List.mem_map.mpr ⟨t, mem_ways.mpr ⟨by simpa using h1, fun k hk => by simpa using h2 (k + 1) (by simpa using hk)⟩, by rw [Int.toNat_of_nonneg h0.1]⟩⟩
theorem ways_nodup : ∀ caps : List Int, (waysOf caps).Nodup
  | [] => by simp [waysOf]
  | c :: r => by
    unfold waysOf
    refine List.pairwise_flatMap.mpr ⟨fun j _ => ?_, ?_⟩
    · exact List.pairwise_map.mpr ((ways_nodup r).imp fun h e => h (by injection e))
    · refine List.nodup_range.imp fun {a b} h x hx y hy e => ?_
      obtain ⟨x', _, rfl⟩ := List.mem_map.mp hx
      obtain ⟨y', _, rfl⟩ := List.mem_map.mp hy
      injection e with e1 _
      exact h (by omega)
def phi (start step : Int) (t : List Int) : List Int := t.map fun j => start + step * j
theorem phi_inj {start step : Int} (hs : 1 ≤ step) : ∀ {t u : List Int}, phi start step t = phi start step u → t = u
  | [], [], _ => rfl
  | [], _ :: _, h => by cases h
  | _ :: _, [], h => by cases h
  | a :: t, b :: u, h => by
    unfold phi at h
    rw [List.map_cons, List.map_cons] at h
    injection h with h1 h2
    have : step * a = step * b := by omega
    rw [Int.eq_of_mul_eq_mul_left (by omega) this, phi_inj hs h2]
theorem phi_sum (start step : Int) : ∀ t : List Int, (phi start step t).sum = t.length * start + step * t.sum
  | [] => by simp [phi]
  | a :: t => by
    have := phi_sum start step t
    unfold phi at this ⊢
    rw [List.map_cons, List.sum_cons, this, List.sum_cons, List.length_cons, Int.mul_add]
    push_cast
    rw [Int.add_mul]
    omega
theorem mem_listF {start step : Int} {caps : List Int} {k : Nat} {v : Int} : v ∈ listF start step caps k ↔ ∃ x : Int, 0 ≤ x ∧ x ≤ caps.getD k 0 ∧ v = start + step * x := by
  unfold listF
  rw [List.mem_map]
  constructor
  · rintro ⟨j, hj, rfl⟩
    rw [List.mem_range] at hj
    by_cases h : k % 2 = 0
    · exact ⟨j, by omega, by omega, by rw [if_pos h]⟩
    · exact ⟨caps.getD k 0 - j, by omega, by omega, by rw [if_neg h]⟩
  · rintro ⟨x, h1, h2, rfl⟩
    by_cases h : k % 2 = 0
    · exact ⟨x.toNat, by rw [List.mem_range]; omega, by rw [if_pos h, Int.toNat_of_nonneg h1]⟩
    · refine ⟨(caps.getD k 0 - x).toNat, by rw [List.mem_range]; omega, ?_⟩
      rw [if_neg h, Int.toNat_of_nonneg (by omega)]
      congr 2; omega
theorem row_way {start step : Int} {caps r : List Int} (hs : 1 ≤ step) (hl : r.length = caps.length) (h : ∀ k, k < caps.length → r.getD k 0 ∈ listF start step caps k) : ∃ t ∈ waysOf caps, r = phi start step t := by
  have key : ∀ v x : Int, v = start + step * x → (v - start) / step = x := fun v x e => by
    rw [e, show start + step * x - start = step * x by omega, Int.mul_ediv_cancel_left _ (by omega)]
  refine ⟨r.map fun v => (v - start) / step, mem_ways.mpr ⟨by rw [List.length_map, hl], fun k hk => ?_⟩, ?_⟩
  · obtain ⟨x, h1, h2, h3⟩ := mem_listF.mp (h k hk)
    have : (r.map fun v => (v - start) / step).getD k 0 = x := by
      rw [← key _ x h3]
      simp [List.getD_eq_getElem?_getD, (by omega : k < r.length)]
    rw [this]; exact ⟨h1, h2⟩
  · unfold phi
    rw [List.map_map]
    apply List.ext_getElem (by simp)
    intro k h1 h2
    obtain ⟨x, _, _, h3⟩ := mem_listF.mp (h k (by omega))
    have e : r.getD k 0 = r[k] := by simp [List.getD_eq_getElem?_getD, h1]
    rw [e] at h3
    simp only [List.getElem_map, Function.comp]
    rw [key _ x h3]; exact h3
theorem way_row {start step : Int} {caps t : List Int} (h : t ∈ waysOf caps) : (phi start step t).length = caps.length ∧ ∀ k, k < caps.length → (phi start step t).getD k 0 ∈ listF start step caps k := by
  obtain ⟨h1, h2⟩ := mem_ways.mp h
  refine ⟨by unfold phi; rw [List.length_map, h1], fun k hk => mem_listF.mpr ⟨t.getD k 0, (h2 k hk).1, (h2 k hk).2, ?_⟩⟩
  unfold phi
  simp [List.getD_eq_getElem?_getD, (by omega : k < t.length)]
theorem cnt_split (l : List (List Int)) {a b : Int} (h : b ≤ a) : l.countP (fun t => decide (t.sum ≤ a)) = l.countP (fun t => decide (t.sum ≤ b)) + l.countP (fun t => decide (b < t.sum) && decide (t.sum ≤ a)) := by
  induction l with
  | nil => rfl
  | cons t l ih =>
    rw [List.countP_cons, List.countP_cons, List.countP_cons, ih]
    by_cases h1 : t.sum ≤ b
    · rw [if_pos (by simpa using Int.le_trans h1 h), if_pos (by simpa using h1), if_neg (by simp; omega)]; omega
    · by_cases h2 : t.sum ≤ a
      · rw [if_pos (by simpa using h2), if_neg (by simpa using h1), if_pos (by simp; omega)]; omega
      · rw [if_neg (by simpa using h2), if_neg (by simpa using h1), if_neg (by simp; omega)]; omega
theorem cnt_mono (caps : List Int) {a b : Int} (h : b ≤ a) : cnt caps b ≤ cnt caps a := by
  unfold cnt; rw [cnt_split _ h]; omega
/-- what the law counts -/
theorem count_rows {caps : List Int} {start step most least : Int} {R : List (List Int)} (hs : 1 ≤ step) (hnd : R.Nodup)
    (sound : ∀ r ∈ R, r.length = caps.length ∧ least ≤ r.sum ∧ r.sum ≤ most ∧ ∀ k, k < caps.length → r.getD k 0 ∈ listF start step caps k)
    (comp : ∀ r : List Int, r.length = caps.length → least ≤ r.sum → r.sum ≤ most → (∀ k, k < caps.length → r.getD k 0 ∈ listF start step caps k) → r ∈ R) (hlm : least ≤ most) :
    cnt caps ((least - caps.length * start - 1).fdiv step) + R.length = cnt caps ((most - caps.length * start).fdiv step) ∧ (least - caps.length * start - 1).fdiv step ≤ (most - caps.length * start).fdiv step := by
  have e1 : ∀ x : Int, x.fdiv step = x / step := fun x => Int.fdiv_eq_ediv_of_nonneg _ (by omega)
  rw [e1, e1]
  have hle : (least - caps.length * start - 1) / step ≤ (most - caps.length * start) / step := Int.ediv_le_ediv (by omega) (by omega)
  refine ⟨?_, hle⟩
  have hp : R.Perm (((waysOf caps).filter fun t => decide ((least - caps.length * start - 1) / step < t.sum) && decide (t.sum ≤ (most - caps.length * start) / step)).map (phi start step)) := by
    refine (List.perm_ext_iff_of_nodup hnd (List.pairwise_map.mpr (((ways_nodup caps).filter _).imp fun h e => h (phi_inj hs e)))).mpr fun r => ?_
    have iff : ∀ t ∈ waysOf caps, ((least - caps.length * start - 1) / step < t.sum ∧ t.sum ≤ (most - caps.length * start) / step) ↔ (least ≤ (phi start step t).sum ∧ (phi start step t).sum ≤ most) := fun t ht => by
      rw [phi_sum, (mem_ways.mp ht).1, Int.le_ediv_iff_mul_le (by omega), Int.ediv_lt_iff_lt_mul (by omega), Int.mul_comm step]
      generalize t.sum * step = y
      generalize (caps.length : Int) * start = z
      omega
    rw [List.mem_map]
    constructor
    · intro hr
      obtain ⟨s1, s2, s3, s4⟩ := sound r hr
      obtain ⟨t, ht, rfl⟩ := row_way hs s1 s4
      refine ⟨t, List.mem_filter.mpr ⟨ht, ?_⟩, rfl⟩
      have := (iff t ht).mpr ⟨s2, s3⟩
      simpa using this
    · rintro ⟨t, ht, rfl⟩
      obtain ⟨ht, hb⟩ := List.mem_filter.mp ht
      have hb' := (iff t ht).mp (by simpa using hb)
      obtain ⟨l1, l2⟩ := way_row (start := start) (step := step) ht
      exact comp _ l1 hb'.1 hb'.2 l2
  have hl := hp.length_eq
  rw [List.length_map, ← List.countP_eq_length_filter] at hl
  unfold cnt
  rw [hl, cnt_split _ hle]
end Mine
set_option maxHeartbeats 200000
set_option linter.unusedSimpArgs false
set_option maxHeartbeats 4000000
namespace Mine
variable {w : World} {h0 : Heap} {A : Around} {σ σ' σ'' σ0 : St} {ℓ ℓ' : Loc}
/-- the caps of the law -/
structure CapsOk (caps : List Int) (n : Nat) : Prop where
  len : caps.length = n
  n1 : 1 ≤ n
  n4 : n ≤ 4
  low : ∀ c ∈ caps, 0 ≤ c ∧ c ≤ 3
  four : n = 4 → ∀ c ∈ caps, c ≤ 2
theorem CapsOk.good {caps : List Int} {n : Nat} (x : CapsOk caps n) : capGood caps = true := by
  obtain ⟨h1, h2, h3, h4, h5⟩ := x
  by_cases h : n = 4
  · have := mem_capsAll 2 caps fun c hc => ⟨(h4 c hc).1, h5 h c hc⟩
    rw [h1, h] at this
    exact List.all_eq_true.mp caps_good4 _ this
  · have := mem_capsAll 3 caps fun c hc => ⟨(h4 c hc).1, (h4 c hc).2⟩
    rw [h1] at this
    rcases (by omega : n = 1 ∨ n = 2 ∨ n = 3) with r | r | r
    · rw [r] at this; exact List.all_eq_true.mp caps_good1 _ this
    · rw [r] at this; exact List.all_eq_true.mp caps_good2 _ this
    · rw [r] at this; exact List.all_eq_true.mp caps_good3 _ this
theorem CapsOk.up {caps : List Int} {n : Nat} (x : CapsOk caps n) {q : Int} (h1 : -5 ≤ q) (h2 : q ≤ 10) : upTo caps q = cnt caps q ∧ cnt caps q - cnt caps (q - 4) < 64 := by
  have := List.all_eq_true.mp x.good (q + 5).toNat (by rw [List.mem_range]; omega)
  rw [Bool.and_eq_true, decide_eq_true_iff, decide_eq_true_iff] at this
  have e : (((q + 5).toNat : Nat) : Int) - 5 = q := by omega
  have e2 : (((q + 5).toNat : Nat) : Int) - 9 = q - 4 := by omega
  rw [e, e2] at this
  exact this
theorem q_bounds {step d1 c d2 : Int} (hs : 1 ≤ step) (h1 : 0 ≤ d1) (h2 : d1 ≤ 9) (h3 : -1 ≤ c) (h4 : c ≤ 1) (h5 : 0 ≤ d2) (h6 : d2 ≤ 3) :
    -1 ≤ (step * d1 + c).fdiv step ∧ (step * d1 + c).fdiv step ≤ 10 ∧ -5 ≤ (step * d1 + c - step * d2 - 1).fdiv step ∧ (step * d1 + c - step * d2 - 1).fdiv step ≤ 10 ∧ (step * d1 + c).fdiv step - 4 ≤ (step * d1 + c - step * d2 - 1).fdiv step := by
  have e1 : ∀ x : Int, x.fdiv step = x / step := fun x => Int.fdiv_eq_ediv_of_nonneg _ (by omega)
  rw [e1, e1]
  have hp : 0 < step := by omega
  have a1 : 0 ≤ step * d1 := Int.mul_nonneg (by omega) h1
  have a2 : step * d1 ≤ step * 9 := Int.mul_le_mul_of_nonneg_left h2 (by omega)
  have b1 : 0 ≤ step * d2 := Int.mul_nonneg (by omega) h5
  have b2 : step * d2 ≤ step * 3 := Int.mul_le_mul_of_nonneg_left h6 (by omega)
  generalize step * d1 = x at a1 a2 ⊢
  generalize step * d2 = y at b1 b2 ⊢
  have g1 : (x + c) / step ≤ 10 := by
    have : (x + c) / step < 11 := (Int.ediv_lt_iff_lt_mul hp).mpr (by omega)
    omega
  refine ⟨(Int.le_ediv_iff_mul_le hp).mpr (by omega), g1, (Int.le_ediv_iff_mul_le hp).mpr (by omega), ?_, ?_⟩
  · have : (x + c - y - 1) / step < 11 := (Int.ediv_lt_iff_lt_mul hp).mpr (by omega)
    omega
  · refine (Int.le_ediv_iff_mul_le hp).mpr ?_
    have : (x + c) / step * step ≤ x + c := (Int.le_ediv_iff_mul_le hp).mp (Int.le_refl _)
    rw [Int.sub_mul]
    omega
theorem near {step d1 c d2 : Int} (hs : 1 ≤ step) (h1 : 0 ≤ d1) (h2 : d1 ≤ 9) (h3 : -1 ≤ c) (h4 : c ≤ 1) (h5 : 0 ≤ d2) (h6 : d2 ≤ 3) :
    Builtin.divisionGoesByPylong (step * d1 + c) step = false ∧ Builtin.divisionGoesByPylong (step * d1 + c - step * d2 - 1) step = false := by
  have a1 : 0 ≤ step * d1 := Int.mul_nonneg (by omega) h1
  have a2 : step * d1 ≤ step * 9 := Int.mul_le_mul_of_nonneg_left h2 (by omega)
  have b1 : 0 ≤ step * d2 := Int.mul_nonneg (by omega) h5
  have b2 : step * d2 ≤ step * 3 := Int.mul_le_mul_of_nonneg_left h6 (by omega)
  generalize step * d1 = x at a1 a2 ⊢
  generalize step * d2 = y at b1 b2 ⊢
  exact ⟨noPylong_near (by omega), noPylong_near (by omega)⟩
def offF : List Int := [0, 1, -1]
theorem law_most (O : (BB w h0).Ok) {Cl : Addr} {cf : Nat → Addr} {n : Nat} {start step turn : Int} {vs : List (Option AV)} {Q : AV → St → Prop} (hv : ℓ "turn" = some (.int turn)) (lc : LC σ cf vs) (v0 : vs[0]? = some (some (.int n))) (v1 : vs[1]? = some (some (.int start))) (v2 : vs[2]? = some (some (.int step))) (hn : n ≤ 4)
    (q : ∀ d1 c : Int, 0 ≤ d1 → d1 ≤ 9 → -1 ≤ c → c ≤ 1 → Q (.int (n * start + step * d1 + c)) σ) : Te (BB w h0) A (lawEnv w Cl cf) (rhs w 6) ℓ σ Q := by
  have hsz : sizeLine = 16777216 := sizeLine_eq
  have e0 := lc.at_ 0 _ v0
  have e1 := lc.at_ 1 _ v1
  have e2 := lc.at_ 2 _ v2
  have hd : 0 ≤ (turn.fdiv 2).fmod 10 ∧ (turn.fdiv 2).fmod 10 ≤ 9 := by
    rw [Int.fmod_eq_emod_of_nonneg _ (by decide)]; omega
  have hc : 0 ≤ (turn.fdiv 20).fmod 3 ∧ (turn.fdiv 20).fmod 3 ≤ 2 := by
    rw [Int.fmod_eq_emod_of_nonneg _ (by decide)]; omega
  refine Te.sub (e_bin (e_bin (e_bin (e_cell (c := cf 0) rfl e0 (e_cell (c := cf 1) rfl e1 (bin_mul (.of_left (intBits_le_64 (by omega) (by omega))) (e_bin (e_cell (c := cf 2) rfl e2 (e_bin (e_bin (e_local hv (e_int (bin_div (by decide) (PyProof.noPylong_small (by decide)) (e_int (bin_mod (by decide) (bin_mul (.of_right (intBits_le_64 (by omega) (by omega))) (bin_add ?_)))))))))))))))))
  refine e_sub (e_list (es_cons (e_int (es_cons (e_int (es_cons (e_una (e_int (una_neg (es_nil ⟨by simp [hsz], fun b hb => ?_⟩)))))))))) 
  obtain ⟨c, hcv, c1, c2⟩ : ∃ c : Int, [AV.int 0, AV.int 1, AV.int (-1)][((turn.fdiv 20).fmod 3).toNat]? = some (.int c) ∧ -1 ≤ c ∧ c ≤ 1 := by
    rcases (by omega : (turn.fdiv 20).fmod 3 = 0 ∨ (turn.fdiv 20).fmod 3 = 1 ∨ (turn.fdiv 20).fmod 3 = 2) with r | r | r <;> rw [r]
    · exact ⟨0, rfl, by decide, by decide⟩
    · exact ⟨1, rfl, by decide, by decide⟩
    · exact ⟨-1, rfl, by decide, by decide⟩
  exact e_bin (e_bin (e_local hv (e_int (bin_div (by decide) (PyProof.noPylong_small (by decide)) (e_int (bin_mod (by decide) ⟨gp_of O (put_same ..) rfl, gi_list (put_same ..) hc.1 (by simp [hsz]) hcv (bin_add ⟨σ, sub_new hb, q _ c hd.1 hd.2 c1 c2⟩)⟩))))))
theorem law_least (O : (BB w h0).Ok) {Cl : Addr} {cf : Nat → Addr} {step turn most : Int} {vs : List (Option AV)} {Q : AV → St → Prop} (hv : ℓ "turn" = some (.int turn)) (lc : LC σ cf vs) (v2 : vs[2]? = some (some (.int step))) (v5 : vs[5]? = some (some (.int most)))
    (q1 : turn.fmod 2 = 0 → Q (.int most) σ) (q2 : turn.fmod 2 ≠ 0 → ∀ d2 : Int, 0 ≤ d2 → d2 ≤ 3 → Q (.int (most - step * d2)) σ) : Te (BB w h0) A (lawEnv w Cl cf) (rhs w 7) ℓ σ Q := by
  have e2 := lc.at_ 2 _ v2
  have e5 := lc.at_ 5 _ v5
  have hd : 0 ≤ (turn.fdiv 60).fmod 4 ∧ (turn.fdiv 60).fmod 4 ≤ 3 := by
    rw [Int.fmod_eq_emod_of_nonneg _ (by decide)]; omega
  refine e_ite (t_cmp (e_bin (e_local hv (e_int (bin_mod (by decide) (e_int (cmp_eq (tru_bool ?_))))))))
  by_cases h : turn.fmod 2 = 0
  · rw [if_pos (by simpa using h)]
    exact e_cell (c := cf 5) rfl e5 (q1 h)
  · rw [if_neg (by simpa using h)]
    exact e_bin (e_cell (c := cf 5) rfl e5 (e_bin (e_cell (c := cf 2) rfl e2 (e_bin (e_bin (e_local hv (e_int (bin_div (by decide) (PyProof.noPylong_small (by decide)) (e_int (bin_mod (by decide) (bin_mul (.of_right (intBits_le_64 (by omega) (by omega))) (bin_sub (q2 h _ hd.1 hd.2)))))))))))))
end Mine
set_option maxHeartbeats 200000
set_option linter.unusedSimpArgs false
set_option maxHeartbeats 4000000
namespace Mine
variable {w : World} {h0 : Heap} {A : Around} {σ σ' σ'' σ0 : St} {ℓ ℓ' : Loc}
theorem law_prob (O : (BB w h0).Ok) (lo : Lo 40 A) {Cl : Addr} {cf : Nat → Addr} {turn : Int} {Q : AV → St → Prop} (hv : ℓ "turn" = some (.int turn))
    (q : ∀ p px cl vd s sx C fc σ', (C = 186 ∨ C = 225) → Kp (fun _ => False) σ σ' → SolvAt σ' C s sx fc → ProbAt σ' p px s cl vd 3 → σ'.m cl = some (.list []) → σ'.m vd = some (.dict [] 0) → Q (.ref p) σ') : Te (BB w h0) A (lawEnv w Cl cf) (rhs w 8) ℓ σ Q := by
  have hsz : sizeLine = 16777216 := sizeLine_eq
  have hd : 0 ≤ (turn.fdiv 3).fmod 2 ∧ (turn.fdiv 3).fmod 2 ≤ 1 := by
    rw [Int.fmod_eq_emod_of_nonneg _ (by decide)]; omega
  have pm : ∀ {C s sx fc σ₁}, (C = 186 ∨ C = 225) → Kp (fun _ => False) σ σ₁ → SolvAt σ₁ C s sx fc → Cc (BB w h0) A (.ref 110) [.ref s] σ₁ Q := fun {C s sx fc σ₁} hC kp sv =>
    prob_made O (lo.mono (by decide)) sv hC fun p px cl vd σ₂ h1 h2 h3 h4 kp2 pa e1 e2 => q p px cl vd s sx C fc σ₂ hC (kp.trans kp2) (sv.keep kp2 id id) pa e1 e2
  refine e_call (e_glob O (g_Problem _) (es_cons (e_call (e_sub (e_list (es_cons (e_glob O (g_BacktrackingSolver _) (es_cons (e_glob O (g_RecursiveBacktrackingSolver _) (es_nil ⟨by simp [hsz], fun b hb => ?_⟩)))))))))) 
  refine e_bin (e_bin (e_local hv (e_int (bin_div (by decide) (PyProof.noPylong_small (by decide)) (e_int (bin_mod (by decide) ⟨gp_of O (put_same ..) rfl, ?_⟩))))))
  have kp0 : Kp (fun _ => False) σ (σ.put b (.list [.ref 186, .ref 225])) := Kp.refl.put (.inr hb)
  rcases (by omega : (turn.fdiv 3).fmod 2 = 0 ∨ (turn.fdiv 3).fmod 2 = 1) with r | r <;> rw [r]
  · refine gi_list (v := .ref 186) (put_same ..) (by decide) (by simp [hsz]) rfl ?_
    refine es_cons (e_cmp (e_bin (e_bin (e_local hv (e_int (bin_div (by decide) (PyProof.noPylong_small (by decide)) (e_int (bin_mod (by decide) (e_int (cmp_eq (es_nil ⟨kee_cls O rfl rfl, ?_⟩)))))))))))
    exact (bt_made O (lo.mono (by decide)) fun c cx σ₁ h1 h2 h3 kp1 sv => es_nil ⟨kee_cls O rfl rfl, (pm (.inl rfl) (kp0.trans kp1) sv).callf⟩).callf
  · refine gi_list (v := .ref 225) (put_same ..) (by decide) (by simp [hsz]) rfl ?_
    refine es_cons (e_cmp (e_bin (e_bin (e_local hv (e_int (bin_div (by decide) (PyProof.noPylong_small (by decide)) (e_int (bin_mod (by decide) (e_int (cmp_eq (es_nil ⟨kee_cls O rfl rfl, ?_⟩)))))))))))
    exact (rb_made O (lo.mono (by decide)) fun c cx σ₁ h1 h2 h3 kp1 sv => es_nil ⟨kee_cls O rfl rfl, (pm (.inr rfl) (kp0.trans kp1) sv).callf⟩).callf
noncomputable def st_ (w : World) (k : Nat) : Stmt := ((bodyOf (KK w.params) 492)[k]?).getD (.Pass default)
def W0 : Wd := ⟨0, fun _ => 0, fun _ => 0, fun _ => 0, fun _ => 0⟩
def Wd.ext (W : Wd) (d dx hd st : Addr) : Wd := ⟨W.n + 1, fun j => if j = W.n then d else W.d j, fun j => if j = W.n then dx else W.dx j, fun j => if j = W.n then hd else W.hd j, fun j => if j = W.n then st else W.st j⟩
theorem esD_ext (W : Wd) (d dx hd st : Addr) : esD (W.ext d dx hd st) = esD W ++ [((W.n : Int), .ref d)] := by
  unfold esD Wd.ext
  dsimp only
  rw [List.range_succ, List.map_append]
  congr 1
  · refine List.map_congr_left fun i hi => ?_
    have := List.mem_range.mp hi
    rw [if_neg (by omega)]
  · simp
theorem law_vars (O : (BB w h0).Ok) (lo : Lo 40 A) {Cl : Addr} {cf : Nat → Addr} {ll p px s cl vd : Addr} {ts : List Addr} {lists : List (List Int)} {n : Nat} {vs : List (Option AV)} {a0 a1 u a4 a5 a6 : Option AV} {Q : AF → Loc → St → Prop}
    (lc : LC σ cf vs) (v0 : vs[0]? = some (some (.int n))) (v4 : vs[4]? = some (some (.ref ll))) (el : σ.m ll = some (.list (ts.map .ref))) (hl : RowsAt σ ts lists) (hll : lists.length = n) (hn : n ≤ 4) (hne : ∀ l ∈ lists, l ≠ [] ∧ l.length ≤ 4)
    (pa : ProbAt σ p px s cl vd 3) (evd : σ.m vd = some (.dict [] 0))
    (q : ∀ u' W nvd σ', W.n = n → W.Sep → Doms σ' W (fun k => ⟨lists.getD k [], [], []⟩) → σ'.m vd = some (.dict (esD W) nvd) → Kp (fun b => b = vd) σ σ' → (∀ b, W.dyn b → σ.m b = none) → Q .next (frm lawN [a0, a1, u', some (.ref p), a4, a5, a6]) σ') :
    Tx (BB w h0) A (lawEnv w Cl cf) (st_ w 9) (frm lawN [a0, a1, u, some (.ref p), a4, a5, a6]) σ Q := by
  have hsz : sizeLine = 16777216 := sizeLine_eq
  have e0 := lc.at_ 0 _ v0
  have e4 := lc.at_ 4 _ v4
  refine x_for (e_call (e_boot O (g_range _) rfl (es_cons (e_cell (c := cf 0) rfl e0 (es_nil ⟨kee_ty, c_range fun a t u v ha => ?_⟩)))))
  have keep : ∀ {σ₁ : St}, Kp (fun b => b = vd) σ σ₁ → ∀ {b o}, σ.m b = some o → (∀ es k, o ≠ .dict es k) → σ₁.m b = some o := fun {σ₁} kp {b o} e h => kp.kept _ _ e (by rintro rfl; rw [evd] at e; cases e; exact h _ _ rfl)
  refine ⟨n, fun _ => True, fun i v => v = .int i, fun i ℓ' σ' => ∃ u' W nvd, ℓ' = frm lawN [a0, a1, u', some (.ref p), a4, a5, a6] ∧ W.n = i ∧ W.Sep ∧ Doms σ' W (fun k => ⟨lists.getD k [], [], []⟩) ∧ σ'.m vd = some (.dict (esD W) nvd) ∧ Kp (fun b => b = vd) σ σ' ∧ (∀ b, W.dyn b → σ.m b = none),
    it_range lo.hh (by omega) (put_same ..), ⟨_, W0, 0, rfl, rfl, ⟨fun i j hi => absurd hi (Nat.not_lt_zero _), fun i j hi => absurd hi (Nat.not_lt_zero _), fun i j hi => absurd hi (Nat.not_lt_zero _), fun i j hi => absurd hi (Nat.not_lt_zero _)⟩, fun i hi => absurd hi (Nat.not_lt_zero _), put_fresh ha evd, Kp.refl.put (.inr ha), fun b ⟨i, hi, _⟩ => absurd hi (Nat.not_lt_zero _)⟩, fun _ _ _ _ => trivial, ?_, ?_⟩
  · rintro i v ℓ' σ₁ hi rfl ⟨u', W, nvd, rfl, hWn, sp, ds, evd1, kp, dyn⟩
    refine a_local ?_
    rw [upd_frm (i := 2) rfl (by simp)]
    obtain ⟨t, ht⟩ : ∃ t, ts[i]? = some t := ⟨_, List.getElem?_eq_getElem (by rw [hl.len]; omega)⟩
    obtain ⟨l, hlk⟩ : ∃ l, lists[i]? = some l := ⟨_, List.getElem?_eq_getElem (by omega)⟩
    obtain ⟨ln, l4⟩ := hne l (List.mem_of_getElem? hlk)
    have pa1 : ProbAt σ₁ p px s cl vd 3 := ⟨keep kp pa.obj nofun, keep kp pa.ns nofun⟩
    have el1 := keep kp el nofun
    have et1 := keep kp (hl.at_ i t l ht hlk) nofun
    refine s_cons (x_expr (e_meth (e_local rfl fun pl => m110 O pa1 (m110_addVariable _) (t := .type "function") (ty64 _) (by decide) rfl (es_cons (e_local rfl (es_cons (e_call (e_boot O (g_list _) rfl (es_cons (e_sub (e_cell (c := cf 4) rfl (keep kp e4 nofun) (e_local rfl ⟨gp_of O el1 rfl, gi_list el1 (by omega) (le_line (by rw [List.length_map, hl.len]; omega)) (v := .ref t) (by simp [ht])
      (es_nil ⟨kee_ty, c_list_list lo.hh et1 (le_line (by rw [List.length_map]; omega)) fun nl hnl => es_nil ⟨kee_fn O rfl, ?_⟩⟩)⟩))))))))))))
    have kpn : Kp (fun _ => False) σ₁ (σ₁.put nl (.list (l.map .int))) := Kp.refl.put (.inr hnl)
    have dg : dget (esD W) (i : Int) = none := by
      unfold dget
      rw [Option.map_eq_none_iff, List.find?_eq_none]
      intro x hx
      unfold esD at hx
      obtain ⟨j, hj, rfl⟩ := List.mem_map.mp hx
      have := List.mem_range.mp hj
      simp; omega
    refine addv_spec O (lo.mono (by decide)) (pa1.keep kpn id id) (put_fresh hnl evd1) dg (put_same ..) (by rw [List.length_map]; omega) (by simpa using ln) (by simp [esD]; omega) ?_
    intro d dx hd st σ₂ n' f1 f2 f3 f4 hdst kp2 da evd2
    have kp12 : Kp (fun b => b = vd) σ₁ σ₂ := (kpn.mono (S' := fun b => b = vd) fun b q => q.elim).trans kp2
    have g1 := kpn.live _ f1
    have g2 := kpn.live _ f2
    have g3 := kpn.live _ f3
    have g4 := kpn.live _ f4
    have ds2 : Doms σ₂ W (fun k => ⟨lists.getD k [], [], []⟩) := ds.keep kp12 fun j hj => by
      have := ds j hj
      refine ⟨?_, ?_, ?_, ?_⟩ <;> rintro rfl
      · have := this.obj; rw [evd1] at this; cases this
      · have := this.ns; rw [evd1] at this; cases this
      · have := this.hid; rw [evd1] at this; cases this
      · have := this.sts; rw [evd1] at this; cases this
    have nod : ∀ j, j < W.n → W.d j ≠ d ∧ W.hd j ≠ hd ∧ W.hd j ≠ st ∧ W.st j ≠ st ∧ W.st j ≠ hd := fun j hj => by
      have := ds j hj
      refine ⟨?_, ?_, ?_, ?_, ?_⟩ <;> intro e
      · have := this.obj; rw [e, g1] at this; cases this
      · have := this.hid; rw [e, g3] at this; cases this
      · have := this.hid; rw [e, g4] at this; cases this
      · have := this.sts; rw [e, g4] at this; cases this
      · have := this.sts; rw [e, g3] at this; cases this
    refine s_nil ⟨_, W.ext d dx hd st, n', rfl, by show W.n + 1 = _; rw [hWn], ?_, ?_, ?_, kp.trans kp12, ?_⟩
    · have cases2 : ∀ j, j < W.n + 1 → j = W.n ∨ j < W.n := fun j hj => by omega
      refine ⟨fun a b ha hb => ?_, fun a b ha hb => ?_, fun a b ha hb => ?_, fun a b ha hb => ?_⟩ <;> unfold Wd.ext <;> dsimp only
      all_goals rcases cases2 a ha with rfl | ha' <;> rcases cases2 b hb with rfl | hb'
      · intro _; rfl
      · rw [if_pos rfl, if_neg (by omega)]; exact fun e => absurd e.symm (nod b hb').1
      · rw [if_neg (by omega), if_pos rfl]; exact fun e => absurd e (nod a ha').1
      · rw [if_neg (by omega), if_neg (by omega)]; exact sp.dd a b ha' hb'
      · intro _; rfl
      · rw [if_pos rfl, if_neg (by omega)]; exact fun e => absurd e.symm (nod b hb').2.1
      · rw [if_neg (by omega), if_pos rfl]; exact fun e => absurd e (nod a ha').2.1
      · rw [if_neg (by omega), if_neg (by omega)]; exact sp.hh a b ha' hb'
      · intro _; rfl
      · rw [if_pos rfl, if_neg (by omega)]; exact fun e => absurd e.symm (nod b hb').2.2.2.1
      · rw [if_neg (by omega), if_pos rfl]; exact fun e => absurd e (nod a ha').2.2.2.1
      · rw [if_neg (by omega), if_neg (by omega)]; exact sp.tt a b ha' hb'
      · rw [if_pos rfl, if_pos rfl]; exact hdst
      · rw [if_pos rfl, if_neg (by omega)]; exact (nod b hb').2.2.2.2.symm
      · rw [if_neg (by omega), if_pos rfl]; exact (nod a ha').2.2.1
      · rw [if_neg (by omega), if_neg (by omega)]; exact sp.ht a b ha' hb'
    · intro j hj
      have hj' : j < W.n + 1 := hj
      show DomAt σ₂ (if j = W.n then d else W.d j) (if j = W.n then dx else W.dx j) (if j = W.n then hd else W.hd j) (if j = W.n then st else W.st j) 2 _ _ _
      by_cases h : j = W.n
      · rw [if_pos h, if_pos h, if_pos h, if_pos h]
        have : lists.getD j [] = l := by rw [h, hWn, List.getD_eq_getElem?_getD, hlk]; rfl
        dsimp only
        rw [this]
        exact da
      · rw [if_neg h, if_neg h, if_neg h, if_neg h]
        exact ds2 j (by omega)
    · rw [esD_ext, evd2, hWn]
      rw [dset_new fun x hx => ?_]
      unfold esD at hx
      obtain ⟨j, hj, rfl⟩ := List.mem_map.mp hx
      have := List.mem_range.mp hj
      dsimp only; omega
    · rintro b ⟨j, hj, hb⟩
      have hj' : j < W.n + 1 := hj
      unfold Wd.ext at hb
      dsimp only at hb
      by_cases h : j = W.n
      · rw [if_pos h, if_pos h, if_pos h] at hb
        rcases hb with rfl | rfl | rfl
        · exact kp.live _ g1
        · exact kp.live _ g3
        · exact kp.live _ g4
      · rw [if_neg h, if_neg h, if_neg h] at hb
        exact dyn b ⟨j, by omega, hb⟩
  · rintro ℓ' σ₁ ⟨u', W, nvd, rfl, hWn, sp, ds, evd1, kp, dyn⟩
    exact s_nil (q u' W nvd σ₁ hWn sp ds evd1 kp dyn)
end Mine
set_option maxHeartbeats 200000
set_option linter.unusedSimpArgs false
set_option maxHeartbeats 4000000
namespace Mine
variable {w : World} {h0 : Heap} {A : Around} {σ σ' σ'' σ0 : St} {ℓ ℓ' : Loc}
def ConsAre (cons : List CE) (turn most least : Int) (n : Nat) : Prop :=
  (turn.fmod 2 = 0 ∧ ∃ e, cons = [e] ∧ e.C = ⟨1, most, List.range n, []⟩) ∨ (turn.fmod 2 ≠ 0 ∧ ∃ e f, cons = [e, f] ∧ e.C = ⟨0, most, List.range n, []⟩ ∧ f.C = ⟨2, least, List.range n, []⟩)
theorem ConAt.kp {C : Con} {c cx cl : Addr} {xs : List AV} (x : ConAt σ C c cx 0) (hC : C.fs = []) (e : σ.m cl = some (.list xs)) (kp : Kp (fun b => b = cl) σ σ') : ConAt σ' C c cx 0 :=
  ⟨kp.kept _ _ x.obj (by rintro rfl; have := x.obj; rw [e] at this; cases this), kp.kept _ _ x.ns (by rintro rfl; have := x.ns; rw [e] at this; cases this), fun h => absurd hC h⟩
theorem law_cons (O : (BB w h0).Ok) (lo : Lo 40 A) {Cl : Addr} {cf : Nat → Addr} {p px s sx C cl vd : Addr} {fc : Bool} {W : Wd} {lists : List (List Int)} {n nvd : Nat} {turn most least : Int} {vs : List (Option AV)} {Q : AF → Loc → St → Prop}
    (hv : ℓ "turn" = some (.int turn)) (hp : ℓ "problem" = some (.ref p)) (lc : LC σ cf vs) (v5 : vs[5]? = some (some (.int most))) (v6 : vs[6]? = some (some (.int least)))
    (pa : ProbAt σ p px s cl vd 3) (sv : SolvAt σ C s sx fc) (hC : C = 186 ∨ C = 225) (ecl : σ.m cl = some (.list [])) (evd : σ.m vd = some (.dict (esD W) nvd)) (hWn : W.n = n) (hn1 : 1 ≤ n) (hn : n ≤ 4) (sp : W.Sep) (ds : Doms σ W (fun k => ⟨lists.getD k [], [], []⟩)) (ncl : ¬ W.dyn cl)
    (hl : ∀ l ∈ lists, l.Nodup ∧ l.length ≤ 4)
    (q : ∀ cons ts σ', Prob σ' W cons (fun k => ⟨lists.getD k [], [], []⟩) p px s sx C cl vd 3 nvd ts fc → ConsAre cons turn most least n → Kp (fun b => b = cl) σ σ' → Q .next ℓ σ') :
    Tx (BB w h0) A (lawEnv w Cl cf) (st_ w 10) ℓ σ Q := by
  have e5 := lc.at_ 5 _ v5
  have e6 := lc.at_ 6 _ v6
  have lget : ∀ k, (lists.getD k []).Nodup ∧ (lists.getD k []).length ≤ 4 := fun k => by
    rw [List.getD_eq_getElem?_getD]
    cases h : lists[k]? with
    | none => exact ⟨List.nodup_nil, Nat.zero_le _⟩
    | some l => exact hl l (List.mem_of_getElem? h)
  have keep : ∀ {σ₁ : St}, Kp (fun b => b = cl) σ σ₁ → ∀ {b o}, σ.m b = some o → (∀ xs, o ≠ .list xs) → σ₁.m b = some o := fun {σ₁} kp {b o} e h => kp.kept _ _ e (by rintro rfl; rw [ecl] at e; cases e; exact h _ rfl)
  have mk : ∀ {σ₁ : St} {cons : List CE} {ts : List Addr}, Kp (fun b => b = cl) σ σ₁ → σ₁.m cl = some (.list (ts.map .ref)) → ts.length = cons.length → cons.length ≤ 100 → (∀ j (h1 : j < ts.length) (h2 : j < cons.length), σ₁.m ts[j] = some (.tup [.ref cons[j].c, cons[j].v])) →
      (∀ e ∈ cons, CEOk σ₁ W e) → (cons.map (·.c)).Nodup → Prob σ₁ W cons (fun k => ⟨lists.getD k [], [], []⟩) p px s sx C cl vd 3 nvd ts fc := fun {σ₁ cons ts} kp h1 h2 h3 h4 h5 h6 => by
    refine ⟨⟨keep kp pa.obj nofun, keep kp pa.ns nofun⟩, ⟨keep kp sv.obj nofun, keep kp sv.ns nofun⟩, hC, keep kp evd nofun, h1, ncl, h2, h3, h4, h5, h6, sp, ?_, fun i _ => ⟨rfl, rfl⟩, fun i _ => (lget i).1, fun i _ => (lget i).2, by omega⟩
    refine ds.keep kp fun i hi => ⟨fun h => ncl ⟨i, hi, .inl h.symm⟩, fun h => ?_, fun h => ncl ⟨i, hi, .inr (.inl h.symm)⟩, fun h => ncl ⟨i, hi, .inr (.inr h.symm)⟩⟩
    have := (ds i hi).ns; rw [h, ecl] at this; cases this
  have ceok : ∀ {σ₁ : St} {c cx : Addr} {k : Nat} {b : Int}, k ≤ 2 → ConAt σ₁ ⟨k, b, List.range n, []⟩ c cx 0 → CEOk σ₁ W ⟨⟨k, b, List.range n, []⟩, c, cx, 0, .none⟩ := fun {σ₁ c cx k b} hk ca =>
    ⟨ca, ⟨hk, rfl⟩, fun i hi => by rw [hWn]; exact List.mem_range.mp hi, by show (List.range n).length ≤ 100; simp; omega, List.nodup_range, fun h => by
      have : (List.range n).length = 0 := by rw [show List.range n = [] from h]; rfl
      simp at this; omega, .inl ⟨rfl, by rw [hWn]⟩, fun h => absurd rfl h⟩
  refine x_if (t_cmp (e_bin (e_local hv (e_int (bin_mod (by decide) (e_int (cmp_eq (tru_bool ?_))))))))
  by_cases h2 : turn.fmod 2 = 0
  · rw [if_pos (by simpa using h2)]
    refine s_cons (x_expr (e_meth (e_local hp fun pl => m110 O pa (m110_addConstraint _) (t := .type "function") (ty79 _) (by decide) rfl (es_cons (e_call (e_glob O (g_ExactSumConstraint _) (es_cons (e_cell (c := cf 5) rfl e5 (es_nil ⟨kee_cls O rfl rfl, ?_⟩)))))))))
    refine (exact1_made O (vs := List.range n) (lo.mono (by decide)) fun c cx σ₁ f1 f2 f3 kp1 ca => es_nil ⟨kee_fn O rfl, ?_⟩).callf
    refine addc1_spec O (lo.mono (by decide)) (pa.keep kp1 id id) (kp1.kept _ _ ecl id) ca (Nat.zero_le _) fun t σ₂ ft kp2 et ecl2 => s_nil ?_
    have kp12 : Kp (fun b => b = cl) σ σ₂ := (kp1.mono (S' := fun b => b = cl) fun b q => q.elim).trans kp2
    refine q [⟨⟨1, most, List.range n, []⟩, c, cx, 0, .none⟩] [t] σ₂ (mk kp12 ecl2 rfl (by simp) (fun j h1 h2 => ?_) (fun e he => ?_) (by simp)) (.inl ⟨h2, _, rfl, rfl⟩) kp12
    · have : j = 0 := by simpa using h1
      subst this; exact et
    · rw [List.mem_singleton.mp he]
      exact ceok (by decide) (ca.kp rfl (kp1.kept _ _ ecl id) kp2)
  · rw [if_neg (by simpa using h2)]
    refine s_cons (x_expr (e_meth (e_local hp fun pl => m110 O pa (m110_addConstraint _) (t := .type "function") (ty79 _) (by decide) rfl (es_cons (e_call (e_glob O (g_MaxSumConstraint _) (es_cons (e_cell (c := cf 5) rfl e5 (es_nil ⟨kee_cls O rfl rfl, ?_⟩)))))))))
    refine (max1_made O (vs := List.range n) (lo.mono (by decide)) fun c cx σ₁ f1 f2 f3 kp1 ca => es_nil ⟨kee_fn O rfl, ?_⟩).callf
    refine addc1_spec O (lo.mono (by decide)) (pa.keep kp1 id id) (kp1.kept _ _ ecl id) ca (Nat.zero_le _) fun t σ₂ ft kp2 et ecl2 => ?_
    have kp12 : Kp (fun b => b = cl) σ σ₂ := (kp1.mono (S' := fun b => b = cl) fun b q => q.elim).trans kp2
    have ca2 := ca.kp rfl (kp1.kept _ _ ecl id) kp2
    have pa2 : ProbAt σ₂ p px s cl vd 3 := ⟨keep kp12 pa.obj nofun, keep kp12 pa.ns nofun⟩
    refine s_cons (x_expr (e_meth (e_local hp fun pl => m110 O pa2 (m110_addConstraint _) (t := .type "function") (ty79 _) (by decide) rfl (es_cons (e_call (e_glob O (g_MinSumConstraint _) (es_cons (e_cell (c := cf 6) rfl (keep kp12 e6 nofun) (es_nil ⟨kee_cls O rfl rfl, ?_⟩)))))))))
    refine (min1_made O (vs := List.range n) (lo.mono (by decide)) fun c' cx' σ₃ f1' f2' f3' kp3 ca' => es_nil ⟨kee_fn O rfl, ?_⟩).callf
    refine addc1_spec O (lo.mono (by decide)) (pa2.keep kp3 id id) (kp3.kept _ _ ecl2 id) ca' (by simp) fun t' σ₄ ft' kp4 et' ecl4 => s_nil ?_
    have kp34 : Kp (fun b => b = cl) σ₂ σ₄ := (kp3.mono (S' := fun b => b = cl) fun b q => q.elim).trans kp4
    have kp14 := kp12.trans kp34
    have ntc : t ≠ cl := by
      intro h
      rw [h, ecl2] at et; cases et
    have ncc : c ≠ c' := by
      rintro rfl
      have := ca2.obj
      rw [f1'] at this; cases this
    refine q [⟨⟨0, most, List.range n, []⟩, c, cx, 0, .none⟩, ⟨⟨2, least, List.range n, []⟩, c', cx', 0, .none⟩] [t, t'] σ₄ (mk kp14 ecl4 rfl (by simp) (fun j h1 h2 => ?_) (fun e he => ?_) (by simpa using ncc)) (.inr ⟨h2, _, _, rfl, rfl, rfl⟩) kp14
    · have : j = 0 ∨ j = 1 := by simp at h1; omega
      rcases this with rfl | rfl
      · exact kp34.kept _ _ et ntc
      · exact et'
    · simp only [List.mem_cons, List.not_mem_nil, or_false] at he
      rcases he with rfl | rfl
      · exact ceok (by decide) (ca2.kp rfl ecl2 kp34)
      · exact ceok (by decide) (ca'.kp rfl (kp3.kept _ _ ecl2 id) kp4)
end Mine
set_option maxHeartbeats 200000
set_option linter.unusedSimpArgs false
set_option maxHeartbeats 4000000
namespace Mine
/-- a row that the law lets pass -/
structure RowOk (lists : List (List Int)) (n : Nat) (least most : Int) (r : List Int) : Prop where
  len : r.length = n
  lo : least ≤ r.sum
  hi : r.sum ≤ most
  at_ : ∀ k, k < n → r.getD k 0 ∈ lists.getD k []
theorem rowOf_len (n : Nat) (t : Asg) : (rowOf n t).length = n := by unfold rowOf; simp
theorem rowOf_at {n : Nat} {t : Asg} {k : Nat} (h : k < n) : (rowOf n t).getD k 0 = (look t k).getD 0 := by
  unfold rowOf; simp [List.getD_eq_getElem?_getD, h]
theorem ks_range (b : Int) (k n : Nat) : (⟨k, b, List.range n, []⟩ : Con).ks = (List.range n).map fun i => (i, 1) := by unfold Con.ks; rw [if_pos rfl]
theorem psum_row {n : Nat} {t : Asg} : psum ((List.range n).map fun i => (i, (1 : Int))) t = (rowOf n t).sum := by
  unfold psum rowOf
  rw [List.map_map]
  congr 1
  refine List.map_congr_left fun i _ => ?_
  show part t (i, 1) = _
  unfold part
  dsimp only
  cases look t i <;> simp
theorem range_getD (r : List Int) : (List.range r.length).map (fun i => r.getD i 0) = r := by
  apply List.ext_getElem (by simp)
  intro i h1 h2
  simp [List.getD_eq_getElem?_getD, h2]
variable {W : Wd} {cons : List CE} {L : Nat → List Int} {lists : List (List Int)} {n : Nat} {turn least most : Int}
theorem row_sol {t : Asg} (ca : ConsAre cons turn most least n) (hlm : turn.fmod 2 = 0 → least = most) (hW : W.n = n) (s : Sol W cons L t) (hL : ∀ k, k < n → ∀ v ∈ L k, v ∈ lists.getD k []) : RowOk lists n least most (rowOf n t) := by
  have hsum : least ≤ (rowOf n t).sum ∧ (rowOf n t).sum ≤ most := by
    rcases ca with ⟨h, e, rfl, he⟩ | ⟨h, e, f, rfl, he, hf⟩
    · have := s.yes e (by simp)
      rw [he, ks_range, psum_row] at this
      have : (rowOf n t).sum = most := this
      have := hlm h
      omega
    · have h1 := s.yes e (by simp)
      have h2 := s.yes f (by simp)
      rw [he, ks_range, psum_row] at h1
      rw [hf, ks_range, psum_row] at h2
      exact ⟨h2, h1⟩
  refine ⟨rowOf_len n t, hsum.1, hsum.2, fun k hk => ?_⟩
  rw [rowOf_at hk]
  obtain ⟨p, hp, rfl⟩ := List.mem_map.mp ((s.all k).mpr (by rw [hW]; exact hk))
  rw [look_nodup s.nod hp]
  exact hL _ hk _ (s.inL p hp)
theorem row_safe {r : List Int} (ca : ConsAre cons turn most least n) (hlm : turn.fmod 2 = 0 → least = most) (h0 : ∀ l ∈ lists, ∀ v ∈ l, 0 ≤ v) (x : RowOk lists n least most r) : Safe cons (fun i => r.getD i 0) := by
  have pos : ∀ k, k < n → 0 ≤ r.getD k 0 := fun k hk => by
    have := x.at_ k hk
    rw [List.getD_eq_getElem?_getD (l := lists)] at this
    cases h : lists[k]? with
    | none => rw [h] at this; cases this
    | some l => rw [h] at this; exact h0 l (List.mem_of_getElem? h) _ this
  have ws : ∀ (k : Nat) (b : Int), wsum (⟨k, b, List.range n, []⟩ : Con).ks (fun i => r.getD i 0) = r.sum := fun k b => by
    rw [ks_range]
    unfold wsum
    rw [List.map_map]
    have : ((fun p : Nat × Int => r.getD p.1 0 * p.2) ∘ fun i => (i, (1 : Int))) = fun i => r.getD i 0 := by funext i; simp
    rw [this, ← x.len, range_getD]
  have ps : ∀ (k : Nat) (b : Int), possum (⟨k, b, List.range n, []⟩ : Con).ks (fun i => r.getD i 0) = r.sum := fun k b => by
    rw [ks_range]
    unfold possum
    rw [List.map_map]
    have : (List.range n).map ((fun p : Nat × Int => max 0 (r.getD p.1 0 * p.2)) ∘ fun i => (i, (1 : Int))) = (List.range n).map fun i => r.getD i 0 := by
      refine List.map_congr_left fun i hi => ?_
      have := pos i (List.mem_range.mp hi)
      simp only [Function.comp, Int.mul_one]
      omega
    rw [this, ← x.len, range_getD]
  intro e he
  rcases ca with ⟨h, e', rfl, hc⟩ | ⟨h, e', f', rfl, hc, hf⟩
  · rw [List.mem_singleton.mp he, hc]
    have h1 := hlm h
    have h2 := x.lo
    have h3 := x.hi
    refine ⟨?_, .inr ?_⟩
    · rw [ws]; show r.sum = most; omega
    · rw [ps]; exact h3
  · simp only [List.mem_cons, List.not_mem_nil, or_false] at he
    rcases he with rfl | rfl
    · rw [hc]
      refine ⟨?_, .inr ?_⟩
      · rw [ws]; exact x.hi
      · rw [ps]; exact x.hi
    · rw [hf]
      refine ⟨?_, .inl rfl⟩
      rw [ws]; exact x.lo
theorem told_rows {D : Nat → Dm} {new : List Asg} (ca : ConsAre cons turn most least n) (hlm : turn.fmod 2 = 0 → least = most) (hW : W.n = n) (hD : ∀ k, k < n → (D k).xs = lists.getD k []) (h0 : ∀ l ∈ lists, ∀ v ∈ l, 0 ≤ v) (T : Told W cons D new) :
    (new.map (rowOf n)).Nodup ∧ ∀ r, r ∈ new.map (rowOf n) ↔ RowOk lists n least most r := by
  refine ⟨?_, fun r => ⟨fun hr => ?_, fun x => ?_⟩⟩
  · refine List.pairwise_map.mpr ?_
    have key : ∀ s ∈ new, ∀ t ∈ new, (∃ i, i < W.n ∧ look s i ≠ look t i) → rowOf n s ≠ rowOf n t := fun s hs t ht ⟨i, hi, hne⟩ e => by
      have e1 := T.sound s hs
      have e2 := T.sound t ht
      obtain ⟨p, hp, hpi⟩ := List.mem_map.mp ((e1.all i).mpr hi)
      obtain ⟨q, hq, hqi⟩ := List.mem_map.mp ((e2.all i).mpr hi)
      have l1 := look_nodup e1.nod hp
      have l2 := look_nodup e2.nod hq
      rw [hpi] at l1
      rw [hqi] at l2
      have : (rowOf n s).getD i 0 = (rowOf n t).getD i 0 := by rw [e]
      rw [rowOf_at (by omega), rowOf_at (by omega), l1, l2] at this
      rw [l1, l2] at hne
      exact hne (congrArg some this)
    exact T.nod.imp_of_mem fun hs ht h => key _ hs _ ht h
  · obtain ⟨t, ht, rfl⟩ := List.mem_map.mp hr
    exact row_sol ca hlm hW (T.sound t ht) fun k hk v hv => by rw [← hD k hk]; exact hv
  · obtain ⟨t, ht, h⟩ := T.comp _ (row_safe ca hlm h0 x) fun i hi => by rw [hD i (by omega)]; exact x.at_ i (by omega)
    refine List.mem_map.mpr ⟨t, ht, ?_⟩
    have : rowOf n t = (List.range n).map fun i => r.getD i 0 := by
      unfold rowOf
      refine List.map_congr_left fun i hi => ?_
      rw [h i (by have := List.mem_range.mp hi; omega)]; rfl
    rw [this, ← x.len, range_getD]
end Mine
set_option maxHeartbeats 200000
set_option linter.unusedSimpArgs false
set_option maxHeartbeats 4000000
namespace Mine
variable {w : World} {h0 : Heap} {A : Around} {σ σ' σ'' σ0 : St} {ℓ ℓ' : Loc}
theorem law_due (O : (BB w h0).Ok) (lo : Lo 20 A) {Cl : Addr} {cf : Nat → Addr} {n : Nat} {lcp : Addr} {caps : List Int} {start step most least : Int} {vs : List (Option AV)} {Q : AV → St → Prop}
    (lc : LC σ cf vs) (v0 : vs[0]? = some (some (.int n))) (v1 : vs[1]? = some (some (.int start))) (v2 : vs[2]? = some (some (.int step))) (v3 : vs[3]? = some (some (.ref lcp))) (v5 : vs[5]? = some (some (.int most))) (v6 : vs[6]? = some (some (.int least)))
    (ec : σ.m lcp = some (.list (caps.map .int))) (ck : CapsOk caps n) (hs : 1 ≤ step) (hp1 : Builtin.divisionGoesByPylong (most - n * start) step = false) (hp2 : Builtin.divisionGoesByPylong (least - n * start - 1) step = false)
    (b1 : ((most - n * start).fdiv step).natAbs ≤ 2 ^ 20) (b2 : ((least - n * start - 1).fdiv step).natAbs ≤ 2 ^ 20)
    (q : Q (.int (upTo caps ((most - n * start).fdiv step) - upTo caps ((least - n * start - 1).fdiv step))) σ) : Te (BB w h0) A (lawEnv w Cl cf) (rhs w 12) ℓ σ Q := by
  have e0 := lc.at_ 0 _ v0
  have e1 := lc.at_ 1 _ v1
  have e2 := lc.at_ 2 _ v2
  have e3 := lc.at_ 3 _ v3
  have e5 := lc.at_ 5 _ v5
  have e6 := lc.at_ 6 _ v6
  have hn := ck.n4
  have hmul : IntMulOk (n : Int) start := .of_left (intBits_le_64 (by omega) (by omega))
  refine e_bin (e_call (e_glob O (g_up_to _) (es_cons (e_cell (c := cf 3) rfl e3 (es_cons (e_bin (e_bin (e_cell (c := cf 5) rfl e5 (e_bin (e_cell (c := cf 0) rfl e0 (e_cell (c := cf 1) rfl e1 (bin_mul hmul (bin_sub (e_cell (c := cf 2) rfl e2 (bin_div (by omega) hp1 (es_nil ⟨kee_fn O rfl, ?_⟩))))))))))))))))
  refine law_up_to O (lo.mono (by decide)) ec ck.low (by rw [ck.len]; exact hn) b1 ?_
  refine e_call (e_glob O (g_up_to _) (es_cons (e_cell (c := cf 3) rfl e3 (es_cons (e_bin (e_bin (e_bin (e_cell (c := cf 6) rfl e6 (e_bin (e_cell (c := cf 0) rfl e0 (e_cell (c := cf 1) rfl e1 (bin_mul hmul (bin_sub (e_int (bin_sub (e_cell (c := cf 2) rfl e2 (bin_div (by omega) hp2 (es_nil ⟨kee_fn O rfl, ?_⟩))))))))))))))))))
  exact law_up_to O (lo.mono (by decide)) ec ck.low (by rw [ck.len]; exact hn) b2 (bin_sub q)
/-- the last line -/
theorem law_ret (O : (BB w h0).Ok) (lo : Lo 20 A) {Cl : Addr} {cf : Nat → Addr} {c : Addr} {us : List Addr} {rows : List (List Int)} {due : Int} {one : AV} {n : Nat} {Q : AV → St → Prop} (ho : ℓ "one" = some one) (hd : ℓ "due" = some (.int due)) (ht : ℓ "told" = some (.ref c))
    (e : σ.m c = some (.list (us.map .ref))) (hr : RowsAt σ us rows) (hn : n ≤ 4)
    (ok : (one = .none ∧ due = 0) ∨ ∃ d t m, one = .ref d ∧ σ.m d = some (.dict (esOf t) m) ∧ (t.map (·.1)).Perm (List.range n) ∧ rowOf n t ∈ rows)
    (q : ∀ σ', St.Sub σ σ' → Q (.bool true) σ') : Te (BB w h0) A (lawEnv w Cl cf) (rhs w 16) ℓ σ Q := by
  rcases ok with ⟨rfl, rfl⟩ | ⟨d, t, m, rfl, ed, hp, hm⟩
  · refine e_ite (t_cmp (e_local ho (e_none (cmp_is_none (b := true) (fun v hv => by rw [ab_none hv]; rfl) (tru_bool ?_)))))
    rw [if_pos rfl]
    exact e_cmp (e_local hd (e_int (cmp_eq (q _ .rfl'))))
  · refine e_ite (t_cmp (e_local ho (e_none (cmp_is_none (b := false) (fun v hv => by rw [ab_ref hv]; rfl) (tru_bool ?_)))))
    rw [if_neg (by decide)]
    refine e_cmp (e_row O lo.hh (n := n) (fun Q h => e_local ho h) (fun Q h => e_boot O (g_sorted _) rfl h) rfl (fun _ => rfl) (fun _ => rfl) (fun _ => rfl) rfl ed hp hn fun b σ₁ hb S eb => ?_)
    refine e_local ht (cmp_in_rows (lo.mono (m := 1) (by decide) |>.in1.line) (S.1 _ _ e) (hr.to fun a ha o ho => S.1 _ _ ho) eb (fun hbu => ?_) ?_)
    · obtain ⟨i, r, _, _, h3⟩ := hr.mem hbu
      rw [hb] at h3; cases h3
    · rw [show decide (rowOf n t ∈ rows) = true by simpa using hm]
      exact q _ S
end Mine
set_option maxHeartbeats 200000
set_option linter.unusedSimpArgs false
set_option maxHeartbeats 4000000
namespace Mine
variable {w : World} {h0 : Heap} {A : Around} {σ σ' σ'' σ0 : St} {ℓ ℓ' : Loc}
theorem LC.new {cf : Nat → Addr} {vs : List (Option AV)} (x : LC σ cf vs) {c : Addr} (h : σ.m c = none) : LC (σ.put c (.cell none)) (fun i => if i = vs.length then c else cf i) (vs ++ [none]) := by
  have ne : ∀ i, i < vs.length → cf i ≠ c := fun i hi e => by
    have := x.at_ i _ (List.getElem?_eq_getElem hi)
    rw [e, h] at this; cases this
  refine ⟨fun i o e => ?_, fun i j hi hj e => ?_⟩
  · by_cases q : i = vs.length
    · subst q
      rw [if_pos rfl]
      have : none = o := by simpa using e
      subst this
      exact put_same ..
    · have hi : i < vs.length := by
        rcases Nat.lt_or_ge i (vs ++ [none]).length with r | r
        · rw [List.length_append, List.length_singleton] at r; omega
        · rw [List.getElem?_eq_none r] at e; cases e
      rw [if_neg q, put_other (ne i hi)]
      rw [List.getElem?_append_left hi] at e
      exact x.at_ i o e
  · rw [List.length_append, List.length_singleton] at hi hj
    by_cases q : i = vs.length <;> by_cases r : j = vs.length
    · omega
    · rw [if_pos q, if_neg r] at e; exact absurd e.symm (ne j (by omega))
    · rw [if_neg q, if_pos r] at e; exact absurd e (ne i (by omega))
    · rw [if_neg q, if_neg r] at e; exact x.inj i j (by omega) (by omega) e
theorem body_eq (w : World) : bodyOf (KK w.params) 492 = [st_ w 0, st_ w 1, st_ w 2, st_ w 3, st_ w 4, st_ w 5, st_ w 6, st_ w 7, st_ w 8, st_ w 9, st_ w 10, st_ w 11, st_ w 12, st_ w 13, st_ w 14, st_ w 15, st_ w 16] := by rfl
theorem law_enter (O : (BB w h0).Ok) (lo : Lo 200 A) {sc : Addr} {Q : AV → St → Prop}
    (h : ∀ C cf σ', Kp (fun _ => False) σ σ' → LC σ' cf [none, none, none, none, none, none, none] →
      Tsw (BB w h0) (A.deeper (lawEnv w C cf)) (lawEnv w C cf) [] [st_ w 0, st_ w 1, st_ w 2, st_ w 3, st_ w 4, st_ w 5, st_ w 6, st_ w 7, st_ w 8, st_ w 9, st_ w 10, st_ w 11, st_ w 12, st_ w 13, st_ w 14, st_ w 15, st_ w 16] (frm lawN [some (.ref sc), none, none, none, none, none, none]) σ' fun fl _ σ' => Q (retOf fl) σ') :
    Callw (BB w h0) A [] (.ref 492) [.ref sc] σ Q := by
  refine fn_codeC0 O (k := 199) (n := 1) (ps := ["script"]) (ds := []) lo rfl rfl rfl (fun s g X => BindsTo.of_eq rfl) rfl rfl (fun C hC => ?_)
  refine cells_skip (cells_new fun c0 g0 => cells_skip (cells_new fun c1 g1 => cells_new fun c2 g2 => cells_new fun c3 g3 => cells_skip (cells_new fun c4 g4 => cells_new fun c5 g5 => cells_new fun c6 g6 =>
    cells_skip (cells_skip (cells_skip (cells_skip (cells_skip (cells_skip (cells_skip (cells_skip (cells_skip (cells_skip (cells_skip (cells_skip (cells_skip (cells_skip (cells_skip (cells_skip (cells_skip (cells_skip (cells_nil ?_)))))))))))))))))))))
  refine binds_loc (binds_nil ?_)
  have L0 : LC σ (fun _ => 0) [] := ⟨fun i o e => by simp at e, fun i j hi => absurd hi (Nat.not_lt_zero _)⟩
  have L7 := ((((((L0.new g0).new g1).new g2).new g3).new g4).new g5).new g6
  have kp : Kp (fun _ => False) σ (((((((σ.put c0 (.cell none)).put c1 (.cell none)).put c2 (.cell none)).put c3 (.cell none)).put c4 (.cell none)).put c5 (.cell none)).put c6 (.cell none)) :=
    ((((((Kp.refl.put (.inr g0)).put (.inr g1)).put (.inr g2)).put (.inr g3)).put (.inr g4)).put (.inr g5)).put (.inr g6)
  have := h C _ _ kp L7
  rw [frm_all lawN, upd_frm (i := 0) rfl (by simp [lawN])]
  rw [← body_eq] at this
  exact this
end Mine
set_option maxHeartbeats 200000
set_option linter.unusedSimpArgs false
set_option maxHeartbeats 4000000
namespace Mine
variable {w : World} {h0 : Heap} {A : Around} {σ σ' σ'' σ0 : St} {ℓ ℓ' : Loc}
theorem law_least' (O : (BB w h0).Ok) {Cl : Addr} {cf : Nat → Addr} {step turn most : Int} {vs : List (Option AV)} {Q : AV → St → Prop} (hv : ℓ "turn" = some (.int turn)) (lc : LC σ cf vs) (v2 : vs[2]? = some (some (.int step))) (v5 : vs[5]? = some (some (.int most)))
    (q : ∀ least d2 : Int, 0 ≤ d2 → d2 ≤ 3 → least = most - step * d2 → (turn.fmod 2 = 0 → least = most) → Q (.int least) σ) : Te (BB w h0) A (lawEnv w Cl cf) (rhs w 7) ℓ σ Q :=
  law_least O hv lc v2 v5 (fun h => q most 0 (by decide) (by decide) (by simp) fun _ => rfl) fun h d2 h1 h2 => q _ d2 h1 h2 rfl fun h' => absurd h' h
theorem caps_ok {ns : List Int} {n : Nat} (h1 : 1 ≤ n) (h4 : n ≤ 4) (hl : n ≤ ns.length + 1) : CapsOk (capsF ns n) n := by
  refine ⟨by unfold capsF; rw [List.length_map, List.length_take, List.length_append, List.length_singleton]; omega, h1, h4, fun c hc => ?_, fun h c hc => ?_⟩
  · obtain ⟨x, _, rfl⟩ := List.mem_map.mp hc
    unfold capF
    have : 0 ≤ x.fmod 4 ∧ x.fmod 4 ≤ 3 := by rw [Int.fmod_eq_emod_of_nonneg _ (by decide)]; omega
    split <;> omega
  · obtain ⟨x, _, rfl⟩ := List.mem_map.mp hc
    unfold capF
    rw [if_neg (by omega)]; omega
def listsF (start step : Int) (caps : List Int) (n : Nat) : List (List Int) := (List.range n).map (listF start step caps)
theorem listsF_at {start step : Int} {caps : List Int} {n k : Nat} (h : k < n) : (listsF start step caps n).getD k [] = listF start step caps k := by
  unfold listsF; simp [List.getD_eq_getElem?_getD, h]
theorem listsF_ok {start step : Int} {caps : List Int} {n : Nat} (ck : CapsOk caps n) (h0 : 0 ≤ start) (hs : 1 ≤ step) : ∀ l ∈ listsF start step caps n, l ≠ [] ∧ l.length ≤ 4 ∧ l.Nodup ∧ ∀ v ∈ l, 0 ≤ v := by
  intro l hl
  obtain ⟨k, hk, rfl⟩ := List.mem_map.mp hl
  have hkn := List.mem_range.mp hk
  have hcap : 0 ≤ caps.getD k 0 ∧ caps.getD k 0 ≤ 3 := by
    have : k < caps.length := by rw [ck.len]; exact hkn
    have e : caps.getD k 0 = caps[k] := by simp [List.getD_eq_getElem?_getD, this]
    rw [e]; exact ck.low _ (List.getElem_mem this)
  refine ⟨fun h => ?_, by unfold listF; rw [List.length_map, List.length_range]; omega, ?_, fun v hv => ?_⟩
  · have := congrArg List.length h
    unfold listF at this
    rw [List.length_map, List.length_range, List.length_nil] at this
    omega
  · unfold listF
    refine List.pairwise_map.mpr (List.nodup_range.imp fun {a b} hab e => hab ?_)
    have e2 : step * (if k % 2 = 0 then (a : Int) else caps.getD k 0 - a) = step * (if k % 2 = 0 then (b : Int) else caps.getD k 0 - b) := by omega
    have e3 := Int.eq_of_mul_eq_mul_left (by omega) e2
    split at e3 <;> omega
  · obtain ⟨x, h1, h2, rfl⟩ := mem_listF.mp hv
    have := Int.mul_nonneg (by omega : 0 ≤ step) h1
    omega
theorem Kq.lc {W : Wd} {D : Nat → Dm} {cf : Nat → Addr} {vs : List (Option AV)} (L : LC σ cf vs) (kq : Kq W.dyn σ σ') (ds : Doms σ W D) : LC σ' cf vs :=
  ⟨fun i o e => kq.kept _ _ (L.at_ i o e) (ds.not_dyn (L.at_ i o e) nofun nofun), L.inj⟩
theorem Kp.lc {S : Addr → Prop} {cf : Nat → Addr} {vs : List (Option AV)} (L : LC σ cf vs) (kp : Kp S σ σ') (h : ∀ b u, σ.m b = some (.cell u) → ¬ S b) : LC σ' cf vs :=
  ⟨fun i o e => kp.kept _ _ (L.at_ i o e) (h _ _ (L.at_ i o e)), L.inj⟩
/-- what stands when the problem is made -/
structure LawSt (σ : St) (cf : Nat → Addr) (n : Nat) (start step : Int) (caps : List Int) (ts : List Addr) (ll cp : Addr) (turn most least d1 c d2 : Int) : Prop where
  L : LC σ cf [some (.int n), some (.int start), some (.int step), some (.ref cp), some (.ref ll), some (.int most), some (.int least)]
  ec : σ.m cp = some (.list (caps.map .int))
  el : σ.m ll = some (.list (ts.map .ref))
  rl : RowsAt σ ts (listsF start step caps n)
  ck : CapsOk caps n
  s0 : 0 ≤ start
  s1 : 1 ≤ step
  bd1 : 0 ≤ d1 ∧ d1 ≤ 9
  bc : -1 ≤ c ∧ c ≤ 1
  bd2 : 0 ≤ d2 ∧ d2 ≤ 3
  emost : (n : Int) * start + step * d1 + c = most
  eleast : least = most - step * d2
  even : turn.fmod 2 = 0 → least = most
theorem law_pre (O : (BB w h0).Ok) (lo : Lo 200 A) (hfr : A.frames = some []) {sc : Addr} {ns : List Int} {Q : AV → St → Prop} (hsc : BL (BB w h0) sc (ns.map .int)) (hl : ns.length ≤ 63)
    (h : ∀ Cl cf σ' n start step caps ts ll cp turn most least d1 c d2, σ'.g = σ.g → LawSt σ' cf n start step caps ts ll cp turn most least d1 c d2 → (A.deeper (lawEnv w Cl cf)).frames = some [lawEnv w Cl cf] →
      Tsw (BB w h0) (A.deeper (lawEnv w Cl cf)) (lawEnv w Cl cf) [] [st_ w 8, st_ w 9, st_ w 10, st_ w 11, st_ w 12, st_ w 13, st_ w 14, st_ w 15, st_ w 16] (frm lawN [some (.ref sc), some (.int turn), none, none, none, none, none]) σ' fun fl _ σ' => Q (retOf fl) σ') : Callw (BB w h0) A [] (.ref 492) [.ref sc] σ Q := by
  refine law_enter O lo fun Cl cf σ1 kp1 L1 => ?_
  have lo1 : Lo 199 (A.deeper (lawEnv w Cl cf)) := lo.deeper (n := 199)
  have hfr1 := deeper_frames (env := lawEnv w Cl cf) hfr
  have G1 : σ1.g = σ.g := kp1.g
  -- boxes
  refine w_consT (x_assign (e_bin (e_int (e_bin (e_call (e_boot O (g_len _) rfl (es_cons (e_local rfl (es_nil ⟨kee_bi, c_len_rl hsc.rl (by rw [List.length_map]; omega) (e_int (bin_mod (by decide) (bin_add (a_cell (c := cf 0) rfl (L1.at_ 0 _ rfl) ?_))))⟩)))))))))
  have hn : (1 + ((ns.map AV.int).length : Int).fmod 4) = ((1 + ns.length % 4 : Nat) : Int) := by
    rw [List.length_map, Int.fmod_eq_emod_of_nonneg _ (by decide)]; omega
  rw [hn]
  obtain ⟨n, hnn⟩ : ∃ n, 1 + ns.length % 4 = n := ⟨_, rfl⟩
  have n1 : 1 ≤ n := by omega
  have n4 : n ≤ 4 := by omega
  have nl : n ≤ ns.length + 1 := by omega
  rw [hnn]
  have L2 := L1.put (i := 0) (by simp) (some (.int n))
  have G2 : (σ1.put (cf 0) (.cell (some (.int n)))).g = σ.g := G1
  generalize σ1.put (cf 0) (.cell (some (.int n))) = σ2 at L2 G2 ⊢
  -- turn
  refine w_consT (x_assign (e_call (e_boot O (g_sum _) rfl (es_cons (e_local rfl (es_nil ⟨kee_bi, c_sum_rl lo1.hh hsc.rl (a_local ?_)⟩))))))
  rw [upd_frm (i := 1) rfl (by simp [lawN])]
  generalize ns.sum = turn
  -- start, step
  refine w_consT (x_assign (law_start O lo1.hh hsc hl rfl fun start hs0 => a_cell (c := cf 1) rfl (L2.at_ 1 _ rfl) ?_))
  have L3 := L2.put (i := 1) (by simp) (some (.int start))
  have G3 : (σ2.put (cf 1) (.cell (some (.int start)))).g = σ.g := G2
  generalize σ2.put (cf 1) (.cell (some (.int start))) = σ3 at L3 G3 ⊢
  refine w_consT (x_assign (law_step O lo1.hh hsc hl rfl fun step hs1 => a_cell (c := cf 2) rfl (L3.at_ 2 _ rfl) ?_))
  have L4 := L3.put (i := 2) (by simp) (some (.int step))
  have G4 : (σ3.put (cf 2) (.cell (some (.int step)))).g = σ.g := G3
  generalize σ3.put (cf 2) (.cell (some (.int step))) = σ4 at L4 G4 ⊢
  -- caps
  refine w_consT (x_assign (law_caps O lo1.hh hsc hl rfl L4 rfl n4 fun cp hcp => ?_))
  have L4' := L4.sub (sub_new (o := .list ((capsF ns n).map .int)) hcp)
  have ec4 : (σ4.put cp (.list ((capsF ns n).map .int))).m cp = some (.list ((capsF ns n).map .int)) := put_same ..
  have ck := caps_ok n1 n4 nl
  have G4' : (σ4.put cp (.list ((capsF ns n).map .int))).g = σ.g := G4
  generalize capsF ns n = caps at ec4 ck L4' G4' ⊢
  generalize σ4.put cp (.list (caps.map .int)) = σ5 at L4' ec4 G4' ⊢
  refine a_cell (c := cf 3) rfl (L4'.at_ 3 _ rfl) ?_
  have L5 := L4'.put (i := 3) (by simp) (some (.ref cp))
  have K5 := KeepO.put (v := some (.ref cp)) (L4'.at_ 3 _ rfl)
  have ec5 := K5.kept _ _ ec4 nofun
  have G5 := K5.g.trans G4'
  generalize σ5.put (cf 3) (.cell (some (.ref cp))) = σ6 at L5 ec5 G5 ⊢
  -- lists
  refine w_consT (x_assign (law_lists O lo1.hh L5 rfl rfl rfl rfl ec5 ck.len n4 ck.low fun ll ts σ7 hll ob => ?_))
  have L6' := L5.sub ob.kc.to
  have el6 := ob.kc.list
  have rl6 : RowsAt σ7 ts (listsF start step caps n) := by
    refine ⟨by rw [ob.len]; unfold listsF; simp, fun i a r h1 h2 => ?_⟩
    rw [ob.at_ i a h1]
    have hi : i < n := by
      rw [← ob.len]
      rcases Nat.lt_or_ge i ts.length with h | h
      · exact h
      · rw [List.getElem?_eq_none h] at h1; cases h1
    have : r = listF start step caps i := by
      unfold listsF at h2
      rw [List.getElem?_map, List.getElem?_range hi] at h2
      exact (Option.some.inj h2).symm
    rw [this]
  have ec6 := ob.kc.kept _ _ ec5
  have G6 := ob.kc.g.trans G5
  refine a_cell (c := cf 4) rfl (L6'.at_ 4 _ rfl) ?_
  have L6 := L6'.put (i := 4) (by simp) (some (.ref ll))
  have K6 := KeepO.put (v := some (.ref ll)) (L6'.at_ 4 _ rfl)
  have el7 := K6.kept _ _ el6 nofun
  have ec7 := K6.kept _ _ ec6 nofun
  have rl7 : RowsAt (σ7.put (cf 4) (.cell (some (.ref ll)))) ts (listsF start step caps n) := ⟨rl6.len, fun i a r h1 h2 => K6.kept _ _ (rl6.at_ i a r h1 h2) nofun⟩
  have G7 := K6.g.trans G6
  generalize σ7.put (cf 4) (.cell (some (.ref ll))) = σ8 at L6 el7 ec7 rl7 G7 ⊢
  have lok := listsF_ok ck hs0 hs1
  have lget : ∀ k, k < n → (listsF start step caps n).getD k [] = listF start step caps k := fun k hk => listsF_at hk
  have llen : (listsF start step caps n).length = n := by unfold listsF; simp
  -- most, least
  refine w_consT (x_assign (law_most O rfl L6 rfl rfl rfl n4 fun d1 c hd1 hd2 hc1 hc2 => a_cell (c := cf 5) rfl (L6.at_ 5 _ rfl) ?_))
  obtain ⟨most, hmost⟩ : ∃ m, (n : Int) * start + step * d1 + c = m := ⟨_, rfl⟩
  rw [hmost]
  have L7 := L6.put (i := 5) (by simp) (some (.int most))
  have K7 := KeepO.put (v := some (.int most)) (L6.at_ 5 _ rfl)
  have el8 := K7.kept _ _ el7 nofun
  have ec8 := K7.kept _ _ ec7 nofun
  have rl8 : RowsAt (σ8.put (cf 5) (.cell (some (.int most)))) ts (listsF start step caps n) := ⟨rl7.len, fun i a r h1 h2 => K7.kept _ _ (rl7.at_ i a r h1 h2) nofun⟩
  have G8 := K7.g.trans G7
  generalize σ8.put (cf 5) (.cell (some (.int most))) = σ9 at L7 el8 ec8 rl8 G8 ⊢
  refine w_consT (x_assign (law_least' O rfl L7 rfl rfl fun least d2 hd3 hd4 hleast heven => a_cell (c := cf 6) rfl (L7.at_ 6 _ rfl) ?_))
  have L8 := L7.put (i := 6) (by simp) (some (.int least))
  have K8 := KeepO.put (v := some (.int least)) (L7.at_ 6 _ rfl)
  have el9 := K8.kept _ _ el8 nofun
  have ec9 := K8.kept _ _ ec8 nofun
  have rl9 : RowsAt (σ9.put (cf 6) (.cell (some (.int least)))) ts (listsF start step caps n) := ⟨rl8.len, fun i a r h1 h2 => K8.kept _ _ (rl8.at_ i a r h1 h2) nofun⟩
  have G9 := K8.g.trans G8
  generalize σ9.put (cf 6) (.cell (some (.int least))) = σ10 at L8 el9 ec9 rl9 G9 ⊢
  exact h Cl cf σ10 n start step caps ts ll cp turn most least d1 c d2 G9 ⟨L8, ec9, el9, rl9, ck, hs0, hs1, ⟨hd1, hd2⟩, ⟨hc1, hc2⟩, ⟨hd3, hd4⟩, hmost, hleast, heven⟩ hfr1
end Mine
set_option maxHeartbeats 200000
set_option linter.unusedSimpArgs false
set_option maxHeartbeats 4000000
namespace Mine
variable {w : World} {h0 : Heap} {A : Around} {σ σ' σ'' σ0 : St} {ℓ ℓ' : Loc}
theorem law_post (O : (BB w h0).Ok) {Cl : Addr} {cf : Nat → Addr} (lo : Lo 199 A) (hfr : A.frames = some [lawEnv w Cl cf]) {n : Nat} {start step turn most least d1 c d2 : Int} {caps : List Int} {ts : List Addr} {ll cp sc : Addr} {Q : AV → St → Prop}
    (X : LawSt σ cf n start step caps ts ll cp turn most least d1 c d2) (q : ∀ σ', (AllBare σ.g → AllBare σ'.g) → Q (.bool true) σ') :
    Tsw (BB w h0) A (lawEnv w Cl cf) [] [st_ w 8, st_ w 9, st_ w 10, st_ w 11, st_ w 12, st_ w 13, st_ w 14, st_ w 15, st_ w 16] (frm lawN [some (.ref sc), some (.int turn), none, none, none, none, none]) σ fun fl _ σ' => Q (retOf fl) σ' := by
  obtain ⟨L, ec, el, rl, ck, s0, s1, bd1, bc, bd2, emost, eleast, even⟩ := X
  have n1 := ck.n1
  have n4 := ck.n4
  have lok := listsF_ok ck s0 s1
  have lget : ∀ k, k < n → (listsF start step caps n).getD k [] = listF start step caps k := fun k hk => listsF_at hk
  have llen : (listsF start step caps n).length = n := by unfold listsF; simp
  -- the problem
  refine w_consT (x_assign (law_prob O (lo.mono (by decide)) rfl fun p px cl vd s sx C fc σ1 hC kp1 sv pa ecl evd => a_local ?_))
  rw [upd_frm (i := 3) rfl (by simp [lawN])]
  have L1 : LC σ1 cf _ := Kp.lc L kp1 fun b u _ => id
  have el1 := kp1.kept _ _ el id
  have rl1 : RowsAt σ1 ts (listsF start step caps n) := rl.to fun a _ o e => kp1.kept _ _ e id
  have ec1 := kp1.kept _ _ ec id
  have G1 : AllBare σ.g → AllBare σ1.g := fun h => by rw [kp1.g]; exact h
  -- the variables
  refine w_consT (law_vars O (lo.mono (by decide)) L1 rfl rfl el1 rl1 llen n4 (fun l hl => ⟨(lok l hl).1, (lok l hl).2.1⟩) pa evd fun u' W nvd σ2 hWn sp ds evd2 kp2 dyn => ?_)
  have nvd1 : ∀ {b o}, σ1.m b = some o → (∀ es k, o ≠ .dict es k) → σ2.m b = some o := fun {b o} e h => kp2.kept _ _ e (by rintro rfl; rw [evd] at e; cases e; exact h _ _ rfl)
  have L2 : LC σ2 cf _ := ⟨fun i o e => nvd1 (L1.at_ i o e) nofun, L1.inj⟩
  have ncl : ¬ W.dyn cl := fun h => by have := dyn cl h; rw [ecl] at this; cases this
  have G2 : AllBare σ.g → AllBare σ2.g := fun h => by rw [kp2.g]; exact G1 h
  -- the constraints
  refine w_consT (law_cons O (lo.mono (by decide)) (lists := listsF start step caps n) rfl rfl L2 rfl rfl ⟨nvd1 pa.obj nofun, nvd1 pa.ns nofun⟩ ⟨nvd1 sv.obj nofun, nvd1 sv.ns nofun⟩ hC (nvd1 ecl nofun) evd2 hWn n1 n4 sp ds ncl (fun l hl => ⟨(lok l hl).2.2.1, (lok l hl).2.1⟩) fun cons cts σ3 x3 ca kp3 => ?_)
  have ecl2 := nvd1 ecl nofun
  have nvd2 : ∀ {b o}, σ2.m b = some o → b ≠ cl → σ3.m b = some o := fun {b o} e h => kp3.kept _ _ e h
  have ne1 : ll ≠ cl := by
    rintro rfl
    rw [el1] at ecl
    have := congrArg (fun o : Option AObj => o) ecl
    cases n with
    | zero => omega
    | succ n =>
      have hl := rl1.len
      rw [llen] at hl
      cases ts with
      | nil => simp at hl
      | cons t ts => simp at ecl
  have ne2 : cp ≠ cl := by
    rintro rfl
    rw [ec1] at ecl
    have hl := ck.len
    cases caps with
    | nil => simp at hl; omega
    | cons t ts => simp at ecl
  have ne3 : ∀ t ∈ ts, t ≠ cl := by
    rintro t ht rfl
    obtain ⟨i, r, h1, h2, h3⟩ := rl1.mem ht
    rw [ecl] at h3
    have := (lok r (List.mem_of_getElem? h2)).1
    cases r with
    | nil => exact this rfl
    | cons x r => simp at h3
  have ncell : ∀ i o, (([some (.int n), some (.int start), some (.int step), some (.ref cp), some (.ref ll), some (.int most), some (.int least)] : List (Option AV)))[i]? = some o → cf i ≠ cl := fun i o e h => by
    have := L2.at_ i o e
    rw [h, ecl2] at this; cases this
  have L3 : LC σ3 cf _ := ⟨fun i o e => nvd2 (L2.at_ i o e) (ncell i o e), L2.inj⟩
  have el3 := nvd2 (nvd1 el1 nofun) ne1
  have ec3 := nvd2 (nvd1 ec1 nofun) ne2
  have rl3 : RowsAt σ3 ts (listsF start step caps n) := ⟨rl1.len, fun i a r h1 h2 => nvd2 (nvd1 (rl1.at_ i a r h1 h2) nofun) (ne3 a (List.mem_of_getElem? h1))⟩
  have G3 : AllBare σ.g → AllBare σ3.g := fun h => by rw [kp3.g]; exact G2 h
  -- plain facts
  have hW : W.n = n := hWn
  have h0v : ∀ l ∈ listsF start step caps n, ∀ v ∈ l, 0 ≤ v := fun l hl => (lok l hl).2.2.2
  have TR : ∀ new, Told W cons (fun k => ⟨(listsF start step caps n).getD k [], [], []⟩) new → (new.map (rowOf n)).Nodup ∧ ∀ r, r ∈ new.map (rowOf n) ↔ RowOk (listsF start step caps n) n least most r := fun new T =>
    told_rows ca even hW (fun k hk => rfl) h0v T
  have hlm : least ≤ most := by
    have := Int.mul_nonneg (by omega : 0 ≤ step) bd2.1
    omega
  have qb := q_bounds (d2 := d2) s1 bd1.1 bd1.2 bc.1 bc.2 bd2.1 bd2.2
  have nr := near (d2 := d2) s1 bd1.1 bd1.2 bc.1 bc.2 bd2.1 bd2.2
  have em : most - n * start = step * d1 + c := by omega
  have eL : least - n * start - 1 = step * d1 + c - step * d2 - 1 := by omega
  rw [← eL, ← em] at qb nr
  obtain ⟨qa1, qa2, qb1, qb2, qab⟩ := qb
  have CNT : ∀ R : List (List Int), R.Nodup → (∀ r, r ∈ R ↔ RowOk (listsF start step caps n) n least most r) → (R.length : Int) = upTo caps ((most - n * start).fdiv step) - upTo caps ((least - n * start - 1).fdiv step) ∧ R.length < 64 := fun R hnd hR => by
    have hcl : (caps.length : Int) = n := by rw [ck.len]
    obtain ⟨c1, c2⟩ := count_rows (caps := caps) (start := start) (step := step) (most := most) (least := least) s1 hnd
      (fun r hr => by
        have := (hR r).mp hr
        refine ⟨by rw [this.len, ck.len], this.lo, this.hi, fun k hk => ?_⟩
        rw [ck.len] at hk
        have := this.at_ k hk
        rwa [lget k hk] at this)
      (fun r h1 h2 h3 h4 => (hR r).mpr ⟨by rw [h1, ck.len], h2, h3, fun k hk => by rw [lget k hk]; exact h4 k (by rw [ck.len]; exact hk)⟩) hlm
    rw [hcl] at c1 c2
    have u1 := ck.up (q := (most - n * start).fdiv step) (by omega) qa2
    have u2 := ck.up (q := (least - n * start - 1).fdiv step) qb1 qb2
    have m1 := cnt_mono caps qab
    rw [u1.1, u2.1]
    omega
  -- told
  refine w_consT (x_assign (law_told O (lo.mono (by decide)) rfl x3 (fun new T => by
    obtain ⟨r1, r2⟩ := TR new T
    have := (CNT _ r1 r2).2
    rwa [List.length_map] at this) fun tc us new D' σ4 kq4 x4 rest T fc ec4 rows hcu hus => a_local ?_))
  rw [upd_frm (i := 5) rfl (by simp [lawN])]
  rw [hW] at rows
  obtain ⟨r1, r2⟩ := TR new T
  obtain ⟨cn1, cn2⟩ := CNT _ r1 r2
  have perm := sortRows_perm (new.map (rowOf n))
  have rnd : (sortRows (new.map (rowOf n))).Nodup := perm.nodup_iff.mpr r1
  have rmem : ∀ r, r ∈ sortRows (new.map (rowOf n)) ↔ RowOk (listsF start step caps n) n least most r := fun r => by rw [perm.mem_iff]; exact r2 r
  have rlen : (sortRows (new.map (rowOf n))).length = (new.map (rowOf n)).length := perm.length_eq
  generalize sortRows (new.map (rowOf n)) = rws at rows rnd rmem rlen
  have ulen : us.length = rws.length := rows.len
  have L4 : LC σ4 cf _ := Kq.lc L3 kq4 x3.ds
  have nd3 : ∀ {b o}, σ1.m b = some o → ¬ W.dyn b := fun {b o} e h => by have := dyn b h; rw [e] at this; cases this
  have el4 := kq4.kept _ _ el3 (nd3 el1)
  have ec4' := kq4.kept _ _ ec3 (nd3 ec1)
  have rl4 : RowsAt σ4 ts (listsF start step caps n) := ⟨rl3.len, fun i a r h1 h2 => kq4.kept _ _ (rl3.at_ i a r h1 h2) (nd3 (rl1.at_ i a r h1 h2))⟩
  have G4 : AllBare σ.g → AllBare σ4.g := fun h => kq4.bare (G3 h)
  -- due
  refine w_consT (x_assign (law_due O (lo.mono (by decide)) L4 rfl rfl rfl rfl rfl rfl ec4' ck s1 nr.1 nr.2 (by omega) (by omega) (a_local ?_)))
  rw [upd_frm (i := 6) rfl (by simp [lawN])]
  rw [← cn1]
  -- the two tests
  refine w_consT (x_if (law_t1 O (lo.mono (by decide)) (due := ((new.map (rowOf n)).length : Int)) rfl rfl ec4 rows rnd (by omega) (by omega) ?_))
  rw [if_neg Bool.false_ne_true]
  refine s_nil (w_consT (x_if (law_t2 O (lo.mono (by decide)) rfl L4 rfl rfl rfl rfl ec4 rows (by omega) el4 rl4 llen n4 (fun r hr => ?_) ?_)))
  · have := (rmem r).mp hr
    exact ⟨this.len, this.lo, this.hi, this.at_⟩
  rw [if_neg Bool.false_ne_true]
  -- one more solution
  have ndyn : ∀ {b}, σ3.m b = none → ¬ W.dyn b := fun {b} e h => x3.ds.live h e
  have fin : ∀ (one : AV) (σ5 : St), Kq W.dyn σ4 σ5 → ((one = .none ∧ ((new.map (rowOf n)).length : Int) = 0) ∨ ∃ d t m, one = .ref d ∧ σ5.m d = some (.dict (esOf t) m) ∧ (t.map (·.1)).Perm (List.range n) ∧ rowOf n t ∈ rws) →
      Tsw (BB w h0) A (lawEnv w Cl cf) [] [st_ w 16] (frm lawN [some (.ref sc), some (.int turn), u', some (.ref p), some one, some (.ref tc), some (.int ((new.map (rowOf n)).length : Int))]) σ5 fun fl _ σ' => Q (retOf fl) σ' := fun one σ5 kq5 ok => by
    refine w_consT (x_ret (law_ret O (lo.mono (by decide)) rfl rfl rfl (kq5.kept _ _ ec4 (ndyn fc)) (rows.to fun a ha o e => kq5.kept _ _ e (ndyn (hus a ha))) n4 ok fun σ6 S6 => ?_))
    exact q σ6 fun h => by rw [← S6.2]; exact kq5.bare (G4 h)
  refine s_nil (w_cons (xw_assign (ew_meth (e_local rfl fun pl => m110 O x4.pa (m110_getSolution _) (t := .type "function") (ty86 _) (by decide) rfl (es_nil ⟨kee_fn O rfl, get_sol O (lo.mono (by decide)) hfr x4 (fun σ5 kq5 no => ?_) fun b t m σ5 kq5 sol eb => ?_⟩)))))
  · refine a_local ?_
    rw [upd_frm (i := 4) rfl (by simp [lawN])]
    refine fin .none σ5 kq5 (.inl ⟨rfl, ?_⟩)
    cases hr : new.map (rowOf n) with
    | nil => rfl
    | cons r rs =>
      exfalso
      have hrow := (r2 r).mp (by rw [hr]; simp)
      have sf := row_safe ca even h0v hrow
      exact no _ sf fun i hi => rest.safe _ sf (fun j hj => hrow.at_ j (by omega)) i hi
  · refine a_local ?_
    rw [upd_frm (i := 4) rfl (by simp [lawN])]
    refine fin (.ref b) σ5 kq5 (.inr ⟨b, t, m, rfl, eb, by have := sol.perm; rwa [hW] at this, ?_⟩)
    exact (rmem _).mpr (row_sol ca even hW sol fun k hk v hv => rest.sub k (by omega) v hv)
end Mine
set_option maxHeartbeats 200000
set_option maxHeartbeats 4000000
namespace Mine
theorem g_law (P : Params) : nsIn (KK P) mainGlobals "law" = some (some (.ref 492)) := by rfl
theorem ints_are {vs : List Value} {ns : List Int} (h : IntsAre vs ns) : vs.map ab = ns.map AV.int := by
  induction h with
  | nil => rfl
  | cons n t r ih => rw [List.map_cons, List.map_cons, ih]; rfl
theorem law_all {w : World} {h0 : Heap} (O : (BB w h0).Ok) {A : Around} {σ : St} (lo : Lo 200 A) (hfr : A.frames = some []) {sc : Addr} {ns : List Int} {Q : AV → St → Prop} (hsc : BL (BB w h0) sc (ns.map .int)) (hl : ns.length ≤ 63)
    (q : ∀ σ', (AllBare σ.g → AllBare σ'.g) → Q (.bool true) σ') : Callw (BB w h0) A [] (.ref 492) [.ref sc] σ Q :=
  law_pre O lo hfr hsc hl fun Cl cf σ' n start step caps ts ll cp turn most least d1 c d2 g X fr => law_post O (lo.deeper (n := 199)) fr X fun σ'' h => q σ'' fun hb => h (by rw [g]; exact hb)
theorem lo_top : Lo 200 callerA := ⟨rfl, by decide, by decide⟩
theorem fa_eq {P : Params} {h : Heap} {mg : Str → Option Value} (X : (KK P).In h) (G : h.Ns mainGlobals mg) {fa : Addr} (e : mg (Str.ofString "law") = some (.ref fa)) : fa = 492 := by
  have q : mg (Str.ofString "law") = some (.ref 492) := mg_of X G (g_law P)
  rw [e] at q
  injection q with q
  injection q
theorem ok_top {w : World} {h : Heap} {mg mb : Str → Option Value} (X : (KK w.params).In h) (G : h.Ns mainGlobals mg) (b : h.Ns builtinsNs mb) (nl : h.NoLimit) (bu : ∀ x : Str, x ≠ "__name__" → mb x = bootBuiltins x) : (BB w h).Ok := ⟨X, mg, mb, G, b, nl, bu⟩
theorem rel_top {B : Bs} {s : Shared} {mg : Str → Option Value} (e0 : B.h0 = s.heap) (G : s.heap.Ns mainGlobals mg) (hg : s.gens = #[]) : Rel B ⟨fun _ => none, #[]⟩ s where
  base b o e := e0 ▸ e
  own a ao e := by cases e
  gens := hg
  low := ⟨by rw [e0]; obtain ⟨o, es, ep, e, _⟩ := G; rw [e]; rfl, fun a h => absurd rfl h⟩
/-- a call of the law from the ground -/
theorem law_top {w : World} {s : Shared} {mg mb : Str → Option Value} (X : (KK w.params).In s.heap) (G : s.heap.Ns mainGlobals mg) (b : s.heap.Ns builtinsNs mb) (nl : s.heap.NoLimit) (bu : ∀ x : Str, x ≠ "__name__" → mb x = bootBuiltins x) (hg : s.gens = #[])
    {fa : Addr} (e : mg (Str.ofString "law") = some (.ref fa)) {sc : Addr} {ns : List Int} (hsc : BL (BB w s.heap) sc (ns.map .int)) (hl : ns.length ≤ 63) :
    wpAny (model PySem.Challenge.pw_bm0029_01 w) callerA (call (.ref fa) [.ref sc] []) (fun v s' => v = .bool true ∧ (∀ b o, s.heap.get? b = some o → s'.heap.get? b = some o) ∧ s'.os = s.os ∧ AllBare s'.gens) (fun _ _ => False) s := by
  obtain rfl := fa_eq X G e
  refine wpAny_mono (law_all (ok_top X G b nl bu) lo_top rfl hsc hl (Q := fun v σ' => v = .bool true ∧ AllBare σ'.g) (fun σ' h => ⟨rfl, h AllBare.empty⟩) (.ref 492) [.ref sc] rfl rfl s (rel_top (B := BB w s.heap) rfl G hg) ⟨trivial, by simp⟩) (fun v s' ⟨σ', R', S', hv, hb⟩ => ?_) (fun _ _ x => x)
  exact ⟨ab_bool hv, R'.base, S'.os, by rw [R'.gens]; exact hb⟩
theorem bl_top {w : World} {h : Heap} {sc : Addr} {vs : List Value} {ns : List Int} (e : h.IsList sc vs.toArray) (hI : IntsAre vs ns) : BL (BB w h) sc (ns.map .int) := ⟨_, e, by rw [← ints_are hI]⟩
end Mine
set_option maxHeartbeats 200000
set_option maxHeartbeats 4000000
theorem PySem.Challenge.cw_bm0029_01_holds : PySem.Challenge.rw_bm0029_01.Holds := by
  refine hd ?_
  intro w s₀ s₁ mg mb G Y fa o pm cd doc dV kV ho hd' hcd hD hmg hg args vals as hpre hlay hrd hwl hlo
  replace hmg : mg (Str.ofString "law") = some (.ref fa) := hmg
  clear ho hd' hcd hD
  wrow_args hpre hlay hrd hwl hlo
  rename_i ns x1 x2 x3 x4 x5 x6 x7 sc vs x8 hL x9 x10 r0 hI x12 hlen x13
  refine wpAny_mono (Mine.law_top (kIn_of Y) G.T.g G.T.b G.T.nolimit G.T.builtins hg hmg (Mine.bl_top hL hI) (by omega)) (fun v s' ⟨e, k1, k2, k3⟩ => ?_) (fun _ _ x => x.elim)
  subst e
  exact ⟨.inl ⟨_, _, [], rfl, fun _ => rfl, ReadsW.bool true, (by first | rfl | wrow_post), fun _ => ⟨List.nodup_nil, nofun⟩⟩, .of_keep k1, k2, k3⟩
