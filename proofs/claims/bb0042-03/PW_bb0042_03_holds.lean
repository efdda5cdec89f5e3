import PyProof.Rows.All
import Wide.All
import OpenK.AllK
import Wide.FinOn
import Lean
import PySem.Challenge.RW_bb0042_03
set_option maxRecDepth 100000
set_option Elab.async false
set_option linter.unusedVariables false

namespace Mine
open PySem PySem.W PySem.Calls PyProof.Rows
open Sem (wp)

/-! a logic beside the library's: the contexts in which no decoder is under way -/
noncomputable def decId (id : String) : Bool := PySem.Builtin.Bytes.decodersThatHold.contains id
noncomputable def decoding : Code → Bool
  | .builtin id _ => decId id
  | _ => false
noncomputable def Calm (Γ : Ctx) : Prop := decoding Γ.code = false ∧ ∀ x ∈ Γ.below, decoding x.1 = false

noncomputable def wpC {α : Type} (M : Model) (A : Around) (t : Sem α) (Q : α → Shared → Prop) (E : Value → Shared → Prop) (s : Shared) : Prop :=
  ∀ Γ p, Γ.In A → Calm Γ → wp M Γ t (fun a _ s' => Q a s') (fun e _ s' => E e s') p s
noncomputable def codeC (M : Model) (A : Around) (c : Code) (R : Result → Shared → Prop) (s : Shared) : Prop :=
  ∀ Γ p, Γ.code = c → Γ.Below A → (∀ x ∈ Γ.below, decoding x.1 = false) → wpCode M Γ R p s

section
variable {α β : Type} {M : Model} {A : Around} {E : Value → Shared → Prop} {s : Shared}
theorem wpC_of {t : Sem α} {Q : α → Shared → Prop} (h : wpAny M A t Q E s) : wpC M A t Q E s := fun Γ p hΓ _ => h Γ p hΓ
theorem codeC_of {c : Code} {R : Result → Shared → Prop} (h : codeAny M A c R s) : codeC M A c R s := fun Γ p hc hΓ _ => h Γ p hc hΓ
theorem wpC_pure {a : α} {Q : α → Shared → Prop} (h : Q a s) : wpC M A (pure a) Q E s := fun _ _ _ _ => h
theorem wpC_mono {t : Sem α} {Q Q' : α → Shared → Prop} {E' : Value → Shared → Prop} (h : wpC M A t Q E s)
    (hQ : ∀ a s, Q a s → Q' a s) (hE : ∀ e s, E e s → E' e s) : wpC M A t Q' E' s :=
  fun Γ p hΓ hc => Sem.wp_mono M Γ t (fun a _ s => hQ a s) (fun e _ s => hE e s) p s (h Γ p hΓ hc)
theorem wpC_bind {m : Sem α} {f : α → Sem β} {Q : β → Shared → Prop} (h : wpC M A m (fun a s' => wpC M A (f a) Q E s') E s) :
    wpC M A (m >>= f) Q E s := fun Γ p hΓ hc => by
  rw [Sem.wp_bind']
  exact Sem.wp_mono M Γ m (fun a p' s' h' => h' Γ p' hΓ hc) (fun _ _ _ h' => h') p s (h Γ p hΓ hc)
theorem wpC_map {m : Sem α} {f : α → β} {Q : β → Shared → Prop} (h : wpC M A m (fun a s' => Q (f a) s') E s) :
    wpC M A (f <$> m) Q E s := fun Γ p hΓ hc => by rw [Sem.wp_map]; exact h Γ p hΓ hc
theorem wpC_tryCatch {m : Sem α} {k : Value → Sem α} {Q : α → Shared → Prop} (h : wpC M A m Q (fun e s' => wpC M A (k e) Q E s') s) :
    wpC M A (tryCatch m k) Q E s := fun Γ p hΓ hc => by
  rw [Sem.wp_tryCatch']
  exact Sem.wp_mono M Γ m (fun _ _ _ h' => h') (fun e p' s' h' => h' Γ p' hΓ hc) p s (h Γ p hΓ hc)
theorem wpC_onRaise {m : Sem α} {k : Value → Sem Unit} {Q : α → Shared → Prop}
    (h : wpC M A m Q (fun e s' => wpC M A (k e) (fun _ s'' => E e s'') E s') s) : wpC M A (m.onRaise k) Q E s := fun Γ p hΓ hc => by
  rw [Sem.wp_onRaise]
  exact Sem.wp_mono M Γ m (fun _ _ _ h' => h') (fun e p' s' h' => h' Γ p' hΓ hc) p s (h Γ p hΓ hc)
/-- what never raises needs no look at what a raise would do -/
theorem wpC_onRaise_sure {m : Sem α} {k : Value → Sem Unit} {Q : α → Shared → Prop} (h : wpC M A m Q (fun _ _ => False) s) : wpC M A (m.onRaise k) Q (fun _ _ => False) s :=
  wpC_onRaise (wpC_mono h (fun _ _ x => x) fun _ _ x => x.elim)
theorem wpC_holding {vs : List Value} {m : Sem α} {Q : α → Shared → Prop} (h : wpC M A m Q E s) : wpC M A (holding vs m) Q E s :=
  fun Γ p hΓ hc => by rw [Sem.wp_holding]; exact h Γ p hΓ hc
theorem wpC_standAt {pos : Pos} {Q : Unit → Shared → Prop} (h : Q () s) : wpC M A (standAt pos) Q E s := fun _ _ _ _ => h
theorem wpC_attempt {m : Sem α} {Q : Except Value α → Shared → Prop} (h : wpC M A m (fun a => Q (.ok a)) (fun e => Q (.error e)) s) :
    wpC M A m.attempt Q E s := fun Γ p hΓ hc => by rw [Sem.wp_attempt]; exact h Γ p hΓ hc
theorem wpC_of_in1 {t : Sem α} {Q : α → Shared → Prop} (h : wpC M A.in1 t Q E s) : wpC M A t Q E s :=
  fun Γ p hΓ hc => h Γ p ⟨hΓ.1, hΓ.2.1, hΓ.2.2.1, hΓ.2.2.2.1, Nat.le_succ_of_le hΓ.2.2.2.2⟩ hc

theorem codeC_mono {c : Code} {R R' : Result → Shared → Prop} (h : codeC M A c R s) (hR : ∀ r s, R r s → R' r s) : codeC M A c R' s :=
  fun Γ p hc hΓ hl => wpCode_mono hR (h Γ p hc hΓ hl)

theorem wpC_run {c : Code} {h : Option Value} {Q : Flow → Shared → Prop}
    (hc : codeC M (A.mark h) c (fun r s' => match r with | .ok f => Q f s' | .error e => E e s') s) (hnb : h ≠ some byPass := by intro x; cases x) :
    wpC M A (run c h) Q E s :=
  fun Γ p hΓ hl => by
    rw [Sem.wp_run]
    refine hc _ p rfl (hΓ.enter c h p hnb) fun x hx => ?_
    rcases List.mem_cons.mp hx with rfl | hx
    · exact hl.1
    · exact hl.2 x hx

theorem wpC_runValue {c : Code} {Q : Value → Shared → Prop}
    (hc : codeC M A c (fun r s' => match r with | .ok (.ret v) => Q v s' | .ok _ => False | .error e => E e s') s) :
    wpC M A (runValue c) Q E s := fun Γ p hΓ hl => by
  rw [Sem.wp_runValue]
  refine hc _ p rfl (hΓ.enter c none p (by intro x; cases x)) fun x hx => ?_
  rcases List.mem_cons.mp hx with rfl | hx
  · exact hl.1
  · exact hl.2 x hx

theorem wpC_call {f : Value} {pos : List Value} {kw : List (Str × Value)} {Q : Value → Shared → Prop}
    (hc : codeC M A (.call f ⟨pos, kw⟩) (fun r s' => match r with | .ok (.ret v) => Q v s' | .ok _ => False | .error e => E e s') s) :
    wpC M A (call f pos kw) Q E s := wpC_runValue hc

theorem codeC_of_tree {c : Code} {R : Result → Shared → Prop} (hd : decoding c = false)
    (h : wpC M (A.under c) (M.den c) (fun fin s' => match fin with | .done f => R (.ok f) s' | .again c' => c'.quiet = true ∧ codeC M A c' R s')
      (fun e s' => R (.error e) s') s) : codeC M A c R s := fun Γ p hc hΓ hl => by
  rw [wpCode_iff_wp, hc]
  refine Sem.wp_mono M Γ _ (fun fin p' s' h' => ?_) (fun _ _ _ h' => h') p s (h Γ p (hc ▸ hΓ.in) ⟨hc ▸ hd, hl⟩)
  cases fin with
  | done f => exact h'
  | again c' => exact ⟨h'.1, h'.2 (Γ.goto c') p' rfl (hΓ.goto c') hl⟩

/-- the look at a bytearray's lent octets, where nobody lends -/
theorem wpC_exported {v : Value} {Q : Bool → Shared → Prop} (hg : A.guards = some []) (h : Q false s) : wpC M A (PySem.Builtin.Bytes.exported v) Q E s := fun Γ p hΓ hl => by
  show Q (((Γ.code, p) :: Γ.below).any _) s
  have hgd : ∀ x ∈ (Γ.code, p) :: Γ.below, x.1.isGuard = false := by
    have hz : guardsOf ((Γ.code, p) :: Γ.below) = [] := by rw [guardsOf_cons]; exact hΓ.2.2.2.1 [] hg
    intro x hx
    cases hc : x.1.isGuard with
    | false => rfl
    | true =>
      have : x.1 ∈ guardsOf ((Γ.code, p) :: Γ.below) := List.mem_filter.mpr ⟨List.mem_map_of_mem hx, hc⟩
      rw [hz] at this; cases this
  have hdc : ∀ x ∈ (Γ.code, p) :: Γ.below, decoding x.1 = false := fun x hx => by
    rcases List.mem_cons.mp hx with rfl | hx
    · exact hl.1
    · exact hl.2 x hx
  have key : ∀ f : Code × Pos → Bool, (∀ x ∈ (Γ.code, p) :: Γ.below, f x = false) → Q (((Γ.code, p) :: Γ.below).any f) s := fun f hf => by
    rw [List.any_eq_false.mpr fun x hx => by rw [hf x hx]; exact Bool.false_ne_true]; exact h
  refine key _ fun x hx => ?_
  have h1 := hgd x hx
  have h2 := hdc x hx
  have g : ∀ {id : String} {as : Args}, guardIds.contains id = true → ¬ (Code.builtin id as).isGuard = false := fun h q => by
    have : guardIds.contains _ = false := q
    rw [h] at this; cases this
  split
  · exact absurd h1 (g (by decide +kernel))
  · exact absurd h1 (g (by decide +kernel))
  · exact absurd h1 (g (by decide +kernel))
  · exact absurd h1 (g (by decide +kernel))
  · exact absurd h1 (g (by decide +kernel))
  · have : PySem.Builtin.Bytes.decodersThatHold.contains _ = false := h2
    rw [this, Bool.and_false]
  · rfl
end
end Mine
namespace Mine
open PySem PySem.W PySem.Calls PyProof.Rows

/-! abstract values, abstract heap -/
inductive KD where
  | i (k : Int) | s (x : Str)
  deriving DecidableEq

inductive V where
  | none | bool (b : Bool) | int (i : Int) | str (s : Str) | bytes (b : List UInt8)
  | typ (n : String) | bltn (id : String) | ref (a : Addr)
  | tup (xs : List V) | flist (xs : List V)

inductive Ob where
  | list (xs : List V) | barr (b : List UInt8) | idict (kvs : List (Int × V)) | tdict (kvs : List (List KD × V)) | inst (C : Addr) (f : Nat → Option V) | edict

noncomputable abbrev Hp := Addr → Option Ob

mutual
noncomputable def VRel (hp : Hp) (h : Heap) : V → Value → Prop
  | .none, v => v = .none
  | .bool b, v => v = .bool b
  | .int i, v => ∃ t, v = .int i t
  | .str s, v => ∃ t, v = .str s t
  | .bytes b, v => ∃ t, v = .bytes b.toArray t
  | .typ n, v => v = .type n
  | .bltn id, v => v = .builtin id
  | .ref a, v => v = .ref a
  | .tup xs, v => ∃ a vals, v = .ref a ∧ hp a = none ∧ IsTup h a vals ∧ VRels hp h xs vals.toList
  | .flist xs, v => ∃ a vals, v = .ref a ∧ hp a = none ∧ h.IsList a vals ∧ VRels hp h xs vals.toList
noncomputable def VRels (hp : Hp) (h : Heap) : List V → List Value → Prop
  | [], vs => vs = []
  | x :: xs, vs => ∃ v r, vs = v :: r ∧ VRel hp h x v ∧ VRels hp h xs r
end

structure Wd where
  prog : Program
  w : World
  K : Frag
  h₀ : Heap
  os : OsState
  mg : Str → Option Value
  mb : Str → Option Value
  inK : K.In h₀
  hg : h₀.Ns mainGlobals mg
  hb : h₀.Ns builtinsNs mb
  nolim : h₀.NoLimit
  bi : ∀ x : Str, x ≠ "__name__" → mb x = bootBuiltins x

noncomputable abbrev Wd.M (W : Wd) : Model := model W.prog W.w

/-! keys: ints and strs together -/
noncomputable def KD.is : KD → Value → Bool
  | .i k, v => Value.isInt k v
  | .s x, v => Value.isStrOf x v
noncomputable def KD.hash (w : World) : KD → Int
  | .i k => hashInt k
  | .s x => hashStr w x
theorem KD.shape {k : KD} {v : Value} (h : k.is v = true) : (∃ i t, k = .i i ∧ v = .int i t) ∨ ∃ x t, k = .s x ∧ v = .str x t := by
  cases k with
  | i k => obtain ⟨t, rfl⟩ := Value.isInt_shape h; exact .inl ⟨_, _, rfl, rfl⟩
  | s x => obtain ⟨t, rfl⟩ := Value.isStrOf_shape h; exact .inr ⟨_, _, rfl, rfl⟩

theorem eqBool_is_str {prog : Program} {w : World} {A : Around} {E : Value → Shared → Prop} {s : Shared} {a : Int} {x : Str} {t u : Tok} {Q : Bool → Shared → Prop} (h : Q false s) :
    wpAny (model prog w) A (eqBool (.int a t) (.str x u)) Q E s := by
  unfold eqBool
  refine wpAny_holding ?_
  rw [if_neg (by simp)]
  exact wpAny_bind (EqMixed.eq_int_str (wpAny_truthy_bool h))
theorem eqBool_str_is {prog : Program} {w : World} {A : Around} {E : Value → Shared → Prop} {s : Shared} {a : Int} {x : Str} {t u : Tok} {Q : Bool → Shared → Prop} (h : Q false s) :
    wpAny (model prog w) A (eqBool (.str x u) (.int a t)) Q E s := by
  unfold eqBool
  refine wpAny_holding ?_
  rw [if_neg (by simp)]
  exact wpAny_bind (EqMixed.eq_str_int (wpAny_truthy_bool h))

noncomputable def kdKind (prog : Program) (w : World) : KeyKind prog w KD where
  is := KD.is
  hash := KD.hash w
  inj := fun v a b ha hb => by
    rcases KD.shape ha with ⟨i, t, rfl, rfl⟩ | ⟨x, t, rfl, rfl⟩ <;> rcases KD.shape hb with ⟨j, u, rfl, e⟩ | ⟨y, u, rfl, e⟩ <;> cases e <;> rfl
  byValue := fun k v h => by rcases KD.shape h with ⟨i, t, rfl, rfl⟩ | ⟨x, t, rfl, rfl⟩ <;> rfl
  pyHash := fun hv h => by
    rcases KD.shape hv with ⟨i, t, rfl, rfl⟩ | ⟨x, t, rfl, rfl⟩
    · exact wpAny_pyHash_int h
    · exact wpAny_pyHash_str h
  eqBool := fun hu hv h => by
    rcases KD.shape hu with ⟨i, t, rfl, rfl⟩ | ⟨x, t, rfl, rfl⟩ <;> rcases KD.shape hv with ⟨j, u, rfl, rfl⟩ | ⟨y, u, rfl, rfl⟩
    · refine wpAny_eqBool_int ?_
      have e : (i == j) = decide (KD.i i = KD.i j) := by by_cases hij : i = j <;> simp [hij]
      rw [e]; exact h
    · exact eqBool_is_str (by simpa using h)
    · exact eqBool_str_is (by simpa using h)
    · refine wpAny_eqBool_str ?_
      simpa using h
  «strs» := fun k x t v h => by
    rcases KD.shape h with ⟨i, t, rfl, e⟩ | ⟨y, u, rfl, e⟩
    · cases e
    · cases e; cases v <;> rfl

noncomputable def ORel (W : Wd) (hp : Hp) (h : Heap) (a : Addr) : Ob → Prop
  | .list xs => ∃ vals, h.PlainList a vals ∧ VRels hp h xs vals.toList
  | .barr b => ∃ d sl, h.get? a = some ⟨.type "bytearray", d, .bytearray b.toArray 0, sl⟩
  | .idict kvs => ∃ ys : List (Int × Value), h.DictOf (intKind W.prog W.w) a ys ∧ ys.map (·.1) = kvs.map (·.1) ∧ VRels hp h (kvs.map (·.2)) (ys.map (·.2))
  | .tdict kvs => ∃ ys : List (List KD × Addr × Value), h.DictOfH (tupleKind (kdKind W.prog W.w)) a ys ∧ ys.map (·.1) = kvs.map (·.1) ∧ VRels hp h (kvs.map (·.2)) (ys.map (·.2.2)) ∧ ∀ y ∈ ys, hp y.2.1 = none
  | .edict => h.get? a = some emptyDict
  | .inst C f => ∃ dx sl, h.get? a = some ⟨.ref C, some dx, .plain, sl⟩ ∧ hp dx = some .edict ∧ ∀ i v, f i = some v → ∃ val, (sl[i]?).join = some val ∧ VRel hp h v val

theorem VRels.length {hp : Hp} {h : Heap} : ∀ {xs : List V} {vs : List Value}, VRels hp h xs vs → vs.length = xs.length
  | [], _, e => by cases e; rfl
  | _ :: _, _, ⟨_, _, e, _, r⟩ => by cases e; simp [r.length]

theorem VRels.get {hp : Hp} {h : Heap} : ∀ {xs : List V} {vs : List Value}, VRels hp h xs vs → ∀ {i : Nat} {x : V}, xs[i]? = some x → ∃ v, vs[i]? = some v ∧ VRel hp h x v
  | [], _, _, _, _, e => by simp at e
  | _ :: _, _, ⟨v, _, e, a, _⟩, 0, _, q => by cases e; cases q; exact ⟨v, rfl, a⟩
  | _ :: _, _, ⟨_, _, e, _, r⟩, i + 1, _, q => by cases e; exact r.get (i := i) q

theorem VRels.append {hp : Hp} {h : Heap} : ∀ {xs ys : List V} {vs ws : List Value}, VRels hp h xs vs → VRels hp h ys ws → VRels hp h (xs ++ ys) (vs ++ ws)
  | [], _, _, _, e, r => by cases e; exact r
  | _ :: _, _, _, _, ⟨v, r', e, a, b⟩, r => by cases e; exact ⟨v, r' ++ _, rfl, a, b.append r⟩

theorem VRels.one {hp : Hp} {h : Heap} {x : V} {v : Value} (a : VRel hp h x v) : VRels hp h [x] [v] := ⟨v, [], rfl, a, rfl⟩
theorem VRels.cons {hp : Hp} {h : Heap} {x : V} {v : Value} {xs : List V} {vs : List Value} (a : VRel hp h x v) (b : VRels hp h xs vs) : VRels hp h (x :: xs) (v :: vs) := ⟨v, vs, rfl, a, b⟩

theorem VRels.take {hp : Hp} {h : Heap} : ∀ {xs : List V} {vs : List Value} (n : Nat), VRels hp h xs vs → VRels hp h (xs.take n) (vs.take n)
  | _, _, 0, _ => by simp [VRels]
  | [], _, _ + 1, e => by cases e; simp [VRels]
  | _ :: _, _, n + 1, ⟨v, r, e, a, b⟩ => by cases e; exact ⟨v, _, rfl, a, b.take n⟩
theorem VRels.drop {hp : Hp} {h : Heap} : ∀ {xs : List V} {vs : List Value} (n : Nat), VRels hp h xs vs → VRels hp h (xs.drop n) (vs.drop n)
  | _, _, 0, e => e
  | [], _, _ + 1, e => by cases e; simp [VRels]
  | _ :: _, _, n + 1, ⟨v, r, e, a, b⟩ => by cases e; exact b.drop n
theorem VRels.set {hp : Hp} {h : Heap} : ∀ {xs : List V} {vs : List Value} (n : Nat) {x : V} {v : Value}, VRels hp h xs vs → VRel hp h x v → VRels hp h (xs.set n x) (vs.set n v)
  | [], _, _, _, _, e, _ => by cases e; simp [VRels]
  | _ :: _, _, 0, _, _, ⟨_, r, e, _, b⟩, c => by cases e; exact ⟨_, r, rfl, c, b⟩
  | _ :: _, _, n + 1, _, _, ⟨_, r, e, a, b⟩, c => by cases e; exact ⟨_, _, rfl, a, b.set n c⟩
theorem VRels.reverse {hp : Hp} {h : Heap} : ∀ {xs : List V} {vs : List Value}, VRels hp h xs vs → VRels hp h xs.reverse vs.reverse
  | [], _, e => by cases e; simp [VRels]
  | _ :: _, _, ⟨v, r, e, a, b⟩ => by cases e; rw [List.reverse_cons, List.reverse_cons]; exact b.reverse.append (.one a)

/-! steps -/
/-- what is kept of the frozen objects -/
structure Kept (hp : Hp) (h : Heap) (hp' : Hp) (h' : Heap) : Prop where
  seq : ∀ b o, (∃ its n, o.data = .seq its n) → h.get? b = some o → hp b = none → h'.get? b = some o ∧ hp' b = none
  live : ∀ b, (h.get? b).isSome = true → (h'.get? b).isSome = true

structure HStep (hp : Hp) (s : Shared) (hp' : Hp) (s' : Shared) : Prop where
  keep : ∀ b o, s.heap.get? b = some o → hp b = none → s'.heap.get? b = some o
  out : ∀ b o, s.heap.get? b = some o → hp b = none → hp' b = none
  live : ∀ b, (s.heap.get? b).isSome = true → (s'.heap.get? b).isSome = true

theorem HStep.refl (hp : Hp) (s : Shared) : HStep hp s hp s := ⟨fun _ _ e _ => e, fun _ _ _ e => e, fun _ e => e⟩
theorem HStep.trans {hp₁ hp₂ hp₃ : Hp} {s₁ s₂ s₃ : Shared} (x : HStep hp₁ s₁ hp₂ s₂) (y : HStep hp₂ s₂ hp₃ s₃) : HStep hp₁ s₁ hp₃ s₃ :=
  ⟨fun b o e q => y.keep b o (x.keep b o e q) (x.out b o e q), fun b o e q => y.out b o (x.keep b o e q) (x.out b o e q), fun b e => y.live b (x.live b e)⟩
theorem HStep.kept {hp hp' : Hp} {s s' : Shared} (k : HStep hp s hp' s') : Kept hp s.heap hp' s'.heap := ⟨fun b o _ e q => ⟨k.keep b o e q, k.out b o e q⟩, k.live⟩

mutual
theorem VRel.step {hp hp' : Hp} {h h' : Heap} (k : Kept hp h hp' h') : ∀ {x : V} {v : Value}, VRel hp h x v → VRel hp' h' x v
  | .none, _, e => e
  | .bool _, _, e => e
  | .int _, _, e => e
  | .str _, _, e => e
  | .bytes _, _, e => e
  | .typ _, _, e => e
  | .bltn _, _, e => e
  | .ref _, _, e => e
  | .tup xs, _, ⟨a, vals, e, q, ⟨o, ho, hc, n, hd⟩, r⟩ => ⟨a, vals, e, (k.seq a o ⟨vals, n, hd⟩ ho q).2, ⟨o, (k.seq a o ⟨vals, n, hd⟩ ho q).1, hc, n, hd⟩, VRels.step k r⟩
  | .flist xs, _, ⟨a, vals, e, q, ⟨o, ho, hc, n, hd⟩, r⟩ => ⟨a, vals, e, (k.seq a o ⟨vals, n, hd⟩ ho q).2, ⟨o, (k.seq a o ⟨vals, n, hd⟩ ho q).1, hc, n, hd⟩, VRels.step k r⟩
theorem VRels.step {hp hp' : Hp} {h h' : Heap} (k : Kept hp h hp' h') : ∀ {xs : List V} {vs : List Value}, VRels hp h xs vs → VRels hp' h' xs vs
  | [], _, e => e
  | _ :: _, _, ⟨v, r, e, a, b⟩ => ⟨v, r, e, VRel.step k a, VRels.step k b⟩
end
theorem VRel.at {hp hp' : Hp} {s s' : Shared} (k : HStep hp s hp' s') {x : V} {v : Value} (r : VRel hp s.heap x v) : VRel hp' s'.heap x v := r.step k.kept
theorem VRels.at {hp hp' : Hp} {s s' : Shared} (k : HStep hp s hp' s') {x : List V} {v : List Value} (r : VRels hp s.heap x v) : VRels hp' s'.heap x v := r.step k.kept

theorem ORel.step {W : Wd} {hp hp' : Hp} {h h' : Heap} {a : Addr} (k : Kept hp h hp' h') (ed : ∀ b, hp b = some .edict → hp' b = some .edict) (e : ∀ o, h.get? a = some o → h'.get? a = some o) : ∀ {o : Ob}, ORel W hp h a o → ORel W hp' h' a o
  | .list xs, ⟨vals, p, r⟩ => ⟨vals, p.at fun o q => e o q, r.step k⟩
  | .barr b, ⟨d, sl, p⟩ => ⟨d, sl, e _ p⟩
  | .idict kvs, ⟨ys, ⟨o, es, ep, ho, hr⟩, q, r⟩ => ⟨ys, ⟨o, es, ep, e _ ho, hr⟩, q, r.step k⟩
  | .tdict kvs, ⟨ys, ⟨o, es, ep, ho, h1, h2, h3, h4, h5⟩, q, r, z⟩ => by
    have t : ∀ y ∈ ys, IsTupleKey (kdKind W.prog W.w) h' y.1 y.2.1 ∧ hp' y.2.1 = none := fun y hy => by
      obtain ⟨oy, its, n, hoy, hc, hd, hi⟩ := h4 y hy
      have := k.seq _ oy ⟨its, n, hd⟩ hoy (z y hy)
      exact ⟨⟨oy, its, n, this.1, hc, hd, hi⟩, this.2⟩
    exact ⟨ys, ⟨o, es, ep, e _ ho, h1, h2, h3, fun y hy => (t y hy).1, h5⟩, q, r.step k, fun y hy => (t y hy).2⟩
  | .edict, p => e _ p
  | .inst C f, ⟨dx, sl, p, q, r⟩ => ⟨dx, sl, e _ p, ed _ q, fun i v hv => let ⟨val, z, y⟩ := r i v hv; ⟨val, z, y.step k⟩⟩

structure HOk (W : Wd) (hp : Hp) (s : Shared) : Prop where
  old : ∀ b o, W.h₀.get? b = some o → s.heap.get? b = some o
  objs : ∀ a o, hp a = some o → ORel W hp s.heap a o
  fresh : ∀ a o, hp a = some o → W.h₀.get? a = none
  high : ∀ a o, hp a = some o → mainGlobals < a
  gens : s.gens = #[]
  os : s.os = W.os

theorem HOk.inK {W : Wd} {hp : Hp} {s : Shared} (O : HOk W hp s) : W.K.In s.heap := W.inK.keeps O.old
theorem HOk.nolim {W : Wd} {hp : Hp} {s : Shared} (O : HOk W hp s) : s.heap.NoLimit := W.nolim.keeps O.old
theorem HOk.hg {W : Wd} {hp : Hp} {s : Shared} (O : HOk W hp s) : s.heap.Ns mainGlobals W.mg := W.hg.keeps O.old
theorem HOk.hb {W : Wd} {hp : Hp} {s : Shared} (O : HOk W hp s) : s.heap.Ns builtinsNs W.mb := W.hb.keeps O.old

theorem ORel.live {W : Wd} {hp : Hp} {h : Heap} {a : Addr} : ∀ {o : Ob}, ORel W hp h a o → (h.get? a).isSome = true
  | .list _, ⟨_, ⟨_, e⟩, _⟩ => by rw [e]; rfl
  | .barr _, ⟨_, _, e⟩ => by rw [e]; rfl
  | .idict _, ⟨_, ⟨_, _, _, e, _⟩, _⟩ => by rw [e]; rfl
  | .tdict _, ⟨_, ⟨_, _, _, e, _⟩, _⟩ => by rw [e]; rfl
  | .inst _ _, ⟨_, _, e, _⟩ => by rw [e]; rfl
  | .edict, e => by have e : h.get? a = some emptyDict := e; rw [e]; rfl

/-! room -/
structure Room (n : Nat) (A : Around) : Prop where
  depth : A.depth + 3 * n ≤ 900
  units : A.units + 60 * n + 60 ≤ 9900
  guards : A.guards = some []
  handled : A.handled = none

theorem Room.le {n m : Nat} {A : Around} (h : Room n A) (e : m ≤ n) : Room m A := ⟨by have := h.depth; omega, by have := h.units; omega, h.guards, h.handled⟩

/-! the logic: every run ends, by no exception, in related states -/
noncomputable def Ev {α β : Type} (W : Wd) (A : Around) (t : Sem α) (R : Hp → Heap → β → α → Prop) (Q : β → Hp → Prop) (hp : Hp) (s : Shared) : Prop :=
  wpAny W.M A t (fun a s' => ∃ b hp', Q b hp' ∧ R hp' s'.heap b a ∧ HOk W hp' s' ∧ HStep hp s hp' s') (fun _ _ => False) s

noncomputable abbrev EvV (W : Wd) (A : Around) (t : Sem Value) (Q : V → Hp → Prop) (hp : Hp) (s : Shared) : Prop := Ev W A t VRel Q hp s
noncomputable abbrev EvB (W : Wd) (A : Around) (t : Sem Bool) (Q : Bool → Hp → Prop) (hp : Hp) (s : Shared) : Prop := Ev W A t (fun _ _ b a => a = b) Q hp s
noncomputable abbrev EvU (W : Wd) (A : Around) (t : Sem Unit) (Q : Hp → Prop) (hp : Hp) (s : Shared) : Prop := Ev W A t (fun _ _ (_ : Unit) _ => True) (fun _ => Q) hp s
noncomputable abbrev EvVs (W : Wd) (A : Around) (t : Sem (List Value)) (Q : List V → Hp → Prop) (hp : Hp) (s : Shared) : Prop := Ev W A t VRels Q hp s

section
variable {α β γ δ : Type} {W : Wd} {A : Around} {hp : Hp} {s : Shared}

theorem Ev.pure {R : Hp → Heap → β → α → Prop} {Q : β → Hp → Prop} {a : α} {b : β} (O : HOk W hp s) (q : Q b hp) (r : R hp s.heap b a) : Ev W A (Pure.pure a) R Q hp s :=
  wpAny_pure ⟨b, hp, q, r, O, .refl ..⟩

theorem Ev.then {R : Hp → Heap → β → α → Prop} {Q : β → Hp → Prop} {hp' : Hp} {s' : Shared} {t : Sem α} (k : HStep hp s hp' s') (h : Ev W A t R Q hp' s') :
    wpAny W.M A t (fun a s'' => ∃ b hp'', Q b hp'' ∧ R hp'' s''.heap b a ∧ HOk W hp'' s'' ∧ HStep hp s hp'' s'') (fun _ _ => False) s' :=
  wpAny_mono h (fun _ _ ⟨b, hp'', q, r, o, z⟩ => ⟨b, hp'', q, r, o, k.trans z⟩) fun _ _ e => e

theorem Ev.bind {R : Hp → Heap → β → α → Prop} {R' : Hp → Heap → δ → γ → Prop} {Q₁ : β → Hp → Prop} {Q : δ → Hp → Prop} {m : Sem α} {f : α → Sem γ} (h : Ev W A m R Q₁ hp s)
    (k : ∀ b a hp' s', Q₁ b hp' → R hp' s'.heap b a → HOk W hp' s' → HStep hp s hp' s' → Ev W A (f a) R' Q hp' s') : Ev W A (m >>= f) R' Q hp s :=
  wpAny_bind (wpAny_mono h (fun a s' ⟨b, hp', q, r, o, z⟩ => (k b a hp' s' q r o z).then z) fun _ _ e => e)

theorem Ev.mono {R : Hp → Heap → β → α → Prop} {Q Q' : β → Hp → Prop} {t : Sem α} (h : Ev W A t R Q hp s) (k : ∀ b hp', Q b hp' → Q' b hp') : Ev W A t R Q' hp s :=
  wpAny_mono h (fun _ _ ⟨b, hp', q, r⟩ => ⟨b, hp', k _ _ q, r⟩) fun _ _ e => e

end

/-! the same over calm contexts -/
noncomputable def Cv {α β : Type} (W : Wd) (A : Around) (t : Sem α) (R : Hp → Heap → β → α → Prop) (Q : β → Hp → Prop) (hp : Hp) (s : Shared) : Prop :=
  wpC W.M A t (fun a s' => ∃ b hp', Q b hp' ∧ R hp' s'.heap b a ∧ HOk W hp' s' ∧ HStep hp s hp' s') (fun _ _ => False) s

noncomputable abbrev CvV (W : Wd) (A : Around) (t : Sem Value) (Q : V → Hp → Prop) (hp : Hp) (s : Shared) : Prop := Cv W A t VRel Q hp s
noncomputable abbrev CvB (W : Wd) (A : Around) (t : Sem Bool) (Q : Bool → Hp → Prop) (hp : Hp) (s : Shared) : Prop := Cv W A t (fun _ _ b a => a = b) Q hp s
noncomputable abbrev CvU (W : Wd) (A : Around) (t : Sem Unit) (Q : Hp → Prop) (hp : Hp) (s : Shared) : Prop := Cv W A t (fun _ _ (_ : Unit) _ => True) (fun _ => Q) hp s
noncomputable abbrev CvVs (W : Wd) (A : Around) (t : Sem (List Value)) (Q : List V → Hp → Prop) (hp : Hp) (s : Shared) : Prop := Cv W A t VRels Q hp s

section
variable {α β γ δ : Type} {W : Wd} {A : Around} {hp : Hp} {s : Shared}

theorem Ev.c {R : Hp → Heap → β → α → Prop} {Q : β → Hp → Prop} {t : Sem α} (h : Ev W A t R Q hp s) : Cv W A t R Q hp s := wpC_of h

theorem Cv.pure {R : Hp → Heap → β → α → Prop} {Q : β → Hp → Prop} {a : α} {b : β} (O : HOk W hp s) (q : Q b hp) (r : R hp s.heap b a) : Cv W A (Pure.pure a) R Q hp s :=
  wpC_pure ⟨b, hp, q, r, O, .refl ..⟩

theorem Cv.then {R : Hp → Heap → β → α → Prop} {Q : β → Hp → Prop} {hp' : Hp} {s' : Shared} {t : Sem α} (k : HStep hp s hp' s') (h : Cv W A t R Q hp' s') :
    wpC W.M A t (fun a s'' => ∃ b hp'', Q b hp'' ∧ R hp'' s''.heap b a ∧ HOk W hp'' s'' ∧ HStep hp s hp'' s'') (fun _ _ => False) s' :=
  wpC_mono h (fun _ _ ⟨b, hp'', q, r, o, z⟩ => ⟨b, hp'', q, r, o, k.trans z⟩) fun _ _ e => e

theorem Cv.bind {R : Hp → Heap → β → α → Prop} {R' : Hp → Heap → δ → γ → Prop} {Q₁ : β → Hp → Prop} {Q : δ → Hp → Prop} {m : Sem α} {f : α → Sem γ} (h : Cv W A m R Q₁ hp s)
    (k : ∀ b a hp' s', Q₁ b hp' → R hp' s'.heap b a → HOk W hp' s' → HStep hp s hp' s' → Cv W A (f a) R' Q hp' s') : Cv W A (m >>= f) R' Q hp s :=
  wpC_bind (wpC_mono h (fun a s' ⟨b, hp', q, r, o, z⟩ => (k b a hp' s' q r o z).then z) fun _ _ e => e)

theorem Cv.mono {R : Hp → Heap → β → α → Prop} {Q Q' : β → Hp → Prop} {t : Sem α} (h : Cv W A t R Q hp s) (k : ∀ b hp', Q b hp' → Q' b hp') : Cv W A t R Q' hp s :=
  wpC_mono h (fun _ _ ⟨b, hp', q, r⟩ => ⟨b, hp', k _ _ q, r⟩) fun _ _ e => e
theorem Cv.holding {R : Hp → Heap → β → α → Prop} {Q : β → Hp → Prop} {t : Sem α} {vs : List Value} (h : Cv W A t R Q hp s) : Cv W A (PySem.holding vs t) R Q hp s := wpC_holding h
theorem Cv.stand {R : Hp → Heap → β → α → Prop} {Q : β → Hp → Prop} {t : Unit → Sem α} {p : Pos} (h : Cv W A (t ()) R Q hp s) : Cv W A (standAt p >>= t) R Q hp s := wpC_bind (wpC_standAt h)

end
end Mine
namespace Mine
open PySem PySem.W PySem.Calls PyProof.Rows

noncomputable abbrev Vars := List (Option V)

/-- a block's own names: sc is the block's table as it is written (a comprehension's is relabelled at run time) -/
structure FrOk (W : Wd) (sc : Scope) (env : Env) : Prop where
  kind : env.scope.kind = .function
  loc : ∀ x, sc.names.lookup x = some .local → env.kindOf x = some .local
  cel : ∀ x, sc.names.lookup x = some .cell → env.kindOf x = some .cell
  fre : ∀ x, sc.names.lookup x = some .free → env.kindOf x = some .free ∨ env.kindOf x = some .cell
  glo : ∀ x, sc.names.lookup x = some .globalImplicit → env.kindOf x = some .globalImplicit
  globals : env.globals = mainGlobals
  builtins : env.builtins = builtinsNs
  inj : ∀ x y c, env.cells.lookup x = some c → env.cells.lookup y = some c → x = y
  freshL : W.h₀.get? env.locals = none
  freshC : ∀ x c, sc.names.lookup x = some .cell → env.cells.lookup x = some c → W.h₀.get? c = none

noncomputable def Own (sc : Scope) (env : Env) (b : Addr) : Prop := b = env.locals ∨ ∃ x, sc.names.lookup x = some .cell ∧ env.cells.lookup x = some b

structure VarsRel (sc : Scope) (lay : List Str) (env : Env) (vars : Vars) (hp : Hp) (h : Heap) : Prop where
  hpL : hp env.locals = none
  ns : ∃ m, h.Ns env.locals m ∧ ∀ (i : Nat) (x : Str) (v : V), lay[i]? = some x → sc.names.lookup x = some .local → vars[i]? = some (some v) → ∃ val, m x = some val ∧ VRel hp h v val
  cells : ∀ (i : Nat) (x : Str), lay[i]? = some x → (sc.names.lookup x = some .cell ∨ sc.names.lookup x = some .free) →
    ∃ c vv, env.cells.lookup x = some c ∧ hp c = none ∧ h.IsCell c vv ∧ ∀ v, vars[i]? = some (some v) → ∃ val, vv = some val ∧ VRel hp h v val

theorem VarsRel.at {sc : Scope} {lay : List Str} {env : Env} {vars : Vars} {hp hp' : Hp} {s s' : Shared} (R : VarsRel sc lay env vars hp s.heap) (k : HStep hp s hp' s') : VarsRel sc lay env vars hp' s'.heap := by
  obtain ⟨m, ⟨o, es, ep, ho, hr⟩, hv⟩ := R.ns
  refine ⟨k.out _ o ho R.hpL, ⟨m, ⟨o, es, ep, k.keep _ o ho R.hpL, hr⟩, fun i x v a b c => let ⟨val, e, r⟩ := hv i x v a b c; ⟨val, e, r.at k⟩⟩, fun i x a b => ?_⟩
  obtain ⟨c, vv, e, q, ⟨oc, hoc, hd⟩, r⟩ := R.cells i x a b
  exact ⟨c, vv, e, k.out _ oc hoc q, ⟨oc, k.keep _ oc hoc q, hd⟩, fun v w => let ⟨val, e, r⟩ := r v w; ⟨val, e, r.at k⟩⟩

section
variable {W : Wd} {A : Around} {sc : Scope} {lay : List Str} {env : Env} {vars : Vars} {hp : Hp} {s : Shared}

/-- a name of the block's own is read -/
theorem ev_var {i : Nat} {x : Str} {v : V} {pos : Pos} {Q : V → Hp → Prop} (F : FrOk W sc env) (R : VarsRel sc lay env vars hp s.heap) (O : HOk W hp s)
    (hx : lay[i]? = some x) (hk : sc.names.lookup x = some .local ∨ sc.names.lookup x = some .cell ∨ sc.names.lookup x = some .free) (hv : vars[i]? = some (some v))
    (hd : (x == ("__debug__" : Str)) = false) (hc : (x == ("__classdict__" : Str)) = false) (q : Q v hp) : EvV W A (eval (.Name x pos) env) Q hp s := by
  refine wpAny_Name ?_ hd
  have fin : ∀ val, VRel hp s.heap v val → ∃ mv hp', Q mv hp' ∧ VRel hp' s.heap mv val ∧ HOk W hp' s ∧ HStep hp s hp' s := fun val r => ⟨v, hp, q, r, O, .refl ..⟩
  rcases hk with hk | hk
  · obtain ⟨m, hm, hv'⟩ := R.ns
    obtain ⟨val, e, r⟩ := hv' i x v hx hk hv
    exact wpAny_loadName_local F.kind (F.loc x hk) hm e (fin val r)
  · obtain ⟨c, vv, e, _, hcell, rr⟩ := R.cells i x hx hk
    obtain ⟨val, ev, r'⟩ := rr v hv
    subst ev
    have : env.kindOf x = some .free ∨ env.kindOf x = some .cell := hk.elim (fun h => .inr (F.cel x h)) (F.fre x)
    rcases this with h | h
    · exact wpAny_loadName_free F.kind h e hcell (fin val r') hc
    · exact wpAny_loadName_cell F.kind h e hcell (fin val r')

theorem kept_of_ns {a : Addr} {m : Str → Option Value} {h h' : Heap} (hn : h.Ns a m) (hs : Heap.SameBut a h h') (hl : (h'.get? a).isSome = true) : Kept hp h hp h' := by
  obtain ⟨o, es, ep, ho, hd, _⟩ := hn
  refine ⟨fun b ob ⟨its, n, hb⟩ e q => ⟨?_, q⟩, fun b e => ?_⟩
  · by_cases hab : b = a
    · subst hab
      cases Option.some.inj (e.symm.trans ho)
      rw [hd] at hb; cases hb
    · exact (hs.2 b hab).trans e
  · by_cases hab : b = a
    · subst hab; exact hl
    · rw [hs.2 b hab]; exact e
theorem kept_of_cell {a : Addr} {v : Option Value} {h h' : Heap} (hn : h.IsCell a v) (hs : Heap.SameBut a h h') (hl : (h'.get? a).isSome = true) : Kept hp h hp h' := by
  obtain ⟨o, ho, hd⟩ := hn
  refine ⟨fun b ob ⟨its, n, hb⟩ e q => ⟨?_, q⟩, fun b e => ?_⟩
  · by_cases hab : b = a
    · subst hab
      cases Option.some.inj (e.symm.trans ho)
      rw [hd] at hb; cases hb
    · exact (hs.2 b hab).trans e
  · by_cases hab : b = a
    · subst hab; exact hl
    · rw [hs.2 b hab]; exact e

/-- an object that is no frame's own is changed: what holds behind it -/
theorem HOk.other {a : Addr} {h' : Heap} (O : HOk W hp s) (ha : hp a = none) (h0 : W.h₀.get? a = none) (hs : Heap.SameBut a s.heap h') (k : Kept hp s.heap hp h') (t : Nat) : HOk W hp { s with heap := h', toks := t } := by
  have ne : ∀ b o, hp b = some o → b ≠ a := fun b o e q => by rw [q, ha] at e; cases e
  refine ⟨fun b o e => ?_, fun b o e => ORel.step k (fun _ q => q) (fun ob eb => (hs.2 b (ne b o e)).trans eb) (O.objs b o e), O.fresh, O.high, O.gens, O.os⟩
  have : b ≠ a := fun q => by rw [q, h0] at e; cases e
  exact (hs.2 b this).trans (O.old b o e)

structure SStep (sc : Scope) (env : Env) (hp : Hp) (s : Shared) (hp' : Hp) (s' : Shared) : Prop where
  keep : ∀ b o, s.heap.get? b = some o → hp b = none → ¬ Own sc env b → s'.heap.get? b = some o
  out : ∀ b o, s.heap.get? b = some o → hp b = none → hp' b = none
  live : ∀ b, (s.heap.get? b).isSome = true → (s'.heap.get? b).isSome = true
  rows : ∀ b o, (∃ its n, o.data = .seq its n) → s.heap.get? b = some o → hp b = none → s'.heap.get? b = some o
theorem SStep.refl (sc : Scope) (env : Env) (hp : Hp) (s : Shared) : SStep sc env hp s hp s := ⟨fun _ _ e _ _ => e, fun _ _ _ e => e, fun _ e => e, fun _ _ _ e _ => e⟩
theorem SStep.kept {hp' : Hp} {s' : Shared} (x : SStep sc env hp s hp' s') : Kept hp s.heap hp' s'.heap := ⟨fun b o d e q => ⟨x.rows b o d e q, x.out b o e q⟩, x.live⟩
theorem SStep.trans {hp₁ hp₂ hp₃ : Hp} {s₁ s₂ s₃ : Shared} (x : SStep sc env hp₁ s₁ hp₂ s₂) (y : SStep sc env hp₂ s₂ hp₃ s₃) : SStep sc env hp₁ s₁ hp₃ s₃ :=
  ⟨fun b o e q n => y.keep b o (x.keep b o e q n) (x.out b o e q) n, fun b o e q => by
    by_cases n : Own sc env b
    · obtain ⟨o', e'⟩ := Option.isSome_iff_exists.mp (x.live b (by rw [e]; rfl))
      exact y.out b o' e' (x.out b o e q)
    · exact y.out b o (x.keep b o e q n) (x.out b o e q), fun b e => y.live b (x.live b e), fun b o d e q => y.rows b o d (x.rows b o d e q) (x.out b o e q)⟩
theorem HStep.toS {hp' : Hp} {s' : Shared} (k : HStep hp s hp' s') : SStep sc env hp s hp' s' := ⟨fun b o e q _ => k.keep b o e q, k.out, k.live, fun b o _ e q => k.keep b o e q⟩

theorem lay_inj {l : List Str} (h : l.Nodup) {i j : Nat} {x : Str} (a : l[i]? = some x) (b : l[j]? = some x) : i = j :=
  (List.getElem?_inj (List.getElem?_eq_some_iff.mp a).1 h).mp (a.trans b.symm)

/-- a name of the block's own is stored -/
theorem st_var {i : Nat} {x : Str} {v : V} {val : Value} {Q : Unit → Shared → Prop} (F : FrOk W sc env) (R : VarsRel sc lay env vars hp s.heap) (O : HOk W hp s) (hn : lay.Nodup)
    (hx : lay[i]? = some x) (hk : sc.names.lookup x = some .local ∨ sc.names.lookup x = some .cell) (r : VRel hp s.heap v val)
    (h : ∀ s', HOk W hp s' → VarsRel sc lay env (vars.set i (some v)) hp s'.heap → SStep sc env hp s hp s' → (sc.names.lookup x = some .local → Heap.SameBut env.locals s.heap s'.heap) → Q () s') : wpAny W.M A (storeName env x val) Q (fun _ _ => False) s := by
  have vs : ∀ {j : Nat} {y : Str} {u : V}, lay[j]? = some y → (vars.set i (some v))[j]? = some (some u) → (y = x ∧ u = v) ∨ (y ≠ x ∧ vars[j]? = some (some u)) := fun {j y u} hy hu => by
    by_cases hij : i = j
    · subst hij
      rw [hx] at hy; cases hy
      rw [List.getElem?_set_self'] at hu
      left; refine ⟨rfl, ?_⟩
      cases q : vars[i]? with
      | none => rw [q] at hu; cases hu
      | some _ => rw [q] at hu; cases hu; rfl
    · rw [List.getElem?_set_ne hij] at hu
      exact .inr ⟨fun e => hij (lay_inj hn hx (e ▸ hy)), hu⟩
  rcases hk with hk | hk
  · obtain ⟨m, hm, hv⟩ := R.ns
    refine wpAny_storeName_local (F.loc x hk) hm (fun h' hm' hs => ?_) (by rw [F.kind]; rfl)
    have hl : (h'.get? env.locals).isSome = true := by obtain ⟨o, _, _, ho, _⟩ := hm'; rw [ho]; rfl
    have k : Kept hp s.heap hp h' := kept_of_ns hm hs hl
    refine h _ (O.other R.hpL F.freshL hs k _) ⟨R.hpL, ⟨_, hm', fun j y u hy hl hu => ?_⟩, fun j y hy hl => ?_⟩ ⟨fun b o e q n => ?_, fun b o e q => q, k.live, fun b o d e q => (k.seq b o d e q).1⟩ fun _ => hs
    · rcases vs hy hu with ⟨rfl, rfl⟩ | ⟨ne, hu⟩
      · exact ⟨val, if_pos rfl, r.step k⟩
      · obtain ⟨w, e, z⟩ := hv j y u hy hl hu
        exact ⟨w, (if_neg ne).trans e, z.step k⟩
    · obtain ⟨c, vv, e, q, hc, z⟩ := R.cells j y hy hl
      have ne : c ≠ env.locals := by
        rintro rfl
        obtain ⟨o, _, _, ho, hd, _⟩ := hm
        obtain ⟨oc, hoc, hdc⟩ := hc
        cases Option.some.inj (hoc.symm.trans ho)
        rw [hd] at hdc; cases hdc
      have yx : y ≠ x := fun e => by subst e; rcases hl with h | h <;> rw [hk] at h <;> cases h
      refine ⟨c, vv, e, q, hc.sameBut hs ne, fun u hu => ?_⟩
      rcases vs hy hu with ⟨h, _⟩ | ⟨_, hu⟩
      · exact absurd h yx
      · obtain ⟨w, e, z⟩ := z u hu; exact ⟨w, e, z.step k⟩
    · exact (hs.2 b fun e => n (.inl e)).trans e
  · obtain ⟨c, vv, e, q, hc, z⟩ := R.cells i x hx (.inl hk)
    refine wpAny_storeName_cell F.kind (F.cel x hk) e hc fun h' hc' hs => ?_
    have hl : (h'.get? c).isSome = true := by obtain ⟨o, ho, _⟩ := hc'; rw [ho]; rfl
    have k : Kept hp s.heap hp h' := kept_of_cell hc hs hl
    have ne : env.locals ≠ c := by
      rintro rfl
      obtain ⟨m, ⟨o, _, _, ho, hd, _⟩, _⟩ := R.ns
      obtain ⟨oc, hoc, hdc⟩ := hc
      cases Option.some.inj (hoc.symm.trans ho)
      rw [hd] at hdc; cases hdc
    obtain ⟨m, hm, hv⟩ := R.ns
    refine h _ (O.other q (F.freshC x c hk e) hs k _) ⟨R.hpL, ⟨m, hm.sameBut hs ne, fun j y u hy hl hu => ?_⟩, fun j y hy hl => ?_⟩ ⟨fun b o e' q n => ?_, fun b o e q => q, k.live, fun b o d e q => (k.seq b o d e q).1⟩ fun w => by rw [hk] at w; cases w
    · rcases vs hy hu with ⟨rfl, _⟩ | ⟨_, hu⟩
      · rw [hk] at hl; cases hl
      · obtain ⟨w, e, z⟩ := hv j y u hy hl hu; exact ⟨w, e, z.step k⟩
    · obtain ⟨c', vv', e', q', hc'', z'⟩ := R.cells j y hy hl
      by_cases yx : y = x
      · subst yx
        rw [e] at e'; cases e'
        refine ⟨c, some val, e, q, hc', fun u hu => ?_⟩
        rcases vs hy hu with ⟨_, rfl⟩ | ⟨h, _⟩
        · exact ⟨val, rfl, r.step k⟩
        · exact absurd rfl h
      · have : c' ≠ c := fun h => yx (F.inj y x c (h ▸ e') e)
        refine ⟨c', vv', e', q', hc''.sameBut hs this, fun u hu => ?_⟩
        rcases vs hy hu with ⟨h, _⟩ | ⟨_, hu⟩
        · exact absurd h yx
        · obtain ⟨w, e, z⟩ := z' u hu; exact ⟨w, e, z.step k⟩
    · exact (hs.2 b fun h => n (.inr ⟨x, hk, h ▸ e⟩)).trans e'

end
end Mine
namespace Mine
open PySem PySem.W PySem.Calls PyProof.Rows

noncomputable def Hp.upd (hp : Hp) (a : Addr) (o : Ob) : Hp := fun b => if b = a then some o else hp b
noncomputable def Hp.del (hp : Hp) (a : Addr) : Hp := fun b => if b = a then none else hp b

inductive ItK where
  | rng | rev | of
  deriving DecidableEq

inductive B where
  | len | min | max | sum | sorted | list | bytes | bytearray | tuple | isinstance | int
  deriving DecidableEq

inductive E where
  | none | bool (b : Bool) | int (i : Int) | str (s : Str) | bytes (b : List UInt8)
  | var (i : Nat) | glob (x : Str)
  | bin (op : Operator) (l r : E) | ladd (l r : E) | lmul (l r : E) | bmul (l r : E)
  | neg (x : E) | inv (x : E) | not (x : E)
  | cmp (op : CmpOp) (l r : E) | chain (l : E) (o₁ : CmpOp) (m : E) (o₂ : CmpOp) (r : E) | deq (ne : Bool) (l r : E)
  | isn (neg : Bool) (l : E) | inn (neg : Bool) (l r : E)
  | band (xs : List E) | bor (xs : List E)
  | ite (c a b : E)
  | list (xs : List E) | tup (xs : List E) | dict0
  | attr (e : E) (name : Str) | idx (e i : E) | sl (e lo hi : E)
  | bcall (b : B) (args : List E)
  | call (f : E) (args : List E) (kwn : List Str) (kwv : List E)
  | meth (o : E) (name : Str) (args : List E) (kwn : List Str) (kwv : List E)
  | methStar (o : E) (name : Str) (arg : E) (star : E)
  | lcomp (names : List (Str × Option Nat)) (t : Nat) (k : ItK) (src ifs : List E) (elt : E)
  | lcomp2 (names : List (Str × Option Nat)) (t : Nat) (k : ItK) (src : List E) (t₂ : Nat) (k₂ : ItK) (src₂ : List E) (ifs : List E) (elt : E)
  | dcomp (names : List (Str × Option Nat)) (t : Nat) (k : ItK) (src ifs : List E) (key val : E)
  | frz (e : E)

inductive Tg where
  | var (i : Nat) | attr (o : E) (name : Str) | idx (o i : E) | sl (o lo hi : E) | tup (ts : List Tg)

inductive S where
  | expr (e : E) | asg (t : Tg) (e : E) | aug (i : Nat) (op : Operator) (e : E)
  | ite (c : E) (a b : List S) | whil (c : E) (b : List S) | for_ (t : Tg) (k : ItK) (src : List E) (b : List S)
  | ret (e : E) | ret0 | pass | brk | cont | bad

inductive F where
  | next | brk | cont | ret (v : V)

/-! what is read of the heap -/
noncomputable def seqOf (hp : Hp) : V → Option (List V)
  | .flist xs => some xs
  | .tup xs => some xs
  | .ref a => match hp a with
    | some (.list xs) => some xs
    | _ => none
  | _ => none
noncomputable def lstOf (hp : Hp) : V → Option (List V)
  | .flist xs => some xs
  | .ref a => match hp a with
    | some (.list xs) => some xs
    | _ => none
  | _ => none
noncomputable def keyOf : V → Option (Int ⊕ List KD)
  | .int i => some (.inl i)
  | .tup xs => (xs.mapM fun (x : V) => match x with | .int i => some (KD.i i) | .str s => some (KD.s s) | _ => none).map Sum.inr
  | _ => none
noncomputable def truV (hp : Hp) : V → Option Bool
  | .none => some false
  | .bool b => some b
  | .int i => some (i != 0)
  | _ => none

noncomputable def cmpInt : CmpOp → Int → Int → Option Bool
  | .Eq, a, b => some (a == b)
  | .NotEq, a, b => some (a != b)
  | .Lt, a, b => some (decide (a < b))
  | .LtE, a, b => some (decide (a ≤ b))
  | .Gt, a, b => some (decide (b < a))
  | .GtE, a, b => some (decide (b ≤ a))
  | _, _, _ => none
noncomputable def cmpV : CmpOp → V → V → Option Bool
  | op, .int a, .int b => cmpInt op a b
  | .Eq, .bool a, .bool b => some (a == b)
  | .NotEq, .bool a, .bool b => some (a != b)
  | .Eq, .int _, .none => some false
  | .NotEq, .int _, .none => some true
  | _, _, _ => none

/-- an int's place in a sequence -/
noncomputable def place (i : Int) (n : Nat) : Option Nat := if 0 ≤ i ∧ i < n ∧ i ≤ 1048576 then some i.toNat else none
noncomputable def lookI (kvs : List (Int × V)) (k : Int) : Option V := (kvs.find? fun kv => kv.1 = k).map (·.2)
noncomputable def lookT (kvs : List (List KD × V)) (k : List KD) : Option V := (kvs.find? fun kv => kv.1 = k).map (·.2)
noncomputable def putI (kvs : List (Int × V)) (k : Int) (v : V) : List (Int × V) := if kvs.any (fun kv => kv.1 = k) then kvs.map (fun kv => if kv.1 = k then (kv.1, v) else kv) else kvs ++ [(k, v)]
noncomputable def putT (kvs : List (List KD × V)) (k : List KD) (v : V) : List (List KD × V) := if kvs.any (fun kv => kv.1 = k) then kvs.map (fun kv => if kv.1 = k then (kv.1, v) else kv) else kvs ++ [(k, v)]

noncomputable def idxV (hp : Hp) : V → V → Option V
  | .ref a, i => match hp a, i with
    | some (.list xs), .int k => (place k xs.length).bind (xs[·]?)
    | some (.barr b), .int k => (place k b.length).bind fun j => (b[j]?).map fun x => .int x.toNat
    | some (.idict kvs), .int k => lookI kvs k
    | some (.tdict kvs), k => match keyOf k with
      | some (.inr ks) => lookT kvs ks
      | _ => none
    | _, _ => none
  | .flist xs, .int k => (place k xs.length).bind (xs[·]?)
  | .tup xs, .int k => (place k xs.length).bind (xs[·]?)
  | .bytes b, .int k => if b.length ≤ 1048576 then (place k b.length).bind fun j => (b[j]?).map fun x => .int x.toNat else none
  | _, _ => none

/-- the ends of a slice as Python clamps them -/
noncomputable def clampLo (n : Nat) : V → Option Nat
  | .none => some 0
  | .int i => if 0 ≤ i then some (min i.toNat n) else none
  | _ => none
noncomputable def clampHi (n : Nat) : V → Option Nat
  | .none => some n
  | .int i => if 0 ≤ i then some (min i.toNat n) else none
  | _ => none
noncomputable def cut {α : Type} (xs : List α) (lo hi : Nat) : List α := (xs.drop lo).take (hi - lo)

noncomputable def rangeL (lo hi step : Int) : List V :=
  if 0 < step then (List.range ((hi - lo + step - 1) / step).toNat).map fun (k : Nat) => V.int (lo + k * step)
  else (List.range ((lo - hi - step - 1) / (-step)).toNat).map fun (k : Nat) => V.int (lo + k * step)

/-! data that == compares by its make -/
mutual
noncomputable def V.gr : V → Bool
  | .none => true
  | .int _ => true
  | .str _ => true
  | .tup xs => V.grs xs
  | _ => false
noncomputable def V.grs : List V → Bool
  | [] => true
  | x :: r => x.gr && V.grs r
end

/-! the doings, each with what is wanted behind it -/
noncomputable abbrev K1 := V → Hp → Prop

noncomputable def newK (hp : Hp) (o : Ob) (k : K1) : Prop := ∀ c, hp c = none → k (.ref c) (hp.upd c o)

noncomputable def binK (op : Operator) (a b : V) (hp : Hp) (k : K1) : Prop := match op, a, b with
  | .Add, .int i, .int j => k (.int (i + j)) hp
  | .Sub, .int i, .int j => k (.int (i - j)) hp
  | .Mult, .int i, .int j => (i.natAbs < 2 ^ 63 ∨ j.natAbs < 2 ^ 63) ∧ k (.int (i * j)) hp
  | .FloorDiv, .int i, .int j => (0 < j ∧ j < 2 ^ 64) ∧ k (.int (i / j)) hp
  | .Mod, .int i, .int j => 0 < j ∧ k (.int (i % j)) hp
  | .Pow, .int i, .int j => (0 ≤ i ∧ i < 2 ^ 64 ∧ 0 ≤ j ∧ j ≤ 1000) ∧ k (.int (i ^ j.toNat)) hp
  | .BitAnd, .int i, .int j => k (.int (Builtin.bitAnd i j)) hp
  | _, _, _ => False

noncomputable def laddK (a b : V) (hp : Hp) (k : K1) : Prop := ∃ xs ys, lstOf hp a = some xs ∧ lstOf hp b = some ys ∧ xs.length + ys.length ≤ 2 ^ 20 ∧ newK hp (.list (xs ++ ys)) k
noncomputable def lmulK (a b : V) (hp : Hp) (k : K1) : Prop := ∃ xs n, lstOf hp a = some xs ∧ b = .int n ∧ (-1000 ≤ n ∧ n ≤ 1000) ∧ xs.length ≤ 1000 ∧ newK hp (.list (List.replicate n.toNat xs).flatten) k
noncomputable def bmulK (a b : V) (hp : Hp) (k : K1) : Prop := ∃ x n, a = .bytes [x] ∧ b = .int n ∧ (0 ≤ n ∧ n ≤ 1048576) ∧ k (.bytes (List.replicate n.toNat x)) hp

noncomputable def slK (o lo hi : V) (hp : Hp) (k : K1) : Prop := match o with
  | .flist xs => xs.length ≤ 1048576 ∧ ∃ l h, clampLo xs.length lo = some l ∧ clampHi xs.length hi = some h ∧ newK hp (.list (cut xs l h)) k
  | .ref a => match hp a with
    | some (.list xs) => xs.length ≤ 1048576 ∧ ∃ l h, clampLo xs.length lo = some l ∧ clampHi xs.length hi = some h ∧ newK hp (.list (cut xs l h)) k
    | some (.barr b) => b.length ≤ 1048576 ∧ ∃ l h, clampLo b.length lo = some l ∧ clampHi b.length hi = some h ∧ newK hp (.barr (cut b l h)) k
    | _ => False
  | _ => False

noncomputable def V.handed : V → Bool
  | .bltn _ => false
  | _ => true

/-- the written part of the world, as the walk asks for it -/
structure St (W : Wd) where
  glob : Str → Option V
  slot : Addr → Str → Option Nat
  cattr : Addr → Str → Option V
  meth : Addr → Str → Option Addr
  struct : Addr → Option (Nat × Bool)
  callee : Addr → Bool

variable {W : Wd}

noncomputable def attrK (T : St W) (o : V) (name : Str) (hp : Hp) (k : K1) : Prop := match o with
  | .ref a => (∃ v, T.cattr a name = some v ∧ k v hp) ∨ ∃ C f i v, hp a = some (.inst C f) ∧ T.slot C name = some i ∧ f i = some v ∧ v.handed = true ∧ k v hp
  | _ => False

noncomputable def updF (f : Nat → Option V) (i : Nat) (v : V) : Nat → Option V := fun j => if j = i then some v else f j

noncomputable def setAttrK (T : St W) (o : V) (name : Str) (v : V) (hp : Hp) (k : Hp → Prop) : Prop := match o with
  | .ref a => match hp a with
    | some (.inst C f) => ∃ i, T.slot C name = some i ∧ k (hp.upd a (.inst C (updF f i v)))
    | _ => False
  | _ => False

noncomputable def setIdxK (o i v : V) (hp : Hp) (k : Hp → Prop) : Prop := match o with
  | .ref a => match hp a, i with
    | some (.list xs), .int j => ∃ p, place j xs.length = some p ∧ k (hp.upd a (.list (xs.set p v)))
    | some (.tdict kvs), key => ∃ ks, keyOf key = some (.inr ks) ∧ kvs.length ≤ 2 ^ 20 ∧ k (hp.upd a (.tdict (putT kvs ks v)))
    | _, _ => False
  | _ => False

/-- a bytearray's cut is written over with as many octets -/
noncomputable def setSlK (o lo hi v : V) (hp : Hp) (k : Hp → Prop) : Prop := match o with
  | .ref a => match hp a with
    | some (.barr b) => ∃ l h x, clampLo b.length lo = some l ∧ clampHi b.length hi = some h ∧ l ≤ h ∧
        ((v = .bytes x) ∨ (∃ c, v = .ref c ∧ c ≠ a ∧ hp c = some (.barr x))) ∧ x.length = h - l ∧ b.length ≤ 1048576 ∧ k (hp.upd a (.barr (b.take l ++ x ++ b.drop h)))
    | _ => False
  | _ => False

noncomputable def deqK (ne : Bool) (a b : V) (hp : Hp) (k : K1) : Prop :=
  (∃ xs ys, lstOf hp a = some xs ∧ lstOf hp b = some ys ∧ V.grs xs = true ∧ V.grs ys = true ∧ ∀ r : Bool, (r = true ↔ xs = ys) → k (.bool (if ne then !r else r)) hp) ∨
  (∃ c d xs ys, a = .ref c ∧ b = .ref d ∧ hp c = some (.idict xs) ∧ hp d = some (.idict ys) ∧ V.grs (xs.map (·.2)) = true ∧ V.grs (ys.map (·.2)) = true ∧
    ∀ r : Bool, (r = true ↔ ∀ k, lookI xs k = lookI ys k) → k (.bool (if ne then !r else r)) hp)

noncomputable def isnV : V → Option Bool
  | .none => some true
  | .int _ => some false
  | .str _ => some false
  | .ref _ => some false
  | .tup _ => some false
  | .bool _ => some false
  | _ => none

noncomputable def innK (neg : Bool) (a b : V) (hp : Hp) (k : K1) : Prop := ∃ i, a = .int i ∧
  ((∃ xs : List Int, lstOf hp b = some (xs.map V.int) ∧ k (.bool (if neg then !decide (i ∈ xs) else decide (i ∈ xs))) hp) ∨
   ∃ c kvs, b = .ref c ∧ hp c = some (.idict kvs) ∧ k (.bool (if neg then (lookI kvs i).isNone else (lookI kvs i).isSome)) hp)

noncomputable def intsOf : List V → Option (List Int)
  | [] => some []
  | .int i :: r => (intsOf r).map (i :: ·)
  | _ :: _ => none

noncomputable def bcallK (b : B) (args : List V) (hp : Hp) (k : K1) : Prop := match b, args with
  | .len, [.bytes b] => b.length ≤ 1048576 ∧ k (.int b.length) hp
  | .len, [.ref a] => match hp a with
    | some (.list xs) => xs.length ≤ 1048576 ∧ k (.int xs.length) hp
    | some (.barr b) => b.length ≤ 1048576 ∧ k (.int b.length) hp
    | _ => False
  | .len, [.flist xs] => xs.length ≤ 1048576 ∧ k (.int xs.length) hp
  | .min, [.int i, .int j] => k (.int (if j < i then j else i)) hp
  | .max, [.int i, .int j] => k (.int (if i < j then j else i)) hp
  | .max, [v] => ∃ xs is, lstOf hp v = some xs ∧ intsOf xs = some is ∧ is ≠ [] ∧ ∀ m ∈ is, (∀ x ∈ is, x ≤ m) → k (.int m) hp
  | .sum, [v] => ∃ xs is, lstOf hp v = some xs ∧ intsOf xs = some is ∧ k (.int is.sum) hp
  | .bytes, [.ref a] => match hp a with
    | some (.barr b) => b.length ≤ 1048576 ∧ k (.bytes b) hp
    | _ => False
  | .bytearray, [.int n] => (0 ≤ n ∧ n ≤ 1048576) ∧ newK hp (.barr (List.replicate n.toNat 0)) k
  | .tuple, [v] => ∃ xs, lstOf hp v = some xs ∧ xs.length ≤ 1048576 ∧ k (.tup xs) hp
  | .int, [.int i] => k (.int i) hp
  | _, _ => False

/-! a call of the text's own: what it means (a def, a class) -/
noncomputable def KwRel (hp : Hp) (h : Heap) (kwn : List Str) (kws : List V) (kw : List (Str × Value)) : Prop := kw.map (·.1) = kwn ∧ VRels hp h kws (kw.map (·.2))

/-- a code that ends in a value -/
noncomputable def CodeV (W : Wd) (A : Around) (c : Code) (Q : V → Hp → Prop) (hp : Hp) (s : Shared) : Prop :=
  codeC W.M A c (fun r s' => ∃ v, r = .ok (.ret v) ∧ ∃ b hp', Q b hp' ∧ VRel hp' s'.heap b v ∧ HOk W hp' s' ∧ HStep hp s hp' s') s
theorem CodeV.call {W : Wd} {A : Around} {f : Value} {pos : List Value} {kw : List (Str × Value)} {Q : V → Hp → Prop} {hp : Hp} {s : Shared} (h : CodeV W A (.call f ⟨pos, kw⟩) Q hp s) : CvV W A (PySem.call f pos kw) Q hp s :=
  wpC_call (codeC_mono h fun r s' ⟨v, e, x⟩ => by subst e; exact x)

noncomputable def CallP (W : Wd) (n : Nat) (a : Addr) (args : List V) (kwn : List Str) (kws : List V) (hp : Hp) (k : K1) : Prop :=
  ∀ A s vals kw, Room n A → HOk W hp s → VRels hp s.heap args vals → KwRel hp s.heap kwn kws kw → CodeV W A (.call (.ref a) ⟨vals, kw⟩) k hp s

noncomputable def leB (signed : Bool) (w : Nat) (b : List UInt8) : Int := let n : Nat := b.foldr (fun x acc => x.toNat + 256 * acc) 0; if signed && 2 ^ (8 * w - 1) ≤ n then (n : Int) - 2 ^ (8 * w) else n
noncomputable def leE (w : Nat) (i : Int) : List UInt8 := (List.range w).map fun k => ((i % 2 ^ (8 * w)).toNat / 256 ^ k % 256).toUInt8
noncomputable def inR (signed : Bool) (w : Nat) (i : Int) : Prop := if signed then -2 ^ (8 * w - 1) ≤ i ∧ i < 2 ^ (8 * w - 1) else 0 ≤ i ∧ i < 2 ^ (8 * w)

noncomputable def callK (T : St W) (n : Nat) (f : V) (args : List V) (kwn : List Str) (kws : List V) (hp : Hp) (k : K1) : Prop := match f with
  | .ref a => T.callee a = true ∧ CallP W n a args kwn kws hp k
  | .typ t => t = "int" ∧ kwn = [] ∧ bcallK .int args hp k
  | .bltn id => kwn = [] ∧ match args with
    | [.ref a, v] => match hp a with
      | some (.list xs) => id = "list.append" ∧ xs.length ≤ 2 ^ 20 ∧ k .none (hp.upd a (.list (xs ++ [v])))
      | some (.tdict kvs) => id = "dict.get" ∧ ∃ ks, keyOf v = some (.inr ks) ∧ k ((lookT kvs ks).getD .none) hp
      | _ => False
    | [.ref a, .ref c, .int i, .int x] => id = "_struct.Struct.pack_into" ∧ ∃ w sg b, T.struct a = some (w, sg) ∧ hp c = some (.barr b) ∧ (0 ≤ i ∧ i.toNat + w ≤ b.length) ∧ inR sg w x ∧ b.length ≤ 1048576 ∧
        k .none (hp.upd c (.barr (b.take i.toNat ++ leE w x ++ b.drop (i.toNat + w))))
    | [.ref a, v, .int i] => id = "_struct.Struct.unpack_from" ∧ ∃ w sg b, T.struct a = some (w, sg) ∧ (v = .bytes b ∨ ∃ c, v = .ref c ∧ hp c = some (.barr b)) ∧ (0 ≤ i ∧ i.toNat + w ≤ b.length) ∧ b.length ≤ 1048576 ∧
        k (.tup [.int (leB sg w (cut b i.toNat (i.toNat + w)))]) hp
    | _ => False
  | _ => False

/-- what name gives as a method of o: the callee and what goes ahead of the arguments -/
noncomputable def resK (T : St W) (o : V) (name : Str) (hp : Hp) (k : V → List V → Prop) : Prop := match o with
  | .ref a => (∃ C f m, hp a = some (.inst C f) ∧ T.meth C name = some m ∧ k (.ref m) [o]) ∨
      (∃ xs, hp a = some (.list xs) ∧ name = "append" ∧ k (.bltn "list.append") [o]) ∨
      (∃ kvs, hp a = some (.tdict kvs) ∧ name = "get" ∧ k (.bltn "dict.get") [o]) ∨
      (∃ p, T.struct a = some p ∧ ((name = "pack_into" ∧ k (.bltn "_struct.Struct.pack_into") [o]) ∨ (name = "unpack_from" ∧ k (.bltn "_struct.Struct.unpack_from") [o]))) ∨
      ∃ v, T.cattr a name = some v ∧ k v []
  | _ => False

end Mine
namespace Mine
open PySem PySem.W PySem.Calls PyProof.Rows

/-! what is iterated: its items, and what must stand for them to be these -/
inductive Src where
  | fix (xs : List V)
  | lst (a : Addr) (ys : List V) (xs : List V)
noncomputable def Src.items : Src → List V
  | .fix xs => xs
  | .lst _ _ xs => xs
noncomputable def Src.ok (hp : Hp) : Src → Prop
  | .fix _ => True
  | .lst a ys _ => hp a = some (.list ys)

noncomputable def srcK (k : ItK) (vs : List V) (hp : Hp) (q : Src → Prop) : Prop := match k, vs with
  | .rng, [.int n] => (-2 ^ 40 < n ∧ n ≤ 2 ^ 20) ∧ q (.fix (rangeL 0 n 1))
  | .rng, [.int a, .int b] => ((-2 ^ 40 < a ∧ a < 2 ^ 40) ∧ (-2 ^ 40 < b ∧ b < 2 ^ 40)) ∧ q (.fix (rangeL a b 1))
  | .rng, [.int a, .int b, .int c] => ((-2 ^ 40 < a ∧ a < 2 ^ 40) ∧ (-2 ^ 40 < b ∧ b < 2 ^ 40) ∧ c = -1) ∧ q (.fix (rangeL a b (-1)))
  | .rev, [.ref a] => match hp a with
    | some (.list xs) => q (.lst a xs xs.reverse)
    | _ => False
  | .of, [.flist xs] => q (.fix xs)
  | .of, [.tup xs] => q (.fix xs)
  | .of, [.ref a] => match hp a with
    | some (.list xs) => q (.lst a xs xs)
    | _ => False
  | _, _ => False

/-- the row that grows is an object of its own -/
noncomputable def pushK (D : Addr) (v : V) (hp : Hp) (q : Hp → Prop) : Prop := ∃ acc, hp D = some (.list acc) ∧ acc.length ≤ 2 ^ 20 ∧ q (hp.upd D (.list (acc ++ [v])))
noncomputable def compGo (src : Src) (step : V → Hp → (Hp → Prop) → Prop) : List V → Hp → (Hp → Prop) → Prop
  | [], hp, k => src.ok hp ∧ k hp
  | x :: r, hp, k => src.ok hp ∧ step x hp fun hp' => compGo src step r hp' k

noncomputable abbrev KS := F → Vars → Hp → Prop
noncomputable def forGo (src : Src) (step : V → Vars → Hp → KS → Prop) : List V → Vars → Hp → KS → Prop
  | [], vars, hp, k => src.ok hp ∧ k .next vars hp
  | x :: r, vars, hp, k => src.ok hp ∧ step x vars hp fun f vars' hp' => match f with
    | .next => forGo src step r vars' hp' k
    | .cont => forGo src step r vars' hp' k
    | .brk => k .next vars' hp'
    | .ret v => k (.ret v) vars' hp'

noncomputable def inner (names : List (Str × Option Nat)) (vars : Vars) : Vars := names.map fun p => p.2.bind fun j => (vars[j]?).join

section
variable {W : Wd} (T : St W) (n : Nat)

mutual
noncomputable def vcE : E → Vars → Hp → K1 → Prop
  | .none, _, hp, k => k .none hp
  | .bool b, _, hp, k => k (.bool b) hp
  | .int i, _, hp, k => k (.int i) hp
  | .str s, _, hp, k => k (.str s) hp
  | .bytes b, _, hp, k => k (.bytes b) hp
  | .var i, vars, hp, k => ∃ v, vars[i]? = some (some v) ∧ k v hp
  | .glob x, _, hp, k => ∃ v, T.glob x = some v ∧ k v hp
  | .bin op l r, vars, hp, k => vcE l vars hp fun a hp₁ => vcE r vars hp₁ fun b hp₂ => binK op a b hp₂ k
  | .ladd l r, vars, hp, k => vcE l vars hp fun a hp₁ => vcE r vars hp₁ fun b hp₂ => laddK a b hp₂ k
  | .lmul l r, vars, hp, k => vcE l vars hp fun a hp₁ => vcE r vars hp₁ fun b hp₂ => lmulK a b hp₂ k
  | .bmul l r, vars, hp, k => vcE l vars hp fun a hp₁ => vcE r vars hp₁ fun b hp₂ => bmulK a b hp₂ k
  | .neg x, vars, hp, k => vcE x vars hp fun a hp₁ => ∃ i, a = .int i ∧ k (.int (-i)) hp₁
  | .inv x, vars, hp, k => vcE x vars hp fun a hp₁ => ∃ i, a = .int i ∧ k (.int (Builtin.bitNot i)) hp₁
  | .not x, vars, hp, k => vcE x vars hp fun a hp₁ => ∃ b, truV hp₁ a = some b ∧ k (.bool (!b)) hp₁
  | .cmp op l r, vars, hp, k => vcE l vars hp fun a hp₁ => vcE r vars hp₁ fun b hp₂ => ∃ c, cmpV op a b = some c ∧ k (.bool c) hp₂
  | .chain l o₁ m o₂ r, vars, hp, k => vcE l vars hp fun a hp₁ => vcE m vars hp₁ fun b hp₂ => ∃ c, cmpV o₁ a b = some c ∧
      if c then vcE r vars hp₂ fun d hp₃ => ∃ e, cmpV o₂ b d = some e ∧ k (.bool e) hp₃ else k (.bool false) hp₂
  | .deq _ _ _, _, _, _ => False
  | .isn neg l, vars, hp, k => vcE l vars hp fun a hp₁ => ∃ c, isnV a = some c ∧ k (.bool (if neg then !c else c)) hp₁
  | .inn _ _ _, _, _, _ => False
  | .band xs, vars, hp, k => vcAnd xs vars hp k
  | .bor xs, vars, hp, k => vcOr xs vars hp k
  | .ite c a b, vars, hp, k => vcE c vars hp fun v hp₁ => ∃ t, truV hp₁ v = some t ∧ if t then vcE a vars hp₁ k else vcE b vars hp₁ k
  | .list xs, vars, hp, k => vcEs xs vars hp fun vs hp₁ => vs.length ≤ 1048576 ∧ newK hp₁ (.list vs) k
  | .tup xs, vars, hp, k => vcEs xs vars hp fun vs hp₁ => vs.length ≤ 1048576 ∧ k (.tup vs) hp₁
  | .dict0, _, hp, k => newK hp (.tdict []) k
  | .attr e name, vars, hp, k => vcE e vars hp fun o hp₁ => attrK T o name hp₁ k
  | .idx e i, vars, hp, k => vcE e vars hp fun o hp₁ => vcE i vars hp₁ fun j hp₂ => ∃ v, idxV hp₂ o j = some v ∧ k v hp₂
  | .sl e lo hi, vars, hp, k => vcE e vars hp fun o hp₁ => vcE lo vars hp₁ fun l hp₂ => vcE hi vars hp₂ fun h hp₃ => slK o l h hp₃ k
  | .bcall b args, vars, hp, k => vcEs args vars hp fun vs hp₁ => bcallK b vs hp₁ k
  | .call f args kwn kwv, vars, hp, k => vcE f vars hp fun fv hp₁ => vcEs args vars hp₁ fun vs hp₂ => vcEs kwv vars hp₂ fun ks hp₃ => ks.length = kwn.length ∧ callK T n fv vs kwn ks hp₃ k
  | .meth o name args kwn kwv, vars, hp, k => vcE o vars hp fun ov hp₁ => resK T ov name hp₁ fun fv first => vcEs args vars hp₁ fun vs hp₂ => vcEs kwv vars hp₂ fun ks hp₃ => ks.length = kwn.length ∧ callK T n fv (first ++ vs) kwn ks hp₃ k
  | .methStar o name arg star, vars, hp, k => vcE o vars hp fun ov hp₁ => ∃ b C f fm, ov = .ref b ∧ hp₁ b = some (.inst C f) ∧ T.meth C name = some fm ∧ vcE arg vars hp₁ fun a hp₂ => vcE star vars hp₂ fun t hp₃ => ∃ xs, t = .tup xs ∧ xs.length ≤ 1000 ∧ T.callee fm = true ∧ CallP W n fm (ov :: a :: xs) [] [] hp₃ k
  | .lcomp names t ik src ifs elt, vars, hp, k => vcEs src vars hp fun vs hp₁ => srcK ik vs hp₁ fun sr => ∀ D, hp₁ D = none →
      compGo sr (fun x hp₂ q => vcIf ifs ((inner names vars).set t (some x)) hp₂ fun b hp₃ => if b then vcE elt ((inner names vars).set t (some x)) hp₃ fun v hp₄ => pushK D v hp₄ q else q hp₃) sr.items (hp₁.upd D (.list []))
        fun hp₅ => k (.ref D) hp₅
  | .lcomp2 names t ik src t₂ ik₂ src₂ ifs elt, vars, hp, k => vcEs src vars hp fun vs hp₁ => srcK ik vs hp₁ fun sr => ∀ D, hp₁ D = none →
      compGo sr (fun x hp₂ q => vcEs src₂ ((inner names vars).set t (some x)) hp₂ fun vs₂ hp₃ => srcK ik₂ vs₂ hp₃ fun sr₂ =>
          compGo sr₂ (fun y hp₂ q => vcIf ifs (((inner names vars).set t (some x)).set t₂ (some y)) hp₂ fun b hp₃ => if b then vcE elt (((inner names vars).set t (some x)).set t₂ (some y)) hp₃ fun v hp₄ => pushK D v hp₄ q else q hp₃) sr₂.items hp₃ q) sr.items (hp₁.upd D (.list []))
        fun hp₅ => k (.ref D) hp₅
  | .dcomp _ _ _ _ _ _ _, _, _, _ => False
  | .frz e, vars, hp, k => vcE e vars hp fun v hp₁ => ∃ a xs, v = .ref a ∧ hp₁ a = some (.list xs) ∧ k (.flist xs) (hp₁.del a)
noncomputable def vcEs : List E → Vars → Hp → (List V → Hp → Prop) → Prop
  | [], _, hp, k => k [] hp
  | e :: r, vars, hp, k => vcE e vars hp fun v hp₁ => vcEs r vars hp₁ fun vs hp₂ => k (v :: vs) hp₂
noncomputable def vcAnd : List E → Vars → Hp → K1 → Prop
  | [], _, _, _ => False
  | e :: r, vars, hp, k => match r with
    | [] => vcE e vars hp k
    | _ :: _ => vcE e vars hp fun v hp₁ => ∃ t, truV hp₁ v = some t ∧ if t then vcAnd r vars hp₁ k else k v hp₁
noncomputable def vcOr : List E → Vars → Hp → K1 → Prop
  | [], _, _, _ => False
  | e :: r, vars, hp, k => match r with
    | [] => vcE e vars hp k
    | _ :: _ => vcE e vars hp fun v hp₁ => ∃ t, truV hp₁ v = some t ∧ if t then k v hp₁ else vcOr r vars hp₁ k
noncomputable def vcIf : List E → Vars → Hp → (Bool → Hp → Prop) → Prop
  | [], _, hp, k => k true hp
  | e :: r, vars, hp, k => vcE e vars hp fun v hp₁ => ∃ t, truV hp₁ v = some t ∧ if t then vcIf r vars hp₁ k else k false hp₁
end

mutual
noncomputable def vcT : Tg → V → Vars → Hp → (Vars → Hp → Prop) → Prop
  | .var i, v, vars, hp, k => k (vars.set i (some v)) hp
  | .attr o name, v, vars, hp, k => vcE T n o vars hp fun ov hp₁ => setAttrK T ov name v hp₁ fun hp₂ => k vars hp₂
  | .idx o i, v, vars, hp, k => vcE T n o vars hp fun ov hp₁ => vcE T n i vars hp₁ fun iv hp₂ => setIdxK ov iv v hp₂ fun hp₃ => k vars hp₃
  | .sl o lo hi, v, vars, hp, k => vcE T n o vars hp fun ov hp₁ => vcE T n lo vars hp₁ fun l hp₂ => vcE T n hi vars hp₂ fun h hp₃ => setSlK ov l h v hp₃ fun hp₄ => k vars hp₄
  | .tup ts, v, vars, hp, k => ∃ xs, seqOf hp v = some xs ∧ xs.length = ts.length ∧ vcTs ts xs vars hp k
noncomputable def vcTs : List Tg → List V → Vars → Hp → (Vars → Hp → Prop) → Prop
  | [], xs, vars, hp, k => xs = [] ∧ k vars hp
  | t :: r, xs, vars, hp, k => match xs with
    | [] => False
    | x :: xs => vcT t x vars hp fun vars' hp' => vcTs r xs vars' hp' k
end

end
end Mine
namespace Mine
open PySem PySem.W PySem.Calls PyProof.Rows

noncomputable def B.name : B → Str
  | .len => "len" | .min => "min" | .max => "max" | .sum => "sum" | .sorted => "sorted" | .list => "list" | .bytes => "bytes" | .bytearray => "bytearray" | .tuple => "tuple" | .isinstance => "isinstance" | .int => "int"

noncomputable def isVar (sc : Scope) (x : Str) : Bool := match sc.names.lookup x with
  | some .local => true
  | some .cell => true
  | some .free => true
  | _ => false
noncomputable def isOwn (sc : Scope) (x : Str) : Bool := match sc.names.lookup x with
  | some .local => true
  | some .cell => true
  | _ => false
noncomputable def isGlob (sc : Scope) (x : Str) : Bool := sc.names.lookup x == some .globalImplicit && x != ("__debug__" : Str)
noncomputable def plainName (x : Str) : Bool := x != ("__debug__" : Str) && x != ("__classdict__" : Str)
noncomputable def notStarred : Expr → Bool
  | .Starred .. => false
  | _ => true
noncomputable def notSliced : Expr → Bool
  | .Slice .. => false
  | _ => true
noncomputable def notSet : Expr → Bool
  | .Set .. => false
  | _ => true
noncomputable def notAttr : Expr → Bool
  | .Attribute .. => false
  | _ => true
noncomputable def notCall0 : Expr → Bool
  | .Call (.Name _ _) [] [] _ => false
  | _ => true
/-- the names of a comprehension's block: its own, and those that it takes out of the block around -/
noncomputable def namesOk (sc : Scope) (lay : List Str) (scope : Scope) (names : List (Str × Option Nat)) : Bool :=
  scope.kind == .function && decide ((scope.names.map (·.1)).Nodup) && decide ((names.map (·.1)).Nodup) &&
  names.all (fun p => match p.2 with
    | some j => scope.names.lookup p.1 == some .free && lay[j]? == some p.1
    | none => isOwn scope p.1) &&
  scope.names.all fun p => match p.2 with
    | .free => (sc.names.lookup p.1 == some .cell || sc.names.lookup p.1 == some .free) && lay.contains p.1
    | .local => true
    | .cell => true
    | .globalImplicit => true
    | .globalExplicit => false
noncomputable def tgtOk (scope : Scope) (names : List (Str × Option Nat)) (t : Nat) : Expr → Bool
  | .Name x _ => (names.map (·.1))[t]? == some x && isOwn scope x
  | _ => false

noncomputable def isNoneE : E → Bool
  | .none => true
  | _ => false
noncomputable def itArgs (sc : Scope) (k : ItK) (it : Expr) : Option (List Expr) := match k with
  | .rng => match it with | .Call (.Name x _) as [] _ => if x == ("range" : Str) && isGlob sc x then some as else none | _ => none
  | .rev => match it with | .Call (.Name x _) as [] _ => if x == ("reversed" : Str) && isGlob sc x then some as else none | _ => none
  | .of => if notSet it then some [it] else none

/-- an expression whose truth is asked by its value -/
noncomputable def plainTest : Expr → Bool
  | .UnaryOp .Not _ _ => false
  | .BoolOp .. => false
  | .IfExp .. => false
  | .Compare .. => false
  | _ => true

mutual
noncomputable def okE (sc : Scope) (lay : List Str) : E → Expr → Bool
  | .none, ex => match ex with | .Constant .none _ _ => true | _ => false
  | .bool b, ex => match ex with | .Constant (.bool c) _ _ => b == c | _ => false
  | .int i, ex => match ex with | .Constant (.int j) _ _ => i == j | _ => false
  | .str s, ex => match ex with | .Constant (.str t) _ _ => s == t | _ => false
  | .bytes b, ex => match ex with | .Constant (.bytes c) _ _ => b == c && decide (b.length ≤ 1000) | _ => false
  | .var i, ex => match ex with | .Name x _ => lay[i]? == some x && isVar sc x && plainName x | _ => false
  | .glob y, ex => match ex with | .Name x _ => y == x && isGlob sc x | _ => false
  | .bin op l r, ex => match ex with | .BinOp l' op' r' _ => op == op' && okE sc lay l l' && okE sc lay r r' | _ => false
  | .ladd l r, ex => match ex with | .BinOp l' op' r' _ => op' == .Add && okE sc lay l l' && okE sc lay r r' | _ => false
  | .lmul l r, ex => match ex with | .BinOp l' op' r' _ => op' == .Mult && okE sc lay l l' && okE sc lay r r' | _ => false
  | .bmul l r, ex => match ex with | .BinOp l' op' r' _ => op' == .Mult && okE sc lay l l' && okE sc lay r r' | _ => false
  | .neg x, ex => match ex with | .UnaryOp .USub x' _ => okE sc lay x x' | _ => false
  | .inv x, ex => match ex with | .UnaryOp .Invert x' _ => okE sc lay x x' | _ => false
  | .not x, ex => match ex with | .UnaryOp .Not x' _ => okE sc lay x x' | _ => false
  | .cmp op l r, ex => match ex with | .Compare l' [op'] [r'] _ => op == op' && !behindInMarks op' r' && okE sc lay l l' && okE sc lay r r' | _ => false
  | .chain l o₁ m o₂ r, ex => match ex with | .Compare l' [p₁, p₂] [m', r'] _ => o₁ == p₁ && o₂ == p₂ && !lastMarks [p₁, p₂] [m', r'] && okE sc lay l l' && okE sc lay m m' && okE sc lay r r' | _ => false
  | .deq ne l r, ex => match ex with | .Compare l' [op'] [r'] _ => op' == (if ne then .NotEq else .Eq) && okE sc lay l l' && okE sc lay r r' | _ => false
  | .isn neg l, ex => match ex with | .Compare l' [op'] [.Constant .none _ _] _ => op' == (if neg then .IsNot else .Is) && okE sc lay l l' | _ => false
  | .inn neg l r, ex => match ex with | .Compare l' [op'] [r'] _ => op' == (if neg then .NotIn else .In) && !behindInMarks op' r' && okE sc lay l l' && okE sc lay r r' | _ => false
  | .band xs, ex => match ex with | .BoolOp .And vs _ => okEs sc lay xs vs | _ => false
  | .bor xs, ex => match ex with | .BoolOp .Or vs _ => okEs sc lay xs vs | _ => false
  | .ite c a b, ex => match ex with | .IfExp c' a' b' _ => okE sc lay c c' && okE sc lay a a' && okE sc lay b b' | _ => false
  | .list xs, ex => match ex with | .List vs _ => okEs sc lay xs vs && decide (xs.length ≤ 1000) | _ => false
  | .tup xs, ex => match ex with | .Tuple vs _ _ => okEs sc lay xs vs && decide (xs.length ≤ 1000) | _ => false
  | .dict0, ex => match ex with | .Dict [] [] _ => true | _ => false
  | .attr e name, ex => match ex with | .Attribute v n _ => name == n && notCall0 v && okE sc lay e v | _ => false
  | .idx e i, ex => match ex with | .Subscript v s _ => notSliced s && okE sc lay e v && okE sc lay i s | _ => false
  | .sl e lo hi, ex => match ex with | .Subscript v (.Slice l u none _) _ => okE sc lay e v && (match l with | none => isNoneE lo | some x => okE sc lay lo x) && (match u with | none => isNoneE hi | some x => okE sc lay hi x) | _ => false
  | .bcall b args, ex => match ex with | .Call (.Name x _) as [] _ => x == b.name && isGlob sc x && okEs sc lay args as | _ => false
  | .call f args kwn kwv, ex => match ex with | .Call g as ks _ => notAttr g && okE sc lay f g && okEs sc lay args as && decide (args.length ≤ 20) && okKs sc lay kwn kwv ks | _ => false
  | .meth o name args kwn kwv, ex => match ex with | .Call (.Attribute o' n ap) as ks ps => name == n && ap.endLine == ps.line && notCall0 o' && okE sc lay o o' && okEs sc lay args as && decide (args.length + kwv.length ≤ 9) && okKs sc lay kwn kwv ks | _ => false
  | .methStar o name a s, ex => match ex with | .Call (.Attribute o' n ap) [a', .Starred s' _] [] ps => name == n && ap.endLine == ps.line && notCall0 o' && notStarred a' && okE sc lay o o' && okE sc lay a a' && okE sc lay s s' | _ => false
  | .lcomp names t ik src ifs elt, ex => match ex with
    | .ListComp elt' [⟨tgt, iter, ifs', 0⟩] scope _ => namesOk sc lay scope names && tgtOk scope names t tgt && (match itArgs sc ik iter with | some as => okEs sc lay src as | none => false) && okEs scope (names.map (·.1)) ifs ifs' && okE scope (names.map (·.1)) elt elt'
    | _ => false
  | .lcomp2 names t ik src t₂ ik₂ src₂ ifs elt, ex => match ex with
    | .ListComp elt' [⟨tgt, iter, [], 0⟩, ⟨tgt₂, iter₂, ifs', 0⟩] scope _ => namesOk sc lay scope names && tgtOk scope names t tgt && tgtOk scope names t₂ tgt₂ && t != t₂ && (match itArgs sc ik iter with | some as => okEs sc lay src as | none => false) && (match itArgs scope ik₂ iter₂ with | some as => okEs scope (names.map (·.1)) src₂ as | none => false) && okEs scope (names.map (·.1)) ifs ifs' && okE scope (names.map (·.1)) elt elt'
    | _ => false
  | .dcomp names t ik src ifs key val, ex => match ex with
    | .DictComp key' val' [⟨tgt, iter, ifs', 0⟩] scope _ => namesOk sc lay scope names && tgtOk scope names t tgt && (match itArgs sc ik iter with | some as => okEs sc lay src as | none => false) && okEs scope (names.map (·.1)) ifs ifs' && okE scope (names.map (·.1)) key key' && okE scope (names.map (·.1)) val val'
    | _ => false
  | .frz e, ex => plainTest ex && okE sc lay e ex
noncomputable def okEs (sc : Scope) (lay : List Str) : List E → List Expr → Bool
  | [], l => match l with | [] => true | _ => false
  | e :: r, l => match l with | x :: xs => notStarred x && okE sc lay e x && okEs sc lay r xs | [] => false
noncomputable def okKs (sc : Scope) (lay : List Str) (kwn : List Str) : List E → List Keyword → Bool
  | [], l => match l with | [] => kwn.isEmpty | _ => false
  | e :: r, l => match l with | ⟨some n, x, _⟩ :: xs => (match kwn with | m :: ms => m == n && okE sc lay e x && okKs sc lay ms r xs | [] => false) | _ => false
end

mutual
noncomputable def okT (sc : Scope) (lay : List Str) : Tg → Expr → Bool
  | .var i, ex => match ex with | .Name x _ => lay[i]? == some x && isOwn sc x | _ => false
  | .attr o name, ex => match ex with | .Attribute v n _ => name == n && okE sc lay o v | _ => false
  | .idx o i, ex => match ex with | .Subscript v s _ => notSliced s && okE sc lay o v && okE sc lay i s | _ => false
  | .sl o lo hi, ex => match ex with | .Subscript v (.Slice l u none _) _ => okE sc lay o v && (match l with | none => isNoneE lo | some x => okE sc lay lo x) && (match u with | none => isNoneE hi | some x => okE sc lay hi x) | _ => false
  | .tup ts, ex => match ex with | .Tuple vs _ _ => okTs sc lay ts vs && decide (ts.length ≤ 100) | _ => false
noncomputable def okTs (sc : Scope) (lay : List Str) : List Tg → List Expr → Bool
  | [], l => match l with | [] => true | _ => false
  | e :: r, l => match l with | x :: xs => notStarred x && okT sc lay e x && okTs sc lay r xs | [] => false
end

/-- every cell of the block's own has its place -/
noncomputable def Cov (sc : Scope) (lay : List Str) : Prop := ∀ x, sc.names.lookup x = some .cell → x ∈ lay
noncomputable def notDSet : Expr → Bool
  | .SetComp .. => false
  | .DictComp .. => false
  | _ => true
noncomputable def notComp : Expr → Bool
  | .ListComp .. => false
  | .SetComp .. => false
  | .DictComp .. => false
  | _ => true
noncomputable def notTuple : Expr → Bool
  | .Tuple .. => false
  | _ => true

/-- a tuple of targets of which one is no name of the frame itself -/
noncomputable def cellIn (sc : Scope) : Expr → Bool
  | .Tuple es _ _ => es.any fun x => match x with | .Name x _ => sc.names.lookup x == some .cell | _ => true
  | _ => false

mutual
noncomputable def okS (sc : Scope) (lay : List Str) : S → Stmt → Bool
  | .expr e, st => match st with | .Expr v _ => notComp v && okE sc lay e v | _ => false
  | .asg t e, st => match st with | .Assign [tg] v _ => (notTuple v || notTuple tg || cellIn sc tg) && notDSet v && okT sc lay t tg && okE sc lay e v | _ => false
  | .aug i op e, st => match st with | .AugAssign (.Name x _) op' v _ => op == op' && lay[i]? == some x && isOwn sc x && okE sc lay e v | _ => false
  | .ite c a b, st => match st with | .If c' a' b' _ => okE sc lay c c' && okSs sc lay a a' && okSs sc lay b b' | _ => false
  | .whil c b, st => match st with | .While c' b' [] _ => okE sc lay c c' && okSs sc lay b b' | _ => false
  | .for_ t ik src b, st => match st with | .For tg it b' [] _ => notTuple tg && okT sc lay t tg && (match itArgs sc ik it with | some as => okEs sc lay src as | none => false) && okSs sc lay b b' | _ => false
  | .ret e, st => match st with | .Return (some v) _ => okE sc lay e v | _ => false
  | .ret0, st => match st with | .Return none _ => true | _ => false
  | .pass, st => match st with | .Pass _ => true | _ => false
  | .brk, st => match st with | .Break _ => true | _ => false
  | .cont, st => match st with | .Continue _ => true | _ => false
  | .bad, _ => true
noncomputable def okSs (sc : Scope) (lay : List Str) : List S → List Stmt → Bool
  | [], l => match l with | [] => true | _ => false
  | e :: r, l => match l with | x :: xs => okS sc lay e x && okSs sc lay r xs | [] => false
end

noncomputable def FRel (hp : Hp) (h : Heap) : F → Flow → Prop
  | .next, fl => fl = .next
  | .brk, fl => fl = .brk
  | .cont, fl => fl = .cont
  | .ret v, fl => ∃ val, fl = .ret val ∧ VRel hp h v val

/-- what a statement leaves -/
noncomputable def SPost (sc : Scope) (lay : List Str) (W : Wd) (env : Env) (k : KS) (hp : Hp) (s : Shared) (fl : Flow) (s' : Shared) : Prop :=
  ∃ f vars' hp', k f vars' hp' ∧ FRel hp' s'.heap f fl ∧ HOk W hp' s' ∧ VarsRel sc lay env vars' hp' s'.heap ∧ SStep sc env hp s hp' s'

/-- a while's meaning; its unfolding is a theorem behind the soundness -/
noncomputable def WhileP (W : Wd) (n : Nat) (c : E) (b : List S) (vars : Vars) (hp : Hp) (k : KS) : Prop :=
  ∀ test body sc lay, okE sc lay c test = true → okSs sc lay b body = true → lay.Nodup → Cov sc lay → ∀ A s env, Room n A → HOk W hp s → FrOk W sc env → VarsRel sc lay env vars hp s.heap →
    codeC W.M A (.whileLoop test body [] env) (fun r s' => ∃ fl, r = .ok fl ∧ SPost sc lay W env k hp s fl s') s

section
variable {W : Wd} (T : St W) (n : Nat)
mutual
noncomputable def vcS : S → Vars → Hp → KS → Prop
  | .expr e, vars, hp, k => vcE T n e vars hp fun _ hp₁ => k .next vars hp₁
  | .asg t e, vars, hp, k => vcE T n e vars hp fun v hp₁ => vcT T n t v vars hp₁ fun vars' hp₂ => k .next vars' hp₂
  | .aug i op e, vars, hp, k => ∃ v, vars[i]? = some (some v) ∧ vcE T n e vars hp fun b hp₁ => binK op v b hp₁ fun r hp₂ => k .next (vars.set i (some r)) hp₂
  | .ite c a b, vars, hp, k => vcE T n c vars hp fun v hp₁ => ∃ t, truV hp₁ v = some t ∧ if t then vcSs a vars hp₁ k else vcSs b vars hp₁ k
  | .whil c b, vars, hp, k => WhileP W n c b vars hp k
  | .for_ t ik src b, vars, hp, k => vcEs T n src vars hp fun vs hp₁ => srcK ik vs hp₁ fun sr =>
      forGo sr (fun x vars₁ hp₂ q => vcT T n t x vars₁ hp₂ fun vars₂ hp₃ => vcSs b vars₂ hp₃ q) sr.items vars hp₁ k
  | .ret e, vars, hp, k => vcE T n e vars hp fun v hp₁ => k (.ret v) vars hp₁
  | .ret0, vars, hp, k => k (.ret .none) vars hp
  | .pass, vars, hp, k => k .next vars hp
  | .brk, vars, hp, k => k .brk vars hp
  | .cont, vars, hp, k => k .cont vars hp
  | .bad, _, _, _ => False
noncomputable def vcSs : List S → Vars → Hp → KS → Prop
  | [], vars, hp, k => k .next vars hp
  | s :: r, vars, hp, k => vcS s vars hp fun f vars' hp' => match f with
    | .next => vcSs r vars' hp' k
    | .brk => k .brk vars' hp'
    | .cont => k .cont vars' hp'
    | .ret v => k (.ret v) vars' hp'
end
end
end Mine
namespace Mine
open PySem PySem.W PySem.Calls PyProof.Rows

section
variable {W : Wd} {A : Around} {hp : Hp} {s : Shared} {n : Nat}

/-- a value is handed on; the heap is as it was, some tokens later -/
theorem ev_val {α β : Type} {R : Hp → Heap → β → α → Prop} {Q : β → Hp → Prop} {a : α} {b : β} {t : Nat} (O : HOk W hp s) (q : Q b hp) (r : R hp s.heap b a) :
    ∃ b hp', Q b hp' ∧ R hp' ({ s with toks := t } : Shared).heap b a ∧ HOk W hp' { s with toks := t } ∧ HStep hp s hp' { s with toks := t } :=
  ⟨b, hp, q, r, ⟨O.old, O.objs, O.fresh, O.high, O.gens, O.os⟩, ⟨fun _ _ e _ => e, fun _ _ _ e => e, fun _ e => e⟩⟩

theorem ev_here {α β : Type} {R : Hp → Heap → β → α → Prop} {Q : β → Hp → Prop} {a : α} {b : β} (O : HOk W hp s) (q : Q b hp) (r : R hp s.heap b a) :
    ∃ b hp', Q b hp' ∧ R hp' s.heap b a ∧ HOk W hp' s ∧ HStep hp s hp' s := ⟨b, hp, q, r, O, .refl ..⟩

theorem log2_lt_of {x : Int} {k : Nat} (h : x.natAbs < 2 ^ k) (hk : 0 < k) : x.natAbs.log2 < k := by
  by_cases h0 : x.natAbs = 0
  · rw [h0]; simpa using hk
  · exact (Nat.log2_lt h0).mpr h

theorem natAbs_lt {j : Int} {k : Nat} (h0 : 0 ≤ j) (h : j < (2 : Int) ^ k) : j.natAbs < 2 ^ k := by
  have : (j.natAbs : Int) = j := Int.natAbs_of_nonneg h0
  have h2 : ((2 ^ k : Nat) : Int) = (2 : Int) ^ k := by push_cast; rfl
  omega

theorem bin_sound {op : Operator} {a b : V} {av bv : Value} {k : K1} (h : binK op a b hp k) (O : HOk W hp s) (ra : VRel hp s.heap a av) (rb : VRel hp s.heap b bv) : EvV W A (binaryOp op av bv) k hp s := by
  unfold binK at h
  split at h
  · obtain ⟨t, rfl⟩ := ra; obtain ⟨u, rfl⟩ := rb
    exact wpAny_add_int (ev_val O h ⟨_, rfl⟩)
  · obtain ⟨t, rfl⟩ := ra; obtain ⟨u, rfl⟩ := rb
    exact sub_int' (ev_val O h ⟨_, rfl⟩)
  · obtain ⟨t, rfl⟩ := ra; obtain ⟨u, rfl⟩ := rb
    refine mul_int (ev_val O h.2 ⟨_, rfl⟩) ?_
    rcases h.1 with h | h
    · exact IntMulOk.of_left (intBits_le_64 (by omega) (by omega))
    · exact IntMulOk.of_right (intBits_le_64 (by omega) (by omega))
  · obtain ⟨t, rfl⟩ := ra; obtain ⟨u, rfl⟩ := rb
    rename_i i j
    refine floordiv_int (by omega) ?_ (.inl (PyProof.noPylong_of_log2 ?_))
    · rw [Int.fdiv_eq_ediv_of_nonneg _ (by omega)]
      exact ev_val O h.2 ⟨_, rfl⟩
    · have := log2_lt_of (k := 64) (natAbs_lt (by omega) h.1.2) (by omega)
      omega
  · obtain ⟨t, rfl⟩ := ra; obtain ⟨u, rfl⟩ := rb
    refine mod_int' (by omega) ?_
    rw [Int.fmod_eq_emod_of_nonneg _ (by omega)]
    exact ev_val O h.2 ⟨_, rfl⟩
  · obtain ⟨t, rfl⟩ := ra; obtain ⟨u, rfl⟩ := rb
    rename_i i j
    refine pow_int h.1.2.2.1 ?_ (ev_val O h.2 ⟨_, rfl⟩)
    have : Builtin.Int.intBits i ≤ 64 := intBits_le_64 (by omega) (by omega)
    have h3 := h.1.2.2.2
    have h4 := h.1.2.2.1
    have h5 : (Builtin.Int.intBits i : Int) * j ≤ 64 * 1000 := by
      have : (Builtin.Int.intBits i : Int) ≤ 64 := by omega
      exact Int.mul_le_mul this h3 h4 (by omega)
    omega
  · obtain ⟨t, rfl⟩ := ra; obtain ⟨u, rfl⟩ := rb
    exact and_int (ev_val O h ⟨_, rfl⟩)
  · exact h.elim

theorem aug_sound {op : Operator} {a b : V} {av bv : Value} {k : K1} (h : binK op a b hp k) (O : HOk W hp s) (ra : VRel hp s.heap a av) (rb : VRel hp s.heap b bv) : EvV W A (inplaceOp op av bv) k hp s := by
  unfold binK at h
  split at h
  · obtain ⟨t, rfl⟩ := ra; obtain ⟨u, rfl⟩ := rb
    exact wpAny_iadd_int (ev_val O h ⟨_, rfl⟩)
  · obtain ⟨t, rfl⟩ := ra; obtain ⟨u, rfl⟩ := rb
    exact isub_int (ev_val O h ⟨_, rfl⟩)
  · obtain ⟨t, rfl⟩ := ra; obtain ⟨u, rfl⟩ := rb
    refine imul_int (ev_val O h.2 ⟨_, rfl⟩) ?_
    rcases h.1 with h | h
    · exact IntMulOk.of_left (intBits_le_64 (by omega) (by omega))
    · exact IntMulOk.of_right (intBits_le_64 (by omega) (by omega))
  · obtain ⟨t, rfl⟩ := ra; obtain ⟨u, rfl⟩ := rb
    rename_i i j
    refine ifloordiv_int (by omega) ?_ (.inl (PyProof.noPylong_of_log2 ?_))
    · rw [Int.fdiv_eq_ediv_of_nonneg _ (by omega)]
      exact ev_val O h.2 ⟨_, rfl⟩
    · have := log2_lt_of (k := 64) (natAbs_lt (by omega) h.1.2) (by omega)
      omega
  · obtain ⟨t, rfl⟩ := ra; obtain ⟨u, rfl⟩ := rb
    refine imod_int (by omega) ?_
    rw [Int.fmod_eq_emod_of_nonneg _ (by omega)]
    exact ev_val O h.2 ⟨_, rfl⟩
  · obtain ⟨t, rfl⟩ := ra; obtain ⟨u, rfl⟩ := rb
    rename_i i j
    refine ipow_int h.1.2.2.1 ?_ (ev_val O h.2 ⟨_, rfl⟩)
    have : Builtin.Int.intBits i ≤ 64 := intBits_le_64 (by omega) (by omega)
    have h3 := h.1.2.2.2
    have h4 := h.1.2.2.1
    have h5 : (Builtin.Int.intBits i : Int) * j ≤ 64 * 1000 := by
      have : (Builtin.Int.intBits i : Int) ≤ 64 := by omega
      exact Int.mul_le_mul this h3 h4 (by omega)
    omega
  · obtain ⟨t, rfl⟩ := ra; obtain ⟨u, rfl⟩ := rb
    exact iand_int (ev_val O h ⟨_, rfl⟩)
  · exact h.elim

/-! truth -/
theorem tru_sound {v : V} {b : Bool} {val : Value} {k : Bool → Hp → Prop} (h : truV hp v = some b) (q : k b hp) (O : HOk W hp s) (r : VRel hp s.heap v val) : EvB W A (truthy val) k hp s := by
  unfold truV at h
  split at h
  · cases r; cases h
    exact wpAny_pure (a := false) (ev_here (R := fun _ _ b a => a = b) O q rfl)
  · cases r; cases h
    exact wpAny_truthy_bool (ev_here (R := fun _ _ b a => a = b) O q rfl)
  · obtain ⟨t, rfl⟩ := r; cases h
    exact truthy_int (ev_here (R := fun _ _ b a => a = b) O q rfl)
  · cases h

/-! comparisons of plain values -/
theorem cmp_sound {op : CmpOp} {a b : V} {c : Bool} {av bv : Value} {k : K1} (h : cmpV op a b = some c) (q : k (.bool c) hp) (O : HOk W hp s) (ra : VRel hp s.heap a av) (rb : VRel hp s.heap b bv) : EvV W A (compareOp op av bv) k hp s := by
  have fin : ∃ mv hp', k mv hp' ∧ VRel hp' s.heap mv (.bool c) ∧ HOk W hp' s ∧ HStep hp s hp' s := ev_here (R := VRel) O q rfl
  unfold cmpV at h
  split at h
  · obtain ⟨t, rfl⟩ := ra; obtain ⟨u, rfl⟩ := rb
    unfold cmpInt at h
    split at h <;> cases h
    · exact eq_int fin
    · exact ne_int fin
    · exact lt_int fin
    · exact le_int fin
    · exact gt_int fin
    · exact ge_int fin
  · cases ra; cases rb; cases h
    exact eq_bool fin
  · cases ra; cases rb; cases h
    exact ne_bool fin
  · obtain ⟨t, rfl⟩ := ra; cases rb; cases h
    exact EqNone.eq_int_none fin
  · obtain ⟨t, rfl⟩ := ra; cases rb; cases h
    exact EqNone.ne_int_none fin
  · cases h

theorem isn_sound {a : V} {c : Bool} {av : Value} {k : K1} (neg : Bool) (h : isnV a = some c) (q : k (.bool (if neg then !c else c)) hp) (O : HOk W hp s) (ra : VRel hp s.heap a av) :
    EvV W A (compareOp (if neg then .IsNot else .Is) av .none) k hp s := by
  have fin : ∀ v, v = Value.bool (if neg then !c else c) → ∃ mv hp', k mv hp' ∧ VRel hp' s.heap mv v ∧ HOk W hp' s ∧ HStep hp s hp' s := fun v e => e ▸ ev_here (R := VRel) O q rfl
  have key : (av == Value.none) = c ∧ plainIs av .none = true := by
    unfold isnV at h
    split at h <;> try cases h
    · cases ra; exact ⟨rfl, rfl⟩
    · obtain ⟨t, rfl⟩ := ra; exact ⟨rfl, rfl⟩
    · obtain ⟨t, rfl⟩ := ra; exact ⟨rfl, rfl⟩
    · cases ra; exact ⟨rfl, rfl⟩
    · obtain ⟨a, vals, rfl, _⟩ := ra; exact ⟨rfl, rfl⟩
    · cases ra; exact ⟨rfl, rfl⟩
  cases neg with
  | false => exact wpAny_is_plain key.2 (fin _ (by rw [key.1]; rfl))
  | true => exact wpAny_isNot_plain key.2 (fin _ (by rw [key.1]; rfl))

theorem neg_sound {i : Int} {av : Value} {k : K1} (q : k (.int (-i)) hp) (O : HOk W hp s) (ra : VRel hp s.heap (.int i) av) : EvV W A (unaryOp .USub av) k hp s := by
  obtain ⟨t, rfl⟩ := ra
  exact neg_int (ev_val O q ⟨_, rfl⟩)
theorem inv_sound {i : Int} {av : Value} {k : K1} (q : k (.int (Builtin.bitNot i)) hp) (O : HOk W hp s) (ra : VRel hp s.heap (.int i) av) : EvV W A (unaryOp .Invert av) k hp s := by
  obtain ⟨t, rfl⟩ := ra
  exact invert_int (ev_val O q ⟨_, rfl⟩)
theorem not_sound {v : V} {b : Bool} {av : Value} {k : K1} (h : truV hp v = some b) (q : k (.bool (!b)) hp) (O : HOk W hp s) (ra : VRel hp s.heap v av) : EvV W A (unaryOp .Not av) k hp s :=
  not_of (wpAny_mono (tru_sound (k := fun c hp' => k (.bool (!c)) hp') h q O ra) (fun c s' ⟨b, hp', q, e, r⟩ => ⟨.bool (!b), hp', q, by subst e; rfl, r⟩) fun _ _ e => e)

end
end Mine
namespace Mine
open PySem PySem.W PySem.Calls PyProof.Rows

theorem upd_self (hp : Hp) (a : Addr) (o : Ob) : hp.upd a o a = some o := if_pos rfl
theorem upd_ne {hp : Hp} {a b : Addr} {o : Ob} (h : b ≠ a) : hp.upd a o b = hp b := if_neg h
theorem del_self (hp : Hp) (a : Addr) : hp.del a a = none := if_pos rfl
theorem del_ne {hp : Hp} {a b : Addr} (h : b ≠ a) : hp.del a b = hp b := if_neg h

section
variable {W : Wd} {A : Around} {hp : Hp} {s : Shared} {n : Nat}

theorem HOk.size_none (O : HOk W hp s) : hp s.heap.objs.size = none := by
  cases e : hp s.heap.objs.size with
  | none => rfl
  | some o =>
    obtain ⟨ob, q⟩ := Option.isSome_iff_exists.mp (ORel.live (O.objs _ _ e))
    exact absurd (Heap.lt_size q) (Nat.lt_irrefl _)

theorem kept_push (O : HOk W hp s) (x : Ob) (o : Obj) : Kept hp s.heap (hp.upd s.heap.objs.size x) (s.heap.push o) :=
  ⟨fun b ob _ e q => ⟨Heap.get?_push_of_some _ e, by rw [upd_ne (Nat.ne_of_lt (Heap.lt_size e))]; exact q⟩, fun b e => by
    obtain ⟨ob, q⟩ := Option.isSome_iff_exists.mp e
    rw [Heap.get?_push_of_some _ q]; rfl⟩
theorem kept_push' (o : Obj) : Kept hp s.heap hp (s.heap.push o) :=
  ⟨fun b ob _ e q => ⟨Heap.get?_push_of_some _ e, q⟩, fun b e => by
    obtain ⟨ob, q⟩ := Option.isSome_iff_exists.mp e
    rw [Heap.get?_push_of_some _ q]; rfl⟩

/-- a new object that no abstract one stands for -/
theorem HOk.junk (O : HOk W hp s) (o : Obj) (t : Nat) : HOk W hp { s with heap := s.heap.push o, toks := t } ∧ HStep hp s hp { s with heap := s.heap.push o, toks := t } :=
  ⟨⟨fun b ob e => Heap.get?_push_of_some _ (O.old b ob e), fun b ob e => ORel.step (kept_push' o) (fun _ q => q) (fun _ q => Heap.get?_push_of_some _ q) (O.objs b ob e), O.fresh, O.high, O.gens, O.os⟩,
   ⟨fun b ob e _ => Heap.get?_push_of_some _ e, fun _ _ _ q => q, (kept_push' (hp := hp) o).live⟩⟩

theorem HOk.ed_ne (O : HOk W hp s) {b : Addr} (h : hp b = some .edict) : b ≠ s.heap.objs.size := fun e => by rw [e, O.size_none] at h; cases h

theorem HOk.alloc (O : HOk W hp s) (x : Ob) (o : Obj) (t : Nat) (rel : ORel W (hp.upd s.heap.objs.size x) (s.heap.push o) s.heap.objs.size x) :
    HOk W (hp.upd s.heap.objs.size x) { s with heap := s.heap.push o, toks := t } ∧ HStep hp s (hp.upd s.heap.objs.size x) { s with heap := s.heap.push o, toks := t } := by
  have k := kept_push O x o
  refine ⟨⟨fun b ob e => Heap.get?_push_of_some _ (O.old b ob e), fun b ob e => ?_, fun b ob e => ?_, fun b ob e => ?_, O.gens, O.os⟩, ⟨fun b ob e _ => Heap.get?_push_of_some _ e, fun b ob e q => by rw [upd_ne (Nat.ne_of_lt (Heap.lt_size e))]; exact q, k.live⟩⟩
  · by_cases hb : b = s.heap.objs.size
    · subst hb
      rw [upd_self] at e; cases e; exact rel
    · rw [upd_ne hb] at e
      exact ORel.step k (fun b q => by rw [upd_ne (O.ed_ne q)]; exact q) (fun _ q => Heap.get?_push_of_some _ q) (O.objs b ob e)
  · by_cases hb : b = s.heap.objs.size
    · subst hb
      cases q : W.h₀.get? s.heap.objs.size with
      | none => rfl
      | some o' => exact absurd (Heap.lt_size (O.old _ _ q)) (Nat.lt_irrefl _)
    · rw [upd_ne hb] at e; exact O.fresh b ob e
  · by_cases hb : b = s.heap.objs.size
    · subst hb
      obtain ⟨og, _, _, hog, _⟩ := O.hg
      exact Heap.lt_size hog
    · rw [upd_ne hb] at e; exact O.high b ob e

theorem HOk.update (O : HOk W hp s) {a : Addr} {x₀ x : Ob} {h' : Heap} (ha : hp a = some x₀) (hs : Heap.SameBut a s.heap h') (t : Nat) (rel : Kept hp s.heap (hp.upd a x) h' → ORel W (hp.upd a x) h' a x) (hl : (h'.get? a).isSome = true) (hne : x₀ ≠ .edict := by nofun) :
    HOk W (hp.upd a x) { s with heap := h', toks := t } ∧ HStep hp s (hp.upd a x) { s with heap := h', toks := t } := by
  have ne : ∀ {b : Addr}, hp b = none → b ≠ a := fun q e => by rw [e, ha] at q; cases q
  have live : ∀ b, (s.heap.get? b).isSome = true → (h'.get? b).isSome = true := fun b e => by
    by_cases hb : b = a
    · subst hb; exact hl
    · rw [hs.2 b hb]; exact e
  have k : Kept hp s.heap (hp.upd a x) h' := ⟨fun b ob _ e q => ⟨(hs.2 b (ne q)).trans e, by rw [upd_ne (ne q)]; exact q⟩, live⟩
  refine ⟨⟨fun b ob e => ?_, fun b ob e => ?_, fun b ob e => ?_, fun b ob e => ?_, O.gens, O.os⟩, ⟨fun b ob e q => (hs.2 b (ne q)).trans e, fun b ob e q => by rw [upd_ne (ne q)]; exact q, live⟩⟩
  · have : b ≠ a := fun q => by rw [q, O.fresh a x₀ ha] at e; cases e
    exact (hs.2 b this).trans (O.old b ob e)
  · by_cases hb : b = a
    · subst hb
      rw [upd_self] at e; cases e; exact rel k
    · rw [upd_ne hb] at e
      exact ORel.step k (fun c q => by rw [upd_ne (fun z => by rw [z, ha] at q; exact hne (Option.some.inj q))]; exact q) (fun _ q => (hs.2 b hb).trans q) (O.objs b ob e)
  · by_cases hb : b = a
    · subst hb; exact O.fresh b x₀ ha
    · rw [upd_ne hb] at e; exact O.fresh b ob e
  · by_cases hb : b = a
    · subst hb; exact O.high b x₀ ha
    · rw [upd_ne hb] at e; exact O.high b ob e

theorem HOk.forget (O : HOk W hp s) (a : Addr) (hne : hp a ≠ some .edict) : HOk W (hp.del a) s ∧ HStep hp s (hp.del a) s := by
  have k : Kept hp s.heap (hp.del a) s.heap := ⟨fun b ob _ e q => ⟨e, by unfold Hp.del; split <;> first | rfl | exact q⟩, fun _ e => e⟩
  refine ⟨⟨O.old, fun b ob e => ?_, fun b ob e => ?_, fun b ob e => ?_, O.gens, O.os⟩, ⟨fun _ _ e _ => e, fun b ob e q => by unfold Hp.del; split <;> first | rfl | exact q, fun _ e => e⟩⟩
  · by_cases hb : b = a
    · subst hb; rw [del_self] at e; cases e
    · rw [del_ne hb] at e; exact ORel.step k (fun c q => by rw [del_ne (fun (z : c = a) => by rw [z] at q; exact hne q)]; exact q) (fun _ q => q) (O.objs b ob e)
  · by_cases hb : b = a
    · subst hb; rw [del_self] at e; cases e
    · rw [del_ne hb] at e; exact O.fresh b ob e
  · by_cases hb : b = a
    · subst hb; rw [del_self] at e; cases e
    · rw [del_ne hb] at e; exact O.high b ob e

/-- an end with a new object -/
theorem ev_new {x : Ob} {o : Obj} {t : Nat} {k : K1} (O : HOk W hp s) (q : newK hp x k) (rel : ORel W (hp.upd s.heap.objs.size x) (s.heap.push o) s.heap.objs.size x) :
    ∃ mv hp', k mv hp' ∧ VRel hp' ({ s with heap := s.heap.push o, toks := t } : Shared).heap mv (.ref s.heap.objs.size) ∧ HOk W hp' { s with heap := s.heap.push o, toks := t } ∧ HStep hp s hp' { s with heap := s.heap.push o, toks := t } :=
  ⟨.ref _, _, q _ O.size_none, rfl, O.alloc x o t rel⟩

theorem orel_list (O : HOk W hp s) {xs : List V} {vals : List Value} (r : VRels hp s.heap xs vals) :
    ORel W (hp.upd s.heap.objs.size (.list xs)) (s.heap.push { cls := .type "list", data := .seq vals.toArray }) s.heap.objs.size (.list xs) :=
  ⟨_, ⟨0, Heap.get?_push_size _ rfl⟩, by rw [List.toList_toArray]; exact r.step (kept_push O _ _)⟩

theorem newList_sound {xs : List V} {vals : List Value} {k : K1} (q : newK hp (.list xs) k) (hn : xs.length ≤ 2 ^ 20) (O : HOk W hp s) (r : VRels hp s.heap xs vals) : EvV W A (newList vals) k hp s := by
  refine wpAny_newObj_type (ev_new O q (orel_list O r)) ?_
  show vals.toArray.size ≤ sizeLine
  rw [List.size_toArray, r.length, sizeLine_eq]; omega

theorem newTuple_sound {xs : List V} {vals : List Value} {k : K1} (q : k (.tup xs) hp) (hn : xs.length ≤ 2 ^ 20) (O : HOk W hp s) (r : VRels hp s.heap xs vals) : EvV W A (newTuple vals) k hp s := by
  refine wpAny_newObj_type ⟨.tup xs, hp, q, ⟨_, vals.toArray, rfl, O.size_none, ⟨_, Heap.get?_push_size _ rfl, rfl, 0, rfl⟩, ?_⟩, O.junk _ _⟩ ?_
  · rw [List.toList_toArray]; exact r.step (kept_push' _)
  · show vals.toArray.size ≤ sizeLine
    rw [List.size_toArray, r.length, sizeLine_eq]; omega

theorem isList_of {v : V} {val : Value} {xs : List V} (h : lstOf hp v = some xs) (O : HOk W hp s) (r : VRel hp s.heap v val) : ∃ a vals, val = .ref a ∧ s.heap.IsList a vals ∧ VRels hp s.heap xs vals.toList := by
  unfold lstOf at h
  split at h
  · cases h; obtain ⟨a, vals, e, _, l, r⟩ := r; exact ⟨a, vals, e, l, r⟩
  · rename_i a
    split at h
    · rename_i ys hl
      cases h; cases r
      obtain ⟨vals, p, r⟩ := O.objs _ _ hl
      exact ⟨_, vals, rfl, p.isList, r⟩
    · cases h
  · cases h

theorem frz_sound {a : Addr} {xs : List V} (h : hp a = some (.list xs)) (O : HOk W hp s) : VRel (hp.del a) s.heap (.flist xs) (.ref a) := by
  obtain ⟨vals, p, r⟩ := O.objs _ _ h
  exact ⟨a, vals, rfl, del_self _ _, p.isList, r.step (O.forget a (by rw [h]; nofun)).2.kept⟩

theorem ladd_sound {a b : V} {av bv : Value} {k : K1} (h : laddK a b hp k) (O : HOk W hp s) (ra : VRel hp s.heap a av) (rb : VRel hp s.heap b bv) : EvV W A (binaryOp .Add av bv) k hp s := by
  obtain ⟨xs, ys, h1, h2, hn, q⟩ := h
  obtain ⟨l, ⟨vs⟩, rfl, hl, r1⟩ := isList_of h1 O ra
  obtain ⟨b, ⟨ws⟩, rfl, hb, r2⟩ := isList_of h2 O rb
  obtain ⟨⟨cls, dd, data, sl⟩, ho, hc, n, hd⟩ := id hl
  obtain ⟨⟨cls2, dd2, data2, sl2⟩, ho2, hc2, n2, hd2⟩ := id hb
  simp only at hc hd hc2 hd2 r1 r2
  subst hc hd hc2 hd2
  have e : vs.toArray ++ ws.toArray = (vs ++ ws).toArray := by simp
  refine concat_meets ⟨_, ho, rfl⟩ ⟨_, ho2, rfl⟩ noFill_list_add seq_list_add PySem.F.slot_list_add PySem.F.entry_list_add (PySem.F.args_list_add_2 _ _) (list_addW l b vs.toArray ws.toArray n n2 dd dd2 sl sl2 ?_) ⟨ho, ho2, ?_⟩
  · have := r1.length; have := r2.length
    simp only [List.size_toArray, sizeLine_eq]; omega
  · rw [e]
    exact ev_new (t := s.toks) O q (orel_list O (r1.append r2))

end
end Mine
namespace Mine
open PySem PySem.W PySem.Calls PyProof.Rows

section
variable {prog : Program} {w : World} {A : Around} {E : Value → Shared → Prop} {s : Shared}

theorem codeC_builtin {id : String} {args : Args} {b : Builtin} {R : Result → Shared → Prop} (hd : decId id = false) (hb : entryFor table id = some b)
    (h : wpC (model prog w) (A.under (.builtin id args)) (b args)
      (fun fin s' => match fin with | .done f => R (.ok f) s' | .again c' => c'.quiet = true ∧ codeC (model prog w) A c' R s') (fun e s' => R (.error e) s') s) :
    codeC (model prog w) A (.builtin id args) R s := by
  refine codeC_of_tree hd ?_
  show wpC _ _ (match entryFor table id with | some b => b args | none => unsupported ((withoutEnding? id "#data").getD id)) _ _ s
  rw [hb]; exact h

theorem codeC_call_builtin {id : String} {args : Args} {b : Builtin} {R : Result → Shared → Prop} (hd : decId id = false) (hq : plainId id = true) (hb : entryFor table id = some b)
    (h : wpAny (model prog w) A.in1 (checkBuiltinCall id args) (fun _ s₁ => wpC (model prog w) A.in1 (b args)
      (fun fin s' => match fin with | .done f => R (.ok f) s' | .again c' => c'.quiet = true ∧ codeC (model prog w) A c' R s') (fun e s' => R (.error e) s') s₁)
      (fun e s' => R (.error e) s') s) : codeC (model prog w) A (.call (.builtin id) args) R s := by
  refine codeC_of_tree rfl ?_
  show wpC _ A.in1 (do checkBuiltinCall id args; again (.builtin id args)) _ _ s
  refine wpC_bind (wpC_of (wpAny_mono h (fun _ s₁ h₁ => wpC_pure (And.intro (plainId_quiet hq args) (codeC_builtin hd hb ?_))) fun _ _ h' => h'))
  rw [Around.under_plainId hq args]; exact h₁

theorem type_call_eq {T newId initId : String} {args : List Value} (ft : TypeCalled T newId initId) (hct : checkTypeCall T ⟨args, []⟩ = pure ()) :
    Builtin.«type.__call__» ⟨.type T :: args, []⟩ = (do
      let obj ← holding [.builtin newId] (call (.builtin newId) (.type T :: args) [])
      if !(← isInstance obj (.type T)) then rule "type.call.new-gave-other-type"; return ← ret obj
      match ← holding [obj] (callSpecial? obj "__init__" args []) with
      | none => ret obj
      | some r =>
        if r != .none then
          rule "type.call.init-returned-value"
          raiseError "TypeError" s!"__init__() should return None, not '{← typeNameOf r}'"
        ret obj) := by
  obtain ⟨c, tl, hmro⟩ := ft.mro
  have h1 := ft.notType
  have h2 := ft.canCreate
  unfold Builtin.«type.__call__»
  simp only [h1, hct, hmro, ft.made, pure_bind, List.isEmpty_cons, Bool.false_eq_true, if_false]
  rw [if_neg (by rw [h2]; exact Bool.false_ne_true)]
  rfl

theorem callType_codesC {T newId initId : String} {Bi : Builtin} {args : List Value} {Q Q₁ : Value → Shared → Prop} (ft : TypeCalled T newId initId) (hd : decId initId = false)
    (hct : checkTypeCall T ⟨args, []⟩ = pure ()) (entryI : entryFor table initId = some Bi)
    (hnew : codeAny (model prog w) A.in1 (.call (.builtin newId) ⟨.type T :: args, []⟩) (wants Q₁ E) s)
    (hnext : ∀ obj s₁, Q₁ obj s₁ → s₁.TypeIs obj T ∧ argsOk initId ⟨obj :: args, []⟩ ∧
      wpC (model prog w) A.in1.in1 (Bi ⟨obj :: args, []⟩) (fun fin s' => fin = .done (.ret .none) ∧ Q obj s') E s₁) :
    wpC (model prog w) A (call (.type T) args) Q E s := by
  have hsub := ft.sub
  refine wpC_call (codeC_of_tree rfl ?_)
  show wpC _ _ (callAny (.type T) _) _ _ _
  refine wpC_pure ⟨Code.quiet_builtin _ (by decide +kernel), codeC_builtin (by decide +kernel) F.entry_type_call ?_⟩
  rw [Around.under_plain (weight_type_call_type T args []) rfl, type_call_eq ft hct]
  refine wpC_bind (wpC_holding (wpC_mono (Q := Q₁) (E := E) (wpC_of (wpAny_call (codeAny_mono hnew fun r s₁ hr => ?_))) (fun obj s₁ ho => ?_) fun _ _ x => x))
  · cases r with
    | error e => exact hr
    | ok fl => cases fl <;> first | exact hr | exact hr.elim
  obtain ⟨hT, hok, hsi⟩ := hnext _ _ ho
  refine wpC_bind (wpC_of (wpAny_isInstance hT hsub ?_))
  simp only [Bool.not_true, Bool.false_eq_true, if_false]
  refine wpC_bind (wpC_holding ?_)
  simp only [callSpecial?]
  refine wpC_bind (wpC_of (wpAny_specialOf hT ft.init.lookup ?_))
  simp only [ft.init.bind]
  refine wpC_holding (wpC_bind (wpC_pure (wpC_bind (wpC_call (codeC_call_builtin hd ft.init.plain entryI (ft.init.check _ _ _ _ _ _ _ _ hT hok (wpC_mono hsi (fun fin s' hf => ?_) fun _ _ x => x)))))))
  obtain ⟨rfl, hq⟩ := hf
  exact wpC_pure (wpC_pure hq)

end
end Mine
section N3
namespace Mine
open PySem PySem.W PySem.Calls PyProof.Rows

/-! bytearrays -/
theorem slot_ba_init : Slot "bytearray" "__init__" "bytearray.__init__" :=
  Slot.of (T := "bytearray") (name := "__init__") (owner := "bytearray") (n := "__init__") (by rw [typeLookup_type, builtinLookup_eq_fast]; kernel_rfl) (by decide +kernel) (by decide +kernel) (by decide +kernel)
    (.inl (by decide +kernel)) (by rw [isSubtype_type]; kernel_rfl)
theorem mro_ba : mroOf (.type "bytearray") = pure [.type "bytearray", .type "object"] := by rw [mroOf_type]; kernel_rfl
theorem lookup_ba_new : typeLookup (.type "bytearray") "__new__" = pure (some (.builtin "bytearray.__new__")) := by rw [typeLookup_type, builtinLookup_eq_fast]; kernel_rfl
theorem sub_ba : isSubtype (.type "bytearray") (.type "bytearray") = pure true := by rw [isSubtype_type]; kernel_rfl
theorem called_ba : TypeCalled "bytearray" "bytearray.__new__" "bytearray.__init__" :=
  ⟨by decide +kernel, by decide +kernel, ⟨_, _, mro_ba⟩, madeBy_type mro_ba lookup_ba_new (by decide +kernel), by decide +kernel, sub_ba, slot_ba_init⟩
theorem typeCall_ba (a : Value) : checkTypeCall "bytearray" ⟨[a], []⟩ = pure () := by kernel_rfl
theorem newCall_ba (a : Value) : checkBuiltinCall "bytearray.__new__" ⟨[.type "bytearray", a], []⟩ = pure () := by kernel_rfl
theorem entry_ba_new : entryFor table "bytearray.__new__" = some Builtin.«list.__new__» :=
  entryFor_alias (id' := "list.__new__") (by rw [fastTable_eq_tree]; kernel_rfl) (by kernel_rfl) (by kernel_rfl) (by rw [fastTable_eq_tree]; kernel_rfl)
theorem entry_ba_init : entryFor table "bytearray.__init__" = some Builtin.«bytearray.__init__» := entryFor_of_tree (by kernel_rfl)
theorem plain_ba_new : plainId "bytearray.__new__" = true := by decide +kernel
theorem args_ba_init (a b : Value) : argsOk "bytearray.__init__" ⟨[a, b], []⟩ := by
  unfold argsOk; kernel_rfl
set_option maxRecDepth 1000000 in
set_option maxHeartbeats 4000000 in
theorem owner_ba_new : ("bytearray.__new__".splitOn ".__new__").headD "" = "bytearray" := by simp +decide [String.splitOn, String.splitOnAux]
theorem lookup_ba_release : typeLookup (.type "bytearray") "__release_buffer__" = pure (some (.builtin "bytearray.__release_buffer__")) := by rw [typeLookup_type, builtinLookup_eq_fast]; kernel_rfl

theorem lookup_int_index : typeLookup (.type "int") "__index__" = pure (some (.builtin "int.__index__")) := by rw [typeLookup_type, builtinLookup_eq_fast]; kernel_rfl

section
variable {prog : Program} {w : World} {A : Around} {E : Value → Shared → Prop} {s : Shared}

theorem code_ba_new (a : Value) {Q₁ : Value → Shared → Prop}
    (h : Q₁ (.ref s.heap.objs.size) { s with heap := s.heap.push { cls := .type "bytearray", data := .bytearray #[] } }) :
    codeAny (model prog w) A (.call (.builtin "bytearray.__new__") ⟨[.type "bytearray", a], []⟩) (wants Q₁ E) s := by
  refine codeAny_of_tree ?_
  show wpAny _ A.in1 (do checkBuiltinCall "bytearray.__new__" ⟨[.type "bytearray", a], []⟩; again (.builtin "bytearray.__new__" ⟨[.type "bytearray", a], []⟩)) _ _ s
  refine wpAny_bind (wpAny_of_eq (newCall_ba a) (wpAny_pure ⟨plainId_quiet plain_ba_new _, codeAny_builtin_stack entry_ba_new rfl fun p st => ?_⟩))
  rw [Around.under_plainId plain_ba_new _]
  have hsub := sub_ba
  have hown := owner_ba_new
  obtain ⟨hp, g, d, tk, os⟩ := s
  simp only [hown]
  wp_walk
  exact h

/-- the octets of a bytearray are written -/
theorem wpAny_write {a : Addr} {f : Array UInt8 → Array UInt8} {c : Value} {d : Option Addr} {sl : Array (Option Value)} {b : Array UInt8} {M : Model} {Q : Unit → Shared → Prop}
    (ho : s.heap.get? a = some ⟨c, d, .bytearray b 0, sl⟩) (hn : (f b).size ≤ 2 ^ 20)
    (h : ∀ h', h'.get? a = some ⟨c, d, .bytearray (f b) 0, sl⟩ → Heap.SameBut a s.heap h' → Q () { s with heap := h' }) : wpAny M A (Builtin.Bytes.write (.ref a) f) Q E s := by
  unfold Builtin.Bytes.write
  show wpAny M A (updateBytearray a f) Q E s
  unfold updateBytearray
  refine wpAny_bind (wpAny_load ho ?_)
  dsimp only
  refine wpAny_bind (wpAny_update ho ?_)
  have hg : (s.heap.update a (Obj.mapBytearray f)).get? a = some ⟨c, d, .bytearray (f b) 0, sl⟩ := Heap.get?_update_self _ ho rfl
  refine wpAny_lookBehind hg ?_ (h _ hg (Heap.SameBut.update ..))
  show (if (f b).size > sizeLine then some "bytearray:memory" else none) = none
  rw [if_neg (by rw [sizeLine_eq]; omega)]

theorem ba_init {a : Addr} {d : Option Addr} {sl : Array (Option Value)} {n : Int} {t : Tok} {Q : Fin → Shared → Prop} (hg : A.guards = some [])
    (ho : s.heap.get? a = some ⟨.type "bytearray", d, .bytearray #[] 0, sl⟩) (hn : 0 ≤ n) (hn2 : n ≤ 2 ^ 20)
    (h : ∀ h', h'.get? a = some ⟨.type "bytearray", d, .bytearray (Array.replicate n.toNat 0) 0, sl⟩ → Heap.SameBut a s.heap h' → Q (.done (.ret .none)) { s with heap := h' }) :
    wpC (model prog w) A (Builtin.«bytearray.__init__» ⟨[.ref a, .int n t], []⟩) Q E s := by
  have hT : s.TypeIs (.ref a) "bytearray" := ⟨_, ho, rfl⟩
  unfold Builtin.«bytearray.__init__»
  dsimp only
  refine wpC_bind (wpC_of ?_)
  unfold Builtin.Bytes.ownRelease Builtin.Bytes.slotIsOwn
  refine wpAny_bind (wpAny_bind (wpAny_specialOf hT lookup_ba_release ?_))
  dsimp only
  rw [if_neg (by decide +kernel), show "bytearray.__release_buffer__".dropRight ("__release_buffer__".length + 1) = "bytearray" from by decide +kernel]
  refine wpAny_isInstance hT sub_ba (wpAny_pure ?_)
  rw [if_neg (show ¬ ((!true) = true) from Bool.false_ne_true)]
  refine wpC_bind (wpC_of (wpAny_of_eq (a := [some (Value.int n t), none, none]) (by kernel_rfl) ?_))
  dsimp only
  refine wpC_bind (wpC_of (wpAny_of_eq (a := ()) (by kernel_rfl) ?_))
  refine wpC_bind (wpC_of (wpAny_of_eq (a := ()) (by kernel_rfl) ?_))
  refine wpC_bind ?_
  show wpC _ _ (Builtin.Bytes.exported (Value.ref a) >>= _) _ _ _
  refine wpC_bind (wpC_exported hg ?_)
  show wpC _ _ (Builtin.Bytes.exportsOf (.ref a) >>= fun k => pure (decide (k > 0))) _ _ _
  refine wpC_bind (wpC_of ?_)
  unfold Builtin.Bytes.exportsOf
  refine wpAny_bind (wpAny_load ho (wpAny_pure (wpC_pure ?_)))
  rw [if_neg (by decide)]
  refine wpC_of (wpAny_bind (wpAny_write ho (by decide) fun h1 g1 sb1 => ?_))
  refine wpAny_bind (wpAny_pure ?_)
  refine wpAny_bind (wpAny_pure ?_)
  refine wpAny_bind (wpAny_specialOf (T := "int") (show Shared.TypeIs _ (.int n t) "int" from rfl) lookup_int_index ?_)
  rw [if_pos (show (some (Value.builtin "int.__index__")).isSome = true from rfl)]
  refine wpAny_bind (wpAny_of_eq (a := Except.ok n) (by rfl) ?_)
  dsimp only
  rw [if_neg (by simp [Builtin.Bytes.fitsIndex]; omega), if_neg (by omega), if_neg (by simp; omega), if_neg (by simp [Builtin.Bytes.tooLong, sizeLine_eq]; omega)]
  refine wpAny_bind (wpAny_rule ?_)
  by_cases h0 : n > 0
  · rw [if_pos h0]
    refine wpAny_bind (wpAny_write g1 (by simp; omega) fun h2 g2 sb2 => ?_)
    exact wpAny_pure (h _ g2 ⟨sb2.1.trans sb1.1, fun b hb => (sb2.2 b hb).trans (sb1.2 b hb)⟩)
  · rw [if_neg h0]
    have : n = 0 := by omega
    subst this
    exact wpAny_pure (h _ g1 sb1)

theorem call_bytearray_n {n : Int} {t : Tok} {Q : Value → Shared → Prop} (hg : A.guards = some []) (hn : 0 ≤ n) (hn2 : n ≤ 2 ^ 20)
    (h : ∀ h', h'.get? s.heap.objs.size = some ⟨.type "bytearray", none, .bytearray (Array.replicate n.toNat 0) 0, #[]⟩ → (∀ b o, s.heap.get? b = some o → h'.get? b = some o) → s.heap.objs.size < h'.objs.size → Q (.ref s.heap.objs.size) { s with heap := h' }) :
    wpC (model prog w) A (call (.type "bytearray") [.int n t]) Q E s := by
  refine callType_codesC called_ba (by decide +kernel) (typeCall_ba _) entry_ba_init
    (code_ba_new (s := s) _ (Q₁ := fun v s' => v = .ref s.heap.objs.size ∧ s' = { s with heap := s.heap.push { cls := .type "bytearray", data := .bytearray #[] } }) ⟨rfl, rfl⟩) fun obj s₁ hq => ?_
  obtain ⟨rfl, rfl⟩ := hq
  have g0 : (s.heap.push { cls := .type "bytearray", data := .bytearray #[] }).get? s.heap.objs.size = some ⟨.type "bytearray", none, .bytearray #[] 0, #[]⟩ := Heap.get?_push_size _ rfl
  refine ⟨⟨_, g0, rfl⟩, args_ba_init _ _, ba_init (s := { s with heap := s.heap.push { cls := .type "bytearray", data := .bytearray #[] } }) hg g0 hn hn2 fun h' g' sb => ⟨rfl, h h' g' (fun b o hb => ?_) ?_⟩⟩
  · rw [sb.2 b (Nat.ne_of_lt (Heap.lt_size hb))]; exact Heap.get?_push_of_some _ hb
  · rw [sb.1, Heap.size_push]; omega

end
end Mine
end N3
namespace Mine
open PySem PySem.W PySem.Calls PyProof.Rows

theorem slot_ba_getitem : Slot "bytearray" "__getitem__" "bytearray.__getitem__" :=
  Slot.of (T := "bytearray") (name := "__getitem__") (owner := "bytearray") (n := "__getitem__") (by rw [typeLookup_type, builtinLookup_eq_fast]; kernel_rfl) (by decide +kernel) (by decide +kernel) (by decide +kernel)
    (by first | exact .inl (by decide +kernel) | exact .inr (by decide +kernel)) (by rw [isSubtype_type]; kernel_rfl)
theorem slot_ba_setitem : Slot "bytearray" "__setitem__" "bytearray.__setitem__" :=
  Slot.of (T := "bytearray") (name := "__setitem__") (owner := "bytearray") (n := "__setitem__") (by rw [typeLookup_type, builtinLookup_eq_fast]; kernel_rfl) (by decide +kernel) (by decide +kernel) (by decide +kernel)
    (by first | exact .inl (by decide +kernel) | exact .inr (by decide +kernel)) (by rw [isSubtype_type]; kernel_rfl)
theorem slot_ba_len : Slot "bytearray" "__len__" "bytearray.__len__" :=
  Slot.of (T := "bytearray") (name := "__len__") (owner := "bytearray") (n := "__len__") (by rw [typeLookup_type, builtinLookup_eq_fast]; kernel_rfl) (by decide +kernel) (by decide +kernel) (by decide +kernel)
    (by first | exact .inl (by decide +kernel) | exact .inr (by decide +kernel)) (by rw [isSubtype_type]; kernel_rfl)
theorem entry_ba_getitem : entryFor table "bytearray.__getitem__" = some Builtin.«bytearray.__getitem__» := entryFor_of_tree (by kernel_rfl)
theorem entry_ba_setitem : entryFor table "bytearray.__setitem__" = some Builtin.«bytearray.__setitem__» := entryFor_of_tree (by kernel_rfl)
theorem entry_ba_len : entryFor table "bytearray.__len__" = some Builtin.«bytearray.__len__» := entryFor_of_tree (by kernel_rfl)
theorem args_ba_getitem (a b : Value) : argsOk "bytearray.__getitem__" ⟨[a, b], []⟩ := by unfold argsOk; kernel_rfl
theorem args_ba_setitem (a b c : Value) : argsOk "bytearray.__setitem__" ⟨[a, b, c], []⟩ := by unfold argsOk; kernel_rfl
theorem args_ba_len (a : Value) : argsOk "bytearray.__len__" ⟨[a], []⟩ := by unfold argsOk; kernel_rfl

section
variable {prog : Program} {w : World} {M : Model} {A : Around} {E : Value → Shared → Prop} {s : Shared}

noncomputable def baPart (v : Value) : Sem Value := do
  if v == .none then return .none
  if (← specialOf v "__index__").isNone then
    rule "bytes.slice.part-no-index"; raiseError "TypeError" "slice indices must be integers or None or have an __index__ method"
  return rawInt (← asIndex v)
theorem baSliceParts_eq (s : Value) : Builtin.Bytes.sliceParts s = (do
    let step ← baPart (← field s 2)
    if step == rawInt 0 then rule "bytes.slice.step-zero"; raiseError "ValueError" "slice step cannot be zero"
    let first ← baPart (← field s 0)
    let last ← baPart (← field s 1)
    return (first, last, step)) := rfl
theorem wpAny_baPart {v : Value} {k : Option Int} {Q : Value → Shared → Prop} (hv : IsPart v k) (h : Q (rawPart k) s) : wpAny M A (baPart v) Q E s := by
  cases hv with
  | none => exact wpAny_pure h
  | int i t =>
    unfold baPart
    rw [if_neg (show ¬ ((Value.int i t == Value.none) = true) from Bool.false_ne_true)]
    refine wpAny_bind (wpAny_specialOf (T := "int") (typeIs_int s i t) int_index ?_)
    simp only [Option.isNone_some, Bool.false_eq_true, if_false]
    exact wpAny_bind (wpAny_of_eq (a := i) rfl (wpAny_pure h))
theorem wpAny_baParts {sl : Addr} {vl vu : Value} {lo hi : Option Int} {Q : Value × Value × Value → Shared → Prop} (hs : s.heap.IsSliceOf sl vl vu .none) (pl : IsPart vl lo) (pu : IsPart vu hi)
    (h : Q (rawPart lo, rawPart hi, .none) s) : wpAny M A (Builtin.Bytes.sliceParts (.ref sl)) Q E s := by
  obtain ⟨os, hos, hcs, hds⟩ := hs
  rw [baSliceParts_eq]
  refine wpAny_bind (wpAny_field hos hds (x := .none) rfl (wpAny_bind (wpAny_baPart .none ?_)))
  rw [if_neg (show ¬ ((rawPart none == rawInt 0) = true) from Bool.false_ne_true)]
  refine wpAny_bind (wpAny_field hos hds (x := vl) rfl (wpAny_bind (wpAny_baPart pl ?_)))
  exact wpAny_bind (wpAny_field hos hds (x := vu) rfl (wpAny_bind (wpAny_baPart pu (wpAny_pure h))))

theorem wpAny_subscript_slice {sl : Addr} {vl vu : Value} {Q : Option Int → Shared → Prop} (hs : s.heap.IsSliceOf sl vl vu .none) (h : Q none s) : wpAny M A (Builtin.Bytes.subscript? (.ref sl)) Q E s := by
  obtain ⟨os, hos, hcs, hds⟩ := hs
  unfold Builtin.Bytes.subscript?
  refine wpAny_bind (wpAny_specialOf ⟨os, hos, hcs⟩ slice_no_index ?_)
  rw [if_pos (show (none : Option Value).isNone = true from rfl)]
  exact wpAny_pure h

theorem wpAny_subscript_int {k : Int} {t : Tok} {Q : Option Int → Shared → Prop} (h0 : 0 ≤ k) (h1 : k ≤ 2 ^ 20) (h : Q (some k) s) : wpAny M A (Builtin.Bytes.subscript? (.int k t)) Q E s := by
  unfold Builtin.Bytes.subscript?
  refine wpAny_bind (wpAny_specialOf (T := "int") (typeIs_int s k t) int_index ?_)
  rw [if_neg (show ¬ (some (Value.builtin "int.__index__")).isNone = true from Bool.false_ne_true)]
  refine wpAny_bind (wpAny_of_eq (a := k) rfl ?_)
  rw [if_neg (by simp [Builtin.Bytes.fitsIndex]; omega)]
  exact wpAny_pure h

theorem wpAny_payload {a : Addr} {c : Value} {d : Option Addr} {sl : Array (Option Value)} {b : Array UInt8} {n : Nat} {Q : Array UInt8 → Shared → Prop}
    (ho : s.heap.get? a = some ⟨c, d, .bytearray b n, sl⟩) (h : Q b s) : wpAny M A (Builtin.Bytes.payload (.ref a)) Q E s := by
  unfold Builtin.Bytes.payload Builtin.Bytes.payload?
  exact wpAny_bind (wpAny_bind (wpAny_load ho (wpAny_pure (wpAny_pure h))))

theorem getItem_ba {a : Addr} {d : Option Addr} {sl : Array (Option Value)} {b : Array UInt8} {k : Int} {t : Tok} {x : UInt8} {Q : Value → Shared → Prop}
    (ho : s.heap.get? a = some ⟨.type "bytearray", d, .bytearray b 0, sl⟩) (hk2 : k ≤ 2 ^ 20) (h0 : 0 ≤ k) (hx : b[k.toNat]? = some x) (h : Q (.int x.toNat s.toks) { s with toks := s.toks + 1 }) :
    wpAny (model prog w) A (getItem (.ref a) (.int k t)) Q E s := by
  have hT : s.TypeIs (.ref a) "bytearray" := ⟨_, ho, rfl⟩
  have hk : k.toNat < b.size := (Array.getElem?_eq_some_iff.mp hx).1
  refine wpAny_getItem_slot hT (by decide) slot_ba_getitem (wpAny_call_entry slot_ba_getitem hT entry_ba_getitem ?_ (args_ba_getitem _ _))
  show wpAny _ _ (Builtin.Bytes.subscript? (.int k t) >>= _) _ _ s
  refine wpAny_bind (wpAny_subscript_int h0 (by omega) ?_)
  refine wpAny_bind (wpAny_payload ho ?_)
  have e : (seqIndex? k b.size).bind (b[·]?) = some x := by
    unfold seqIndex?
    rw [if_neg (show ¬ k < 0 by omega)]
    rw [if_pos (by simp; omega)]
    exact hx
  rw [e]
  dsimp only
  exact wpAny_bind (wpAny_mkInt (wpAny_pure ⟨_, rfl, h⟩))

theorem sliced_eq (b : Array UInt8) (l u : Nat) : Builtin.Bytes.sliced b l u 1 = (cut b.toList l u).toArray := by
  unfold Builtin.Bytes.sliced
  rw [sliceRange_one, pick_run]; rfl

noncomputable def partOf : V → Option (Option Int)
  | .none => some none
  | .int i => some (some i)
  | _ => none
theorem part_of_lo {n l : Nat} {v : V} (h : clampLo n v = some l) : ∃ p, partOf v = some p := by
  unfold clampLo at h; split at h <;> first | exact ⟨_, rfl⟩ | cases h
theorem part_of_hi {n l : Nat} {v : V} (h : clampHi n v = some l) : ∃ p, partOf v = some p := by
  unfold clampHi at h; split at h <;> first | exact ⟨_, rfl⟩ | cases h
theorem isPart_of {hp : Hp} {h : Heap} {v : V} {val : Value} {p : Option Int} (r : VRel hp h v val) (e : partOf v = some p) : IsPart val p := by
  unfold partOf at e
  split at e
  · cases e; cases r; exact .none
  · cases e; obtain ⟨t, rfl⟩ := r; exact .int _ t
  · cases e
theorem clip_nat {n : Nat} {i : Int} (h : 0 ≤ i) : max 0 (min (if i < 0 then i + (n : Int) else i) (n : Int)) = ((min i.toNat n : Nat) : Int) := by
  rw [if_neg (by omega)]; omega
theorem bounds_clamp {n l u : Nat} {a b : V} {p q : Option Int} (h1 : clampLo n a = some l) (h2 : clampHi n b = some u) (e1 : partOf a = some p) (e2 : partOf b = some q) : sliceBounds p q none n = ((l : Int), (u : Int), 1) := by
  have A : (match p with | none => (0 : Int) | some i => max 0 (min (if i < 0 then i + (n : Int) else i) (n : Int))) = (l : Int) := by
    cases a <;> simp only [clampLo, partOf, Option.some.injEq, reduceCtorEq] at h1 e1
    · subst e1 h1; rfl
    · subst e1
      split at h1
      · rename_i h; cases h1; exact clip_nat h
      · cases h1
  have B : (match q with | none => (n : Int) | some i => max 0 (min (if i < 0 then i + (n : Int) else i) (n : Int))) = (u : Int) := by
    cases b <;> simp only [clampHi, partOf, Option.some.injEq, reduceCtorEq] at h2 e2
    · subst e2 h2; rfl
    · subst e2
      split at h2
      · rename_i h; cases h2; exact clip_nat h
      · cases h2
  unfold sliceBounds
  simp only [Option.getD_none, show (1 : Int) > 0 by decide, if_true]
  rw [← A, ← B]
  cases p <;> cases q <;> rfl
theorem cut_len {α : Type} (xs : List α) (l u : Nat) : (cut xs l u).length ≤ xs.length := by unfold cut; simp; omega

theorem getItem_ba_slice {a i : Addr} {d : Option Addr} {sl : Array (Option Value)} {b : Array UInt8} {vl vu : Value} {p q : Option Int} {l u : Nat} {Q : Value → Shared → Prop}
    (ho : s.heap.get? a = some ⟨.type "bytearray", d, .bytearray b 0, sl⟩) (hb : b.size ≤ 2 ^ 20) (hs : s.heap.IsSliceOf i vl vu .none) (pl : IsPart vl p) (pu : IsPart vu q) (hc : sliceBounds p q none b.size = ((l : Int), (u : Int), 1))
    (h : Q (.ref s.heap.objs.size) { s with heap := s.heap.push { cls := .type "bytearray", data := .bytearray (cut b.toList l u).toArray } }) :
    wpAny (model prog w) A (getItem (.ref a) (.ref i)) Q E s := by
  have hT : s.TypeIs (.ref a) "bytearray" := ⟨_, ho, rfl⟩
  have hTs : s.TypeIs (.ref i) "slice" := by obtain ⟨os, hos, hcs, hds⟩ := hs; exact ⟨os, hos, hcs⟩
  refine wpAny_getItem_slot hT (by decide) slot_ba_getitem (wpAny_call_entry slot_ba_getitem hT entry_ba_getitem ?_ (args_ba_getitem _ _))
  show wpAny _ _ (Builtin.Bytes.subscript? (.ref i) >>= _) _ _ s
  refine wpAny_bind (wpAny_subscript_slice hs ?_)
  dsimp only
  refine wpAny_bind (wpAny_typeOf hTs ?_)
  rw [if_neg (by decide)]
  refine wpAny_bind (wpAny_baParts hs pl pu ?_)
  dsimp only
  refine wpAny_bind (wpAny_payload ho ?_)
  refine wpAny_bind (wpAny_of_eq (sliceIndices_raw p q none b.size (by simp)) ?_)
  rw [hc]
  dsimp only
  rw [sliced_eq]
  refine wpAny_bind (wpAny_newObj_type (wpAny_pure ⟨_, rfl, h⟩) ?_)
  show (cut b.toList l u).toArray.size ≤ sizeLine
  have := cut_len b.toList l u
  rw [List.size_toArray, sizeLine_eq]
  simp at this; omega

theorem lookup_ba_buffer : typeLookup (.type "bytearray") "__buffer__" = pure (some (.builtin "bytearray.__buffer__")) := by rw [typeLookup_type, builtinLookup_eq_fast]; kernel_rfl
theorem lookup_by_buffer : typeLookup (.type "bytes") "__buffer__" = pure (some (.builtin "bytes.__buffer__")) := by rw [typeLookup_type, builtinLookup_eq_fast]; kernel_rfl
theorem lookup_by_release : typeLookup (.type "bytes") "__release_buffer__" = pure none := by rw [typeLookup_type, builtinLookup_eq_fast]; kernel_rfl
theorem lookup_by_index : typeLookup (.type "bytes") "__index__" = pure none := by rw [typeLookup_type, builtinLookup_eq_fast]; kernel_rfl
theorem lookup_by_int : typeLookup (.type "bytes") "__int__" = pure none := by rw [typeLookup_type, builtinLookup_eq_fast]; kernel_rfl
theorem lookup_by_float : typeLookup (.type "bytes") "__float__" = pure none := by rw [typeLookup_type, builtinLookup_eq_fast]; kernel_rfl
theorem sub_by : isSubtype (.type "bytes") (.type "bytes") = pure true := by rw [isSubtype_type]; kernel_rfl
theorem sub_by_ba : isSubtype (.type "bytes") (.type "bytearray") = pure false := by rw [isSubtype_type]; kernel_rfl
theorem sub_by_cx : isSubtype (.type "bytes") (.type "complex") = pure false := by rw [isSubtype_type]; kernel_rfl
theorem typeIs_by (x : Array UInt8) (t : Tok) : s.TypeIs (.bytes x t) "bytes" := rfl

theorem drop_release : "bytearray.__release_buffer__".dropRight ("__release_buffer__".length + 1) = "bytearray" := by decide +kernel
theorem drop_ba_buffer : "bytearray.__buffer__".dropRight ("__buffer__".length + 1) = "bytearray" := by decide +kernel
theorem drop_by_buffer : "bytes.__buffer__".dropRight ("__buffer__".length + 1) = "bytes" := by decide +kernel

theorem buffer_ba {id : String} {full : Bool} {a : Addr} {d : Option Addr} {sl : Array (Option Value)} {b : Array UInt8} {Q : Option (Array UInt8) → Shared → Prop}
    (ho : s.heap.get? a = some ⟨.type "bytearray", d, .bytearray b 0, sl⟩) (h : Q (some b) s) : wpAny M A (Builtin.Bytes.buffer? id (.ref a) full) Q E s := by
  have hT : s.TypeIs (.ref a) "bytearray" := ⟨_, ho, rfl⟩
  unfold Builtin.Bytes.buffer?
  refine wpAny_bind (wpAny_specialOf hT lookup_ba_buffer ?_)
  dsimp only
  unfold Builtin.Bytes.slotIsOwn
  refine wpAny_bind (wpAny_bind (wpAny_specialOf hT lookup_ba_buffer ?_))
  dsimp only
  rw [if_neg (by decide +kernel), drop_ba_buffer]
  refine wpAny_isInstance hT sub_ba ?_
  rw [if_neg (show ¬ ((!true) = true) from Bool.false_ne_true)]
  refine wpAny_bind (wpAny_specialOf hT lookup_ba_buffer ?_)
  try dsimp only
  unfold Builtin.Bytes.ownRelease Builtin.Bytes.slotIsOwn
  refine wpAny_bind (wpAny_bind (wpAny_bind (wpAny_specialOf hT lookup_ba_release ?_)))
  dsimp only
  rw [if_neg (by decide +kernel), drop_release]
  refine wpAny_isInstance hT sub_ba (wpAny_pure ?_)
  rw [if_neg (show ¬ ((!true) = true) from Bool.false_ne_true)]
  exact wpAny_bind (wpAny_payload ho (wpAny_pure h))

theorem buffer_by {id : String} {full : Bool} {x : Array UInt8} {t : Tok} {Q : Option (Array UInt8) → Shared → Prop} (h : Q (some x) s) : wpAny M A (Builtin.Bytes.buffer? id (.bytes x t) full) Q E s := by
  have hT : s.TypeIs (.bytes x t) "bytes" := typeIs_by x t
  unfold Builtin.Bytes.buffer?
  refine wpAny_bind (wpAny_specialOf hT lookup_by_buffer ?_)
  dsimp only
  unfold Builtin.Bytes.slotIsOwn
  refine wpAny_bind (wpAny_bind (wpAny_specialOf hT lookup_by_buffer ?_))
  dsimp only
  rw [if_neg (by decide +kernel), drop_by_buffer]
  refine wpAny_isInstance hT sub_by ?_
  rw [if_neg (show ¬ ((!true) = true) from Bool.false_ne_true)]
  refine wpAny_bind (wpAny_specialOf hT lookup_by_buffer ?_)
  try dsimp only
  unfold Builtin.Bytes.ownRelease Builtin.Bytes.slotIsOwn
  refine wpAny_bind (wpAny_bind (wpAny_bind (wpAny_specialOf hT lookup_by_release ?_)))
  dsimp only
  refine wpAny_pure (wpAny_pure ?_)
  rw [if_neg (show ¬ ((!true) = true) from Bool.false_ne_true)]
  exact wpAny_bind (wpAny_pure (wpAny_pure h))

end
end Mine
namespace Mine
open PySem PySem.W PySem.Calls PyProof.Rows

section
variable {prog : Program} {w : World} {A : Around} {E : Value → Shared → Prop} {s : Shared}

theorem wpC_call_entry {T : String} {name : Str} {id : String} {B : Builtin} {self : Value} {rest : List Value} {Q : Value → Shared → Prop} (hd : decId id = false) (slot : Slot T name id) (hT : s.TypeIs self T)
    (entry : entryFor table id = some B) (ha : argsOk id ⟨self :: rest, []⟩) (h : wpC (model prog w) A.in1 (B ⟨self :: rest, []⟩) (fun fin s' => ∃ v, fin = .done (.ret v) ∧ Q v s') E s) :
    wpC (model prog w) A (call (.builtin id) (self :: rest)) Q E s :=
  wpC_call (codeC_call_builtin hd slot.plain entry (slot.check _ _ _ _ _ _ _ _ hT ha (wpC_mono h (fun fin s' hf => by obtain ⟨v, rfl, q⟩ := hf; exact q) fun _ _ x => x)))

theorem wpC_callSpecial?_slot {T : String} {name : Str} {id : String} {self : Value} {args : List Value} {Q : Option Value → Shared → Prop} (hT : s.TypeIs self T) (h : Slot T name id)
    (hc : wpC (model prog w) A (call (.builtin id) (self :: args)) (fun v => Q (some v)) E s) : wpC (model prog w) A (callSpecial? self name args) Q E s := by
  simp only [callSpecial?]
  refine wpC_bind (wpC_of (wpAny_specialOf hT h.lookup ?_))
  simp only [h.bind]
  exact wpC_holding (wpC_bind (wpC_pure (wpC_bind (wpC_mono hc (fun v s' h' => wpC_pure h') fun _ _ h' => h'))))

theorem ba_init_bytes {a : Addr} {d : Option Addr} {sl : Array (Option Value)} {x : Array UInt8} {t : Tok} {Q : Fin → Shared → Prop} (hg : A.guards = some [])
    (ho : s.heap.get? a = some ⟨.type "bytearray", d, .bytearray #[] 0, sl⟩) (hn2 : x.size ≤ 2 ^ 20)
    (h : ∀ h', h'.get? a = some ⟨.type "bytearray", d, .bytearray x 0, sl⟩ → Heap.SameBut a s.heap h' → Q (.done (.ret .none)) { s with heap := h' }) :
    wpC (model prog w) A (Builtin.«bytearray.__init__» ⟨[.ref a, .bytes x t], []⟩) Q E s := by
  have hT : s.TypeIs (.ref a) "bytearray" := ⟨_, ho, rfl⟩
  unfold Builtin.«bytearray.__init__»
  dsimp only
  refine wpC_bind (wpC_of ?_)
  unfold Builtin.Bytes.ownRelease Builtin.Bytes.slotIsOwn
  refine wpAny_bind (wpAny_bind (wpAny_specialOf hT lookup_ba_release ?_))
  dsimp only
  rw [if_neg (by decide +kernel), drop_release]
  refine wpAny_isInstance hT sub_ba (wpAny_pure ?_)
  rw [if_neg (show ¬ ((!true) = true) from Bool.false_ne_true)]
  refine wpC_bind (wpC_of (wpAny_of_eq (a := [some (Value.bytes x t), none, none]) (by kernel_rfl) ?_))
  dsimp only
  refine wpC_bind (wpC_of (wpAny_of_eq (a := ()) (by kernel_rfl) ?_))
  refine wpC_bind (wpC_of (wpAny_of_eq (a := ()) (by kernel_rfl) ?_))
  refine wpC_bind ?_
  show wpC _ _ (Builtin.Bytes.exported (Value.ref a) >>= _) _ _ _
  refine wpC_bind (wpC_exported hg ?_)
  show wpC _ _ (Builtin.Bytes.exportsOf (.ref a) >>= fun k => pure (decide (k > 0))) _ _ _
  refine wpC_bind (wpC_of ?_)
  unfold Builtin.Bytes.exportsOf
  refine wpAny_bind (wpAny_load ho (wpAny_pure (wpC_pure ?_)))
  rw [if_neg (by decide)]
  refine wpC_of (wpAny_bind (wpAny_write ho (by decide) fun h1 g1 sb1 => ?_))
  refine wpAny_bind (wpAny_pure ?_)
  refine wpAny_bind (wpAny_pure ?_)
  refine wpAny_bind (wpAny_specialOf (typeIs_by x t) lookup_by_index ?_)
  rw [if_neg (show ¬ (none : Option Value).isSome = true from Bool.false_ne_true)]
  refine wpAny_bind (buffer_by ?_)
  dsimp only
  refine wpAny_bind (wpAny_rule ?_)
  exact wpAny_bind (wpAny_write g1 hn2 fun h2 g2 sb2 => wpAny_pure (h _ g2 ⟨sb2.1.trans sb1.1, fun b hb => (sb2.2 b hb).trans (sb1.2 b hb)⟩))

theorem call_bytearray_b {x : Array UInt8} {t : Tok} {Q : Value → Shared → Prop} (hg : A.guards = some []) (hn2 : x.size ≤ 2 ^ 20)
    (h : ∀ h', h'.get? s.heap.objs.size = some ⟨.type "bytearray", none, .bytearray x 0, #[]⟩ → (∀ b o, s.heap.get? b = some o → h'.get? b = some o) → s.heap.objs.size < h'.objs.size → Q (.ref s.heap.objs.size) { s with heap := h' }) :
    wpC (model prog w) A (call (.type "bytearray") [.bytes x t]) Q E s := by
  refine callType_codesC called_ba (by decide +kernel) (typeCall_ba _) entry_ba_init
    (code_ba_new (s := s) _ (Q₁ := fun v s' => v = .ref s.heap.objs.size ∧ s' = { s with heap := s.heap.push { cls := .type "bytearray", data := .bytearray #[] } }) ⟨rfl, rfl⟩) fun obj s₁ hq => ?_
  obtain ⟨rfl, rfl⟩ := hq
  have g0 : (s.heap.push { cls := .type "bytearray", data := .bytearray #[] }).get? s.heap.objs.size = some ⟨.type "bytearray", none, .bytearray #[] 0, #[]⟩ := Heap.get?_push_size _ rfl
  refine ⟨⟨_, g0, rfl⟩, args_ba_init _ _, ba_init_bytes (s := { s with heap := s.heap.push { cls := .type "bytearray", data := .bytearray #[] } }) hg g0 hn2 fun h' g' sb => ⟨rfl, h h' g' (fun b o hb => ?_) ?_⟩⟩
  · rw [sb.2 b (Nat.ne_of_lt (Heap.lt_size hb))]; exact Heap.get?_push_of_some _ hb
  · rw [sb.1, Heap.size_push]; omega

theorem setItem_ba_slice {a i : Addr} {d : Option Addr} {sl : Array (Option Value)} {b x : Array UInt8} {vl vu v : Value} {p q : Option Int} {l u : Nat} {Q : Unit → Shared → Prop} (hg : A.guards = some [])
    (ho : s.heap.get? a = some ⟨.type "bytearray", d, .bytearray b 0, sl⟩) (hb : b.size ≤ 2 ^ 20) (hs : s.heap.IsSliceOf i vl vu .none) (pl : IsPart vl p) (pu : IsPart vu q) (hc : sliceBounds p q none b.size = ((l : Int), (u : Int), 1))
    (hlu : l ≤ u) (hu : u ≤ b.size) (hx : x.size = u - l)
    (hv : (∃ t, v = .bytes x t) ∨ ∃ c d' sl', v = .ref c ∧ c ≠ a ∧ s.heap.get? c = some ⟨.type "bytearray", d', .bytearray x 0, sl'⟩)
    (h : ∀ h₁ h', (∀ b o, s.heap.get? b = some o → h₁.get? b = some o) → h'.get? a = some ⟨.type "bytearray", d, .bytearray ((b.toList.take l) ++ x.toList ++ (b.toList.drop u)).toArray 0, sl⟩ → Heap.SameBut a h₁ h' → Q () { s with heap := h' }) :
    wpC (model prog w) A (setItem (.ref a) (.ref i) v) Q E s := by
  have hT : s.TypeIs (.ref a) "bytearray" := ⟨_, ho, rfl⟩
  have hTs : s.TypeIs (.ref i) "slice" := by obtain ⟨os, hos, hcs, hds⟩ := hs; exact ⟨os, hos, hcs⟩
  unfold setItem
  refine wpC_holding ?_
  refine wpC_bind (wpC_of (wpAny_sequenceKey hT (by decide) ?_))
  refine wpC_bind (wpC_callSpecial?_slot (name := Str.ofString "__setitem__") hT slot_ba_setitem (wpC_call_entry (by decide +kernel) slot_ba_setitem hT entry_ba_setitem (args_ba_setitem _ _ _) ?_))
  -- the last steps: the octets are there
  have last : ∀ (A' : Around) (h₁ : Heap) (src : Value), A'.guards = some [] → (∀ b o, s.heap.get? b = some o → h₁.get? b = some o) → (∀ (Q' : Array UInt8 → Shared → Prop), Q' x { s with heap := h₁ } → wpC (model prog w) A' (Builtin.Bytes.payload src) Q' E { s with heap := h₁ }) →
      wpC (model prog w) A' (do
        let new ← Builtin.Bytes.payload src
        let (start, stop, step) ← sliceIndices (rawPart p) (rawPart q) Value.none (← Builtin.Bytes.payload (.ref a)).size
        if step == 1 then
          rule "bytearray.__setitem__.slice"
          if (new.size : Int) != max start stop - start then Builtin.Bytes.checkResize (.ref a)
          Builtin.Bytes.write (.ref a) fun b => b.extract 0 start.toNat ++ new ++ b.extract (max start stop).toNat b.size
          return ← ret .none
        if new.isEmpty then
          rule "bytearray.__setitem__.extended-slice-deleted"
          Builtin.Bytes.checkResize (.ref a)
          (Builtin.Bytes.write (.ref a) fun b => (b.toList.zipIdx.filterMap fun (x, k) => if Builtin.Bytes.selects start stop step k then none else some x).toArray)
          return ← ret .none
        let places := sliceRange start stop step
        if new.size != places.length then
          rule "bytearray.__setitem__.extended-slice-size"
          raiseError "ValueError" s!"attempt to assign bytes of size {new.size} to extended slice of size {places.length}"
        rule "bytearray.__setitem__.extended-slice"
        Builtin.Bytes.write (.ref a) fun b => (places.zip new.toList).foldl (fun b (k, x) => b.setIfInBounds k x) b
        ret .none) (fun fin s' => ∃ v, fin = PySem.Fin.done (.ret v) ∧ wpC (model prog w) A (match some v with | some _ => pure () | none => pure ()) Q E s') E { s with heap := h₁ } := by
    intro A' h₁ src hg' keep hp
    have ho₁ := keep _ _ ho
    refine wpC_bind (hp _ ?_)
    refine wpC_bind (wpC_of (wpAny_payload ho₁ ?_))
    refine wpC_bind (wpC_of (wpAny_of_eq (sliceIndices_raw p q none b.size (by simp)) ?_))
    rw [hc]
    dsimp only
    rw [if_pos (by decide)]
    refine wpC_bind (wpC_of (wpAny_rule ?_))
    rw [if_neg (by simp; omega)]
    refine wpC_bind (wpC_of (wpAny_write ho₁ ?_ fun h' g' sb => ?_))
    · simp; omega
    · refine wpC_of (wpAny_pure ⟨_, rfl, wpC_pure (h h₁ h' keep ?_ sb)⟩)
      rw [g']
      have e : b.extract 0 ((l : Int)).toNat ++ x ++ b.extract (max (l : Int) (u : Int)).toNat b.size = (b.toList.take l ++ x.toList ++ b.toList.drop u).toArray := by
        have e1 : ((l : Int)).toNat = l := by omega
        have e2 : (max (l : Int) (u : Int)).toNat = u := by omega
        rw [e1, e2]
        apply Array.toList_inj.mp
        simp only [Array.toList_append, Array.toList_extract]
        simp [List.extract]
        exact List.take_of_length_le (by simp)
      rw [e]
  show wpC _ _ (Builtin.Bytes.subscript? (.ref i) >>= _) _ _ s
  refine wpC_bind (wpC_of (wpAny_subscript_slice hs ?_))
  dsimp only
  refine wpC_bind (wpC_of (wpAny_typeOf hTs ?_))
  rw [if_neg (by decide)]
  refine wpC_bind (wpC_of (wpAny_baParts hs pl pu ?_))
  rcases hv with ⟨t, rfl⟩ | ⟨c, d', sl', rfl, hca, hoc⟩
  · rw [show Builtin.Bytes.sameRef (.ref a) (.bytes x t) = false from rfl, if_neg Bool.false_ne_true]
    refine wpC_bind (wpC_of (wpAny_isInstance (typeIs_by x t) sub_by_ba ?_))
    rw [if_pos (show (!false) = true from rfl)]
    have none3 : ∀ (nm : Str) (Q' : Bool → Shared → Prop), typeLookup (.type "bytes") nm = pure none → Q' false s → wpAny (model prog w) A.in1 (do return (← specialOf (.bytes x t) nm).isSome) Q' E s := fun nm Q' hl q => wpAny_bind (wpAny_specialOf (typeIs_by x t) hl (wpAny_pure q))
    refine wpC_bind (wpC_of ?_)
    refine wpAny_bind (none3 _ _ lookup_by_index ?_)
    refine wpAny_bind (none3 _ _ lookup_by_int ?_)
    refine wpAny_bind (none3 _ _ lookup_by_float ?_)
    refine wpAny_isInstance (typeIs_by x t) sub_by_cx ?_
    refine wpC_bind (wpC_of (wpAny_bind (wpAny_pure (wpAny_pure ?_))))
    rw [if_neg (by decide)]
    refine wpC_bind (wpC_of (wpAny_rule ?_))
    refine wpC_bind (call_bytearray_b hg (by omega) fun h₁ g₁ keep lt => ?_)
    refine wpC_bind (wpC_holding (wpC_of (wpAny_baParts (s := { s with heap := h₁ }) (by obtain ⟨os, hos, hcs, hds⟩ := hs; exact ⟨os, keep _ _ hos, hcs, hds⟩) pl pu ?_)))
    exact last A.in1 h₁ (.ref s.heap.objs.size) hg keep (fun Q' q => wpC_of (wpAny_payload g₁ q))
  · rw [show Builtin.Bytes.sameRef (.ref a) (.ref c) = false from by simp [Builtin.Bytes.sameRef]; exact fun e => hca e.symm, if_neg Bool.false_ne_true]
    refine wpC_bind (wpC_of (wpAny_isInstance (v := .ref c) (T := "bytearray") ⟨_, hoc, rfl⟩ sub_ba ?_))
    rw [if_neg (show ¬ ((!true) = true) from Bool.false_ne_true)]
    exact last A.in1 s.heap (.ref c) hg (fun _ _ e => e) (fun Q' q => wpC_of (wpAny_payload hoc q))

end
end Mine
namespace Mine
open PySem PySem.W PySem.Calls PyProof.Rows
open PySem.Builtin.Struct (parse structFormat)

/-- a struct's octets: one whole number, the lowest octet first -/
noncomputable def fmtC (w : Nat) (sg : Bool) : Char := match w, sg with
  | 1, false => 'B' | 2, false => 'H' | 4, false => 'I' | _, false => 'Q'
  | 1, true => 'b' | 2, true => 'h' | 4, true => 'i' | _, true => 'q'
noncomputable def isW (w : Nat) : Prop := w = 1 ∨ w = 2 ∨ w = 4 ∨ w = 8
noncomputable abbrev fmtOf (w : Nat) (sg : Bool) : Builtin.Struct.Format := ⟨false, false, [⟨fmtC w sg, 1, 0, w⟩], w, 1⟩
noncomputable def FmtOk (b : Array UInt8) (w : Nat) (sg : Bool) : Prop := parse b = pure (fmtOf w sg) ∧ isW w
theorem fmt_B : FmtOk #[60, 66] 1 false := ⟨by kernel_rfl, by unfold isW; omega⟩
theorem fmt_H : FmtOk #[60, 72] 2 false := ⟨by kernel_rfl, by unfold isW; omega⟩
theorem fmt_I : FmtOk #[60, 73] 4 false := ⟨by kernel_rfl, by unfold isW; omega⟩
theorem fmt_Q : FmtOk #[60, 81] 8 false := ⟨by kernel_rfl, by unfold isW; omega⟩
theorem fmt_b : FmtOk #[60, 98] 1 true := ⟨by kernel_rfl, by unfold isW; omega⟩
theorem fmt_h : FmtOk #[60, 104] 2 true := ⟨by kernel_rfl, by unfold isW; omega⟩
theorem fmt_i : FmtOk #[60, 105] 4 true := ⟨by kernel_rfl, by unfold isW; omega⟩
theorem fmt_q : FmtOk #[60, 113] 8 true := ⟨by kernel_rfl, by unfold isW; omega⟩

noncomputable def natAt (b : Array UInt8) (start w : Nat) : Nat := Builtin.Struct.natOf false (b.extract start (start + w))

theorem unpacked_int {id : String} {w : Nat} {sg : Bool} (hw : isW w) (b : Array UInt8) (start : Nat) :
    Builtin.Struct.unpacked id (fmtOf w sg) b start = (do
      let v ← mkInt (if sg && decide (natAt b start w ≥ 2 ^ (8 * w - 1)) then (natAt b start w : Int) - 2 ^ (8 * w) else natAt b start w)
      newTuple [v]) := by
  unfold Builtin.Struct.unpacked
  rcases hw with rfl | rfl | rfl | rfl <;> cases sg <;>
    (simp only [fmtOf, fmtC, List.forIn_cons, List.forIn_nil, pure_bind, bind_assoc, Std.Legacy.Range.forIn_eq_forIn_range', Std.Legacy.Range.size]
     simp [Builtin.Bytes.tooLong, sizeLine_eq, natAt])
section
variable {prog : Program} {w : World} {M : Model} {A : Around} {E : Value → Shared → Prop} {s : Shared}

theorem wpAny_packOne_tail {α : Type} {i : Int} {lo hi : Int} {e : Sem Unit} {k : Sem α} {Q : α → Shared → Prop} (h1 : lo ≤ i) (h2 : i ≤ hi) (h : wpAny M A k Q E s) :
    wpAny M A (if i < lo || i > hi then (do e; k) else k) Q E s := by
  rw [if_neg (by simp; omega)]; exact h

theorem packEach_int {id : String} {wd : Nat} {sg : Bool} {i : Int} {t : Tok} {put : Unit → Nat → Array UInt8 → Sem Unit} {src : Value → Nat → Nat → Sem Unit} {Q : Unit → Shared → Prop} (hw : isW wd) (hi : inR sg wd i)
    (h : wpAny M A (put () 0 (Builtin.Struct.intBytes false wd i)) Q E s) : wpAny M A (Builtin.Struct.packEach id (fmtOf wd sg) [.int i t] () put src) Q E s := by
  unfold Builtin.Struct.packEach
  unfold inR at hi
  rcases hw with rfl | rfl | rfl | rfl <;> cases sg <;> simp at hi <;>
    (simp only [fmtOf, fmtC, List.forIn_cons, List.forIn_nil, pure_bind, bind_assoc, Std.Legacy.Range.forIn_eq_forIn_range', Std.Legacy.Range.size]
     simp
     refine wpAny_bind ?_
     repeat lk
     rw [if_neg (by simp [Char.isLower]; omega)]
     exact wpAny_pure h)
end
end Mine
namespace Mine
open PySem PySem.W PySem.Calls PyProof.Rows
open PySem.Builtin.Struct (parse structFormat)

theorem over_list {α : Type} : ∀ (r : List α) (xs : List α) (p k : Nat), p + k + r.length ≤ xs.length →
    (r.zipIdx k).foldl (fun out (x : α × Nat) => out.set (p + x.2) x.1) xs = xs.take (p + k) ++ r ++ xs.drop (p + k + r.length)
  | [], xs, p, k, _ => by simp
  | x :: r, xs, p, k, h => by
    simp only [List.length_cons] at h
    rw [List.zipIdx_cons, List.foldl_cons, over_list r _ p (k + 1) (by simp; omega)]
    rw [show p + (k + 1) = (p + k) + 1 by omega]
    have e1 : (xs.set (p + k) x).take (p + k + 1) = xs.take (p + k) ++ [x] := by
      rw [List.take_add_one, List.take_set_of_le (by omega), List.getElem?_set_self (by omega)]; rfl
    have e2 : (xs.set (p + k) x).drop (p + k + 1 + r.length) = xs.drop (p + k + (r.length + 1)) := by
      rw [List.drop_set_of_lt (by omega)]; congr 1; omega
    rw [e1, e2]; simp
theorem over_fold {α : Type} : ∀ (l : List (α × Nat)) (p : Nat) (out : Array α), (l.foldl (fun out (x : α × Nat) => out.setIfInBounds (p + x.2) x.1) out).toList = l.foldl (fun out (x : α × Nat) => out.set (p + x.2) x.1) out.toList
  | [], _, _ => rfl
  | x :: r, p, out => by
    rw [List.foldl_cons, List.foldl_cons, over_fold r p]; simp
theorem over_eq (b : Array UInt8) (p : Nat) (raw : Array UInt8) (h : p + raw.size ≤ b.size) :
    raw.toList.zipIdx.foldl (fun out (x : UInt8 × Nat) => out.setIfInBounds (p + x.2) x.1) b = (b.toList.take p ++ raw.toList ++ b.toList.drop (p + raw.size)).toArray := by
  apply Array.toList_inj.mp
  rw [over_fold, over_list _ _ p 0 (by simpa using h)]
  simp

noncomputable def StructAt (h : Heap) (a : Addr) (w : Nat) (sg : Bool) : Prop := ∃ d sl b t vs, h.get? a = some ⟨.type "_struct.Struct", d, .fields vs, sl⟩ ∧ vs[0]? = some (.bytes b t) ∧ FmtOk b w sg

theorem slot_pack : Slot "_struct.Struct" "pack_into" "_struct.Struct.pack_into" :=
  Slot.of (T := "_struct.Struct") (name := "pack_into") (owner := "_struct.Struct") (n := "pack_into") (by rw [typeLookup_type, builtinLookup_eq_fast]; kernel_rfl) (by decide +kernel) (by decide +kernel) (by decide +kernel)
    (by first | exact .inl (by decide +kernel) | exact .inr (by decide +kernel)) (by rw [isSubtype_type]; kernel_rfl)
theorem slot_unpack : Slot "_struct.Struct" "unpack_from" "_struct.Struct.unpack_from" :=
  Slot.of (T := "_struct.Struct") (name := "unpack_from") (owner := "_struct.Struct") (n := "unpack_from") (by rw [typeLookup_type, builtinLookup_eq_fast]; kernel_rfl) (by decide +kernel) (by decide +kernel) (by decide +kernel)
    (by first | exact .inl (by decide +kernel) | exact .inr (by decide +kernel)) (by rw [isSubtype_type]; kernel_rfl)
theorem entry_pack : entryFor table "_struct.Struct.pack_into" = some Builtin.«_struct.Struct.pack_into» := entryFor_of_tree (by kernel_rfl)
theorem entry_held : entryFor table "_struct.pack_into.held" = some Builtin.«_struct.pack_into.held» := entryFor_of_tree (by kernel_rfl)
theorem entry_unpack : entryFor table "_struct.Struct.unpack_from" = some Builtin.«_struct.Struct.unpack_from» := entryFor_of_tree (by kernel_rfl)
theorem args_pack (a b c d : Value) : argsOk "_struct.Struct.pack_into" ⟨[a, b, c, d], []⟩ := by unfold argsOk; kernel_rfl
theorem args_unpack (a b c : Value) : argsOk "_struct.Struct.unpack_from" ⟨[a, b, c], []⟩ := by unfold argsOk; kernel_rfl

section
variable {prog : Program} {w : World} {M : Model} {A : Around} {E : Value → Shared → Prop} {s : Shared}

theorem wpAny_structFormat {a : Addr} {wd : Nat} {sg : Bool} {Q : Array UInt8 × Builtin.Struct.Format → Shared → Prop} (hs : StructAt s.heap a wd sg) (h : ∀ b, Q (b, fmtOf wd sg) s) : wpAny M A (structFormat (.ref a)) Q E s := by
  obtain ⟨d, sl, b, t, vs, ho, hv, hf, hw⟩ := hs
  unfold structFormat
  refine wpAny_bind (wpAny_field ho rfl hv ?_)
  rw [if_neg (show ¬ ((Value.bytes b t == Value.none) = true) from Bool.false_ne_true)]
  refine wpAny_bind (wpAny_bind (wpAny_pure (wpAny_pure ?_)))
  rw [hf]
  exact wpAny_bind (wpAny_pure (wpAny_pure (h b)))

theorem wpAny_placeIn {n1 n2 n3 : String} {wd len : Nat} {sg : Bool} {off : Int} {Q : Nat → Shared → Prop} (h0 : 0 ≤ off) (h1 : off.toNat + wd ≤ len) (h : Q off.toNat s) : wpAny M A (Builtin.Struct.placeIn n1 n2 n3 (fmtOf wd sg) len off) Q E s := by
  unfold Builtin.Struct.placeIn
  have e : ¬ off < 0 := by omega
  simp only [e, if_false]
  rw [if_neg (show ¬ ((len : Int) - off < (wd : Int)) by omega)]
  exact wpAny_pure h

theorem intBytes_size (wd : Nat) (i : Int) : (Builtin.Struct.intBytes false wd i).size = wd := by
  simp [Builtin.Struct.intBytes, Builtin.Memoryview.toLittleEndian]
theorem intBytes_list (wd : Nat) (i : Int) : (Builtin.Struct.intBytes false wd i).toList = leE wd i := by
  simp [Builtin.Struct.intBytes, Builtin.Memoryview.toLittleEndian, leE]

theorem take_over {α : Type} (b x : List α) (p n : Nat) (hx : x.length = n) (hb : p + n ≤ b.length) (y : List α) (hy : y.length = n) :
    (b.take p ++ x ++ b.drop (p + n)).take p ++ y ++ (b.take p ++ x ++ b.drop (p + n)).drop (p + n) = b.take p ++ y ++ b.drop (p + n) := by
  have e : (b.take p).length = p := by simp; omega
  have e1 : (b.take p ++ x ++ b.drop (p + n)).take p = b.take p := by
    rw [List.append_assoc, List.take_append_of_le_length (by omega), List.take_of_length_le (by omega)]
  have e2 : (b.take p ++ x ++ b.drop (p + n)).drop (p + n) = b.drop (p + n) := by
    rw [List.drop_append_of_le_length (by simp; omega), List.drop_of_length_le (by simp; omega), List.nil_append]
  rw [e1, e2]

theorem packHeld_ok {id : String} {c : Addr} {d : Option Addr} {sl : Array (Option Value)} {b : Array UInt8} {wd : Nat} {sg : Bool} {off i : Int} {t u : Tok} {Q : Fin → Shared → Prop} (hw : isW wd) (hi : inR sg wd i)
    (ho : s.heap.get? c = some ⟨.type "bytearray", d, .bytearray b 0, sl⟩) (hb : b.size ≤ 2 ^ 20) (h0 : 0 ≤ off) (h1 : off.toNat + wd ≤ b.size)
    (h : ∀ h', h'.get? c = some ⟨.type "bytearray", d, .bytearray (b.toList.take off.toNat ++ leE wd i ++ b.toList.drop (off.toNat + wd)).toArray 0, sl⟩ → Heap.SameBut c s.heap h' → Q (.done (.ret .none)) { s with heap := h' }) :
    wpAny M A (Builtin.Struct.packHeld id (fmtOf wd sg) (.ref c) 0 b.size (.int off t) [.int i u]) Q E s := by
  unfold Builtin.Struct.packHeld
  refine wpAny_bind (wpAny_of_eq (a := off) rfl ?_)
  rw [if_neg (by simp [Builtin.Bytes.fitsIndex]; omega)]
  refine wpAny_bind (wpAny_placeIn h0 h1 ?_)
  rw [Nat.zero_add]
  have z1 := over_eq b off.toNat (Array.replicate wd 0) (by simpa using h1)
  refine wpAny_bind (wpAny_write ho ?_ fun h₁ g₁ sb₁ => ?_)
  · refine Nat.le_trans (Nat.le_of_eq (congrArg Array.size z1)) ?_
    simp; omega
  have g₁' := g₁.trans (congrArg (fun z => some (⟨.type "bytearray", d, .bytearray z 0, sl⟩ : Obj)) z1)
  refine wpAny_bind (packEach_int hw hi ?_)
  rw [Nat.add_zero]
  have sz : (b.toList.take off.toNat ++ (Array.replicate wd (0 : UInt8)).toList ++ b.toList.drop (off.toNat + (Array.replicate wd (0 : UInt8)).size)).toArray.size = b.size := by simp; omega
  have z2 := over_eq (b.toList.take off.toNat ++ (Array.replicate wd (0 : UInt8)).toList ++ b.toList.drop (off.toNat + (Array.replicate wd (0 : UInt8)).size)).toArray off.toNat (Builtin.Struct.intBytes false wd i) (by rw [sz, intBytes_size]; exact h1)
  have z3 : (List.take off.toNat (b.toList.take off.toNat ++ (Array.replicate wd (0 : UInt8)).toList ++ b.toList.drop (off.toNat + (Array.replicate wd (0 : UInt8)).size)).toArray.toList ++ (Builtin.Struct.intBytes false wd i).toList ++
      List.drop (off.toNat + (Builtin.Struct.intBytes false wd i).size) (b.toList.take off.toNat ++ (Array.replicate wd (0 : UInt8)).toList ++ b.toList.drop (off.toNat + (Array.replicate wd (0 : UInt8)).size)).toArray.toList).toArray =
      (b.toList.take off.toNat ++ leE wd i ++ b.toList.drop (off.toNat + wd)).toArray := by
    rw [intBytes_size, intBytes_list, List.toList_toArray, Array.size_replicate]
    rw [take_over _ _ _ _ (by simp) (by simpa using h1) _ (by simp [leE])]
  refine wpAny_write g₁' ?_ fun h₂ g₂ sb₂ => ?_
  · refine Nat.le_trans (Nat.le_of_eq (congrArg Array.size (z2.trans z3))) ?_
    simp [leE]; omega
  · exact wpAny_pure (h h₂ (g₂.trans (congrArg (fun z => some (⟨.type "bytearray", d, .bytearray z 0, sl⟩ : Obj)) (z2.trans z3))) ⟨sb₂.1.trans sb₁.1, fun b hb => (sb₂.2 b hb).trans (sb₁.2 b hb)⟩)


theorem pack_into_ok {st c : Addr} {d : Option Addr} {sl : Array (Option Value)} {b : Array UInt8} {wd : Nat} {sg : Bool} {off i : Int} {t u : Tok} {Q : Value → Shared → Prop} (hs : StructAt s.heap st wd sg) (hi : inR sg wd i)
    (ho : s.heap.get? c = some ⟨.type "bytearray", d, .bytearray b 0, sl⟩) (hb : b.size ≤ 2 ^ 20) (h0 : 0 ≤ off) (h1 : off.toNat + wd ≤ b.size)
    (h : ∀ h', h'.get? c = some ⟨.type "bytearray", d, .bytearray (b.toList.take off.toNat ++ leE wd i ++ b.toList.drop (off.toNat + wd)).toArray 0, sl⟩ → Heap.SameBut c s.heap h' → Q .none { s with heap := h' }) :
    wpAny (model prog w) A (call (.builtin "_struct.Struct.pack_into") [.ref st, .ref c, .int off t, .int i u]) Q E s := by
  have hT : s.TypeIs (.ref c) "bytearray" := ⟨_, ho, rfl⟩
  have hS : s.TypeIs (.ref st) "_struct.Struct" := by obtain ⟨d, sl, b, t, vs, ho, hv, hf, hw⟩ := hs; exact ⟨_, ho, rfl⟩
  obtain ⟨sd, ssl, sb, stt, svs, sho, shv, shf, shw⟩ := id hs
  refine wpAny_call (codeAny_call_builtin slot_pack.plain entry_pack (slot_pack.check _ _ _ _ _ _ _ _ hS (args_pack _ _ _ _) ?_))
  unfold Builtin.«_struct.Struct.pack_into»
  refine wpAny_bind (wpAny_of_eq (a := ()) rfl ?_)
  refine wpAny_bind (wpAny_structFormat hs fun fb => ?_)
  dsimp only
  refine wpAny_bind (wpAny_field sho rfl shv ?_)
  unfold Builtin.Struct.packInto
  rw [if_neg (show ¬ (([Value.ref c, Value.int off t, Value.int i u].length != (fmtOf wd sg).items + 2) = true) by show ¬ ((3 != 1 + 2) = true); decide)]
  try dsimp only
  refine wpAny_bind (wpAny_specialOf hT lookup_ba_buffer ?_)
  try dsimp only
  refine wpAny_bind (wpAny_payload ho ?_)
  refine wpAny_bind (wpAny_pure ?_)
  refine wpAny_pure ⟨Code.quiet_builtin _ (by decide +kernel), codeAny_builtin entry_held ?_⟩
  show wpAny _ _ (Builtin.Bytes.payload (.bytes sb stt) >>= _) _ _ s
  refine wpAny_bind (wpAny_bind (wpAny_pure (wpAny_pure ?_)))
  rw [shf]
  refine wpAny_bind (wpAny_pure ?_)
  exact packHeld_ok shw hi ho hb h0 h1 h

theorem unpack_from_ok {st : Addr} {v : Value} {b : Array UInt8} {wd : Nat} {sg : Bool} {off : Int} {t : Tok} {Q : Value → Shared → Prop} (hs : StructAt s.heap st wd sg)
    (hv : (∃ u, v = .bytes b u) ∨ ∃ c d sl, v = .ref c ∧ s.heap.get? c = some ⟨.type "bytearray", d, .bytearray b 0, sl⟩) (hb : b.size ≤ 2 ^ 20) (h0 : 0 ≤ off) (h1 : off.toNat + wd ≤ b.size)
    (h : Q (.ref s.heap.objs.size) { s with heap := s.heap.push { cls := .type "tuple", data := .seq #[.int (leB sg wd (cut b.toList off.toNat (off.toNat + wd))) s.toks] }, toks := s.toks + 1 }) :
    wpAny (model prog w) A (call (.builtin "_struct.Struct.unpack_from") [.ref st, v, .int off t]) Q E s := by
  have hS : s.TypeIs (.ref st) "_struct.Struct" := by obtain ⟨d, sl, b, t, vs, ho, hv, hf, hw⟩ := hs; exact ⟨_, ho, rfl⟩
  obtain ⟨sd, ssl, sb, stt, svs, sho, shv, shf, shw⟩ := id hs
  have buf : ∀ (A' : Around) (Q' : Array UInt8 → Shared → Prop) (E' : Value → Shared → Prop) (i : String), Q' b s → wpAny (model prog w) A' (Builtin.Bytes.bytesLike i v) Q' E' s := fun A' Q' E' i q => by
    unfold Builtin.Bytes.bytesLike
    rcases hv with ⟨u, rfl⟩ | ⟨c, d, sl, rfl, ho⟩
    · exact wpAny_bind (buffer_by (wpAny_pure q))
    · exact wpAny_bind (buffer_ba ho (wpAny_pure q))
  refine wpAny_call (codeAny_call_builtin slot_unpack.plain entry_unpack (slot_unpack.check _ _ _ _ _ _ _ _ hS (args_unpack _ _ _) ?_))
  unfold Builtin.«_struct.Struct.unpack_from»
  dsimp only
  refine wpAny_bind (wpAny_of_eq (a := [some v, some (.int off t)]) rfl ?_)
  dsimp only
  unfold Builtin.Struct.unpackFrom
  refine wpAny_bind (buf _ _ _ _ ?_)
  dsimp only
  have ih : ∀ (A' : Around) (Q' : Int → Shared → Prop) (E' : Value → Shared → Prop), Q' off s → wpAny (model prog w) A' (Builtin.Bytes.indexHeld [v] (.int off t)) Q' E' s := fun A' Q' E' q => by
    unfold Builtin.Bytes.indexHeld
    refine wpAny_bind (wpAny_of_eq (a := some off) rfl ?_)
    rw [if_pos (by simp)]
    exact wpAny_of_eq (a := off) rfl q
  refine wpAny_bind (ih _ _ _ ?_)
  rw [if_neg (by simp [Builtin.Bytes.fitsIndex]; omega)]
  refine wpAny_bind (wpAny_pure ?_)
  refine wpAny_bind (wpAny_bind (wpAny_structFormat hs fun fb => wpAny_pure ?_))
  rw [if_pos (show (some (Value.int off t)).isSome = true from rfl)]
  refine wpAny_bind (buf _ _ _ _ ?_)
  refine wpAny_bind (wpAny_placeIn h0 h1 ?_)
  rw [unpacked_int shw]
  refine wpAny_bind (wpAny_bind (wpAny_mkInt ?_))
  have e : (if (sg && decide (natAt b off.toNat wd ≥ 2 ^ (8 * wd - 1))) = true then (natAt b off.toNat wd : Int) - 2 ^ (8 * wd) else (natAt b off.toNat wd : Int)) = leB sg wd (cut b.toList off.toNat (off.toNat + wd)) := by
    have e1 : natAt b off.toNat wd = (cut b.toList off.toNat (off.toNat + wd)).foldr (fun x acc => x.toNat + 256 * acc) 0 := by
      unfold natAt Builtin.Struct.natOf Builtin.Memoryview.littleEndian cut
      rw [← Array.foldr_toList, if_neg Bool.false_ne_true, Array.toList_extract]
      congr 1
      funext x acc
      omega
    unfold leB
    rw [e1]
  rw [e]
  refine wpAny_newObj_type (wpAny_pure h) ?_
  show 1 ≤ sizeLine
  rw [sizeLine_eq]; omega

end
end Mine
namespace Mine
open PySem PySem.W PySem.Calls PyProof.Rows

section
variable {W : Wd} {A : Around} {hp : Hp} {s : Shared} {n : Nat}

theorem place_spec {i : Int} {n j : Nat} (h : place i n = some j) : 0 ≤ i ∧ i < n ∧ i ≤ 1048576 ∧ j = i.toNat := by
  unfold place at h
  split at h
  · rename_i h'; cases h; exact ⟨h'.1, h'.2.1, h'.2.2, rfl⟩
  · cases h

/-! lists of pairs beside each other -/
theorem assoc_rel {K β : Type} [DecidableEq K] {pr : β → Value} {h : Heap} : ∀ {kvs : List (K × V)} {ys : List (K × β)}, ys.map (·.1) = kvs.map (·.1) → VRels hp h (kvs.map (·.2)) (ys.map fun y => pr y.2) → ∀ (k : K),
    ((kvs.find? fun kv => kv.1 = k) = none ∧ (ys.find? fun kv => kv.1 = k) = none) ∨ ∃ x y, (kvs.find? fun kv => kv.1 = k) = some x ∧ (ys.find? fun kv => kv.1 = k) = some y ∧ VRel hp h x.2 (pr y.2)
  | [], [], _, _, _ => .inl ⟨rfl, rfl⟩
  | [], _ :: _, e, _, _ => by cases e
  | _ :: _, [], e, _, _ => by cases e
  | x :: kvs, y :: ys, e, r, k => by
    simp only [List.map_cons, List.cons.injEq] at e
    obtain ⟨v, rest, e2, a, b⟩ := r
    simp only [List.map_cons, List.cons.injEq] at e2
    obtain ⟨rfl, rfl⟩ := e2
    by_cases hk : x.1 = k
    · have hk' : y.1 = k := e.1.trans hk
      rw [List.find?_cons_of_pos (by simpa using hk), List.find?_cons_of_pos (by simpa using hk')]
      exact .inr ⟨x, y, rfl, rfl, a⟩
    · have hk' : ¬ y.1 = k := fun q => hk (e.1.symm.trans q)
      rw [List.find?_cons_of_neg (by simpa using hk), List.find?_cons_of_neg (by simpa using hk')]
      exact assoc_rel e.2 b k

theorem isInt_self (i : Int) (t : Tok) : Value.isInt i (.int i t) = true := by simp [Value.isInt]
theorem isStr_self (i : Str) (t : Tok) : Value.isStrOf i (.str i t) = true := by simp [Value.isStrOf]
theorem KD.is_int {i : Int} {t : Tok} : KD.is (.i i) (.int i t) = true := isInt_self i t
theorem KD.is_str {i : Str} {t : Tok} : KD.is (.s i) (.str i t) = true := isStr_self i t
noncomputable def kdOf : V → Option KD
  | .int i => some (.i i)
  | .str s => some (.s s)
  | _ => none
theorem mapM_some {α β : Type} {f : α → Option β} : ∀ {xs : List α} {ys : List β}, xs.mapM f = some ys → (xs = [] ∧ ys = []) ∨ ∃ x xr y yr, xs = x :: xr ∧ ys = y :: yr ∧ f x = some y ∧ xr.mapM f = some yr
  | [], ys, h => by simp at h; exact .inl ⟨rfl, h⟩
  | x :: xr, ys, h => by
    simp only [List.mapM_cons, Option.bind_eq_bind, Option.pure_def] at h
    obtain ⟨y, hy, h⟩ := Option.bind_eq_some_iff.mp h
    obtain ⟨yr, hr, h⟩ := Option.bind_eq_some_iff.mp h
    cases h
    exact .inr ⟨x, xr, y, yr, rfl, rfl, hy, hr⟩
theorem items_are {W : Wd} {h : Heap} : ∀ {xs : List V} {ks : List KD} {vals : List Value}, (xs.mapM fun (x : V) => match x with | .int i => some (KD.i i) | .str s => some (KD.s s) | _ => none) = some ks → VRels hp h xs vals → ItemsAre (kdKind W.prog W.w) ks vals
  | xs, ks, vals, e, r => by
    rcases mapM_some e with ⟨rfl, rfl⟩ | ⟨x, xr, y, yr, rfl, rfl, hy, hr⟩
    · cases r; exact .nil
    · obtain ⟨v, rest, rfl, a, b⟩ := r
      refine .cons ?_ (items_are hr b)
      split at hy
      · cases hy; obtain ⟨t, rfl⟩ := a; exact KD.is_int (t := t)
      · cases hy; obtain ⟨t, rfl⟩ := a; exact KD.is_str (t := t)
      · cases hy
termination_by xs => xs.length

theorem key_tup {k : V} {ks : List KD} {kv : Value} (e : keyOf k = some (.inr ks)) (r : VRel hp s.heap k kv) : ∃ a, kv = .ref a ∧ hp a = none ∧ IsTupleKey (kdKind W.prog W.w) s.heap ks a := by
  unfold keyOf at e
  split at e
  · cases e
  · rename_i xs
    obtain ⟨ks', he, hk⟩ := Option.map_eq_some_iff.mp e
    cases hk
    obtain ⟨a, vals, rfl, ha, ⟨o, ho, hc, n, hd⟩, rr⟩ := r
    exact ⟨a, rfl, ha, o, vals, n, ho, hc, hd, items_are he rr⟩
  · cases e

/-- an item of a list, by its place -/
theorem idx_list {l : Addr} {vals : Array Value} {xs : List V} {i : Int} {t : Tok} {j : Nat} {r : V} {k : K1} (hl : s.heap.IsList l vals) (rr : VRels hp s.heap xs vals.toList) (hj : place i xs.length = some j) (hr : xs[j]? = some r)
    (q : k r hp) (O : HOk W hp s) : EvV W A (getItem (.ref l) (.int i t)) k hp s := by
  obtain ⟨h0, h1, h2, rfl⟩ := place_spec hj
  obtain ⟨v, hv, rv⟩ := rr.get hr
  rw [Array.getElem?_toList] at hv
  exact wpAny_getItem_list hl h0 (by omega) hv (ev_here (R := VRel) O q rv)

theorem idx_sound {o i r : V} {ov iv : Value} {k : K1} (h : idxV hp o i = some r) (q : k r hp) (O : HOk W hp s) (ro : VRel hp s.heap o ov) (ri : VRel hp s.heap i iv) (hu : A.units + 2 < cLine) :
    EvV W A (getItem ov iv) k hp s := by
  unfold idxV at h
  split at h
  · rename_i a
    split at h
    · rename_i xs kk hl
      obtain ⟨j, hj, hr⟩ := Option.bind_eq_some_iff.mp h
      cases ro; obtain ⟨t, rfl⟩ := ri
      obtain ⟨vals, p, rr⟩ := O.objs _ _ hl
      exact idx_list p.isList rr hj hr q O
    · rename_i b kk hl
      obtain ⟨j, hj, hr⟩ := Option.bind_eq_some_iff.mp h
      obtain ⟨h0, h1, h2, rfl⟩ := place_spec hj
      obtain ⟨x, hx, rfl⟩ := Option.map_eq_some_iff.mp hr
      cases ro; obtain ⟨t, rfl⟩ := ri
      obtain ⟨d, sl, p⟩ := O.objs _ _ hl
      exact getItem_ba p h2 h0 (by simpa using hx) (ev_val O q ⟨_, rfl⟩)
    · rename_i kvs kk hl
      cases ro; obtain ⟨t, rfl⟩ := ri
      obtain ⟨ys, hm, hk, rr⟩ := O.objs _ _ hl
      rcases assoc_rel (pr := id) hk rr kk with ⟨e1, _⟩ | ⟨x, y, e1, e2, rv⟩
      · unfold lookI at h; rw [e1] at h; cases h
      · unfold lookI at h; rw [e1] at h; cases h
        refine wpAny_getItem_of (knd := intKind W.prog W.w) (k := kk) (v := y.2) (isInt_self kk t) hm.mapOf ?_ (ev_val O q rv)
        unfold valueAt; rw [e2]; rfl
    · rename_i kvs _ hl
      split at h
      · rename_i ks hks
        cases ro
        obtain ⟨a', rfl, ha', hkey⟩ := key_tup (W := W) hks ri
        obtain ⟨ys, hm, hk, rr, _⟩ := O.objs _ _ hl
        rcases assoc_rel (pr := fun y : Addr × Value => y.2) hk rr ks with ⟨e1, _⟩ | ⟨x, y, e1, e2, rv⟩
        · unfold lookT at h; rw [e1] at h; cases h
        · unfold lookT at h; rw [e1] at h; cases h
          refine wpAny_getItem_heap (knd := tupleKind (kdKind W.prog W.w)) (k := ks) (p := y.2) (tupleKind_room_in1 (by omega)) hkey hm ?_ (ev_val O q rv)
          unfold atKey; rw [e2]; rfl
      · cases h
    · cases h
  · rename_i xs kk
    obtain ⟨j, hj, hr⟩ := Option.bind_eq_some_iff.mp h
    obtain ⟨a, vals, rfl, _, l, rr⟩ := ro; obtain ⟨t, rfl⟩ := ri
    exact idx_list l rr hj hr q O
  · rename_i xs kk
    obtain ⟨j, hj, hr⟩ := Option.bind_eq_some_iff.mp h
    obtain ⟨a, vals, rfl, _, l, rr⟩ := ro; obtain ⟨t, rfl⟩ := ri
    obtain ⟨h0, h1, h2, rfl⟩ := place_spec hj
    obtain ⟨v, hv, rv⟩ := rr.get hr
    rw [Array.getElem?_toList] at hv
    have hlen := rr.length
    refine PyProof.Rows.getItem_tuple l (by omega) (by omega) (j := kk.toNat) ?_ hv (ev_here (R := VRel) O q rv)
    unfold seqIndex?
    rw [if_neg (show ¬ kk < 0 by omega), if_pos (by simp at hlen ⊢; omega)]
  · rename_i b kk
    split at h
    · rename_i hb
      obtain ⟨j, hj, hr⟩ := Option.bind_eq_some_iff.mp h
      obtain ⟨h0, h1, h2, rfl⟩ := place_spec hj
      obtain ⟨x, hx, rfl⟩ := Option.map_eq_some_iff.mp hr
      obtain ⟨u, rfl⟩ := ro; obtain ⟨t, rfl⟩ := ri
      refine getItem_bytes (by omega) h0 h1 (ev_val O q ⟨s.toks, ?_⟩)
      rw [List.getD_eq_getElem?_getD, hx]; rfl
    · cases h
  · cases h

end
end Mine
namespace Mine
open PySem PySem.W PySem.Calls PyProof.Rows

section
variable {prog : Program} {w : World} {A : Around} {E : Value → Shared → Prop} {s : Shared}
theorem lookup_ba_bytes : typeLookup (.type "bytearray") "__bytes__" = pure none := by rw [typeLookup_type, builtinLookup_eq_fast]; kernel_rfl
theorem lookup_ba_index : typeLookup (.type "bytearray") "__index__" = pure none := by rw [typeLookup_type, builtinLookup_eq_fast]; kernel_rfl

theorem code_bytes_ba {a : Addr} {d : Option Addr} {sl : Array (Option Value)} {b : Array UInt8} {Q : Value → Shared → Prop} (ho : s.heap.get? a = some ⟨.type "bytearray", d, .bytearray b 0, sl⟩) (hb : b.size ≤ 2 ^ 20)
    (h : Q (.bytes b s.toks) { s with toks := s.toks + 1 }) : codeAny (model prog w) A (.call (.builtin "bytes.__new__") ⟨[.type "bytes", .ref a], []⟩) (wants Q E) s := by
  have hT : s.TypeIs (.ref a) "bytearray" := ⟨_, ho, rfl⟩
  refine codeAny_of_tree ?_
  show wpAny _ A.in1 (do checkBuiltinCall "bytes.__new__" ⟨[.type "bytes", .ref a], []⟩; again (.builtin "bytes.__new__" ⟨[.type "bytes", .ref a], []⟩)) _ _ s
  refine wpAny_bind (wpAny_of_eq (F.bm_newCall _) (wpAny_pure ⟨plainId_quiet F.bm_plain _, codeAny_builtin F.bm_entry ?_⟩))
  rw [Around.under_plainId F.bm_plain _]
  unfold Builtin.«bytes.__new__»
  refine wpAny_bind (wpAny_of_eq (a := true) rfl ?_)
  refine bm_if_false rfl ?_
  refine wpAny_bind (wpAny_of_eq F.bm_sub ?_)
  refine bm_if_false rfl ?_
  refine wpAny_bind (wpAny_of_eq (F.bm_bind _) ?_)
  refine wpAny_bind (wpAny_of_eq (a := ()) rfl ?_)
  refine wpAny_bind (wpAny_of_eq (a := ()) rfl ?_)
  refine bm_if_false rfl ?_
  refine wpAny_bind (wpAny_specialOf hT lookup_ba_bytes ?_)
  refine wpAny_bind (wpAny_bind ?_)
  show wpAny _ _ (load a >>= _) _ _ _
  refine wpAny_bind (wpAny_load ho ?_)
  refine wpAny_pure (wpAny_pure ?_)
  refine bm_if_false rfl ?_
  refine wpAny_bind (wpAny_specialOf hT lookup_ba_index ?_)
  refine bm_if_true rfl ?_
  show wpAny _ _ (Builtin.Bytes.buffer? "bytes.__new__" (.ref a) true >>= _) _ _ _
  refine wpAny_bind (buffer_ba ho ?_)
  refine wpAny_bind (wpAny_rule ?_)
  refine wpAny_bind (m := mkBytes b) ?_
  unfold mkBytes
  rw [if_neg (by rw [sizeLine_eq]; omega)]
  refine wpAny_bind (wpAny_fresh (wpAny_pure ?_))
  exact wpAny_pure h

theorem call_bytes_ba {a : Addr} {d : Option Addr} {sl : Array (Option Value)} {b : Array UInt8} {Q : Value → Shared → Prop} (ho : s.heap.get? a = some ⟨.type "bytearray", d, .bytearray b 0, sl⟩) (hb : b.size ≤ 2 ^ 20)
    (h : Q (.bytes b s.toks) { s with toks := s.toks + 1 }) : wpAny (model prog w) A (call (.type "bytes") [.ref a]) Q E s := by
  refine callType_codes (Q₁ := fun obj s₁ => s₁.TypeIs obj "bytes" ∧ Q obj s₁) F.bm_called (F.bm_typeCall _) F.entry_object_init
    (code_bytes_ba ho hb ⟨PySem.W.typeIs_bytes _ _ _, h⟩) fun obj s₁ h₁ => ?_
  exact ⟨h₁.1, F.args_object_init_2 obj _, object_init_meets F.bm_called.init.lookup F.bm_called.made (by decide) prog w A.in1 _ s₁ ⟨h₁.1, rfl, h₁.2⟩⟩

theorem len_ba {a : Addr} {d : Option Addr} {sl : Array (Option Value)} {b : Array UInt8} {Q : Value → Shared → Prop} (ho : s.heap.get? a = some ⟨.type "bytearray", d, .bytearray b 0, sl⟩) (hb : b.size ≤ 2 ^ 40)
    (h : Q (.int b.size (s.toks + 1)) { s with toks := s.toks + 1 + 1 }) : wpAny (model prog w) A (call (.builtin "len") [.ref a]) Q E s := by
  have hT : s.TypeIs (.ref a) "bytearray" := ⟨_, ho, rfl⟩
  refine Calls.call_function_entry kind_len plain_len entry_len (args_len1 _) ?_
  unfold Builtin.«len»
  refine wpAny_bind (m := oneArg "len" _) (wpAny_pure ?_)
  refine wpAny_bind (m := callSpecial? (.ref a) (Str.ofString "__len__")) (wpAny_callSpecial?_slot (name := Str.ofString "__len__") hT slot_ba_len (wpAny_call_entry slot_ba_len hT entry_ba_len ?_ (args_ba_len _)))
  show wpAny _ _ (Builtin.Bytes.payload (.ref a) >>= _) _ _ s
  refine wpAny_bind (wpAny_payload ho ?_)
  refine wpAny_bind (wpAny_mkInt (wpAny_pure ⟨_, rfl, ?_⟩))
  show wpAny _ _ _ _ _ { s with toks := s.toks + 1 }
  refine wpAny_bind (wpAny_holding (wpAny_pure ?_))
  refine wpAny_bind (wpAny_letGo ?_)
  show wpAny _ _ (if (b.size : Int) < 0 then _ else _) _ _ _
  rw [if_neg (by omega)]
  show wpAny _ _ (if (b.size : Int) ≥ 2 ^ 63 then _ else _) _ _ _
  rw [if_neg (by omega)]
  exact wpAny_bind (wpAny_mkInt (wpAny_pure ⟨_, rfl, h⟩))
end

section
variable {W : Wd} {A : Around} {hp : Hp} {s : Shared} {n : Nat}

/-- the heap has only grown -/
theorem HOk.grown (O : HOk W hp s) {h' : Heap} (keep : ∀ b o, s.heap.get? b = some o → h'.get? b = some o) (t : Nat) : HOk W hp { s with heap := h', toks := t } ∧ HStep hp s hp { s with heap := h', toks := t } := by
  have live : ∀ b, (s.heap.get? b).isSome = true → (h'.get? b).isSome = true := fun b e => by obtain ⟨o, q⟩ := Option.isSome_iff_exists.mp e; rw [keep b o q]; rfl
  have k : Kept hp s.heap hp h' := ⟨fun b o _ e q => ⟨keep b o e, q⟩, live⟩
  exact ⟨⟨fun b o e => keep b o (O.old b o e), fun b o e => ORel.step k (fun _ q => q) (fun _ q => keep _ _ q) (O.objs b o e), O.fresh, O.high, O.gens, O.os⟩, ⟨fun b o e _ => keep b o e, fun _ _ _ q => q, live⟩⟩

theorem ev_grown {α β : Type} {R : Hp → Heap → β → α → Prop} {Q : β → Hp → Prop} {a : α} {b : β} {h' : Heap} {t : Nat} (O : HOk W hp s) (keep : ∀ b o, s.heap.get? b = some o → h'.get? b = some o) (q : Q b hp) (r : R hp h' b a) :
    ∃ b hp', Q b hp' ∧ R hp' ({ s with heap := h', toks := t } : Shared).heap b a ∧ HOk W hp' { s with heap := h', toks := t } ∧ HStep hp s hp' { s with heap := h', toks := t } :=
  ⟨b, hp, q, r, (O.grown keep t).1, (O.grown keep t).2⟩

/-- an end with a new object, whatever else is new -/
theorem ev_newAt {x : Ob} {k : K1} {h' : Heap} {t : Nat} {c : Addr} (O : HOk W hp s) (q : newK hp x k) (keep : ∀ b o, s.heap.get? b = some o → h'.get? b = some o) (hc : s.heap.get? c = none) (hl : (h'.get? c).isSome = true) (hi : mainGlobals < c)
    (rel : Kept hp s.heap (hp.upd c x) h' → ORel W (hp.upd c x) h' c x) :
    ∃ mv hp', k mv hp' ∧ VRel hp' ({ s with heap := h', toks := t } : Shared).heap mv (.ref c) ∧ HOk W hp' { s with heap := h', toks := t } ∧ HStep hp s hp' { s with heap := h', toks := t } := by
  have hcn : hp c = none := by
    cases e : hp c with
    | none => rfl
    | some o => have := ORel.live (O.objs _ _ e); rw [hc] at this; cases this
  have ne : ∀ {b : Addr} {o : Obj}, s.heap.get? b = some o → b ≠ c := fun e q => by rw [q, hc] at e; cases e
  have live : ∀ b, (s.heap.get? b).isSome = true → (h'.get? b).isSome = true := fun b e => by obtain ⟨o, q⟩ := Option.isSome_iff_exists.mp e; rw [keep b o q]; rfl
  have kp : Kept hp s.heap (hp.upd c x) h' := ⟨fun b o _ e q => ⟨keep b o e, by rw [upd_ne (ne e)]; exact q⟩, live⟩
  refine ⟨.ref c, _, q c hcn, rfl, ⟨fun b o e => keep b o (O.old b o e), fun b o e => ?_, fun b o e => ?_, fun b o e => ?_, O.gens, O.os⟩, ⟨fun b o e _ => keep b o e, fun b o e q => by rw [upd_ne (ne e)]; exact q, live⟩⟩
  · by_cases hb : b = c
    · subst hb; rw [upd_self] at e; cases e; exact rel kp
    · rw [upd_ne hb] at e; exact ORel.step kp (fun b q => by rw [upd_ne (fun z => by rw [z, hcn] at q; cases q)]; exact q) (fun _ q => keep _ _ q) (O.objs b o e)
  · by_cases hb : b = c
    · subst hb
      cases q : W.h₀.get? b with
      | none => rfl
      | some o' => rw [O.old _ _ q] at hc; cases hc
    · rw [upd_ne hb] at e; exact O.fresh b o e
  · by_cases hb : b = c
    · subst hb; exact hi
    · rw [upd_ne hb] at e; exact O.high b o e
theorem HOk.size_high (O : HOk W hp s) : mainGlobals < s.heap.objs.size := by obtain ⟨o, _, _, h, _⟩ := O.hg; exact Heap.lt_size h

theorem ints_are {h : Heap} : ∀ {xs : List V} {is : List Int} {vals : List Value}, intsOf xs = some is → VRels hp h xs vals → IntsAre vals is
  | [], is, vals, e, r => by cases e; cases r; exact .nil
  | x :: xs, is, vals, e, r => by
    obtain ⟨v, rest, rfl, a, b⟩ := r
    cases x <;> simp only [intsOf, reduceCtorEq] at e
    obtain ⟨js, ej, rfl⟩ := Option.map_eq_some_iff.mp e
    obtain ⟨t, rfl⟩ := a
    exact .cons _ t (ints_are ej b)

/-! slices -/
theorem slice_list_sound {l i : Addr} {vals : Array Value} {xs : List V} {lo hi : V} {vl vu : Value} {a b : Nat} {k : K1} (hl : s.heap.IsList l vals) (rr : VRels hp s.heap xs vals.toList) (hn : xs.length ≤ 1048576)
    (hs : s.heap.IsSliceOf i vl vu .none) (r1 : VRel hp s.heap lo vl) (r2 : VRel hp s.heap hi vu) (h1 : clampLo xs.length lo = some a) (h2 : clampHi xs.length hi = some b) (q : newK hp (.list (cut xs a b)) k) (O : HOk W hp s) :
    EvV W A (getItem (.ref l) (.ref i)) k hp s := by
  obtain ⟨p, e1⟩ := part_of_lo h1
  obtain ⟨p', e2⟩ := part_of_hi h2
  have hlen : vals.size = xs.length := by rw [← rr.length]; simp
  have e : slicePick vals p p' none = (cut vals.toList a b).toArray := by
    unfold slicePick
    rw [hlen, bounds_clamp h1 h2 e1 e2, sliceRange_one, pick_run]; rfl
  refine wpAny_getItem_list_slice hl hs (isPart_of r1 e1) (isPart_of r2 e2) .none (by simp) ?_ (by rw [hlen, sizeLine_eq]; omega)
  rw [e]
  exact ev_new (t := s.toks) O q (orel_list O (by unfold cut; exact (rr.drop a).take (b - a)))

theorem slice_ba_sound {l i : Addr} {o : List UInt8} {lo hi : V} {vl vu : Value} {a b : Nat} {k : K1} (hl : hp l = some (.barr o)) (hn : o.length ≤ 1048576)
    (hs : s.heap.IsSliceOf i vl vu .none) (r1 : VRel hp s.heap lo vl) (r2 : VRel hp s.heap hi vu) (h1 : clampLo o.length lo = some a) (h2 : clampHi o.length hi = some b) (q : newK hp (.barr (cut o a b)) k) (O : HOk W hp s) :
    EvV W A (getItem (.ref l) (.ref i)) k hp s := by
  obtain ⟨p, e1⟩ := part_of_lo h1
  obtain ⟨p', e2⟩ := part_of_hi h2
  obtain ⟨d, sl, ho⟩ := O.objs _ _ hl
  refine getItem_ba_slice ho (by simpa using hn) hs (isPart_of r1 e1) (isPart_of r2 e2) (by simpa using bounds_clamp h1 h2 e1 e2) ?_
  exact ev_new (t := s.toks) O q ⟨_, _, Heap.get?_push_size _ rfl⟩
end
end Mine
namespace Mine
open PySem PySem.W PySem.Calls PyProof.Rows

noncomputable def B.val : B → Value
  | .len => .builtin "len" | .min => .builtin "min" | .max => .builtin "max" | .sum => .builtin "sum" | .sorted => .builtin "sorted"
  | .list => .type "list" | .bytes => .type "bytes" | .bytearray => .type "bytearray" | .tuple => .type "tuple" | .isinstance => .builtin "isinstance" | .int => .type "int"

section
variable {W : Wd} {A : Around} {hp : Hp} {s : Shared} {n : Nat}

theorem max_list_sound {l : Addr} {vals : Array Value} {xs : List V} {is : List Int} {k : K1} (hh : A.handled = none) (hl : s.heap.IsList l vals) (rr : VRels hp s.heap xs vals.toList) (hi : intsOf xs = some is) (hne : is ≠ [])
    (q : ∀ m ∈ is, (∀ x ∈ is, x ≤ m) → k (.int m) hp) (O : HOk W hp s) : EvV W A (call (.builtin "max") [.ref l]) k hp s := by
  have ia := ints_are hi rr
  obtain ⟨ys, e⟩ := ia.allInts.items
  have hns : is = ys.toList.map (·.1) := by rw [← ia.numsOf, ← nums_intItems, ← e]
  have hsz : 0 < ys.size := by
    have : is.length ≠ 0 := by simpa using hne
    rw [hns, List.length_map, Array.length_toList] at this; omega
  have hl' : s.heap.IsList l (intItems ys) := by rw [← e]; exact hl
  refine max_intList hh hl' hsz fun v h' tk hv hk => ?_
  obtain ⟨t, rfl⟩ := intItems_at hv
  obtain ⟨h1, h2⟩ := argBest_gt (numAt ys) (ys.size - 1)
  refine ev_grown O hk (q _ ?_ fun a ha => ?_) ⟨t, rfl⟩
  · rw [hns, numAt_eq]; exact getD_mem (by rw [List.length_map, Array.length_toList]; omega)
  · rw [hns] at ha
    obtain ⟨j, hj, rfl⟩ := mem_getD ha
    rw [List.length_map, Array.length_toList] at hj
    rw [← numAt_eq]; exact h2 j (by omega)

theorem sum_list_sound {l : Addr} {vals : Array Value} {xs : List V} {is : List Int} {k : K1} (hh : A.handled = none) (hl : s.heap.IsList l vals) (rr : VRels hp s.heap xs vals.toList) (hi : intsOf xs = some is)
    (q : k (.int is.sum) hp) (O : HOk W hp s) : EvV W A (call (.builtin "sum") [.ref l]) k hp s := by
  have ia := ints_are hi rr
  obtain ⟨ys, e⟩ := ia.allInts.items
  have hns : is = ys.toList.map (·.1) := by rw [← ia.numsOf, ← nums_intItems, ← e]
  have hl' : s.heap.IsList l (intItems ys) := by rw [← e]; exact hl
  refine sum_intListG hh hl' fun h' tk t' hk => ?_
  have e2 : preSum (numAt ys) ys.size = is.sum := by
    rw [preSum_eq, List.take_of_length_le (by simp), hns]
  rw [e2]
  exact ev_grown O hk q ⟨t', rfl⟩

theorem bcall_sound {b : B} {args : List V} {vals : List Value} {k : K1} (hh : A.handled = none) (hg : A.guards = some []) (h : bcallK b args hp k) (O : HOk W hp s) (r : VRels hp s.heap args vals) : CvV W A (call b.val vals) k hp s := by
  unfold bcallK at h
  split at h
  · obtain ⟨v, _, rfl, ⟨t, rfl⟩, rfl⟩ := r
    exact wpC_of (len_bytes (by simpa using Nat.le_trans h.1 (by decide)) (ev_val O h.2 ⟨s.toks + 1, by simp⟩))
  · obtain ⟨v, _, rfl, rv, rfl⟩ := r
    cases rv
    split at h
    · rename_i xs hl
      obtain ⟨vals, p, rr⟩ := O.objs _ _ hl
      have e : vals.size = xs.length := by rw [← rr.length]; simp
      exact wpC_of (len_list p.isList (by omega) (ev_val O h.2 ⟨_, by rw [e]⟩))
    · rename_i bb hl
      obtain ⟨d, sl, ho⟩ := O.objs _ _ hl
      exact wpC_of (len_ba ho (by simpa using Nat.le_trans h.1 (by decide)) (ev_val O h.2 ⟨s.toks + 1, by simp⟩))
    · exact h.elim
  · rename_i xs
    obtain ⟨v, _, rfl, ⟨a, vals, rfl, _, l, rr⟩, rfl⟩ := r
    have e : vals.size = xs.length := by rw [← rr.length]; simp
    exact wpC_of (len_list l (by omega) (ev_val O h.2 ⟨_, by rw [e]⟩))
  · obtain ⟨v, _, rfl, ⟨t, rfl⟩, v2, _, rfl, ⟨u, rfl⟩, rfl⟩ := r
    rename_i i j
    refine wpC_of (min_two_ints hh fun h' tk hk => ev_grown O hk h ?_)
    by_cases hji : j < i
    · rw [if_pos hji, if_pos hji]; exact ⟨_, rfl⟩
    · rw [if_neg hji, if_neg hji]; exact ⟨_, rfl⟩
  · obtain ⟨v, _, rfl, ⟨t, rfl⟩, v2, _, rfl, ⟨u, rfl⟩, rfl⟩ := r
    rename_i i j
    refine wpC_of (max_two_ints hh fun h' tk hk => ev_grown O hk h ?_)
    by_cases hji : i < j
    · rw [if_pos hji, if_pos hji]; exact ⟨_, rfl⟩
    · rw [if_neg hji, if_neg hji]; exact ⟨_, rfl⟩
  · obtain ⟨v, _, rfl, rv, rfl⟩ := r
    obtain ⟨xs, is, h1, h2, h3, q⟩ := h
    obtain ⟨a, vals, rfl, l, rr⟩ := isList_of h1 O rv
    exact wpC_of (max_list_sound hh l rr h2 h3 q O)
  · obtain ⟨v, _, rfl, rv, rfl⟩ := r
    obtain ⟨xs, is, h1, h2, q⟩ := h
    obtain ⟨a, vals, rfl, l, rr⟩ := isList_of h1 O rv
    exact wpC_of (sum_list_sound hh l rr h2 q O)
  · obtain ⟨v, _, rfl, rv, rfl⟩ := r
    cases rv
    split at h
    · rename_i bb hl
      obtain ⟨d, sl, ho⟩ := O.objs _ _ hl
      exact wpC_of (call_bytes_ba ho (by simpa using h.1) (ev_val O h.2 ⟨_, rfl⟩))
    · exact h.elim
  · obtain ⟨v, _, rfl, ⟨t, rfl⟩, rfl⟩ := r
    rename_i m
    refine call_bytearray_n hg (by omega) (by omega) fun h' g' keep lt => ?_
    refine ev_newAt (t := s.toks) O h.2 keep (Heap.get?_none_of_le (Nat.le_refl _)) (by rw [g']; rfl) O.size_high fun _ => ⟨none, #[], ?_⟩
    rw [g']; simp
  · obtain ⟨v, _, rfl, rv, rfl⟩ := r
    obtain ⟨xs, h1, hn, q⟩ := h
    obtain ⟨a, vals, rfl, l, rr⟩ := isList_of h1 O rv
    have e : vals.size = xs.length := by rw [← rr.length]; simp
    refine wpC_of (call_tuple_list l (fun h' keep => ?_) (by rw [e, sizeLine_eq]; omega))
    have keep' : ∀ b o, s.heap.get? b = some o → (h'.push { cls := .type "tuple", data := .seq vals }).get? b = some o := fun b o e => Heap.get?_push_of_some _ (keep b o e)
    refine ev_grown (t := s.toks) O keep' q ⟨_, vals, rfl, ?_, ⟨_, Heap.get?_push_size _ rfl, rfl, 0, rfl⟩, rr.step (O.grown keep' s.toks).2.kept⟩
    cases eh : hp h'.objs.size with
    | none => rfl
    | some o =>
      obtain ⟨ob, qo⟩ := Option.isSome_iff_exists.mp (ORel.live (O.objs _ _ eh))
      exact absurd (Heap.lt_size (keep _ _ qo)) (Nat.lt_irrefl _)
  · obtain ⟨v, _, rfl, ⟨t, rfl⟩, rfl⟩ := r
    exact wpC_of (call_int_int (ev_here (R := VRel) O h ⟨_, rfl⟩))
  · exact h.elim
end
end Mine
namespace Mine
open PySem PySem.W PySem.Calls PyProof.Rows

section
variable {prog : Program} {w : World} {A : Around} {E : Value → Shared → Prop} {s : Shared}
theorem setItem_plain {l : Addr} {items : Array Value} {k : Int} {t : Tok} {v : Value} {Q : Unit → Shared → Prop} (hl : s.heap.PlainList l items)
    (h0 : 0 ≤ k) (hfit : k < 2 ^ 63) (hn : k < items.size)
    (hQ : ∀ h', h'.PlainList l (items.setIfInBounds k.toNat v) → Heap.SameBut l s.heap h' → Q () { s with heap := h' }) :
    wpAny (model prog w) A (setItem (.ref l) (.int k t) v) Q E s := by
  have hl' := hl.isList
  obtain ⟨n, ho⟩ := hl
  unfold setItem
  refine wpAny_holding ?_
  refine wpAny_bind (wpAny_sequenceKey hl'.typeIs (by decide) ?_)
  refine wpAny_bind (wpAny_callSpecial?_slot (name := Str.ofString "__setitem__") hl'.typeIs slot_list_setitem
    (wpAny_call_entry slot_list_setitem hl'.typeIs entry_list_setitem ?_ (args_list_setitem _ _ _)))
  show wpAny _ _ (Builtin.List.listSubscript? (.int k t) >>= _) _ _ s
  refine wpAny_bind (wpAny_listSubscript_int (fitsIndex_of h0 hfit) ?_)
  clear hfit
  obtain ⟨j, rfl⟩ := Int.eq_ofNat_of_zero_le h0
  have hj : j < items.size := by omega
  have hx' : items[j]? = some items[j] := Array.getElem?_eq_getElem hj
  show wpAny _ _ ((seqItemAt l j >>= fun r => pure (r.map (j, ·))) >>= _) _ _ s
  refine wpAny_bind (wpAny_bind (wpAny_seqItemAt ho rfl (wpAny_pure ?_)))
  rw [hx']
  show wpAny _ _ (setSeqItemAt l j v >>= _) _ _ s
  refine wpAny_bind (wpAny_setSeqItemAt ho rfl ?_)
  obtain ⟨n', e⟩ : ∃ n', Obj.mapSeq (·.setIfInBounds j v) { cls := .type "list", data := .seq items n } = { cls := .type "list", data := .seq (items.setIfInBounds j v) n' } := by
    simp [Obj.mapSeq]
  have hfin : (s.heap.update l (Obj.mapSeq (·.setIfInBounds j v))).PlainList l (items.setIfInBounds j v) := ⟨n', by rw [Heap.get?_update_self _ ho (by rw [e]; rfl), e]⟩
  first
    | exact wpAny_bind (wpAny_pure (wpAny_pure ⟨.none, rfl, wpAny_pure (hQ _ hfin (Heap.SameBut.update ..))⟩))
    | exact wpAny_pure ⟨.none, rfl, wpAny_pure (hQ _ hfin (Heap.SameBut.update ..))⟩
end

section
variable {W : Wd} {A : Around} {hp : Hp} {s : Shared} {n : Nat}

theorem lmul_sound {a b : V} {av bv : Value} {k : K1} (h : lmulK a b hp k) (O : HOk W hp s) (ra : VRel hp s.heap a av) (rb : VRel hp s.heap b bv) : EvV W A (binaryOp .Mult av bv) k hp s := by
  obtain ⟨xs, n, h1, rfl, ⟨h2, h3⟩, h4, q⟩ := h
  obtain ⟨l, ⟨vs⟩, rfl, hl, rr⟩ := isList_of h1 O ra
  obtain ⟨u, rfl⟩ := rb
  obtain ⟨⟨cls, d, data, sl⟩, ho, hcl, k', hd⟩ := id hl
  simp only at hcl hd rr
  subst hcl hd
  have hlen := rr.length
  have hm : vs.length * n.toNat ≤ 1000 * 1000 := Nat.mul_le_mul (by omega) (by omega)
  have hsz' : vs.toArray.size * n.toNat ≤ 2 ^ 24 := by simp; omega
  refine wpAny_binaryOp_repeat_ref (T := "list") (U := "int") (by decide) ⟨_, ho, rfl⟩ (fun s' => typeIs_int s' n u) noFill_list_mul PySem.F.fills_int_mul PySem.F.slot_int_rmul repeat_list PySem.F.slot_int_index.lookup
    (call_meets PySem.F.slot_int_rmul (typeIs_int s n u) PySem.F.entry_int_rmul (PySem.F.args_int_rmul_2 _ _) (lm_int_rmul_list_any n u l vs.toArray k' d sl)
      ⟨ho, rfl, ⟨_, ho, rfl⟩, call_meets PySem.F.slot_list_mul ⟨_, ho, rfl⟩ PySem.F.entry_list_mul (PySem.F.args_list_mul_2 _ _)
        (lm_list_mul_any l vs.toArray k' d sl n u (by simp [Builtin.List.listFitsIndex]; omega) (by omega) (by simp [Builtin.List.listTooLong, sizeLine]; omega))
        ⟨ho, ?_⟩⟩)
  rw [listMul_foldl_if]
  refine ev_new (t := s.toks) O q (orel_list O ?_)
  have rep : ∀ m : Nat, VRels hp s.heap (List.replicate m xs).flatten (List.replicate m vs).flatten := fun m => by
    induction m with
    | zero => simp [VRels]
    | succ m ih => rw [List.replicate_succ, List.replicate_succ, List.flatten_cons, List.flatten_cons]; exact rr.append ih
  exact rep _

theorem bmul_sound {a b : V} {av bv : Value} {k : K1} (h : bmulK a b hp k) (O : HOk W hp s) (ra : VRel hp s.heap a av) (rb : VRel hp s.heap b bv) : EvV W A (binaryOp .Mult av bv) k hp s := by
  obtain ⟨x, n, rfl, rfl, ⟨h2, h3⟩, q⟩ := h
  obtain ⟨t, rfl⟩ := ra
  obtain ⟨u, rfl⟩ := rb
  refine bytes_mul_any (by simp) (by omega) h3 (by simp) fun t' k' => ev_val O q ⟨t', ?_⟩
  have e : (List.replicate n.toNat [x]).flatten = List.replicate n.toNat x := lm_rep_flat_one x _
  rw [e]

theorem append_sound {l : Addr} {xs : List V} {v : V} {val : Value} {k : K1} (hl : hp l = some (.list xs)) (hn : xs.length ≤ 1048576) (q : k .none (hp.upd l (.list (xs ++ [v])))) (O : HOk W hp s) (r : VRel hp s.heap v val) :
    EvV W A (call (.builtin "list.append") [.ref l, val]) k hp s := by
  obtain ⟨vals, p, rr⟩ := O.objs _ _ hl
  have e : vals.size = xs.length := by rw [← rr.length]; simp
  refine wpAny_list_append_plain p (fun h' p' sb => ?_) (by rw [e, sizeLine_eq]; omega)
  obtain ⟨O', S'⟩ := O.update (x := .list (xs ++ [v])) hl sb s.toks (fun kp => ⟨_, p', by rw [Array.toList_push]; exact (rr.step kp).append (.one (r.step kp))⟩) (by obtain ⟨n, e⟩ := p'; rw [e]; rfl)
  exact ⟨.none, _, q, rfl, O', S'⟩

theorem setidx_list_sound {l : Addr} {xs : List V} {j : Int} {p : Nat} {v : V} {t : Tok} {val : Value} {k : Hp → Prop} (hl : hp l = some (.list xs)) (hj : place j xs.length = some p) (q : k (hp.upd l (.list (xs.set p v)))) (O : HOk W hp s)
    (r : VRel hp s.heap v val) : EvU W A (setItem (.ref l) (.int j t) val) k hp s := by
  obtain ⟨h0, h1, h2, rfl⟩ := place_spec hj
  obtain ⟨vals, pl, rr⟩ := O.objs _ _ hl
  have e : vals.size = xs.length := by rw [← rr.length]; simp
  refine setItem_plain pl h0 (by omega) (by omega) fun h' p' sb => ?_
  obtain ⟨O', S'⟩ := O.update (x := .list (xs.set j.toNat v)) hl sb s.toks (fun kp => ⟨_, p', by
    rw [Array.toList_setIfInBounds]; exact (rr.step kp).set _ (r.step kp)⟩) (by obtain ⟨n, e⟩ := p'; rw [e]; rfl)
  exact ⟨(), _, q, trivial, O', S'⟩

end
end Mine
namespace Mine
open PySem PySem.W PySem.Calls PyProof.Rows

section
variable {W : Wd} {A : Around} {hp : Hp} {s : Shared} {n : Nat}

theorem any_keys {K : Type} [DecidableEq K] {β γ : Type} : ∀ {kvs : List (K × β)} {ys : List (K × γ)}, ys.map (·.1) = kvs.map (·.1) → ∀ k, ys.any (fun y => decide (y.1 = k)) = kvs.any (fun y => decide (y.1 = k))
  | [], [], _, _ => rfl
  | [], _ :: _, e, _ => by cases e
  | _ :: _, [], e, _ => by cases e
  | x :: kvs, y :: ys, e, k => by
    simp only [List.map_cons, List.cons.injEq] at e
    rw [List.any_cons, List.any_cons, any_keys e.2 k, e.1]
theorem put_map {K β : Type} [DecidableEq K] {pr : β → Value} {up : β → β} {h : Heap} {v : V} {val : Value} (hup : ∀ b, pr (up b) = val) (rv : VRel hp h v val) (k : K) : ∀ {kvs : List (K × V)} {ys : List (K × β)}, ys.map (·.1) = kvs.map (·.1) → VRels hp h (kvs.map (·.2)) (ys.map fun y => pr y.2) →
    (ys.map fun y => if y.1 = k then (y.1, up y.2) else y).map (·.1) = (kvs.map fun kv => if kv.1 = k then (kv.1, v) else kv).map (·.1) ∧
    VRels hp h ((kvs.map fun kv => if kv.1 = k then (kv.1, v) else kv).map (·.2)) ((ys.map fun y => if y.1 = k then (y.1, up y.2) else y).map fun y => pr y.2)
  | [], [], _, r => ⟨rfl, r⟩
  | [], _ :: _, e, _ => by cases e
  | _ :: _, [], e, _ => by cases e
  | x :: kvs, y :: ys, e, r => by
    simp only [List.map_cons, List.cons.injEq] at e
    obtain ⟨w, rest, e2, a, b⟩ := r
    simp only [List.map_cons, List.cons.injEq] at e2
    obtain ⟨rfl, rfl⟩ := e2
    obtain ⟨i1, i2⟩ := put_map hup rv k e.2 b
    by_cases hk : x.1 = k
    · have hk' : y.1 = k := e.1.trans hk
      refine ⟨?_, ?_⟩
      · simp only [List.map_cons, hk, hk', if_true, List.cons.injEq, true_and]; exact i1
      · simp only [List.map_cons, hk, hk', if_true]; exact ⟨_, _, rfl, by rw [hup]; exact rv, i2⟩
    · have hk' : ¬ y.1 = k := fun q => hk (e.1.symm.trans q)
      refine ⟨?_, ?_⟩
      · simp only [List.map_cons, hk, hk', if_false, List.cons.injEq]; exact ⟨e.1, i1⟩
      · simp only [List.map_cons, hk, hk', if_false]; exact ⟨_, _, rfl, a, i2⟩

theorem atKey_any {K : Type} [DecidableEq K] : ∀ (xs : List (K × Addr × Value)) (k : K), (atKey xs k).isSome = xs.any (fun y => decide (y.1 = k))
  | [], _ => rfl
  | x :: xs, k => by
    unfold atKey
    by_cases h : x.1 = k
    · rw [List.find?_cons_of_pos (by simpa using h)]; simp [h]
    · rw [List.find?_cons_of_neg (by simpa using h), List.any_cons, ← atKey_any xs k]; simp [h, atKey]

theorem setidx_tdict_sound {d : Addr} {kvs : List (List KD × V)} {ks : List KD} {kv v : V} {kval val : Value} {k : Hp → Prop} (hl : hp d = some (.tdict kvs)) (hk : keyOf kv = some (.inr ks)) (hn : kvs.length ≤ 1048576) (q : k (hp.upd d (.tdict (putT kvs ks v)))) (hu : A.units + 2 < cLine)
    (O : HOk W hp s) (rk : VRel hp s.heap kv kval) (r : VRel hp s.heap v val) : EvU W A (setItem (.ref d) kval val) k hp s := by
  obtain ⟨a, rfl, ha, hkey⟩ := key_tup (W := W) hk rk
  obtain ⟨ys, hm, hkeys, rr, hnone⟩ := O.objs _ _ hl
  have hlen : ys.length = kvs.length := by simpa using congrArg List.length hkeys
  refine wpAny_setItem_heap (knd := tupleKind (kdKind W.prog W.w)) (k := ks) (tupleKind_room_in1 (by omega)) hkey hm (fun h' hm' sb => ?_) (by rw [hlen, sizeLine_eq]; omega)
  have had : a ≠ d := fun e => by rw [e, hl] at ha; cases ha
  have step := O.update (x := .tdict (putT kvs ks v)) hl sb (s.toks + (tupleKind (kdKind W.prog W.w)).draws ks) (fun kp => by
    have rr' := rr.step kp
    have r' := r.step kp
    refine ⟨_, hm', ?_, ?_, fun y hy => ?_⟩
    · unfold storedH putT
      rw [atKey_any, any_keys hkeys ks]
      by_cases hb : kvs.any (fun y => decide (y.1 = ks)) = true
      · rw [if_pos hb, if_pos hb]
        exact (put_map (pr := fun b : Addr × Value => b.2) (up := fun b : Addr × Value => (b.1, val)) (fun _ => rfl) r' ks hkeys rr').1
      · rw [if_neg hb, if_neg hb, List.map_append, List.map_append, hkeys]; rfl
    · generalize hp.upd d (.tdict (putT kvs ks v)) = hp2 at rr' r' ⊢
      unfold storedH putT
      rw [atKey_any, any_keys hkeys ks]
      by_cases hb : kvs.any (fun y => decide (y.1 = ks)) = true
      · rw [if_pos hb, if_pos hb]
        exact (put_map (pr := fun b : Addr × Value => b.2) (up := fun b : Addr × Value => (b.1, val)) (fun _ => rfl) r' ks hkeys rr').2
      · rw [if_neg hb, if_neg hb, List.map_append, List.map_append]
        exact rr'.append (.one r')
    · have key : y.2.1 = a ∨ ∃ z ∈ ys, y.2.1 = z.2.1 := by
        unfold storedH at hy
        split at hy
        · obtain ⟨z, hz, rfl⟩ := List.mem_map.mp hy
          refine .inr ⟨z, hz, ?_⟩
          unfold putAt; split <;> rfl
        · rcases List.mem_append.mp hy with hy | hy
          · exact .inr ⟨y, hy, rfl⟩
          · rw [List.mem_singleton.mp hy]; exact .inl rfl
      rcases key with e | ⟨z, hz, e⟩
      · rw [e, upd_ne had]; exact ha
      · rw [e, upd_ne (fun q => by have := hnone z hz; rw [q, hl] at this; cases this)]; exact hnone z hz) (by obtain ⟨o, es, ep, e, _⟩ := hm'; rw [e]; rfl)
  exact ⟨(), _, q, trivial, step.1, step.2⟩

theorem get_sound {d : Addr} {kvs : List (List KD × V)} {ks : List KD} {kv : V} {kval : Value} {k : K1} (hl : hp d = some (.tdict kvs)) (hk : keyOf kv = some (.inr ks)) (q : k ((lookT kvs ks).getD .none) hp) (hu : A.units + 2 < cLine)
    (O : HOk W hp s) (rk : VRel hp s.heap kv kval) : EvV W A (call (.builtin "dict.get") [.ref d, kval]) k hp s := by
  obtain ⟨a, rfl, ha, hkey⟩ := key_tup (W := W) hk rk
  obtain ⟨ys, hm, hkeys, rr, hnone⟩ := O.objs _ _ hl
  have hd : (d == sysModules) = false := by
    have := O.high _ _ hl
    exact beq_false_of_ne fun e => by rw [e] at this; exact absurd this (by decide)
  refine call_meetsIn PySem.F.slot_dict_get hm.typeIs PySem.F.entry_dict_get (PySem.F.args_dict_get_2 _ _) (meetsH_dict_get (tupleKind (kdKind W.prog W.w)) d a hd) ⟨tupleKind_room_in1 (by omega), ks, ys, hkey, hm, ?_⟩
  have key : VRel hp s.heap ((lookT kvs ks).getD .none) (((atKey ys ks).map (·.2)).getD .none) := by
    unfold lookT atKey
    rcases assoc_rel (pr := fun y : Addr × Value => y.2) hkeys rr ks with ⟨e1, e2⟩ | ⟨x, y, e1, e2, rv⟩
    · rw [e1, e2]; rfl
    · rw [e1, e2]; exact rv
  exact ev_val O q key

theorem newDict_sound {k : K1} (q : newK hp (.tdict []) k) (O : HOk W hp s) : EvV W A (newDict #[]) k hp s :=
  wpAny_newObj_type (ev_new (t := s.toks) O q ⟨[], Heap.DictOfH.new _, rfl, rfl, fun y hy => nomatch hy⟩) (Nat.zero_le _)

theorem pack_sound {st c : Addr} {wd : Nat} {sg : Bool} {b : List UInt8} {i x : Int} {vi vx : Value} {k : K1} (hs : StructAt W.h₀ st wd sg) (hl : hp c = some (.barr b)) (hi : 0 ≤ i ∧ i.toNat + wd ≤ b.length) (hx : inR sg wd x) (hb : b.length ≤ 1048576)
    (q : k .none (hp.upd c (.barr (b.take i.toNat ++ leE wd x ++ b.drop (i.toNat + wd))))) (O : HOk W hp s) (r1 : VRel hp s.heap (.int i) vi) (r2 : VRel hp s.heap (.int x) vx) :
    EvV W A (call (.builtin "_struct.Struct.pack_into") [.ref st, .ref c, vi, vx]) k hp s := by
  obtain ⟨t, rfl⟩ := r1
  obtain ⟨u, rfl⟩ := r2
  obtain ⟨d, sl, ho⟩ := O.objs _ _ hl
  have hs' : StructAt s.heap st wd sg := by obtain ⟨d, sl, b, t, vs, ho, r⟩ := hs; exact ⟨d, sl, b, t, vs, O.old _ _ ho, r⟩
  refine pack_into_ok hs' hx ho (by simpa using hb) hi.1 (by simpa using hi.2) fun h' g' sb => ?_
  have step := O.update (x := .barr (b.take i.toNat ++ leE wd x ++ b.drop (i.toNat + wd))) hl sb s.toks (fun _ => ⟨d, sl, g'⟩) (by rw [g']; rfl)
  exact ⟨.none, _, q, rfl, step.1, step.2⟩

theorem unpack_sound {st : Addr} {wd : Nat} {sg : Bool} {b : List UInt8} {i : Int} {v : V} {val vi : Value} {k : K1} (hs : StructAt W.h₀ st wd sg) (hv : v = .bytes b ∨ ∃ c, v = .ref c ∧ hp c = some (.barr b)) (hi : 0 ≤ i ∧ i.toNat + wd ≤ b.length) (hb : b.length ≤ 1048576)
    (q : k (.tup [.int (leB sg wd (cut b i.toNat (i.toNat + wd)))]) hp) (O : HOk W hp s) (rv : VRel hp s.heap v val) (r1 : VRel hp s.heap (.int i) vi) :
    EvV W A (call (.builtin "_struct.Struct.unpack_from") [.ref st, val, vi]) k hp s := by
  obtain ⟨t, rfl⟩ := r1
  have hs' : StructAt s.heap st wd sg := by obtain ⟨d, sl, b, t, vs, ho, r⟩ := hs; exact ⟨d, sl, b, t, vs, O.old _ _ ho, r⟩
  refine unpack_from_ok (b := b.toArray) hs' ?_ (by simpa using hb) hi.1 (by simpa using hi.2) ?_
  · rcases hv with rfl | ⟨c, rfl, hl⟩
    · obtain ⟨u, rfl⟩ := rv; exact .inl ⟨u, rfl⟩
    · cases rv
      obtain ⟨d, sl, ho⟩ := O.objs _ _ hl
      exact .inr ⟨c, d, sl, rfl, ho⟩
  · exact ev_grown (t := s.toks + 1) O (fun b o e => Heap.get?_push_of_some _ e) q ⟨_, _, rfl, O.size_none, ⟨_, Heap.get?_push_size _ rfl, rfl, 0, rfl⟩, ⟨_, _, rfl, ⟨_, rfl⟩, rfl⟩⟩

theorem setsl_sound {c : Addr} {b x : List UInt8} {lo hi v : V} {l h : Nat} {i : Addr} {vl vu val : Value} {k : Hp → Prop} (hg : A.guards = some []) (hl : hp c = some (.barr b)) (h1 : clampLo b.length lo = some l) (h2 : clampHi b.length hi = some h) (hlh : l ≤ h)
    (hv : v = .bytes x ∨ ∃ c', v = .ref c' ∧ c' ≠ c ∧ hp c' = some (.barr x)) (hx : x.length = h - l) (hb : b.length ≤ 1048576) (q : k (hp.upd c (.barr (b.take l ++ x ++ b.drop h))))
    (hs : s.heap.IsSliceOf i vl vu .none) (r1 : VRel hp s.heap lo vl) (r2 : VRel hp s.heap hi vu) (O : HOk W hp s) (rv : VRel hp s.heap v val) : CvU W A (setItem (.ref c) (.ref i) val) k hp s := by
  obtain ⟨p, e1⟩ := part_of_lo h1
  obtain ⟨p', e2⟩ := part_of_hi h2
  obtain ⟨d, sl, ho⟩ := O.objs _ _ hl
  have hh : h ≤ b.length := by
    cases hi <;> simp only [clampHi, Option.some.injEq, reduceCtorEq] at h2
    · omega
    · split at h2
      · cases h2; omega
      · cases h2
  refine setItem_ba_slice (x := x.toArray) (l := l) (u := h) hg ho (by simpa using hb) hs (isPart_of r1 e1) (isPart_of r2 e2) (by simpa using bounds_clamp h1 h2 e1 e2) hlh (by simpa using hh) (by simpa using hx) ?_ fun h₁ h' keep g' sb => ?_
  · rcases hv with rfl | ⟨c', rfl, hne, hl'⟩
    · exact .inl rv
    · cases rv
      obtain ⟨d', sl', ho'⟩ := O.objs _ _ hl'
      exact .inr ⟨c', d', sl', rfl, hne, ho'⟩
  · have O1 := O.grown keep s.toks
    have step := O1.1.update (x := .barr (b.take l ++ x ++ b.drop h)) hl (h' := h') sb s.toks (fun _ => ⟨d, sl, by rw [g']⟩) (by rw [g']; rfl)
    exact ⟨(), _, q, trivial, step.1, O1.2.trans step.2⟩
end
end Mine
namespace Mine
open PySem PySem.W PySem.Calls PyProof.Rows

/-! the written part of the world: what is held against the fragment -/
structure SlotOk (K : Frag) (C : Addr) (name : Str) (i : Nat) : Prop where
  ga : findIn K (.ref C) "__getattribute__" = some (some (.builtin "object.__getattribute__"))
  gt : findIn K (.ref C) "__getattr__" = some none
  sa : findIn K (.ref C) "__setattr__" = some (some (.builtin "object.__setattr__"))
  po : plainOver K C = true
  lt : i < 100
  at_ : ∃ p, findObj K C (some emptyDict) name = some (.bind (.builtin "member_descriptor.__get__") (.ref p)) ∧ slotIn K p C = some i ∧ takerIn K C name = some (some (.ref p)) ∧ typeIn K (.ref p) = some (.type "member_descriptor")

noncomputable def V.flat : V → Bool
  | .tup _ => false
  | .flist _ => false
  | .ref _ => true
  | _ => true
theorem VRel.flat {hp hp' : Hp} {h h' : Heap} {v : V} {val : Value} (f : v.flat = true) (r : VRel hp h v val) : VRel hp' h' v val := by
  cases v <;> first | exact r | cases f
theorem handed_of {hp : Hp} {h : Heap} {v : V} {val : Value} (f : v.handed = true) (r : VRel hp h v val) : handedIn val = true := by
  cases v <;> simp only [V.handed, reduceCtorEq] at f
  · cases r; rfl
  · cases r; rfl
  · obtain ⟨t, rfl⟩ := r; rfl
  · obtain ⟨t, rfl⟩ := r; rfl
  · obtain ⟨t, rfl⟩ := r; rfl
  · cases r; rfl
  · cases r; rfl
  · obtain ⟨a, vals, rfl, _⟩ := r; rfl
  · obtain ⟨a, vals, rfl, _⟩ := r; rfl

/-- an attribute of a class is read, and is val -/
noncomputable def ClsReads (K : Frag) (a : Addr) (name : Str) (val : Value) : Prop := ∀ (prog : Program) (w : World) (A : Around) (E : Value → Shared → Prop) (s : Shared) (Q : Value → Shared → Prop) (expr : Bool), K.In s.heap → Q val { s with toks := s.toks + 1 } →
  wpAny (model prog w) A (getAttr (.ref a) name expr) Q E s
noncomputable def CAttrOk (K : Frag) (h₀ : Heap) (a : Addr) (name : Str) (v : V) : Prop :=
  ∃ val, ClsReads K a name val ∧ handedIn val = true ∧ v.flat = true ∧ VRel (fun _ => none) h₀ v val ∧
    specialIn K (.ref a) "__getattribute__" = some (some (.builtin "type.__getattribute__"))
theorem clsReads_val {K : Frag} {a : Addr} {name : Str} {val mc : Value} (h1 : readsIn K a mc = true) (h2 : findCls K (.ref a) mc name = some (.val val)) (h3 : handedIn val = true) : ClsReads K a name val :=
  fun prog w A E s Q expr X q => cls_value X h1 h2 h3 q

theorem type_of_type (n : String) (h : typeOf (.type n) = pure (.type "type")) {M : Model} {hp : Heap} : Looks M hp (typeOf (.type n)) (.type "type") := Looks.of_pure h
theorem getless_type : typeLookup (.type "type") "__get__" = pure none := by rw [typeLookup_type, builtinLookup_eq_fast]; kernel_rfl

/-- the same where the attribute is a built-in type -/
theorem clsReads_typ {K : Frag} {a : Addr} {name : Str} {n : String} (h1 : readsIn K a (.type "type") = true) (hm : findIn K (.type "type") name = some none) (hf : findIn K (.ref a) name = some (some (.type n))) (ht : typeOf (.type n) = pure (.type "type")) :
    ClsReads K a name (.type n) := fun prog w A E s Q expr X q => by
  simp only [readsIn, Bool.and_eq_true, beq_iff_eq] at h1
  obtain ⟨⟨⟨⟨ra, rb⟩, rc⟩, rd⟩, rf⟩ := h1
  obtain ⟨hk, rd⟩ := Option.isSome_iff_exists.mp rd
  have ho := looks_opaque (M := model prog w) (C := a) X ra
  have hT := looks_typeIn (M := model prog w) X rb
  have hb := looks_hook (M := model prog w) X rd
  refine wpAny_bind (wpAny_mkText (wpAny_holding (wpAny_bind (hT _ _ _ _ (fun _ _ e => e) (wpAny_bind (looks_findIn X rc _ _ _ _ (fun _ _ e => e) ?_))))))
  dsimp only
  rw [show (onTheHeap (.type "type") && Value.builtin "type.__getattribute__" == Value.builtin "object.__getattribute__") = false from rfl, if_neg (by decide)]
  refine wpAny_bind (hb _ _ _ _ (fun _ _ e => e) (wpAny_bind (wpAny_attempt (wpAny_holding ?_))))
  unfold callGetattribute
  rw [show (expr && onTheHeap (Value.builtin "type.__getattribute__")) = false from Bool.and_false _, if_neg (by decide)]
  unfold boundAndCalled
  rw [KF.slot_tga.bind]
  refine wpAny_bind (wpAny_pure ?_)
  show wpAny _ _ (call (.builtin "type.__getattribute__") [.ref a, .str name s.toks]) _ _ _
  refine wpAny_call ?_
  refine codeAny_call_builtin KF.slot_tga.plain KF.entry_tga ?_
  refine @check_slot (model prog w) _ _ { s with toks := s.toks + 1 } "type.__getattribute__" "type" "__getattribute__" (.ref a) [.str name s.toks] [] _ (by decide +kernel) (by decide +kernel) (hT.andThen (looks_subIn X rf)) (KF.args_tga (.ref a) (.str name s.toks)) ?_
  unfold Builtin.«type.__getattribute__»
  refine wpAny_bind (wpAny_pure (wpAny_bind (ho.here (s := { s with toks := s.toks + 1 }) (wpAny_bind (hT.here (s := { s with toks := s.toks + 1 }) (wpAny_bind ((looks_findIn X hm).here (s := { s with toks := s.toks + 1 }) ?_)))))))
  refine wpAny_bind (wpAny_pure (wpAny_bind ((looks_findIn X hf).here (s := { s with toks := s.toks + 1 }) ?_)))
  dsimp only
  rw [if_neg (by simp [Builtin.heldUnderItsOwnName])]
  refine wpAny_bind ((Looks.of_pure ht).here (s := { s with toks := s.toks + 1 }) ?_)
  rw [if_neg (by decide +kernel)]
  refine wpAny_bind (wpAny_bind ((Looks.of_pure ht).here (s := { s with toks := s.toks + 1 }) ?_))
  rw [getless_type]
  exact wpAny_pure (wpAny_bind (wpAny_pure (wpAny_pure (wpAny_pure q))))
structure MethOk (K : Frag) (C : Addr) (name : Str) (f : Addr) : Prop where
  ga : findIn K (.ref C) "__getattribute__" = some (some (.builtin "object.__getattribute__"))
  gt : findIn K (.ref C) "__getattr__" = some none
  at_ : findIn K (.ref C) name = some (some (.ref f))
  fn : typeIn K (.ref f) = some (.type "function")
  bd : findObj K C (some emptyDict) name = some (.bind (.builtin "function.__get__") (.ref f))

noncomputable def CalleeOk (K : Frag) (a : Addr) : Prop := (∃ oc od fd sl, K.lookup a = some ⟨oc, od, .func fd, sl⟩) ∨ ∃ oc od cd sl r, K.lookup a = some ⟨oc, od, .cls cd, sl⟩ ∧ specialIn K (.ref a) "__call__" = some r

structure StOk (W : Wd) (T : St W) : Prop where
  glob : ∀ x v, T.glob x = some v → ∃ val, v.flat = true ∧ VRel (fun _ => none) W.h₀ v val ∧ (W.mg x = some val ∨ (W.mg x = none ∧ W.mb x = some val))
  noB : ∀ b : B, W.mg b.name = none
  noRange : W.mg "range" = none
  noRev : W.mg "reversed" = none
  slot : ∀ C name i, T.slot C name = some i → SlotOk W.K C name i
  cattr : ∀ a name v, T.cattr a name = some v → CAttrOk W.K W.h₀ a name v
  meth : ∀ C name f, T.meth C name = some f → MethOk W.K C name f
  callee : ∀ a, T.callee a = true → CalleeOk W.K a
  struct : ∀ a w sg, T.struct a = some (w, sg) → StructAt W.h₀ a w sg
  structD : ∀ a w sg, T.struct a = some (w, sg) → ∃ o, W.h₀.get? a = some o ∧ o.dict = none

section
variable {W : Wd} {A : Around} {hp : Hp} {s : Shared} {n : Nat} {T : St W}

theorem inst_at {a C : Addr} {f : Nat → Option V} (h : hp a = some (.inst C f)) (O : HOk W hp s) : ∃ dx sl, InstAt s.heap a ⟨.ref C, some dx, .plain, sl⟩ C (some emptyDict) ∧ hp dx = some .edict ∧
    ∀ i v, f i = some v → ∃ val, (sl[i]?).join = some val ∧ VRel hp s.heap v val := by
  obtain ⟨dx, sl, p, q, r⟩ := O.objs _ _ h
  exact ⟨dx, sl, ⟨p, rfl, rfl, O.objs _ _ q⟩, q, r⟩

theorem HOk.tick (O : HOk W hp s) (t : Nat) : HOk W hp { s with toks := t } := ⟨O.old, O.objs, O.fresh, O.high, O.gens, O.os⟩

theorem attr_sound {o : V} {name : Str} {ov : Value} {k : K1} {expr : Bool} (TO : StOk W T) (h : attrK T o name hp k) (O : HOk W hp s) (ro : VRel hp s.heap o ov) : EvV W A (getAttr ov name expr) k hp s := by
  unfold attrK at h
  split at h
  · rename_i a
    cases ro
    rcases h with ⟨v, hv, q⟩ | ⟨C, f, i, v, hl, hi, hv, hh, q⟩
    · obtain ⟨val, h1, h3, h4, h5, _⟩ := TO.cattr _ _ _ hv
      exact h1 _ _ _ _ _ _ _ O.inK (ev_val O q (h5.flat h4))
    · obtain ⟨ga, gt, _, _, _, p, hf, hs, _, _⟩ := TO.slot _ _ _ hi
      obtain ⟨dx, sl, I, _, r⟩ := inst_at hl O
      obtain ⟨val, e, rv⟩ := r i v hv
      refine get_bind O.inK I ga hf gt (wpAny_call (slot_get (s := { s with toks := s.toks + 1 }) (O.tick _).inK I hs e ?_))
      exact handed_on (handed_of hh rv) (ev_val O q rv)
  · exact h.elim
end
end Mine
namespace Mine
open PySem PySem.W PySem.Calls PyProof.Rows
open PySem.Builtin PySem.Builtin.ObjectAttr PySem.Builtin.Getset_descriptor

section
variable {prog : Program} {w : World} {A : Around} {s : Shared} {R : Result → Shared → Prop} {K : Frag} {x C : Addr}

/-- a slot is written: only the object itself changes -/
theorem member_set {od : Option Obj} {ox : Obj} {v : Value} {p i : Nat} (X : K.In s.heap) (I : InstAt s.heap x ox C od) (hp : slotIn K p C = some i) (hi : i < 100)
    (h : ∀ h', h'.get? x = some { ox with slots := (ox.slots ++ Array.replicate (i + 1 - ox.slots.size) none).setIfInBounds i (some v) } → Heap.SameBut x s.heap h' → R (.ok (.ret .none)) { s with heap := h' }) :
    codeAny (model prog w) A (.call (.builtin "member_descriptor.__set__") ⟨[.ref p, .ref x, v], []⟩) R s := by
  obtain ⟨n, tn, owner, behind, tb, d, sl, cd, ho, hc, hm, hb, rfl⟩ := slot_of X hp
  obtain ⟨hh, g, dr, t, os⟩ := s
  have hx := I.at_
  have nf : ox.isFreed = false := (Heap.get?_some_iff.mp hx).2
  have lT := I.type (M := model prog w)
  have lM := looks_mroIn (M := model prog w) X hm
  have lN : Looks (model prog w) hh (Builtin.Slots.slotNamesOf (.ref C)) cd.slotNames := (looks_clsIn X hc).andThen .now
  dsimp only at ho hx lT lM
  have g0 := looks_field (M := model prog w) ho 0 (v := .str n tn) rfl
  have g1 := looks_field (M := model prog w) ho 1 (v := owner) rfl
  have g3 := looks_field (M := model prog w) ho 3 (v := .builtin "proto.slot#set") rfl
  have g4 := looks_field (M := model prog w) ho 4 (v := .int behind tb) rfl
  refine codeAny_call_builtin KF.slot_mset.plain KF.entry_mset (KF.slot_mset.check _ _ _ _ _ _ _ _ ⟨_, ho, rfl⟩ (KF.args_mset _ _ _) ?_)
  unfold Builtin.«member_descriptor.__set__» descrSet descrStoreThrough descrCheckInstance descrNameAndClass isInstance
  have g5 : Looks (model prog w) hh (descrItself (.ref p)) [.ref p] := ((Looks.ld (part := none) ho).andThen .now).andThen (Looks.of_pure (by kernel_rfl))
  repeat lk
  refine ⟨Code.quiet_builtin _ (by decide +kernel), codeAny_builtin KF.entry_slotset ?_⟩
  unfold Builtin.«proto.slot#set» Slots.target
  repeat lk
  rw [if_neg hb]
  refine wpAny_pure (wpAny_bind ?_)
  unfold setSlotAt
  dsimp only
  rw [if_neg (by rw [sizeLine_eq]; omega)]
  refine wpAny_updatePart hx (wpAny_pure (h _ (Heap.get?_update_self _ hx ?_) (Heap.SameBut.update ..)))
  · obtain ⟨_, _, dt, _⟩ := ox
    cases dt <;> first | rfl | cases nf
end

section
variable {W : Wd} {A : Around} {hp : Hp} {s : Shared} {n : Nat} {T : St W}

/-- one object is another one now; the others stand -/
theorem HOk.updateK (O : HOk W hp s) {a : Addr} {x₀ x : Ob} {h' : Heap} (ha : hp a = some x₀) (hs : ∀ b o, b ≠ a → s.heap.get? b = some o → h'.get? b = some o) (t : Nat) (rel : Kept hp s.heap (hp.upd a x) h' → ORel W (hp.upd a x) h' a x) (hl : (h'.get? a).isSome = true) (hne : x₀ ≠ .edict := by nofun) :
    HOk W (hp.upd a x) { s with heap := h', toks := t } ∧ HStep hp s (hp.upd a x) { s with heap := h', toks := t } := by
  have ne : ∀ {b : Addr}, hp b = none → b ≠ a := fun q e => by rw [e, ha] at q; cases q
  have live : ∀ b, (s.heap.get? b).isSome = true → (h'.get? b).isSome = true := fun b e => by
    by_cases hb : b = a
    · subst hb; exact hl
    · obtain ⟨o, q⟩ := Option.isSome_iff_exists.mp e
      rw [hs b o hb q]; rfl
  have k : Kept hp s.heap (hp.upd a x) h' := ⟨fun b ob _ e q => ⟨hs b ob (ne q) e, by rw [upd_ne (ne q)]; exact q⟩, live⟩
  refine ⟨⟨fun b ob e => ?_, fun b ob e => ?_, fun b ob e => ?_, fun b ob e => ?_, O.gens, O.os⟩, ⟨fun b ob e q => hs b ob (ne q) e, fun b ob e q => by rw [upd_ne (ne q)]; exact q, live⟩⟩
  · have : b ≠ a := fun q => by rw [q, O.fresh a x₀ ha] at e; cases e
    exact hs b ob this (O.old b ob e)
  · by_cases hb : b = a
    · subst hb
      rw [upd_self] at e; cases e; exact rel k
    · rw [upd_ne hb] at e
      exact ORel.step k (fun c q => by rw [upd_ne (fun z => by rw [z, ha] at q; exact hne (Option.some.inj q))]; exact q) (fun o q => hs b o hb q) (O.objs b ob e)
  · by_cases hb : b = a
    · subst hb; exact O.fresh b x₀ ha
    · rw [upd_ne hb] at e; exact O.fresh b ob e
  · by_cases hb : b = a
    · subst hb; exact O.high b x₀ ha
    · rw [upd_ne hb] at e; exact O.high b ob e

theorem setAttr_sound {o v : V} {name : Str} {ov val : Value} {k : Hp → Prop} (TO : StOk W T) (h : setAttrK T o name v hp k) (O : HOk W hp s) (ro : VRel hp s.heap o ov) (rv : VRel hp s.heap v val) : EvU W A (setAttr ov name val) k hp s := by
  unfold setAttrK at h
  split at h
  · rename_i a
    cases ro
    split at h
    · rename_i C f hl
      obtain ⟨i, hi, q⟩ := h
      obtain ⟨ga, gt, sa, po, lt, p, hf, hsl, ht, hty⟩ := TO.slot _ _ _ hi
      obtain ⟨dx, sl, I, hed, r⟩ := inst_at hl O
      refine set_plain O.inK I sa ?_
      have O1 := O.tick (s.toks + 1)
      refine osa_descr (s := { s with toks := s.toks + 1 }) KF.slot_mset O1.inK I po ht hty ?_
      refine member_set (s := { s with toks := s.toks + 1 }) O1.inK I hsl lt fun h' ha' sb => ?_
      have step := O.updateK (x := .inst C (updF f i v)) hl (h' := h') (fun b o hb e => (sb.2 b hb).trans e) (s.toks + 1) (fun kp => ?_) (by rw [ha']; rfl)
      · exact ⟨(), _, q, trivial, step.1, step.2⟩
      · have hda : dx ≠ a := fun e => by rw [e, hl] at hed; cases hed
        refine ⟨dx, _, ha', by rw [upd_ne hda]; exact hed, fun j u hu => ?_⟩
        unfold updF at hu
        by_cases hj : j = i
        · subst hj
          rw [if_pos rfl] at hu; cases hu
          refine ⟨val, ?_, rv.step kp⟩
          rw [Array.getElem?_setIfInBounds_self_of_lt (by simp; omega)]; rfl
        · rw [if_neg hj] at hu
          obtain ⟨w, e, rw_⟩ := r j u hu
          refine ⟨w, ?_, rw_.step kp⟩
          rw [Array.getElem?_setIfInBounds_ne (by omega)]
          cases q : sl[j]? with
          | none => rw [q] at e; cases e
          | some z =>
            rw [Array.getElem?_append_left (Array.getElem?_eq_some_iff.mp q).1, q]
            rw [q] at e; exact e
    · exact h.elim
  · exact h.elim
end
end Mine
namespace Mine
open PySem PySem.W PySem.Calls PyProof.Rows

section
variable {α β : Type} {M : Model} {A : Around} {E : Value → Shared → Prop} {s : Shared}
theorem wpC_keep {t : Sem α} {vs : List Value} {Q : α → Shared → Prop} (h : wpC M A t Q E s) : wpC M A (t.keep vs) Q E s := fun Γ p hΓ hc => by
  rw [Sem.wp_keep]; exact h Γ p hΓ hc
theorem wpC_release {vs keep : List Value} {Q : Unit → Shared → Prop} (h : Q () s) : wpC M A (release vs keep) Q E s := wpC_of (wpAny_release h)
theorem wpC_operate {vs : List Value} {t : Sem Value} {Q : Value → Shared → Prop} (h : wpC M A t Q E s) : wpC M A (operate vs t) Q E s := by
  unfold operate
  exact wpC_bind (wpC_holding (wpC_mono h (fun r s' q => wpC_bind (wpC_release (wpC_pure q))) fun _ _ x => x))

theorem callWith_c {pos : Pos} {f : Value} {first : List Value} {args : List (Bool × Sem Value)} {keywords : List (Option Str × Sem Value)} {Q : Value → Shared → Prop}
    (h : wpC M A (evalArgs f true args keywords) (fun x s₁ => (∀ Q' : Keeper → Shared → Prop, (∀ k, Q' k s₁) → wpAny M A (keeperOf f) Q' E s₁) ∧ wpC M A (call f (first ++ x.pos) x.kw) Q E s₁) E s) :
    wpC M A (callWith pos f first args keywords) Q E s := by
  unfold callWith
  refine wpC_bind (wpC_holding (wpC_mono h (fun x s₁ h₁ => wpC_bind (wpC_standAt ?_)) fun _ _ x => x))
  refine wpC_bind (wpC_of (h₁.1 _ fun k => ?_))
  have tail : ∀ {t : Sem Value}, wpC M A t Q E s₁ → wpC M A (t >>= fun r => holding [r] point >>= fun _ => pure r) Q E s₁ :=
    fun ht => wpC_bind (wpC_mono ht (fun r s₂ hr => wpC_bind (wpC_holding (wpC_of (wpAny_point (wpC_pure hr))))) fun _ _ x => x)
  have c := h₁.2
  cases k <;> cases (args.any (·.1) || keywords.any (·.1.isNone)) <;> dsimp only
  all_goals (try split)
  all_goals first
    | exact tail c
    | exact tail (wpC_keep c)
    | exact tail (wpC_operate c)

/-! arguments, one behind the other -/
theorem evalArgs_c {f : Value} {args : List (Bool × Sem Value)} {keywords : List (Option Str × Sem Value)} {Q : Args → Shared → Prop} (hns : args.any (·.1) = false) (hkw : keywords.all (·.1.isSome) = true)
    (h : wpC M A (spliced args) (fun vs s₁ => wpC M A (evalAll (keywords.map (·.2))) (fun ks s₂ => Q ⟨vs, (keywords.filterMap (·.1)).zip ks⟩ s₂) E s₁) E s) : wpC M A (evalArgs f true args keywords) Q E s := by
  unfold evalArgs
  match args, hns with
  | [], _ =>
    simp only [hkw, if_true]
    exact wpC_bind (wpC_mono h (fun vs s₁ h₁ => wpC_bind (wpC_pure (wpC_holding (wpC_bind (wpC_mono h₁ (fun ks s₂ h₂ => wpC_bind (wpC_pure (wpC_pure h₂))) fun _ _ x => x))))) fun _ _ x => x)
  | (false, x) :: r, _ =>
    simp only [hkw, if_true]
    exact wpC_bind (wpC_mono h (fun vs s₁ h₁ => wpC_bind (wpC_pure (wpC_holding (wpC_bind (wpC_mono h₁ (fun ks s₂ h₂ => wpC_bind (wpC_pure (wpC_pure h₂))) fun _ _ x => x))))) fun _ _ x => x)
  | (true, x) :: r, e => simp at e
end
end Mine
namespace Mine
open PySem PySem.W PySem.Calls PyProof.Rows

section
variable {W : Wd} (T : St W) (n : Nat)
/-- what the conditions of an expression are worth -/
noncomputable def SE (e : E) : Prop := ∀ {sc : Scope} {lay : List Str} {ex : Expr} {env : Env} {A : Around} {vars : Vars} {hp : Hp} {s : Shared} {k : K1}, okE sc lay e ex = true → lay.Nodup → FrOk W sc env → Room n A → HOk W hp s →
  VarsRel sc lay env vars hp s.heap → vcE T n e vars hp k → CvV W A (eval ex env) k hp s
/-- the same where only its truth is asked -/
noncomputable def ST (e : E) : Prop := ∀ {sc : Scope} {lay : List Str} {ex : Expr} {env : Env} {A : Around} {vars : Vars} {hp : Hp} {s : Shared} {k : Bool → Hp → Prop}, okE sc lay e ex = true → lay.Nodup → FrOk W sc env → Room n A → HOk W hp s →
  VarsRel sc lay env vars hp s.heap → vcE T n e vars hp (fun v hp' => ∃ t, truV hp' v = some t ∧ k t hp') → CvB W A (isTrue ex env (eval ex env)) k hp s
/-- a row of expressions -/
noncomputable def SEs (es : List E) : Prop := ∀ {sc : Scope} {lay : List Str} {exs : List Expr} {env : Env} {A : Around} {vars : Vars} {hp : Hp} {s : Shared} {k : List V → Hp → Prop} {pos : Pos}, okEs sc lay es exs = true → lay.Nodup → FrOk W sc env → Room n A → HOk W hp s →
  VarsRel sc lay env vars hp s.heap → vcEs T n es vars hp k → CvVs W A (spliced (backTo pos (starEach exs env))) k hp s

variable {T n}

theorem se_none : SE T n .none := fun {sc lay ex env A vars hp s k} ok nd F R O V h => by
  unfold okE at ok; split at ok
  · exact Cv.pure O h rfl
  · cases ok
theorem se_bool {b : Bool} : SE T n (.bool b) := fun {sc lay ex env A vars hp s k} ok nd F R O V h => by
  unfold okE at ok; split at ok
  · rw [← beq_iff_eq.mp ok]
    exact Cv.pure O h rfl
  · cases ok
theorem se_int {i : Int} : SE T n (.int i) := fun {sc lay ex env A vars hp s k} ok nd F R O V h => by
  unfold okE at ok; split at ok
  · rw [← beq_iff_eq.mp ok]
    exact wpC_of (wpAny_mkInt (ev_val O h ⟨_, rfl⟩))
  · cases ok
theorem se_str {x : Str} : SE T n (.str x) := fun {sc lay ex env A vars hp s k} ok nd F R O V h => by
  unfold okE at ok; split at ok
  · rw [← beq_iff_eq.mp ok]
    exact wpC_of (wpAny_mkText (ev_val O h ⟨_, rfl⟩))
  · cases ok
theorem se_bytes {b : List UInt8} : SE T n (.bytes b) := fun {sc lay ex env A vars hp s k} ok nd F R O V h => by
  unfold okE at ok; split at ok
  · rw [Bool.and_eq_true] at ok
    rw [← beq_iff_eq.mp ok.1]
    exact wpC_of (Constant_bytes (ev_val O h ⟨_, rfl⟩))
  · cases ok
theorem se_var {i : Nat} : SE T n (.var i) := fun {sc lay ex env A vars hp s k} ok nd F R O V h => by
  unfold okE at ok; split at ok
  · rename_i x pos
    simp only [Bool.and_eq_true, beq_iff_eq] at ok
    obtain ⟨⟨hx, hk⟩, hp'⟩ := ok
    unfold vcE at h
    obtain ⟨v, hv, q⟩ := h
    simp only [plainName, Bool.and_eq_true, bne_iff_ne, ne_eq] at hp'
    refine (ev_var F V O hx ?_ hv (beq_false_of_ne hp'.1) (beq_false_of_ne hp'.2) q).c
    unfold isVar at hk
    split at hk <;> first | (rename_i e; exact .inl e) | (rename_i e; exact .inr (.inl e)) | (rename_i e; exact .inr (.inr e)) | cases hk
  · cases ok
theorem se_glob (TO : StOk W T) {y : Str} : SE T n (.glob y) := fun {sc lay ex env A vars hp s k} ok nd F R O V h => by
  unfold okE at ok; split at ok
  · rename_i x pos
    simp only [Bool.and_eq_true, beq_iff_eq] at ok
    obtain ⟨rfl, hg⟩ := ok
    unfold vcE at h
    obtain ⟨v, hv, q⟩ := h
    simp only [isGlob, Bool.and_eq_true, beq_iff_eq, bne_iff_ne, ne_eq] at hg
    obtain ⟨val, hf, r, hw⟩ := TO.glob _ _ hv
    refine wpC_of (wpAny_Name ?_ (beq_false_of_ne hg.2))
    rw [loadName_read F.kind (F.glo _ hg.1)]
    rcases hw with hw | ⟨h1, h2⟩
    · exact loadGlobal_global (by rw [F.globals]; exact O.hg) hw (ev_here (R := VRel) O q (r.flat hf))
    · exact loadGlobal_builtin (by rw [F.globals]; exact O.hg) h1 (by rw [F.builtins]; exact O.hb) h2 (ev_here (R := VRel) O q (r.flat hf))
  · cases ok

theorem se_bin {op : Operator} {l r : E} (L : SE T n l) (Rr : SE T n r) : SE T n (.bin op l r) := fun {sc lay ex env A vars hp s k} ok nd F R O V h => by
  unfold okE at ok; split at ok
  · simp only [Bool.and_eq_true, beq_iff_eq] at ok
    obtain ⟨⟨rfl, o1⟩, o2⟩ := ok
    unfold vcE at h
    rw [arm_eval_BinOp]
    exact Cv.bind (L o1 nd F R O V h) fun a av hp₁ s₁ h₁ ra O₁ S₁ => Cv.bind (Cv.holding (Rr o2 nd F R O₁ (V.at S₁) h₁)) fun b bv hp₂ s₂ h₂ rb O₂ S₂ => Cv.stand (wpC_operate (bin_sound h₂ O₂ (ra.at S₂) rb).c)
  · cases ok
theorem se_ladd {l r : E} (L : SE T n l) (Rr : SE T n r) : SE T n (.ladd l r) := fun {sc lay ex env A vars hp s k} ok nd F R O V h => by
  unfold okE at ok; split at ok
  · simp only [Bool.and_eq_true, beq_iff_eq] at ok
    obtain ⟨⟨rfl, o1⟩, o2⟩ := ok
    unfold vcE at h
    rw [arm_eval_BinOp]
    exact Cv.bind (L o1 nd F R O V h) fun a av hp₁ s₁ h₁ ra O₁ S₁ => Cv.bind (Cv.holding (Rr o2 nd F R O₁ (V.at S₁) h₁)) fun b bv hp₂ s₂ h₂ rb O₂ S₂ => Cv.stand (wpC_operate (ladd_sound h₂ O₂ (ra.at S₂) rb).c)
  · cases ok
theorem se_lmul {l r : E} (L : SE T n l) (Rr : SE T n r) : SE T n (.lmul l r) := fun {sc lay ex env A vars hp s k} ok nd F R O V h => by
  unfold okE at ok; split at ok
  · simp only [Bool.and_eq_true, beq_iff_eq] at ok
    obtain ⟨⟨rfl, o1⟩, o2⟩ := ok
    unfold vcE at h
    rw [arm_eval_BinOp]
    exact Cv.bind (L o1 nd F R O V h) fun a av hp₁ s₁ h₁ ra O₁ S₁ => Cv.bind (Cv.holding (Rr o2 nd F R O₁ (V.at S₁) h₁)) fun b bv hp₂ s₂ h₂ rb O₂ S₂ => Cv.stand (wpC_operate (lmul_sound h₂ O₂ (ra.at S₂) rb).c)
  · cases ok
theorem se_bmul {l r : E} (L : SE T n l) (Rr : SE T n r) : SE T n (.bmul l r) := fun {sc lay ex env A vars hp s k} ok nd F R O V h => by
  unfold okE at ok; split at ok
  · simp only [Bool.and_eq_true, beq_iff_eq] at ok
    obtain ⟨⟨rfl, o1⟩, o2⟩ := ok
    unfold vcE at h
    rw [arm_eval_BinOp]
    exact Cv.bind (L o1 nd F R O V h) fun a av hp₁ s₁ h₁ ra O₁ S₁ => Cv.bind (Cv.holding (Rr o2 nd F R O₁ (V.at S₁) h₁)) fun b bv hp₂ s₂ h₂ rb O₂ S₂ => Cv.stand (wpC_operate (bmul_sound h₂ O₂ (ra.at S₂) rb).c)
  · cases ok
theorem se_neg {x : E} (X : SE T n x) : SE T n (.neg x) := fun {sc lay ex env A vars hp s k} ok nd F R O V h => by
  unfold okE at ok; split at ok
  · unfold vcE at h
    rw [arm_eval_UnaryOp]
    refine Cv.bind (X ok nd F R O V h) fun a av hp₁ s₁ h₁ ra O₁ S₁ => Cv.stand (Cv.holding ?_)
    obtain ⟨i, rfl, q⟩ := h₁
    exact (neg_sound q O₁ ra).c
  · cases ok
theorem se_inv {x : E} (X : SE T n x) : SE T n (.inv x) := fun {sc lay ex env A vars hp s k} ok nd F R O V h => by
  unfold okE at ok; split at ok
  · unfold vcE at h
    rw [arm_eval_UnaryOp]
    refine Cv.bind (X ok nd F R O V h) fun a av hp₁ s₁ h₁ ra O₁ S₁ => Cv.stand (Cv.holding ?_)
    obtain ⟨i, rfl, q⟩ := h₁
    exact (inv_sound q O₁ ra).c
  · cases ok
theorem se_not {x : E} (X : SE T n x) : SE T n (.not x) := fun {sc lay ex env A vars hp s k} ok nd F R O V h => by
  unfold okE at ok; split at ok
  · unfold vcE at h
    rw [arm_eval_UnaryOp]
    refine Cv.bind (X ok nd F R O V h) fun a av hp₁ s₁ h₁ ra O₁ S₁ => Cv.stand (Cv.holding ?_)
    obtain ⟨b, e, q⟩ := h₁
    exact (not_sound e q O₁ ra).c
  · cases ok
end
end Mine
namespace Mine
open PySem PySem.W PySem.Calls PyProof.Rows

section
variable {W : Wd} {T : St W} {n : Nat}

theorem isTrue_plain {ex : Expr} {env : Env} {t : Sem Value} (h : plainTest ex = true) : isTrue ex env t = (do let v ← t; standAt ex.pos; holding [v] (truthy v)) := by
  cases ex <;> first | rfl | cases h | skip
  rename_i op x p
  cases op <;> first | rfl | cases h

theorem st_gen {e : E} (S : SE T n e) (hx : ∀ {sc lay ex}, okE sc lay e ex = true → plainTest ex = true) : ST T n e := fun {sc lay ex env A vars hp s k} ok nd F R O V h => by
  rw [isTrue_plain (hx ok)]
  refine Cv.bind (S ok nd F R O V h) fun a av hp₁ s₁ h₁ ra O₁ S₁ => Cv.stand (Cv.holding ?_)
  obtain ⟨t, e, q⟩ := h₁
  exact (tru_sound e q O₁ ra).c

theorem Cv.mapB {A : Around} {hp : Hp} {s : Shared} {k : Bool → Hp → Prop} {t : Sem Bool} {f : Bool → Bool} (h : CvB W A t (fun b => k (f b)) hp s) : CvB W A (do return f (← t)) k hp s :=
  Cv.bind h fun b a hp' s' q r O S => by rw [r]; exact Cv.pure O q rfl

theorem st_not {x : E} (X : ST T n x) : ST T n (.not x) := fun {sc lay ex env A vars hp s k} ok nd F R O V h => by
  unfold okE at ok; split at ok
  · unfold vcE at h
    rw [arm_isTrue_UnaryOp]
    refine Cv.mapB (f := fun b => !b) (X (k := fun b => k (!b)) ok nd F R O V ?_)
    refine cast (congrArg (vcE T n x _ _) ?_) h
    funext v hp'
    refine propext ⟨fun ⟨b, e, t, e2, q⟩ => ⟨b, e, by cases e2; exact q⟩, fun ⟨b, e, q⟩ => ⟨b, e, !b, rfl, q⟩⟩
  · cases ok

/-! comparisons -/
theorem cmp_run {op : CmpOp} {a b : V} {c : Bool} {av bv : Value} {A : Around} {hp : Hp} {s : Shared} {k : K1} (h : cmpV op a b = some c) (q : k (.bool c) hp) (O : HOk W hp s) (ra : VRel hp s.heap a av) (rb : VRel hp s.heap b bv) :
    CvV W A (compareOp op av bv) (fun (v : Mine.V) hp' => v = .bool c ∧ k (.bool c) hp') hp s := (cmp_sound (k := fun (v : Mine.V) hp' => v = .bool c ∧ k (.bool c) hp') h ⟨rfl, q⟩ O ra rb).c

theorem marked_one {op : CmpOp} {e : Expr} {t : Sem Value} (h : behindInMarks op e = false) : markedEach [op] [e] [t] = [t] := by
  show [markedBehindIn op e t] = [t]
  unfold markedBehindIn; rw [h]

theorem se_cmp {op : CmpOp} {l r : E} (L : SE T n l) (Rr : SE T n r) : SE T n (.cmp op l r) := fun {sc lay ex env A vars hp s k} ok nd F R O V h => by
  unfold okE at ok; split at ok
  · simp only [Bool.and_eq_true, beq_iff_eq, Bool.not_eq_true'] at ok
    obtain ⟨⟨⟨rfl, hm⟩, o1⟩, o2⟩ := ok
    unfold vcE at h
    rw [arm_eval_Compare]
    refine Cv.bind (L o1 nd F R O V h) fun a av hp₁ s₁ h₁ ra O₁ S₁ => ?_
    rw [arm_evalEach_cons, arm_evalEach_nil, marked_one hm]
    refine Cv.bind (Cv.holding (Rr o2 nd F R O₁ (V.at S₁) h₁)) fun b bv hp₂ s₂ h₂ rb O₂ S₂ => Cv.stand (wpC_operate ?_)
    obtain ⟨c, e, q⟩ := h₂
    exact (cmp_sound e q O₂ (ra.at S₂) rb).c
  · cases ok
theorem st_cmp {op : CmpOp} {l r : E} (L : SE T n l) (Rr : SE T n r) : ST T n (.cmp op l r) := fun {sc lay ex env A vars hp s k} ok nd F R O V h => by
  unfold okE at ok; split at ok
  · simp only [Bool.and_eq_true, beq_iff_eq, Bool.not_eq_true'] at ok
    obtain ⟨⟨⟨rfl, hm⟩, o1⟩, o2⟩ := ok
    unfold vcE at h
    rw [arm_isTrue_Compare]
    refine Cv.bind (L o1 nd F R O V h) fun a av hp₁ s₁ h₁ ra O₁ S₁ => ?_
    rw [arm_evalEach_cons, arm_evalEach_nil, marked_one hm]
    refine Cv.bind (Cv.holding (Rr o2 nd F R O₁ (V.at S₁) h₁)) fun b bv hp₂ s₂ h₂ rb O₂ S₂ => Cv.stand ?_
    obtain ⟨c, e, t, e2, q⟩ := h₂
    refine Cv.bind (wpC_operate (cmp_run (k := fun _ hp' => k c hp') e (by cases e2; exact q) O₂ (ra.at S₂) rb)) fun v vv hp₃ s₃ h₃ rv O₃ S₃ => Cv.holding ?_
    obtain ⟨rfl, q3⟩ := h₃
    exact (tru_sound (b := c) rfl q3 O₃ rv).c
  · cases ok

theorem se_isn {neg : Bool} {l : E} (L : SE T n l) : SE T n (.isn neg l) := fun {sc lay ex env A vars hp s k} ok nd F R O V h => by
  unfold okE at ok; split at ok
  · simp only [Bool.and_eq_true, beq_iff_eq] at ok
    obtain ⟨rfl, o1⟩ := ok
    unfold vcE at h
    rw [arm_eval_Compare]
    refine Cv.bind (L o1 nd F R O V h) fun a av hp₁ s₁ h₁ ra O₁ S₁ => ?_
    rw [arm_evalEach_cons, arm_evalEach_nil, marked_one (by rfl)]
    refine Cv.bind (Q₁ := fun (v : Mine.V) hp' => v = .none ∧ ∃ c, isnV a = some c ∧ k (.bool (if neg then !c else c)) hp') (Cv.holding (Cv.pure (R := VRel) (b := Mine.V.none) O₁ ⟨rfl, h₁⟩ (show VRel hp₁ s₁.heap Mine.V.none Value.none from rfl))) fun b bv hp₂ s₂ h₂ rb O₂ S₂ => Cv.stand (wpC_operate ?_)
    obtain ⟨rfl, c, e, q⟩ := h₂
    cases rb
    exact (isn_sound neg e q O₂ (ra.at S₂)).c
  · cases ok
theorem st_isn {neg : Bool} {l : E} (L : SE T n l) : ST T n (.isn neg l) := fun {sc lay ex env A vars hp s k} ok nd F R O V h => by
  unfold okE at ok; split at ok
  · simp only [Bool.and_eq_true, beq_iff_eq] at ok
    obtain ⟨rfl, o1⟩ := ok
    unfold vcE at h
    rw [arm_isTrue_Compare]
    refine Cv.bind (L o1 nd F R O V h) fun a av hp₁ s₁ h₁ ra O₁ S₁ => ?_
    rw [arm_evalEach_cons, arm_evalEach_nil, marked_one (by rfl)]
    obtain ⟨c, e, t, e2, q⟩ := h₁
    have e2 : (if neg = true then !c else c) = t := by cases neg <;> cases e2 <;> rfl
    subst e2
    refine Cv.bind (Q₁ := fun (v : Mine.V) hp' => v = .none ∧ hp' = hp₁) (Cv.holding (Cv.pure (R := VRel) (b := Mine.V.none) O₁ ⟨rfl, rfl⟩ (show VRel hp₁ s₁.heap Mine.V.none Value.none from rfl))) fun b bv hp₂ s₂ h₂ rb O₂ S₂ => Cv.stand ?_
    obtain ⟨rfl, rfl⟩ := h₂
    cases rb
    refine Cv.bind (wpC_operate (isn_sound (k := fun (v : Mine.V) hp' => v = .bool (if neg then !c else c) ∧ k (if neg then !c else c) hp') neg e ⟨rfl, q⟩ O₂ (ra.at S₂)).c) fun v vv hp₃ s₃ h₃ rv O₃ S₃ => Cv.holding ?_
    obtain ⟨rfl, q3⟩ := h₃
    exact (tru_sound (b := if neg then !c else c) rfl q3 O₃ rv).c
  · cases ok

theorem marked_two {o₁ o₂ : CmpOp} {e₁ e₂ : Expr} {t₁ t₂ : Sem Value} (h : lastMarks [o₁, o₂] [e₁, e₂] = false) : markedEach [o₁, o₂] [e₁, e₂] [t₁, t₂] = [t₁, t₂] := by
  show t₁ :: [markedBehindIn o₂ e₂ t₂] = [t₁, t₂]
  unfold markedBehindIn
  rw [show behindInMarks o₂ e₂ = false from h]

theorem se_chain {l m r : E} {o₁ o₂ : CmpOp} (L : SE T n l) (Mm : SE T n m) (Rr : SE T n r) : SE T n (.chain l o₁ m o₂ r) := fun {sc lay ex env A vars hp s k} ok nd F R O V h => by
  unfold okE at ok; split at ok
  · simp only [Bool.and_eq_true, beq_iff_eq, Bool.not_eq_true'] at ok
    obtain ⟨⟨⟨⟨⟨rfl, rfl⟩, hm⟩, o1⟩, o2⟩, o3⟩ := ok
    unfold vcE at h
    rw [arm_eval_Compare]
    refine Cv.bind (L o1 nd F R O V h) fun a av hp₁ s₁ h₁ ra O₁ S₁ => ?_
    rw [arm_evalEach_cons, arm_evalEach_cons, arm_evalEach_nil, marked_two hm]
    refine Cv.bind (Cv.holding (Mm o2 nd F R O₁ (V.at S₁) h₁)) fun b bv hp₂ s₂ h₂ rb O₂ S₂ => Cv.stand ?_
    obtain ⟨c, e, q⟩ := h₂
    refine Cv.bind (Q₁ := fun (v : Mine.V) hp' => v = .bool c ∧ hp' = hp₂) (Cv.holding (cmp_sound (k := fun (v : Mine.V) hp' => v = .bool c ∧ hp' = hp₂) e ⟨rfl, rfl⟩ O₂ (ra.at S₂) rb).c) fun v vv hp₃ s₃ h₃ rv O₃ S₃ => ?_
    obtain ⟨rfl, rfl⟩ := h₃
    refine wpC_bind (wpC_release ?_)
    refine Cv.bind (Q₁ := fun t hp' => t = c ∧ hp' = hp₃) (Cv.holding (tru_sound (b := c) rfl ⟨rfl, rfl⟩ O₃ rv).c) fun t tv hp₄ s₄ h₄ rt O₄ S₄ => ?_
    obtain ⟨rfl, rfl⟩ := h₄
    subst rt
    cases tv with
    | false =>
      rw [if_neg Bool.false_ne_true] at q ⊢
      exact Cv.pure O₄ q (rv.at S₄)
    | true =>
      rw [if_pos rfl] at q ⊢
      refine Cv.bind (Cv.holding (Rr o3 nd F R O₄ (V.at ((S₁.trans S₂).trans (S₃.trans S₄))) q)) fun d dv hp₅ s₅ h₅ rd O₅ S₅ => Cv.stand (wpC_operate ?_)
      obtain ⟨e', e2, q2⟩ := h₅
      exact (cmp_sound e2 q2 O₅ (rb.at ((S₃.trans S₄).trans S₅)) rd).c
  · cases ok
theorem st_chain {l m r : E} {o₁ o₂ : CmpOp} (L : SE T n l) (Mm : SE T n m) (Rr : SE T n r) : ST T n (.chain l o₁ m o₂ r) := fun {sc lay ex env A vars hp s k} ok nd F R O V h => by
  unfold okE at ok; split at ok
  · simp only [Bool.and_eq_true, beq_iff_eq, Bool.not_eq_true'] at ok
    obtain ⟨⟨⟨⟨⟨rfl, rfl⟩, hm⟩, o1⟩, o2⟩, o3⟩ := ok
    unfold vcE at h
    rw [arm_isTrue_Compare]
    refine Cv.bind (L o1 nd F R O V h) fun a av hp₁ s₁ h₁ ra O₁ S₁ => ?_
    rw [arm_evalEach_cons, arm_evalEach_cons, arm_evalEach_nil, marked_two hm]
    refine Cv.bind (Cv.holding (Mm o2 nd F R O₁ (V.at S₁) h₁)) fun b bv hp₂ s₂ h₂ rb O₂ S₂ => Cv.stand ?_
    obtain ⟨c, e, q⟩ := h₂
    refine Cv.bind (Q₁ := fun (v : Mine.V) hp' => v = .bool c ∧ hp' = hp₂) (Cv.holding (cmp_sound (k := fun (v : Mine.V) hp' => v = .bool c ∧ hp' = hp₂) e ⟨rfl, rfl⟩ O₂ (ra.at S₂) rb).c) fun v vv hp₃ s₃ h₃ rv O₃ S₃ => ?_
    obtain ⟨rfl, rfl⟩ := h₃
    refine wpC_bind (wpC_release ?_)
    show CvB W A _ k hp₃ s₃
    refine Cv.bind (Q₁ := fun t hp' => t = c ∧ hp' = hp₃) (Cv.holding (tru_sound (b := c) rfl ⟨rfl, rfl⟩ O₃ rv).c) fun t tv hp₄ s₄ h₄ rt O₄ S₄ => ?_
    obtain ⟨rfl, rfl⟩ := h₄
    subst rt
    cases tv with
    | false =>
      rw [if_neg Bool.false_ne_true] at q ⊢
      obtain ⟨t, e2, q⟩ := q
      cases e2
      exact Cv.pure O₄ q rfl
    | true =>
      rw [if_pos rfl] at q ⊢
      refine Cv.bind (Cv.holding (Rr o3 nd F R O₄ (V.at ((S₁.trans S₂).trans (S₃.trans S₄))) q)) fun d dv hp₅ s₅ h₅ rd O₅ S₅ => Cv.stand ?_
      obtain ⟨e', e2, t, e3, q2⟩ := h₅
      cases e3
      refine Cv.bind (Q₁ := fun (v : Mine.V) hp' => v = .bool e' ∧ k e' hp') (wpC_operate (cmp_sound (k := fun (v : Mine.V) hp' => v = .bool e' ∧ k e' hp') e2 ⟨rfl, q2⟩ O₅ (rb.at ((S₃.trans S₄).trans S₅)) rd).c) fun v vv hp₆ s₆ h₆ rv O₆ S₆ => Cv.holding ?_
      obtain ⟨rfl, q6⟩ := h₆
      exact (tru_sound (b := e') rfl q6 O₆ rv).c
  · cases ok

theorem se_ite {c a b : E} (C : ST T n c) (Aa : SE T n a) (Bb : SE T n b) : SE T n (.ite c a b) := fun {sc lay ex env A vars hp s k} ok nd F R O V h => by
  unfold okE at ok; split at ok
  · simp only [Bool.and_eq_true] at ok
    unfold vcE at h
    rw [arm_eval_IfExp]
    refine Cv.bind (C (k := fun t hp' => if t then vcE T n a vars hp' k else vcE T n b vars hp' k) ok.1.1 nd F R O V h) fun t tv hp₁ s₁ h₁ rt O₁ S₁ => ?_
    subst rt
    cases tv with
    | false => rw [if_neg Bool.false_ne_true] at h₁ ⊢; exact Bb ok.2 nd F R O₁ (V.at S₁) h₁
    | true => rw [if_pos rfl] at h₁ ⊢; exact Aa ok.1.2 nd F R O₁ (V.at S₁) h₁
  · cases ok
theorem st_ite {c a b : E} (C : ST T n c) (Aa : ST T n a) (Bb : ST T n b) : ST T n (.ite c a b) := fun {sc lay ex env A vars hp s k} ok nd F R O V h => by
  unfold okE at ok; split at ok
  · simp only [Bool.and_eq_true] at ok
    unfold vcE at h
    rw [arm_isTrue_IfExp]
    refine Cv.bind (C (k := fun t hp' => if t then vcE T n a vars hp' _ else vcE T n b vars hp' _) ok.1.1 nd F R O V h) fun t tv hp₁ s₁ h₁ rt O₁ S₁ => ?_
    subst rt
    cases tv with
    | false => rw [if_neg Bool.false_ne_true] at h₁ ⊢; exact Bb ok.2 nd F R O₁ (V.at S₁) h₁
    | true => rw [if_pos rfl] at h₁ ⊢; exact Aa ok.1.2 nd F R O₁ (V.at S₁) h₁
  · cases ok
end
end Mine
namespace Mine
open PySem PySem.W PySem.Calls PyProof.Rows

section
variable {W : Wd} {T : St W} {n : Nat}

/-! rows -/
theorem se_row : ∀ {es : List E}, (∀ e ∈ es, SE T n e) → SEs T n es
  | [], _, sc, lay, exs, env, A, vars, hp, s, k, pos, ok, nd, F, R, O, V, h => by
    unfold okEs at ok; split at ok
    · unfold vcEs at h
      exact Cv.pure (b := []) O h rfl
    · cases ok
  | e :: es, all, sc, lay, exs, env, A, vars, hp, s, k, pos, ok, nd, F, R, O, V, h => by
    unfold okEs at ok; split at ok
    · rename_i x xs
      simp only [Bool.and_eq_true] at ok
      obtain ⟨⟨o1, o2⟩, o3⟩ := ok
      unfold vcEs at h
      have e1 : spliced (backTo pos (starEach (x :: xs) env)) = (do let v ← eval x env; let here ← pure [v]; return here ++ (← holding here (spliced (backTo pos (starEach xs env))))) := by
        cases x <;> first | rfl | cases o1
      rw [e1]
      refine Cv.bind (all e (.head _) o2 nd F R O V h) fun a av hp₁ s₁ h₁ ra O₁ S₁ => ?_
      refine wpC_bind (wpC_pure ?_)
      refine Cv.bind (Cv.holding (se_row (fun e h => all e (.tail _ h)) o3 nd F R O₁ (V.at S₁) h₁)) fun b bv hp₂ s₂ h₂ rb O₂ S₂ => ?_
      exact Cv.pure O₂ h₂ ⟨av, bv, rfl, ra.at S₂, rb⟩
    · cases ok

theorem row_plain : ∀ {es : List E} {sc lay exs env pos}, okEs sc lay es exs = true → (backTo pos (starEach exs env)).any (·.1) = false
  | [], sc, lay, exs, env, pos, ok => by
    unfold okEs at ok; split at ok
    · rfl
    · cases ok
  | e :: es, sc, lay, exs, env, pos, ok => by
    unfold okEs at ok; split at ok
    · rename_i x xs
      simp only [Bool.and_eq_true] at ok
      obtain ⟨⟨o1, o2⟩, o3⟩ := ok
      have := row_plain (env := env) (pos := pos) o3
      have e1 : starEach (x :: xs) env = (false, eval x env) :: starEach xs env := by cases x <;> first | rfl | cases o1
      rw [e1]
      simpa [backTo] using this
    · cases ok

/-- the values of keywords, one behind the other -/
theorem se_kws : ∀ {es : List E} {kwn : List Str}, (∀ e ∈ es, SE T n e) → ∀ {sc lay ks env A vars hp s pos} {k : List V → Hp → Prop}, okKs sc lay kwn es ks = true → lay.Nodup → FrOk W sc env → Room n A → HOk W hp s →
    VarsRel sc lay env vars hp s.heap → vcEs T n es vars hp k → CvVs W A (evalAll ((backToKw pos (keywordEach ks env)).map (·.2))) k hp s
  | [], kwn, _, sc, lay, ks, env, A, vars, hp, s, pos, k, ok, nd, F, R, O, V, h => by
    unfold okKs at ok; split at ok
    · unfold vcEs at h
      exact Cv.pure (b := []) O h rfl
    · cases ok
  | e :: es, kwn, all, sc, lay, ks, env, A, vars, hp, s, pos, k, ok, nd, F, R, O, V, h => by
    unfold okKs at ok; split at ok
    · rename_i nm x kp xs
      split at ok
      · simp only [Bool.and_eq_true] at ok
        obtain ⟨⟨o1, o2⟩, o3⟩ := ok
        unfold vcEs at h
        show CvVs W A (do let v ← (do let v ← eval x env; standAt pos; pure v); return v :: (← holding [v] (evalAll ((backToKw pos (keywordEach xs env)).map (·.2))))) k hp s
        refine wpC_bind ?_
        refine wpC_mono (Cv.bind (Q₁ := fun v hp' => vcEs T n es vars hp' fun vs hp₂ => k (v :: vs) hp₂) (all e (.head _) o2 nd F R O V h) fun a av hp₁ s₁ h₁ ra O₁ S₁ => Cv.stand (Cv.pure (R := VRel) (Q := fun v hp' => vcEs T n es vars hp' fun vs hp₂ => k (v :: vs) hp₂) O₁ h₁ ra)) (fun av s₁ hx => ?_) fun _ _ x => x
        obtain ⟨a, hp₁, h₁, ra, O₁, S₁⟩ := hx
        refine Cv.then S₁ ?_
        refine Cv.bind (Cv.holding (se_kws (fun e h => all e (.tail _ h)) o3 nd F R O₁ (V.at S₁) h₁)) fun b bv hp₂ s₂ h₂ rb O₂ S₂ => ?_
        exact Cv.pure O₂ h₂ ⟨av, bv, rfl, ra.at S₂, rb⟩
      · cases ok
    · cases ok

theorem kws_names : ∀ {es : List E} {kwn : List Str} {sc lay ks env pos}, okKs sc lay kwn es ks = true → (backToKw pos (keywordEach ks env)).all (·.1.isSome) = true ∧ (backToKw pos (keywordEach ks env)).filterMap (·.1) = kwn ∧ ks.length = es.length
  | [], kwn, sc, lay, ks, env, pos, ok => by
    unfold okKs at ok; split at ok
    · refine ⟨rfl, ?_, rfl⟩
      simp only [List.isEmpty_iff] at ok
      rw [ok]; rfl
    · cases ok
  | e :: es, kwn, sc, lay, ks, env, pos, ok => by
    unfold okKs at ok; split at ok
    · rename_i nm x kp xs
      split at ok
      · rename_i m ms
        simp only [Bool.and_eq_true, beq_iff_eq] at ok
        obtain ⟨⟨rfl, o2⟩, o3⟩ := ok
        obtain ⟨i1, i2, i3⟩ := kws_names (env := env) (pos := pos) o3
        refine ⟨?_, ?_, by simp [i3]⟩
        · simpa [backToKw, keywordEach] using i1
        · have e1 : backToKw pos (keywordEach ({ arg := some m, value := x, pos := kp } :: xs) env) = (some m, do let v ← eval x env; standAt pos; pure v) :: backToKw pos (keywordEach xs env) := rfl
          rw [e1, List.filterMap_cons, i2]
      · cases ok
    · cases ok

theorem row_len : ∀ {es : List E} {sc lay exs}, okEs sc lay es exs = true → exs.length = es.length
  | [], sc, lay, exs, ok => by
    unfold okEs at ok; split at ok
    · rfl
    · cases ok
  | e :: es, sc, lay, exs, ok => by
    unfold okEs at ok; split at ok
    · simp only [Bool.and_eq_true] at ok
      simp [row_len ok.2]
    · cases ok

/-! and, or -/
theorem se_and : ∀ {xs : List E}, (∀ e ∈ xs, SE T n e) → ∀ {sc lay vs env A vars hp s k pos}, okEs sc lay xs vs = true → lay.Nodup → FrOk W sc env → Room n A → HOk W hp s → VarsRel sc lay env vars hp s.heap → vcAnd T n xs vars hp k →
    CvV W A (boolOp pos .And (evalEach vs env)) k hp s
  | [], _, sc, lay, vs, env, A, vars, hp, s, k, pos, ok, nd, F, R, O, V, h => by unfold vcAnd at h; exact h.elim
  | e :: r, all, sc, lay, vs, env, A, vars, hp, s, k, pos, ok, nd, F, R, O, V, h => by
    unfold okEs at ok; split at ok
    · rename_i x xs
      simp only [Bool.and_eq_true] at ok
      obtain ⟨⟨o1, o2⟩, o3⟩ := ok
      unfold vcAnd at h
      cases r with
      | nil =>
        unfold okEs at o3; split at o3
        · exact all e (.head _) o2 nd F R O V h
        · cases o3
      | cons e2 r2 =>
        dsimp only at h
        have hx : ∃ y ys, xs = y :: ys := by
          unfold okEs at o3; split at o3
          · exact ⟨_, _, rfl⟩
          · cases o3
        obtain ⟨y, ys, rfl⟩ := hx
        show CvV W A (do let v ← eval x env; standAt pos; let t ← holding [v] (truthy v); match BoolOp.And, t with | .And, false | .Or, true => pure v | _, _ => boolOp pos .And (evalEach (y :: ys) env)) k hp s
        refine Cv.bind (all e (.head _) o2 nd F R O V h) fun a av hp₁ s₁ h₁ ra O₁ S₁ => Cv.stand ?_
        obtain ⟨t, et, q⟩ := h₁
        refine Cv.bind (Q₁ := fun b hp' => b = t ∧ hp' = hp₁) (Cv.holding (tru_sound et ⟨rfl, rfl⟩ O₁ ra).c) fun b bv hp₂ s₂ h₂ rb O₂ S₂ => ?_
        obtain ⟨rfl, rfl⟩ := h₂
        subst rb
        cases bv with
        | false => rw [if_neg Bool.false_ne_true] at q; exact Cv.pure O₂ q (ra.at S₂)
        | true => rw [if_pos rfl] at q; exact se_and (fun e h => all e (.tail _ h)) o3 nd F R O₂ (V.at (S₁.trans S₂)) q
    · cases ok
theorem se_or : ∀ {xs : List E}, (∀ e ∈ xs, SE T n e) → ∀ {sc lay vs env A vars hp s k pos}, okEs sc lay xs vs = true → lay.Nodup → FrOk W sc env → Room n A → HOk W hp s → VarsRel sc lay env vars hp s.heap → vcOr T n xs vars hp k →
    CvV W A (boolOp pos .Or (evalEach vs env)) k hp s
  | [], _, sc, lay, vs, env, A, vars, hp, s, k, pos, ok, nd, F, R, O, V, h => by unfold vcOr at h; exact h.elim
  | e :: r, all, sc, lay, vs, env, A, vars, hp, s, k, pos, ok, nd, F, R, O, V, h => by
    unfold okEs at ok; split at ok
    · rename_i x xs
      simp only [Bool.and_eq_true] at ok
      obtain ⟨⟨o1, o2⟩, o3⟩ := ok
      unfold vcOr at h
      cases r with
      | nil =>
        unfold okEs at o3; split at o3
        · exact all e (.head _) o2 nd F R O V h
        · cases o3
      | cons e2 r2 =>
        dsimp only at h
        have hx : ∃ y ys, xs = y :: ys := by
          unfold okEs at o3; split at o3
          · exact ⟨_, _, rfl⟩
          · cases o3
        obtain ⟨y, ys, rfl⟩ := hx
        show CvV W A (do let v ← eval x env; standAt pos; let t ← holding [v] (truthy v); match BoolOp.Or, t with | .And, false | .Or, true => pure v | _, _ => boolOp pos .Or (evalEach (y :: ys) env)) k hp s
        refine Cv.bind (all e (.head _) o2 nd F R O V h) fun a av hp₁ s₁ h₁ ra O₁ S₁ => Cv.stand ?_
        obtain ⟨t, et, q⟩ := h₁
        refine Cv.bind (Q₁ := fun b hp' => b = t ∧ hp' = hp₁) (Cv.holding (tru_sound et ⟨rfl, rfl⟩ O₁ ra).c) fun b bv hp₂ s₂ h₂ rb O₂ S₂ => ?_
        obtain ⟨rfl, rfl⟩ := h₂
        subst rb
        cases bv with
        | true => rw [if_pos rfl] at q; exact Cv.pure O₂ q (ra.at S₂)
        | false => rw [if_neg Bool.false_ne_true] at q; exact se_or (fun e h => all e (.tail _ h)) o3 nd F R O₂ (V.at (S₁.trans S₂)) q
    · cases ok
theorem se_band {xs : List E} (all : ∀ e ∈ xs, SE T n e) : SE T n (.band xs) := fun {sc lay ex env A vars hp s k} ok nd F R O V h => by
  unfold okE at ok; split at ok
  · unfold vcE at h
    rw [arm_eval_BoolOp]
    exact se_and all ok nd F R O V h
  · cases ok
theorem se_bor {xs : List E} (all : ∀ e ∈ xs, SE T n e) : SE T n (.bor xs) := fun {sc lay ex env A vars hp s k} ok nd F R O V h => by
  unfold okE at ok; split at ok
  · unfold vcE at h
    rw [arm_eval_BoolOp]
    exact se_or all ok nd F R O V h
  · cases ok
end
end Mine
namespace Mine
open PySem PySem.W PySem.Calls PyProof.Rows

section
variable {W : Wd} {T : St W} {n : Nat}

theorem cv_allNil {A : Around} {hp : Hp} {s : Shared} {k : Bool → Hp → Prop} {t : Sem Bool} (c : Bool) (h : CvB W A t k hp s) :
    CvB W A (do match (if c then BoolOp.And else BoolOp.Or), ← t with | .And, false => pure false | .Or, true => pure true | _, _ => (pure ((if c then BoolOp.And else BoolOp.Or) == BoolOp.And) : Sem Bool)) k hp s :=
  Cv.bind h fun b a hp' s' q r O S => by
    subst r
    cases c <;> cases a <;> exact Cv.pure O q rfl

theorem st_andl : ∀ {xs : List E}, (∀ e ∈ xs, ST T n e) → ∀ {sc lay vs env A vars hp s} {k : Bool → Hp → Prop}, okEs sc lay xs vs = true → lay.Nodup → FrOk W sc env → Room n A → HOk W hp s → VarsRel sc lay env vars hp s.heap →
    vcAnd T n xs vars hp (fun v hp' => ∃ t, truV hp' v = some t ∧ k t hp') → CvB W A (allTrue .And vs env) k hp s
  | [], _, sc, lay, vs, env, A, vars, hp, s, k, ok, nd, F, R, O, V, h => by unfold vcAnd at h; exact h.elim
  | e :: r, all, sc, lay, vs, env, A, vars, hp, s, k, ok, nd, F, R, O, V, h => by
    unfold okEs at ok; split at ok
    · rename_i x xs
      simp only [Bool.and_eq_true] at ok
      obtain ⟨⟨o1, o2⟩, o3⟩ := ok
      unfold vcAnd at h
      rw [arm_allTrue_cons]
      cases r with
      | nil =>
        unfold okEs at o3; split at o3
        · exact cv_allNil true (all e (.head _) o2 nd F R O V h)
        · cases o3
      | cons e2 r2 =>
        dsimp only at h
        have h' : vcE T n e vars hp (fun v hp' => ∃ t, truV hp' v = some t ∧ if t then vcAnd T n (e2 :: r2) vars hp' (fun v hp' => ∃ t, truV hp' v = some t ∧ k t hp') else k false hp') := by
          refine cast (congrArg (vcE T n e _ _) ?_) h
          funext v hp'
          refine propext ⟨fun ⟨t, e, q⟩ => ⟨t, e, ?_⟩, fun ⟨t, e, q⟩ => ⟨t, e, ?_⟩⟩
          · cases t with
            | true => exact q
            | false =>
              rw [if_neg Bool.false_ne_true] at q ⊢
              obtain ⟨t', e', q⟩ := q
              rw [e] at e'; cases e'; exact q
          · cases t with
            | true => exact q
            | false => rw [if_neg Bool.false_ne_true] at q ⊢; exact ⟨false, e, q⟩
        refine Cv.bind (all e (.head _) (k := fun t hp' => if t then vcAnd T n (e2 :: r2) vars hp' (fun v hp' => ∃ t, truV hp' v = some t ∧ k t hp') else k false hp') o2 nd F R O V h') fun b a hp' s' q r O' S => ?_
        subst r
        cases a with
        | false => rw [if_neg Bool.false_ne_true] at q; exact Cv.pure O' q rfl
        | true => rw [if_pos rfl] at q; exact st_andl (fun e h => all e (.tail _ h)) o3 nd F R O' (V.at S) q
    · cases ok
theorem st_orl : ∀ {xs : List E}, (∀ e ∈ xs, ST T n e) → ∀ {sc lay vs env A vars hp s} {k : Bool → Hp → Prop}, okEs sc lay xs vs = true → lay.Nodup → FrOk W sc env → Room n A → HOk W hp s → VarsRel sc lay env vars hp s.heap →
    vcOr T n xs vars hp (fun v hp' => ∃ t, truV hp' v = some t ∧ k t hp') → CvB W A (allTrue .Or vs env) k hp s
  | [], _, sc, lay, vs, env, A, vars, hp, s, k, ok, nd, F, R, O, V, h => by unfold vcOr at h; exact h.elim
  | e :: r, all, sc, lay, vs, env, A, vars, hp, s, k, ok, nd, F, R, O, V, h => by
    unfold okEs at ok; split at ok
    · rename_i x xs
      simp only [Bool.and_eq_true] at ok
      obtain ⟨⟨o1, o2⟩, o3⟩ := ok
      unfold vcOr at h
      rw [arm_allTrue_cons]
      cases r with
      | nil =>
        unfold okEs at o3; split at o3
        · exact cv_allNil false (all e (.head _) o2 nd F R O V h)
        · cases o3
      | cons e2 r2 =>
        dsimp only at h
        have h' : vcE T n e vars hp (fun v hp' => ∃ t, truV hp' v = some t ∧ if t then k true hp' else vcOr T n (e2 :: r2) vars hp' (fun v hp' => ∃ t, truV hp' v = some t ∧ k t hp')) := by
          refine cast (congrArg (vcE T n e _ _) ?_) h
          funext v hp'
          refine propext ⟨fun ⟨t, e, q⟩ => ⟨t, e, ?_⟩, fun ⟨t, e, q⟩ => ⟨t, e, ?_⟩⟩
          · cases t with
            | false => exact q
            | true =>
              rw [if_pos rfl] at q ⊢
              obtain ⟨t', e', q⟩ := q
              rw [e] at e'; cases e'; exact q
          · cases t with
            | false => exact q
            | true => rw [if_pos rfl] at q ⊢; exact ⟨true, e, q⟩
        refine Cv.bind (all e (.head _) (k := fun t hp' => if t then k true hp' else vcOr T n (e2 :: r2) vars hp' (fun v hp' => ∃ t, truV hp' v = some t ∧ k t hp')) o2 nd F R O V h') fun b a hp' s' q r O' S => ?_
        subst r
        cases a with
        | true => rw [if_pos rfl] at q; exact Cv.pure O' q rfl
        | false => rw [if_neg Bool.false_ne_true] at q; exact st_orl (fun e h => all e (.tail _ h)) o3 nd F R O' (V.at S) q
    · cases ok
theorem st_band {xs : List E} (all : ∀ e ∈ xs, ST T n e) : ST T n (.band xs) := fun {sc lay ex env A vars hp s k} ok nd F R O V h => by
  unfold okE at ok; split at ok
  · unfold vcE at h
    rw [arm_isTrue_BoolOp]
    exact st_andl all ok nd F R O V h
  · cases ok
theorem st_bor {xs : List E} (all : ∀ e ∈ xs, ST T n e) : ST T n (.bor xs) := fun {sc lay ex env A vars hp s k} ok nd F R O V h => by
  unfold okE at ok; split at ok
  · unfold vcE at h
    rw [arm_isTrue_BoolOp]
    exact st_orl all ok nd F R O V h
  · cases ok

/-! displays -/
theorem se_list {xs : List E} (all : ∀ e ∈ xs, SE T n e) : SE T n (.list xs) := fun {sc lay ex env A vars hp s k} ok nd F R O V h => by
  unfold okE at ok; split at ok
  · simp only [Bool.and_eq_true, decide_eq_true_eq] at ok
    unfold vcE at h
    rw [arm_eval_List]
    refine Cv.stand (Cv.bind (se_row all ok.1 nd F R O V h) fun a av hp₁ s₁ h₁ ra O₁ S₁ => ?_)
    exact (newList_sound h₁.2 h₁.1 O₁ ra).c
  · cases ok
theorem se_tup {xs : List E} (all : ∀ e ∈ xs, SE T n e) : SE T n (.tup xs) := fun {sc lay ex env A vars hp s k} ok nd F R O V h => by
  unfold okE at ok; split at ok
  · simp only [Bool.and_eq_true, decide_eq_true_eq] at ok
    unfold vcE at h
    rw [arm_eval_Tuple]
    refine Cv.stand (Cv.bind (se_row all ok.1 nd F R O V h) fun a av hp₁ s₁ h₁ ra O₁ S₁ => ?_)
    exact (newTuple_sound h₁.2 h₁.1 O₁ ra).c
  · cases ok
theorem se_dict0 : SE T n .dict0 := fun {sc lay ex env A vars hp s k} ok nd F R O V h => by
  unfold okE at ok; split at ok
  · unfold vcE at h
    rw [arm_eval_Dict]
    refine Cv.stand ?_
    show CvV W A (newDict #[]) k hp s
    exact (newDict_sound h O).c
  · cases ok

/-! attributes and items -/
theorem base_plain {o : Expr} {name : Str} {env : Env} {t : Sem Value} (h : notCall0 o = true) : attributeBase o name env t = t := by
  cases o <;> first | rfl | skip
  rename_i f as ks p
  cases f <;> first | rfl | skip
  cases as <;> cases ks <;> first | rfl | cases h

theorem letGo_c {A : Around} {hp : Hp} {s : Shared} {k : K1} {v : Mine.V} {r o : Value} {base : Expr} (q : k v hp) (O : HOk W hp s) (rv : VRel hp s.heap v r) : CvV W A (letTemporaryGo base o r >>= fun _ => pure r) k hp s :=
  wpC_bind (wpC_of (wpAny_letTemporaryGo (wpC_pure (ev_here (R := VRel) O q rv))))

theorem se_attr (TO : StOk W T) {e : E} {name : Str} (X : SE T n e) : SE T n (.attr e name) := fun {sc lay ex env A vars hp s k} ok nd F R O V h => by
  unfold okE at ok; split at ok
  · simp only [Bool.and_eq_true, beq_iff_eq] at ok
    obtain ⟨⟨rfl, hb⟩, o1⟩ := ok
    unfold vcE at h
    rw [arm_eval_Attribute, base_plain hb]
    refine Cv.bind (X o1 nd F R O V h) fun a av hp₁ s₁ h₁ ra O₁ S₁ => Cv.stand ?_
    refine Cv.bind (Cv.holding (attr_sound TO h₁ O₁ ra).c) fun b bv hp₂ s₂ h₂ rb O₂ S₂ => letGo_c h₂ O₂ rb
  · cases ok

/-- what bears items has a type whose __getitem__ is built in -/
noncomputable def HasItems (s : Shared) (v : Value) : Prop := ∃ Ty id, s.TypeIs v Ty ∧ typeLookup (.type Ty) "__getitem__" = pure (some (.builtin id))
theorem lookup_tuple_getitem : typeLookup (.type "tuple") "__getitem__" = pure (some (.builtin "tuple.__getitem__")) := by rw [typeLookup_type, builtinLookup_eq_fast]; kernel_rfl
theorem lookup_bytes_getitem : typeLookup (.type "bytes") "__getitem__" = pure (some (.builtin "bytes.__getitem__")) := by rw [typeLookup_type, builtinLookup_eq_fast]; kernel_rfl

theorem subTail_c {A : Around} {hp : Hp} {s : Shared} {k : K1} {value slice : Expr} {o i : Value} (hi : HasItems s o) (h : CvV W A (getItem o i) k hp s) :
    CvV W A (do let r ← subscripted slice (← getitemInPython o) o i; letTemporaryGo value o r; pure r) k hp s := by
  obtain ⟨Ty, id, hT, hl⟩ := hi
  have e : ∀ (b : Bool), b = false → subscripted slice b o i = operate [o, i] (getItem o i) ∨ subscripted slice b o i = operate [i, o] (getItem o i) := fun b hb => by
    subst hb
    unfold subscripted
    split <;> first | exact .inr rfl | exact .inl rfl | (rename_i h; cases h)
  have fin : CvV W A (subscripted slice false o i >>= fun r => letTemporaryGo value o r >>= fun _ => pure r) k hp s := by
    rcases e false rfl with e | e <;> rw [e] <;> exact Cv.bind (wpC_operate h) fun b bv hp₂ s₂ h₂ rb O₂ S₂ => letGo_c h₂ O₂ rb
  refine wpC_bind (wpC_of ?_)
  unfold getitemInPython
  exact wpAny_bind (wpAny_specialOf hT hl (wpAny_pure fin))

theorem items_of {hp : Hp} {s : Shared} {o j v : Mine.V} {ov : Value} (h : idxV hp o j = some v) (O : HOk W hp s) (r : VRel hp s.heap o ov) : HasItems s ov := by
  unfold idxV at h
  split at h
  · cases r
    split at h
    · rename_i hl; obtain ⟨vals, p, _⟩ := O.objs _ _ hl
      exact ⟨_, _, p.isList.typeIs, slot_list_getitem.lookup⟩
    · rename_i hl; obtain ⟨d, sl, p⟩ := O.objs _ _ hl
      exact ⟨_, _, ⟨_, p, rfl⟩, slot_ba_getitem.lookup⟩
    · rename_i hl; obtain ⟨ys, hm, _⟩ := O.objs _ _ hl
      exact ⟨_, _, hm.typeIs, slot_dict_getitem.lookup⟩
    · rename_i hl; obtain ⟨ys, hm, _⟩ := O.objs _ _ hl
      exact ⟨_, _, hm.typeIs, slot_dict_getitem.lookup⟩
    · cases h
  · obtain ⟨a, vals, rfl, _, l, _⟩ := r
    exact ⟨_, _, l.typeIs, slot_list_getitem.lookup⟩
  · obtain ⟨a, vals, rfl, _, l, _⟩ := r
    exact ⟨_, _, l.typeIs, lookup_tuple_getitem⟩
  · obtain ⟨t, rfl⟩ := r
    exact ⟨"bytes", _, rfl, lookup_bytes_getitem⟩
  · cases h

theorem Room.units2 {A : Around} (R : Room n A) : A.units + 2 < cLine := by
  have := R.units
  have : cLine = 9900 := rfl
  omega

theorem se_idx {e i : E} (X : SE T n e) (I : SE T n i) : SE T n (.idx e i) := fun {sc lay ex env A vars hp s k} ok nd F R O V h => by
  unfold okE at ok; split at ok
  · simp only [Bool.and_eq_true] at ok
    obtain ⟨⟨o1, o2⟩, o3⟩ := ok
    unfold vcE at h
    rw [arm_eval_Subscript]
    refine Cv.bind (X o2 nd F R O V h) fun a av hp₁ s₁ h₁ ra O₁ S₁ => Cv.bind (Cv.holding (I o3 nd F R O₁ (V.at S₁) h₁)) fun b bv hp₂ s₂ h₂ rb O₂ S₂ => Cv.stand ?_
    obtain ⟨v, hv, q⟩ := h₂
    exact subTail_c (items_of hv O₂ (ra.at S₂)) (idx_sound hv q O₂ (ra.at S₂) rb R.units2).c
  · cases ok
end
end Mine
namespace Mine
open PySem PySem.W PySem.Calls PyProof.Rows

section
variable {W : Wd} {T : St W} {n : Nat}

/-! slices -/
noncomputable def partOk (sc : Scope) (lay : List Str) (lo : E) (l : Option Expr) : Bool := match l with | none => isNoneE lo | some x => okE sc lay lo x
theorem se_part {lo : E} (X : SE T n lo) {sc : Scope} {lay : List Str} {l : Option Expr} {env : Env} {A : Around} {vars : Vars} {hp : Hp} {s : Shared} {k : K1} (ok : partOk sc lay lo l = true) (nd : lay.Nodup) (F : FrOk W sc env) (R : Room n A) (O : HOk W hp s)
    (V : VarsRel sc lay env vars hp s.heap) (h : vcE T n lo vars hp k) : CvV W A (valueOrNone (evalOpt l env)) k hp s := by
  unfold partOk at ok
  split at ok
  · unfold isNoneE at ok
    split at ok
    · unfold vcE at h
      exact Cv.pure (R := VRel) (b := Mine.V.none) O h (show VRel hp s.heap Mine.V.none Value.none from rfl)
    · cases ok
  · exact X ok nd F R O V h

theorem sl_sound {o lo hi : V} {ov vl vu : Value} {i : Addr} {A : Around} {hp : Hp} {s : Shared} {k : K1} (h : slK o lo hi hp k) (O : HOk W hp s) (ro : VRel hp s.heap o ov) (hs : s.heap.IsSliceOf i vl vu .none) (r1 : VRel hp s.heap lo vl) (r2 : VRel hp s.heap hi vu) :
    HasItems s ov ∧ EvV W A (getItem ov (.ref i)) k hp s := by
  unfold slK at h
  split at h
  · obtain ⟨hn, l, u, h1, h2, q⟩ := h
    obtain ⟨a, vals, rfl, _, hl, rr⟩ := ro
    exact ⟨⟨_, _, hl.typeIs, slot_list_getitem.lookup⟩, slice_list_sound hl rr hn hs r1 r2 h1 h2 q O⟩
  · cases ro
    split at h
    · rename_i hl
      obtain ⟨hn, l, u, h1, h2, q⟩ := h
      obtain ⟨vals, p, rr⟩ := O.objs _ _ hl
      exact ⟨⟨_, _, p.isList.typeIs, slot_list_getitem.lookup⟩, slice_list_sound p.isList rr hn hs r1 r2 h1 h2 q O⟩
    · rename_i hl
      obtain ⟨hn, l, u, h1, h2, q⟩ := h
      obtain ⟨d, sl, p⟩ := O.objs _ _ hl
      exact ⟨⟨_, _, ⟨_, p, rfl⟩, slot_ba_getitem.lookup⟩, slice_ba_sound hl hn hs r1 r2 h1 h2 q O⟩
    · exact h.elim
  · exact h.elim

/-- a slice object, by its ends -/
noncomputable def SliceR (hp : Hp) (h : Heap) (ab : V × V) (i : Value) : Prop := ∃ j vl vu, i = .ref j ∧ h.IsSliceOf j vl vu .none ∧ VRel hp h ab.1 vl ∧ VRel hp h ab.2 vu

theorem slice_c {lo hi : E} (L : SE T n lo) (H : SE T n hi) {sc : Scope} {lay : List Str} {l u : Option Expr} {sp : Pos} {env : Env} {A : Around} {vars : Vars} {hp : Hp} {s : Shared} {Q : V → V → Hp → Prop}
    (o2 : partOk sc lay lo l = true) (o3 : partOk sc lay hi u = true) (nd : lay.Nodup) (F : FrOk W sc env) (R : Room n A) (O : HOk W hp s)
    (V : VarsRel sc lay env vars hp s.heap) (h : vcE T n lo vars hp fun l hp₂ => vcE T n hi vars hp₂ fun h hp₃ => Q l h hp₃) :
    Cv W A (eval (.Slice l u none sp) env) SliceR (fun ab hp' => Q ab.1 ab.2 hp') hp s := by
  rw [arm_eval_Slice]
  refine Cv.bind (se_part L o2 nd F R O V h) fun a av hp₁ s₁ h₁ ra O₁ S₁ => Cv.bind (Cv.holding (se_part H o3 nd F R O₁ (V.at S₁) h₁)) fun b bv hp₂ s₂ h₂ rb O₂ S₂ => ?_
  refine wpC_bind (wpC_holding (wpC_of (wpAny_of_eq (a := Value.none) rfl ?_)))
  refine wpC_of (wpAny_newObj_type ?_ (by size_fits))
  · have J := O₂.junk { cls := .type "slice", data := .fields #[av, bv, Value.none] } s₂.toks
    refine ⟨(a, b), hp₂, h₂, ⟨_, av, bv, rfl, Heap.IsSliceOf.new .., (ra.at S₂).at J.2, rb.at J.2⟩, J.1, J.2⟩

theorem se_sl {e lo hi : E} (X : SE T n e) (L : SE T n lo) (H : SE T n hi) : SE T n (.sl e lo hi) := fun {sc lay ex env A vars hp s k} ok nd F R O V h => by
  unfold okE at ok; split at ok
  · rename_i v l u sp pos
    simp only [Bool.and_eq_true] at ok
    obtain ⟨⟨o1, o2⟩, o3⟩ := ok
    unfold vcE at h
    rw [arm_eval_Subscript]
    refine Cv.bind (X o1 nd F R O V h) fun a av hp₁ s₁ h₁ ra O₁ S₁ => ?_
    refine Cv.bind (Cv.holding (slice_c (Q := fun l h hp₃ => slK a l h hp₃ k) L H o2 o3 nd F R O₁ (V.at S₁) h₁)) fun ab i hp₂ s₂ h₂ rs O₂ S₂ => Cv.stand ?_
    obtain ⟨j, vl, vu, rfl, hs, r1, r2⟩ := rs
    obtain ⟨hi', g⟩ := sl_sound h₂ O₂ (ra.at S₂) hs r1 r2
    exact subTail_c hi' g.c
  · cases ok

theorem se_frz {e : E} (X : SE T n e) : SE T n (.frz e) := fun {sc lay ex env A vars hp s k} ok nd F R O V h => by
  unfold okE at ok
  simp only [Bool.and_eq_true] at ok
  unfold vcE at h
  refine wpC_mono (X ok.2 nd F R O V h) (fun av s' hx => ?_) fun _ _ x => x
  obtain ⟨v, hp', ⟨a, xs, rfl, hl, q⟩, r, O', S'⟩ := hx
  cases r
  have G := O'.forget a (by rw [hl]; nofun)
  exact ⟨.flist xs, hp'.del a, q, frz_sound hl O', G.1, S'.trans G.2⟩

/-! calls of what is built in -/
theorem boot_B (b : B) : bootBuiltins b.name = some b.val := by cases b <;> kernel_rfl
theorem name_B (b : B) : (b.name == ("__debug__" : Str)) = false ∧ b.name ≠ "__name__" := by cases b <;> decide +kernel
theorem val_B (b : B) : ∀ {M : Model} {A : Around} {E : Value → Shared → Prop} {s : Shared} {Q : Keeper → Shared → Prop}, (∀ k, Q k s) → wpAny M A (keeperOf b.val) Q E s := fun {M A E s Q} h => by
  cases b <;> exact wpAny_pure (h _)

theorem se_bcall (TO : StOk W T) {b : B} {args : List E} (all : ∀ e ∈ args, SE T n e) : SE T n (.bcall b args) := fun {sc lay ex env A vars hp s k} ok nd F R O V h => by
  unfold okE at ok; split at ok
  · rename_i x xp as pos
    simp only [Bool.and_eq_true, beq_iff_eq] at ok
    obtain ⟨⟨rfl, hg⟩, o1⟩ := ok
    unfold vcE at h
    rw [arm_eval_Call_Name']
    simp only [isGlob, Bool.and_eq_true, beq_iff_eq, bne_iff_ne, ne_eq] at hg
    refine wpC_bind (wpC_of (wpAny_Name ?_ (name_B b).1))
    rw [loadName_read F.kind (F.glo _ hg.1)]
    refine loadGlobal_builtin (by rw [F.globals]; exact O.hg) (TO.noB b) (by rw [F.builtins]; exact O.hb) ((W.bi _ (name_B b).2).trans (boot_B b)) ?_
    refine callWith_c (evalArgs_c (row_plain o1) rfl ?_)
    refine wpC_mono (se_row all o1 nd F R O V h) (fun vs s₁ hx => wpC_pure ?_) fun _ _ x => x
    obtain ⟨xs, hp₁, h₁, r₁, O₁, S₁⟩ := hx
    refine ⟨fun Q' q => val_B b q, ?_⟩
    exact Cv.then S₁ (bcall_sound R.handled R.guards h₁ O₁ r₁)
  · cases ok
end
end Mine
namespace Mine
open PySem PySem.W PySem.Calls PyProof.Rows

section
variable {W : Wd} {T : St W} {n : Nat}

theorem kw_nil {hp : Hp} {h : Heap} {kws : List V} {kw : List (Str × Value)} (r : KwRel hp h [] kws kw) : kw = [] := by
  have := r.1
  simpa using this

theorem callee_keeper {A : Around} {E : Value → Shared → Prop} {s : Shared} {a : Addr} (X : W.K.In s.heap) (h : CalleeOk W.K a) {Q : Keeper → Shared → Prop} (q : ∀ k, Q k s) : wpAny W.M A (keeperOf (.ref a)) Q E s := by
  unfold keeperOf
  rcases h with ⟨oc, od, fd, sl, hk⟩ | ⟨oc, od, cd, sl, r, hk, hs⟩
  · exact wpAny_bind (wpAny_load (X _ _ hk) (wpAny_pure (q _)))
  · refine wpAny_bind (wpAny_load (X _ _ hk) ?_)
    dsimp only
    exact wpAny_bind ((looks_specialIn X hs).here (wpAny_pure (q _)))

theorem callK_sound (TO : StOk W T) {f : V} {args kws : List V} {kwn : List Str} {fv : Value} {vals : List Value} {kw : List (Str × Value)} {A : Around} {hp : Hp} {s : Shared} {k : K1} (h : callK T n f args kwn kws hp k) (R : Room n A) (O : HOk W hp s)
    (rf : VRel hp s.heap f fv) (ra : VRels hp s.heap args vals) (rk : KwRel hp s.heap kwn kws kw) :
    (∀ {E : Value → Shared → Prop} {Q : Keeper → Shared → Prop}, (∀ k, Q k s) → wpAny W.M A (keeperOf fv) Q E s) ∧ CvV W A (call fv vals kw) k hp s := by
  unfold callK at h
  split at h
  · rename_i a
    cases rf
    exact ⟨fun q => callee_keeper O.inK (TO.callee _ h.1) q, (h.2 A s vals kw R O ra rk).call⟩
  · rename_i t
    cases rf
    obtain ⟨rfl, rfl, h⟩ := h
    cases kw_nil rk
    exact ⟨fun q => wpAny_pure (q _), bcall_sound (b := .int) R.handled R.guards h O ra⟩
  · rename_i id
    cases rf
    obtain ⟨rfl, h⟩ := h
    cases kw_nil rk
    refine ⟨fun q => wpAny_pure (q _), ?_⟩
    split at h
    · obtain ⟨v1, _, rfl, r1, v2, _, rfl, r2, rfl⟩ := ra
      cases r1
      split at h
      · rename_i xs hl
        obtain ⟨rfl, hn, q⟩ := h
        exact (append_sound hl (by omega) q O r2).c
      · rename_i kvs hl
        obtain ⟨rfl, ks, hk, q⟩ := h
        exact (get_sound hl hk q R.units2 O r2).c
      · exact h.elim
    · obtain ⟨v1, _, rfl, r1, v2, _, rfl, r2, v3, _, rfl, r3, v4, _, rfl, r4, rfl⟩ := ra
      cases r1; cases r2
      obtain ⟨rfl, wd, sg, b, hs, hl, hi, hx, hb, q⟩ := h
      exact (pack_sound (TO.struct _ _ _ hs) hl hi hx (by omega) q O r3 r4).c
    · obtain ⟨v1, _, rfl, r1, v2, _, rfl, r2, v3, _, rfl, r3, rfl⟩ := ra
      cases r1
      obtain ⟨rfl, wd, sg, b, hs, hv, hi, hb, q⟩ := h
      exact (unpack_sound (TO.struct _ _ _ hs) hv hi (by omega) q O r2 r3).c
    · exact h.elim
  · exact h.elim

theorem zip_map_snd {α β : Type} : ∀ {as : List α} {bs : List β}, as.length = bs.length → (as.zip bs).map (·.2) = bs ∧ (as.zip bs).map (·.1) = as
  | [], [], _ => ⟨rfl, rfl⟩
  | a :: as, b :: bs, h => by
    obtain ⟨i, j⟩ := zip_map_snd (as := as) (bs := bs) (by simpa using h)
    simp [i, j]
  | [], _ :: _, h => by cases h
  | _ :: _, [], h => by cases h

theorem kws_len : ∀ {es : List E} {kwn : List Str} {sc lay ks}, okKs sc lay kwn es ks = true → kwn.length = es.length
  | [], kwn, sc, lay, ks, ok => by
    unfold okKs at ok; split at ok
    · simp only [List.isEmpty_iff] at ok; rw [ok]; rfl
    · cases ok
  | e :: es, kwn, sc, lay, ks, ok => by
    unfold okKs at ok; split at ok
    · split at ok
      · simp only [Bool.and_eq_true] at ok
        simp [kws_len ok.2]
      · cases ok
    · cases ok

/-- the arguments of a call, and the call -/
theorem args_c (TO : StOk W T) {args kwv : List E} {kwn : List Str} {f : V} {fv : Value} {first : List V} {firstv : List Value} (all : ∀ e ∈ args, SE T n e) (allk : ∀ e ∈ kwv, SE T n e) {sc : Scope} {lay : List Str} {as : List Expr} {ks : List Keyword} {env : Env} {A : Around} {vars : Vars} {hp : Hp} {s : Shared} {k : K1} {pos p2 : Pos}
    (o1 : okEs sc lay args as = true) (o2 : okKs sc lay kwn kwv ks = true) (nd : lay.Nodup) (F : FrOk W sc env) (R : Room n A) (O : HOk W hp s) (V : VarsRel sc lay env vars hp s.heap) (rf : VRel hp s.heap f fv) (r1 : VRels hp s.heap first firstv)
    (h : vcEs T n args vars hp fun vs hp₂ => vcEs T n kwv vars hp₂ fun kvs hp₃ => kvs.length = kwn.length ∧ callK T n f (first ++ vs) kwn kvs hp₃ k) :
    CvV W A (callWith pos fv firstv (backTo p2 (starEach as env)) (backToKw p2 (keywordEach ks env))) k hp s := by
  obtain ⟨k1, k2, k3⟩ := kws_names (env := env) (pos := p2) o2
  refine callWith_c (evalArgs_c (row_plain o1) k1 ?_)
  refine wpC_mono (se_row all o1 nd F R O V h) (fun vs s₁ hx => ?_) fun _ _ x => x
  obtain ⟨xs, hp₁, h₁, ra, O₁, S₁⟩ := hx
  refine wpC_mono (se_kws allk o2 nd F R O₁ (V.at S₁) h₁) (fun kvs s₂ hx => ?_) fun _ _ x => x
  obtain ⟨ys, hp₂, ⟨hlen, h₂⟩, rk, O₂, S₂⟩ := hx
  rw [k2]
  have hz := zip_map_snd (as := kwn) (bs := kvs) (by rw [rk.length]; exact hlen.symm)
  have c := callK_sound TO (kw := kwn.zip kvs) h₂ R O₂ ((rf.at S₁).at S₂) (((r1.at S₁).append ra).at S₂) ⟨hz.2, by rw [hz.1]; exact rk⟩
  exact ⟨fun Q' q => c.1 q, Cv.then (S₁.trans S₂) c.2⟩

theorem se_call (TO : StOk W T) {f : E} {args kwv : List E} {kwn : List Str} (X : SE T n f) (all : ∀ e ∈ args, SE T n e) (allk : ∀ e ∈ kwv, SE T n e) : SE T n (.call f args kwn kwv) := fun {sc lay ex env A vars hp s k} ok nd F R O V h => by
  unfold okE at ok; split at ok
  · rename_i g as ks pos
    simp only [Bool.and_eq_true] at ok
    obtain ⟨⟨⟨⟨ha, o1⟩, o2⟩, _⟩, o3⟩ := ok
    unfold vcE at h
    have e : eval (.Call g as ks pos) env = (do callWith pos (← eval g env) [] (backTo pos (starEach as env)) (backToKw pos (keywordEach ks env))) := by
      cases g <;> first | rfl | cases ha
    rw [e]
    refine Cv.bind (X o1 nd F R O V h) fun fv fval hp₁ s₁ h₁ rf O₁ S₁ => ?_
    exact args_c TO (first := []) (firstv := []) all allk o2 o3 nd F R O₁ (V.at S₁) rf rfl h₁
  · cases ok

/-! methods -/
theorem getMethod_list {l : Addr} {vals : Array Value} {A : Around} {E : Value → Shared → Prop} {s : Shared} {pl : Sem Bool} {Q : Value × List Value → Shared → Prop} (p : s.heap.PlainList l vals) (q : Q (.builtin "list.append", [.ref l]) s) :
    wpAny W.M A (getMethod (.ref l) "append" pl) Q E s := by
  obtain ⟨n, e⟩ := p
  exact getMethod_list_append e rfl rfl q
theorem type_pack : typeOf (.builtin "_struct.Struct.pack_into") = pure (.type "method_descriptor") := by show builtinType _ = _; rw [builtinType_eq_fast]; kernel_rfl
theorem type_unpack : typeOf (.builtin "_struct.Struct.unpack_from") = pure (.type "method_descriptor") := by show builtinType _ = _; rw [builtinType_eq_fast]; kernel_rfl
theorem plainAttrs_struct : PlainAttrs "_struct.Struct" :=
  ⟨⟨"_struct.Struct.__getattribute__", by rw [typeLookup_type, builtinLookup_eq_fast]; kernel_rfl, by decide +kernel⟩, by rw [typeLookup_type, builtinLookup_eq_fast]; kernel_rfl⟩

/-- what a method's name gives -/
noncomputable def MethR (f : V) (first : List V) (hp : Hp) (h : Heap) (r : Value × List Value) : Prop := VRel hp h f r.1 ∧ VRels hp h first r.2

theorem res_sound (TO : StOk W T) {o : V} {name : Str} {ov : Value} {A : Around} {hp : Hp} {s : Shared} {pl : Sem Bool} {q : V → List V → Prop} (h : resK T o name hp q) (O : HOk W hp s) (ro : VRel hp s.heap o ov) :
    wpAny W.M A (getMethod ov name pl) (fun r s' => ∃ f first, q f first ∧ VRel hp s'.heap f r.1 ∧ VRels hp s'.heap first r.2 ∧ HOk W hp s' ∧ HStep hp s hp s') (fun _ _ => False) s := by
  unfold resK at h
  split at h
  · rename_i a
    cases ro
    rcases h with ⟨C, f, m, hl, hm, hq⟩ | ⟨xs, hl, rfl, hq⟩ | ⟨kvs, hl, rfl, hq⟩ | ⟨p, hs, h⟩ | ⟨v, hv, hq⟩
    · obtain ⟨ga, gt, at_, fn, _⟩ := TO.meth _ _ _ hm
      obtain ⟨dx, sl, I, _, _⟩ := inst_at hl O
      exact method_fn O.inK I ga gt at_ fn rfl ⟨_, _, hq, rfl, VRels.one rfl, O, .refl ..⟩
    · obtain ⟨vals, p, _⟩ := O.objs _ _ hl
      exact getMethod_list p ⟨_, _, hq, rfl, VRels.one rfl, O, .refl ..⟩
    · obtain ⟨ys, hm, _⟩ := O.objs _ _ hl
      refine getMethod_builtin hm.typeIs PySem.F.plainAttrs_dict PySem.F.slot_dict_get PySem.F.type_dict_get (fun a e => ?_) ⟨_, _, hq, rfl, VRels.one rfl, O, .refl ..⟩
      cases e
      obtain ⟨o, es, ep, ho, hx, _⟩ := hm
      exact ⟨o, ho, hx.2.1⟩
    · obtain ⟨wd, sg⟩ := p
      obtain ⟨d, sl, b, t, vs, ho, _⟩ := TO.struct _ _ _ hs
      obtain ⟨o', ho', hd⟩ := TO.structD _ _ _ hs
      have hT : s.TypeIs (.ref a) "_struct.Struct" := ⟨_, O.old _ _ ho, rfl⟩
      have nd : ∀ c, Value.ref a = .ref c → ∃ o, s.heap.get? c = some o ∧ o.dict = none := fun c e => by cases e; exact ⟨_, O.old _ _ ho', hd⟩
      rcases h with ⟨rfl, hq⟩ | ⟨rfl, hq⟩
      · exact getMethod_builtin hT plainAttrs_struct slot_pack type_pack nd ⟨_, _, hq, rfl, VRels.one rfl, O, .refl ..⟩
      · exact getMethod_builtin hT plainAttrs_struct slot_unpack type_unpack nd ⟨_, _, hq, rfl, VRels.one rfl, O, .refl ..⟩
    · obtain ⟨val, h1, h3, h4, h5, h6⟩ := TO.cattr _ _ _ hv
      refine method_cls O.inK h6 (h1 _ _ _ _ _ _ _ O.inK ?_)
      exact ⟨v, [], hq, h5.flat h4, rfl, O.tick _, ⟨fun _ _ e _ => e, fun _ _ _ e => e, fun _ e => e⟩⟩
  · exact h.elim

theorem few_form {es kes : List E} {kwn : List Str} {sc lay as ks env p} (o1 : okEs sc lay es as = true) (o2 : okKs sc lay kwn kes ks = true) (hl : es.length + kes.length ≤ 9) :
    methodCallForm (as.length + ks.length) (backTo p (starEach as env)) (backToKw p (keywordEach ks env)) = true := by
  obtain ⟨k1, k2, k3⟩ := kws_names (env := env) (pos := p) o2
  have r := row_plain (env := env) (pos := p) o1
  have l := row_len o1
  unfold methodCallForm
  rw [k1]
  simp only [Bool.and_eq_true, decide_eq_true_eq, Bool.and_true]
  refine ⟨?_, ?_⟩
  · rw [List.all_eq_true]
    intro x hx
    rw [List.any_eq_false] at r
    have := r x hx
    simpa using this
  · split <;> omega

theorem se_meth (TO : StOk W T) {o : E} {name : Str} {args kwv : List E} {kwn : List Str} (X : SE T n o) (all : ∀ e ∈ args, SE T n e) (allk : ∀ e ∈ kwv, SE T n e) : SE T n (.meth o name args kwn kwv) := fun {sc lay ex env A vars hp s k} ok nd F R O V h => by
  unfold okE at ok; split at ok
  · rename_i o' m ap as ks ps
    simp only [Bool.and_eq_true, beq_iff_eq, decide_eq_true_eq] at ok
    obtain ⟨⟨⟨⟨⟨⟨rfl, hline⟩, hb⟩, o1⟩, o2⟩, o3⟩, o4⟩ := ok
    unfold vcE at h
    rw [arm_eval_Call, base_plain hb]
    refine Cv.bind (X o1 nd F R O V h) fun ov oval hp₁ s₁ h₁ ro O₁ S₁ => Cv.stand ?_
    unfold methodCall
    rw [few_form o2 o4 o3]
    have hpos : methodCallPos true o' env ap ps = pure ps := by unfold methodCallPos; simp [hline]
    rw [hpos]
    unfold calleeOf
    rw [if_pos rfl]
    refine wpC_bind (wpC_holding (wpC_of (wpAny_mono (res_sound TO h₁ O₁ ro) (fun r s₂ hx => ?_) fun _ _ x => x)))
    obtain ⟨f, first, hq, rf, r1, O₂, S₂⟩ := hx
    refine wpC_bind (wpC_pure ?_)
    exact Cv.then S₂ (args_c TO all allk o2 o4 nd F R O₂ (V.at (S₁.trans S₂)) rf r1 hq)
  · cases ok
end
end Mine
namespace Mine
open PySem PySem.W PySem.Calls PyProof.Rows

section
variable {W : Wd} {T : St W} {n : Nat}

theorem method_callC {p : Addr} {f self : Value} {pos : List Value} {kw : List (Str × Value)} {A : Around} {s : Shared} {R : Result → Shared → Prop} (ho : s.heap.get? p = some (methodObj f self))
    (h : codeC W.M A (.call f ⟨self :: pos, kw⟩) R s) : codeC W.M A (.call (.ref p) ⟨pos, kw⟩) R s := by
  refine codeC_of_tree rfl ?_
  show wpC _ _ (callAny (.ref p) _) _ _ _
  refine wpC_bind (wpC_of (wpAny_load ho ?_))
  cases f <;> exact wpC_pure ⟨rfl, h⟩

theorem lookup_tuple_iter : typeLookup (.type "tuple") "__iter__" = pure (some (.builtin "tuple.__iter__")) := by rw [typeLookup_type, builtinLookup_eq_fast]; kernel_rfl

theorem spliced_star {A : Around} {E : Value → Shared → Prop} {s : Shared} {x y : Sem Value} {Q : List Value → Shared → Prop}
    (h : wpC W.M A x (fun v s₁ => wpC W.M A y (fun t s₂ => ∃ a items, t = .ref a ∧ IsTup s₂.heap a items ∧ items.size ≤ sizeLine ∧ ∀ h', (∀ b o, s₂.heap.get? b = some o → h'.get? b = some o) → Q (v :: items.toList) { s₂ with heap := h' }) E s₁) E s) :
    wpC W.M A (spliced [(false, x), (true, y)]) Q E s := by
  simp only [spliced, Bool.false_eq_true, if_false, if_true]
  refine wpC_bind (wpC_mono h (fun v s₁ h₁ => wpC_bind (wpC_pure (wpC_bind (wpC_holding (wpC_bind (wpC_mono h₁ (fun t s₂ h₂ => ?_) fun _ _ x => x)))))) fun _ _ x => x)
  obtain ⟨a, items, rfl, ⟨o, ho, hc, m, hd⟩, hz, q⟩ := h₂
  have hT : s₂.TypeIs (.ref a) "tuple" := ⟨o, ho, hc⟩
  refine wpC_bind (wpC_of ?_)
  unfold notIterableAtAll
  refine wpAny_bind (wpAny_specialOf hT lookup_tuple_iter ?_)
  rw [if_pos (show (some (Value.builtin "tuple.__iter__")).isSome = true from rfl)]
  refine wpAny_pure ?_
  rw [if_neg Bool.false_ne_true]
  refine wpC_bind (wpC_of (wpAny_collect_seq a (.inr rfl) ho hc hd (fun h' keep => ?_) hz))
  refine wpC_bind (wpC_holding (wpC_pure (wpC_pure (wpC_pure ?_))))
  have := q h' keep
  simpa using this

theorem evalArgs_star {f : Value} {A : Around} {E : Value → Shared → Prop} {s : Shared} {x y : Sem Value} {Q : Args → Shared → Prop}
    (h : wpC W.M A (spliced [(false, x), (true, y)]) (fun l s₁ => Q ⟨l, []⟩ s₁) E s) : wpC W.M A (evalArgs f true [(false, x), (true, y)] []) Q E s := by
  unfold evalArgs
  simp only [List.all_nil, if_true]
  exact wpC_bind (wpC_mono h (fun vs s₁ h₁ => wpC_bind (wpC_pure (wpC_holding (wpC_bind (wpC_pure (wpC_bind (wpC_pure (wpC_pure h₁)))))))) fun _ _ x => x)

theorem se_methStar (TO : StOk W T) {o a st : E} {name : Str} (X : SE T n o) (Y : SE T n a) (Z : SE T n st) : SE T n (.methStar o name a st) := fun {sc lay ex env A vars hp s k} ok nd F R O V h => by
  unfold okE at ok; split at ok
  · rename_i o' m ap a' s' sp ps
    simp only [Bool.and_eq_true, beq_iff_eq] at ok
    obtain ⟨⟨⟨⟨⟨⟨rfl, hline⟩, hb⟩, ha⟩, o1⟩, o2⟩, o3⟩ := ok
    unfold vcE at h
    rw [arm_eval_Call, base_plain hb]
    refine Cv.bind (X o1 nd F R O V h) fun ov oval hp₁ s₁ h₁ ro O₁ S₁ => Cv.stand ?_
    obtain ⟨b, C, f, fm, rfl, hl, hm, h₁⟩ := h₁
    cases ro
    have e1 : starEach [a', Expr.Starred s' sp] env = [(false, eval a' env), (true, eval s' env)] := by cases a' <;> first | rfl | cases ha
    rw [e1]
    unfold methodCall
    have hf : methodCallForm ([a', Expr.Starred s' sp].length + ([] : List Keyword).length) (backTo ps [(false, eval a' env), (true, eval s' env)]) (backToKw ps (keywordEach [] env)) = false := by
      unfold methodCallForm; rfl
    rw [hf]
    unfold calleeOf methodCallPos
    rw [if_neg Bool.false_ne_true, if_pos (show (!false || ap.endLine == ps.line) = true by rfl)]
    obtain ⟨ga, gt, at_, fn, bd⟩ := TO.meth _ _ _ hm
    obtain ⟨dx, sl, I, _, _⟩ := inst_at hl O₁
    -- the method object: an object beside the others
    refine wpC_bind (wpC_holding (wpC_bind (wpC_of (get_bind O₁.inK I ga bd gt (wpAny_call (fn_get (s := { s₁ with toks := s₁.toks + 1 }) (O₁.tick _).inK fn (handed_on rfl (wpC_pure ?_))))))))
    have J := O₁.junk (methodObj (.ref fm) (.ref b)) (s₁.toks + 1)
    refine wpC_bind (wpC_pure ?_)
    refine Cv.then J.2 ?_
    have hmo : (s₁.heap.push (methodObj (.ref fm) (.ref b))).get? s₁.heap.objs.size = some (methodObj (.ref fm) (.ref b)) := Heap.get?_push_size _ rfl
    have hmn : hp₁ s₁.heap.objs.size = none := O₁.size_none
    refine callWith_c (evalArgs_star (spliced_star ?_))
    have Vj := (V.at S₁).at J.2
    refine wpC_mono (Y o2 nd F R J.1 Vj h₁) (fun av s₂ hx => ?_) fun _ _ x => x
    obtain ⟨a₁, hp₂, h₂, ra, O₂, S₂⟩ := hx
    refine wpC_bind (wpC_mono (Z o3 nd F R O₂ (Vj.at S₂) h₂) (fun tv s₃ hx => wpC_bind (wpC_standAt (wpC_pure ?_))) fun _ _ x => x)
    obtain ⟨t₁, hp₃, ⟨xs, rfl, hlen, hcal, hcp⟩, rt, O₃, S₃⟩ := hx
    obtain ⟨c, vals, rfl, hcn, tup, rr⟩ := rt
    have hz : vals.size = xs.length := by rw [← rr.length]; simp
    refine ⟨c, vals, rfl, tup, by rw [hz, sizeLine_eq]; omega, fun h' keep => ?_⟩
    have G := O₃.grown keep s₃.toks
    have S := (S₂.trans S₃).trans G.2
    have hmo' := S.keep _ _ hmo hmn
    refine ⟨fun Q' q => ?_, ?_⟩
    · unfold keeperOf
      refine wpAny_bind (wpAny_load hmo' ?_)
      dsimp only
      rw [if_neg (by decide)]
      have fo := O₃.inK
      obtain ⟨ofm, hfo, _⟩ := Option.map_eq_some_iff.mp fn
      exact wpAny_bind (wpAny_load (G.1.inK _ _ hfo) (wpAny_pure (q _)))
    · refine Cv.then S (CodeV.call ?_)
      have cc := hcp A { s₃ with heap := h' } (.ref b :: av :: vals.toList) [] R G.1 ⟨_, _, rfl, rfl, _, _, rfl, (ra.at S₃).at G.2, rr.at G.2⟩ ⟨rfl, rfl⟩
      exact method_callC hmo' cc
  · cases ok
end
end Mine
namespace Mine
open PySem PySem.W PySem.Calls PyProof.Rows

/-- an object that is neither a frame, a cell nor a row: an iterator -/
noncomputable def Fielded (h : Heap) (I : Addr) : Prop := ∃ c d vs sl, h.get? I = some ⟨c, d, .fields vs, sl⟩

/-- rows stay; nothing is said of what else is alive -/
noncomputable def KeptW (hp : Hp) (h : Heap) (hp' : Hp) (h' : Heap) : Prop := ∀ b o, (∃ its n, o.data = .seq its n) → h.get? b = some o → hp b = none → h'.get? b = some o ∧ hp' b = none
mutual
theorem VRel.stepW {hp hp' : Hp} {h h' : Heap} (k : KeptW hp h hp' h') : ∀ {x : V} {v : Value}, VRel hp h x v → VRel hp' h' x v
  | .none, _, e => e
  | .bool _, _, e => e
  | .int _, _, e => e
  | .str _, _, e => e
  | .bytes _, _, e => e
  | .typ _, _, e => e
  | .bltn _, _, e => e
  | .ref _, _, e => e
  | .tup xs, _, ⟨a, vals, e, q, ⟨o, ho, hc, n, hd⟩, r⟩ => ⟨a, vals, e, (k a o ⟨vals, n, hd⟩ ho q).2, ⟨o, (k a o ⟨vals, n, hd⟩ ho q).1, hc, n, hd⟩, VRels.stepW k r⟩
  | .flist xs, _, ⟨a, vals, e, q, ⟨o, ho, hc, n, hd⟩, r⟩ => ⟨a, vals, e, (k a o ⟨vals, n, hd⟩ ho q).2, ⟨o, (k a o ⟨vals, n, hd⟩ ho q).1, hc, n, hd⟩, VRels.stepW k r⟩
theorem VRels.stepW {hp hp' : Hp} {h h' : Heap} (k : KeptW hp h hp' h') : ∀ {xs : List V} {vs : List Value}, VRels hp h xs vs → VRels hp' h' xs vs
  | [], _, e => e
  | _ :: _, _, ⟨v, r, e, a, b⟩ => ⟨v, r, e, VRel.stepW k a, VRels.stepW k b⟩
end
theorem ORel.stepW {W : Wd} {hp hp' : Hp} {h h' : Heap} {a : Addr} (k : KeptW hp h hp' h') (ed : ∀ b, hp b = some .edict → hp' b = some .edict) (e : ∀ o, h.get? a = some o → h'.get? a = some o) : ∀ {o : Ob}, ORel W hp h a o → ORel W hp' h' a o
  | .list xs, ⟨vals, p, r⟩ => ⟨vals, p.at fun o q => e o q, r.stepW k⟩
  | .barr b, ⟨d, sl, p⟩ => ⟨d, sl, e _ p⟩
  | .idict kvs, ⟨ys, ⟨o, es, ep, ho, hr⟩, q, r⟩ => ⟨ys, ⟨o, es, ep, e _ ho, hr⟩, q, r.stepW k⟩
  | .tdict kvs, ⟨ys, ⟨o, es, ep, ho, h1, h2, h3, h4, h5⟩, q, r, z⟩ => by
    have t : ∀ y ∈ ys, IsTupleKey (kdKind W.prog W.w) h' y.1 y.2.1 ∧ hp' y.2.1 = none := fun y hy => by
      obtain ⟨oy, its, n, hoy, hc, hd, hi⟩ := h4 y hy
      have := k _ oy ⟨its, n, hd⟩ hoy (z y hy)
      exact ⟨⟨oy, its, n, this.1, hc, hd, hi⟩, this.2⟩
    exact ⟨ys, ⟨o, es, ep, e _ ho, h1, h2, h3, fun y hy => (t y hy).1, h5⟩, q, r.stepW k, fun y hy => (t y hy).2⟩
  | .edict, p => e _ p
  | .inst C f, ⟨dx, sl, p, q, r⟩ => ⟨dx, sl, e _ p, ed _ q, fun i v hv => let ⟨val, z, y⟩ := r i v hv; ⟨val, z, y.stepW k⟩⟩

section
variable {W : Wd} {A : Around} {hp hp₀ hp' : Hp} {s s₀ : Shared} {n : Nat}

/-- only the iterator has moved -/
structure Moved1 (I : Addr) (h h' : Heap) : Prop where
  was : Fielded h I
  rest : ∀ b o, b ≠ I → h.get? b = some o → h'.get? b = some o

theorem Moved1.kept {I : Addr} {h h' : Heap} (m : Moved1 I h h') : KeptW hp h hp h' := by
  obtain ⟨c, d, vs, sl, e⟩ := m.was
  refine fun b o ⟨its, k, hd⟩ ho q => ⟨m.rest b o (fun hb => ?_) ho, q⟩
  subst hb
  rw [e] at ho; cases ho; cases hd

theorem HOk.moved {I : Addr} {h' : Heap} (O : HOk W hp s) (hI : hp I = none) (h0 : W.h₀.get? I = none) (m : Moved1 I s.heap h') (t : Nat) : HOk W hp { s with heap := h', toks := t } := by
  refine ⟨fun b o e => m.rest b o (fun q => by rw [q, h0] at e; cases e) (O.old b o e), fun b o e => ?_, O.fresh, O.high, O.gens, O.os⟩
  exact ORel.stepW m.kept (fun _ q => q) (fun ob q => m.rest b ob (fun z => by rw [z, hI] at e; cases e) q) (O.objs b o e)

theorem HStep.moved {I : Addr} {h' : Heap} (S : HStep hp₀ s₀ hp s) (hI : s₀.heap.get? I = none) (m : Moved1 I s.heap h') (t : Nat) : HStep hp₀ s₀ hp { s with heap := h', toks := t } := by
  refine ⟨fun b o e q => m.rest b o (fun z => by rw [z, hI] at e; cases e) (S.keep b o e q), S.out, fun b e => ?_⟩
  obtain ⟨o, q⟩ := Option.isSome_iff_exists.mp (S.live b e)
  rw [m.rest b o (fun z => by rw [z, hI] at e; cases e) q]; rfl

theorem VarsRel.moved {sc : Scope} {lay : List Str} {env : Env} {vars : Vars} {I : Addr} {h' : Heap} (R : VarsRel sc lay env vars hp s.heap) (m : Moved1 I s.heap h') : VarsRel sc lay env vars hp h' := by
  have k : KeptW hp s.heap hp h' := m.kept
  obtain ⟨c0, d0, vs0, sl0, eI⟩ := m.was
  obtain ⟨mm, ⟨o, es, ep, ho, hd, hr⟩, hv⟩ := R.ns
  have nl : env.locals ≠ I := fun q => by rw [q, eI] at ho; cases ho; cases hd
  refine ⟨R.hpL, ⟨mm, ⟨o, es, ep, m.rest _ o nl ho, hd, hr⟩, fun i x v a b c => let ⟨val, e, r⟩ := hv i x v a b c; ⟨val, e, r.stepW k⟩⟩, fun i x a b => ?_⟩
  obtain ⟨c, vv, e, q, ⟨oc, hoc, hdc⟩, r⟩ := R.cells i x a b
  have nc : c ≠ I := fun z => by rw [z, eI] at hoc; cases hoc; cases hdc
  exact ⟨c, vv, e, q, ⟨oc, m.rest _ oc nc hoc, hdc⟩, fun v w => let ⟨val, e, r⟩ := r v w; ⟨val, e, r.stepW k⟩⟩

/-- an iterator over a source: what stands at its i-th place, and what next gives there -/
structure Itr (W : Wd) (A : Around) (src : Src) (I : Addr) (Nx : Nat → Hp → Heap → Prop) : Prop where
  fld : ∀ {i hp h}, Nx i hp h → Fielded h I
  frame : ∀ {i hp h hp' h'}, Nx i hp h → KeptW hp h hp' h' → (∀ o, h.get? I = some o → h'.get? I = some o) → Nx i hp' h'
  next : ∀ {i hp s}, HOk W hp s → src.ok hp → Nx i hp s.heap → ∀ {Q : Option Value → Shared → Prop},
    (∀ x, src.items[i]? = some x → ∀ v h' t, Moved1 I s.heap h' → Nx (i + 1) hp h' → VRel hp h' x v → Q (some v) { s with heap := h', toks := t }) →
    (src.items.length ≤ i → ∀ h' t, Moved1 I s.heap h' → Q none { s with heap := h', toks := t }) →
    wpAny W.M A (pyNext (.ref I)) Q (fun _ _ => False) s
  self : ∀ {i hp s}, Nx i hp s.heap → ∀ {Q : Value → Shared → Prop}, Q (.ref I) s → wpAny W.M A (pyIter (.ref I)) Q (fun _ _ => False) s

/-! the sources -/
theorem getElem_rel {h : Heap} {xs : List V} {vals : Array Value} (rr : VRels hp h xs vals.toList) {i : Nat} {x : V} (e : xs[i]? = some x) : ∃ v, vals[i]? = some v ∧ VRel hp h x v := by
  obtain ⟨v, a, b⟩ := rr.get e
  rw [Array.getElem?_toList] at a
  exact ⟨v, a, b⟩

theorem itr_frozen {I a : Addr} {vals : Array Value} {xs : List V} (hh : A.handled = none) (hIa : a ≠ I) :
    Itr W A (.fix xs) I (fun i hp h => h.IsListIter I a i ∧ h.IsList a vals ∧ hp a = none ∧ VRels hp h xs vals.toList) where
  fld := fun {i hp h} nx => by obtain ⟨⟨⟨c, d, dt, sl⟩, ho, hc, hd⟩, _⟩ := nx; simp only at hd; subst hd; exact ⟨c, d, _, sl, ho⟩
  frame := fun {i hp h hp' h'} nx k e => by
    obtain ⟨⟨o, ho, r⟩, ⟨ol, hl, hc, n, hd⟩, hn, rr⟩ := nx
    exact ⟨⟨o, e _ ho, r⟩, ⟨ol, (k _ _ ⟨_, n, hd⟩ hl hn).1, hc, n, hd⟩, (k _ _ ⟨_, n, hd⟩ hl hn).2, rr.stepW k⟩
  next := fun {i hp s} O _ nx Q item fin => by
    obtain ⟨it, l, hn, rr⟩ := nx
    have was : Fielded s.heap I := by obtain ⟨⟨c, d, dt, sl⟩, ho, hc, hd⟩ := it; simp only at hd; subst hd; exact ⟨c, d, _, sl, ho⟩
    cases e : xs[i]? with
    | some x =>
      obtain ⟨v, hv, rv⟩ := getElem_rel rr e
      refine wpAny_pyNext_list_item it l hv fun h' it' sb => ?_
      have m : Moved1 I s.heap h' := ⟨was, fun b o hb q => (sb.2 b hb).trans q⟩
      obtain ⟨ol, hl, hc, n, hd⟩ := l
      exact item x e v h' s.toks m ⟨it', ⟨ol, m.rest _ _ hIa hl, hc, n, hd⟩, hn, rr.stepW m.kept⟩ (rv.stepW m.kept)
    | none =>
      have hlen : xs.length ≤ i := List.getElem?_eq_none_iff.mp e
      refine wpAny_pyNext_list_end hh it l ?_ fun h' eb => fin hlen h' s.toks ⟨was, fun b o hb q => eb b o hb q⟩
      have := rr.length
      simp at this ⊢; omega
  self := fun {i hp s} nx Q q => wpAny_pyIter_listiter nx.1 q
end
end Mine
namespace Mine
open PySem PySem.W PySem.Calls PyProof.Rows

section
variable {W : Wd} {A : Around} {hp hp₀ hp' : Hp} {s s₀ : Shared} {n : Nat}

theorem itr_tuple {I a : Addr} {vals : Array Value} {xs : List V} (hh : A.handled = none) (hIa : a ≠ I) :
    Itr W A (.fix xs) I (fun i hp h => h.IsTupleIter I a i ∧ IsTup h a vals ∧ hp a = none ∧ VRels hp h xs vals.toList) where
  fld := fun {i hp h} nx => by obtain ⟨⟨⟨c, d, dt, sl⟩, ho, hc, hd⟩, _⟩ := nx; simp only at hd; subst hd; exact ⟨c, d, _, sl, ho⟩
  frame := fun {i hp h hp' h'} nx k e => by
    obtain ⟨⟨o, ho, r⟩, ⟨ol, hl, hc, n, hd⟩, hn, rr⟩ := nx
    exact ⟨⟨o, e _ ho, r⟩, ⟨ol, (k _ _ ⟨_, n, hd⟩ hl hn).1, hc, n, hd⟩, (k _ _ ⟨_, n, hd⟩ hl hn).2, rr.stepW k⟩
  next := fun {i hp s} O _ nx Q item fin => by
    obtain ⟨it, l, hn, rr⟩ := nx
    have was : Fielded s.heap I := by obtain ⟨⟨c, d, dt, sl⟩, ho, hc, hd⟩ := it; simp only at hd; subst hd; exact ⟨c, d, _, sl, ho⟩
    cases e : xs[i]? with
    | some x =>
      obtain ⟨v, hv, rv⟩ := getElem_rel rr e
      refine wpAny_pyNext_tuple_item it l hv fun h' it' sb => ?_
      have m : Moved1 I s.heap h' := ⟨was, fun b o hb q => (sb.2 b hb).trans q⟩
      obtain ⟨ol, hl, hc, n, hd⟩ := l
      exact item x e v h' s.toks m ⟨it', ⟨ol, m.rest _ _ hIa hl, hc, n, hd⟩, hn, rr.stepW m.kept⟩ (rv.stepW m.kept)
    | none =>
      have hlen : xs.length ≤ i := List.getElem?_eq_none_iff.mp e
      refine wpAny_pyNext_tuple_end hh it l ?_ fun h' eb => fin hlen h' s.toks ⟨was, fun b o hb q => eb b o hb q⟩
      have := rr.length
      simp at this ⊢; omega
  self := fun {i hp s} nx Q q => wpAny_pyIter_tupleiter nx.1 q

theorem itr_heap {I a : Addr} {xs : List V} (hh : A.handled = none) :
    Itr W A (.lst a xs xs) I (fun i hp h => h.IsListIter I a i) where
  fld := fun {i hp h} nx => by obtain ⟨⟨c, d, dt, sl⟩, ho, hc, hd⟩ := nx; simp only at hd; subst hd; exact ⟨c, d, _, sl, ho⟩
  frame := fun {i hp h hp' h'} nx k e => by obtain ⟨o, ho, r⟩ := nx; exact ⟨o, e _ ho, r⟩
  next := fun {i hp s} O ok it Q item fin => by
    obtain ⟨vals, p, rr⟩ := O.objs _ _ ok
    have was : Fielded s.heap I := by obtain ⟨⟨c, d, dt, sl⟩, ho, hc, hd⟩ := it; simp only at hd; subst hd; exact ⟨c, d, _, sl, ho⟩
    cases e : xs[i]? with
    | some x =>
      obtain ⟨v, hv, rv⟩ := getElem_rel rr e
      refine wpAny_pyNext_list_item it p.isList hv fun h' it' sb => ?_
      have m : Moved1 I s.heap h' := ⟨was, fun b o hb q => (sb.2 b hb).trans q⟩
      exact item x e v h' s.toks m it' (rv.stepW m.kept)
    | none =>
      have hlen : xs.length ≤ i := List.getElem?_eq_none_iff.mp e
      refine wpAny_pyNext_list_end hh it p.isList ?_ fun h' eb => fin hlen h' s.toks ⟨was, fun b o hb q => eb b o hb q⟩
      have := rr.length
      simp at this ⊢; omega
  self := fun {i hp s} nx Q q => wpAny_pyIter_listiter nx q

theorem itr_range {I : Addr} {a c : Int} {n : Nat} (hh : A.handled = none) :
    Itr W A (.fix ((List.range n).map fun (k : Nat) => V.int (a + k * c))) I (fun i hp h => IsRangeIter h I (a + (i : Nat) * c) ((n : Int) - (i : Nat)) c) where
  fld := fun {i hp h} nx => ⟨_, _, _, _, nx⟩
  frame := fun {i hp h hp' h'} nx k e => e _ nx
  next := fun {i hp s} O ok it Q item fin => by
    have was : Fielded s.heap I := ⟨_, _, _, _, it⟩
    by_cases hi : i < n
    · refine wpAny_pyNext_range_item it (by omega) fun h' it' sb => ?_
      have m : Moved1 I s.heap h' := ⟨was, fun b o hb q => (sb.2 b hb).trans q⟩
      have e1 : a + ((i + 1 : Nat) : Int) * c = a + (i : Int) * c + c := by push_cast; rw [Int.add_mul, Int.one_mul, Int.add_assoc]
      have e2 : (n : Int) - ((i + 1 : Nat) : Int) = (n : Int) - (i : Int) - 1 := by push_cast; omega
      refine item (.int (a + i * c)) ?_ _ h' _ m ?_ ⟨_, rfl⟩
      · show ((List.range n).map _)[i]? = _
        rw [List.getElem?_map, List.getElem?_range hi]; rfl
      · rw [e1, e2]; exact it'
    · refine wpAny_pyNext_range_end hh it (by omega) fun h' eb => fin ?_ h' s.toks ⟨was, fun b o hb q => eb b o hb q⟩
      show ((List.range n).map _).length ≤ i
      simp; omega
  self := fun {i hp s} nx Q q => wpAny_pyIter_rangeiter nx q
end
end Mine
namespace Mine
open PySem PySem.W PySem.Calls PyProof.Rows

section
variable {W : Wd} {A : Around} {hp hp₀ hp' : Hp} {s s₀ : Shared} {n : Nat}

theorem itr_rev {I a : Addr} {xs : List V} (hh : A.handled = none) :
    Itr W A (.lst a xs xs.reverse) I (fun i hp h => i ≤ xs.length ∧ h.IsRevIter I a ((xs.length : Int) - 1 - (i : Int))) where
  fld := fun {i hp h} nx => by obtain ⟨_, ⟨c, d, dt, sl⟩, ho, hc, hd⟩ := nx; simp only at hd; subst hd; exact ⟨c, d, _, sl, ho⟩
  frame := fun {i hp h hp' h'} nx k e => ⟨nx.1, nx.2.at e⟩
  next := fun {i hp s} O ok nx Q item fin => by
    obtain ⟨hi, it⟩ := nx
    obtain ⟨vals, p, rr⟩ := O.objs _ _ ok
    have hl := rr.length
    have was : Fielded s.heap I := by obtain ⟨⟨c, d, dt, sl⟩, ho, hc, hd⟩ := it; simp only at hd; subst hd; exact ⟨c, d, _, sl, ho⟩
    by_cases h : i < xs.length
    · have e : (xs.length : Int) - 1 - (i : Int) = ((xs.length - 1 - i : Nat) : Int) := by omega
      rw [e] at it
      have hx : xs[xs.length - 1 - i]? = some (xs[xs.length - 1 - i]'(by omega)) := List.getElem?_eq_getElem (by omega)
      obtain ⟨v, hv, rv⟩ := getElem_rel rr hx
      refine wpAny_pyNext_rev_item it p.isList hv fun h' it' sb => ?_
      have m : Moved1 I s.heap h' := ⟨was, fun b o hb q => (sb.2 b hb).trans q⟩
      refine item _ ?_ v h' s.toks m ⟨h, ?_⟩ (rv.stepW m.kept)
      · show xs.reverse[i]? = _
        rw [List.getElem?_reverse h]; exact hx
      · have e2 : ((xs.length - 1 - i : Nat) : Int) - 1 = (xs.length : Int) - 1 - ((i + 1 : Nat) : Int) := by omega
        rw [e2] at it'; exact it'
    · have e : (xs.length : Int) - 1 - (i : Int) = -1 := by omega
      rw [e] at it
      refine wpAny_pyNext_rev_end hh it fun h' eb => fin (by show xs.reverse.length ≤ i; rw [List.length_reverse]; omega) h' s.toks ⟨was, fun b o hb q => eb b o hb q⟩
  self := fun {i hp s} nx Q q => wpAny_pyIter_revIter nx.2 q
end
end Mine
namespace Mine
open PySem PySem.W PySem.Calls PyProof.Rows

section
variable {W : Wd} {A : Around} {hp hp₀ hp' : Hp} {s s₀ : Shared} {n : Nat}

/-- an iterator stands at the source's beginning -/
noncomputable def GotSrc (W : Wd) (s₀ : Shared) (src : Src) (hp : Hp) (it : Value) (s : Shared) : Prop :=
  ∃ I Nx, it = .ref I ∧ hp I = none ∧ W.h₀.get? I = none ∧ s₀.heap.get? I = none ∧ (∀ A : Around, A.handled = none → Itr W A src I Nx) ∧ Nx 0 hp s.heap

theorem HOk.h0_none (O : HOk W hp s) {I : Addr} (h : s.heap.get? I = none) : W.h₀.get? I = none := by
  cases e : W.h₀.get? I with
  | none => rfl
  | some o => rw [O.old _ _ e] at h; cases h
theorem size_free (h : Heap) : h.get? h.objs.size = none := by
  cases e : h.get? h.objs.size with
  | none => rfl
  | some o => exact absurd (Heap.lt_size e) (Nat.lt_irrefl _)
theorem HStep.was_none (S : HStep hp₀ s₀ hp s) {I : Addr} (h : s.heap.get? I = none) : s₀.heap.get? I = none := by
  cases e : s₀.heap.get? I with
  | none => rfl
  | some o => have := S.live I (by rw [e]; rfl); rw [h] at this; cases this

/-- a new iterator -/
theorem got_new {src : Src} {o : Obj} {Nx : Nat → Hp → Heap → Prop} (O : HOk W hp s) (S : HStep hp₀ s₀ hp s) (it : ∀ A : Around, A.handled = none → Itr W A src s.heap.objs.size Nx) (nx : Nx 0 hp (s.heap.push o)) (t : Nat) :
    GotSrc W s₀ src hp (.ref s.heap.objs.size) { s with heap := s.heap.push o, toks := t } ∧ HOk W hp { s with heap := s.heap.push o, toks := t } ∧ HStep hp₀ s₀ hp { s with heap := s.heap.push o, toks := t } :=
  ⟨⟨_, Nx, rfl, O.size_none, O.h0_none (size_free _), S.was_none (size_free _), it, nx⟩, (O.junk o t).1, S.trans (O.junk o t).2⟩

theorem size_up {a b : Int} : Builtin.Range.rangeSize a b 1 = ((b - a).toNat : Int) := by
  unfold Builtin.Range.rangeSize
  rw [if_pos (by omega), Int.ediv_one]
  split <;> omega
theorem size_down {a b : Int} : Builtin.Range.rangeSize a b (-1) = ((a - b).toNat : Int) := by
  unfold Builtin.Range.rangeSize
  rw [if_neg (by omega), show -(-1 : Int) = 1 from rfl, Int.ediv_one]
  split <;> omega
theorem rangeL_up {a b : Int} : rangeL a b 1 = (List.range (b - a).toNat).map fun (k : Nat) => V.int (a + k * 1) := by
  unfold rangeL
  rw [if_pos (by omega), Int.ediv_one, show b - a + 1 - 1 = b - a by omega]
theorem rangeL_down {a b : Int} : rangeL a b (-1) = (List.range (a - b).toNat).map fun (k : Nat) => V.int (a + k * (-1)) := by
  unfold rangeL
  rw [if_neg (by omega), show -(-1 : Int) = 1 from rfl, Int.ediv_one, show a - b - -1 - 1 = a - b by omega]

theorem fits {i : Int} (h : -2 ^ 42 < i ∧ i < 2 ^ 42) : Builtin.Range.rangeFitsLong i = true := by
  unfold Builtin.Range.rangeFitsLong
  simp only [Bool.and_eq_true, decide_eq_true_eq]
  omega
theorem small_ok {a b c : Int} (ha : -2 ^ 40 < a ∧ a < 2 ^ 40) (hb : -2 ^ 40 < b ∧ b < 2 ^ 40) (hc : c = 1 ∨ c = -1) : Builtin.Range.small a b c = true := by
  have hs : Builtin.Range.rangeFitsLong (Builtin.Range.rangeSize a b c) = true := by
    rcases hc with rfl | rfl
    · rw [size_up]; exact fits (by omega)
    · rw [size_down]; exact fits (by omega)
  unfold Builtin.Range.small
  rw [fits (i := a) (by omega), fits (i := b) (by omega), fits (i := c) (by omega), hs]
  simp only [Bool.and_self, Bool.true_and, Bool.or_eq_true]
  right
  split <;> exact fits (by omega)

theorem range_src {r : Addr} {a b c : Int} {t u v : Tok} (O : HOk W hp s) (S : HStep hp₀ s₀ hp s) (hr : IsRange s.heap r a b c t u v) (ha : -2 ^ 40 < a ∧ a < 2 ^ 40) (hb : -2 ^ 40 < b ∧ b < 2 ^ 40) (hc : c = 1 ∨ c = -1)
    {Q : Value → Shared → Prop} (q : ∀ it s', GotSrc W s₀ (.fix (rangeL a b c)) hp it s' → HOk W hp s' → HStep hp₀ s₀ hp s' → Q it s') : wpAny W.M A (pyIter (.ref r)) Q (fun _ _ => False) s := by
  refine wpAny_pyIter_range hr (small_ok ha hb hc) ?_
  have key : ∀ n : Nat, Builtin.Range.rangeSize a b c = (n : Int) → rangeL a b c = (List.range n).map (fun (k : Nat) => V.int (a + k * c)) → Q (.ref s.heap.objs.size) { s with heap := s.heap.push { cls := .type "range_iterator", data := .fields #[rawInt a, rawInt (Builtin.Range.rangeSize a b c), rawInt c] } } := fun n e1 e2 => by
    have it := fun (A : Around) (hh : A.handled = none) => itr_range (W := W) (A := A) (I := s.heap.objs.size) (a := a) (c := c) (n := n) hh
    rw [← e2] at it
    have G := got_new (o := { cls := .type "range_iterator", data := .fields #[rawInt a, rawInt (Builtin.Range.rangeSize a b c), rawInt c] }) O S it (by
      rw [e1]
      have : IsRangeIter (s.heap.push { cls := .type "range_iterator", data := .fields #[rawInt a, rawInt (n : Int), rawInt c] }) s.heap.objs.size a n c := Heap.get?_push_size _ rfl
      simpa using this) s.toks
    exact q _ _ G.1 G.2.1 G.2.2
  rcases hc with rfl | rfl
  · exact key _ size_up rangeL_up
  · exact key _ size_down rangeL_down
end
end Mine
namespace Mine
open PySem PySem.W PySem.Calls PyProof.Rows

section
variable {W : Wd} {T : St W} {n : Nat}

theorem fold_plain {sc : Scope} {k : ItK} {it : Expr} {as : List Expr} {env : Env} {x : Value} (h : itArgs sc k it = some as) : foldedSetIterable it env x = pure x := by
  unfold itArgs at h
  cases k <;> cases it <;> first | rfl | (simp only at h; cases h) | (simp [notSet] at h)

noncomputable def SrcPost (W : Wd) (hp : Hp) (s : Shared) (q : Src → Hp → Prop) (iv : Value) (s₂ : Shared) : Prop :=
  ∃ sr hp₁, q sr hp₁ ∧ GotSrc W s sr hp₁ iv s₂ ∧ HOk W hp₁ s₂ ∧ HStep hp s hp₁ s₂

theorem ne_size {h : Heap} {a : Addr} {o : Obj} (e : h.get? a = some o) : a ≠ h.objs.size := Nat.ne_of_lt (Heap.lt_size e)

/-- a value's own iterator -/
theorem of_src {A : Around} {v : V} {val : Value} {hp₀ hp : Hp} {s₀ s : Shared} {q : Src → Hp → Prop} (h : srcK .of [v] hp fun sr => q sr hp) (O : HOk W hp s) (S : HStep hp₀ s₀ hp s) (r : VRel hp s.heap v val) :
    wpAny W.M A (pyIter val) (SrcPost W hp₀ s₀ q) (fun _ _ => False) s := by
  cases v with
  | none => exact (show False from h).elim
  | bool b => exact (show False from h).elim
  | int b => exact (show False from h).elim
  | str b => exact (show False from h).elim
  | bytes b => exact (show False from h).elim
  | typ b => exact (show False from h).elim
  | bltn b => exact (show False from h).elim
  | tup xs =>
    have h : q (.fix xs) hp := h
    obtain ⟨a, vals, rfl, hn, t, rr⟩ := r
    have hta : ∃ o, s.heap.get? a = some o := let ⟨o, e, _⟩ := t; ⟨o, e⟩
    obtain ⟨ot, eot⟩ := hta
    refine wpAny_pyIter_tuple t ?_
    have keep : ∀ o₂ : Obj, KeptW hp s.heap hp (s.heap.push o₂) := fun o₂ b ob ⟨its, k, hd⟩ e qn => ⟨Heap.get?_push_of_some _ e, qn⟩
    have G := got_new (src := .fix xs) (o := { cls := .type "tuple_iterator", data := .fields #[.ref a, .int 0 0] }) O S (fun A hh => itr_tuple (W := W) (A := A) (I := s.heap.objs.size) (a := a) (vals := vals) (xs := xs) hh (ne_size eot))
      ⟨⟨_, Heap.get?_push_size _ rfl, rfl, rfl⟩, (let ⟨o, e, h2⟩ := t; ⟨o, Heap.get?_push_of_some _ e, h2⟩), hn, rr.stepW (keep _)⟩ s.toks
    exact ⟨_, _, h, G.1, G.2.1, G.2.2⟩
  | flist xs =>
    have h : q (.fix xs) hp := h
    obtain ⟨a, vals, rfl, hn, t, rr⟩ := r
    have hta : ∃ o, s.heap.get? a = some o := let ⟨o, e, _⟩ := t; ⟨o, e⟩
    obtain ⟨ot, eot⟩ := hta
    refine wpAny_pyIter_list t ?_
    have keep : ∀ o₂ : Obj, KeptW hp s.heap hp (s.heap.push o₂) := fun o₂ b ob ⟨its, k, hd⟩ e qn => ⟨Heap.get?_push_of_some _ e, qn⟩
    have G := got_new (src := .fix xs) (o := { cls := .type "list_iterator", data := .fields #[.ref a, .int 0 0] }) O S (fun A hh => itr_frozen (W := W) (A := A) (I := s.heap.objs.size) (a := a) (vals := vals) (xs := xs) hh (ne_size eot))
      ⟨⟨_, Heap.get?_push_size _ rfl, rfl, rfl⟩, (let ⟨o, e, h2⟩ := t; ⟨o, Heap.get?_push_of_some _ e, h2⟩), hn, rr.stepW (keep _)⟩ s.toks
    exact ⟨_, _, h, G.1, G.2.1, G.2.2⟩
  | ref a =>
    cases r
    have h : match hp a with | some (.list xs) => q (.lst a xs xs) hp | _ => False := h
    split at h
    · rename_i xs hl
      obtain ⟨vals, p, rr⟩ := O.objs _ _ hl
      refine wpAny_pyIter_list p.isList ?_
      have G := got_new (src := .lst a xs xs) (o := { cls := .type "list_iterator", data := .fields #[.ref a, .int 0 0] }) O S (fun A hh => itr_heap (W := W) (A := A) (I := s.heap.objs.size) (a := a) (xs := xs) hh)
        ⟨_, Heap.get?_push_size _ rfl, rfl, rfl⟩ s.toks
      exact ⟨_, _, h, G.1, G.2.1, G.2.2⟩
    · exact h.elim

theorem name_src : (("range" : Str) == ("__debug__" : Str)) = false ∧ (("reversed" : Str) == ("__debug__" : Str)) = false := by decide +kernel
theorem boot_src : bootBuiltins "range" = some (.type "range") ∧ bootBuiltins "reversed" = some (.type "reversed") := ⟨by kernel_rfl, by kernel_rfl⟩

/-- a built-in class is called by its name: its arguments, and what the call does -/
theorem tcall_c {x : Str} {t : String} {as : List Expr} {xp pos : Pos} {es : List E} (all : ∀ e ∈ es, SE T n e) {sc : Scope} {lay : List Str} {env : Env} {A : Around} {vars : Vars} {hp : Hp} {s : Shared} {k : List V → Hp → Prop} {Q : Value → Shared → Prop}
    (hd : (x == ("__debug__" : Str)) = false) (hn : x ≠ "__name__") (hb : bootBuiltins x = some (.type t)) (hg : isGlob sc x = true) (nm : W.mg x = none)
    (ok : okEs sc lay es as = true) (nd : lay.Nodup) (F : FrOk W sc env) (R : Room n A) (O : HOk W hp s) (V : VarsRel sc lay env vars hp s.heap) (h : vcEs T n es vars hp k)
    (q : ∀ vs vals hp₁ s₁, k vs hp₁ → VRels hp₁ s₁.heap vs vals → HOk W hp₁ s₁ → HStep hp s hp₁ s₁ → wpC W.M A (call (.type t) vals) Q (fun _ _ => False) s₁) :
    wpC W.M A (eval (.Call (.Name x xp) as [] pos) env) Q (fun _ _ => False) s := by
  rw [arm_eval_Call_Name']
  simp only [isGlob, Bool.and_eq_true, beq_iff_eq, bne_iff_ne, ne_eq] at hg
  refine wpC_bind (wpC_of (wpAny_Name ?_ hd))
  rw [loadName_read F.kind (F.glo _ hg.1)]
  refine loadGlobal_builtin (by rw [F.globals]; exact O.hg) nm (by rw [F.builtins]; exact O.hb) ((W.bi _ hn).trans hb) ?_
  refine callWith_c (evalArgs_c (row_plain ok) rfl ?_)
  refine wpC_mono (se_row all ok nd F R O V h) (fun vs s₁ hx => wpC_pure ?_) fun _ _ x => x
  obtain ⟨xs, hp₁, h₁, r₁, O₁, S₁⟩ := hx
  exact ⟨fun Q' q => wpAny_pure (q _), q _ _ _ _ h₁ r₁ O₁ S₁⟩

theorem rng_src {A : Around} {vs : List V} {vals : List Value} {hp₀ hp : Hp} {s₀ s : Shared} {q : Src → Hp → Prop} (h : srcK .rng vs hp fun sr => q sr hp) (O : HOk W hp s) (S : HStep hp₀ s₀ hp s) (r : VRels hp s.heap vs vals) :
    wpAny W.M A (call (.type "range") vals) (fun x s₁ => wpC W.M A (pyIter x) (SrcPost W hp₀ s₀ q) (fun _ _ => False) s₁) (fun _ _ => False) s := by
  unfold srcK at h
  split at h
  · rename_i i _
    obtain ⟨v1, _, rfl, ⟨t1, rfl⟩, rfl⟩ := r
    obtain ⟨hb, h⟩ := h
    refine call_range_1 (wpC_of ?_)
    have J := O.junk { cls := .type "range", data := .fields #[.int 0 s.toks, .int i t1, .int 1 (s.toks + 1)] } (s.toks + 1 + 1)
    exact range_src J.1 (S.trans J.2) (IsRange.new ..) (by omega) (by omega) (.inl rfl) fun it s' G O' S' => ⟨_, _, h, G, O', S'⟩
  · rename_i i j _
    obtain ⟨v1, _, rfl, ⟨t1, rfl⟩, v2, _, rfl, ⟨t2, rfl⟩, rfl⟩ := r
    obtain ⟨hb, h⟩ := h
    refine call_range_2 (wpC_of ?_)
    have J := O.junk { cls := .type "range", data := .fields #[.int i t1, .int j t2, .int 1 s.toks] } (s.toks + 1)
    exact range_src J.1 (S.trans J.2) (IsRange.new ..) hb.1 hb.2 (.inl rfl) fun it s' G O' S' => ⟨_, _, h, G, O', S'⟩
  · rename_i i j _ _
    obtain ⟨v1, _, rfl, ⟨t1, rfl⟩, v2, _, rfl, ⟨t2, rfl⟩, v3, _, rfl, ⟨t3, rfl⟩, rfl⟩ := r
    obtain ⟨⟨h1, h2, rfl⟩, h⟩ := h
    refine call_range_3 (by decide) (wpC_of ?_) (.inl (PyProof.noPylong_small (by decide)))
    have J := O.junk { cls := .type "range", data := .fields #[.int i t1, .int j t2, .int (-1) t3] } s.toks
    exact range_src J.1 (S.trans J.2) (IsRange.new ..) h1 h2 (.inr rfl) fun it s' G O' S' => ⟨_, _, h, G, O', S'⟩
  all_goals first | exact h.elim | contradiction

theorem rev_src {A : Around} {vs : List V} {vals : List Value} {hp₀ hp : Hp} {s₀ s : Shared} {q : Src → Hp → Prop} (h : srcK .rev vs hp fun sr => q sr hp) (O : HOk W hp s) (S : HStep hp₀ s₀ hp s) (r : VRels hp s.heap vs vals) :
    wpAny W.M A (call (.type "reversed") vals) (fun x s₁ => wpC W.M A (pyIter x) (SrcPost W hp₀ s₀ q) (fun _ _ => False) s₁) (fun _ _ => False) s := by
  unfold srcK at h
  split at h
  case h_4 =>
    rename_i a _
    obtain ⟨v1, _, rfl, rfl, rfl⟩ := r
    split at h
    · rename_i xs hl
      obtain ⟨vals, p, rr⟩ := O.objs _ _ hl
      refine call_reversed_list p.isList (wpC_of ?_)
      have e : ((vals.size : Nat) : Int) - 1 = (xs.length : Int) - 1 - ((0 : Nat) : Int) := by have := rr.length; simp at this; omega
      have G := got_new (src := .lst a xs xs.reverse) (o := revObj a ((vals.size : Int) - 1)) O S (fun A hh => itr_rev (W := W) (A := A) (I := s.heap.objs.size) (a := a) (xs := xs) hh)
        ⟨Nat.zero_le _, by rw [← e]; exact ⟨_, Heap.get?_push_size _ rfl, rfl, rfl⟩⟩ s.toks
      refine wpAny_pyIter_revIter (l := a) (i := (vals.size : Int) - 1) ⟨_, Heap.get?_push_size _ rfl, rfl, rfl⟩ ⟨_, _, h, G.1, G.2.1, G.2.2⟩
    · exact h.elim
  all_goals first | exact h.elim | contradiction

theorem src_sound (TO : StOk W T) {k : ItK} {es : List E} (all : ∀ e ∈ es, SE T n e) {sc : Scope} {lay : List Str} {it : Expr} {as : List Expr} {env : Env} {A : Around} {vars : Vars} {hp : Hp} {s : Shared} {q : Src → Hp → Prop}
    (hi : itArgs sc k it = some as) (ok : okEs sc lay es as = true) (nd : lay.Nodup) (F : FrOk W sc env) (R : Room n A) (O : HOk W hp s) (V : VarsRel sc lay env vars hp s.heap) (h : vcEs T n es vars hp fun vs hp₁ => srcK k vs hp₁ fun sr => q sr hp₁) :
    wpC W.M A (eval it env) (fun x s₁ => wpC W.M A (pyIter x) (SrcPost W hp s q) (fun _ _ => False) s₁) (fun _ _ => False) s := by
  cases k with
  | of =>
    unfold itArgs at hi
    simp only at hi
    split at hi
    · cases hi
      match es, ok, h, all with
      | [e], ok, h, all =>
        unfold okEs at ok
        simp only [Bool.and_eq_true] at ok
        unfold vcEs at h
        refine wpC_mono (all e (.head _) ok.1.2 nd F R O V h) (fun x s₁ hx => ?_) fun _ _ x => x
        obtain ⟨v, hp₁, h₁, r, O₁, S₁⟩ := hx
        unfold vcEs at h₁
        exact wpC_of (of_src h₁ O₁ S₁ r)
      | [], ok, h, all => unfold okEs at ok; cases ok
      | e :: e2 :: r, ok, h, all =>
        unfold okEs at ok
        simp only [Bool.and_eq_true] at ok
        have := ok.2
        unfold okEs at this
        cases this
    · cases hi
  | rng =>
    unfold itArgs at hi
    simp only at hi
    split at hi
    · split at hi
      · rename_i hx
        cases hi
        simp only [Bool.and_eq_true, beq_iff_eq] at hx
        obtain ⟨rfl, hg⟩ := hx
        refine tcall_c (t := "range") all name_src.1 (by decide +kernel) boot_src.1 hg TO.noRange ok nd F R O V h fun vs vals hp₁ s₁ h₁ r₁ O₁ S₁ => wpC_of (rng_src h₁ O₁ S₁ r₁)
      · cases hi
    · cases hi
  | rev =>
    unfold itArgs at hi
    simp only at hi
    split at hi
    · split at hi
      · rename_i hx
        cases hi
        simp only [Bool.and_eq_true, beq_iff_eq] at hx
        obtain ⟨rfl, hg⟩ := hx
        refine tcall_c (t := "reversed") all name_src.2 (by decide +kernel) boot_src.2 hg TO.noRev ok nd F R O V h fun vs vals hp₁ s₁ h₁ r₁ O₁ S₁ => wpC_of (rev_src h₁ O₁ S₁ r₁)
      · cases hi
    · cases hi
end
end Mine
namespace Mine
open PySem PySem.W PySem.Calls PyProof.Rows

/-! a comprehension's own block: its cells, and those of the block around -/
theorem cellsFrom_app : ∀ (names : List (Str × NameKind)) (n : Nat) (acc : List (Str × Addr)), cellsFrom n names acc = cellsFrom n names [] ++ acc
  | [], _, _ => rfl
  | (x, k) :: r, n, acc => by
    unfold cellsFrom
    split
    · rw [cellsFrom_app r (n + 1) ((x, n) :: acc), cellsFrom_app r (n + 1) [(x, n)], List.append_assoc]; rfl
    · exact cellsFrom_app r n acc
theorem mem_cellsFrom : ∀ {names : List (Str × NameKind)} {n : Nat} {x : Str} {c : Addr}, (x, c) ∈ cellsFrom n names [] → (x, NameKind.cell) ∈ names
  | [], _, _, _, h => by cases h
  | (y, k) :: r, n, x, c, h => by
    unfold cellsFrom at h
    split at h
    · rename_i hk
      rw [cellsFrom_app] at h
      rcases List.mem_append.mp h with h | h
      · exact .tail _ (mem_cellsFrom h)
      · have := List.mem_singleton.mp h
        cases this
        rw [beq_iff_eq.mp hk]; exact .head _
    · exact .tail _ (mem_cellsFrom h)

noncomputable def closL (env : Env) : List (Str × NameKind) → List (Str × Addr) → List (Str × Addr)
  | [], acc => acc
  | (n, k) :: r, acc => closL env r (if k == .free then (n, (env.cells.lookup n).getD 0) :: acc else acc)
theorem closL_loop {env : Env} (f : Str × NameKind → List (Str × Addr) → Sem (ForInStep (List (Str × Addr))))
    (hf : ∀ n k cs, f (n, k) cs = if k == .free then (do let a ← cellOf env n; pure (.yield ((n, a) :: cs))) else pure (.yield cs)) :
    ∀ (names : List (Str × NameKind)) (acc : List (Str × Addr)), (∀ p ∈ names, p.2 = .free → (env.cells.lookup p.1).isSome = true) → forIn names acc f = (pure (closL env names acc) : Sem _)
  | [], acc, _ => by rw [List.forIn_nil]; rfl
  | (n, k) :: r, acc, h => by
    rw [List.forIn_cons, hf]
    unfold closL
    split
    · rename_i hk
      obtain ⟨c, hc⟩ := Option.isSome_iff_exists.mp (h (n, k) (.head _) (beq_iff_eq.mp hk))
      unfold cellOf
      rw [hc]
      simp only [pure_bind, Option.getD_some]
      exact closL_loop f hf r _ fun p hp => h p (.tail _ hp)
    · simp only [pure_bind]
      exact closL_loop f hf r _ fun p hp => h p (.tail _ hp)
theorem closureFor_L {scope : Scope} {env : Env} (h : ∀ p ∈ scope.names, p.2 = .free → (env.cells.lookup p.1).isSome = true) : closureFor scope env = pure (closL env scope.names []) := by
  simp only [closureFor]
  rw [closL_loop (env := env) _ (fun n k cs => by cases hk : k == NameKind.free <;> simp [hk]) scope.names [] h]
  rfl
theorem mem_closL {env : Env} : ∀ {names : List (Str × NameKind)} {acc : List (Str × Addr)} {x : Str} {c : Addr}, (x, c) ∈ closL env names acc → (x, c) ∈ acc ∨ ((x, NameKind.free) ∈ names ∧ c = (env.cells.lookup x).getD 0)
  | [], _, _, _, h => .inl h
  | (n, k) :: r, acc, x, c, h => by
    unfold closL at h
    rcases mem_closL h with h | ⟨h, e⟩
    · split at h
      · rename_i hk
        rcases List.mem_cons.mp h with h | h
        · cases h; rw [beq_iff_eq.mp hk]; exact .inr ⟨.head _, rfl⟩
        · exact .inl h
      · exact .inl h
    · exact .inr ⟨.tail _ h, e⟩
theorem closL_some {env : Env} {x : Str} : ∀ {names : List (Str × NameKind)} {acc : List (Str × Addr)}, (x, NameKind.free) ∈ names ∨ (acc.lookup x).isSome = true → ((closL env names acc).lookup x).isSome = true
  | [], _, h => h.elim (fun h => by cases h) id
  | (n, k) :: r, acc, h => by
    unfold closL
    refine closL_some ?_
    rcases h with h | h
    · rcases List.mem_cons.mp h with h | h
      · cases h; exact .inr (by simp [List.lookup_cons])
      · exact .inl h
    · refine .inr ?_
      split
      · rw [List.lookup_cons]; split
        · rfl
        · exact h
      · exact h

theorem mem_lookup {α : Type} : ∀ {l : List (Str × α)}, (l.map (·.1)).Nodup → ∀ {x : Str} {k : α}, (x, k) ∈ l → l.lookup x = some k
  | (y, j) :: r, nd, x, k, h => by
    rw [List.map_cons, List.nodup_cons] at nd
    rw [List.lookup_cons]
    rcases List.mem_cons.mp h with g | g
    · cases g; simp
    · have : (x == y) = false := beq_false_of_ne fun e => nd.1 (List.mem_map.mpr ⟨_, g, e⟩)
      rw [this]; exact mem_lookup nd.2 g

theorem lookup_relabel {env : Env} : ∀ {names : List (Str × NameKind)} {x : Str},
    (names.map fun (n, k) => if (k == NameKind.free && env.scope.kind == .function && env.kindOf n == some .cell) then (n, NameKind.cell) else (n, k)).lookup x =
      (names.lookup x).map fun k => if (k == NameKind.free && env.scope.kind == .function && env.kindOf x == some .cell) then NameKind.cell else k
  | [], _ => rfl
  | (n, k) :: r, x => by
    have ih := @lookup_relabel env r x
    show List.lookup x ((if (k == NameKind.free && env.scope.kind == .function && env.kindOf n == some .cell) = true then (n, NameKind.cell) else (n, k)) :: _) = _
    cases hx : x == n with
    | true =>
      have e := beq_iff_eq.mp hx
      subst e
      by_cases hc : (k == NameKind.free && env.scope.kind == .function && env.kindOf x == some .cell) = true
      · rw [if_pos hc]; simp only [List.lookup_cons, beq_self_eq_true, Option.map_some, if_pos hc]
      · rw [if_neg hc]; simp only [List.lookup_cons, beq_self_eq_true, Option.map_some, if_neg hc]
    | false =>
      by_cases hc : (k == NameKind.free && env.scope.kind == .function && env.kindOf n == some .cell) = true
      · rw [if_pos hc]; simp only [List.lookup_cons, hx]; exact ih
      · rw [if_neg hc]; simp only [List.lookup_cons, hx]; exact ih

section
variable {M : Model} {A : Around} {E : Value → Shared → Prop} {s : Shared}
/-- a block without parameters is opened -/
theorem newFE {scope : Scope} {globals : Addr} {cl : List (Str × Addr)} {qual : Str} {env : Env} {Q : Env → Shared → Prop}
    (h : Q (newEnv scope s.heap.objs.size globals (cellsFrom (s.heap.objs.size + 1) scope.names cl) qual none .none (some env) builtinsNs) { s with heap := pushCells (s.heap.push { cls := .type "dict", data := .dict #[] }) scope.names }) :
    wpAny M A (newFunctionEnv scope globals cl [] qual none .none (some env)) Q E s := by
  simp only [newFunctionEnv, Option.isSome_some, if_true]
  refine wpAny_bind (wpAny_alloc ?_)
  refine wpAny_bind (wpAny_layCells _ (fun name kind cells => by cases hkc : kind == NameKind.cell <;> simp [hkc]) _ _ _ _ ?_)
  rw [show ({ s with heap := s.heap.push { cls := .type "dict", data := .dict #[] } } : Shared).heap.objs.size = s.heap.objs.size + 1 from Heap.size_push ..]
  refine wpAny_bind ?_
  rw [List.forIn_nil]
  exact wpAny_pure (wpAny_pure h)
end
end Mine
namespace Mine
open PySem PySem.W PySem.Calls PyProof.Rows

section
variable {W : Wd} {A : Around} {sc : Scope} {lay : List Str} {env : Env} {vars : Vars} {hp : Hp} {s : Shared} {scope : Scope} {names : List (Str × Option Nat)}

theorem namesOk_get (ok : namesOk sc lay scope names = true) : scope.kind = .function ∧ (scope.names.map (·.1)).Nodup ∧ (names.map (·.1)).Nodup ∧
    (∀ p ∈ names, match p.2 with | some j => scope.names.lookup p.1 = some .free ∧ lay[j]? = some p.1 | none => isOwn scope p.1 = true) ∧
    (∀ p ∈ scope.names, p.2 = .free → (sc.names.lookup p.1 = some .cell ∨ sc.names.lookup p.1 = some .free) ∧ p.1 ∈ lay) := by
  unfold namesOk at ok
  simp only [Bool.and_eq_true, decide_eq_true_eq, beq_iff_eq, List.all_eq_true] at ok
  obtain ⟨⟨⟨⟨h1, h2⟩, h3⟩, h4⟩, h5⟩ := ok
  refine ⟨h1, h2, h3, fun p hp => ?_, fun p hp e => ?_⟩
  · have := h4 p hp
    obtain ⟨x, j⟩ := p
    cases j with
    | none => simpa using this
    | some j => simpa using this
  · have := h5 p hp
    rw [e] at this
    simpa using this

/-- the block of a comprehension stands ready -/
structure CompFr (W : Wd) (scope : Scope) (names : List (Str × Option Nat)) (vars : Vars) (hp : Hp) (s : Shared) (cenv : Env) (s' : Shared) : Prop where
  fr : FrOk W scope cenv
  vs : VarsRel scope (names.map (·.1)) cenv (inner names vars) hp s'.heap
  ok : HOk W hp s'
  st : HStep hp s hp s'
  own : ∀ b, Own scope cenv b → s.heap.get? b = none
  live : ∀ b, Own scope cenv b → (s'.heap.get? b).isSome = true

theorem comp_frame (ok : namesOk sc lay scope names = true) (F : FrOk W sc env) (V : VarsRel sc lay env vars hp s.heap) (O : HOk W hp s) {E : Value → Shared → Prop} {Q : Env → Shared → Prop}
    (q : ∀ cenv s', CompFr W scope names vars hp s { cenv with scope := relabel scope env } s' → Q cenv s') :
    closureFor scope env = pure (closL env scope.names []) ∧ wpAny W.M A (newFunctionEnv scope env.globals (closL env scope.names []) [] env.qual none .none (some env)) Q E s := by
  obtain ⟨h1, h2, h3, h4, h5⟩ := namesOk_get ok
  have cellOfFree : ∀ x, (x, NameKind.free) ∈ scope.names → ∃ j c vv, lay[j]? = some x ∧ env.cells.lookup x = some c ∧ hp c = none ∧ s.heap.IsCell c vv := fun x hx => by
    obtain ⟨hk, hl⟩ := h5 _ hx rfl
    obtain ⟨j, hj⟩ := List.mem_iff_getElem?.mp hl
    obtain ⟨c, vv, e, q, hc, _⟩ := V.cells j x hj hk
    exact ⟨j, c, vv, hj, e, q, hc⟩
  refine ⟨closureFor_L fun p hp hf => ?_, newFE (q _ _ ?_)⟩
  · obtain ⟨x, k⟩ := p
    cases hf
    obtain ⟨_, c, _, _, e, _⟩ := cellOfFree x hp
    rw [e]; rfl
  · rw [cellsFrom_app]
    have CO := cellsFrom_ok scope.names (s.heap.push { cls := .type "dict", data := .dict #[] }) (s.heap.objs.size + 1) [] ⟨fun _ _ hm => (nomatch hm), List.Pairwise.nil⟩ (by rw [Heap.size_push]; exact Nat.le_refl _)
    rw [Heap.size_push] at CO
    generalize hown : cellsFrom (s.heap.objs.size + 1) scope.names [] = own at CO
    generalize hH : pushCells (s.heap.push { cls := .type "dict", data := .dict #[] }) scope.names = H at CO
    have keep : ∀ b o, s.heap.get? b = some o → H.get? b = some o := fun b o e => by rw [← hH]; exact pushCells_keeps _ _ b o (Heap.get?_push_of_some _ e)
    have fresh : ∀ b, s.heap.objs.size ≤ b → s.heap.get? b = none := fun b hb => by
      cases e : s.heap.get? b with
      | none => rfl
      | some o => exact absurd (Heap.lt_size e) (Nat.not_lt.mpr hb)
    have hpn : ∀ b, s.heap.objs.size ≤ b → hp b = none := fun b hb => by
      cases e : hp b with
      | none => rfl
      | some o =>
        have := ORel.live (O.objs _ _ e)
        rw [fresh b hb] at this; cases this
    have G := O.grown keep s.toks
    have free_cl : ∀ x, scope.names.lookup x = some .free → (own ++ closL env scope.names []).lookup x = env.cells.lookup x := fun x hx => by
      have hm := PySem.mem_of_lookup hx
      rw [List.lookup_append]
      have no : own.lookup x = none := by
        cases e : own.lookup x with
        | none => rfl
        | some c =>
          have := mem_lookup h2 (mem_cellsFrom (hown ▸ PySem.mem_of_lookup e))
          rw [hx] at this; cases this
      rw [no, Option.none_or]
      obtain ⟨c, hc⟩ := Option.isSome_iff_exists.mp (closL_some (env := env) (acc := []) (.inl hm))
      rcases mem_closL (PySem.mem_of_lookup hc) with h | ⟨_, e⟩
      · cases h
      · obtain ⟨_, c', _, _, e', _⟩ := cellOfFree x hm
        rw [hc, e, e']; rfl
    have own_cl : ∀ x, scope.names.lookup x = some .cell → ∃ c, (own ++ closL env scope.names []).lookup x = some c ∧ (x, c) ∈ own := fun x hx => by
      obtain ⟨c, hc⟩ := Option.isSome_iff_exists.mp (cellsFrom_some scope.names (s.heap.objs.size + 1) [] (.inl hx))
      rw [hown] at hc
      exact ⟨c, by rw [List.lookup_append, hc]; rfl, PySem.mem_of_lookup hc⟩
    have cl_mem : ∀ x c, (own ++ closL env scope.names []).lookup x = some c → (x, c) ∈ own ∨ ((x, NameKind.free) ∈ scope.names ∧ env.cells.lookup x = some c) := fun x c h => by
      rcases List.mem_append.mp (PySem.mem_of_lookup h) with g | g
      · exact .inl g
      · rcases mem_closL g with f | ⟨f, e⟩
        · cases f
        · obtain ⟨_, c', _, _, e', _⟩ := cellOfFree x f
          have e : c = c' := by rw [e, e']; rfl
          exact .inr ⟨f, e ▸ e'⟩
    have old_lt : ∀ x c, (x, NameKind.free) ∈ scope.names → env.cells.lookup x = some c → c < s.heap.objs.size := fun x c hx hc => by
      obtain ⟨_, c', _, _, e', _, hcell⟩ := cellOfFree x hx
      rw [hc] at e'; cases e'
      exact hcell.lt
    have kind : ∀ x, Env.kindOf { newEnv scope s.heap.objs.size env.globals (own ++ closL env scope.names []) env.qual none .none (some env) builtinsNs with scope := relabel scope env } x =
        (scope.names.lookup x).map fun k => if (k == NameKind.free && env.scope.kind == .function && env.kindOf x == some .cell) then NameKind.cell else k := fun x => lookup_relabel
    refine ⟨⟨h1, fun x hx => ?_, fun x hx => ?_, fun x hx => ?_, fun x hx => ?_, F.globals, F.builtins, fun x y c hx hy => ?_, O.h0_none (fresh _ (Nat.le_refl _)), fun x c hk hc => ?_⟩, ⟨hpn _ (Nat.le_refl _), ?_, fun i x hi hk => ?_⟩, G.1, G.2, ?_, ?_⟩
    · rw [kind, hx]; rfl
    · rw [kind, hx]; rfl
    · rw [kind, hx]
      simp only [Option.map_some]
      split
      · exact .inr rfl
      · exact .inl rfl
    · rw [kind, hx]; rfl
    · rcases cl_mem x c hx with a | ⟨a, a2⟩ <;> rcases cl_mem y c hy with b | ⟨b, b2⟩
      · exact name_of_addr CO.apart a b
      · exact absurd (old_lt y c b b2) (Nat.not_lt.mpr (Nat.le_of_succ_le (CO.empty x c a).2))
      · exact absurd (old_lt x c a a2) (Nat.not_lt.mpr (Nat.le_of_succ_le (CO.empty y c b).2))
      · exact F.inj x y c a2 b2
    · obtain ⟨c', hc', hm⟩ := own_cl x hk
      have hc : (own ++ closL env scope.names []).lookup x = some c := hc
      have e := Option.some.inj (hc'.symm.trans hc)
      subst e
      exact O.h0_none (fresh _ (Nat.le_of_succ_le (CO.empty x c' hm).2))
    · refine ⟨fun _ => none, ?_, fun i x v hi hl hv => ?_⟩
      · show H.Ns s.heap.objs.size fun _ => none
        rw [← hH]
        exact (Heap.Ns.new s.heap (.type "dict")).keeps (pushCells_keeps _ _)
      · exfalso
        unfold inner at hv
        rw [List.getElem?_map] at hi hv
        cases e : names[i]? with
        | none => rw [e] at hi; cases hi
        | some p =>
          rw [e] at hi hv
          have hp' := h4 p (List.mem_of_getElem? e)
          obtain ⟨y, j⟩ := p
          cases hi
          cases j with
          | none => cases hv
          | some j =>
            have : scope.names.lookup y = some .free := hp'.1
            rw [hl] at this; cases this
    · rw [List.getElem?_map] at hi
      cases e : names[i]? with
      | none => rw [e] at hi; cases hi
      | some p =>
        rw [e] at hi
        have hp' := h4 p (List.mem_of_getElem? e)
        obtain ⟨y, j⟩ := p
        cases hi
        rcases hk with hk | hk
        · obtain ⟨c, hc, hm⟩ := own_cl y hk
          refine ⟨c, none, hc, hpn _ (Nat.le_of_succ_le (CO.empty y c hm).2), (CO.empty y c hm).1, fun v hv => ?_⟩
          unfold inner at hv
          rw [List.getElem?_map, e] at hv
          cases j with
          | none => cases hv
          | some j =>
            have : scope.names.lookup y = some .free := hp'.1
            rw [hk] at this; cases this
        · cases j with
          | none =>
            have : isOwn scope y = true := hp'
            unfold isOwn at this
            rw [hk] at this; cases this
          | some j =>
            obtain ⟨_, hj⟩ := hp'
            obtain ⟨hks, _⟩ := h5 _ (PySem.mem_of_lookup hk) rfl
            obtain ⟨c, vv, e1, e2, e3, e4⟩ := V.cells j y hj hks
            refine ⟨c, vv, (free_cl y hk).trans e1, e2, e3.keeps keep, fun v hv => ?_⟩
            unfold inner at hv
            rw [List.getElem?_map, e] at hv
            have hv := Option.some.inj hv
            have hv : (vars[j]?).join = some v := hv
            have hv' : vars[j]? = some (some v) := by
              cases q : vars[j]? with
              | none => rw [q] at hv; cases hv
              | some w => rw [q] at hv; exact congrArg some hv
            obtain ⟨val, ev, rv⟩ := e4 v hv'
            exact ⟨val, ev, rv.at G.2⟩
    · rintro b (hb | ⟨x, hx, hb⟩)
      · subst hb; exact fresh _ (Nat.le_refl _)
      · obtain ⟨c', hc', hm⟩ := own_cl x hx
        have hb : (own ++ closL env scope.names []).lookup x = some b := hb
        have e := Option.some.inj (hc'.symm.trans hb)
        subst e
        exact fresh _ (Nat.le_of_succ_le (CO.empty x c' hm).2)
    · rintro b (hb | ⟨x, hx, hb⟩)
      · subst hb
        show (H.get? s.heap.objs.size).isSome = true
        rw [← hH, pushCells_keeps _ _ _ _ (Heap.get?_push_size _ rfl)]; rfl
      · obtain ⟨c', hc', hm⟩ := own_cl x hx
        have hb : (own ++ closL env scope.names []).lookup x = some b := hb
        have e := Option.some.inj (hc'.symm.trans hb)
        subst e
        obtain ⟨⟨oc, hoc, _⟩, _⟩ := CO.empty x c' hm
        show (H.get? c').isSome = true
        rw [hoc]; rfl
end
end Mine
namespace Mine
open PySem PySem.W PySem.Calls PyProof.Rows

section
variable {M : Model} {A : Around} {s : Shared} {env : Env}
theorem wpC_of_eq {α : Type} {E : Value → Shared → Prop} {t : Sem α} {a : α} {Q : α → Shared → Prop} (e : t = pure a) (h : Q a s) : wpC M A t Q E s := by rw [e]; exact wpC_pure h
theorem wpC_standIf {α : Type} {E : Value → Shared → Prop} {c : Prop} [Decidable c] {pos : Pos} {k : PUnit → Sem α} {Q : α → Shared → Prop} (h : wpC M A (k ()) Q E s) :
    wpC M A (if c then (standAt pos >>= k) else k ()) Q E s := by
  split
  · exact wpC_bind (wpC_standAt h)
  · exact h

noncomputable def compPostC (M : Model) (A : Around) (use : Option (Value → Sem Unit)) (Q : Value → Shared → Prop) (acc : Value) (C : Addr) (r : Result) (s' : Shared) : Prop :=
  match r, use with
  | .ok _, none => ∃ m, s'.heap.Ns C m ∧ ∀ h', Heap.SameBut C s'.heap h' → Q acc { s' with heap := h' }
  | .ok _, some u => wpC M A (u acc) (fun _ s'' => ∃ m, s''.heap.Ns C m ∧ ∀ h', Heap.SameBut C s''.heap h' → Q .none { s'' with heap := h' }) (fun _ _ => False) s'
  | .error _, _ => False

theorem wpC_comprehension {e : Expr} {scope : Scope} {pos : Pos} {newAcc first : Sem Value} {g : Comprehension} {gs : List Comprehension} {cl : List (Str × Addr)} {use : Option (Value → Sem Unit)}
    {Q : Value → Shared → Prop}
    (hcl : clausesOf e = g :: gs) (hs : ∀ x, foldedSetIterable g.iter env x = pure x) (hclos : closureFor scope env = pure cl)
    (hkind : scope.kind = .function) (hnames : ∀ x ∈ scope.names, x.2 = .local → scope.names.lookup x.1 = some .local)
    (h : wpC M A first (fun x s₁ => wpC M A (pyIter x) (fun it s₂ => wpC M A newAcc (fun acc s₃ =>
      wpC M A (newFunctionEnv scope env.globals cl [] env.qual none .none (some env)) (fun cenv s₄ =>
        codeC M (A.mark none) (.compStart e 0 it acc { cenv with scope := relabel scope env }) (compPostC M A use Q acc cenv.locals) s₄) (fun _ _ => False) s₃) (fun _ _ => False) s₂) (fun _ _ => False) s₁) (fun _ _ => False) s) :
    wpC M A (comprehension e scope env pos newAcc false first use) Q (fun _ _ => False) s := by
  unfold comprehension
  rw [hclos, hcl]
  refine wpC_bind (wpC_mono h (fun x s₁ h₁ => wpC_bind (wpC_standAt (wpC_bind (wpC_of_eq (hs x) (wpC_bind (wpC_holding (wpC_mono h₁ (fun it s₂ h₂ =>
    wpC_standIf (wpC_bind (wpC_mono h₂ (fun acc s₃ h₃ => wpC_bind (wpC_pure (wpC_bind (wpC_mono h₃ (fun cenv s₄ h₄ => ?_) fun _ _ h' => h')))) fun _ _ h' => h')))
      fun _ _ h' => h'))))))) fun _ _ h' => h')
  dsimp only
  have hv : ∀ x ∈ (scope.names.filter fun x => (x.2 == .local || x.2 == .cell) && x.1 != (".0" : Str)).reverse, x.2 = .local →
      Env.kindOf { cenv with scope := relabel scope env } x.1 = some .local := fun x hx hl => lookup_relabel_local (hnames x (List.mem_filter.mp (List.mem_reverse.mp hx)).1 hl)
  have hv' : ∀ x ∈ (scope.names.filter fun x => (x.2 == .local || x.2 == .cell) && x.1 != (".0" : Str)).reverse.drop 1 ++ (scope.names.filter fun x => (x.2 == .local || x.2 == .cell) && x.1 != (".0" : Str)).reverse.take 1,
      x.2 = .local → Env.kindOf { cenv with scope := relabel scope env } x.1 = some .local := fun x hx hl => by
    rcases List.mem_append.mp hx with h1 | h1
    · exact hv x (List.mem_of_mem_drop h1) hl
    · exact hv x (List.mem_of_mem_take h1) hl
  refine wpC_holding (wpC_bind (wpC_attempt (wpC_holding (wpC_run (codeC_mono h₄ fun r s' hr => ?_)))))
  cases r with
  | ok f =>
    cases use with
    | none =>
      obtain ⟨m, hn, hr⟩ := hr
      exact wpC_of (wpAny_bind (wpAny_holding (wpAny_comp_letGo (cenv := { cenv with scope := relabel scope env }) hkind _ s' m hv hn fun h' m' _ hs' => wpAny_pure (hr h' hs'))))
    | some u =>
      refine wpC_bind (wpC_of (wpAny_rule (wpC_bind (wpC_holding (wpC_mono hr (fun _ s'' hr' => ?_) fun _ _ h' => h')))))
      obtain ⟨m, hn, hr'⟩ := hr'
      exact wpC_of (wpAny_bind (wpAny_comp_letGo (cenv := { cenv with scope := relabel scope env }) hkind _ s'' m hv' hn fun h' m' _ hs' => wpAny_pure (hr' h' hs')))
  | error x => exact (show False from hr).elim
end
end Mine
namespace Mine
open PySem PySem.W PySem.Calls PyProof.Rows

section
variable {W : Wd} {T : St W} {n : Nat} {A : Around} {sc : Scope} {lay : List Str} {env : Env} {vars : Vars} {hp hp₀ : Hp} {s s₀ : Shared}

/-- a code that is no activation of its own -/
theorem codeC_flat {c : Code} {R : Result → Shared → Prop} (hd : decoding c = false) (hw : c.weight = 0) (hu : c.cUnits = 0)
    (h : wpC W.M A (W.M.den c) (fun fin s' => match fin with | .done f => R (.ok f) s' | .again c' => c'.quiet = true ∧ codeC W.M A c' R s') (fun e s' => R (.error e) s') s) : codeC W.M A c R s := by
  refine codeC_of_tree hd ?_
  rw [Around.under_of_weight hw hu]; exact h

theorem Room.mark {A : Around} (R : Room n A) : Room n (A.mark none) := ⟨R.depth, R.units, R.guards, by show Option.or none A.handled = none; rw [R.handled]; rfl⟩

/-- the tests of a comprehension -/
noncomputable abbrev ifsBody (env : Env) : Expr → Bool → Sem (ForInStep Bool) := fun c r => if r = true then do let ok ← isTrue c env (eval c env); pure (ForInStep.yield ok) else pure (ForInStep.yield r)
theorem ifs_false : ∀ (ifs : List Expr), forIn ifs false (ifsBody env) = (pure false : Sem Bool)
  | [] => by rw [List.forIn_nil]
  | c :: r => by
    rw [List.forIn_cons]
    show (pure (ForInStep.yield false) >>= _) = _
    rw [pure_bind]
    exact ifs_false r
theorem ifs_sound : ∀ {es : List E}, (∀ e ∈ es, ST T n e) → ∀ {ifs : List Expr} {hp : Hp} {s : Shared} {k : Bool → Hp → Prop}, okEs sc lay es ifs = true → lay.Nodup → FrOk W sc env → Room n A → HOk W hp s → VarsRel sc lay env vars hp s.heap →
    vcIf T n es vars hp k → CvB W A (forIn ifs true (ifsBody env)) k hp s
  | [], _, ifs, hp, s, k, ok, nd, F, R, O, V, h => by
    unfold okEs at ok; split at ok
    · unfold vcIf at h
      rw [List.forIn_nil]
      exact Cv.pure O h rfl
    · cases ok
  | e :: es, all, ifs, hp, s, k, ok, nd, F, R, O, V, h => by
    unfold okEs at ok; split at ok
    · rename_i x xs
      simp only [Bool.and_eq_true] at ok
      obtain ⟨⟨o1, o2⟩, o3⟩ := ok
      unfold vcIf at h
      rw [List.forIn_cons]
      have e1 : ifsBody env x true = (isTrue x env (eval x env) >>= fun ok => pure (ForInStep.yield ok)) := if_pos rfl
      rw [e1]
      refine wpC_bind (wpC_bind ?_)
      refine wpC_mono (all e (.head _) (k := fun t hp' => if t then vcIf T n es vars hp' k else k false hp') o2 nd F R O V h) (fun b s₁ hx => ?_) fun _ _ x => x
      obtain ⟨t, hp₁, h₁, r, O₁, S₁⟩ := hx
      subst r
      refine wpC_pure ?_
      dsimp only
      refine Cv.then (R := fun _ _ (b a : Bool) => a = b) (Q := k) S₁ ?_
      cases b with
      | false =>
        rw [if_neg Bool.false_ne_true] at h₁
        rw [ifs_false]
        exact Cv.pure O₁ h₁ rfl
      | true =>
        rw [if_pos rfl] at h₁
        exact ifs_sound (fun e h => all e (.tail _ h)) o3 nd F R O₁ (V.at S₁) h₁
    · cases ok
end
end Mine
namespace Mine
open PySem PySem.W PySem.Calls PyProof.Rows

section
variable {W : Wd} {T : St W} {n : Nat} {A : Around} {sc : Scope} {lay : List Str} {env cenv : Env} {vars : Vars} {hp hp₀ hp' : Hp} {s s₀ s' : Shared}

theorem VarsRel.weaken {vars' : Vars} {h : Heap} (R : VarsRel sc lay env vars' hp h) (k : ∀ (i : Nat) (v : V), vars[i]? = some (some v) → vars'[i]? = some (some v)) : VarsRel sc lay env vars hp h := by
  obtain ⟨m, hn, hv⟩ := R.ns
  refine ⟨R.hpL, ⟨m, hn, fun i x v a b c => hv i x v a b (k i v c)⟩, fun i x a b => ?_⟩
  obtain ⟨c, vv, e, q, hc, r⟩ := R.cells i x a b
  exact ⟨c, vv, e, q, hc, fun v w => r v (k i v w)⟩
theorem VarsRel.unset {t : Nat} {x : V} {h : Heap} (R : VarsRel sc lay env (vars.set t (some x)) hp h) (hv : ∀ v : V, vars[t]? ≠ some (some v)) : VarsRel sc lay env vars hp h :=
  R.weaken fun i v e => by
    by_cases hi : t = i
    · subst hi; exact absurd e (hv v)
    · rw [List.getElem?_set_ne hi]; exact e

theorem SStep.moved {I : Addr} {h' : Heap} (S : SStep sc env hp₀ s₀ hp s) (hI : s₀.heap.get? I = none) (m : Moved1 I s.heap h') (t : Nat) : SStep sc env hp₀ s₀ hp { s with heap := h', toks := t } := by
  refine ⟨fun b o e q n => m.rest b o (fun z => by rw [z, hI] at e; cases e) (S.keep b o e q n), S.out, fun b e => ?_, fun b o d e q => m.rest b o (fun z => by rw [z, hI] at e; cases e) (S.rows b o d e q)⟩
  obtain ⟨o, q⟩ := Option.isSome_iff_exists.mp (S.live b e)
  rw [m.rest b o (fun z => by rw [z, hI] at e; cases e) q]; rfl
theorem SStep.toH (S : SStep sc env hp₀ s₀ hp s) (own : ∀ b, Own sc env b → s₀.heap.get? b = none) : HStep hp₀ s₀ hp s :=
  ⟨fun b o e q => S.keep b o e q (fun w => by rw [own b w] at e; cases e), S.out, S.live⟩

/-- a turn of a comprehension, by its body -/
noncomputable def TurnOf (W : Wd) (A : Around) (e : Expr) (depth : Nat) (I : Addr) (acc : Value) (cenv : Env) (tg : Expr) (body : Sem Unit) : Prop :=
  ∀ {Q : Fin → Shared → Prop} {s : Shared}, wpC W.M A (pyNext (.ref I)) (fun r s₁ => match r with
    | none => Q (.done .next) s₁
    | some v => wpC W.M A (assign tg cenv v) (fun _ s₂ => wpC W.M A body (fun _ s₃ => Q (.again (.compLoop e depth (.ref I) acc cenv)) s₃) (fun _ _ => False) s₂) (fun _ _ => False) s₁) (fun _ _ => False) s →
  wpC W.M A (compTurn e depth (.ref I) acc cenv) Q (fun _ _ => False) s

/-- where a loop stands -/
structure LoopAt (W : Wd) (sc : Scope) (lay : List Str) (env : Env) (vars : Vars) (hp₀ : Hp) (s₀ : Shared) (I : Addr) (Nx : Nat → Hp → Heap → Prop) (i : Nat) (hp : Hp) (s : Shared) : Prop where
  ok : HOk W hp s
  vs : VarsRel sc lay env vars hp s.heap
  st : SStep sc env hp₀ s₀ hp s
  nx : Nx i hp s.heap
  hI : hp I = none
  lv : ∀ b, Own sc env b → (s.heap.get? b).isSome = true

noncomputable def EndC (W : Wd) (sc : Scope) (lay : List Str) (env : Env) (vars : Vars) (hp₀ : Hp) (s₀ : Shared) (q : Hp → Prop) (s' : Shared) : Prop :=
  ∃ hp', q hp' ∧ HOk W hp' s' ∧ VarsRel sc lay env vars hp' s'.heap ∧ SStep sc env hp₀ s₀ hp' s'

theorem drop_cons {α : Type} {xs : List α} {i : Nat} {x : α} {r : List α} (h : xs.drop i = x :: r) : xs[i]? = some x ∧ xs.drop (i + 1) = r := by
  constructor
  · have := congrArg (·[0]?) h
    simpa [List.getElem?_drop] using this
  · rw [← List.drop_drop, h]; rfl

theorem comp_go {elt : Expr} {gens : List Comprehension} {scope' : Scope} {cpos : Pos} {depth : Nat} {x : Str} {px : Pos} {I : Addr} {acc : Value} {t : Nat} {src : Src} {Nx : Nat → Hp → Heap → Prop} {body : Sem Unit} {step : V → Hp → (Hp → Prop) → Prop} {q : Hp → Prop}
    (hf : (Code.compLoop (.ListComp elt gens scope' cpos) depth (.ref I) acc cenv).isFrame = false)
    (turn : TurnOf W A (.ListComp elt gens scope' cpos) depth I acc cenv (.Name x px) body) (F : FrOk W sc cenv) (nd : lay.Nodup) (hx' : lay[t]? = some x) (hk : sc.names.lookup x = some .local ∨ sc.names.lookup x = some .cell)
    (hvt : ∀ v : V, vars[t]? ≠ some (some v)) (It : Itr W A src I Nx) (hI : s₀.heap.get? I = none) (hI0 : W.h₀.get? I = none) (hIo : ¬ Own sc cenv I)
    (hb : ∀ x hp s q, HOk W hp s → VarsRel sc lay cenv (vars.set t (some x)) hp s.heap → (∀ b, Own sc cenv b → (s.heap.get? b).isSome = true) → step x hp q → wpC W.M A body (fun _ s' => EndC W sc lay cenv (vars.set t (some x)) hp s q s') (fun _ _ => False) s) :
    ∀ (xs : List V) (i : Nat) (hp : Hp) (s : Shared), src.items.drop i = xs → LoopAt W sc lay cenv vars hp₀ s₀ I Nx i hp s → compGo src step xs hp q →
      codeC W.M A (.compLoop (.ListComp elt gens scope' cpos) depth (.ref I) acc cenv) (fun r s' => ∃ fl, r = .ok fl ∧ EndC W sc lay cenv vars hp₀ s₀ q s') s := by
  intro xs
  induction xs with
  | nil =>
    intro i hp s hd L h
    refine codeC_flat rfl rfl rfl ?_
    have e : W.M.den (.compLoop (.ListComp elt gens scope' cpos) depth (.ref I) acc cenv) = (compTurn (.ListComp elt gens scope' cpos) depth (.ref I) acc cenv).onRaise (fun x => do noteFrame x cenv; theTreesLotGoes x) := by
      rfl
    rw [e]
    refine wpC_onRaise (wpC_mono (turn ?_) (fun _ _ x => x) fun _ _ x => x.elim)
    unfold compGo at h
    refine wpC_of (It.next L.ok h.1 L.nx (fun x hx => ?_) fun _ h' t' m => ?_)
    · rw [List.drop_eq_nil_iff] at hd
      rw [List.getElem?_eq_none hd] at hx; cases hx
    · exact ⟨_, rfl, hp, h.2, L.ok.moved L.hI hI0 m t', L.vs.moved m, L.st.moved hI m t'⟩
  | cons y ys ih =>
    intro i hp s hd L h
    refine codeC_flat rfl rfl rfl ?_
    have e : W.M.den (.compLoop (.ListComp elt gens scope' cpos) depth (.ref I) acc cenv) = (compTurn (.ListComp elt gens scope' cpos) depth (.ref I) acc cenv).onRaise (fun x => do noteFrame x cenv; theTreesLotGoes x) := by
      rfl
    rw [e]
    refine wpC_onRaise (wpC_mono (turn ?_) (fun _ _ x => x) fun _ _ x => x.elim)
    unfold compGo at h
    obtain ⟨hxi, hdr⟩ := drop_cons hd
    refine wpC_of (It.next L.ok h.1 L.nx (fun x hx v h' t' m nx rv => ?_) fun hl => ?_)
    · rw [hxi] at hx; cases hx
      have O₁ := L.ok.moved L.hI hI0 m t'
      have V₁ := L.vs.moved m
      have S₁ := L.st.moved hI m t'
      refine wpC_of (wpAny_assign_Name (st_var F V₁ O₁ nd hx' hk rv fun s₂ O₂ V₂ S₂ _ => ?_))
      have lv₂ : ∀ b, Own sc cenv b → (s₂.heap.get? b).isSome = true := fun b hb => S₂.live b (by
        obtain ⟨o, ho⟩ := Option.isSome_iff_exists.mp (L.lv b hb)
        show (h'.get? b).isSome = true
        rw [m.rest b o (fun z => hIo (z ▸ hb)) ho]; rfl)
      refine wpC_mono (hb y hp s₂ _ O₂ V₂ lv₂ h.2) (fun _ s₃ hx => ?_) fun _ _ x => x
      obtain ⟨hp₃, h₃, O₃, V₃, S₃⟩ := hx
      refine ⟨rfl, ih (i + 1) hp₃ s₃ hdr ⟨O₃, V₃.unset hvt, (S₁.trans S₂).trans S₃, ?_, ?_, fun b hb => S₃.live b (lv₂ b hb)⟩ h₃⟩
      · have f1 := It.fld nx
        obtain ⟨c, d, vs, sl, ef⟩ := f1
        have e2 := S₂.keep _ _ ef L.hI hIo
        have n2 := It.frame nx (fun b o d e q => ⟨S₂.rows b o d e q, S₂.out b o e q⟩) (fun o e => S₂.keep _ _ e L.hI hIo)
        exact It.frame n2 (fun b o d e q => ⟨S₃.rows b o d e q, S₃.out b o e q⟩) (fun o e => S₃.keep _ _ e L.hI hIo)
      · obtain ⟨c, d, vs, sl, ef⟩ := It.fld nx
        have e2 := S₂.keep _ _ ef L.hI hIo
        exact S₃.out _ _ e2 L.hI
    · have := (List.getElem?_eq_some_iff.mp hxi).1
      omega
end
end Mine
namespace Mine
open PySem PySem.W PySem.Calls PyProof.Rows

section
variable {W : Wd} {T : St W} {n : Nat} {A : Around} {sc : Scope} {lay : List Str} {env cenv : Env} {vars : Vars} {hp hp₀ hp' : Hp} {s s₀ s' : Shared}

/-- the body of a comprehension's innermost turn -/
noncomputable abbrev leafBody (ifs : List Expr) (elt : Expr) (acc : Value) (cenv : Env) : Sem Unit :=
  forIn ifs true (ifsBody cenv) >>= fun ok => if ok = true then (eval elt cenv >>= fun y => call (.builtin "list.append") [acc, y] >>= fun _ => pure ()) else pure ()

theorem leaf_split {ifs : List Expr} {elt : Expr} {acc : Value} {c : Code} : (forIn ifs true (ifsBody cenv) >>= fun ok => if ok = true then ((eval elt cenv >>= fun y => call (.builtin "list.append") [acc, y] >>= fun _ => (pure () : Sem Unit)) >>= fun _ => again c) else again c) =
    (leafBody ifs elt acc cenv >>= fun _ => again c) := by
  unfold leafBody
  rw [bind_assoc (x := (forIn ifs true (ifsBody cenv) : Sem Bool))]
  refine congrArg (fun k => (forIn ifs true (ifsBody cenv) : Sem Bool) >>= k) (funext fun ok => ?_)
  cases ok <;> simp

theorem turn_one {elt iter : Expr} {ifs : List Expr} {scope : Scope} {pos : Pos} {I : Addr} {acc : Value} {x : Str} {px : Pos} :
    TurnOf W A (.ListComp elt [⟨.Name x px, iter, ifs, 0⟩] scope pos) 0 I acc cenv (.Name x px) (leafBody ifs elt acc cenv) := by
  intro Q s h
  rw [compTurn_list]
  refine wpC_bind (wpC_standAt (wpC_bind (wpC_mono h (fun r s₁ h₁ => ?_) fun _ _ h' => h')))
  cases r with
  | none => exact wpC_pure h₁
  | some v =>
    refine wpC_bind (wpC_of_eq (a := ()) rfl ?_)
    refine wpC_bind (wpC_mono h₁ (fun _ s₂ h₂ => ?_) fun _ _ h' => h')
    show wpC _ _ (forIn ifs true (ifsBody cenv) >>= fun ok => if ok = true then ((eval elt cenv >>= fun y => call (.builtin "list.append") [acc, y] >>= fun _ => (pure () : Sem Unit)) >>= fun _ => again _) else again _) _ _ _
    rw [leaf_split]
    exact wpC_bind (wpC_mono h₂ (fun _ s₃ h₃ => wpC_pure h₃) fun _ _ h' => h')

noncomputable abbrev midBody (e : Expr) (iter₂ : Expr) (acc : Value) (cenv : Env) : Sem Unit :=
  eval iter₂ cenv >>= fun x => standAt iter₂.pos >>= fun _ => foldedSetIterable iter₂ cenv x >>= fun x => holding [x] (pyIter x) >>= fun it => runOwn (.compStart e 1 it acc cenv) cenv >>= fun _ => pure ()

theorem mid_split {e iter₂ : Expr} {acc : Value} {c : Code} : (eval iter₂ cenv >>= fun x => standAt iter₂.pos >>= fun _ => foldedSetIterable iter₂ cenv x >>= fun x => holding [x] (pyIter x) >>= fun it => runOwn (.compStart e 1 it acc cenv) cenv >>= fun _ => again c) =
    (midBody e iter₂ acc cenv >>= fun _ => again c) := by
  unfold midBody
  simp only [bind_assoc, pure_bind]

theorem turn_two0 {elt iter iter₂ tg₂ : Expr} {ifs : List Expr} {scope : Scope} {pos : Pos} {I : Addr} {acc : Value} {x : Str} {px : Pos} :
    TurnOf W A (.ListComp elt [⟨.Name x px, iter, [], 0⟩, ⟨tg₂, iter₂, ifs, 0⟩] scope pos) 0 I acc cenv (.Name x px) (midBody (.ListComp elt [⟨.Name x px, iter, [], 0⟩, ⟨tg₂, iter₂, ifs, 0⟩] scope pos) iter₂ acc cenv) := by
  intro Q s h
  have e : compTurn (.ListComp elt [⟨.Name x px, iter, [], 0⟩, ⟨tg₂, iter₂, ifs, 0⟩] scope pos) 0 (.ref I) acc cenv = (do
      standAt iter.pos
      match ← pyNext (.ref I) with
      | none => pure (.done .next)
      | some v =>
        letOwnedTupleGo (.Name x px) (.ref I) v
        assign (.Name x px) cenv v
        let y ← eval iter₂ cenv
        standAt iter₂.pos
        let y ← foldedSetIterable iter₂ cenv y
        let _ ← runOwn (.compStart (.ListComp elt [⟨.Name x px, iter, [], 0⟩, ⟨tg₂, iter₂, ifs, 0⟩] scope pos) 1 (← holding [y] (pyIter y)) acc cenv) cenv
        again (.compLoop (.ListComp elt [⟨.Name x px, iter, [], 0⟩, ⟨tg₂, iter₂, ifs, 0⟩] scope pos) 0 (.ref I) acc cenv)) := by
    rfl
  rw [e]
  refine wpC_bind (wpC_standAt (wpC_bind (wpC_mono h (fun r s₁ h₁ => ?_) fun _ _ h' => h')))
  cases r with
  | none => exact wpC_pure h₁
  | some v =>
    refine wpC_bind (wpC_of_eq (a := ()) rfl ?_)
    refine wpC_bind (wpC_mono h₁ (fun _ s₂ h₂ => ?_) fun _ _ h' => h')
    rw [mid_split]
    exact wpC_bind (wpC_mono h₂ (fun _ s₃ h₃ => wpC_pure h₃) fun _ _ h' => h')

theorem turn_two1 {elt iter iter₂ : Expr} {tg : Expr} {ifs : List Expr} {scope : Scope} {pos : Pos} {I : Addr} {acc : Value} {x : Str} {px : Pos} :
    TurnOf W A (.ListComp elt [⟨tg, iter, [], 0⟩, ⟨.Name x px, iter₂, ifs, 0⟩] scope pos) 1 I acc cenv (.Name x px) (leafBody ifs elt acc cenv) := by
  intro Q s h
  have e : compTurn (.ListComp elt [⟨tg, iter, [], 0⟩, ⟨.Name x px, iter₂, ifs, 0⟩] scope pos) 1 (.ref I) acc cenv = (do
      standAt iter₂.pos
      match ← pyNext (.ref I) with
      | none => pure (.done .next)
      | some v =>
        letOwnedTupleGo (.Name x px) (.ref I) v
        assign (.Name x px) cenv v
        let mut ok := true
        for c in ifs do
          if ok then ok ← isTrue c cenv (eval c cenv)
        if ok then
          (do let _ ← call (.builtin "list.append") [acc, ← eval elt cenv])
        again (.compLoop (.ListComp elt [⟨tg, iter, [], 0⟩, ⟨.Name x px, iter₂, ifs, 0⟩] scope pos) 1 (.ref I) acc cenv)) := by
    rfl
  rw [e]
  refine wpC_bind (wpC_standAt (wpC_bind (wpC_mono h (fun r s₁ h₁ => ?_) fun _ _ h' => h')))
  cases r with
  | none => exact wpC_pure h₁
  | some v =>
    refine wpC_bind (wpC_of_eq (a := ()) rfl ?_)
    refine wpC_bind (wpC_mono h₁ (fun _ s₂ h₂ => ?_) fun _ _ h' => h')
    show wpC _ _ (forIn ifs true (ifsBody cenv) >>= fun ok => if ok = true then ((eval elt cenv >>= fun y => call (.builtin "list.append") [acc, y] >>= fun _ => (pure () : Sem Unit)) >>= fun _ => again _) else again _) _ _ _
    rw [leaf_split]
    exact wpC_bind (wpC_mono h₂ (fun _ s₃ h₃ => wpC_pure h₃) fun _ _ h' => h')

/-- the start of a clause: the iterator is asked for itself once more, or not -/
theorem start_c {elt : Expr} {gens : List Comprehension} {scope : Scope} {pos : Pos} {depth : Nat} {I : Addr} {acc : Value} {R : Result → Shared → Prop} {g : Comprehension} {src : Src} {Nx : Nat → Hp → Heap → Prop}
    (hg : gens[depth]? = some g) (ha : g.is_async = 0) (It : Itr W A src I Nx) (nx : Nx 0 hp s.heap)
    (hf : (Code.compStart (.ListComp elt gens scope pos) depth (.ref I) acc cenv).isFrame = false)
    (h : codeC W.M A (.compLoop (.ListComp elt gens scope pos) depth (.ref I) acc cenv) R s) :
    codeC W.M A (.compStart (.ListComp elt gens scope pos) depth (.ref I) acc cenv) R s := by
  refine codeC_flat rfl rfl rfl ?_
  have e : W.M.den (.compStart (.ListComp elt gens scope pos) depth (.ref I) acc cenv) = (compStart (.ListComp elt gens scope pos) depth (.ref I) acc cenv).onRaise (fun x => do noteFrame x cenv; standAt theWindowsPlace) := rfl
  rw [e]
  refine wpC_onRaise (wpC_mono (E := fun _ _ => False) (Q := fun fin s' => match fin with | PySem.Fin.done f => R (.ok f) s' | PySem.Fin.again c' => c'.quiet = true ∧ codeC W.M A c' R s') ?_ (fun _ _ x => x) fun _ _ (x : False) => x.elim)
  unfold compStart
  have hc : (clausesOf (.ListComp elt gens scope pos))[depth]? = some g := hg
  rw [hc]
  simp only [Option.elim_some, ha, bne_self_eq_false, Bool.false_eq_true, if_false]
  refine wpC_bind (wpC_of (wpAny_askSetting ?_))
  split
  · exact wpC_pure ⟨rfl, h⟩
  · exact wpC_bind (wpC_of (wpAny_rule (wpC_bind (wpC_standAt (wpC_bind (wpC_of (It.self nx (wpC_pure ⟨rfl, h⟩))))))))
end
end Mine
namespace Mine
open PySem PySem.W PySem.Calls PyProof.Rows

section
variable {W : Wd} {T : St W} {n : Nat} {A : Around} {sc : Scope} {lay : List Str} {env cenv : Env} {vars : Vars} {hp hp₀ hp' : Hp} {s s₀ s' : Shared}

theorem leaf_sound {ifs : List E} {elt : E} {ifsx : List Expr} {eltx : Expr} {D : Addr} {q : Hp → Prop} (C : ∀ e ∈ ifs, ST T n e) (X : SE T n elt) (o1 : okEs sc lay ifs ifsx = true) (o2 : okE sc lay elt eltx = true) (nd : lay.Nodup) (F : FrOk W sc cenv) (R : Room n A)
    (O : HOk W hp s) (V : VarsRel sc lay cenv vars hp s.heap) (h : vcIf T n ifs vars hp fun b hp₃ => if b then vcE T n elt vars hp₃ fun v hp₄ => pushK D v hp₄ q else q hp₃) :
    wpC W.M A (leafBody ifsx eltx (.ref D) cenv) (fun _ s' => EndC W sc lay cenv vars hp s q s') (fun _ _ => False) s := by
  unfold leafBody
  refine wpC_bind (wpC_mono (ifs_sound C o1 nd F R O V h) (fun b s₁ hx => ?_) fun _ _ x => x)
  obtain ⟨t, hp₁, h₁, rfl, O₁, S₁⟩ := hx
  cases b with
  | false =>
    rw [if_neg Bool.false_ne_true] at h₁ ⊢
    exact wpC_pure ⟨hp₁, h₁, O₁, V.at S₁, S₁.toS⟩
  | true =>
    rw [if_pos rfl] at h₁ ⊢
    refine wpC_bind (wpC_mono (X o2 nd F R O₁ (V.at S₁) h₁) (fun y s₂ hx => ?_) fun _ _ x => x)
    obtain ⟨v, hp₂, ⟨acc, hd, hn, q₂⟩, rv, O₂, S₂⟩ := hx
    refine wpC_bind (wpC_mono (append_sound (k := fun _ hp' => q hp') hd (by omega) q₂ O₂ rv).c (fun _ s₃ hx => ?_) fun _ _ x => x)
    obtain ⟨_, hp₃, h₃, _, O₃, S₃⟩ := hx
    exact wpC_pure ⟨hp₃, h₃, O₃, V.at ((S₁.trans S₂).trans S₃), ((S₁.trans S₂).trans S₃).toS⟩

/-- the block's own names are let go -/
theorem HOk.gone {C : Addr} {m : Str → Option Value} {h' : Heap} (O : HOk W hp s) (hC : hp C = none) (h0 : W.h₀.get? C = none) (hn : s.heap.Ns C m) (hs : Heap.SameBut C s.heap h') : HOk W hp { s with heap := h' } := by
  have k : KeptW hp s.heap hp h' := fun b o ⟨its, n, hd⟩ e q => ⟨(hs.2 b fun z => by
    subst z
    obtain ⟨ob, _, _, ho, hdd, _⟩ := hn
    cases Option.some.inj (e.symm.trans ho)
    rw [hdd] at hd; cases hd).trans e, q⟩
  refine ⟨fun b o e => (hs.2 b fun z => by rw [z, h0] at e; cases e).trans (O.old b o e), fun b o e => ?_, O.fresh, O.high, O.gens, O.os⟩
  exact ORel.stepW k (fun _ q => q) (fun ob q => (hs.2 b fun z => by rw [z, hC] at e; cases e).trans q) (O.objs b o e)
theorem HStep.gone {C : Addr} {h' : Heap} (S : HStep hp₀ s₀ hp s) (hC : s₀.heap.get? C = none) (hs : Heap.SameBut C s.heap h') : HStep hp₀ s₀ hp { s with heap := h' } := by
  refine ⟨fun b o e q => (hs.2 b fun z => by rw [z, hC] at e; cases e).trans (S.keep b o e q), S.out, fun b e => ?_⟩
  show (h'.get? b).isSome = true
  rw [hs.2 b fun z => by rw [z, hC] at e; cases e]
  exact S.live b e
theorem SStep.gone {C : Addr} {h' : Heap} (S : SStep sc env hp₀ s₀ hp s) (hC : s₀.heap.get? C = none) (hs : Heap.SameBut C s.heap h') : SStep sc env hp₀ s₀ hp { s with heap := h' } := by
  refine ⟨fun b o e q n => (hs.2 b fun z => by rw [z, hC] at e; cases e).trans (S.keep b o e q n), S.out, fun b e => ?_, fun b o d e q => (hs.2 b fun z => by rw [z, hC] at e; cases e).trans (S.rows b o d e q)⟩
  show (h'.get? b).isSome = true
  rw [hs.2 b fun z => by rw [z, hC] at e; cases e]
  exact S.live b e
theorem VarsRel.gone {C : Addr} {m : Str → Option Value} {h' : Heap} (V : VarsRel sc lay env vars hp s.heap) (hn : s.heap.Ns C m) (hne : env.locals ≠ C) (hs : Heap.SameBut C s.heap h') : VarsRel sc lay env vars hp h' := by
  obtain ⟨oC, eC, epC, hoC, hdC, hrC⟩ := id hn
  have k : KeptW hp s.heap hp h' := fun b o ⟨its, n, hd⟩ e q => ⟨(hs.2 b fun z => by
    subst z
    cases Option.some.inj (e.symm.trans hoC)
    rw [hdC] at hd; cases hd).trans e, q⟩
  obtain ⟨mm, hm, hv⟩ := V.ns
  refine ⟨V.hpL, ⟨mm, hm.sameBut hs hne, fun i x v a b c => let ⟨val, e, r⟩ := hv i x v a b c; ⟨val, e, r.stepW k⟩⟩, fun i x a b => ?_⟩
  obtain ⟨c, vv, e, q, hc, r⟩ := V.cells i x a b
  have nc : c ≠ C := fun z => by
    subst z
    obtain ⟨oc, hoc, hdc⟩ := hc
    cases Option.some.inj (hoc.symm.trans hoC)
    rw [hdC] at hdc; cases hdc
  exact ⟨c, vv, e, q, hc.sameBut hs nc, fun v w => let ⟨val, e, r⟩ := r v w; ⟨val, e, r.stepW k⟩⟩

theorem tgt_get {x : Str} {px : Pos} {scope : Scope} {names : List (Str × Option Nat)} {t : Nat} (okt : tgtOk scope names t (.Name x px) = true) :
    (names.map (·.1))[t]? = some x ∧ (scope.names.lookup x = some .local ∨ scope.names.lookup x = some .cell) := by
  simp only [tgtOk, Bool.and_eq_true, beq_iff_eq] at okt
  refine ⟨okt.1, ?_⟩
  have := okt.2
  unfold isOwn at this
  split at this <;> first | (rename_i e; exact .inl e) | (rename_i e; exact .inr e) | cases this

theorem inner_none {x : Str} {px : Pos} {scope : Scope} {names : List (Str × Option Nat)} {t : Nat} (ok : namesOk sc lay scope names = true) (okt : tgtOk scope names t (.Name x px) = true) (v : V) : (inner names vars)[t]? ≠ some (some v) := fun e => by
  obtain ⟨h1, hk⟩ := tgt_get okt
  obtain ⟨_, _, _, k4, _⟩ := namesOk_get ok
  unfold inner at e
  rw [List.getElem?_map] at e
  rw [List.getElem?_map] at h1
  cases hn : names[t]? with
  | none => rw [hn] at e; cases e
  | some p =>
    rw [hn] at e h1
    obtain ⟨y, j⟩ := p
    have h1 := Option.some.inj h1
    have h1 : y = x := h1
    subst h1
    have := k4 _ (List.mem_of_getElem? hn)
    cases j with
    | none => cases e
    | some j =>
      have : scope.names.lookup y = some .free := this.1
      rcases hk with hk | hk <;> rw [this] at hk <;> cases hk

theorem comp_core (TO : StOk W T) {elt : Expr} {gs : List Comprehension} {ifs : List Expr} {iter : Expr} {x : Str} {px pos cpos : Pos} {scope : Scope} {names : List (Str × Option Nat)} {t : Nat} {ik : ItK} {src : List E} {as : List Expr} {use : Option (Value → Sem Unit)}
    {Q : Value → Shared → Prop} {step : Addr → V → Hp → (Hp → Prop) → Prop} {q : Addr → Hp → Prop} {body : Value → Env → Sem Unit}
    (allS : ∀ e ∈ src, SE T n e)
    (turn : ∀ (A : Around) (I : Addr) acc (cenv : Env), TurnOf W A (.ListComp elt (⟨.Name x px, iter, ifs, 0⟩ :: gs) scope cpos) 0 I acc cenv (.Name x px) (body acc cenv))
    (ok : namesOk sc lay scope names = true) (okt : tgtOk scope names t (.Name x px) = true) (hi : itArgs sc ik iter = some as) (oks : okEs sc lay src as = true)
    (nd : lay.Nodup) (F : FrOk W sc env) (R : Room n A) (O : HOk W hp s) (V : VarsRel sc lay env vars hp s.heap)
    (h : vcEs T n src vars hp fun vs hp₁ => srcK ik vs hp₁ fun sr => ∀ D, hp₁ D = none → compGo sr (step D) sr.items (hp₁.upd D (.list [])) (q D))
    (hb : ∀ D (cenv : Env), FrOk W scope cenv → (names.map (·.1)).Nodup → ∀ x hp s q, HOk W hp s → VarsRel scope (names.map (·.1)) cenv ((inner names vars).set t (some x)) hp s.heap → (∀ b, Own scope cenv b → (s.heap.get? b).isSome = true) → step D x hp q →
      wpC W.M (A.mark none) (body (.ref D) cenv) (fun _ s' => EndC W scope (names.map (·.1)) cenv ((inner names vars).set t (some x)) hp s q s') (fun _ _ => False) s)
    (post : ∀ D hp' s' C fl, q D hp' → HOk W hp' s' → HStep hp s hp' s' → hp' C = none → W.h₀.get? C = none → s.heap.get? C = none → (∃ m, s'.heap.Ns C m) → compPostC W.M A use Q (.ref D) C (.ok fl) s') :
    wpC W.M A (comprehension (.ListComp elt (⟨.Name x px, iter, ifs, 0⟩ :: gs) scope cpos) scope env pos (newList []) false (eval iter env) use) Q (fun _ _ => False) s := by
  obtain ⟨hcl, _⟩ := comp_frame (W := W) (A := A) ok F V O (E := fun _ _ => False) (Q := fun _ _ => True) (fun _ _ _ => trivial)
  obtain ⟨k1, k2, k3, k4, k5⟩ := namesOk_get ok
  refine wpC_comprehension (g := ⟨.Name x px, iter, ifs, 0⟩) (gs := gs) rfl (fun v => fold_plain hi) hcl k1 (fun y hy e => mem_lookup k2 (by obtain ⟨a, b⟩ := y; cases e; exact hy)) ?_
  refine wpC_mono (src_sound TO allS hi oks nd F R O V h) (fun v s₁ h₁ => wpC_mono h₁ (fun iv s₂ hx => ?_) fun _ _ x => x) fun _ _ x => x
  obtain ⟨sr, hp₁, h₂, ⟨I, Nx, rfl, hI, hI0, hIs, It, nx⟩, O₂, S₂⟩ := hx
  refine wpC_mono (newList_sound (k := fun b hp' => ∃ D, b = .ref D ∧ hp₁ D = none ∧ hp' = hp₁.upd D (.list [])) (xs := []) (vals := []) (fun c hc => ⟨c, rfl, hc, rfl⟩) (by simp) O₂ rfl).c (fun acc s₃ hx => ?_) fun _ _ x => x
  obtain ⟨_, hp₃, ⟨D, rfl, hD, rfl⟩, ra, O₃, S₃⟩ := hx
  cases ra
  have V₃ := V.at (S₂.trans S₃)
  refine wpC_of ((comp_frame (W := W) (A := A) ok F V₃ O₃ (fun cenv s₄ CF => ?_)).2)
  have live₂ : ∃ o, s₂.heap.get? I = some o := by obtain ⟨c, d, vs, sl, e⟩ := (It A R.handled).fld nx; exact ⟨_, e⟩
  obtain ⟨oI, eI⟩ := live₂
  have eI₃ := S₃.keep _ _ eI hI
  have hI₃ := S₃.out _ _ eI hI
  have eI₄ := CF.st.keep _ _ eI₃ hI₃
  have S₁₄ := (S₂.trans S₃).trans CF.st
  have nx₄ := (It A R.handled).frame nx (fun b o d e q => ⟨(S₃.trans CF.st).keep b o e q, (S₃.trans CF.st).out b o e q⟩) (fun o e => (S₃.trans CF.st).keep _ _ e hI)
  have own₀ : ∀ b, Own scope { cenv with scope := relabel scope env } b → s.heap.get? b = none := fun b hb => (S₂.trans S₃).was_none (CF.own b hb)
  have hIo : ¬ Own scope { cenv with scope := relabel scope env } I := fun w => by rw [CF.own I w] at eI₃; cases eI₃
  have Rm := R.mark
  obtain ⟨okt1, hk⟩ := tgt_get okt
  have hvt := inner_none (vars := vars) ok okt
  refine codeC_mono (start_c (g := ⟨.Name x px, iter, ifs, 0⟩) rfl rfl (It (A.mark none) Rm.handled) nx₄ rfl (comp_go rfl (turn _ _ _ _) CF.fr k3 okt1 hk hvt (It (A.mark none) Rm.handled) hIs hI0 hIo (hb D _ CF.fr k3) sr.items 0 _ _ rfl
    ⟨CF.ok, CF.vs, S₁₄.toS, nx₄, hI₃, CF.live⟩ (h₂ D hD))) fun r s' hx => ?_
  obtain ⟨fl, rfl, hp', hq, O', V', S'⟩ := hx
  have Sf := S'.toH own₀
  obtain ⟨m, hm, _⟩ := V'.ns
  have fin := post D hp' s' cenv.locals fl hq O' Sf V'.hpL CF.fr.freshL (own₀ _ (.inl rfl)) ⟨m, hm⟩
  exact fin
end
end Mine
namespace Mine
open PySem PySem.W PySem.Calls PyProof.Rows

section
variable {W : Wd} {T : St W} {n : Nat} {A : Around} {sc : Scope} {lay : List Str} {env cenv : Env} {vars : Vars} {hp hp₀ hp' : Hp} {s s₀ s' : Shared}

/-- how a comprehension is evaluated, whatever is done with its row -/
noncomputable def CU (W : Wd) (T : St W) (n : Nat) (e : E) : Prop := ∀ {sc : Scope} {lay : List Str} {ex : Expr} {env : Env} {A : Around} {vars : Vars} {hp : Hp} {s : Shared} {k : K1} {use : Option (Value → Sem Unit)} {Q : Value → Shared → Prop}, okE sc lay e ex = true → lay.Nodup → FrOk W sc env → Room n A → HOk W hp s →
  VarsRel sc lay env vars hp s.heap → vcE T n e vars hp k →
  (∀ D hp' s' C fl, k (.ref D) hp' → HOk W hp' s' → HStep hp s hp' s' → hp' C = none → W.h₀.get? C = none → s.heap.get? C = none → (∃ m, s'.heap.Ns C m) → compPostC W.M A use Q (.ref D) C (.ok fl) s') →
  ∃ elt gens scope pos, ex = .ListComp elt gens scope pos ∧ wpC W.M A (comprehension ex scope env (firstIterPos gens pos) (newList []) (firstAsync gens) (firstIter gens env) use) Q (fun _ _ => False) s

theorem itArgs_some {sc : Scope} {k : ItK} {it : Expr} {b : List Expr → Bool} (h : (match itArgs sc k it with | some as => b as | none => false) = true) : ∃ as, itArgs sc k it = some as ∧ b as = true := by
  cases e : itArgs sc k it with
  | none => rw [e] at h; cases h
  | some as => rw [e] at h; exact ⟨as, rfl, h⟩

theorem tgt_name {scope : Scope} {names : List (Str × Option Nat)} {t : Nat} {tg : Expr} (okt : tgtOk scope names t tg = true) : ∃ x px, tg = .Name x px := by
  unfold tgtOk at okt
  split at okt
  · exact ⟨_, _, rfl⟩
  · cases okt

theorem cu_lcomp (TO : StOk W T) {names : List (Str × Option Nat)} {t : Nat} {ik : ItK} {src ifs : List E} {elt : E} (allS : ∀ e ∈ src, SE T n e) (allI : ∀ e ∈ ifs, ST T n e) (X : SE T n elt) : CU W T n (.lcomp names t ik src ifs elt) := by
  intro sc lay ex env A vars hp s k use Q ok nd F R O V h post
  unfold okE at ok; split at ok
  · rename_i elt' tgt iter ifs' scope pos
    simp only [Bool.and_eq_true] at ok
    obtain ⟨⟨⟨⟨o1, o2⟩, o3⟩, o4⟩, o5⟩ := ok
    obtain ⟨as, hi, oks⟩ := itArgs_some o3
    obtain ⟨x, px, rfl⟩ := tgt_name o2
    unfold vcE at h
    refine ⟨_, _, _, _, rfl, ?_⟩
    refine comp_core TO (t := t) (body := fun acc cenv => leafBody ifs' elt' acc cenv) (step := fun D x hp₂ q => vcIf T n ifs ((inner names vars).set t (some x)) hp₂ fun b hp₃ => if b then vcE T n elt ((inner names vars).set t (some x)) hp₃ fun v hp₄ => pushK D v hp₄ q else q hp₃)
      (q := fun D hp' => k (.ref D) hp') allS (fun A I acc cenv => turn_one) o1 o2 hi oks nd F R O V h ?_ post
    intro D cenv F' nd' y hp₁ s₁ q O₁ V₁ _ h₁
    exact leaf_sound allI X o4 o5 nd' F' R.mark O₁ V₁ h₁
  · cases ok

theorem cu_lcomp2 (TO : StOk W T) {names : List (Str × Option Nat)} {t t₂ : Nat} {ik ik₂ : ItK} {src src₂ ifs : List E} {elt : E} (allS : ∀ e ∈ src, SE T n e) (allS₂ : ∀ e ∈ src₂, SE T n e) (allI : ∀ e ∈ ifs, ST T n e) (X : SE T n elt) : CU W T n (.lcomp2 names t ik src t₂ ik₂ src₂ ifs elt) := by
  intro sc lay ex env A vars hp s k use Q ok nd F R O V h post
  unfold okE at ok; split at ok
  · rename_i elt' tgt iter tgt₂ iter₂ ifs' scope pos
    simp only [Bool.and_eq_true, bne_iff_ne, ne_eq] at ok
    obtain ⟨⟨⟨⟨⟨⟨⟨o1, o2⟩, o2'⟩, hne⟩, o3⟩, o3'⟩, o4⟩, o5⟩ := ok
    obtain ⟨as, hi, oks⟩ := itArgs_some o3
    obtain ⟨as₂, hi₂, oks₂⟩ := itArgs_some o3'
    obtain ⟨x, px, rfl⟩ := tgt_name o2
    obtain ⟨x₂, px₂, rfl⟩ := tgt_name o2'
    unfold vcE at h
    refine ⟨_, _, _, _, rfl, ?_⟩
    refine comp_core TO (t := t) (body := fun acc cenv => midBody (.ListComp elt' [⟨.Name x px, iter, [], 0⟩, ⟨.Name x₂ px₂, iter₂, ifs', 0⟩] scope pos) iter₂ acc cenv)
      (step := fun D x hp₂ q => vcEs T n src₂ ((inner names vars).set t (some x)) hp₂ fun vs₂ hp₃ => srcK ik₂ vs₂ hp₃ fun sr₂ =>
          compGo sr₂ (fun y hp₂ q => vcIf ifs (T := T) (n := n) (((inner names vars).set t (some x)).set t₂ (some y)) hp₂ fun b hp₃ => if b then vcE T n elt (((inner names vars).set t (some x)).set t₂ (some y)) hp₃ fun v hp₄ => pushK D v hp₄ q else q hp₃) sr₂.items hp₃ q)
      (q := fun D hp' => k (.ref D) hp') allS (fun A I acc cenv => turn_two0) o1 o2 hi oks nd F R O V h ?_ post
    intro D cenv F' nd' y hp₁ s₁ q O₁ V₁ lv₁ h₁
    show wpC _ _ (midBody _ _ _ _) _ _ _
    unfold midBody
    refine wpC_bind (wpC_mono (src_sound TO allS₂ hi₂ oks₂ nd' F' R.mark O₁ V₁ h₁) (fun v s₂ h₂ => ?_) fun _ _ x => x)
    refine wpC_bind (wpC_standAt (wpC_bind (wpC_of_eq (fold_plain hi₂) (wpC_bind (wpC_holding (wpC_mono h₂ (fun iv s₃ hx => ?_) fun _ _ x => x))))))
    obtain ⟨sr, hp₃, h₃, ⟨I, Nx, rfl, hI, hI0, hIs, It, nx⟩, O₃, S₃⟩ := hx
    obtain ⟨okt1, hk⟩ := tgt_get o2'
    have hvt : ∀ v : Mine.V, ((inner names vars).set t (some y))[t₂]? ≠ some (some v) := fun v e => by
      rw [List.getElem?_set_ne hne] at e
      exact inner_none (vars := vars) o1 o2' v e
    have hIo : ¬ Own scope cenv I := fun w => by
      have := lv₁ I w
      rw [hIs] at this; cases this
    have Rm := R.mark.mark
    refine wpC_bind (wpC_onRaise_sure (wpC_run (codeC_mono (start_c (g := ⟨.Name x₂ px₂, iter₂, ifs', 0⟩) rfl rfl (It _ Rm.handled) nx rfl (comp_go rfl turn_two1 F' nd' okt1 hk hvt (It _ Rm.handled) hIs hI0 hIo ?_ sr.items 0 _ _ rfl
      ⟨O₃, V₁.at S₃, S₃.toS, nx, hI, fun b hb => S₃.live b (lv₁ b hb)⟩ h₃)) fun r s' hx => ?_)))
    · intro z hp₄ s₄ q' O₄ V₄ _ h₄
      exact leaf_sound allI X o4 o5 nd' F' Rm O₄ V₄ h₄
    · obtain ⟨fl, rfl, hx⟩ := hx
      exact wpC_pure hx
  · cases ok

theorem cu_se {e : E} (C : CU W T n e) : SE T n e := fun {sc lay ex env A vars hp s k} ok nd F R O V h => by
  obtain ⟨elt, gens, scope, pos, rfl, hx⟩ := C (use := none) (Q := fun a s' => ∃ b hp', k b hp' ∧ VRel hp' s'.heap b a ∧ HOk W hp' s' ∧ HStep hp s hp' s') ok nd F R O V h (fun D hp' s' C fl hq O' S' hC h0 hs ⟨m, hm⟩ => by
    exact ⟨m, hm, fun h' sb => ⟨.ref D, hp', hq, rfl, O'.gone hC h0 hm sb, S'.gone hs sb⟩⟩)
  exact hx

/-- a comprehension whose row goes right into a local name -/
noncomputable def SU (W : Wd) (T : St W) (n : Nat) (e : E) : Prop := ∀ {sc : Scope} {lay : List Str} {ex : Expr} {env : Env} {A : Around} {vars : Vars} {hp : Hp} {s : Shared} {k : K1} {i : Nat} {x : Str} {px : Pos}, okE sc lay e ex = true → lay.Nodup → FrOk W sc env → Room n A → HOk W hp s →
  VarsRel sc lay env vars hp s.heap → vcE T n e vars hp k → lay[i]? = some x → sc.names.lookup x = some .local → (∃ elt gens scope cpos, ex = .ListComp elt gens scope cpos) →
  wpC W.M A (evalThenUse ex env (assign (.Name x px) env)) (fun _ s' => ∃ v hp', k v hp' ∧ HOk W hp' s' ∧ VarsRel sc lay env (vars.set i (some v)) hp' s'.heap ∧ SStep sc env hp s hp' s') (fun _ _ => False) s

theorem cu_su {e : E} (C : CU W T n e) : SU W T n e := fun {sc lay ex env A vars hp s k i x px} ok nd F R O V h hi hx _ => by
  obtain ⟨elt, gens, scope, pos, rfl, hc⟩ := C (use := some (assign (.Name x px) env)) (Q := fun _ s' => ∃ v hp', k v hp' ∧ HOk W hp' s' ∧ VarsRel sc lay env (vars.set i (some v)) hp' s'.heap ∧ SStep sc env hp s hp' s') ok nd F R O V h (fun D hp' s' C fl hq O' S' hC h0 hs ⟨m, hm⟩ => by
    refine wpC_of (wpAny_assign_Name (st_var (v := .ref D) F (V.at S') O' nd hi (.inl hx) rfl fun s'' O'' V'' S'' sb => ?_))
    have lo : (s.heap.get? env.locals).isSome = true := by obtain ⟨_, ⟨o, _, _, ho, _⟩, _⟩ := V.ns; rw [ho]; rfl
    have hne : C ≠ env.locals := fun z => by rw [← z, hs] at lo; cases lo
    have hm' : s''.heap.Ns C m := hm.sameBut (sb hx) hne
    exact ⟨m, hm', fun h' sb' => ⟨.ref D, hp', hq, O''.gone hC h0 hm' sb', V''.gone hm' hne.symm sb', (S'.toS.trans S'').gone hs sb'⟩⟩)
  show wpC _ _ (comprehension (.ListComp elt gens scope pos) scope env (firstIterPos gens pos) (newList []) (firstAsync gens) (firstIter gens env) (some _) >>= fun _ => pure ()) _ _ _
  exact wpC_bind (wpC_mono hc (fun _ _ q => wpC_pure q) fun _ _ x => x)

theorem VarsRel.retype {i : Nat} {v v' : Mine.V} {h : Heap} (nd : lay.Nodup) (R : VarsRel sc lay env (vars.set i (some v)) hp h) (k : ∀ val, VRel hp h v val → VRel hp h v' val) : VarsRel sc lay env (vars.set i (some v')) hp h := by
  have key : ∀ (j : Nat) (u : Mine.V), (vars.set i (some v'))[j]? = some (some u) → (vars.set i (some v))[j]? = some (some u) ∨ (u = v' ∧ (vars.set i (some v))[j]? = some (some v)) := fun j u e => by
    by_cases hij : i = j
    · subst hij
      rw [List.getElem?_set_self'] at e ⊢
      cases q : vars[i]? with
      | none => rw [q] at e; cases e
      | some _ => rw [q] at e; cases e; exact .inr ⟨rfl, rfl⟩
    · rw [List.getElem?_set_ne hij] at e ⊢; exact .inl e
  obtain ⟨m, hn, hv⟩ := R.ns
  refine ⟨R.hpL, ⟨m, hn, fun j x u a b c => ?_⟩, fun j x a b => ?_⟩
  · rcases key j u c with c2 | ⟨eu, c2⟩
    · exact hv j x u a b c2
    · obtain ⟨val, e, r⟩ := hv j x v a b c2; exact ⟨val, e, by rw [eu]; exact k _ r⟩
  · obtain ⟨c, vv, e, q, hc, r⟩ := R.cells j x a b
    refine ⟨c, vv, e, q, hc, fun u w => ?_⟩
    rcases key j u w with c2 | ⟨eu, c2⟩
    · exact r u c2
    · obtain ⟨val, e, r⟩ := r v c2; exact ⟨val, e, by rw [eu]; exact k _ r⟩

theorem su_frz {e : E} (C : SU W T n e) : SU W T n (.frz e) := fun {sc lay ex env A vars hp s k i x px} ok nd F R O V h hi hx hex => by
  unfold okE at ok
  simp only [Bool.and_eq_true] at ok
  unfold vcE at h
  refine wpC_mono (C ok.2 nd F R O V h hi hx hex) (fun _ s' hx => ?_) fun _ _ x => x
  obtain ⟨v, hp', ⟨a, xs, rfl, hl, q⟩, O', V', S'⟩ := hx
  have G := O'.forget a (by rw [hl]; nofun)
  have V'' := V'.at G.2
  refine ⟨.flist xs, _, q, G.1, V''.retype nd (fun val r => ?_), S'.trans G.2.toS⟩
  cases r
  exact frz_sound hl O'

theorem su_not {e : E} (h : ∀ sc lay elt gens scope pos, okE sc lay e (.ListComp elt gens scope pos) = false) : SU W T n e := fun {sc lay ex env A vars hp s k i x px} ok nd F R O V _ hi hx ⟨elt, gens, scope, pos, hex⟩ => by
  subst hex
  rw [h] at ok; cases ok
end
end Mine
namespace Mine
open PySem PySem.W PySem.Calls PyProof.Rows

section
variable {W : Wd} {T : St W} {n : Nat}

/-- an expression's three readings -/
structure All3 (W : Wd) (T : St W) (n : Nat) (e : E) : Prop where
  se : SE T n e
  st : ST T n e
  su : SU W T n e

theorem no_comp {e : E} (h : ∀ sc lay elt gens scope pos, okE sc lay e (.ListComp elt gens scope pos) = false) (S : SE T n e) (t : ST T n e) : All3 W T n e := ⟨S, t, su_not h⟩

theorem mk {e : E} (h : ∀ sc lay elt gens scope pos, okE sc lay e (.ListComp elt gens scope pos) = false) (S : SE T n e) (hx : ∀ {sc lay ex}, okE sc lay e ex = true → plainTest ex = true) : All3 W T n e := ⟨S, st_gen S hx, su_not h⟩
theorem of_false {e : E} (h : ∀ vars hp k, ¬ vcE T n e vars hp k) : All3 W T n e := ⟨fun _ _ _ _ _ _ x => (h _ _ _ x).elim, fun _ _ _ _ _ _ x => (h _ _ _ x).elim, fun _ _ _ _ _ _ x => (h _ _ _ x).elim⟩

theorem soundE (TO : StOk W T) : ∀ e : E, All3 W T n e
  | .none => mk (fun _ _ _ _ _ _ => rfl) se_none (by intro sc lay ex ok; unfold okE at ok; split at ok <;> first | rfl | cases ok)
  | .bool _ => mk (fun _ _ _ _ _ _ => rfl) se_bool (by intro sc lay ex ok; unfold okE at ok; split at ok <;> first | rfl | cases ok)
  | .int _ => mk (fun _ _ _ _ _ _ => rfl) se_int (by intro sc lay ex ok; unfold okE at ok; split at ok <;> first | rfl | cases ok)
  | .str _ => mk (fun _ _ _ _ _ _ => rfl) se_str (by intro sc lay ex ok; unfold okE at ok; split at ok <;> first | rfl | cases ok)
  | .bytes _ => mk (fun _ _ _ _ _ _ => rfl) se_bytes (by intro sc lay ex ok; unfold okE at ok; split at ok <;> first | rfl | cases ok)
  | .var _ => mk (fun _ _ _ _ _ _ => rfl) se_var (by intro sc lay ex ok; unfold okE at ok; split at ok <;> first | rfl | cases ok)
  | .glob _ => mk (fun _ _ _ _ _ _ => rfl) (se_glob TO) (by intro sc lay ex ok; unfold okE at ok; split at ok <;> first | rfl | cases ok)
  | .bin _ l r => mk (fun _ _ _ _ _ _ => rfl) (se_bin (soundE TO l).se (soundE TO r).se) (by intro sc lay ex ok; unfold okE at ok; split at ok <;> first | rfl | cases ok)
  | .ladd l r => mk (fun _ _ _ _ _ _ => rfl) (se_ladd (soundE TO l).se (soundE TO r).se) (by intro sc lay ex ok; unfold okE at ok; split at ok <;> first | rfl | cases ok)
  | .lmul l r => mk (fun _ _ _ _ _ _ => rfl) (se_lmul (soundE TO l).se (soundE TO r).se) (by intro sc lay ex ok; unfold okE at ok; split at ok <;> first | rfl | cases ok)
  | .bmul l r => mk (fun _ _ _ _ _ _ => rfl) (se_bmul (soundE TO l).se (soundE TO r).se) (by intro sc lay ex ok; unfold okE at ok; split at ok <;> first | rfl | cases ok)
  | .neg x => mk (fun _ _ _ _ _ _ => rfl) (se_neg (soundE TO x).se) (by intro sc lay ex ok; unfold okE at ok; split at ok <;> first | rfl | cases ok)
  | .inv x => mk (fun _ _ _ _ _ _ => rfl) (se_inv (soundE TO x).se) (by intro sc lay ex ok; unfold okE at ok; split at ok <;> first | rfl | cases ok)
  | .not x => no_comp (fun _ _ _ _ _ _ => rfl) (se_not (soundE TO x).se) (st_not (soundE TO x).st)
  | .cmp _ l r => no_comp (fun _ _ _ _ _ _ => rfl) (se_cmp (soundE TO l).se (soundE TO r).se) (st_cmp (soundE TO l).se (soundE TO r).se)
  | .chain l _ m _ r => no_comp (fun _ _ _ _ _ _ => rfl) (se_chain (soundE TO l).se (soundE TO m).se (soundE TO r).se) (st_chain (soundE TO l).se (soundE TO m).se (soundE TO r).se)
  | .deq _ _ _ => of_false fun _ _ _ h => by unfold vcE at h; exact h
  | .isn _ l => no_comp (fun _ _ _ _ _ _ => rfl) (se_isn (soundE TO l).se) (st_isn (soundE TO l).se)
  | .inn _ _ _ => of_false fun _ _ _ h => by unfold vcE at h; exact h
  | .band xs => no_comp (fun _ _ _ _ _ _ => rfl) (se_band fun e he => (soundE TO e).se) (st_band fun e he => (soundE TO e).st)
  | .bor xs => no_comp (fun _ _ _ _ _ _ => rfl) (se_bor fun e he => (soundE TO e).se) (st_bor fun e he => (soundE TO e).st)
  | .ite c a b => no_comp (fun _ _ _ _ _ _ => rfl) (se_ite (soundE TO c).st (soundE TO a).se (soundE TO b).se) (st_ite (soundE TO c).st (soundE TO a).st (soundE TO b).st)
  | .list xs => mk (fun _ _ _ _ _ _ => rfl) (se_list fun e he => (soundE TO e).se) (by intro sc lay ex ok; unfold okE at ok; split at ok <;> first | rfl | cases ok)
  | .tup xs => mk (fun _ _ _ _ _ _ => rfl) (se_tup fun e he => (soundE TO e).se) (by intro sc lay ex ok; unfold okE at ok; split at ok <;> first | rfl | cases ok)
  | .dict0 => mk (fun _ _ _ _ _ _ => rfl) se_dict0 (by intro sc lay ex ok; unfold okE at ok; split at ok <;> first | rfl | cases ok)
  | .attr e _ => mk (fun _ _ _ _ _ _ => rfl) (se_attr TO (soundE TO e).se) (by intro sc lay ex ok; unfold okE at ok; split at ok <;> first | rfl | cases ok)
  | .idx e i => mk (fun _ _ _ _ _ _ => rfl) (se_idx (soundE TO e).se (soundE TO i).se) (by intro sc lay ex ok; unfold okE at ok; split at ok <;> first | rfl | cases ok)
  | .sl e lo hi => mk (fun _ _ _ _ _ _ => rfl) (se_sl (soundE TO e).se (soundE TO lo).se (soundE TO hi).se) (by intro sc lay ex ok; unfold okE at ok; split at ok <;> first | rfl | cases ok)
  | .bcall _ args => mk (fun _ _ _ _ _ _ => rfl) (se_bcall TO fun e he => (soundE TO e).se) (by intro sc lay ex ok; unfold okE at ok; split at ok <;> first | rfl | cases ok)
  | .call f args kwn kwv => mk (fun _ _ _ _ _ _ => rfl) (se_call TO (soundE TO f).se (fun e he => (soundE TO e).se) fun e he => (soundE TO e).se) (by intro sc lay ex ok; unfold okE at ok; split at ok <;> first | rfl | cases ok)
  | .meth o _ args kwn kwv => mk (fun _ _ _ _ _ _ => rfl) (se_meth TO (soundE TO o).se (fun e he => (soundE TO e).se) fun e he => (soundE TO e).se) (by intro sc lay ex ok; unfold okE at ok; split at ok <;> first | rfl | cases ok)
  | .methStar o _ a st => mk (fun _ _ _ _ _ _ => rfl) (se_methStar TO (soundE TO o).se (soundE TO a).se (soundE TO st).se) (by intro sc lay ex ok; unfold okE at ok; split at ok <;> first | rfl | cases ok)
  | .lcomp names t k src ifs elt =>
    have C : CU W T n (.lcomp names t k src ifs elt) := cu_lcomp TO (fun e he => (soundE TO e).se) (fun e he => (soundE TO e).st) (soundE TO elt).se
    ⟨cu_se C, st_gen (cu_se C) (by intro sc lay ex ok; unfold okE at ok; split at ok <;> first | rfl | cases ok), cu_su C⟩
  | .lcomp2 names t k src t₂ k₂ src₂ ifs elt =>
    have C : CU W T n (.lcomp2 names t k src t₂ k₂ src₂ ifs elt) := cu_lcomp2 TO (fun e he => (soundE TO e).se) (fun e he => (soundE TO e).se) (fun e he => (soundE TO e).st) (soundE TO elt).se
    ⟨cu_se C, st_gen (cu_se C) (by intro sc lay ex ok; unfold okE at ok; split at ok <;> first | rfl | cases ok), cu_su C⟩
  | .dcomp _ _ _ _ _ _ _ => of_false fun _ _ _ h => by unfold vcE at h; exact h
  | .frz e => ⟨se_frz (soundE TO e).se, st_gen (se_frz (soundE TO e).se) (by intro sc lay ex ok; unfold okE at ok; simp only [Bool.and_eq_true] at ok; exact ok.1), su_frz (soundE TO e).su⟩
end
end Mine
namespace Mine
open PySem PySem.W PySem.Calls PyProof.Rows

section
variable {W : Wd} {T : St W} {n : Nat} {A : Around} {sc : Scope} {lay : List Str} {env : Env} {vars : Vars} {hp hp₀ hp' : Hp} {s s₀ s' : Shared}

theorem KeptW.trans {hp₁ hp₂ hp₃ : Hp} {h₁ h₂ h₃ : Heap} (x : KeptW hp₁ h₁ hp₂ h₂) (y : KeptW hp₂ h₂ hp₃ h₃) : KeptW hp₁ h₁ hp₃ h₃ := fun b o d e q => y b o d (x b o d e q).1 (x b o d e q).2
theorem KeptW.rfl' {h : Heap} : KeptW hp h hp h := fun _ _ _ e q => ⟨e, q⟩
theorem Moved1.live_ne {I : Addr} {h h' : Heap} (m : Moved1 I h h') : True := trivial

/-- so many items are drawn -/
theorem draw_itr {src : Src} {I : Addr} {Nx : Nat → Hp → Heap → Prop} (It : Itr W A src I Nx) (hI0 : W.h₀.get? I = none) (hIs : s₀.heap.get? I = none) (hI : hp I = none) (hok : src.ok hp) : ∀ (m i : Nat) {s : Shared}, HOk W hp s → HStep hp₀ s₀ hp s → Nx i hp s.heap → i + m ≤ src.items.length →
    ∀ {Q : List Value → Shared → Prop}, (∀ vs s', VRels hp s'.heap ((src.items.drop i).take m) vs → HOk W hp s' → HStep hp₀ s₀ hp s' → Nx (i + m) hp s'.heap → KeptW hp s.heap hp s'.heap → Q vs s') → wpAny W.M A (draw (.ref I) m) Q (fun _ _ => False) s
  | 0, i, s, O, S, nx, hl, Q, q => wpAny_pure (q [] s (by simp [VRels]) O S nx .rfl')
  | m + 1, i, s, O, S, nx, hl, Q, q => by
    show wpAny _ _ (pyNext (.ref I) >>= _) _ _ _
    refine wpAny_bind (It.next O hok nx (fun x hx v h' t mv nx' rv => ?_) fun hle => by omega)
    refine wpAny_bind (wpAny_holding (draw_itr It hI0 hIs hI hok m (i + 1) (O.moved hI hI0 mv t) (S.moved hIs mv t) nx' (by omega) fun vs s' r O' S' nx'' k => wpAny_pure (q _ _ ?_ O' S' (by rw [show i + (m + 1) = i + 1 + m by omega]; exact nx'') (mv.kept.trans k))))
    have hd : src.items.drop i = x :: src.items.drop (i + 1) := by
      obtain ⟨hlt, e⟩ := List.getElem?_eq_some_iff.mp hx
      rw [List.drop_eq_getElem_cons hlt, e]
    rw [hd, List.take_succ_cons]
    exact .cons (rv.stepW k) r

theorem seq_src {v : V} {xs : List V} (h : seqOf hp v = some xs) : srcK .of [v] hp fun sr => sr.items = xs ∧ sr.ok hp := by
  cases v <;> first | (cases h; done) | skip
  · rename_i a
    unfold seqOf at h
    dsimp only at h
    show match hp a with | some (.list xs') => _ | _ => False
    split at h
    · rename_i ys e
      cases h
      first | exact ⟨rfl, e⟩ | (rw [e]; exact ⟨rfl, e⟩)
    · cases h
  · cases h; exact ⟨rfl, trivial⟩
  · cases h; exact ⟨rfl, trivial⟩

theorem iterable_of {v : V} {xs : List V} {val : Value} (h : seqOf hp v = some xs) (O : HOk W hp s) (r : VRel hp s.heap v val) {E : Value → Shared → Prop} {Q : Bool → Shared → Prop} (q : Q false s) : wpAny W.M A (notIterableAtAll val) Q E s := by
  have key : ∀ {Ty id : String}, s.TypeIs val Ty → typeLookup (.type Ty) "__iter__" = pure (some (.builtin id)) → wpAny W.M A (notIterableAtAll val) Q E s := fun {Ty id} hT hl => by
    unfold notIterableAtAll
    refine wpAny_bind (wpAny_specialOf hT hl ?_)
    rw [if_pos (by rfl)]
    exact wpAny_pure q
  cases v <;> first | (cases h; done) | skip
  · cases r
    unfold seqOf at h
    dsimp only at h
    split at h
    · rename_i ys e
      obtain ⟨vals, p, _⟩ := O.objs _ _ e
      exact key p.isList.typeIs slot_list_iter.lookup
    · cases h
  · obtain ⟨a, vals, rfl, _, t, _⟩ := r
    obtain ⟨o, ho, hc, _⟩ := t
    exact key (Ty := "tuple") ⟨o, ho, hc⟩ lookup_tuple_iter
  · obtain ⟨a, vals, rfl, _, l, _⟩ := r
    exact key l.typeIs slot_list_iter.lookup

theorem unpack_sound' {v : V} {xs : List V} {val : Value} (hh : A.handled = none) (h : seqOf hp v = some xs) (O : HOk W hp s) (r : VRel hp s.heap v val) : Ev W A (unpackItems val xs.length none) VRels (fun ys hp' => ys = xs ∧ hp' = hp) hp s := by
  unfold Ev unpackItems
  refine wpAny_bind (iterable_of h O r ?_)
  rw [if_neg Bool.false_ne_true]
  refine wpAny_bind (wpAny_holding (wpAny_mono (of_src (q := fun sr hp' => (sr.items = xs ∧ sr.ok hp') ∧ hp' = hp) (hp₀ := hp) (s₀ := s) (A := A) (v := v) ?_ O (.refl ..) r) (fun iv s₁ hx => ?_) fun _ _ x => x))
  · have := seq_src h
    cases v <;> first | (cases h; done) | skip
    · rename_i a
      have this : match hp a with | some (.list ys) => _ | _ => False := this
      show match hp a with | some (.list ys) => _ | _ => False
      split at this
      · rename_i e; exact ⟨this, rfl⟩
      · exact this.elim
    · exact ⟨this, rfl⟩
    · exact ⟨this, rfl⟩
  obtain ⟨sr, hp₁, ⟨⟨hi, hok⟩, rfl⟩, ⟨I, Nx, rfl, hI, hI0, hIs, It, nx⟩, O₁, S₁⟩ := hx
  dsimp only
  refine wpAny_bind (wpAny_holding (draw_itr (It A hh) hI0 hIs hI hok xs.length 0 O₁ S₁ nx (by rw [hi]; omega) fun vs s₂ rv O₂ S₂ nx₂ k => ?_))
  rw [List.drop_zero, hi, List.take_length] at rv
  rw [if_neg (by rw [rv.length]; omega)]
  refine wpAny_bind (wpAny_holding ((It A hh).next O₂ hok nx₂ (fun x hx => ?_) fun _ h' t m => ?_))
  · rw [hi] at hx
    rw [List.getElem?_eq_none (by omega)] at hx; cases hx
  · simp only [Option.isSome_none, Bool.false_eq_true, if_false]
    exact wpAny_pure ⟨xs, hp₁, ⟨rfl, rfl⟩, rv.stepW m.kept, O₂.moved hI hI0 m t, S₂.moved hIs m t⟩

/-- what a target leaves -/
noncomputable def TPost (sc : Scope) (lay : List Str) (W : Wd) (env : Env) (k : Vars → Hp → Prop) (hp : Hp) (s : Shared) (s' : Shared) : Prop :=
  ∃ vars' hp', k vars' hp' ∧ HOk W hp' s' ∧ VarsRel sc lay env vars' hp' s'.heap ∧ SStep sc env hp s hp' s'

noncomputable def TS (W : Wd) (T : St W) (n : Nat) (t : Tg) : Prop := ∀ {sc : Scope} {lay : List Str} {tx : Expr} {env : Env} {A : Around} {vars : Vars} {hp : Hp} {s : Shared} {v : V} {val : Value} {k : Vars → Hp → Prop}, okT sc lay t tx = true → lay.Nodup → FrOk W sc env → Room n A → HOk W hp s →
  VarsRel sc lay env vars hp s.heap → VRel hp s.heap v val → vcT T n t v vars hp k → wpC W.M A (assign tx env val) (fun _ s' => TPost sc lay W env k hp s s') (fun _ _ => False) s

theorem isOwn_get {x : Str} (h : isOwn sc x = true) : sc.names.lookup x = some .local ∨ sc.names.lookup x = some .cell := by
  unfold isOwn at h
  split at h <;> first | (rename_i e; exact .inl e) | (rename_i e; exact .inr e) | cases h

theorem ts_var {i : Nat} : TS W T n (.var i) := fun {sc lay tx env A vars hp s v val k} ok nd F R O V r h => by
  unfold okT at ok; split at ok
  · simp only [Bool.and_eq_true, beq_iff_eq] at ok
    unfold vcT at h
    exact wpC_of (wpAny_assign_Name (st_var F V O nd ok.1 (isOwn_get ok.2) r fun s' O' V' S' _ => ⟨_, _, h, O', V', S'⟩))
  · cases ok

theorem ts_attr (TO : StOk W T) {o : E} {name : Str} : TS W T n (.attr o name) := fun {sc lay tx env A vars hp s v val k} ok nd F R O V r h => by
  unfold okT at ok; split at ok
  · simp only [Bool.and_eq_true, beq_iff_eq] at ok
    obtain ⟨rfl, o1⟩ := ok
    unfold vcT at h
    rw [arm_assign_Attribute]
    refine wpC_bind (wpC_holding (wpC_mono ((soundE TO o).se o1 nd F R O V h) (fun ov s₁ hx => wpC_bind (wpC_standAt (wpC_bind (wpC_holding ?_)))) fun _ _ x => x))
    obtain ⟨o, hp₁, h₁, ro, O₁, S₁⟩ := hx
    refine wpC_mono (setAttr_sound TO h₁ O₁ ro (r.at S₁)).c (fun _ s₂ hx => wpC_release ?_) fun _ _ x => x
    obtain ⟨_, hp₂, h₂, _, O₂, S₂⟩ := hx
    exact ⟨vars, hp₂, h₂, O₂, V.at (S₁.trans S₂), (S₁.trans S₂).toS⟩
  · cases ok

theorem setIdx_sound {o i v : V} {ov iv val : Value} {k : Hp → Prop} (h : setIdxK o i v hp k) (R : Room n A) (O : HOk W hp s) (ro : VRel hp s.heap o ov) (ri : VRel hp s.heap i iv) (r : VRel hp s.heap v val) : EvU W A (setItem ov iv val) k hp s := by
  unfold setIdxK at h
  split at h
  · cases ro
    split at h
    · rename_i hl
      obtain ⟨t, rfl⟩ := ri
      obtain ⟨p, hp', q⟩ := h
      exact setidx_list_sound hl hp' q O r
    · rename_i hl
      obtain ⟨ks, hk, hn, q⟩ := h
      exact setidx_tdict_sound hl hk (by omega) q R.units2 O ri r
    · exact h.elim
  · exact h.elim

theorem ts_idx (TO : StOk W T) {o i : E} : TS W T n (.idx o i) := fun {sc lay tx env A vars hp s v val k} ok nd F R O V r h => by
  unfold okT at ok; split at ok
  · simp only [Bool.and_eq_true, beq_iff_eq] at ok
    obtain ⟨⟨o0, o1⟩, o2⟩ := ok
    unfold vcT at h
    rw [arm_assign_Subscript]
    refine wpC_bind (wpC_holding (wpC_mono ((soundE TO o).se o1 nd F R O V h) (fun ov s₁ hx => wpC_bind (wpC_holding ?_)) fun _ _ x => x))
    obtain ⟨o, hp₁, h₁, ro, O₁, S₁⟩ := hx
    refine wpC_mono ((soundE TO i).se o2 nd F R O₁ (V.at S₁) h₁) (fun iv s₂ hx => wpC_bind (wpC_standAt (wpC_bind (wpC_holding ?_)))) fun _ _ x => x
    obtain ⟨i, hp₂, h₂, ri, O₂, S₂⟩ := hx
    refine wpC_mono (setIdx_sound h₂ R O₂ (ro.at S₂) ri ((r.at S₁).at S₂)).c (fun _ s₃ hx => wpC_release ?_) fun _ _ x => x
    obtain ⟨_, hp₃, h₃, _, O₃, S₃⟩ := hx
    exact ⟨vars, hp₃, h₃, O₃, V.at ((S₁.trans S₂).trans S₃), ((S₁.trans S₂).trans S₃).toS⟩
  · cases ok

theorem setSl_sound {o lo hi v : V} {ov val vl vu : Value} {i : Addr} {k : Hp → Prop} (h : setSlK o lo hi v hp k) (R : Room n A) (O : HOk W hp s) (ro : VRel hp s.heap o ov) (hs : s.heap.IsSliceOf i vl vu .none) (r1 : VRel hp s.heap lo vl) (r2 : VRel hp s.heap hi vu) (r : VRel hp s.heap v val) :
    CvU W A (setItem ov (.ref i) val) k hp s := by
  unfold setSlK at h
  split at h
  · cases ro
    split at h
    · rename_i hl
      obtain ⟨l, u, x, h1, h2, h3, h4, h5, h6, q⟩ := h
      exact setsl_sound R.guards hl h1 h2 h3 h4 h5 (by omega) q hs r1 r2 O r
    · exact h.elim
  · exact h.elim

theorem ts_sl (TO : StOk W T) {o lo hi : E} : TS W T n (.sl o lo hi) := fun {sc lay tx env A vars hp s v val k} ok nd F R O V r h => by
  unfold okT at ok; split at ok
  · rename_i vx l u sp pos
    simp only [Bool.and_eq_true] at ok
    obtain ⟨⟨o1, o2⟩, o3⟩ := ok
    unfold vcT at h
    rw [arm_assign_Subscript]
    refine wpC_bind (wpC_holding (wpC_mono ((soundE TO o).se o1 nd F R O V h) (fun ov s₁ hx => wpC_bind (wpC_holding ?_)) fun _ _ x => x))
    obtain ⟨o, hp₁, h₁, ro, O₁, S₁⟩ := hx
    refine wpC_mono (slice_c (Q := fun l h hp₃ => setSlK o l h v hp₃ fun hp₄ => k vars hp₄) (soundE TO lo).se (soundE TO hi).se o2 o3 nd F R O₁ (V.at S₁) h₁) (fun iv s₂ hx => wpC_bind (wpC_standAt (wpC_bind (wpC_holding ?_)))) fun _ _ x => x
    obtain ⟨ab, hp₂, h₂, ⟨j, vl, vu, rfl, hs, r1, r2⟩, O₂, S₂⟩ := hx
    refine wpC_mono (setSl_sound h₂ R O₂ (ro.at S₂) hs r1 r2 ((r.at S₁).at S₂)) (fun _ s₃ hx => wpC_release ?_) fun _ _ x => x
    obtain ⟨_, hp₃, h₃, _, O₃, S₃⟩ := hx
    exact ⟨vars, hp₃, h₃, O₃, V.at ((S₁.trans S₂).trans S₃), ((S₁.trans S₂).trans S₃).toS⟩
  · cases ok

theorem targets_plain : ∀ {ts : List Tg} {txs : List Expr}, okTs sc lay ts txs = true → assignEach txs env = txs.map (fun t => (false, assign t env)) ∧ txs.length = ts.length
  | [], txs, ok => by
    unfold okTs at ok; split at ok
    · exact ⟨rfl, rfl⟩
    · cases ok
  | t :: ts, txs, ok => by
    unfold okTs at ok; split at ok
    · rename_i x xs
      simp only [Bool.and_eq_true] at ok
      obtain ⟨i1, i2⟩ := targets_plain ok.2
      have e1 : assignEach (x :: xs) env = (false, assign x env) :: assignEach xs env := by
        have := ok.1.1
        cases x <;> first | rfl | cases this
      exact ⟨by rw [e1, i1]; rfl, by simp [i2]⟩
    · cases ok

theorem ts_row : ∀ {ts : List Tg}, (∀ t ∈ ts, TS W T n t) → ∀ {sc : Scope} {lay : List Str} {txs : List Expr} {env : Env} {A : Around} {vars : Vars} {hp : Hp} {s : Shared} {xs : List V} {vals : List Value} {k : Vars → Hp → Prop}, okTs sc lay ts txs = true → lay.Nodup → FrOk W sc env → Room n A → HOk W hp s →
    VarsRel sc lay env vars hp s.heap → VRels hp s.heap xs vals → vcTs T n ts xs vars hp k → wpC W.M A (assignInOrder (txs.map fun t => assign t env) vals) (fun _ s' => TPost sc lay W env k hp s s') (fun _ _ => False) s
  | [], _, sc, lay, txs, env, A, vars, hp, s, xs, vals, k, ok, nd, F, R, O, V, r, h => by
    unfold okTs at ok; split at ok
    · unfold vcTs at h
      obtain ⟨rfl, h⟩ := h
      cases r
      exact wpC_pure ⟨vars, hp, h, O, V, .refl ..⟩
    · cases ok
  | t :: ts, all, sc, lay, txs, env, A, vars, hp, s, xs, vals, k, ok, nd, F, R, O, V, r, h => by
    unfold okTs at ok; split at ok
    · rename_i x xs'
      simp only [Bool.and_eq_true] at ok
      obtain ⟨⟨o1, o2⟩, o3⟩ := ok
      unfold vcTs at h
      cases xs with
      | nil => exact h.elim
      | cons y ys =>
        obtain ⟨v, vs, rfl, r1, r2⟩ := r
        dsimp only at h
        show wpC _ _ (holding vs (assign x env v) >>= fun _ => assignInOrder _ vs) _ _ _
        refine wpC_bind (wpC_holding (wpC_mono (all t (.head _) o2 nd F R O V r1 h) (fun _ s₁ hx => ?_) fun _ _ x => x))
        obtain ⟨vars₁, hp₁, h₁, O₁, V₁, S₁⟩ := hx
        refine wpC_mono (ts_row (fun t h => all t (.tail _ h)) o3 nd F R O₁ V₁ (r2.step S₁.kept) h₁) (fun _ s₂ hx => ?_) fun _ _ x => x
        obtain ⟨vars₂, hp₂, h₂, O₂, V₂, S₂⟩ := hx
        exact ⟨vars₂, hp₂, h₂, O₂, V₂, S₁.trans S₂⟩
    · cases ok

theorem no_star {txs : List Expr} : (txs.map fun t => (false, assign t env)).findIdx? (·.1) = none := by
  rw [List.findIdx?_eq_none_iff]
  intro x hx
  obtain ⟨y, _, rfl⟩ := List.mem_map.mp hx
  rfl

theorem ts_tup {ts : List Tg} (all : ∀ t ∈ ts, TS W T n t) : TS W T n (.tup ts) := fun {sc lay tx env A vars hp s v val k} ok nd F R O V r h => by
  unfold okT at ok; split at ok
  · rename_i vs ctx pos
    simp only [Bool.and_eq_true] at ok
    unfold vcT at h
    obtain ⟨xs, hs, hlen, h⟩ := h
    rw [arm_assign_Tuple]
    refine wpC_bind (wpC_standAt ?_)
    obtain ⟨e1, e2⟩ := targets_plain (env := env) ok.1
    unfold unpack
    rw [e1, no_star, List.length_map, e2, ← hlen]
    refine wpC_bind (wpC_holding (wpC_mono (unpack_sound' R.handled hs O r).c (fun vals s₁ hx => ?_) fun _ _ x => x))
    obtain ⟨ys, hp₁, ⟨rfl, rfl⟩, rv, O₁, S₁⟩ := hx
    have e3 : (vs.map fun t => (false, assign t env)).map (·.2) = vs.map fun t => assign t env := by rw [List.map_map]; rfl
    rw [e3]
    refine wpC_mono (ts_row all ok.1 nd F R O₁ (V.at S₁) rv h) (fun _ s₂ hx => ?_) fun _ _ x => x
    obtain ⟨vars₂, hp₂, h₂, O₂, V₂, S₂⟩ := hx
    exact ⟨vars₂, hp₂, h₂, O₂, V₂, S₁.toS.trans S₂⟩
  · cases ok

theorem soundT (TO : StOk W T) : ∀ t : Tg, TS W T n t
  | .var _ => ts_var
  | .attr _ _ => ts_attr TO
  | .idx _ _ => ts_idx TO
  | .sl _ _ _ => ts_sl TO
  | .tup ts => ts_tup fun t ht => soundT TO t
end
end Mine
namespace Mine
open PySem PySem.W PySem.Calls PyProof.Rows

section
variable {W : Wd} {T : St W} {n : Nat} {A : Around} {sc : Scope} {lay : List Str} {env : Env} {vars : Vars} {hp hp₀ hp' : Hp} {s s₀ s' : Shared} {k : KS}

noncomputable def SS (W : Wd) (T : St W) (n : Nat) (st : S) : Prop := ∀ {sc : Scope} {lay : List Str} {stx : Stmt} {env : Env} {A : Around} {vars : Vars} {hp : Hp} {s : Shared} {k : KS}, okS sc lay st stx = true → lay.Nodup → Cov sc lay → FrOk W sc env → Room n A → HOk W hp s →
  VarsRel sc lay env vars hp s.heap → vcS T n st vars hp k → wpC W.M A (exec stx env) (fun fl s' => SPost sc lay W env k hp s fl s') (fun _ _ => False) s
noncomputable def SSs (W : Wd) (T : St W) (n : Nat) (sts : List S) : Prop := ∀ {sc : Scope} {lay : List Str} {stxs : List Stmt} {env : Env} {A : Around} {vars : Vars} {hp : Hp} {s : Shared} {k : KS}, okSs sc lay sts stxs = true → lay.Nodup → Cov sc lay → FrOk W sc env → Room n A → HOk W hp s →
  VarsRel sc lay env vars hp s.heap → vcSs T n sts vars hp k → wpC W.M A (execs stxs env) (fun fl s' => SPost sc lay W env k hp s fl s') (fun _ _ => False) s

theorem SPost.after {fl : Flow} (S : SStep sc env hp₀ s₀ hp s) (p : SPost sc lay W env k hp s fl s') : SPost sc lay W env k hp₀ s₀ fl s' := by
  obtain ⟨f, vars', hp', q, r, O, V, S'⟩ := p
  exact ⟨f, vars', hp', q, r, O, V, S.trans S'⟩
theorem spost_next {vars' : Vars} (q : k .next vars' hp') (O : HOk W hp' s') (V : VarsRel sc lay env vars' hp' s'.heap) (S : SStep sc env hp s hp' s') : SPost sc lay W env k hp s .next s' := ⟨.next, vars', hp', q, rfl, O, V, S⟩

theorem swaps_plain {e : Expr} {tg : Option Expr} {l : Nat} (h : notComp e = true) : swapsWith e tg l env = pure false := by
  cases e <;> first | rfl | cases h

theorem interactive_fn (F : FrOk W sc env) : interactive env = false := by
  unfold interactive
  rw [F.kind]; rfl

theorem ss_expr (TO : StOk W T) {e : E} : SS W T n (.expr e) := fun {sc lay stx env A vars hp s k} ok nd cv F R O V h => by
  unfold okS at ok; split at ok
  · simp only [Bool.and_eq_true] at ok
    unfold vcS at h
    rw [exec_Expr env _ _ (interactive_fn F) (swaps_plain ok.1)]
    refine wpC_bind (wpC_standAt (wpC_bind (wpC_mono ((soundE TO e).se ok.2 nd F R O V h) (fun v s₁ hx => wpC_of (wpAny_dropValue ?_)) fun _ _ x => x)))
    obtain ⟨a, hp₁, h₁, ra, O₁, S₁⟩ := hx
    exact spost_next h₁ O₁ (V.at S₁) S₁.toS
  · cases ok

theorem swapped_cell {ts vs : List Expr} {k k' : Nat} {p p' : Pos} (F : FrOk W sc env) (h : cellIn sc (.Tuple ts k p) = true) :
    swappedStores [.Tuple ts k p] (.Tuple vs k' p') env = pure none := by
  unfold swappedStores
  show (if _ then (pure none : Sem (Option (List Str))) else _) = _
  split
  · rfl
  · show (if _ then (pure none : Sem (Option (List Str))) else _) = _
    split
    · rfl
    · show (if _ then (pure none : Sem (Option (List Str))) else _) = _
      rw [if_pos]
      rw [Bool.or_eq_true]
      refine .inl (bne_iff_ne.mpr fun e => ?_)
      rw [List.filterMap_length_eq_length] at e
      unfold cellIn at h
      obtain ⟨x, hx, h⟩ := List.any_eq_true.mp h
      have := e x hx
      split at h
      · rename_i y py
        have hc := F.cel y (beq_iff_eq.mp h)
        simp [hc] at this
      · rename_i hn
        cases x <;> first | exact hn _ _ rfl | cases this
theorem swapped_none {t : Tg} {tg v : Expr} (F : FrOk W sc env) (h : (notTuple v || notTuple tg || cellIn sc tg) = true) (ok : okT sc lay t tg = true) : swappedStores [tg] v env = pure none := by
  cases tg
  case Tuple =>
    cases v <;> first | rfl | (exact swapped_cell F (by simpa [notTuple] using h))
  case List =>
    exfalso
    cases t <;> (unfold okT at ok; cases ok)
  all_goals rfl

theorem each_one {t : Tg} {tg : Expr} (ok : okT sc lay t tg = true) : (assignEach [tg] env).map (·.2) = [assign tg env] := by
  cases tg <;> first | rfl | (exfalso; cases t <;> (unfold okT at ok; cases ok; done))

theorem swaps_cases {t : Tg} {tg v : Expr} {l : Nat} (ok : okT sc lay t tg = true) (hd : notDSet v = true) : swapsWithSole [tg] v l env = pure false ∨
    (swapsWithSole [tg] v l env = pure true ∧ (∃ elt gens scope cpos, v = .ListComp elt gens scope cpos) ∧ ∃ i x px, t = .var i ∧ tg = .Name x px ∧ lay[i]? = some x ∧ isOwn sc x = true ∧ env.kindOf x = some .local) := by
  show swapsWith v (some tg) l env = _ ∨ (swapsWith v (some tg) l env = _ ∧ _)
  cases v
  case ListComp elt gens scope cpos =>
    cases tg
    case Name x px =>
      cases t
      case var i =>
        unfold okT at ok
        simp only [Bool.and_eq_true, beq_iff_eq] at ok
        generalize hb : (env.blockKind == .function && env.kindOf x == some .local && px.line == cpos.line && !(scope.names.any fun (n, k) => n == x && (k == .local || k == .cell))) = b
        have e : swapsWith (Expr.ListComp elt gens scope cpos) (some (Expr.Name x px)) l env = pure b := by rw [← hb]; rfl
        rw [e]
        cases b with
        | false => exact .inl rfl
        | true =>
          simp only [Bool.and_eq_true, beq_iff_eq] at hb
          exact .inr ⟨rfl, ⟨_, _, _, _, rfl⟩, i, x, px, rfl, rfl, ok.1, ok.2, hb.1.1.2⟩
      all_goals (unfold okT at ok; cases ok)
    all_goals exact .inl rfl
  case SetComp => cases hd
  case DictComp => cases hd
  all_goals exact .inl rfl

theorem ss_asg (TO : StOk W T) {t : Tg} {e : E} : SS W T n (.asg t e) := fun {sc lay stx env A vars hp s k} ok nd cv F R O V h => by
  unfold okS at ok; split at ok
  · rename_i tg v pos
    simp only [Bool.and_eq_true] at ok
    obtain ⟨⟨⟨o0, od⟩, o1⟩, o2⟩ := ok
    unfold vcS at h
    rw [arm_exec_Assign]
    refine wpC_bind (wpC_standAt ?_)
    rcases swaps_cases (env := env) (l := pos.line) o1 od with e1 | ⟨e1, hc, i, x, px, rfl, rfl, hx, ho, hk⟩
    · rw [e1]
      refine wpC_bind (wpC_pure ?_)
      rw [if_neg Bool.false_ne_true]
      refine wpC_bind (wpC_mono ((soundE TO e).se o2 nd F R O V h) (fun val s₁ hx => ?_) fun _ _ x => x)
      obtain ⟨a, hp₁, h₁, ra, O₁, S₁⟩ := hx
      rw [swapped_none F o0 o1, each_one o1]
      refine wpC_bind (wpC_pure ?_)
      show wpC _ _ (assignAll val [assign tg env] >>= fun _ => (pure Flow.next : Sem Flow)) _ _ _
      refine wpC_bind (wpC_mono (soundT TO t o1 nd F R O₁ (V.at S₁) ra h₁) (fun _ s₂ hx => wpC_pure ?_) fun _ _ x => x)
      obtain ⟨vars₂, hp₂, h₂, O₂, V₂, S₂⟩ := hx
      exact spost_next h₂ O₂ V₂ (S₁.toS.trans S₂)
    · rw [e1]
      refine wpC_bind (wpC_pure ?_)
      rw [if_pos rfl]
      have hl : sc.names.lookup x = some .local := by
        rcases isOwn_get ho with h1 | h1
        · exact h1
        · rw [F.cel x h1] at hk; cases hk
      refine wpC_bind (wpC_mono ((soundE TO e).su (px := px) o2 nd F R O V h hx hl hc) (fun _ s₁ hx => wpC_pure ?_) fun _ _ x => x)
      obtain ⟨w, hp₁, h₁, O₁, V₁, S₁⟩ := hx
      unfold vcT at h₁
      exact spost_next h₁ O₁ V₁ S₁
  · cases ok

theorem ev_load {i : Nat} {x : Str} {v : V} {Q : V → Hp → Prop} (F : FrOk W sc env) (V : VarsRel sc lay env vars hp s.heap) (O : HOk W hp s)
    (hx : lay[i]? = some x) (hk : sc.names.lookup x = some .local ∨ sc.names.lookup x = some .cell) (hv : vars[i]? = some (some v)) (q : Q v hp) : EvV W A (loadName env x) Q hp s := by
  have fin : ∀ val, VRel hp s.heap v val → ∃ mv hp', Q mv hp' ∧ VRel hp' s.heap mv val ∧ HOk W hp' s ∧ HStep hp s hp' s := fun val r => ⟨v, hp, q, r, O, .refl ..⟩
  rcases hk with hk | hk
  · obtain ⟨m, hm, hv'⟩ := V.ns
    obtain ⟨val, e, r⟩ := hv' i x v hx hk hv
    exact wpAny_loadName_local F.kind (F.loc x hk) hm e (fin val r)
  · obtain ⟨c, vv, e, _, hcell, rr⟩ := V.cells i x hx (.inl hk)
    obtain ⟨val, ev, r'⟩ := rr v hv
    subst ev
    exact wpAny_loadName_cell F.kind (F.cel x hk) e hcell (fin val r')

theorem ss_aug (TO : StOk W T) {i : Nat} {op : Operator} {e : E} : SS W T n (.aug i op e) := fun {sc lay stx env A vars hp s k} ok nd cv F R O V h => by
  unfold okS at ok; split at ok
  · rename_i x px op' v pos
    simp only [Bool.and_eq_true, beq_iff_eq] at ok
    obtain ⟨⟨⟨rfl, hx⟩, ho⟩, o2⟩ := ok
    unfold vcS at h
    obtain ⟨u, hu, h⟩ := h
    rw [exec_AugAssign_Name]
    refine wpC_bind (wpC_standAt (wpC_bind (wpC_mono (ev_load (Q := fun w hp' => w = u ∧ hp' = hp) F V O hx (isOwn_get ho) hu ⟨rfl, rfl⟩).c (fun old s₁ hx1 => ?_) fun _ _ x => x)))
    obtain ⟨_, _, ⟨rfl, rfl⟩, ru, O₁, S₁⟩ := hx1
    refine wpC_bind (wpC_holding (wpC_mono ((soundE TO e).se o2 nd F R O₁ (V.at S₁) h) (fun val s₂ hx2 => wpC_bind (wpC_standAt ?_)) fun _ _ x => x))
    obtain ⟨b, hp₂, h₂, rb, O₂, S₂⟩ := hx2
    refine wpC_bind (wpC_mono (wpC_operate (aug_sound h₂ O₂ (ru.at S₂) rb).c) (fun nw s₃ hx3 => wpC_bind (wpC_standAt ?_)) fun _ _ x => x)
    obtain ⟨r, hp₃, h₃, rr, O₃, S₃⟩ := hx3
    have S := (S₁.trans S₂).trans S₃
    refine wpC_bind (wpC_of (wpAny_bindName (st_var F (V.at S) O₃ nd hx (isOwn_get ho) rr fun s₄ O₄ V₄ S₄ _ => wpC_pure ?_)))
    exact spost_next h₃ O₄ V₄ (S.toS.trans S₄)
  · cases ok

theorem ss_ret (TO : StOk W T) {e : E} : SS W T n (.ret e) := fun {sc lay stx env A vars hp s k} ok nd cv F R O V h => by
  unfold okS at ok; split at ok
  · unfold vcS at h
    rw [exec_Return_some]
    refine wpC_bind (wpC_standAt (wpC_bind (wpC_mono ((soundE TO e).se ok nd F R O V h) (fun v s₁ hx => wpC_pure ?_) fun _ _ x => x)))
    obtain ⟨a, hp₁, h₁, ra, O₁, S₁⟩ := hx
    exact ⟨.ret a, vars, hp₁, h₁, ⟨v, rfl, ra⟩, O₁, V.at S₁, S₁.toS⟩
  · cases ok
theorem ss_ret0 : SS W T n .ret0 := fun {sc lay stx env A vars hp s k} ok nd cv F R O V h => by
  unfold okS at ok; split at ok
  · unfold vcS at h
    rw [exec_Return_none]
    exact wpC_bind (wpC_standAt (wpC_pure ⟨.ret .none, vars, hp, h, ⟨_, rfl, rfl⟩, O, V, .refl ..⟩))
  · cases ok
theorem ss_pass : SS W T n .pass := fun {sc lay stx env A vars hp s k} ok nd cv F R O V h => by
  unfold okS at ok; split at ok
  · unfold vcS at h
    exact wpC_bind (wpC_standAt (wpC_pure ⟨.next, vars, hp, h, rfl, O, V, .refl ..⟩))
  · cases ok
theorem ss_brk : SS W T n .brk := fun {sc lay stx env A vars hp s k} ok nd cv F R O V h => by
  unfold okS at ok; split at ok
  · unfold vcS at h
    exact wpC_bind (wpC_standAt (wpC_pure ⟨.brk, vars, hp, h, rfl, O, V, .refl ..⟩))
  · cases ok
theorem ss_cont : SS W T n .cont := fun {sc lay stx env A vars hp s k} ok nd cv F R O V h => by
  unfold okS at ok; split at ok
  · unfold vcS at h
    exact wpC_bind (wpC_standAt (wpC_pure ⟨.cont, vars, hp, h, rfl, O, V, .refl ..⟩))
  · cases ok

theorem ss_ite (TO : StOk W T) {c : E} {a b : List S} (Aa : SSs W T n a) (Bb : SSs W T n b) : SS W T n (.ite c a b) := fun {sc lay stx env A vars hp s k} ok nd cv F R O V h => by
  unfold okS at ok; split at ok
  · simp only [Bool.and_eq_true] at ok
    unfold vcS at h
    rw [arm_exec_If]
    refine wpC_bind (wpC_standAt (wpC_bind (wpC_mono ((soundE TO c).st (k := fun t hp' => if t then vcSs T n a vars hp' k else vcSs T n b vars hp' k) ok.1.1 nd F R O V h) (fun v s₁ hx => ?_) fun _ _ x => x)))
    obtain ⟨t, hp₁, h₁, rfl, O₁, S₁⟩ := hx
    cases v with
    | true =>
      rw [if_pos rfl] at h₁ ⊢
      exact wpC_mono (Aa ok.1.2 nd cv F R O₁ (V.at S₁) h₁) (fun _ _ q => q.after S₁.toS) fun _ _ x => x
    | false =>
      rw [if_neg Bool.false_ne_true] at h₁ ⊢
      exact wpC_mono (Bb ok.2 nd cv F R O₁ (V.at S₁) h₁) (fun _ _ q => q.after S₁.toS) fun _ _ x => x
  · cases ok

theorem ss_whil {c : E} {b : List S} : SS W T n (.whil c b) := fun {sc lay stx env A vars hp s k} ok nd cv F R O V h => by
  unfold okS at ok; split at ok
  · simp only [Bool.and_eq_true] at ok
    unfold vcS at h
    rw [arm_exec_While]
    refine wpC_bind (wpC_standAt ?_)
    refine wpC_onRaise_sure (wpC_run (codeC_mono (h _ _ sc lay ok.1 ok.2 nd cv _ s env R.mark O F V) fun r s' hx => ?_))
    obtain ⟨fl, rfl, hx⟩ := hx
    exact hx
  · cases ok

theorem sss_nil : SSs W T n [] := fun {sc lay stxs env A vars hp s k} ok nd cv F R O V h => by
  unfold okSs at ok; split at ok
  · unfold vcSs at h
    exact wpC_pure ⟨.next, vars, hp, h, rfl, O, V, .refl ..⟩
  · cases ok
theorem sss_cons {st : S} {sts : List S} (X : SS W T n st) (Y : SSs W T n sts) : SSs W T n (st :: sts) := fun {sc lay stxs env A vars hp s k} ok nd cv F R O V h => by
  unfold okSs at ok; split at ok
  · simp only [Bool.and_eq_true] at ok
    unfold vcSs at h
    rw [arm_execs_cons]
    refine wpC_bind (wpC_mono (X ok.1 nd cv F R O V h) (fun fl s₁ hx => ?_) fun _ _ x => x)
    obtain ⟨f, vars₁, hp₁, h₁, rf, O₁, V₁, S₁⟩ := hx
    cases f with
    | next =>
      cases rf
      exact wpC_mono (Y ok.2 nd cv F R O₁ V₁ h₁) (fun _ _ q => q.after S₁) fun _ _ x => x
    | brk =>
      cases rf
      exact wpC_pure ⟨.brk, vars₁, hp₁, h₁, rfl, O₁, V₁, S₁⟩
    | cont =>
      cases rf
      exact wpC_pure ⟨.cont, vars₁, hp₁, h₁, rfl, O₁, V₁, S₁⟩
    | ret v =>
      obtain ⟨val, rfl, rv⟩ := rf
      exact wpC_pure ⟨.ret v, vars₁, hp₁, h₁, ⟨val, rfl, rv⟩, O₁, V₁, S₁⟩
  · cases ok
end
end Mine
namespace Mine
open PySem PySem.W PySem.Calls PyProof.Rows

section
variable {W : Wd} {T : St W} {n : Nat} {A : Around} {sc : Scope} {lay : List Str} {env : Env} {vars : Vars} {hp hp₀ hp' : Hp} {s s₀ s' : Shared} {k : KS}

theorem own_live (cv : Cov sc lay) (V : VarsRel sc lay env vars hp s.heap) {b : Addr} (h : Own sc env b) : (s.heap.get? b).isSome = true := by
  rcases h with rfl | ⟨x, hx, hb⟩
  · obtain ⟨_, ⟨o, _, _, ho, _⟩, _⟩ := V.ns
    rw [ho]; rfl
  · obtain ⟨i, hi⟩ := List.mem_iff_getElem?.mp (cv x hx)
    obtain ⟨c, vv, e, _, ⟨o, ho, _⟩, _⟩ := V.cells i x hi (.inl hx)
    rw [hb] at e; cases e
    rw [ho]; rfl

theorem block_nil {R : Result → Shared → Prop} (h : R (.ok .next) s) : codeC W.M A (.block [] env) R s := by
  refine codeC_flat rfl rfl rfl ?_
  show wpC W.M A ((execs [] env).onRaise _ >>= fun f => (pure (PySem.Fin.done f) : Sem PySem.Fin)) _ _ s
  refine wpC_bind ?_
  refine wpC_onRaise ?_
  exact wpC_pure (wpC_pure h)

theorem owned_plain {t : Tg} {tg : Expr} {it v : Value} (ok : okT sc lay t tg = true) (nt : notTuple tg = true) : letOwnedTupleGo tg it v = pure () := by
  cases tg <;> first | rfl | (cases nt; done) | (exfalso; cases t <;> (unfold okT at ok; cases ok; done))

theorem for_go (TO : StOk W T) {t : Tg} {b : List S} (X : SSs W T n b) {tg : Expr} {body : List Stmt} {src : Src} {I : Addr} {Nx : Nat → Hp → Heap → Prop} (o1 : okT sc lay t tg = true) (nt : notTuple tg = true) (o3 : okSs sc lay b body = true) (nd : lay.Nodup) (cv : Cov sc lay) (F : FrOk W sc env) (R : Room n A)
    (It : Itr W A src I Nx) (hI0 : W.h₀.get? I = none) (hIs : s₀.heap.get? I = none) (hIo : ¬ Own sc env I) : ∀ (xs : List V) (i : Nat) (vars : Vars) (hp : Hp) (s : Shared), src.items.drop i = xs → HOk W hp s → VarsRel sc lay env vars hp s.heap → SStep sc env hp₀ s₀ hp s → Nx i hp s.heap → hp I = none →
      forGo src (fun x vars₁ hp₂ q => vcT T n t x vars₁ hp₂ fun vars₂ hp₃ => vcSs T n b vars₂ hp₃ q) xs vars hp k →
      codeC W.M A (.forLoop tg (.ref I) body [] env) (fun r s' => ∃ fl, r = .ok fl ∧ SPost sc lay W env k hp₀ s₀ fl s') s := by
  intro xs
  induction xs with
  | nil =>
    intro i vars hp s hd O V S nx hI h
    refine codeC_flat rfl rfl rfl ?_
    show wpC W.M A ((forTurn tg (.ref I) body [] env).onRaise (fun x => do noteFrame x env; theTreesLotGoes x)) _ _ s
    refine wpC_onRaise (wpC_mono (E := fun _ _ => False) (Q := fun fin s' => match fin with | PySem.Fin.done f => ∃ fl, Except.ok (ε := Value) f = .ok fl ∧ SPost sc lay W env k hp₀ s₀ fl s' | PySem.Fin.again c' => c'.quiet = true ∧ codeC W.M A c' (fun r s' => ∃ fl, r = .ok fl ∧ SPost sc lay W env k hp₀ s₀ fl s') s') ?_ (fun _ _ x => x) fun _ _ (x : False) => x.elim)
    unfold forGo at h
    simp only [forTurn]
    refine wpC_bind (wpC_standAt (wpC_bind (wpC_onRaise_sure (wpC_of (It.next O h.1 nx (fun x hx => ?_) fun _ h' t' m => ?_)))))
    · rw [List.drop_eq_nil_iff] at hd
      rw [List.getElem?_eq_none hd] at hx; cases hx
    · refine wpC_pure ⟨rfl, block_nil ⟨_, rfl, spost_next h.2 (O.moved hI hI0 m t') (V.moved m) (S.moved hIs m t')⟩⟩
  | cons y ys ih =>
    intro i vars hp s hd O V S nx hI h
    refine codeC_flat rfl rfl rfl ?_
    show wpC W.M A ((forTurn tg (.ref I) body [] env).onRaise (fun x => do noteFrame x env; theTreesLotGoes x)) _ _ s
    refine wpC_onRaise (wpC_mono (E := fun _ _ => False) (Q := fun fin s' => match fin with | PySem.Fin.done f => ∃ fl, Except.ok (ε := Value) f = .ok fl ∧ SPost sc lay W env k hp₀ s₀ fl s' | PySem.Fin.again c' => c'.quiet = true ∧ codeC W.M A c' (fun r s' => ∃ fl, r = .ok fl ∧ SPost sc lay W env k hp₀ s₀ fl s') s') ?_ (fun _ _ x => x) fun _ _ (x : False) => x.elim)
    unfold forGo at h
    obtain ⟨hxi, hdr⟩ := drop_cons hd
    simp only [forTurn]
    refine wpC_bind (wpC_standAt (wpC_bind (wpC_onRaise_sure (wpC_of (It.next O h.1 nx (fun x hx v h' t' m nx' rv => ?_) fun hl => ?_)))))
    · rw [hxi] at hx; cases hx
      have O₁ := O.moved hI hI0 m t'
      have V₁ := V.moved m
      have S₁ := S.moved hIs m t'
      refine wpC_bind (wpC_of_eq (owned_plain o1 nt) ?_)
      refine wpC_bind (wpC_mono (soundT TO t o1 nd F R O₁ V₁ rv h.2) (fun _ s₂ hx => ?_) fun _ _ x => x)
      obtain ⟨vars₂, hp₂, h₂, O₂, V₂, S₂⟩ := hx
      refine wpC_bind (wpC_mono (X o3 nd cv F R O₂ V₂ h₂) (fun fl s₃ hx => ?_) fun _ _ x => x)
      obtain ⟨f, vars₃, hp₃, h₃, rf, O₃, V₃, S₃⟩ := hx
      have S₂₃ := S₂.trans S₃
      have again' : forGo src (fun x vars₁ hp₂ q => vcT T n t x vars₁ hp₂ fun vars₂ hp₃ => vcSs T n b vars₂ hp₃ q) ys vars₃ hp₃ k → codeC W.M A (.forLoop tg (.ref I) body [] env) (fun r s' => ∃ fl, r = .ok fl ∧ SPost sc lay W env k hp₀ s₀ fl s') s₃ := fun hg => by
        obtain ⟨c, d, vs, sl, ef⟩ := It.fld nx'
        exact ih (i + 1) vars₃ hp₃ s₃ hdr O₃ V₃ (S₁.trans S₂₃) (It.frame nx' (fun b o d e q => ⟨S₂₃.rows b o d e q, S₂₃.out b o e q⟩) (fun o e => S₂₃.keep _ _ e hI hIo)) (S₂₃.out _ _ ef hI) hg
      cases f with
      | next => cases rf; exact wpC_pure ⟨rfl, again' h₃⟩
      | cont => cases rf; exact wpC_pure ⟨rfl, again' h₃⟩
      | brk => cases rf; exact wpC_pure ⟨_, rfl, .next, vars₃, hp₃, h₃, rfl, O₃, V₃, S₁.trans S₂₃⟩
      | ret v =>
        obtain ⟨val, rfl, rv'⟩ := rf
        exact wpC_pure ⟨_, rfl, .ret v, vars₃, hp₃, h₃, ⟨val, rfl, rv'⟩, O₃, V₃, S₁.trans S₂₃⟩
    · have := (List.getElem?_eq_some_iff.mp hxi).1
      omega

theorem ss_for (TO : StOk W T) {t : Tg} {ik : ItK} {src : List E} {b : List S} (X : SSs W T n b) : SS W T n (.for_ t ik src b) := fun {sc lay stx env A vars hp s k} ok nd cv F R O V h => by
  unfold okS at ok; split at ok
  · rename_i tg it body pos
    simp only [Bool.and_eq_true] at ok
    obtain ⟨⟨⟨o0, o1⟩, o2⟩, o3⟩ := ok
    obtain ⟨as, hi, oks⟩ := itArgs_some o2
    unfold vcS at h
    rw [arm_exec_For]
    refine wpC_bind (wpC_standAt (wpC_bind (wpC_mono (src_sound TO (fun e he => (soundE TO e).se) hi oks nd F R O V h) (fun v s₁ h₁ => ?_) fun _ _ x => x)))
    refine wpC_bind (wpC_of_eq (fold_plain hi) (wpC_bind (wpC_standAt (wpC_bind (wpC_holding (wpC_mono h₁ (fun iv s₂ hx => ?_) fun _ _ x => x))))))
    obtain ⟨sr, hp₂, h₂, ⟨I, Nx, rfl, hI, hI0, hIs, It, nx⟩, O₂, S₂⟩ := hx
    have hIo : ¬ Own sc env I := fun w => by
      have := own_live cv V w
      rw [hIs] at this; cases this
    refine wpC_onRaise_sure (wpC_run (codeC_mono (for_go TO X o1 o0 o3 nd cv F R.mark (It _ R.mark.handled) hI0 hIs hIo sr.items 0 vars hp₂ s₂ rfl O₂ (V.at S₂) S₂.toS nx hI h₂) fun r s' hx => ?_))
    obtain ⟨fl, rfl, hx⟩ := hx
    exact hx
  · cases ok

mutual
theorem soundS (TO : StOk W T) : ∀ st : S, SS W T n st
  | .expr _ => ss_expr TO
  | .asg _ _ => ss_asg TO
  | .aug _ _ _ => ss_aug TO
  | .ite _ a b => ss_ite TO (soundSs TO a) (soundSs TO b)
  | .whil _ _ => ss_whil
  | .for_ _ _ _ b => ss_for TO (soundSs TO b)
  | .ret _ => ss_ret TO
  | .ret0 => ss_ret0
  | .pass => ss_pass
  | .brk => ss_brk
  | .cont => ss_cont
  | .bad => fun _ _ _ _ _ _ _ h => by unfold vcS at h; exact h.elim
theorem soundSs (TO : StOk W T) : ∀ sts : List S, SSs W T n sts
  | [] => sss_nil
  | st :: sts => sss_cons (soundS TO st) (soundSs TO sts)
end

/-- a while, unfolded once -/
theorem whileP_of (TO : StOk W T) {c : E} {b : List S} (h : vcE T n c vars hp fun v hp₁ => ∃ t, truV hp₁ v = some t ∧ if t then vcSs T n b vars hp₁ (fun f vars' hp' => match f with
      | .next => WhileP W n c b vars' hp' k
      | .cont => WhileP W n c b vars' hp' k
      | .brk => k .next vars' hp'
      | .ret v => k (.ret v) vars' hp') else k .next vars hp₁) : WhileP W n c b vars hp k := by
  intro test body sc lay ok1 ok2 nd cv A s env R O F V
  refine codeC_flat rfl rfl rfl ?_
  show wpC W.M A ((whileTurn test body [] env).onRaise (fun x => do noteFrame x env; theTreesLotGoes x)) _ _ s
  refine wpC_onRaise (wpC_mono (E := fun _ _ => False) (Q := fun fin s' => match fin with | PySem.Fin.done f => ∃ fl, Except.ok (ε := Value) f = .ok fl ∧ SPost sc lay W env k hp s fl s' | PySem.Fin.again c' => c'.quiet = true ∧ codeC W.M A c' (fun r s' => ∃ fl, r = .ok fl ∧ SPost sc lay W env k hp s fl s') s') ?_ (fun _ _ x => x) fun _ _ (x : False) => x.elim)
  simp only [whileTurn]
  refine wpC_bind (wpC_mono ((soundE TO c).st (k := fun t hp' => if t then vcSs T n b vars hp' _ else k .next vars hp') ok1 nd F R O V h) (fun v s₁ hx => ?_) fun _ _ x => x)
  obtain ⟨t, hp₁, h₁, rfl, O₁, S₁⟩ := hx
  cases v with
  | false =>
    rw [if_neg Bool.false_ne_true] at h₁
    simp only [Bool.false_eq_true, if_false]
    exact wpC_bind (wpC_pure (wpC_pure ⟨_, rfl, .next, vars, hp₁, h₁, rfl, O₁, V.at S₁, S₁.toS⟩))
  | true =>
    rw [if_pos rfl] at h₁
    simp only [if_true]
    refine wpC_bind (wpC_mono (soundSs TO b ok2 nd cv F R O₁ (V.at S₁) h₁) (fun fl s₂ hx => ?_) fun _ _ x => x)
    obtain ⟨f, vars₂, hp₂, h₂, rf, O₂, V₂, S₂⟩ := hx
    have S := S₁.toS.trans S₂
    have again' : WhileP W n c b vars₂ hp₂ k → codeC W.M A (.whileLoop test body [] env) (fun r s' => ∃ fl, r = .ok fl ∧ SPost sc lay W env k hp s fl s') s₂ := fun hg =>
      codeC_mono (hg _ _ sc lay ok1 ok2 nd cv A s₂ env R O₂ F V₂) fun r s' ⟨fl, e, q⟩ => ⟨fl, e, q.after S⟩
    cases f with
    | next => cases rf; exact wpC_pure ⟨rfl, again' h₂⟩
    | cont => cases rf; exact wpC_pure ⟨rfl, again' h₂⟩
    | brk => cases rf; exact wpC_pure ⟨_, rfl, .next, vars₂, hp₂, h₂, rfl, O₂, V₂, S⟩
    | ret v =>
      obtain ⟨val, rfl, rv'⟩ := rf
      exact wpC_pure ⟨_, rfl, .ret v, vars₂, hp₂, h₂, ⟨val, rfl, rv'⟩, O₂, V₂, S⟩
end
end Mine
namespace Mine
open PySem PySem.W PySem.Calls PyProof.Rows

/-! a def's entry -/
noncomputable def noFree (sc : Scope) : Bool := sc.names.all fun p => p.2 != .free
noncomputable def covB (sc : Scope) (lay : List Str) : Bool := sc.names.all fun p => p.2 != .cell || lay.contains p.1
noncomputable def ownB (sc : Scope) (params : List Str) : Bool := params.all fun x => isOwn sc x
theorem cov_of {sc : Scope} {lay : List Str} (h : covB sc lay = true) : Cov sc lay := fun x hx => by
  unfold covB at h
  rw [List.all_eq_true] at h
  have := h _ (PySem.mem_of_lookup hx)
  simpa using this

/-- what is held of a def against the fragment: fd's text, its block -/
structure DefOk (K : Frag) (a : Addr) (fd : FuncData) (body : List Stmt) : Prop where
  look : ∃ oc od sl, K.lookup a = some ⟨oc, od, .func fd, sl⟩
  co : fd.scope.isCoroutine = false
  gen : fd.scope.isGenerator = false
  kind : fd.scope.kind = .function
  body : fd.body = .stmts body
  code : codeIn K fd.code fd.qualname = true
  globals : fd.globals = mainGlobals
  builtins : fd.builtins = builtinsNs
  closure : fd.closure = []
  free : noFree fd.scope = true

/-- the arguments of a call, bound to the parameters -/
noncomputable def BindV (W : Wd) (fd : FuncData) (args : List V) (kwn : List Str) (kws : List V) (params : List Str) (vs : List V) : Prop :=
  ∀ (A : Around) (hp : Hp) (s : Shared) (vals : List Value) (kw : List (Str × Value)), HOk W hp s → VRels hp s.heap args vals → KwRel hp s.heap kwn kws kw →
    wpAny W.M A (bindArgs fd ⟨vals, kw⟩) (fun binds s' => binds.map (·.1) = params ∧ VRels hp s'.heap vs (binds.map (·.2)) ∧ HOk W hp s' ∧ HStep hp s hp s') (fun _ _ => False) s

section
variable {W : Wd} {T : St W} {n : Nat} {A : Around} {hp hp' : Hp} {s s' : Shared}

theorem bindL_keep {kindOf : Str → Option NameKind} {x : Str} : ∀ {binds : List (Str × Value)} {m : Str → Option Value}, x ∉ binds.map (·.1) → bindL kindOf binds m x = m x
  | [], _, _ => rfl
  | (y, v) :: r, m, h => by
    unfold bindL
    simp only [List.map_cons, List.mem_cons, not_or] at h
    rw [bindL_keep h.2]
    split
    · exact if_neg h.1
    · rfl
theorem bindL_get {kindOf : Str → Option NameKind} {x : Str} {v : Value} (hk : kindOf x = some .local) : ∀ {binds : List (Str × Value)} {m : Str → Option Value}, (binds.map (·.1)).Nodup → (x, v) ∈ binds → bindL kindOf binds m x = some v
  | (y, w) :: r, m, nd, h => by
    unfold bindL
    rw [List.map_cons, List.nodup_cons] at nd
    rcases List.mem_cons.mp h with e | h
    · cases e
      rw [bindL_keep nd.1, if_pos hk, if_pos rfl]
    · exact bindL_get hk nd.2 h
theorem bindC_keep {kindOf : Str → Option NameKind} {x : Str} : ∀ {binds : List (Str × Value)} {m : Str → Option Value}, x ∉ binds.map (·.1) → bindC kindOf binds m x = m x
  | [], _, _ => rfl
  | (y, v) :: r, m, h => by
    unfold bindC
    simp only [List.map_cons, List.mem_cons, not_or] at h
    rw [bindC_keep h.2]
    split
    · rfl
    · exact if_neg h.1
theorem bindC_get {kindOf : Str → Option NameKind} {x : Str} {v : Value} (hk : kindOf x ≠ some .local) : ∀ {binds : List (Str × Value)} {m : Str → Option Value}, (binds.map (·.1)).Nodup → (x, v) ∈ binds → bindC kindOf binds m x = some v
  | (y, w) :: r, m, nd, h => by
    unfold bindC
    rw [List.map_cons, List.nodup_cons] at nd
    rcases List.mem_cons.mp h with e | h
    · cases e
      rw [bindC_keep nd.1, if_neg hk, if_pos rfl]
    · exact bindC_get hk nd.2 h

noncomputable def vars₀ (lay : List Str) (vs : List V) : Vars := vs.map some ++ List.replicate (lay.length - vs.length) none
theorem vars₀_get {lay : List Str} {vs : List V} {i : Nat} {v : V} (h : (vars₀ lay vs)[i]? = some (some v)) : vs[i]? = some v := by
  unfold vars₀ at h
  rcases Nat.lt_or_ge i vs.length with hi | hi
  · rw [List.getElem?_append_left (by simpa using hi), List.getElem?_map] at h
    cases e : vs[i]? with
    | none => rw [e] at h; cases h
    | some w => rw [e] at h; cases h; rfl
  · rw [List.getElem?_append_right (by simpa using hi), List.getElem?_replicate] at h
    split at h <;> cases h

theorem Room.under_func {A : Around} {env : Env} (R : Room (n + 1) A) : Room n (A.deeper env) :=
  ⟨by have := R.depth; show A.depth + 1 + 3 * n ≤ 900; omega, by have := R.units; show A.units + 3 + 60 * n + 60 ≤ 9900; omega, R.guards, R.handled⟩

theorem codeC_func {body : List Stmt} {env : Env} {R : Result → Shared → Prop}
    (h : wpC W.M (A.deeper env) (execs body env) (fun f s' => R (.ok (.ret (match f with | .ret v => v | _ => .none))) s') (fun _ _ => False) s) : codeC W.M A (.func body env) R s := by
  refine codeC_of_tree rfl ?_
  show wpC _ (A.deeper env) (do point; match ← (execs body env).onRaise (leaving env) with | .ret v => ret v | _ => ret .none) _ _ s
  refine wpC_bind (wpC_of (wpAny_point (wpC_bind (wpC_onRaise (wpC_mono h (fun f s' h' => ?_) fun _ _ (x : False) => x.elim)))))
  cases f <;> exact wpC_pure h'

theorem codeC_call_function {a : Addr} {args : Args} {o : Obj} {fd : FuncData} {body : List Stmt} {R : Result → Shared → Prop} (hroom : A.depth < recursionLimit)
    (ho : s.heap.get? a = some o)
    (hd' : o.data = .func fd) (hco : fd.scope.isCoroutine = false) (hgen : fd.scope.isGenerator = false) (hbody : fd.body = .stmts body) (hcd : s.heap.CodeRec fd.code fd.qualname)
    (h : wpC W.M A.in1 (bindArgs fd args) (fun binds s₁ =>
      wpC W.M A.in1 (newFunctionEnv fd.scope fd.globals fd.closure binds (fd.qualname ++ ".<locals>.") (some a) fd.code none fd.builtins)
        (fun env s₂ => s₂.heap.NoLimit ∧ codeC W.M A (.func body env) R s₂) (fun e s' => R (.error e) s') s₁) (fun e s' => R (.error e) s') s) :
    codeC W.M A (.call (.ref a) args) R s := by
  refine codeC_of_tree rfl ?_
  show wpC _ A.in1 (callAny (.ref a) args) _ _ s
  simp only [callAny]
  refine wpC_bind (wpC_of (wpAny_load ho ?_))
  obtain ⟨c, oc, vs, tq, hc, hoc, hdc, hq⟩ := hcd
  simp only [hd', callFunction, hco, hgen, hbody, hc]
  rw [hc] at h
  refine wpC_bind (wpC_of (wpAny_field hoc hdc hq (wpC_bind (wpC_pure ?_))))
  exact wpC_bind (wpC_mono h (fun binds s₁ h₁ => wpC_bind (wpC_mono h₁ (fun env s₂ h₂ => wpC_bind (wpC_of (wpAny_enterFrame h₂.1 hroom
    (wpC_pure (And.intro rfl h₂.2))))) fun _ _ h' => h')) fun _ _ h' => h')

theorem lookup_noFree {sc : Scope} (h : noFree sc = true) (x : Str) : sc.names.lookup x ≠ some .free := fun e => by
  unfold noFree at h
  rw [List.all_eq_true] at h
  have := h _ (PySem.mem_of_lookup e)
  cases this

/-- a def, by its body's conditions -/
theorem callP_of (TO : StOk W T) {a : Addr} {fd : FuncData} {body : List Stmt} {lay params : List Str} {sts : List S} {args vs kws : List V} {kwn : List Str} {k : K1} (D : DefOk W.K a fd body)
    (B : BindV W fd args kwn kws params vs) (hlay : params.isPrefixOf lay = true) (hown : ownB fd.scope params = true) (nd : lay.Nodup) (cv : covB fd.scope lay = true) (ok : okSs fd.scope lay sts body = true)
    (h : vcSs T n sts (vars₀ lay vs) hp fun f _ hp' => match f with | .ret v => k v hp' | .next => k .none hp' | _ => False) : CallP W (n + 1) a args kwn kws hp k := by
  intro A s vals kw R O ra rk
  unfold CodeV
  obtain ⟨oc, od, sl, hlook⟩ := D.look
  have hpre : ∃ rest, lay = params ++ rest := by
    rw [List.isPrefixOf_iff_prefix] at hlay
    obtain ⟨t, e⟩ := hlay
    exact ⟨t, e.symm⟩
  obtain ⟨rest, hrest⟩ := hpre
  have ndp : params.Nodup := by rw [hrest] at nd; exact (List.nodup_append.mp nd).1
  refine codeC_call_function (by have := R.depth; have : recursionLimit = 1000 := rfl; omega) (O.inK _ _ hlook) rfl D.co D.gen D.body (codeRec_of O.inK D.code) ?_
  refine wpC_of (wpAny_mono (B A.in1 hp s vals kw O ra rk) (fun binds s₁ hx => ?_) fun _ _ x => x.elim)
  obtain ⟨hb, rb, O₁, S₁⟩ := hx
  rw [D.closure]
  have kinds : ∀ x ∈ binds, fd.scope.names.lookup x.1 = some .local ∨ (fd.scope.names.lookup x.1 = some .cell ∧ ((cellsFrom (s₁.heap.objs.size + 1) fd.scope.names []).lookup x.1).isSome = true) := fun x hx => by
    have : x.1 ∈ params := by rw [← hb]; exact List.mem_map_of_mem hx
    unfold ownB at hown
    rw [List.all_eq_true] at hown
    rcases isOwn_get (hown _ this) with e | e
    · exact .inl e
    · exact .inr ⟨e, cellsFrom_some _ _ _ (.inl e)⟩
  refine wpC_of (wpAny_newFunctionEnv_cells D.kind kinds fun env he s₂ x => ?_)
  have fresh : ∀ b, s₁.heap.objs.size ≤ b → s₁.heap.get? b = none := fun b hb => by
    cases e : s₁.heap.get? b with
    | none => rfl
    | some o => exact absurd (Heap.lt_size e) (Nat.not_lt.mpr hb)
  have hpn : ∀ b, s₁.heap.objs.size ≤ b → hp b = none := fun b hb => by
    cases e : hp b with
    | none => rfl
    | some o =>
      have := ORel.live (O₁.objs _ _ e)
      rw [fresh b hb] at this; cases this
  obtain ⟨h₂, tk, rfl⟩ := x.toInCall.same
  have keep := x.toInCall.keep
  dsimp only at keep
  have G := O₁.grown keep tk
  have hL : s₁.heap.objs.size ≤ env.locals := x.toInCall.fresh
  have ko : ∀ y, env.kindOf y = fd.scope.names.lookup y := fun y => by rw [he]; rfl
  have cmem : ∀ y c, env.cells.lookup y = some c → env.locals < c := fun y c hc => x.above y c (PySem.mem_of_lookup hc)
  have F : FrOk W fd.scope env := by
    refine ⟨by rw [he]; exact D.kind, fun y hy => (ko y).trans hy, fun y hy => (ko y).trans hy, fun y hy => .inl ((ko y).trans hy), fun y hy => (ko y).trans hy, by rw [he]; exact D.globals, by rw [he]; exact D.builtins, fun y z c hy hz => ?_, O₁.h0_none (fresh _ hL), fun y c _ hc => O₁.h0_none (fresh _ (Nat.le_trans hL (Nat.le_of_lt (cmem y c hc))))⟩
    exact name_of_addr x.apart (PySem.mem_of_lookup hy) (PySem.mem_of_lookup hz)
  have rb₂ := rb.at G.2
  have at_bind : ∀ (i : Nat) (y : Str) (v : V), lay[i]? = some y → (vars₀ lay vs)[i]? = some (some v) → ∃ val, (y, val) ∈ binds ∧ VRel hp h₂ v val := fun i y v hi hv => by
    have hv := vars₀_get hv
    obtain ⟨val, e, r⟩ := rb₂.get hv
    have hlen : i < params.length := by
      rw [← hb, List.length_map]
      have := (List.getElem?_eq_some_iff.mp e).1
      simpa using this
    rw [hrest, List.getElem?_append_left hlen, ← hb, List.getElem?_map] at hi
    rw [List.getElem?_map] at e
    cases q : binds[i]? with
    | none => rw [q] at hi; cases hi
    | some p =>
      rw [q] at hi e
      obtain ⟨y', val'⟩ := p
      cases hi; cases e
      exact ⟨_, List.mem_of_getElem? q, r⟩
  have ndb : (binds.map (·.1)).Nodup := by rw [hb]; exact ndp
  have V : VarsRel fd.scope lay env (vars₀ lay vs) hp h₂ := by
    refine ⟨hpn _ hL, ⟨_, x.toInCall.ns, fun i y v hi hl hv => ?_⟩, fun i y hi hl => ?_⟩
    · obtain ⟨val, hm, r⟩ := at_bind i y v hi hv
      exact ⟨val, bindL_get ((ko y).trans hl) ndb hm, r⟩
    · rcases hl with hl | hl
      · obtain ⟨c, hc⟩ := Option.isSome_iff_exists.mp (cellsFrom_some (x := y) fd.scope.names (s₁.heap.objs.size + 1) [] (.inl hl))
        have hc' : env.cells.lookup y = some c := by rw [he]; exact hc
        refine ⟨c, _, hc', hpn _ (Nat.le_trans hL (Nat.le_of_lt (cmem y c hc'))), x.cell y c hc', fun v hv => ?_⟩
        obtain ⟨val, hm, r⟩ := at_bind i y v hi hv
        exact ⟨val, bindC_get (by rw [ko, hl]; nofun) ndb hm, r⟩
      · exact absurd hl (lookup_noFree D.free y)
  have own : ∀ b, Own fd.scope env b → s₁.heap.get? b = none := fun b hb => by
    rcases hb with rfl | ⟨y, _, hc⟩
    · exact fresh _ hL
    · exact fresh _ (Nat.le_trans hL (Nat.le_of_lt (cmem y b hc)))
  refine ⟨G.1.nolim, codeC_func ?_⟩
  refine wpC_mono (soundSs TO sts ok nd (cov_of cv) F R.under_func G.1 V h) (fun fl s₃ hx => ?_) fun _ _ x => x
  obtain ⟨f, vars', hp', hk, rf, O', V', S'⟩ := hx
  have Sf : HStep hp s hp' s₃ := S₁.trans ((G.2.toS.trans S').toH own)
  cases f with
  | next => cases rf; exact ⟨_, rfl, .none, hp', hk, rfl, O', Sf⟩
  | ret v => obtain ⟨val, rfl, rv⟩ := rf; exact ⟨_, rfl, v, hp', hk, rv, O', Sf⟩
  | brk => exact hk.elim
  | cont => exact hk.elim

/-- the binding by a look at the fragment alone -/
theorem bindV_of {fd : FuncData} {args kws vs : List V} {kwn params : List Str} (h : ∀ (hp : Hp) (s : Shared) vals kw, HOk W hp s → VRels hp s.heap args vals → KwRel hp s.heap kwn kws kw → ∃ binds, BindsTo s fd ⟨vals, kw⟩ binds ∧ binds.map (·.1) = params ∧ VRels hp s.heap vs (binds.map (·.2))) :
    BindV W fd args kwn kws params vs := fun A hp s vals kw O ra rk => by
  obtain ⟨binds, hb, h1, h2⟩ := h hp s vals kw O ra rk
  exact hb _ _ _ _ ⟨h1, h2, O, .refl ..⟩
end
end Mine
namespace Mine
open PySem PySem.W PySem.Calls PyProof.Rows

theorem tc_ref_eq (C : Addr) (rest : List Value) (kw : List (Str × Value)) : Builtin.«type.__call__» ⟨.ref C :: rest, kw⟩ = (do
    if (← mroOf (.ref C)).isEmpty then rule "type.call.half-made"; raiseError "TypeError" s!"cannot create '{← typeName (.ref C)}' instances"
    let new ← match ← Bind.madeBy (.ref C) with
      | some id => pure (.builtin id)
      | none => getAttr (.ref C) "__new__"
    let obj ← holding [new] (call new (.ref C :: rest) kw)
    if !(← isInstance obj (.ref C)) then rule "type.call.new-gave-other-type"; return ← ret obj
    match ← holding [obj] (callSpecial? obj "__init__" rest kw) with
    | none => ret obj
    | some r =>
      if r != .none then
        rule "type.call.init-returned-value"
        raiseError "TypeError" s!"__init__() should return None, not '{← typeNameOf r}'"
      ret obj) := by rfl

section
variable {W : Wd} {T : St W} {n : Nat} {A : Around} {hp hp' : Hp} {s s' : Shared}

theorem codeC_call_builtin_at {id : String} {args : Args} {b : Builtin} {R : Result → Shared → Prop} (hd : decId id = false) (hq : (Code.builtin id args).quiet = true) (hb : entryFor table id = some b)
    (h : wpAny W.M A.in1 (checkBuiltinCall id args) (fun _ s₁ => wpC W.M (A.under (.builtin id args)) (b args)
      (fun fin s' => match fin with | .done f => R (.ok f) s' | .again c' => c'.quiet = true ∧ codeC W.M A c' R s') (fun e s' => R (.error e) s') s₁)
      (fun e s' => R (.error e) s') s) : codeC W.M A (.call (.builtin id) args) R s := by
  refine codeC_of_tree rfl ?_
  show wpC _ A.in1 (do checkBuiltinCall id args; again (.builtin id args)) _ _ s
  exact wpC_bind (wpC_of (wpAny_mono h (fun _ s₁ h₁ => wpC_pure (And.intro hq (codeC_builtin hd hb h₁))) fun _ _ h' => h'))

noncomputable def codeTC (C : Addr) (rest : List Value) (kw : List (Str × Value)) : Code := .builtin "type.__call__" ⟨.ref C :: rest, kw⟩

theorem makeC {C fI : Addr} {h : Heap} {g : Array GenState} {d : Drawn} {t : Nat} {os : OsState} {rest : List Value} {kw : List (Str × Value)} {R : Result → Shared → Prop} (X : W.K.In h) (hm : makesIn W.K C = true)
    (hi : findIn W.K (.ref C) "__init__" = some (some (.ref fI))) (hf : typeIn W.K (.ref fI) = some (.type "function"))
    (hq : codeC W.M (A.under (codeTC C rest kw)) (.call (.ref fI) ⟨.ref (h.objs.size + 1) :: rest, kw⟩) (InitBack (h.objs.size + 1) R) ⟨(h.push emptyDict).push (instObj C h.objs.size), g, d, t, os⟩) :
    codeC W.M A (.call (.ref C) ⟨rest, kw⟩) R ⟨h, g, d, t, os⟩ := by
  have Y := makes_of (M := W.M) X hm
  have Y' := Y
  obtain ⟨⟨oc, od, cd, sl, hC, e1, e2, e4⟩, made, base, self, top, call, typ⟩ := Y
  have hi' : Looks W.M h (typeLookup (.ref C) "__init__") (some (.ref fI)) := looks_findIn X hi
  refine codeC_of_tree rfl (wpC_of ?_)
  show wpAny _ _ (callAny (.ref C) _) _ _ _
  refine nd_load hC ?_
  show wpAny _ _ (callAny.viaDunder (.ref C) _) _ _ _
  unfold callAny.viaDunder
  refine wpAny_bind (call.at ?_)
  dsimp only
  rw [tc_bind]
  refine wpAny_bind (wpAny_pure (wpAny_bind (wpAny_pure ?_)))
  refine wpAny_pure (a := PySem.Fin.again (.call (.builtin "type.__call__") ⟨.ref C :: rest, kw⟩)) (And.intro rfl ?_)
  refine codeC_call_builtin_at (by decide +kernel) (Code.quiet_builtin _ (by decide +kernel)) entry_typeCall (check_slot tc_kind tc_split typ (tc_args _ _ _) ?_)
  rw [tc_ref_eq]
  have hmro : Looks W.M h (mroOf (.ref C)) cd.mro := ((Looks.ld (part := none) hC).andThen .now).andThen .now
  refine wpC_bind (wpC_of (hmro.at ?_))
  rw [e4]
  simp only [Bool.false_eq_true, if_false]
  refine wpC_bind (wpC_of (made.at ?_))
  dsimp only
  refine wpC_bind (wpC_pure ?_)
  refine wpC_bind (wpC_holding (wpC_call (codeC_of (new_K Y' hi' (.inl rfl) ?_))))
  have k : ∀ b o, h.get? b = some o → ((h.push emptyDict).push (instObj C h.objs.size)).get? b = some o := fun b o e => Heap.get?_push_of_some _ (Heap.get?_push_of_some _ e)
  have hx : ((h.push emptyDict).push (instObj C h.objs.size)).get? (h.objs.size + 1) = some (instObj C h.objs.size) := by heap_get
  have t1 : Looks W.M ((h.push emptyDict).push (instObj C h.objs.size)) (typeOf (.ref (h.objs.size + 1))) (.ref C) := (Looks.ld hx).andThen .now
  have s1 := self.keeps k
  have i1 := hi'.keeps k
  have b1 : Looks W.M ((h.push emptyDict).push (instObj C h.objs.size)) (bindSpecial (.ref fI) (.ref (h.objs.size + 1))) (.ref fI, [.ref (h.objs.size + 1)]) := (bind_fn (M := W.M) X (.ref (h.objs.size + 1)) hf).keeps k
  have is1 : Looks W.M ((h.push emptyDict).push (instObj C h.objs.size)) (isInstance (.ref (h.objs.size + 1)) (.ref C)) true := t1.andThen s1
  have sp1 : Looks W.M ((h.push emptyDict).push (instObj C h.objs.size)) (specialOf (.ref (h.objs.size + 1)) "__init__") (some (.ref fI)) := t1.andThen i1
  refine wpC_bind (wpC_of (is1.at ?_))
  simp only [Bool.not_true, Bool.false_eq_true, if_false]
  refine wpC_bind (wpC_holding ?_)
  unfold callSpecial?
  refine wpC_bind (wpC_of (sp1.at ?_))
  dsimp only
  refine wpC_holding (wpC_bind (wpC_of (b1.at ?_)))
  dsimp only
  refine wpC_bind (wpC_call (codeC_mono hq fun r s' z => ?_))
  rcases r with e | (v | _ | _ | _) <;> first | exact z | exact z.elim | skip
  obtain ⟨rfl, z⟩ := z
  exact wpC_pure (wpC_pure z)

/-- what is held of a class whose __init__ is a def -/
structure ClassOk (K : Frag) (C fI : Addr) : Prop where
  makes : makesIn K C = true
  init : findIn K (.ref C) "__init__" = some (some (.ref fI))
  fn : typeIn K (.ref fI) = some (.type "function")

theorem Room.under_make {A : Around} {C : Addr} {rest : List Value} {kw : List (Str × Value)} (R : Room (n + 1) A) : Room n (A.under (codeTC C rest kw)) := by
  have hw : (codeTC C rest kw).weight = 1 := by
    unfold codeTC Code.weight
    have h1 : (Code.builtin "type.__call__" ⟨.ref C :: rest, kw⟩).frames = 0 := rfl
    have h2 : (Code.builtin "type.__call__" ⟨.ref C :: rest, kw⟩).isCreation = true := rfl
    have h3 : (Code.builtin "type.__call__" ⟨.ref C :: rest, kw⟩).isGuard = false := by show guardIds.contains "type.__call__" = false; decide +kernel
    have h4 : (Code.builtin "type.__call__" ⟨.ref C :: rest, kw⟩).isCaller = false := rfl
    rw [h1, h2, h3, h4]; rfl
  have hg : (codeTC C rest kw).guards = [] := by
    have h3 : (Code.builtin "type.__call__" ⟨.ref C :: rest, kw⟩).isGuard = false := by show guardIds.contains "type.__call__" = false; decide +kernel
    unfold codeTC Code.guards
    rw [h3]; rfl
  have hu : (codeTC C rest kw).cUnits = 1 := rfl
  refine ⟨?_, ?_, ?_, R.handled⟩
  · have := R.depth
    show A.depth + (codeTC C rest kw).weight + 3 * n ≤ 900
    rw [hw]; omega
  · have := R.units
    show A.units + (codeTC C rest kw).cUnits + 60 * n + 60 ≤ 9900
    rw [hu]; omega
  · show pushGuards (codeTC C rest kw).guards A.guards = some []
    rw [hg, R.guards]; rfl

theorem callP_class {C fI : Addr} {args kws : List V} {kwn : List Str} {k : K1} (CO : ClassOk W.K C fI)
    (h : ∀ x dx, hp x = none → hp dx = none → dx ≠ x → CallP W n fI (.ref x :: args) kwn kws ((hp.upd dx .edict).upd x (.inst C fun _ => none)) (fun v hp' => v = .none ∧ k (.ref x) hp')) : CallP W (n + 1) C args kwn kws hp k := by
  intro A s vals kw R O ra rk
  have A1 := O.alloc .edict emptyDict s.toks (Heap.get?_push_size _ rfl)
  have hsz : ({ s with heap := s.heap.push emptyDict } : Shared).heap.objs.size = s.heap.objs.size + 1 := Heap.size_push ..
  have A2 := A1.1.alloc (.inst C fun _ => none) (instObj C s.heap.objs.size) s.toks (by
    refine ⟨s.heap.objs.size, #[], Heap.get?_push_size _ rfl, ?_, fun i v hv => by cases hv⟩
    rw [upd_ne (by show s.heap.objs.size ≠ (s.heap.push emptyDict).objs.size; rw [Heap.size_push]; exact Nat.ne_of_lt (Nat.lt_succ_self _)), upd_self])
  have hx : hp (s.heap.objs.size + 1) = none := by
    have := A1.1.size_none
    dsimp only at this
    rw [Heap.size_push, upd_ne (Nat.succ_ne_self _)] at this
    exact this
  have c := h (s.heap.objs.size + 1) s.heap.objs.size hx O.size_none (Nat.ne_of_lt (Nat.lt_succ_self _))
  have S := A1.2.trans A2.2
  have O₂ := A2.1
  dsimp only at O₂ S
  rw [Heap.size_push] at O₂ S
  unfold CodeV
  obtain ⟨hh, g, d, t, os⟩ := s
  refine makeC O.inK CO.makes CO.init CO.fn (codeC_mono (c _ _ (.ref (hh.objs.size + 1) :: vals) kw R.under_make O₂ ⟨_, _, rfl, rfl, ra.at S⟩ ⟨rk.1, rk.2.at S⟩) fun r s' hx => ?_)
  obtain ⟨v, rfl, b, hp', ⟨rfl, hk⟩, rv, O', S'⟩ := hx
  cases rv
  exact ⟨rfl, _, rfl, _, hp', hk, rfl, O', S.trans S'⟩
end
end Mine
namespace Mine
open PySem PySem.W PySem.Calls PyProof.Rows

/-! the written world as rows; each row is checked against the fragment -/
structure Tab where
  globs : List (Str × V)
  bltns : List (Str × V)
  slots : List ((Addr × Str) × Nat)
  cattrs : List ((Addr × Str) × V)
  meths : List ((Addr × Str) × Addr)
  structs : List (Addr × Nat × Bool)
  callees : List Addr

noncomputable def Tab.st (t : Tab) (W : Wd) : St W where
  glob x := (t.globs ++ t.bltns).lookup x
  slot C name := t.slots.lookup (C, name)
  cattr a name := t.cattrs.lookup (a, name)
  meth C name := t.meths.lookup (C, name)
  struct a := t.structs.lookup a
  callee a := t.callees.contains a

/-- a flat value, as it stands in the heap -/
noncomputable def sameV : V → Value → Bool
  | .none, .none => true
  | .bool b, .bool c => b == c
  | .int i, .int j _ => i == j
  | .str x, .str y _ => x == y
  | .typ n, .type m => n == m
  | .bltn n, .builtin m => n == m
  | .ref a, .ref b => a == b
  | _, _ => false
theorem sameV_rel {hp : Hp} {h : Heap} {v : V} {val : Value} (e : sameV v val = true) : v.flat = true ∧ VRel hp h v val := by
  unfold sameV at e
  split at e <;> first | (cases e; done) | skip
  · exact ⟨rfl, rfl⟩
  · rw [beq_iff_eq] at e; subst e; exact ⟨rfl, rfl⟩
  · rw [beq_iff_eq] at e; subst e; exact ⟨rfl, _, rfl⟩
  · rw [beq_iff_eq] at e; subst e; exact ⟨rfl, _, rfl⟩
  · rw [beq_iff_eq] at e; subst e; exact ⟨rfl, rfl⟩
  · rw [beq_iff_eq] at e; subst e; exact ⟨rfl, rfl⟩
  · rw [beq_iff_eq] at e; subst e; exact ⟨rfl, rfl⟩

noncomputable def globOk (K : Frag) (x : Str) (v : V) : Bool := match nsIn K mainGlobals x with
  | some (some val) => sameV v val
  | _ => false
noncomputable def freeOk (K : Frag) (x : Str) : Bool := match nsIn K mainGlobals x with
  | some none => true
  | _ => false
noncomputable def bltnOk (K : Frag) (x : Str) (v : V) : Bool := freeOk K x && x != ("__name__" : Str) && match bootBuiltins x with
  | some val => sameV v val
  | none => false
noncomputable def slotOk (K : Frag) (C : Addr) (name : Str) (i : Nat) : Bool :=
  findIn K (.ref C) "__getattribute__" == some (some (.builtin "object.__getattribute__")) && findIn K (.ref C) "__getattr__" == some none &&
  findIn K (.ref C) "__setattr__" == some (some (.builtin "object.__setattr__")) && plainOver K C && decide (i < 100) &&
  match findObj K C (some emptyDict) name with
  | some (.bind (.builtin g) (.ref p)) => g == "member_descriptor.__get__" && slotIn K p C == some i && takerIn K C name == some (some (.ref p)) && typeIn K (.ref p) == some (.type "member_descriptor")
  | _ => false
noncomputable def cattrOk (K : Frag) (a : Addr) (name : Str) (v : V) : Bool := readsIn K a (.type "type") && specialIn K (.ref a) "__getattribute__" == some (some (.builtin "type.__getattribute__")) &&
  match v with
  | .typ n => n == "int" && findIn K (.type "type") name == some none && findIn K (.ref a) name == some (some (.type n))
  | _ => match findCls K (.ref a) (.type "type") name with
    | some (.val val) => handedIn val && sameV v val
    | _ => false
theorem typ_int : typeOf (.type "int") = pure (.type "type") := by kernel_rfl
theorem cattr_of {K : Frag} {h₀ : Heap} {a : Addr} {name : Str} {v : V} (e : cattrOk K a name v = true) : CAttrOk K h₀ a name v := by
  unfold cattrOk at e
  simp only [Bool.and_eq_true, beq_iff_eq] at e
  obtain ⟨⟨e1, e2⟩, e3⟩ := e
  split at e3
  · rename_i n
    simp only [Bool.and_eq_true, beq_iff_eq] at e3
    obtain ⟨⟨rfl, e4⟩, e5⟩ := e3
    exact ⟨_, clsReads_typ e1 e4 e5 typ_int, rfl, rfl, rfl, e2⟩
  · split at e3
    · rename_i val q
      simp only [Bool.and_eq_true] at e3
      exact ⟨val, clsReads_val e1 q e3.1, e3.1, (sameV_rel (hp := fun _ => none) (h := h₀) e3.2).1, (sameV_rel e3.2).2, e2⟩
    · cases e3
noncomputable def methOk (K : Frag) (C : Addr) (name : Str) (f : Addr) : Bool :=
  findIn K (.ref C) "__getattribute__" == some (some (.builtin "object.__getattribute__")) && findIn K (.ref C) "__getattr__" == some none &&
  findIn K (.ref C) name == some (some (.ref f)) && typeIn K (.ref f) == some (.type "function") &&
  match findObj K C (some emptyDict) name with
  | some (.bind (.builtin g) (.ref p)) => g == "function.__get__" && p == f
  | _ => false
noncomputable def structOk (K : Frag) (a : Addr) (w : Nat) (sg : Bool) : Bool := match K.lookup a with
  | some ⟨.type t, none, .fields vs, _⟩ => t == "_struct.Struct" && match vs.toList with
    | .bytes b _ :: _ => match b.toList with
      | [x, y] => x == 60 && ((y == 66 && w == 1 && !sg) || (y == 72 && w == 2 && !sg) || (y == 73 && w == 4 && !sg) || (y == 81 && w == 8 && !sg) || (y == 104 && w == 2 && sg) || (y == 105 && w == 4 && sg))
      | _ => false
    | _ => false
  | _ => false
noncomputable def calleeOk (K : Frag) (a : Addr) : Bool := match K.lookup a with
  | some ⟨_, _, .func _, _⟩ => true
  | some ⟨_, _, .cls _, _⟩ => (specialIn K (.ref a) "__call__").isSome
  | _ => false
noncomputable def noNames : List Str := ["len", "min", "max", "sum", "sorted", "list", "bytes", "bytearray", "tuple", "isinstance", "int", "range", "reversed"]

structure TabOk (K : Frag) (t : Tab) : Prop where
  globs : t.globs.all (fun p => globOk K p.1 p.2) = true
  bltns : t.bltns.all (fun p => bltnOk K p.1 p.2) = true
  slots : t.slots.all (fun p => slotOk K p.1.1 p.1.2 p.2) = true
  cattrs : t.cattrs.all (fun p => cattrOk K p.1.1 p.1.2 p.2) = true
  meths : t.meths.all (fun p => methOk K p.1.1 p.1.2 p.2) = true
  structs : t.structs.all (fun p => structOk K p.1 p.2.1 p.2.2) = true
  callees : t.callees.all (calleeOk K) = true
  free : noNames.all (freeOk K) = true

theorem mem_of_lookup' {α β : Type} [BEq α] [LawfulBEq α] {x : α} {d : β} : ∀ {l : List (α × β)}, l.lookup x = some d → (x, d) ∈ l
  | (y, e) :: r, h => by
    rw [List.lookup_cons] at h
    cases hb : x == y with
    | true => rw [hb] at h; cases h; rw [eq_of_beq hb]; exact .head _
    | false => rw [hb] at h; exact .tail _ (mem_of_lookup' h)

theorem mg_of {W : Wd} {x : Str} {r : Option Value} (e : nsIn W.K mainGlobals x = some r) : W.mg x = r := by
  unfold nsIn at e
  split at e
  · rename_i c d es n sl ho
    obtain ⟨o, es', ep, ho', hd, _, hm⟩ := W.hg
    have := W.inK _ _ ho
    rw [ho'] at this
    cases Option.some.inj this
    cases hd
    rw [← hm]
    unfold nsFind findBy
    obtain ⟨l⟩ := es
    rw [List.find?_toArray]
    dsimp only at e
    cases q : l.find? fun x_1 => x_1.key.isStr x with
    | some en => rw [q] at e; cases e; rfl
    | none =>
      rw [q] at e
      dsimp only at e
      split at e
      · cases e
      · cases e; rfl
  · cases e

theorem free_of {W : Wd} {x : Str} (e : freeOk W.K x = true) : W.mg x = none := by
  unfold freeOk at e
  split at e
  · rename_i q; exact mg_of q
  · cases e

theorem stOk_of {W : Wd} {t : Tab} (T : TabOk W.K t) : StOk W (t.st W) := by
  have fr : ∀ x ∈ noNames, W.mg x = none := fun x hx => free_of (List.all_eq_true.mp T.free x hx)
  refine ⟨fun x v h => ?_, fun b => fr _ (by cases b <;> decide +kernel), fr _ (by decide +kernel), fr _ (by decide +kernel), fun C name i h => ?_, fun a name v h => ?_, fun C name f h => ?_, fun a h => ?_, fun a w sg h => ?_, fun a w sg h => ?_⟩
  · have h := mem_of_lookup' h
    rcases List.mem_append.mp h with h | h
    · have e := List.all_eq_true.mp T.globs _ h
      unfold globOk at e
      split at e
      · rename_i val q
        exact ⟨val, (sameV_rel (hp := fun _ => none) (h := W.h₀) e).1, (sameV_rel e).2, .inl (mg_of q)⟩
      · cases e
    · have e := List.all_eq_true.mp T.bltns _ h
      unfold bltnOk at e
      simp only [Bool.and_eq_true, bne_iff_ne, ne_eq] at e
      obtain ⟨⟨e1, e2⟩, e3⟩ := e
      split at e3
      · rename_i val q
        exact ⟨val, (sameV_rel (hp := fun _ => none) (h := W.h₀) e3).1, (sameV_rel e3).2, .inr ⟨free_of e1, (W.bi _ e2).trans q⟩⟩
      · cases e3
  · have e := List.all_eq_true.mp T.slots _ (mem_of_lookup' h)
    unfold slotOk at e
    simp only [Bool.and_eq_true, beq_iff_eq, decide_eq_true_eq] at e
    obtain ⟨⟨⟨⟨⟨e1, e2⟩, e3⟩, e4⟩, e5⟩, e6⟩ := e
    split at e6
    · rename_i g p q
      simp only [Bool.and_eq_true, beq_iff_eq] at e6
      obtain ⟨⟨⟨rfl, f1⟩, f2⟩, f3⟩ := e6
      exact ⟨e1, e2, e3, e4, e5, p, q, f1, f2, f3⟩
    · cases e6
  · exact cattr_of (List.all_eq_true.mp T.cattrs _ (mem_of_lookup' h))
  · have e := List.all_eq_true.mp T.meths _ (mem_of_lookup' h)
    unfold methOk at e
    simp only [Bool.and_eq_true, beq_iff_eq] at e
    obtain ⟨⟨⟨⟨e1, e2⟩, e3⟩, e4⟩, e5⟩ := e
    split at e5
    · rename_i g p q
      simp only [Bool.and_eq_true, beq_iff_eq] at e5
      obtain ⟨rfl, rfl⟩ := e5
      exact ⟨e1, e2, e3, e4, q⟩
    · cases e5
  · have e := List.all_eq_true.mp T.callees a (by simpa [Tab.st] using h)
    unfold calleeOk at e
    split at e
    · rename_i oc od fd sl q; exact .inl ⟨_, _, _, _, q⟩
    · rename_i oc od cd sl q
      obtain ⟨r, hr⟩ := Option.isSome_iff_exists.mp e
      exact .inr ⟨_, _, _, _, r, q, hr⟩
    · cases e
  · have e := List.all_eq_true.mp T.structs _ (mem_of_lookup' h)
    unfold structOk at e
    split at e
    · rename_i t vs sl q
      simp only [Bool.and_eq_true, beq_iff_eq] at e
      obtain ⟨rfl, e⟩ := e
      split at e
      · rename_i b tk r hv
        split at e
        · rename_i x y hb
          simp only [Bool.and_eq_true, Bool.or_eq_true, beq_iff_eq, Bool.not_eq_true'] at e
          obtain ⟨rfl, e⟩ := e
          have hb' : b = #[60, y] := by rw [← Array.toList_inj, hb]
          have hv' : vs[0]? = some (.bytes b tk) := by rw [← Array.getElem?_toList, hv]; rfl
          subst hb'
          refine ⟨_, _, _, _, _, W.inK _ _ q, hv', ?_⟩
          rcases e with (((((⟨⟨rfl, rfl⟩, rfl⟩ | ⟨⟨rfl, rfl⟩, rfl⟩) | ⟨⟨rfl, rfl⟩, rfl⟩) | ⟨⟨rfl, rfl⟩, rfl⟩) | ⟨⟨rfl, rfl⟩, rfl⟩) | ⟨⟨rfl, rfl⟩, rfl⟩)
          · exact fmt_B
          · exact fmt_H
          · exact fmt_I
          · exact fmt_Q
          · exact fmt_h
          · exact fmt_i
        · cases e
      · cases e
    · cases e
  · have e := List.all_eq_true.mp T.structs _ (mem_of_lookup' h)
    unfold structOk at e
    split at e
    · rename_i q; exact ⟨_, W.inK _ _ q, rfl⟩
    · cases e

/-! a def, checked -/
noncomputable def fdOf (K : Frag) (a : Addr) : FuncData := match K.lookup a with
  | some ⟨_, _, .func fd, _⟩ => fd
  | _ => default
noncomputable def bodyOf (fd : FuncData) : List Stmt := match fd.body with
  | .stmts b => b
  | _ => []
noncomputable def fdOk (K : Frag) (a : Addr) : Bool := match K.lookup a with
  | some ⟨_, _, .func fd, _⟩ => !fd.scope.isCoroutine && !fd.scope.isGenerator && fd.scope.kind == .function && codeIn K fd.code fd.qualname && fd.globals == mainGlobals && fd.builtins == builtinsNs && fd.closure.isEmpty && noFree fd.scope &&
      match fd.body with
      | .stmts _ => true
      | _ => false
  | _ => false
noncomputable def textOk (K : Frag) (a : Addr) (lay params : List Str) (sts : List S) : Bool := params.isPrefixOf lay && ownB (fdOf K a).scope params && decide lay.Nodup && covB (fdOf K a).scope lay && okSs (fdOf K a).scope lay sts (bodyOf (fdOf K a))

theorem defOk_of {K : Frag} {a : Addr} (e : fdOk K a = true) : DefOk K a (fdOf K a) (bodyOf (fdOf K a)) := by
  unfold fdOk at e
  unfold fdOf
  split at e
  · rename_i oc od fd sl q
    simp only [Bool.and_eq_true, Bool.not_eq_true', beq_iff_eq, List.isEmpty_iff] at e
    obtain ⟨⟨⟨⟨⟨⟨⟨⟨e1, e2⟩, e3⟩, e4⟩, e5⟩, e6⟩, e7⟩, e8⟩, e9⟩ := e
    refine ⟨⟨_, _, _, q⟩, e1, e2, e3, ?_, e4, e5, e6, e7, e8⟩
    unfold bodyOf
    split at e9
    · rename_i b hb; rw [hb]
    · cases e9
  · cases e

section
variable {W : Wd} {T : St W} {n : Nat}
theorem callP_def (TO : StOk W T) {a : Addr} {lay params : List Str} {sts : List S} {args vs kws : List V} {kwn : List Str} {k : K1} {hp : Hp} (e1 : fdOk W.K a = true) (e2 : textOk W.K a lay params sts = true)
    (B : BindV W (fdOf W.K a) args kwn kws params vs)
    (h : vcSs T n sts (vars₀ lay vs) hp fun f _ hp' => match f with | .ret v => k v hp' | .next => k .none hp' | _ => False) : CallP W (n + 1) a args kwn kws hp k := by
  unfold textOk at e2
  simp only [Bool.and_eq_true, decide_eq_true_eq] at e2
  obtain ⟨⟨⟨⟨h1, h2⟩, h3⟩, h4⟩, h5⟩ := e2
  exact callP_of TO (defOk_of e1) B h1 h2 h3 h4 h5 h

theorem zip_self {α β : Type} : ∀ (l : List (α × β)), (l.map (·.1)).zip (l.map (·.2)) = l
  | [] => rfl
  | x :: r => by rw [List.map_cons, List.map_cons, List.zip_cons_cons, zip_self r]
/-- positional arguments, as many as the parameters (or the rest by what stands in the fragment) -/
theorem bind_peek {fd : FuncData} {args kws vs : List V} {kwn params : List Str} (more : List V)
    (h : ∀ (vals kvals : List Value), vals.length = args.length → kvals.length = kws.length → ∃ binds, (∀ S, peek W.K S (bindArgs fd ⟨vals, kwn.zip kvals⟩) = some binds) ∧ binds.map (·.1) = params ∧
      ∀ (hp : Hp) (s : Shared), VRels hp s.heap args vals → VRels hp s.heap kws kvals → VRels hp s.heap vs (binds.map (·.2))) : BindV W fd args kwn kws params vs :=
  bindV_of fun hp s vals kw O ra rk => by
    obtain ⟨binds, h1, h2, h3⟩ := h vals (kw.map (·.2)) ra.length (by rw [← rk.2.length])
    have e : kwn.zip (kw.map (·.2)) = kw := by rw [← rk.1]; exact zip_self kw
    refine ⟨binds, kp_binds O.inK (fun S => by rw [← e]; exact h1 S), h2, h3 hp s ra rk.2⟩
end
end Mine
namespace Mine
open PySem PySem.W PySem.Calls PyProof.Rows

/-! the conditions, one by one, from behind -/
section
variable {W : Wd} {T : St W} {n : Nat} {vars : Vars} {hp : Hp} {k : K1}

theorem e_none (h : k .none hp) : vcE T n .none vars hp k := h
theorem e_bool {b : Bool} (h : k (.bool b) hp) : vcE T n (.bool b) vars hp k := h
theorem e_int {i : Int} (h : k (.int i) hp) : vcE T n (.int i) vars hp k := h
theorem e_str {x : Str} (h : k (.str x) hp) : vcE T n (.str x) vars hp k := h
theorem e_bytes {b : List UInt8} (h : k (.bytes b) hp) : vcE T n (.bytes b) vars hp k := h
theorem e_var {i : Nat} {v : V} (e : vars[i]? = some (some v)) (h : k v hp) : vcE T n (.var i) vars hp k := ⟨v, e, h⟩
theorem e_glob {x : Str} {v : V} (e : T.glob x = some v) (h : k v hp) : vcE T n (.glob x) vars hp k := ⟨v, e, h⟩
theorem e_bin {op : Operator} {l r : E} (h : vcE T n l vars hp fun a hp₁ => vcE T n r vars hp₁ fun b hp₂ => binK op a b hp₂ k) : vcE T n (.bin op l r) vars hp k := h
theorem e_ladd {l r : E} (h : vcE T n l vars hp fun a hp₁ => vcE T n r vars hp₁ fun b hp₂ => laddK a b hp₂ k) : vcE T n (.ladd l r) vars hp k := h
theorem e_lmul {l r : E} (h : vcE T n l vars hp fun a hp₁ => vcE T n r vars hp₁ fun b hp₂ => lmulK a b hp₂ k) : vcE T n (.lmul l r) vars hp k := h
theorem e_bmul {l r : E} (h : vcE T n l vars hp fun a hp₁ => vcE T n r vars hp₁ fun b hp₂ => bmulK a b hp₂ k) : vcE T n (.bmul l r) vars hp k := h
theorem e_neg {x : E} (h : vcE T n x vars hp fun a hp₁ => ∃ i, a = .int i ∧ k (.int (-i)) hp₁) : vcE T n (.neg x) vars hp k := h
theorem e_inv {x : E} (h : vcE T n x vars hp fun a hp₁ => ∃ i, a = .int i ∧ k (.int (Builtin.bitNot i)) hp₁) : vcE T n (.inv x) vars hp k := h
theorem e_not {x : E} (h : vcE T n x vars hp fun a hp₁ => ∃ b, truV hp₁ a = some b ∧ k (.bool (!b)) hp₁) : vcE T n (.not x) vars hp k := h
theorem e_cmp {op : CmpOp} {l r : E} (h : vcE T n l vars hp fun a hp₁ => vcE T n r vars hp₁ fun b hp₂ => ∃ c, cmpV op a b = some c ∧ k (.bool c) hp₂) : vcE T n (.cmp op l r) vars hp k := h
theorem e_chain {l m r : E} {o₁ o₂ : CmpOp} (h : vcE T n l vars hp fun a hp₁ => vcE T n m vars hp₁ fun b hp₂ => ∃ c, cmpV o₁ a b = some c ∧
      if c then vcE T n r vars hp₂ fun d hp₃ => ∃ e, cmpV o₂ b d = some e ∧ k (.bool e) hp₃ else k (.bool false) hp₂) : vcE T n (.chain l o₁ m o₂ r) vars hp k := h
theorem e_isn {neg : Bool} {l : E} (h : vcE T n l vars hp fun a hp₁ => ∃ c, isnV a = some c ∧ k (.bool (if neg then !c else c)) hp₁) : vcE T n (.isn neg l) vars hp k := h
theorem e_band {xs : List E} (h : vcAnd T n xs vars hp k) : vcE T n (.band xs) vars hp k := h
theorem e_bor {xs : List E} (h : vcOr T n xs vars hp k) : vcE T n (.bor xs) vars hp k := h
theorem and_one {e : E} (h : vcE T n e vars hp k) : vcAnd T n [e] vars hp k := h
theorem and_cons {e f : E} {r : List E} (h : vcE T n e vars hp fun v hp₁ => ∃ t, truV hp₁ v = some t ∧ if t then vcAnd T n (f :: r) vars hp₁ k else k v hp₁) : vcAnd T n (e :: f :: r) vars hp k := h
theorem or_one {e : E} (h : vcE T n e vars hp k) : vcOr T n [e] vars hp k := h
theorem or_cons {e f : E} {r : List E} (h : vcE T n e vars hp fun v hp₁ => ∃ t, truV hp₁ v = some t ∧ if t then k v hp₁ else vcOr T n (f :: r) vars hp₁ k) : vcOr T n (e :: f :: r) vars hp k := h
theorem e_ite {c a b : E} (h : vcE T n c vars hp fun v hp₁ => ∃ t, truV hp₁ v = some t ∧ if t then vcE T n a vars hp₁ k else vcE T n b vars hp₁ k) : vcE T n (.ite c a b) vars hp k := h
theorem e_list {xs : List E} (h : vcEs T n xs vars hp fun vs hp₁ => vs.length ≤ 1048576 ∧ newK hp₁ (.list vs) k) : vcE T n (.list xs) vars hp k := h
theorem e_tup {xs : List E} (h : vcEs T n xs vars hp fun vs hp₁ => vs.length ≤ 1048576 ∧ k (.tup vs) hp₁) : vcE T n (.tup xs) vars hp k := h
theorem e_dict0 (h : newK hp (.tdict []) k) : vcE T n .dict0 vars hp k := h
theorem e_attr {e : E} {name : Str} (h : vcE T n e vars hp fun o hp₁ => attrK T o name hp₁ k) : vcE T n (.attr e name) vars hp k := h
theorem e_idx {e i : E} (h : vcE T n e vars hp fun o hp₁ => vcE T n i vars hp₁ fun j hp₂ => ∃ v, idxV hp₂ o j = some v ∧ k v hp₂) : vcE T n (.idx e i) vars hp k := h
theorem e_sl {e lo hi : E} (h : vcE T n e vars hp fun o hp₁ => vcE T n lo vars hp₁ fun l hp₂ => vcE T n hi vars hp₂ fun h hp₃ => slK o l h hp₃ k) : vcE T n (.sl e lo hi) vars hp k := h
theorem e_bcall {b : B} {args : List E} (h : vcEs T n args vars hp fun vs hp₁ => bcallK b vs hp₁ k) : vcE T n (.bcall b args) vars hp k := h
theorem e_call0 {f : E} {args : List E} (h : vcE T n f vars hp fun fv hp₁ => vcEs T n args vars hp₁ fun vs hp₂ => callK T n fv vs [] [] hp₂ k) : vcE T n (.call f args [] []) vars hp k := by
  show vcE T n f vars hp fun fv hp₁ => vcEs T n args vars hp₁ fun vs hp₂ => 0 = 0 ∧ callK T n fv vs [] [] hp₂ k
  simpa using h
theorem e_meth0 {o : E} {name : Str} {args : List E} (h : vcE T n o vars hp fun ov hp₁ => resK T ov name hp₁ fun fv first => vcEs T n args vars hp₁ fun vs hp₂ => callK T n fv (first ++ vs) [] [] hp₂ k) : vcE T n (.meth o name args [] []) vars hp k := by
  show vcE T n o vars hp fun ov hp₁ => resK T ov name hp₁ fun fv first => vcEs T n args vars hp₁ fun vs hp₂ => 0 = 0 ∧ callK T n fv (first ++ vs) [] [] hp₂ k
  simpa using h
theorem e_meth {o : E} {name : Str} {args kwv : List E} {kwn : List Str} (h : vcE T n o vars hp fun ov hp₁ => resK T ov name hp₁ fun fv first => vcEs T n args vars hp₁ fun vs hp₂ => vcEs T n kwv vars hp₂ fun ks hp₃ => ks.length = kwn.length ∧ callK T n fv (first ++ vs) kwn ks hp₃ k) : vcE T n (.meth o name args kwn kwv) vars hp k := h
theorem e_star {o arg star : E} {name : Str} (h : vcE T n o vars hp fun ov hp₁ => ∃ b C f fm, ov = .ref b ∧ hp₁ b = some (.inst C f) ∧ T.meth C name = some fm ∧ vcE T n arg vars hp₁ fun a hp₂ => vcE T n star vars hp₂ fun t hp₃ => ∃ xs, t = .tup xs ∧ xs.length ≤ 1000 ∧ T.callee fm = true ∧ CallP W n fm (ov :: a :: xs) [] [] hp₃ k) :
    vcE T n (.methStar o name arg star) vars hp k := h
theorem e_frz {e : E} (h : vcE T n e vars hp fun v hp₁ => ∃ a xs, v = .ref a ∧ hp₁ a = some (.list xs) ∧ k (.flist xs) (hp₁.del a)) : vcE T n (.frz e) vars hp k := h
theorem es_nil {k : List V → Hp → Prop} (h : k [] hp) : vcEs T n [] vars hp k := h
theorem es_cons {e : E} {r : List E} {k : List V → Hp → Prop} (h : vcE T n e vars hp fun v hp₁ => vcEs T n r vars hp₁ fun vs hp₂ => k (v :: vs) hp₂) : vcEs T n (e :: r) vars hp k := h

/-- a condition that the facts decide or that forks -/
theorem t_if {v : V} {A B : Prop} {b : Bool} (e : truV hp v = some b) (h₁ : b = true → A) (h₂ : b = false → B) : ∃ t, truV hp v = some t ∧ if t then A else B := ⟨b, e, by
  cases b with
  | true => rw [if_pos rfl]; exact h₁ rfl
  | false => rw [if_neg Bool.false_ne_true]; exact h₂ rfl⟩
theorem t_true {v : V} {A B : Prop} (e : truV hp v = some true) (h : A) : ∃ t, truV hp v = some t ∧ if t then A else B := ⟨true, e, by rw [if_pos rfl]; exact h⟩
theorem t_false {v : V} {A B : Prop} (e : truV hp v = some false) (h : B) : ∃ t, truV hp v = some t ∧ if t then A else B := ⟨false, e, by rw [if_neg Bool.false_ne_true]; exact h⟩
theorem c_if {op : CmpOp} {a b : V} {A B : Prop} {c : Bool} (e : cmpV op a b = some c) (h₁ : c = true → A) (h₂ : c = false → B) : ∃ t, cmpV op a b = some t ∧ if t then A else B := ⟨c, e, by
  cases c with
  | true => rw [if_pos rfl]; exact h₁ rfl
  | false => rw [if_neg Bool.false_ne_true]; exact h₂ rfl⟩

/-! attributes, methods, calls -/
theorem a_cls {a : Addr} {name : Str} {v : V} (e : T.cattr a name = some v) (h : k v hp) : attrK T (.ref a) name hp k := .inl ⟨v, e, h⟩
theorem a_inst {a C : Addr} {f : Nat → Option V} {name : Str} {i : Nat} {v : V} (e : hp a = some (.inst C f)) (s : T.slot C name = some i) (ev : f i = some v) (hv : v.handed = true) (h : k v hp) : attrK T (.ref a) name hp k := .inr ⟨C, f, i, v, e, s, ev, hv, h⟩
theorem r_inst {a C m : Addr} {f : Nat → Option V} {name : Str} {q : V → List V → Prop} (e : hp a = some (.inst C f)) (s : T.meth C name = some m) (h : q (.ref m) [.ref a]) : resK T (.ref a) name hp q := .inl ⟨C, f, m, e, s, h⟩
theorem r_app {a : Addr} {xs : List V} {q : V → List V → Prop} (e : hp a = some (.list xs)) (h : q (.bltn "list.append") [.ref a]) : resK T (.ref a) "append" hp q := .inr (.inl ⟨xs, e, rfl, h⟩)
theorem r_get {a : Addr} {xs : List (List KD × V)} {q : V → List V → Prop} (e : hp a = some (.tdict xs)) (h : q (.bltn "dict.get") [.ref a]) : resK T (.ref a) "get" hp q := .inr (.inr (.inl ⟨xs, e, rfl, h⟩))
theorem r_pack {a : Addr} {p : Nat × Bool} {q : V → List V → Prop} (e : T.struct a = some p) (h : q (.bltn "_struct.Struct.pack_into") [.ref a]) : resK T (.ref a) "pack_into" hp q := .inr (.inr (.inr (.inl ⟨p, e, .inl ⟨rfl, h⟩⟩)))
theorem r_unpk {a : Addr} {p : Nat × Bool} {q : V → List V → Prop} (e : T.struct a = some p) (h : q (.bltn "_struct.Struct.unpack_from") [.ref a]) : resK T (.ref a) "unpack_from" hp q := .inr (.inr (.inr (.inl ⟨p, e, .inr ⟨rfl, h⟩⟩)))
theorem r_cls {a : Addr} {name : Str} {v : V} {q : V → List V → Prop} (e : T.cattr a name = some v) (h : q v []) : resK T (.ref a) name hp q := .inr (.inr (.inr (.inr ⟨v, e, h⟩)))
theorem c_ref {a : Addr} {args kws : List V} {kwn : List Str} (e : T.callee a = true) (h : CallP W n a args kwn kws hp k) : callK T n (.ref a) args kwn kws hp k := ⟨e, h⟩
theorem c_int {i : Int} (h : k (.int i) hp) : callK T n (.typ "int") [.int i] [] [] hp k := ⟨rfl, rfl, h⟩
theorem c_app {a : Addr} {xs : List V} {v : V} (e : hp a = some (.list xs)) (hl : xs.length ≤ 2 ^ 20) (h : k .none (hp.upd a (.list (xs ++ [v])))) : callK T n (.bltn "list.append") [.ref a, v] [] [] hp k := ⟨rfl, by simp only [e]; exact ⟨trivial, hl, h⟩⟩
theorem c_get {a : Addr} {kvs : List (List KD × V)} {v : V} {ks : List KD} (e : hp a = some (.tdict kvs)) (hk : keyOf v = some (.inr ks)) (h : k ((lookT kvs ks).getD .none) hp) : callK T n (.bltn "dict.get") [.ref a, v] [] [] hp k := ⟨rfl, by simp only [e]; exact ⟨trivial, ks, hk, h⟩⟩
theorem c_pack {a c : Addr} {w : Nat} {sg : Bool} {b : List UInt8} {i x : Int} (e : T.struct a = some (w, sg)) (hc : hp c = some (.barr b)) (hi : 0 ≤ i ∧ i.toNat + w ≤ b.length) (hx : inR sg w x) (hb : b.length ≤ 1048576)
    (h : k .none (hp.upd c (.barr (b.take i.toNat ++ leE w x ++ b.drop (i.toNat + w))))) : callK T n (.bltn "_struct.Struct.pack_into") [.ref a, .ref c, .int i, .int x] [] [] hp k := ⟨rfl, rfl, w, sg, b, e, hc, hi, hx, hb, h⟩
theorem c_unpk {a : Addr} {v : V} {w : Nat} {sg : Bool} {b : List UInt8} {i : Int} (e : T.struct a = some (w, sg)) (hv : v = .bytes b ∨ ∃ c, v = .ref c ∧ hp c = some (.barr b)) (hi : 0 ≤ i ∧ i.toNat + w ≤ b.length) (hb : b.length ≤ 1048576)
    (h : k (.tup [.int (leB sg w (cut b i.toNat (i.toNat + w)))]) hp) : callK T n (.bltn "_struct.Struct.unpack_from") [.ref a, v, .int i] [] [] hp k := ⟨rfl, rfl, w, sg, b, e, hv, hi, hb, h⟩

/-! built-ins -/
theorem b_lenB {b : List UInt8} (hb : b.length ≤ 1048576) (h : k (.int b.length) hp) : bcallK .len [.bytes b] hp k := ⟨hb, h⟩
theorem b_lenF {xs : List V} (hb : xs.length ≤ 1048576) (h : k (.int xs.length) hp) : bcallK .len [.flist xs] hp k := ⟨hb, h⟩
theorem b_lenL {a : Addr} {xs : List V} (e : hp a = some (.list xs)) (hb : xs.length ≤ 1048576) (h : k (.int xs.length) hp) : bcallK .len [.ref a] hp k := by
  unfold bcallK; simp only [e]; exact ⟨hb, h⟩
theorem b_lenA {a : Addr} {b : List UInt8} (e : hp a = some (.barr b)) (hb : b.length ≤ 1048576) (h : k (.int b.length) hp) : bcallK .len [.ref a] hp k := by
  unfold bcallK; simp only [e]; exact ⟨hb, h⟩
theorem b_min {i j : Int} (h : k (.int (if j < i then j else i)) hp) : bcallK .min [.int i, .int j] hp k := h
theorem b_max {v : V} {xs : List V} {is : List Int} (e : lstOf hp v = some xs) (hi : intsOf xs = some is) (hn : is ≠ []) (h : ∀ m ∈ is, (∀ x ∈ is, x ≤ m) → k (.int m) hp) : bcallK .max [v] hp k := by
  unfold bcallK; cases v <;> exact ⟨xs, is, e, hi, hn, h⟩
theorem b_sum {v : V} {xs : List V} {is : List Int} (e : lstOf hp v = some xs) (hi : intsOf xs = some is) (h : k (.int is.sum) hp) : bcallK .sum [v] hp k := ⟨xs, is, e, hi, h⟩
theorem b_bytes {a : Addr} {b : List UInt8} (e : hp a = some (.barr b)) (hb : b.length ≤ 1048576) (h : k (.bytes b) hp) : bcallK .bytes [.ref a] hp k := by
  unfold bcallK; simp only [e]; exact ⟨hb, h⟩
theorem b_barr {n : Int} (hn : 0 ≤ n ∧ n ≤ 1048576) (h : newK hp (.barr (List.replicate n.toNat 0)) k) : bcallK .bytearray [.int n] hp k := ⟨hn, h⟩
theorem b_tuple {v : V} {xs : List V} (e : lstOf hp v = some xs) (hl : xs.length ≤ 1048576) (h : k (.tup xs) hp) : bcallK .tuple [v] hp k := ⟨xs, e, hl, h⟩
end

section
variable {W : Wd} {T : St W} {n : Nat} {vars : Vars} {hp : Hp} {k : KS}

noncomputable def seqK (T : St W) (n : Nat) (r : List S) (k : KS) : KS := fun f vars hp => match f with
  | .next => vcSs T n r vars hp k
  | .brk => k .brk vars hp
  | .cont => k .cont vars hp
  | .ret v => k (.ret v) vars hp
theorem s_nil (h : k .next vars hp) : vcSs T n [] vars hp k := h
theorem s_expr {e : E} {r : List S} (h : vcE T n e vars hp fun _ hp₁ => vcSs T n r vars hp₁ k) : vcSs T n (.expr e :: r) vars hp k := h
theorem s_asg {t : Tg} {e : E} {r : List S} (h : vcE T n e vars hp fun v hp₁ => vcT T n t v vars hp₁ fun vars' hp₂ => vcSs T n r vars' hp₂ k) : vcSs T n (.asg t e :: r) vars hp k := h
theorem s_aug {i : Nat} {op : Operator} {e : E} {r : List S} {v : V} (hv : vars[i]? = some (some v)) (h : vcE T n e vars hp fun b hp₁ => binK op v b hp₁ fun w hp₂ => vcSs T n r (vars.set i (some w)) hp₂ k) : vcSs T n (.aug i op e :: r) vars hp k := ⟨v, hv, h⟩
theorem s_ite {c : E} {a b : List S} {r : List S} (h : vcE T n c vars hp fun v hp₁ => ∃ t, truV hp₁ v = some t ∧ if t then vcSs T n a vars hp₁ (seqK T n r k) else vcSs T n b vars hp₁ (seqK T n r k)) : vcSs T n (.ite c a b :: r) vars hp k := h
theorem s_whil {c : E} {b : List S} {r : List S} (h : WhileP W n c b vars hp (seqK T n r k)) : vcSs T n (.whil c b :: r) vars hp k := h
theorem s_for {t : Tg} {ik : ItK} {src : List E} {b r : List S} (h : vcEs T n src vars hp fun vs hp₁ => srcK ik vs hp₁ fun sr =>
      forGo sr (fun x vars₁ hp₂ q => vcT T n t x vars₁ hp₂ fun vars₂ hp₃ => vcSs T n b vars₂ hp₃ q) sr.items vars hp₁ (seqK T n r k)) : vcSs T n (.for_ t ik src b :: r) vars hp k := h
theorem s_ret {e : E} {r : List S} (h : vcE T n e vars hp fun v hp₁ => k (.ret v) vars hp₁) : vcSs T n (.ret e :: r) vars hp k := h
theorem s_ret0 {r : List S} (h : k (.ret .none) vars hp) : vcSs T n (.ret0 :: r) vars hp k := h
theorem s_cont {r : List S} (h : k .cont vars hp) : vcSs T n (.cont :: r) vars hp k := h
theorem q_next {r : List S} (h : vcSs T n r vars hp k) : seqK T n r k .next vars hp := h
theorem q_cont {r : List S} (h : k .cont vars hp) : seqK T n r k .cont vars hp := h
theorem q_ret {r : List S} {v : V} (h : k (.ret v) vars hp) : seqK T n r k (.ret v) vars hp := h

variable {kt : Vars → Hp → Prop}
theorem g_var {i : Nat} {v : V} (h : kt (vars.set i (some v)) hp) : vcT T n (.var i) v vars hp kt := h
theorem g_attr {o : E} {name : Str} {v : V} (h : vcE T n o vars hp fun ov hp₁ => setAttrK T ov name v hp₁ fun hp₂ => kt vars hp₂) : vcT T n (.attr o name) v vars hp kt := h
theorem g_idx {o i : E} {v : V} (h : vcE T n o vars hp fun ov hp₁ => vcE T n i vars hp₁ fun iv hp₂ => setIdxK ov iv v hp₂ fun hp₃ => kt vars hp₃) : vcT T n (.idx o i) v vars hp kt := h
theorem g_sl {o lo hi : E} {v : V} (h : vcE T n o vars hp fun ov hp₁ => vcE T n lo vars hp₁ fun l hp₂ => vcE T n hi vars hp₂ fun h hp₃ => setSlK ov l h v hp₃ fun hp₄ => kt vars hp₄) : vcT T n (.sl o lo hi) v vars hp kt := h
variable {kh : Hp → Prop}
theorem w_attr {a C : Addr} {f : Nat → Option V} {name : Str} {i : Nat} {v : V} (e : hp a = some (.inst C f)) (s : T.slot C name = some i) (h : kh (hp.upd a (.inst C (updF f i v)))) : setAttrK T (.ref a) name v hp kh := by
  unfold setAttrK; simp only [e]; exact ⟨i, s, h⟩
theorem w_lidx {a : Addr} {xs : List V} {j : Int} {p : Nat} {v : V} (e : hp a = some (.list xs)) (hj : place j xs.length = some p) (h : kh (hp.upd a (.list (xs.set p v)))) : setIdxK (.ref a) (.int j) v hp kh := by
  unfold setIdxK; simp only [e]; exact ⟨p, hj, h⟩
theorem w_tidx {a : Addr} {kvs : List (List KD × V)} {key v : V} {ks : List KD} (e : hp a = some (.tdict kvs)) (hk : keyOf key = some (.inr ks)) (hl : kvs.length ≤ 2 ^ 20) (h : kh (hp.upd a (.tdict (putT kvs ks v)))) : setIdxK (.ref a) key v hp kh := by
  unfold setIdxK; simp only [e]; exact ⟨ks, hk, hl, h⟩
theorem w_slA {a : Addr} {b x : List UInt8} {lo hi v : V} {l h : Nat} (e : hp a = some (.barr b)) (h1 : clampLo b.length lo = some l) (h2 : clampHi b.length hi = some h) (h3 : l ≤ h) (h4 : v = .bytes x ∨ ∃ c, v = .ref c ∧ c ≠ a ∧ hp c = some (.barr x))
    (h5 : x.length = h - l) (h6 : b.length ≤ 1048576) (hk : kh (hp.upd a (.barr (b.take l ++ x ++ b.drop h)))) : setSlK (.ref a) lo hi v hp kh := by
  unfold setSlK; simp only [e]; exact ⟨l, h, x, h1, h2, h3, h4, h5, h6, hk⟩
theorem l_slL {a : Addr} {xs : List V} {lo hi : V} {l h : Nat} {k : K1} (e : hp a = some (.list xs)) (hl : xs.length ≤ 1048576) (h1 : clampLo xs.length lo = some l) (h2 : clampHi xs.length hi = some h) (hk : newK hp (.list (cut xs l h)) k) : slK (.ref a) lo hi hp k := by
  unfold slK; simp only [e]; exact ⟨hl, l, h, h1, h2, hk⟩
theorem l_slA {a : Addr} {b : List UInt8} {lo hi : V} {l h : Nat} {k : K1} (e : hp a = some (.barr b)) (hl : b.length ≤ 1048576) (h1 : clampLo b.length lo = some l) (h2 : clampHi b.length hi = some h) (hk : newK hp (.barr (cut b l h)) k) : slK (.ref a) lo hi hp k := by
  unfold slK; simp only [e]; exact ⟨hl, l, h, h1, h2, hk⟩
theorem l_slF {xs : List V} {lo hi : V} {l h : Nat} {k : K1} (hl : xs.length ≤ 1048576) (h1 : clampLo xs.length lo = some l) (h2 : clampHi xs.length hi = some h) (hk : newK hp (.list (cut xs l h)) k) : slK (.flist xs) lo hi hp k := ⟨hl, l, h, h1, h2, hk⟩
end

/-! a def, called -/
structure FnOk (W : Wd) (a : Addr) (lay params : List Str) (sts : List S) : Prop where
  fd : fdOk W.K a = true
  text : textOk W.K a lay params sts = true
structure FnPos (W : Wd) (a : Addr) (lay params : List Str) (sts : List S) : Prop extends FnOk W a lay params sts where
  bind : ∀ vs : List V, vs.length = params.length → BindV W (fdOf W.K a) vs [] [] params vs

section
variable {W : Wd} {T : St W} {n m : Nat} {hp : Hp} {k : K1}
theorem CallP.mono {a : Addr} {args kws : List V} {kwn : List Str} (h : CallP W n a args kwn kws hp k) (e : n ≤ m) : CallP W m a args kwn kws hp k :=
  fun A s vals kw R O ra rk => h A s vals kw (R.le e) O ra rk
/-- what is wanted behind a def's body -/
noncomputable def retK (k : K1) : KS := fun f _ hp => match f with
  | .ret v => k v hp
  | .next => k .none hp
  | _ => False
theorem FnPos.call {a : Addr} {lay params : List Str} {sts : List S} {vs : List V} (F : FnPos W a lay params sts) (TO : StOk W T) (hl : vs.length = params.length) (h : vcSs T n sts (vars₀ lay vs) hp (retK k)) : CallP W (n + 1) a vs [] [] hp k :=
  callP_def TO F.fd F.text (F.bind vs hl) h
theorem FnOk.call {a : Addr} {lay params : List Str} {sts : List S} {args kws vs : List V} {kwn : List Str} (F : FnOk W a lay params sts) (TO : StOk W T) (B : BindV W (fdOf W.K a) args kwn kws params vs) (h : vcSs T n sts (vars₀ lay vs) hp (retK k)) : CallP W (n + 1) a args kwn kws hp k :=
  callP_def TO F.fd F.text B h
theorem rk_ret {v : V} {vars : Vars} (h : k v hp) : retK k (.ret v) vars hp := h
theorem rk_next {vars : Vars} (h : k .none hp) : retK k .next vars hp := h
end
end Mine
namespace Mine
open PySem PySem.W PySem.Calls PyProof.Rows

section
variable {W : Wd}
theorem map_fst_zip {α β : Type} : ∀ {l : List α} {r : List β}, r.length = l.length → (l.zip r).map (·.1) = l
  | [], [], _ => rfl
  | a :: l, b :: r, h => by rw [List.zip_cons_cons, List.map_cons, map_fst_zip (by simpa using h)]
  | [], _ :: _, h => by cases h
  | _ :: _, [], h => by cases h
theorem map_snd_zip {α β : Type} : ∀ {l : List α} {r : List β}, r.length = l.length → (l.zip r).map (·.2) = r
  | [], [], _ => rfl
  | a :: l, b :: r, h => by rw [List.zip_cons_cons, List.map_cons, map_snd_zip (by simpa using h)]
  | [], _ :: _, h => by cases h
  | _ :: _, [], h => by cases h

theorem bindPos {a : Addr} {params : List Str} {m : Nat} (hm : params.length = m) (h : ∀ vals : List Value, vals.length = m → ∀ S : Setting, peek W.K S (bindArgs (fdOf W.K a) ⟨vals, []⟩) = some (params.zip vals)) (vs : List V) (hl : vs.length = params.length) :
    BindV W (fdOf W.K a) vs [] [] params vs :=
  bindV_of fun hp s vals kw O ra rk => by
    cases kw_nil rk
    have e : vals.length = params.length := by rw [ra.length, hl]
    exact ⟨params.zip vals, kp_binds O.inK (h vals (e.trans hm)), map_fst_zip e, by rw [map_snd_zip e]; exact ra⟩

/-- one argument left to its default, None -/
theorem bindNone2 {a : Addr} {p0 p1 p2 : Str} (h : ∀ (v0 v1 : Value) (S : Setting), peek W.K S (bindArgs (fdOf W.K a) ⟨[v0, v1], []⟩) = some [(p0, v0), (p1, v1), (p2, .none)]) (v0 v1 : V) :
    BindV W (fdOf W.K a) [v0, v1] [] [] [p0, p1, p2] [v0, v1, .none] :=
  bindV_of fun hp s vals kw O ra rk => by
    cases kw_nil rk
    obtain ⟨x0, _, rfl, r0, x1, _, rfl, r1, rfl⟩ := ra
    exact ⟨_, kp_binds O.inK (h x0 x1), rfl, x0, _, rfl, r0, x1, _, rfl, r1, _, _, rfl, rfl, rfl⟩
/-- the second argument left to its default, None -/
theorem bindNone1 {a : Addr} {p0 p1 : Str} (h : ∀ (v0 : Value) (S : Setting), peek W.K S (bindArgs (fdOf W.K a) ⟨[v0], []⟩) = some [(p0, v0), (p1, .none)]) (v0 : V) :
    BindV W (fdOf W.K a) [v0] [] [] [p0, p1] [v0, .none] :=
  bindV_of fun hp s vals kw O ra rk => by
    cases kw_nil rk
    obtain ⟨x0, _, rfl, r0, rfl⟩ := ra
    exact ⟨_, kp_binds O.inK (h x0), rfl, x0, _, rfl, r0, _, _, rfl, rfl, rfl⟩
/-- one argument by its name -/
theorem bindKw3 {a : Addr} {p0 p1 p2 p3 : Str} (h : ∀ (v0 v1 v2 v3 : Value) (S : Setting), peek W.K S (bindArgs (fdOf W.K a) ⟨[v0, v1, v2], [(p3, v3)]⟩) = some [(p0, v0), (p1, v1), (p2, v2), (p3, v3)]) (v0 v1 v2 v3 : V) :
    BindV W (fdOf W.K a) [v0, v1, v2] [p3] [v3] [p0, p1, p2, p3] [v0, v1, v2, v3] :=
  bindV_of fun hp s vals kw O ra rk => by
    obtain ⟨x0, _, rfl, r0, x1, _, rfl, r1, x2, _, rfl, r2, rfl⟩ := ra
    obtain ⟨k1, k2⟩ := rk
    match kw, k1, k2 with
    | [(y, x3)], k1, k2 =>
      cases k1
      obtain ⟨_, _, e, r3, e2⟩ := k2
      cases e
      exact ⟨_, kp_binds O.inK (h x0 x1 x2 x3), rfl, x0, _, rfl, r0, x1, _, rfl, r1, x2, _, rfl, r2, x3, _, rfl, r3, rfl⟩
/-- the rest of the arguments goes into a tuple -/
theorem bindStar {a : Addr} {p0 p1 : Str} (h : ∀ v0 v1 v2 v3 : Value, bindArgs (fdOf W.K a) ⟨[v0, v1, v2, v3], []⟩ = (newTuple [v1, v2, v3] >>= fun t => pure [(p0, v0), (p1, t)])) (v0 v1 v2 v3 : V) :
    BindV W (fdOf W.K a) [v0, v1, v2, v3] [] [] [p0, p1] [v0, .tup [v1, v2, v3]] := fun A hp s vals kw O ra rk => by
  cases kw_nil rk
  obtain ⟨x0, _, rfl, r0, x1, _, rfl, r1, x2, _, rfl, r2, x3, _, rfl, r3, rfl⟩ := ra
  rw [h]
  refine wpAny_bind (wpAny_mono (newTuple_sound (xs := [v1, v2, v3]) (k := fun v hp' => v = .tup [v1, v2, v3] ∧ hp' = hp) ⟨rfl, rfl⟩ (by simp) O ⟨x1, _, rfl, r1, x2, _, rfl, r2, x3, _, rfl, r3, rfl⟩) (fun t s' hx => ?_) fun _ _ x => x)
  obtain ⟨_, _, ⟨rfl, rfl⟩, rt, O', S'⟩ := hx
  exact wpAny_pure ⟨rfl, ⟨x0, _, rfl, r0.at S', t, _, rfl, rt, rfl⟩, O', S'⟩

structure FnNone1 (W : Wd) (a : Addr) (lay : List Str) (p0 p1 : Str) (sts : List S) : Prop extends FnOk W a lay [p0, p1] sts where
  bind : ∀ v0 : V, BindV W (fdOf W.K a) [v0] [] [] [p0, p1] [v0, .none]
structure FnNone2 (W : Wd) (a : Addr) (lay : List Str) (p0 p1 p2 : Str) (sts : List S) : Prop extends FnOk W a lay [p0, p1, p2] sts where
  bind : ∀ v0 v1 : V, BindV W (fdOf W.K a) [v0, v1] [] [] [p0, p1, p2] [v0, v1, .none]
structure FnKw3 (W : Wd) (a : Addr) (lay : List Str) (p0 p1 p2 p3 : Str) (sts : List S) : Prop extends FnOk W a lay [p0, p1, p2, p3] sts where
  bind : ∀ v0 v1 v2 v3 : V, BindV W (fdOf W.K a) [v0, v1, v2] [p3] [v3] [p0, p1, p2, p3] [v0, v1, v2, v3]
structure FnStar (W : Wd) (a : Addr) (lay : List Str) (p0 p1 : Str) (sts : List S) : Prop extends FnOk W a lay [p0, p1] sts where
  bind : ∀ v0 v1 v2 v3 : V, BindV W (fdOf W.K a) [v0, v1, v2, v3] [] [] [p0, p1] [v0, .tup [v1, v2, v3]]
end
end Mine
namespace Mine
open PySem PySem.W PySem.Calls PyProof.Rows

section
variable {W : Wd} {T : St W} {n : Nat} {hp : Hp} {k : K1}
theorem b_add {i j : Int} (h : k (.int (i + j)) hp) : binK .Add (.int i) (.int j) hp k := h
theorem b_sub {i j : Int} (h : k (.int (i - j)) hp) : binK .Sub (.int i) (.int j) hp k := h
theorem b_mul {i j : Int} (e : i.natAbs < 2 ^ 63 ∨ j.natAbs < 2 ^ 63) (h : k (.int (i * j)) hp) : binK .Mult (.int i) (.int j) hp k := ⟨e, h⟩
theorem b_div {i j : Int} (e : 0 < j ∧ j < 2 ^ 64) (h : k (.int (i / j)) hp) : binK .FloorDiv (.int i) (.int j) hp k := ⟨e, h⟩
theorem b_mod {i j : Int} (e : 0 < j) (h : k (.int (i % j)) hp) : binK .Mod (.int i) (.int j) hp k := ⟨e, h⟩
theorem b_pow {i j : Int} (e : 0 ≤ i ∧ i < 2 ^ 64 ∧ 0 ≤ j ∧ j ≤ 1000) (h : k (.int (i ^ j.toNat)) hp) : binK .Pow (.int i) (.int j) hp k := ⟨e, h⟩
theorem b_band {i j : Int} (h : k (.int (Builtin.bitAnd i j)) hp) : binK .BitAnd (.int i) (.int j) hp k := h
theorem i_ex {a : V} {P : Int → Prop} {i : Int} (e : a = .int i) (h : P i) : ∃ i, a = .int i ∧ P i := ⟨i, e, h⟩
theorem n_ex {o : Ob} (h : ∀ c, hp c = none → k (.ref c) (hp.upd c o)) : newK hp o k := h
theorem x_le {i j : Int} (h : i ≤ j) : cmpV .LtE (.int i) (.int j) = some true := by show some (decide (i ≤ j)) = _; rw [decide_eq_true h]
theorem x_lt {i j : Int} (h : i < j) : cmpV .Lt (.int i) (.int j) = some true := by show some (decide (i < j)) = _; rw [decide_eq_true h]
theorem x_nlt {i j : Int} (h : ¬ i < j) : cmpV .Lt (.int i) (.int j) = some false := by show some (decide (i < j)) = _; rw [decide_eq_false h]
theorem x_gt {i j : Int} (h : j < i) : cmpV .Gt (.int i) (.int j) = some true := by show some (decide (j < i)) = _; rw [decide_eq_true h]
theorem x_ngt {i j : Int} (h : ¬ j < i) : cmpV .Gt (.int i) (.int j) = some false := by show some (decide (j < i)) = _; rw [decide_eq_false h]
theorem x_nle {i j : Int} (h : ¬ i ≤ j) : cmpV .LtE (.int i) (.int j) = some false := by show some (decide (i ≤ j)) = _; rw [decide_eq_false h]
theorem x_ge {i j : Int} (h : j ≤ i) : cmpV .GtE (.int i) (.int j) = some true := by show some (decide (j ≤ i)) = _; rw [decide_eq_true h]
theorem x_nge {i j : Int} (h : ¬ j ≤ i) : cmpV .GtE (.int i) (.int j) = some false := by show some (decide (j ≤ i)) = _; rw [decide_eq_false h]
theorem x_eq {i j : Int} (h : i = j) : cmpV .Eq (.int i) (.int j) = some true := by show some (i == j) = _; rw [beq_iff_eq.mpr h]
theorem x_neq {i j : Int} (h : i ≠ j) : cmpV .Eq (.int i) (.int j) = some false := by show some (i == j) = _; rw [beq_false_of_ne h]
theorem x_ne {i j : Int} (h : i ≠ j) : cmpV .NotEq (.int i) (.int j) = some true := by show some (i != j) = _; rw [bne_iff_ne.mpr h]
theorem x_nne {i j : Int} (h : i = j) : cmpV .NotEq (.int i) (.int j) = some false := by show some (i != j) = _; rw [h]; simp

theorem clo {i : Int} {n l : Nat} (h : 0 ≤ i) (e : min i.toNat n = l) : clampLo n (.int i) = some l := by subst e; exact if_pos h
theorem chi {i : Int} {n l : Nat} (h : 0 ≤ i) (e : min i.toNat n = l) : clampHi n (.int i) = some l := by subst e; exact if_pos h
theorem chi_none {n : Nat} : clampHi n .none = some n := rfl
theorem clo_none {n : Nat} : clampLo n .none = some 0 := rfl
/-- what a comparison of ints is worth -/
noncomputable def cmpI : CmpOp → Int → Int → Bool
  | .Eq, a, b => a == b
  | .NotEq, a, b => a != b
  | .Lt, a, b => decide (a < b)
  | .LtE, a, b => decide (a ≤ b)
  | .Gt, a, b => decide (b < a)
  | .GtE, a, b => decide (b ≤ a)
  | _, _, _ => false

theorem updF_self {f : Nat → Option V} {i : Nat} {v : V} : updF f i v i = some v := if_pos rfl
theorem updF_ne {f : Nat → Option V} {i j : Nat} {v : V} (h : j ≠ i) : updF f i v j = f j := if_neg h

/-- the other objects, but for octets, stand -/
noncomputable def Rest (self : Addr) (hp hp' : Hp) : Prop := ∀ x o, x ≠ self → hp x = some o → (∀ b, o ≠ .barr b) → hp' x = some o
theorem Rest.refl {self : Addr} : Rest self hp hp := fun _ _ _ e _ => e
theorem Rest.trans {self : Addr} {hp₁ hp₂ hp₃ : Hp} (x : Rest self hp₁ hp₂) (y : Rest self hp₂ hp₃) : Rest self hp₁ hp₃ := fun a o n e b => y a o n (x a o n e b) b
theorem Rest.upd {self : Addr} {hp' : Hp} {o : Ob} (x : Rest self hp hp') : Rest self hp (hp'.upd self o) := fun a o n e b => (upd_ne n).trans (x a o n e b)
theorem Rest.barr {self c : Addr} {hp' : Hp} {b b' : List UInt8} (x : Rest self hp hp') (e : hp' c = some (.barr b)) : Rest self hp (hp'.upd c (.barr b')) := fun a o n ea nb => (upd_ne (fun z => by
  subst z
  have := x a o n ea nb
  rw [e] at this
  exact nb b (Option.some.inj this).symm)).trans (x a o n ea nb)
theorem Rest.new {self c : Addr} {hp' : Hp} {o : Ob} (x : Rest self hp hp') (e : hp' c = none) : Rest self hp (hp'.upd c o) := fun a o n ea nb => (upd_ne (fun z => by
  subst z
  have := x a o n ea nb
  rw [e] at this; cases this)).trans (x a o n ea nb)
theorem ne_none {a c : Addr} {o : Ob} (e : hp a = some o) (f : hp c = none) : a ≠ c := fun z => by rw [z, f] at e; cases e

/-- numbers of a width -/
noncomputable def loI (sg : Bool) (w : Nat) : Int := if sg then -2 ^ (8 * w - 1) else 0
noncomputable def hiI (sg : Bool) (w : Nat) : Int := if sg then 2 ^ (8 * w - 1) - 1 else 2 ^ (8 * w) - 1
theorem inR_bounds {sg : Bool} {w : Nat} {x : Int} (h : inR sg w x) : loI sg w ≤ x ∧ x ≤ hiI sg w := by
  unfold inR at h
  unfold loI hiI
  cases sg <;> simp at h ⊢ <;> omega
structure FlagOk (T : St W) (F : Addr) (w : Nat) (sg : Bool) (sa : Addr) : Prop where
  bw : T.cattr F "bytewidth" = some (.int w)
  mn : T.cattr F "min_val" = some (.int (loI sg w))
  mx : T.cattr F "max_val" = some (.int (hiI sg w))
  py : T.cattr F "py_type" = some (.typ "int")
  pk : T.cattr F "packer_type" = some (.ref sa)
  st : T.struct sa = some (w, sg)
  w8 : w = 1 ∨ w = 2 ∨ w = 4 ∨ w = 8

/-! a builder: what is written so far -/
noncomputable def zeros (n : Nat) : List UInt8 := List.replicate n 0
/-- so many octets are laid ahead of a number of so many octets -/
noncomputable def padN (len size : Nat) : Nat := (size - len % size) % size
theorem pad_and {x : Int} {len size : Nat} (hx : x = len) (hw : size = 1 ∨ size = 2 ∨ size = 4 ∨ size = 8) : Builtin.bitAnd (Builtin.bitNot x + 1) ((size : Int) - 1) = (padN len size : Nat) := by
  subst hx
  have e : Builtin.bitNot (len : Int) + 1 = -(len : Int) := by unfold Builtin.bitNot; omega
  rw [e]
  unfold padN
  rcases hw with rfl | rfl | rfl | rfl
  · show Builtin.bitAnd _ 0 = _
    rw [bitAnd_zero]; omega
  · show Builtin.bitAnd _ 1 = _
    rw [bitAnd_m1]; omega
  · show Builtin.bitAnd _ 3 = _
    rw [bitAnd_m2]; omega
  · show Builtin.bitAnd _ 7 = _
    rw [bitAnd_m3]; omega
theorem padN_lt {len size : Nat} (h : 0 < size) : padN len size < size := Nat.mod_lt _ h
theorem padN_sum {len size : Nat} (h : 0 < size) : (len + padN len size) % size = 0 := by
  unfold padN
  have h1 := Nat.mod_lt len h
  have h2 := Nat.div_add_mod len size
  by_cases hz : len % size = 0
  · rw [hz, Nat.sub_zero, Nat.mod_self, Nat.add_zero]; exact hz
  · rw [Nat.mod_eq_of_lt (by omega : size - len % size < size)]
    have : len + (size - len % size) = size * (len / size + 1) := by rw [Nat.mul_add, Nat.mul_one]; omega
    rw [this, Nat.mul_mod_right]
end
end Mine
namespace Mine
open PySem PySem.W PySem.Calls PyProof.Rows

/-! a new row that stays as it is; comprehensions over a range -/
section
variable {W : Wd} {T : St W} {n : Nat} {vars : Vars} {hp : Hp} {k : K1}
theorem upd_upd {hp : Hp} {c : Addr} {o o' : Ob} : (hp.upd c o).upd c o' = hp.upd c o' := by
  funext x
  unfold Hp.upd
  by_cases e : x = c <;> simp [e]
theorem upd_delN {c : Addr} {o : Ob} (h : hp c = none) : (hp.upd c o).del c = hp := by
  funext x
  unfold Hp.upd Hp.del
  by_cases e : x = c <;> simp [e, h]
noncomputable def frzK (k : K1) : K1 := fun v hp₁ => ∃ a xs, v = .ref a ∧ hp₁ a = some (.list xs) ∧ k (.flist xs) (hp₁.del a)
theorem e_frzK {e : E} (h : vcE T n e vars hp (frzK k)) : vcE T n (.frz e) vars hp k := h
theorem frz_at {c : Addr} {xs : List V} (hc : hp c = none) (h : k (.flist xs) hp) : frzK k (.ref c) (hp.upd c (.list xs)) :=
  ⟨c, xs, rfl, upd_self _ _ _, by rw [upd_delN hc]; exact h⟩
theorem n_frzK {xs : List V} (h : k (.flist xs) hp) : newK hp (.list xs) (frzK k) := fun c hc => frz_at hc h
theorem l_add {a b : V} {xs ys : List V} (h1 : lstOf hp a = some xs) (h2 : lstOf hp b = some ys) (h3 : xs.length + ys.length ≤ 2 ^ 20) (h : newK hp (.list (xs ++ ys)) k) : laddK a b hp k := ⟨xs, ys, h1, h2, h3, h⟩
theorem push_at {D : Addr} {v : V} {acc : List V} {q : Hp → Prop} (h : acc.length ≤ 2 ^ 20) (hq : q (hp.upd D (.list (acc ++ [v])))) : pushK D v (hp.upd D (.list acc)) q :=
  ⟨acc, upd_self _ _ _, h, by rw [upd_upd]; exact hq⟩
theorem comp_acc {xs : List V} {step : V → Hp → (Hp → Prop) → Prop} {F : V → List V} {D : Addr} {kk : Hp → Prop} : ∀ (items : List V) (acc : List V),
    (∀ x ∈ items, ∀ acc q, acc.length + (F x).length ≤ 2 ^ 20 → q (hp.upd D (.list (acc ++ F x))) → step x (hp.upd D (.list acc)) q) → acc.length + (items.flatMap F).length ≤ 2 ^ 20 → kk (hp.upd D (.list (acc ++ items.flatMap F))) → compGo (.fix xs) step items (hp.upd D (.list acc)) kk
  | [], acc, _, _, h => ⟨trivial, by simpa using h⟩
  | x :: r, acc, hs, hl, h => by
    rw [List.flatMap_cons, List.length_append] at hl
    refine ⟨trivial, hs x (.head _) acc _ (by omega) ?_⟩
    refine comp_acc r (acc ++ F x) (fun y hy => hs y (.tail _ hy)) (by rw [List.length_append]; omega) ?_
    rw [List.append_assoc, ← List.flatMap_cons]; exact h

theorem flatMap_le {α β : Type} {F : α → List β} {c : Nat} : ∀ {l : List α}, (∀ x ∈ l, (F x).length ≤ c) → (l.flatMap F).length ≤ c * l.length
  | [], _ => by simp
  | x :: r, h => by
    have := flatMap_le (l := r) fun y hy => h y (.tail _ hy)
    have := h x (.head _)
    rw [List.flatMap_cons, List.length_append, List.length_cons, Nat.mul_add]; omega

theorem range_items {m : Nat} : rangeL 0 (m : Int) 1 = (List.range m).map fun e => V.int (e : Nat) := by
  rw [rangeL_up]; simp

/-- over a range of a number that a name holds -/
theorem e_rcomp {names : List (Str × Option Nat)} {t j m : Nat} {ifs : List E} {elt : E} {F : Nat → List V} (hj : vars[j]? = some (some (.int (m : Nat)))) (hm : m ≤ 1000) (hF : ∀ i < m, (F i).length ≤ 1)
    (step : ∀ i < m, ∀ (hp' : Hp) D acc (q : Hp → Prop), acc.length + (F i).length ≤ 2 ^ 20 → q (hp'.upd D (.list (acc ++ F i))) →
      vcIf T n ifs ((inner names vars).set t (some (.int (i : Nat)))) (hp'.upd D (.list acc)) fun b hp₃ => if b then vcE T n elt ((inner names vars).set t (some (.int (i : Nat)))) hp₃ fun v hp₄ => pushK D v hp₄ q else q hp₃)
    (h : k (.flist ((List.range m).flatMap F)) hp) : vcE T n (.lcomp names t .rng [.var j] ifs elt) vars hp (frzK k) := by
  have hlen := flatMap_le (l := List.range m) fun i hi => hF i (List.mem_range.mp hi)
  rw [List.length_range] at hlen
  refine es_cons (e_var hj (es_nil ⟨by omega, fun D hD => ?_⟩))
  have e1 : (Src.fix (rangeL 0 (m : Int) 1)).items = (List.range m).map fun e => V.int (e : Nat) := range_items
  rw [e1]
  have e2 : ((List.range m).map fun e => V.int (e : Nat)).flatMap (fun v => match v with | .int i => F i.toNat | _ => []) = (List.range m).flatMap F := by
    rw [List.flatMap_map]; rfl
  refine comp_acc (F := fun v => match v with | .int i => F i.toNat | _ => []) _ [] ?_ (by rw [e2]; simp only [List.length_nil]; omega) ?_
  · intro x hx acc q h1 h2
    obtain ⟨i, hi, rfl⟩ := List.mem_map.mp hx
    exact step i (List.mem_range.mp hi) hp D acc q h1 h2
  · rw [e2, List.nil_append]
    exact frz_at hD h

/-- over a row of its own, and a range -/
theorem e_rcomp2 {names : List (Str × Option Nat)} {t t₂ j m : Nat} {src ifs : List E} {elt : E} {xs : List Nat} {F : Nat → Nat → List V} (hs : ∀ q : List V → Hp → Prop, q [.tup (xs.map fun e => V.int (e : Nat))] hp → vcEs T n src vars hp q)
    (hj : ∀ x : V, ((inner names vars).set t (some x))[j]? = some (some (.int (m : Nat)))) (hm : m ≤ 1000) (hx : xs.length ≤ 1000) (hF : ∀ x i, i < m → (F x i).length ≤ 1)
    (step : ∀ x ∈ xs, ∀ i < m, ∀ (hp' : Hp) D acc (q : Hp → Prop), acc.length + (F x i).length ≤ 2 ^ 20 → q (hp'.upd D (.list (acc ++ F x i))) →
      vcIf T n ifs (((inner names vars).set t (some (.int (x : Nat)))).set t₂ (some (.int (i : Nat)))) (hp'.upd D (.list acc)) fun b hp₃ => if b then vcE T n elt (((inner names vars).set t (some (.int (x : Nat)))).set t₂ (some (.int (i : Nat)))) hp₃ fun v hp₄ => pushK D v hp₄ q else q hp₃)
    (h : k (.flist (xs.flatMap fun x => (List.range m).flatMap (F x))) hp) : vcE T n (.lcomp2 names t .of src t₂ .rng [.var j] ifs elt) vars hp (frzK k) := by
  have hlen : ∀ x, ((List.range m).flatMap (F x)).length ≤ 1000 := fun x => by
    have := flatMap_le (l := List.range m) fun i hi => hF x i (List.mem_range.mp hi)
    rw [List.length_range] at this; omega
  have hlen2 := flatMap_le (l := xs) (F := fun x => (List.range m).flatMap (F x)) fun x _ => hlen x
  refine hs _ fun D hD => ?_
  have e2 : (xs.map fun e => V.int (e : Nat)).flatMap (fun v => match v with | .int i => (List.range m).flatMap (F i.toNat) | _ => []) = xs.flatMap fun x => (List.range m).flatMap (F x) := by
    rw [List.flatMap_map]; rfl
  refine comp_acc (F := fun v => match v with | .int i => (List.range m).flatMap (F i.toNat) | _ => []) (xs.map fun e => V.int (e : Nat)) [] ?_ (by rw [e2]; simp only [List.length_nil]; omega) ?_
  · intro x hx acc q h1 h2
    obtain ⟨x, hxx, rfl⟩ := List.mem_map.mp hx
    refine es_cons (e_var (hj _) (es_nil ⟨by omega, ?_⟩))
    have e1 : (Src.fix (rangeL 0 (m : Int) 1)).items = (List.range m).map fun e => V.int (e : Nat) := range_items
    show compGo _ _ (Src.fix (rangeL 0 (m : Int) 1)).items _ _
    rw [e1]
    have e3 : ((List.range m).map fun e => V.int (e : Nat)).flatMap (fun v => match v with | .int i => F x i.toNat | _ => []) = (List.range m).flatMap (F x) := by
      rw [List.flatMap_map]; rfl
    have h1' : acc.length + ((List.range m).flatMap (F x)).length ≤ 2 ^ 20 := h1
    refine comp_acc (F := fun v => match v with | .int i => F x i.toNat | _ => []) _ acc ?_ (by rw [e3]; exact h1') (by rw [e3]; exact h2)
    intro y hy acc q h1 h2
    obtain ⟨i, hi, rfl⟩ := List.mem_map.mp hy
    exact step x hxx i (List.mem_range.mp hi) hp D acc q h1 h2
  · rw [e2, List.nil_append]
    exact frz_at hD h

theorem flat_one {α β : Type} {g : α → β} : ∀ {l : List α}, l.flatMap (fun x => [g x]) = l.map g
  | [] => rfl
  | x :: r => by rw [List.flatMap_cons, flat_one, List.map_cons]; rfl
theorem flat_filter {α β : Type} {p : α → Bool} {g : α → β} : ∀ {l : List α}, l.flatMap (fun x => if p x then [g x] else []) = (l.filter p).map g
  | [] => rfl
  | x :: r => by rw [List.flatMap_cons, flat_filter, List.filter_cons]; cases p x <;> rfl
theorem ints_map : ∀ (l : List Int), intsOf (l.map V.int) = some l
  | [] => rfl
  | i :: r => by rw [List.map_cons, intsOf, ints_map]; rfl
theorem if_nil {vars : Vars} {kb : Bool → Hp → Prop} (h : kb true hp) : vcIf T n [] vars hp kb := h
theorem if_one {e : E} {vars : Vars} {kb : Bool → Hp → Prop} (h : vcE T n e vars hp fun v hp₁ => ∃ t, truV hp₁ v = some t ∧ kb t hp₁) : vcIf T n [e] vars hp kb := by
  have key : ∀ {e : E} {vars : Vars} {hp : Hp} {k₁ k₂ : K1}, (∀ v hp₁, k₁ v hp₁ = k₂ v hp₁) → vcE T n e vars hp k₁ → vcE T n e vars hp k₂ := fun he hv => by
    rw [← show _ = _ from funext fun v => funext fun hp₁ => he v hp₁]; exact hv
  show vcE T n e vars hp fun v hp₁ => ∃ t, truV hp₁ v = some t ∧ if t then vcIf T n [] vars hp₁ kb else kb false hp₁
  refine key ?_ h
  intro v hp₁
  refine propext ⟨?_, ?_⟩
  · rintro ⟨t, h1, h2⟩; refine ⟨t, h1, ?_⟩; cases t with
    | true => rw [if_pos rfl]; exact h2
    | false => rw [if_neg Bool.false_ne_true]; exact h2
  · rintro ⟨t, h1, h2⟩; refine ⟨t, h1, ?_⟩; cases t with
    | true => rw [if_pos rfl] at h2; exact h2
    | false => rw [if_neg Bool.false_ne_true] at h2; exact h2
theorem t_ex {v : V} {b : Bool} {P : Bool → Prop} (e : truV hp v = some b) (h : P b) : ∃ t, truV hp v = some t ∧ P t := ⟨b, e, h⟩
theorem g_tup3 {i j l : Nat} {a b c v : V} {kt : Vars → Hp → Prop} (e : seqOf hp v = some [a, b, c]) (h : kt (((vars.set i (some a)).set j (some b)).set l (some c)) hp) : vcT T n (.tup [.var i, .var j, .var l]) v vars hp kt :=
  ⟨[a, b, c], e, rfl, rfl, h⟩
end
end Mine
namespace Hdd
open Mine
open PySem PySem.W PySem.Calls PyProof.Rows
open Sem (wp)

theorem calm_caller : Calm ⟨.builtin "claim.caller" {}, none, none, [], none⟩ := ⟨by decide +kernel, fun x hx => nomatch hx⟩

theorem thread_ends_bothC {prog : Program} {w : World} {t : Sem Fin} {s : Shared} {R : Result → Shared → Prop} (hreg : s.asleep)
    (h : wpC (model prog w) callerA t (fun fin s' => ∃ f, fin = .done f ∧ (R (.ok f) s' ∧ leftWithCleanup s'.gens = false)) (fun e s' => R (.error e) s' ∧ leftWithCleanup s'.gens = false) s) :
    ∃ n r s' s'', runN (denote table) prog w n s ⟨t, .builtin "claim.caller" {}, default, []⟩ = .halted (outcomeOf r) s' ∧
      schedN (denote table) prog w n (.single s ⟨t, .builtin "claim.caller" {}, default, []⟩) = .halted (outcomeOf r) s' ∧ s'.forget = s''.forget ∧ R r s'' := by
  have hw : wp (model prog w) ⟨.builtin "claim.caller" {}, none, none, [], none⟩ t
      (Sem.finPost (model prog w) ⟨.builtin "claim.caller" {}, none, none, [], none⟩ fun r s' => R r s' ∧ leftWithCleanup s'.gens = false)
      (fun e _ s' => R (.error e) s' ∧ leftWithCleanup s'.gens = false) default s :=
    Sem.wp_mono _ _ t (fun fin p' s' h' => by obtain ⟨f, rfl, hf⟩ := h'; exact hf) (fun _ _ _ h' => h') default s (h _ default caller_in calm_caller)
  obtain ⟨n, r, s₁, s₂, hs, hn, hfo, hR⟩ := wp_halts_full (M := model prog w) (R := R) hreg hw
  exact ⟨n, r, s₂, s₁, hn, hs, hfo, hR⟩

theorem callFrom_of_specC {c : ClaimW} {tree : List Value → Sem Fin} {w : World} {s : Shared} {free : Addr → Prop} {gens : Prop} {kept : Heap → Prop} (hz : s.asleep) (hgens : s.gens = #[])
    (hspec : ∀ args, c.pre args = true → WData.layableAll args = true →
      ∀ ord : List DictEntry → List DictEntry, (∀ l, (ord l).Perm l) →
      ∃ vs s₁, layAllW c.records (classAt s.heap) w.params ord args s = some (vs, s₁) ∧
        wpC (model c.prog w) callerA (tree vs) (fun fin s' => ∃ f, fin = .done f ∧ (c.Ends s args vs s₁ (.ok f) s' ∧ s'.os = s.os ∧ AllBare s'.gens ∧ kept s'.heap))
          (fun e s' => c.Ends s args vs s₁ (.error e) s' ∧ s'.os = s.os ∧ AllBare s'.gens ∧ kept s'.heap) s₁) :
    c.CallFrom (fun vs => ⟨tree vs, .builtin "claim.caller" {}, default, []⟩) w free gens kept s := by
  intro args hpre hlay ord hord
  obtain ⟨vs, s₁, hlaid, hcode⟩ := hspec args hpre hlay ord hord
  have hal := layAllW_rest _ _ _ hlaid
  obtain ⟨k, r, s', s'', hrun, hsched, hfo, hcase, hos, hkp⟩ := thread_ends_bothC (prog := c.prog) (w := w) (t := tree vs) (s := s₁)
    (R := fun r s' => c.Ends s args vs s₁ r s' ∧ s'.os = s.os ∧ kept s'.heap)
    (Shared.asleep_of_life hal.2.2.2 hz)
    (wpC_mono hcode (by
      rintro fin s' ⟨f, e, h1, h2, h3, h4⟩
      exact ⟨f, e, ⟨h1, h2, h4⟩, leftWithCleanup_false_of_bare h3⟩) (by
      rintro e s' ⟨h1, h2, h3, h4⟩
      exact ⟨⟨h1, h2, h4⟩, leftWithCleanup_false_of_bare h3⟩))
  obtain ⟨eh, _, _, eo, _⟩ := Shared.forget_eq hfo
  have hcase := hcase.congr eh
  have hkp : kept s'.heap := by rw [eh]; exact hkp
  rw [← eo] at hos
  have hlife : s'.heap.life = s.heap.life := (runN_life _ _ _ hrun).trans hal.2.2.2
  refine ⟨vs, s₁, hlaid, k, _, s', hsched, ?_, (fun _ i x hx => by rw [hgens] at hx; simp at hx), hkp, by rw [hlife], Shared.rest_eq hos⟩
  rcases hcase with ⟨v, rfl, d1, d2, d3, d4, d5⟩ | ⟨e, ob, cls, rfl, d1, d2, d3, d4, d5⟩
  · exact .inl ⟨v, rfl, d1, d2, d3, fun b o y _ => d4 b o y, d5⟩
  · exact .inr ⟨e, ob, cls, rfl, d1, d2, d3, d4, fun b o y _ => d5 b o y⟩

noncomputable abbrev WalkC (q : Program) (loose : List Str) (XP : (Str → Option Value) → Heap → Prop) (YP : World → Heap → Prop) (r : RowW) (d : DefRec) (kwd : List (Str × Expr)) : Prop :=
  ∀ (w : World) (s₀ s₁ : Shared) (mg mb : Str → Option Value), Ground q loose r.records XP w s₀ mg mb s₁.heap → YP w s₁.heap → ∀ (a : Addr) (o : Obj) (pm cd doc dV kV : Value), s₁.heap.get? a = some o →
    o.data = .func { docDef d.name d.params d.body d.scope pm cd doc with defaults := dV, kwdefaults := kV } → s₁.heap.CodeRec cd d.name → Dflts mg s₁.heap d.params kwd dV kV → mg d.name = some (.ref a) → s₁.gens = #[] →
    ∀ (args : List WData) (vals : List Value) (as : List Addr), r.claim.pre args = true → WData.layableAll args = true → ReadsAllW r.records (classAt s₀.heap) s₁.heap vals args as → WellAll w.params s₁.heap vals args → (∀ a ∈ as, (a == sysModules) = false) →
      wpC (model r.prog w) callerA (PySem.call (.ref a) vals) (fun v s' => GoodWG r.claim (classAt s₀.heap) (ExcName.means s₀.heap) args s₁ (.ok (.ret v)) s')
        (fun e s' => GoodWG r.claim (classAt s₀.heap) (ExcName.means s₀.heap) args s₁ (.error e) s') s₁

/-- the head's own theorem once more, over the calm contexts alone: the kit's head takes it by its name, as this name stands nearer -/
theorem PySem.W.holds_open {r : OpenRow} {q : Program} {loose : List Str} {Xt : Shared → Bool} {XP : (Str → Option Value) → Heap → Prop} {α : Type} {Yf : Shared → α} {Ya : World → α} {YP : World → Heap → Prop} {d : DefRec} {kwd : List (Str × Expr)} {N : Nat}
    (left : LeftO r.prog q loose Xt Yf Ya N) (hY : ∀ w s, Yf s = Ya w → YP w s.heap) (hYk : ∀ w h h', YP w h → (∀ b o, h.get? b = some o → h'.get? b = some o) → YP w h')
    (hX : ∀ s, Xt s = true → XP (s.heap.nsMap mainGlobals) s.heap) (hXk : ∀ mg h h', XP mg h → (∀ b o, h.get? b = some o → h'.get? b = some o) → XP mg h')
    (hdef : defOf q r.name = some (d, kwd)) (hp : r.prog.theDef r.name = some (d.params, d.body, d.scope)) (hk : kwWritten? d.params.kwonlyargs d.params.kw_defaults = some kwd) (hRf : ∀ s, Xt s = true → RecFacts r.records s.heap) (hwr : (!r.writes || r.records.isEmpty) = true)
    (k1 : r.wellSaid = true) (ok : (chainsOk q && opensWell r.prog && (frees r.toRowW && r.within.isEmpty)) = true) (hb : r.prog.bare) (hw : r.toRowW.promised)
    (call : WalkC q loose XP YP r.toRowW d kwd) : r.Holds := by
  refine ⟨k1, hw, ?_⟩
  obtain ⟨ok, k5⟩ := Bool.and_eq_true_iff.mp ok
  obtain ⟨hch, o1⟩ := Bool.and_eq_true_iff.mp ok
  obtain ⟨k5, k6⟩ := Bool.and_eq_true_iff.mp k5
  obtain ⟨hsame, hu, ha, hap, hm⟩ := frees_parts k5
  refine ⟨⟨hb, o1, by show r.toRowW.makers.map _ = []; rw [hm]; rfl⟩, hw.witness, fun w => ⟨(left.behind hX hch w).1, fun s' hs' => ?_⟩⟩
  obtain ⟨s₀, hf, hg0, s, hT, hz, hgens, hg, G00, y⟩ := (left.behind (XP := fun mg h => XP mg h ∧ RecFacts r.records h) (fun s hs => ⟨hX s hs, hRf s hs⟩) hch w).2 s' hs'
  have G0 : Ground q loose [] XP w s (s.heap.nsMap mainGlobals) (s.heap.nsMap builtinsNs) s.heap := ⟨G00.T, G00.B, G00.D, G00.TE, G00.TD, G00.W, G00.X.1, G00.cls, G00.has, G00.apart, G00.once, G00.K⟩
  have RF := G00.X.2
  have hT' := hT
  refine ⟨s₀, hf, hg0, s, hT, fun n hn => ?_, RF.1, RF.2.1, ?_⟩
  · obtain rfl : n = r.name := by split at hn <;> simp_all
    exact pinned_of_view hg G0 hdef hp hk
  have hgens : s.gens = #[] := Array.eq_empty_of_size_eq_zero (beq_iff_eq.mp hgens)
  have G : Ground q loose r.records XP w s _ _ s.heap := RF.ground G0
  refine callFrom_of_specC (c := r.toRowW.claim) hz hgens fun args hpre hlay ord hord => ?_
  obtain ⟨⟨vs, s₁⟩, hlaid⟩ := Option.isSome_iff_exists.mp (layAllW_isSome (P := w.params) (ord := ord) G.has args r.args s (pre_splitW hpre).1)
  have keeps := layAllW_keeps _ _ _ hlaid
  have hal := layAllW_rest _ _ _ hlaid
  obtain ⟨as, hrd, hin, hold⟩ := reads_layAllW hord _ _ _ hlaid hlay s₁.heap (fun _ _ e => e)
  have L : Laid r.records w s s₁ args vs as := ⟨⟨ord, hord, hlaid⟩, hrd, hin, hold, keeps, hal.1.trans hgens, hal.2.2.1⟩
  have G₁ := G.keeps hXk keeps
  obtain ⟨a, o, pm, cd, doc, dV, kV, h1, h2, h3, h4, h5⟩ := G₁.fn hdef
  have h := call w s s₁ _ _ G₁ (hYk _ _ _ (hY w s y) keeps) a o pm cd doc dV kV h2 h3 h4 h5 (defOf_name hdef ▸ h1) L.gens args vs as hpre hlay L.reads L.well (L.low G.low)
  have hi := ident_freeW hu ha hap
  have hwi : r.toRowW.claim.within = [] := List.isEmpty_iff.mp k6
  refine ⟨vs, s₁, hlaid, ?_⟩
  refine wpC_bind (wpC_of (wpAny_nsGet G₁.T.g ?_))
  rw [h1]
  refine wpC_bind (wpC_mono h (fun v s' g => wpC_pure ⟨_, rfl, have z := g.laid (c := r.toRowW.claim) hsame hwi hi L; ⟨z.1, z.2.1, z.2.2, fun q => ⟨namesKept_of hT' hg _ keeps g.2.1.old, noTable hwr q⟩⟩⟩) fun e s' g => have z := g.laid (c := r.toRowW.claim) hsame hwi hi L; ⟨z.1, z.2.1, z.2.2, fun q => ⟨namesKept_of hT' hg _ keeps g.2.1.old, noTable hwr q⟩⟩)

end Hdd
namespace Mine
open PySem PySem.W PySem.Calls PyProof.Rows

/-! what stands in the heap behind the text: the objects that the walk may meet. A function's own text is taken from the row. -/
noncomputable def noPos : Pos := ⟨0, 0, 0, 0⟩
noncomputable def stA (i : Nat) : Stmt := PySem.Challenge.pw_bb0042_03.main.body.getD i (.Pass noPos)
noncomputable def stB (i j : Nat) : Stmt := match stA i with
  | .ClassDef _ _ _ body _ _ _ _ _ _ _ => body.getD j (.Pass noPos)
  | _ => .Pass noPos
noncomputable def fdArgs : Stmt → Arguments
  | .FunctionDef _ a _ _ _ _ _ _ _ _ => a
  | _ => ⟨[], [], none, [], [], none, []⟩
noncomputable def fdBody : Stmt → FuncBody
  | .FunctionDef _ _ b _ _ _ _ _ _ _ => .stmts b
  | _ => .stmts []
noncomputable def fdScope : Stmt → Scope
  | .FunctionDef _ _ _ _ _ _ s _ _ _ => s
  | _ => ⟨.function, [], false, false, []⟩
noncomputable def K03c0 (P : Params) : Frag := [
  (2, (PySem.Obj.mk (PySem.Value.none) none (PySem.Data.dict (List.toArray [(PySem.DictEntry.mk (PySem.PyData.keyHash P (Str.ofString "\x69mport.loaded._struct")) (PySem.Value.str (Str.ofString "\x69mport.loaded._struct") 186) (PySem.Value.bool (Bool.true))), (PySem.DictEntry.mk (PySem.PyData.keyHash P (Str.ofString "class._frozen_importlib_external._LoaderBasics")) (PySem.Value.str (Str.ofString "class._frozen_importlib_external._LoaderBasics") 191) (PySem.Value.ref 16)), (PySem.DictEntry.mk (PySem.PyData.keyHash P (Str.ofString "watched.\x69mport")) (PySem.Value.str (Str.ofString "watched.\x69mport") 207) (PySem.Value.ref 20)), (PySem.DictEntry.mk (PySem.PyData.keyHash P (Str.ofString "class._frozen_importlib_external.FileLoader")) (PySem.Value.str (Str.ofString "class._frozen_importlib_external.FileLoader") 208) (PySem.Value.ref 22)), (PySem.DictEntry.mk (PySem.PyData.keyHash P (Str.ofString "class._frozen_importlib_external.ExtensionFileLoader")) (PySem.Value.str (Str.ofString "class._frozen_importlib_external.ExtensionFileLoader") 229) (PySem.Value.ref 27)), (PySem.DictEntry.mk (PySem.PyData.keyHash P (Str.ofString "class._frozen_importlib.ModuleSpec")) (PySem.Value.str (Str.ofString "class._frozen_importlib.ModuleSpec") 257) (PySem.Value.ref 33)), (PySem.DictEntry.mk (PySem.PyData.keyHash P (Str.ofString "sys.modules.booked-epoch")) (PySem.Value.str (Str.ofString "sys.modules.booked-epoch") 286) (PySem.Value.int 3 0)), (PySem.DictEntry.mk (PySem.PyData.keyHash P (Str.ofString "class.struct.error")) (PySem.Value.str (Str.ofString "class.struct.error") 303) (PySem.Value.type "struct.error")), (PySem.DictEntry.mk (PySem.PyData.keyHash P (Str.ofString "\x69mport.later-laid._struct")) (PySem.Value.str (Str.ofString "\x69mport.later-laid._struct") 305) (PySem.Value.bool (Bool.true))), (PySem.DictEntry.mk (PySem.PyData.keyHash P (Str.ofString "watched.library")) (PySem.Value.str (Str.ofString "watched.library") 307) (PySem.Value.ref 38)), (PySem.DictEntry.mk (PySem.PyData.keyHash P (Str.ofString "watched.library-objects")) (PySem.Value.str (Str.ofString "watched.library-objects") 0) (PySem.Value.str (Str.ofString "\r") 0))]) 11) (List.toArray []))),
  (3, (PySem.Obj.mk (PySem.Value.type "dict") none (PySem.Data.dict (List.toArray [(PySem.DictEntry.mk (PySem.PyData.keyHash P (Str.ofString "__name__")) (PySem.Value.str (Str.ofString "__name__") 165) (PySem.Value.str (Str.ofString "law_bb0042_03") 1358)), (PySem.DictEntry.mk (PySem.PyData.keyHash P (Str.ofString "__doc__")) (PySem.Value.str (Str.ofString "__doc__") 166) (PySem.Value.none)), (PySem.DictEntry.mk (PySem.PyData.keyHash P (Str.ofString "__package__")) (PySem.Value.str (Str.ofString "__package__") 167) (PySem.Value.none)), (PySem.DictEntry.mk (PySem.PyData.keyHash P (Str.ofString "__loader__")) (PySem.Value.str (Str.ofString "__loader__") 168) (PySem.Value.builtin "__main__.__loader__#opaque")), (PySem.DictEntry.mk (PySem.PyData.keyHash P (Str.ofString "__spec__")) (PySem.Value.str (Str.ofString "__spec__") 169) (PySem.Value.none)), (PySem.DictEntry.mk (PySem.PyData.keyHash P (Str.ofString "__annotations__")) (PySem.Value.str (Str.ofString "__annotations__") 170) (PySem.Value.ref 6)), (PySem.DictEntry.mk (PySem.PyData.keyHash P (Str.ofString "__builtins__")) (PySem.Value.str (Str.ofString "__builtins__") 171) (PySem.Value.ref 4)), (PySem.DictEntry.mk (PySem.PyData.keyHash P (Str.ofString "__file__")) (PySem.Value.str (Str.ofString "__file__") 173) (PySem.Value.str (Str.ofString "/claim/cut.py") 172)), (PySem.DictEntry.mk (PySem.PyData.keyHash P (Str.ofString "__cached__")) (PySem.Value.str (Str.ofString "__cached__") 174) (PySem.Value.none)), (PySem.DictEntry.mk (PySem.PyData.keyHash P (Str.ofString "Struct")) (PySem.Value.str (Str.ofString "Struct") 313) (PySem.Value.type "_struct.Struct")), (PySem.DictEntry.mk (PySem.PyData.keyHash P (Str.ofString "unpack")) (PySem.Value.str (Str.ofString "unpack") 316) (PySem.Value.builtin "_struct.unpack")), (PySem.DictEntry.mk (PySem.PyData.keyHash P (Str.ofString "_wall")) (PySem.Value.str (Str.ofString "_wall") 329) (PySem.Value.ref 49)), (PySem.DictEntry.mk (PySem.PyData.keyHash P (Str.ofString "uint8")) (PySem.Value.str (Str.ofString "uint8") 334) (PySem.Value.ref 50)), (PySem.DictEntry.mk (PySem.PyData.keyHash P (Str.ofString "uint16")) (PySem.Value.str (Str.ofString "uint16") 337) (PySem.Value.ref 51)), (PySem.DictEntry.mk (PySem.PyData.keyHash P (Str.ofString "uint32")) (PySem.Value.str (Str.ofString "uint32") 340) (PySem.Value.ref 52)), (PySem.DictEntry.mk (PySem.PyData.keyHash P (Str.ofString "uint64")) (PySem.Value.str (Str.ofString "uint64") 343) (PySem.Value.ref 53)), (PySem.DictEntry.mk (PySem.PyData.keyHash P (Str.ofString "int32")) (PySem.Value.str (Str.ofString "int32") 346) (PySem.Value.ref 54)), (PySem.DictEntry.mk (PySem.PyData.keyHash P (Str.ofString "uoffset")) (PySem.Value.str (Str.ofString "uoffset") 347) (PySem.Value.ref 52)), (PySem.DictEntry.mk (PySem.PyData.keyHash P (Str.ofString "soffset")) (PySem.Value.str (Str.ofString "soffset") 348) (PySem.Value.ref 54)), (PySem.DictEntry.mk (PySem.PyData.keyHash P (Str.ofString "Uint8Flags")) (PySem.Value.str (Str.ofString "Uint8Flags") 384) (PySem.Value.ref 64)), (PySem.DictEntry.mk (PySem.PyData.keyHash P (Str.ofString "Uint16Flags")) (PySem.Value.str (Str.ofString "Uint16Flags") 418) (PySem.Value.ref 78)), (PySem.DictEntry.mk (PySem.PyData.keyHash P (Str.ofString "Uint32Flags")) (PySem.Value.str (Str.ofString "Uint32Flags") 452) (PySem.Value.ref 92)), (PySem.DictEntry.mk (PySem.PyData.keyHash P (Str.ofString "Uint64Flags")) (PySem.Value.str (Str.ofString "Uint64Flags") 486) (PySem.Value.ref 106)), (PySem.DictEntry.mk (PySem.PyData.keyHash P (Str.ofString "Int32Flags")) (PySem.Value.str (Str.ofString "Int32Flags") 523) (PySem.Value.ref 120)), (PySem.DictEntry.mk (PySem.PyData.keyHash P (Str.ofString "SOffsetTFlags")) (PySem.Value.str (Str.ofString "SOffsetTFlags") 539) (PySem.Value.ref 134)), (PySem.DictEntry.mk (PySem.PyData.keyHash P (Str.ofString "UOffsetTFlags")) (PySem.Value.str (Str.ofString "UOffsetTFlags") 555) (PySem.Value.ref 146)), (PySem.DictEntry.mk (PySem.PyData.keyHash P (Str.ofString "VOffsetTFlags")) (PySem.Value.str (Str.ofString "VOffsetTFlags") 571) (PySem.Value.ref 158)), (PySem.DictEntry.mk (PySem.PyData.keyHash P (Str.ofString "enforce_number")) (PySem.Value.str (Str.ofString "enforce_number") 579) (PySem.Value.ref 167)), (PySem.DictEntry.mk (PySem.PyData.keyHash P (Str.ofString "FILE_IDENTIFIER_LENGTH")) (PySem.Value.str (Str.ofString "FILE_IDENTIFIER_LENGTH") 583) (PySem.Value.int 4 582)), (PySem.DictEntry.mk (PySem.PyData.keyHash P (Str.ofString "Get")) (PySem.Value.str (Str.ofString "Get") 592) (PySem.Value.ref 174)), (PySem.DictEntry.mk (PySem.PyData.keyHash P (Str.ofString "Get_encode")) (PySem.Value.str (Str.ofString "Get_encode") 593) (PySem.Value.ref 174)), (PySem.DictEntry.mk (PySem.PyData.keyHash P (Str.ofString "Write")) (PySem.Value.str (Str.ofString "Write") 603) (PySem.Value.ref 181)), (PySem.DictEntry.mk (PySem.PyData.keyHash P (Str.ofString "OffsetArithmeticError")) (PySem.Value.str (Str.ofString "OffsetArithmeticError") 623) (PySem.Value.ref 191)), (PySem.DictEntry.mk (PySem.PyData.keyHash P (Str.ofString "IsNotNestedError")) (PySem.Value.str (Str.ofString "IsNotNestedError") 641) (PySem.Value.ref 204)), (PySem.DictEntry.mk (PySem.PyData.keyHash P (Str.ofString "IsNestedError")) (PySem.Value.str (Str.ofString "IsNestedError") 659) (PySem.Value.ref 217)), (PySem.DictEntry.mk (PySem.PyData.keyHash P (Str.ofString "BuilderSizeError")) (PySem.Value.str (Str.ofString "BuilderSizeError") 677) (PySem.Value.ref 230)), (PySem.DictEntry.mk (PySem.PyData.keyHash P (Str.ofString "BuilderNotFinishedError")) (PySem.Value.str (Str.ofString "BuilderNotFinishedError") 695) (PySem.Value.ref 243)), (PySem.DictEntry.mk (PySem.PyData.keyHash P (Str.ofString "VtableMetadataFields")) (PySem.Value.str (Str.ofString "VtableMetadataFields") 697) (PySem.Value.int 2 696)), (PySem.DictEntry.mk (PySem.PyData.keyHash P (Str.ofString "Builder")) (PySem.Value.str (Str.ofString "Builder") 1241) (PySem.Value.ref 648)), (PySem.DictEntry.mk (PySem.PyData.keyHash P (Str.ofString "Table")) (PySem.Value.str (Str.ofString "Table") 1357) (PySem.Value.ref 743)), (PySem.DictEntry.mk (PySem.PyData.keyHash P (Str.ofString "_law_flags")) (PySem.Value.str (Str.ofString "_law_flags") 1366) (PySem.Value.ref 754)), (PySem.DictEntry.mk (PySem.PyData.keyHash P (Str.ofString "_law_laid")) (PySem.Value.str (Str.ofString "_law_laid") 1380) (PySem.Value.ref 761)), (PySem.DictEntry.mk (PySem.PyData.keyHash P (Str.ofString "_law_good")) (PySem.Value.str (Str.ofString "_law_good") 1397) (PySem.Value.ref 768)), (PySem.DictEntry.mk (PySem.PyData.keyHash P (Str.ofString "law")) (PySem.Value.str (Str.ofString "law") 1403) (PySem.Value.ref 773))]) 44) (List.toArray []))),
  (43, (PySem.Obj.mk (PySem.Value.type "tuple") none (PySem.Data.seq (List.toArray []) 0) (List.toArray []))),
  (45, (PySem.Obj.mk (PySem.Value.type "tuple") none (PySem.Data.seq (List.toArray [(PySem.Value.str (Str.ofString "k") 326)]) 0) (List.toArray []))),
  (46, (PySem.Obj.mk (PySem.Value.type "tuple") none (PySem.Data.seq (List.toArray []) 0) (List.toArray []))),
  (48, (PySem.Obj.mk (PySem.Value.type "code") none (PySem.Data.fields (List.toArray [(PySem.Value.str (Str.ofString "_wall") 323), (PySem.Value.str (Str.ofString "_wall") 324), (PySem.Value.str (Str.ofString "/claim/cut.py") 325), (PySem.Value.int 2 0), (PySem.Value.int 1 0), (PySem.Value.int 0 0), (PySem.Value.int 0 0), (PySem.Value.int 3 0), (PySem.Value.ref 43), (PySem.Value.bool (Bool.true)), (PySem.Value.int 317 0), (PySem.Value.ref 44), (PySem.Value.none), (PySem.Value.ref 45), (PySem.Value.ref 46), (PySem.Value.ref 47), (PySem.Value.int 327 0), (PySem.Value.int 2 0), (PySem.Value.str (Str.ofString "/claim/cut.py") 328)])) (List.toArray []))),
  (49, (PySem.Obj.mk (PySem.Value.type "function") none (PySem.Data.func (PySem.FuncData.mk (Str.ofString "_wall") (Str.ofString "_wall") (fdArgs (stA 1)) (fdBody (stA 1)) (fdScope (stA 1)) 3 [] (PySem.Value.none) (PySem.Value.none) (PySem.Value.none) (PySem.Value.str (Str.ofString "__main__") 164) none (PySem.Value.ref 48) (PySem.Value.none) 0)) (List.toArray []))),
  (50, (PySem.Obj.mk (PySem.Value.type "_struct.Struct") none (PySem.Data.fields (List.toArray [(PySem.Value.bytes (List.toArray [60, 66]) 333)])) (List.toArray []))),
  (51, (PySem.Obj.mk (PySem.Value.type "_struct.Struct") none (PySem.Data.fields (List.toArray [(PySem.Value.bytes (List.toArray [60, 72]) 336)])) (List.toArray []))),
  (52, (PySem.Obj.mk (PySem.Value.type "_struct.Struct") none (PySem.Data.fields (List.toArray [(PySem.Value.bytes (List.toArray [60, 73]) 339)])) (List.toArray []))),
  (53, (PySem.Obj.mk (PySem.Value.type "_struct.Struct") none (PySem.Data.fields (List.toArray [(PySem.Value.bytes (List.toArray [60, 81]) 342)])) (List.toArray []))),
  (54, (PySem.Obj.mk (PySem.Value.type "_struct.Struct") none (PySem.Data.fields (List.toArray [(PySem.Value.bytes (List.toArray [60, 105]) 345)])) (List.toArray []))),
  (55, (PySem.Obj.mk (PySem.Value.type "tuple") none (PySem.Data.seq (List.toArray [(PySem.Value.type "object")]) 0) (List.toArray []))),
  (62, (PySem.Obj.mk (PySem.Value.type "tuple") none (PySem.Data.seq (List.toArray []) 0) (List.toArray []))),
  (63, (PySem.Obj.mk (PySem.Value.type "dict") none (PySem.Data.dict (List.toArray [(PySem.DictEntry.mk (PySem.PyData.keyHash P (Str.ofString "__module__")) (PySem.Value.str (Str.ofString "__module__") 358) (PySem.Value.str (Str.ofString "flatbuffers.number_types") 349)), (PySem.DictEntry.mk (PySem.PyData.keyHash P (Str.ofString "__firstlineno__")) (PySem.Value.str (Str.ofString "__firstlineno__") 362) (PySem.Value.int 14 361)), (PySem.DictEntry.mk (PySem.PyData.keyHash P (Str.ofString "bytewidth")) (PySem.Value.str (Str.ofString "bytewidth") 364) (PySem.Value.int 1 363)), (PySem.DictEntry.mk (PySem.PyData.keyHash P (Str.ofString "min_val")) (PySem.Value.str (Str.ofString "min_val") 366) (PySem.Value.int 0 365)), (PySem.DictEntry.mk (PySem.PyData.keyHash P (Str.ofString "max_val")) (PySem.Value.str (Str.ofString "max_val") 372) (PySem.Value.int 255 371)), (PySem.DictEntry.mk (PySem.PyData.keyHash P (Str.ofString "py_type")) (PySem.Value.str (Str.ofString "py_type") 373) (PySem.Value.type "int")), (PySem.DictEntry.mk (PySem.PyData.keyHash P (Str.ofString "name")) (PySem.Value.str (Str.ofString "name") 375) (PySem.Value.str (Str.ofString "uint8") 374)), (PySem.DictEntry.mk (PySem.PyData.keyHash P (Str.ofString "packer_type")) (PySem.Value.str (Str.ofString "packer_type") 376) (PySem.Value.ref 50)), (PySem.DictEntry.mk (PySem.PyData.keyHash P (Str.ofString "__static_attributes__")) (PySem.Value.str (Str.ofString "__static_attributes__") 377) (PySem.Value.ref 62)), (PySem.DictEntry.mk (PySem.PyData.keyHash P (Str.ofString "__dict__")) (PySem.Value.str (Str.ofString "__dict__") 379) (PySem.Value.ref 65)), (PySem.DictEntry.mk (PySem.PyData.keyHash P (Str.ofString "__weakref__")) (PySem.Value.str (Str.ofString "__weakref__") 381) (PySem.Value.ref 66)), (PySem.DictEntry.mk (PySem.PyData.keyHash P (Str.ofString "__doc__")) (PySem.Value.str (Str.ofString "__doc__") 382) (PySem.Value.none))]) 4) (List.toArray [])))]
noncomputable def K03c1 (P : Params) : Frag := [
  (64, (PySem.Obj.mk (PySem.Value.type "type") none (PySem.Data.cls (PySem.ClassData.mk (Str.ofString "Uint8Flags") [(PySem.Value.type "object")] [(PySem.Value.ref 64), (PySem.Value.type "object")] 63 (Str.ofString "Uint8Flags") (Bool.true) [] [] (Bool.false) none (Bool.false))) (List.toArray [(some (PySem.Value.ref 55)), none, (some (PySem.Value.str (Str.ofString "Uint8Flags") 351)), (some (PySem.Value.str (Str.ofString "Uint8Flags") 359)), (some (PySem.Value.builtin "object.__new__")), (some (PySem.Value.bool (Bool.true)))]))),
  (69, (PySem.Obj.mk (PySem.Value.type "tuple") none (PySem.Data.seq (List.toArray [(PySem.Value.type "object")]) 0) (List.toArray []))),
  (76, (PySem.Obj.mk (PySem.Value.type "tuple") none (PySem.Data.seq (List.toArray []) 0) (List.toArray []))),
  (77, (PySem.Obj.mk (PySem.Value.type "dict") none (PySem.Data.dict (List.toArray [(PySem.DictEntry.mk (PySem.PyData.keyHash P (Str.ofString "__module__")) (PySem.Value.str (Str.ofString "__module__") 392) (PySem.Value.str (Str.ofString "flatbuffers.number_types") 349)), (PySem.DictEntry.mk (PySem.PyData.keyHash P (Str.ofString "__firstlineno__")) (PySem.Value.str (Str.ofString "__firstlineno__") 396) (PySem.Value.int 21 395)), (PySem.DictEntry.mk (PySem.PyData.keyHash P (Str.ofString "bytewidth")) (PySem.Value.str (Str.ofString "bytewidth") 398) (PySem.Value.int 2 397)), (PySem.DictEntry.mk (PySem.PyData.keyHash P (Str.ofString "min_val")) (PySem.Value.str (Str.ofString "min_val") 400) (PySem.Value.int 0 399)), (PySem.DictEntry.mk (PySem.PyData.keyHash P (Str.ofString "max_val")) (PySem.Value.str (Str.ofString "max_val") 406) (PySem.Value.int 65535 405)), (PySem.DictEntry.mk (PySem.PyData.keyHash P (Str.ofString "py_type")) (PySem.Value.str (Str.ofString "py_type") 407) (PySem.Value.type "int")), (PySem.DictEntry.mk (PySem.PyData.keyHash P (Str.ofString "name")) (PySem.Value.str (Str.ofString "name") 409) (PySem.Value.str (Str.ofString "uint16") 408)), (PySem.DictEntry.mk (PySem.PyData.keyHash P (Str.ofString "packer_type")) (PySem.Value.str (Str.ofString "packer_type") 410) (PySem.Value.ref 51)), (PySem.DictEntry.mk (PySem.PyData.keyHash P (Str.ofString "__static_attributes__")) (PySem.Value.str (Str.ofString "__static_attributes__") 411) (PySem.Value.ref 76)), (PySem.DictEntry.mk (PySem.PyData.keyHash P (Str.ofString "__dict__")) (PySem.Value.str (Str.ofString "__dict__") 413) (PySem.Value.ref 79)), (PySem.DictEntry.mk (PySem.PyData.keyHash P (Str.ofString "__weakref__")) (PySem.Value.str (Str.ofString "__weakref__") 415) (PySem.Value.ref 80)), (PySem.DictEntry.mk (PySem.PyData.keyHash P (Str.ofString "__doc__")) (PySem.Value.str (Str.ofString "__doc__") 416) (PySem.Value.none))]) 4) (List.toArray []))),
  (78, (PySem.Obj.mk (PySem.Value.type "type") none (PySem.Data.cls (PySem.ClassData.mk (Str.ofString "Uint16Flags") [(PySem.Value.type "object")] [(PySem.Value.ref 78), (PySem.Value.type "object")] 77 (Str.ofString "Uint16Flags") (Bool.true) [] [(PySem.Value.ref 158)] (Bool.false) none (Bool.false))) (List.toArray [(some (PySem.Value.ref 69)), none, (some (PySem.Value.str (Str.ofString "Uint16Flags") 385)), (some (PySem.Value.str (Str.ofString "Uint16Flags") 393)), (some (PySem.Value.builtin "object.__new__")), (some (PySem.Value.bool (Bool.true)))]))),
  (83, (PySem.Obj.mk (PySem.Value.type "tuple") none (PySem.Data.seq (List.toArray [(PySem.Value.type "object")]) 0) (List.toArray []))),
  (90, (PySem.Obj.mk (PySem.Value.type "tuple") none (PySem.Data.seq (List.toArray []) 0) (List.toArray []))),
  (91, (PySem.Obj.mk (PySem.Value.type "dict") none (PySem.Data.dict (List.toArray [(PySem.DictEntry.mk (PySem.PyData.keyHash P (Str.ofString "__module__")) (PySem.Value.str (Str.ofString "__module__") 426) (PySem.Value.str (Str.ofString "flatbuffers.number_types") 349)), (PySem.DictEntry.mk (PySem.PyData.keyHash P (Str.ofString "__firstlineno__")) (PySem.Value.str (Str.ofString "__firstlineno__") 430) (PySem.Value.int 28 429)), (PySem.DictEntry.mk (PySem.PyData.keyHash P (Str.ofString "bytewidth")) (PySem.Value.str (Str.ofString "bytewidth") 432) (PySem.Value.int 4 431)), (PySem.DictEntry.mk (PySem.PyData.keyHash P (Str.ofString "min_val")) (PySem.Value.str (Str.ofString "min_val") 434) (PySem.Value.int 0 433)), (PySem.DictEntry.mk (PySem.PyData.keyHash P (Str.ofString "max_val")) (PySem.Value.str (Str.ofString "max_val") 440) (PySem.Value.int 4294967295 439)), (PySem.DictEntry.mk (PySem.PyData.keyHash P (Str.ofString "py_type")) (PySem.Value.str (Str.ofString "py_type") 441) (PySem.Value.type "int")), (PySem.DictEntry.mk (PySem.PyData.keyHash P (Str.ofString "name")) (PySem.Value.str (Str.ofString "name") 443) (PySem.Value.str (Str.ofString "uint32") 442)), (PySem.DictEntry.mk (PySem.PyData.keyHash P (Str.ofString "packer_type")) (PySem.Value.str (Str.ofString "packer_type") 444) (PySem.Value.ref 52)), (PySem.DictEntry.mk (PySem.PyData.keyHash P (Str.ofString "__static_attributes__")) (PySem.Value.str (Str.ofString "__static_attributes__") 445) (PySem.Value.ref 90)), (PySem.DictEntry.mk (PySem.PyData.keyHash P (Str.ofString "__dict__")) (PySem.Value.str (Str.ofString "__dict__") 447) (PySem.Value.ref 93)), (PySem.DictEntry.mk (PySem.PyData.keyHash P (Str.ofString "__weakref__")) (PySem.Value.str (Str.ofString "__weakref__") 449) (PySem.Value.ref 94)), (PySem.DictEntry.mk (PySem.PyData.keyHash P (Str.ofString "__doc__")) (PySem.Value.str (Str.ofString "__doc__") 450) (PySem.Value.none))]) 4) (List.toArray []))),
  (92, (PySem.Obj.mk (PySem.Value.type "type") none (PySem.Data.cls (PySem.ClassData.mk (Str.ofString "Uint32Flags") [(PySem.Value.type "object")] [(PySem.Value.ref 92), (PySem.Value.type "object")] 91 (Str.ofString "Uint32Flags") (Bool.true) [] [(PySem.Value.ref 146)] (Bool.false) none (Bool.false))) (List.toArray [(some (PySem.Value.ref 83)), none, (some (PySem.Value.str (Str.ofString "Uint32Flags") 419)), (some (PySem.Value.str (Str.ofString "Uint32Flags") 427)), (some (PySem.Value.builtin "object.__new__")), (some (PySem.Value.bool (Bool.true)))]))),
  (97, (PySem.Obj.mk (PySem.Value.type "tuple") none (PySem.Data.seq (List.toArray [(PySem.Value.type "object")]) 0) (List.toArray []))),
  (104, (PySem.Obj.mk (PySem.Value.type "tuple") none (PySem.Data.seq (List.toArray []) 0) (List.toArray []))),
  (105, (PySem.Obj.mk (PySem.Value.type "dict") none (PySem.Data.dict (List.toArray [(PySem.DictEntry.mk (PySem.PyData.keyHash P (Str.ofString "__module__")) (PySem.Value.str (Str.ofString "__module__") 460) (PySem.Value.str (Str.ofString "flatbuffers.number_types") 349)), (PySem.DictEntry.mk (PySem.PyData.keyHash P (Str.ofString "__firstlineno__")) (PySem.Value.str (Str.ofString "__firstlineno__") 464) (PySem.Value.int 35 463)), (PySem.DictEntry.mk (PySem.PyData.keyHash P (Str.ofString "bytewidth")) (PySem.Value.str (Str.ofString "bytewidth") 466) (PySem.Value.int 8 465)), (PySem.DictEntry.mk (PySem.PyData.keyHash P (Str.ofString "min_val")) (PySem.Value.str (Str.ofString "min_val") 468) (PySem.Value.int 0 467)), (PySem.DictEntry.mk (PySem.PyData.keyHash P (Str.ofString "max_val")) (PySem.Value.str (Str.ofString "max_val") 474) (PySem.Value.int 18446744073709551615 473)), (PySem.DictEntry.mk (PySem.PyData.keyHash P (Str.ofString "py_type")) (PySem.Value.str (Str.ofString "py_type") 475) (PySem.Value.type "int")), (PySem.DictEntry.mk (PySem.PyData.keyHash P (Str.ofString "name")) (PySem.Value.str (Str.ofString "name") 477) (PySem.Value.str (Str.ofString "uint64") 476)), (PySem.DictEntry.mk (PySem.PyData.keyHash P (Str.ofString "packer_type")) (PySem.Value.str (Str.ofString "packer_type") 478) (PySem.Value.ref 53)), (PySem.DictEntry.mk (PySem.PyData.keyHash P (Str.ofString "__static_attributes__")) (PySem.Value.str (Str.ofString "__static_attributes__") 479) (PySem.Value.ref 104)), (PySem.DictEntry.mk (PySem.PyData.keyHash P (Str.ofString "__dict__")) (PySem.Value.str (Str.ofString "__dict__") 481) (PySem.Value.ref 107)), (PySem.DictEntry.mk (PySem.PyData.keyHash P (Str.ofString "__weakref__")) (PySem.Value.str (Str.ofString "__weakref__") 483) (PySem.Value.ref 108)), (PySem.DictEntry.mk (PySem.PyData.keyHash P (Str.ofString "__doc__")) (PySem.Value.str (Str.ofString "__doc__") 484) (PySem.Value.none))]) 4) (List.toArray []))),
  (106, (PySem.Obj.mk (PySem.Value.type "type") none (PySem.Data.cls (PySem.ClassData.mk (Str.ofString "Uint64Flags") [(PySem.Value.type "object")] [(PySem.Value.ref 106), (PySem.Value.type "object")] 105 (Str.ofString "Uint64Flags") (Bool.true) [] [] (Bool.false) none (Bool.false))) (List.toArray [(some (PySem.Value.ref 97)), none, (some (PySem.Value.str (Str.ofString "Uint64Flags") 453)), (some (PySem.Value.str (Str.ofString "Uint64Flags") 461)), (some (PySem.Value.builtin "object.__new__")), (some (PySem.Value.bool (Bool.true)))]))),
  (111, (PySem.Obj.mk (PySem.Value.type "tuple") none (PySem.Data.seq (List.toArray [(PySem.Value.type "object")]) 0) (List.toArray []))),
  (118, (PySem.Obj.mk (PySem.Value.type "tuple") none (PySem.Data.seq (List.toArray []) 0) (List.toArray [])))]
noncomputable def K03c2 (P : Params) : Frag := [
  (119, (PySem.Obj.mk (PySem.Value.type "dict") none (PySem.Data.dict (List.toArray [(PySem.DictEntry.mk (PySem.PyData.keyHash P (Str.ofString "__module__")) (PySem.Value.str (Str.ofString "__module__") 494) (PySem.Value.str (Str.ofString "flatbuffers.number_types") 349)), (PySem.DictEntry.mk (PySem.PyData.keyHash P (Str.ofString "__firstlineno__")) (PySem.Value.str (Str.ofString "__firstlineno__") 498) (PySem.Value.int 42 497)), (PySem.DictEntry.mk (PySem.PyData.keyHash P (Str.ofString "bytewidth")) (PySem.Value.str (Str.ofString "bytewidth") 500) (PySem.Value.int 4 499)), (PySem.DictEntry.mk (PySem.PyData.keyHash P (Str.ofString "min_val")) (PySem.Value.str (Str.ofString "min_val") 505) (PySem.Value.int (-2147483648) 504)), (PySem.DictEntry.mk (PySem.PyData.keyHash P (Str.ofString "max_val")) (PySem.Value.str (Str.ofString "max_val") 511) (PySem.Value.int 2147483647 510)), (PySem.DictEntry.mk (PySem.PyData.keyHash P (Str.ofString "py_type")) (PySem.Value.str (Str.ofString "py_type") 512) (PySem.Value.type "int")), (PySem.DictEntry.mk (PySem.PyData.keyHash P (Str.ofString "name")) (PySem.Value.str (Str.ofString "name") 514) (PySem.Value.str (Str.ofString "int32") 513)), (PySem.DictEntry.mk (PySem.PyData.keyHash P (Str.ofString "packer_type")) (PySem.Value.str (Str.ofString "packer_type") 515) (PySem.Value.ref 54)), (PySem.DictEntry.mk (PySem.PyData.keyHash P (Str.ofString "__static_attributes__")) (PySem.Value.str (Str.ofString "__static_attributes__") 516) (PySem.Value.ref 118)), (PySem.DictEntry.mk (PySem.PyData.keyHash P (Str.ofString "__dict__")) (PySem.Value.str (Str.ofString "__dict__") 518) (PySem.Value.ref 121)), (PySem.DictEntry.mk (PySem.PyData.keyHash P (Str.ofString "__weakref__")) (PySem.Value.str (Str.ofString "__weakref__") 520) (PySem.Value.ref 122)), (PySem.DictEntry.mk (PySem.PyData.keyHash P (Str.ofString "__doc__")) (PySem.Value.str (Str.ofString "__doc__") 521) (PySem.Value.none))]) 4) (List.toArray []))),
  (120, (PySem.Obj.mk (PySem.Value.type "type") none (PySem.Data.cls (PySem.ClassData.mk (Str.ofString "Int32Flags") [(PySem.Value.type "object")] [(PySem.Value.ref 120), (PySem.Value.type "object")] 119 (Str.ofString "Int32Flags") (Bool.true) [] [(PySem.Value.ref 134)] (Bool.false) none (Bool.false))) (List.toArray [(some (PySem.Value.ref 111)), none, (some (PySem.Value.str (Str.ofString "Int32Flags") 487)), (some (PySem.Value.str (Str.ofString "Int32Flags") 495)), (some (PySem.Value.builtin "object.__new__")), (some (PySem.Value.bool (Bool.true)))]))),
  (125, (PySem.Obj.mk (PySem.Value.type "tuple") none (PySem.Data.seq (List.toArray [(PySem.Value.ref 120)]) 0) (List.toArray []))),
  (132, (PySem.Obj.mk (PySem.Value.type "tuple") none (PySem.Data.seq (List.toArray []) 0) (List.toArray []))),
  (133, (PySem.Obj.mk (PySem.Value.type "dict") none (PySem.Data.dict (List.toArray [(PySem.DictEntry.mk (PySem.PyData.keyHash P (Str.ofString "__module__")) (PySem.Value.str (Str.ofString "__module__") 531) (PySem.Value.str (Str.ofString "flatbuffers.number_types") 349)), (PySem.DictEntry.mk (PySem.PyData.keyHash P (Str.ofString "__firstlineno__")) (PySem.Value.str (Str.ofString "__firstlineno__") 535) (PySem.Value.int 49 534)), (PySem.DictEntry.mk (PySem.PyData.keyHash P (Str.ofString "__static_attributes__")) (PySem.Value.str (Str.ofString "__static_attributes__") 536) (PySem.Value.ref 132)), (PySem.DictEntry.mk (PySem.PyData.keyHash P (Str.ofString "__doc__")) (PySem.Value.str (Str.ofString "__doc__") 537) (PySem.Value.none))]) 2) (List.toArray []))),
  (134, (PySem.Obj.mk (PySem.Value.type "type") none (PySem.Data.cls (PySem.ClassData.mk (Str.ofString "SOffsetTFlags") [(PySem.Value.ref 120)] [(PySem.Value.ref 134), (PySem.Value.ref 120), (PySem.Value.type "object")] 133 (Str.ofString "SOffsetTFlags") (Bool.true) [] [] (Bool.false) none (Bool.false))) (List.toArray [(some (PySem.Value.ref 125)), none, (some (PySem.Value.str (Str.ofString "SOffsetTFlags") 524)), (some (PySem.Value.str (Str.ofString "SOffsetTFlags") 532)), (some (PySem.Value.builtin "object.__new__")), (some (PySem.Value.bool (Bool.true)))]))),
  (137, (PySem.Obj.mk (PySem.Value.type "tuple") none (PySem.Data.seq (List.toArray [(PySem.Value.ref 92)]) 0) (List.toArray []))),
  (144, (PySem.Obj.mk (PySem.Value.type "tuple") none (PySem.Data.seq (List.toArray []) 0) (List.toArray []))),
  (145, (PySem.Obj.mk (PySem.Value.type "dict") none (PySem.Data.dict (List.toArray [(PySem.DictEntry.mk (PySem.PyData.keyHash P (Str.ofString "__module__")) (PySem.Value.str (Str.ofString "__module__") 547) (PySem.Value.str (Str.ofString "flatbuffers.number_types") 349)), (PySem.DictEntry.mk (PySem.PyData.keyHash P (Str.ofString "__firstlineno__")) (PySem.Value.str (Str.ofString "__firstlineno__") 551) (PySem.Value.int 51 550)), (PySem.DictEntry.mk (PySem.PyData.keyHash P (Str.ofString "__static_attributes__")) (PySem.Value.str (Str.ofString "__static_attributes__") 552) (PySem.Value.ref 144)), (PySem.DictEntry.mk (PySem.PyData.keyHash P (Str.ofString "__doc__")) (PySem.Value.str (Str.ofString "__doc__") 553) (PySem.Value.none))]) 2) (List.toArray []))),
  (146, (PySem.Obj.mk (PySem.Value.type "type") none (PySem.Data.cls (PySem.ClassData.mk (Str.ofString "UOffsetTFlags") [(PySem.Value.ref 92)] [(PySem.Value.ref 146), (PySem.Value.ref 92), (PySem.Value.type "object")] 145 (Str.ofString "UOffsetTFlags") (Bool.true) [] [] (Bool.false) none (Bool.false))) (List.toArray [(some (PySem.Value.ref 137)), none, (some (PySem.Value.str (Str.ofString "UOffsetTFlags") 540)), (some (PySem.Value.str (Str.ofString "UOffsetTFlags") 548)), (some (PySem.Value.builtin "object.__new__")), (some (PySem.Value.bool (Bool.true)))]))),
  (149, (PySem.Obj.mk (PySem.Value.type "tuple") none (PySem.Data.seq (List.toArray [(PySem.Value.ref 78)]) 0) (List.toArray []))),
  (156, (PySem.Obj.mk (PySem.Value.type "tuple") none (PySem.Data.seq (List.toArray []) 0) (List.toArray []))),
  (157, (PySem.Obj.mk (PySem.Value.type "dict") none (PySem.Data.dict (List.toArray [(PySem.DictEntry.mk (PySem.PyData.keyHash P (Str.ofString "__module__")) (PySem.Value.str (Str.ofString "__module__") 563) (PySem.Value.str (Str.ofString "flatbuffers.number_types") 349)), (PySem.DictEntry.mk (PySem.PyData.keyHash P (Str.ofString "__firstlineno__")) (PySem.Value.str (Str.ofString "__firstlineno__") 567) (PySem.Value.int 53 566)), (PySem.DictEntry.mk (PySem.PyData.keyHash P (Str.ofString "__static_attributes__")) (PySem.Value.str (Str.ofString "__static_attributes__") 568) (PySem.Value.ref 156)), (PySem.DictEntry.mk (PySem.PyData.keyHash P (Str.ofString "__doc__")) (PySem.Value.str (Str.ofString "__doc__") 569) (PySem.Value.none))]) 2) (List.toArray []))),
  (158, (PySem.Obj.mk (PySem.Value.type "type") none (PySem.Data.cls (PySem.ClassData.mk (Str.ofString "VOffsetTFlags") [(PySem.Value.ref 78)] [(PySem.Value.ref 158), (PySem.Value.ref 78), (PySem.Value.type "object")] 157 (Str.ofString "VOffsetTFlags") (Bool.true) [] [] (Bool.false) none (Bool.false))) (List.toArray [(some (PySem.Value.ref 149)), none, (some (PySem.Value.str (Str.ofString "VOffsetTFlags") 556)), (some (PySem.Value.str (Str.ofString "VOffsetTFlags") 564)), (some (PySem.Value.builtin "object.__new__")), (some (PySem.Value.bool (Bool.true)))]))),
  (161, (PySem.Obj.mk (PySem.Value.type "tuple") none (PySem.Data.seq (List.toArray []) 0) (List.toArray [])))]
noncomputable def K03c3 (P : Params) : Frag := [
  (163, (PySem.Obj.mk (PySem.Value.type "tuple") none (PySem.Data.seq (List.toArray [(PySem.Value.str (Str.ofString "n") 575), (PySem.Value.str (Str.ofString "flags") 576)]) 0) (List.toArray []))),
  (164, (PySem.Obj.mk (PySem.Value.type "tuple") none (PySem.Data.seq (List.toArray []) 0) (List.toArray []))),
  (166, (PySem.Obj.mk (PySem.Value.type "code") none (PySem.Data.fields (List.toArray [(PySem.Value.str (Str.ofString "enforce_number") 572), (PySem.Value.str (Str.ofString "enforce_number") 573), (PySem.Value.str (Str.ofString "/claim/cut.py") 574), (PySem.Value.int 55 0), (PySem.Value.int 2 0), (PySem.Value.int 0 0), (PySem.Value.int 0 0), (PySem.Value.int 3 0), (PySem.Value.ref 161), (PySem.Value.bool (Bool.true)), (PySem.Value.int 317 0), (PySem.Value.ref 162), (PySem.Value.none), (PySem.Value.ref 163), (PySem.Value.ref 164), (PySem.Value.ref 165), (PySem.Value.int 577 0), (PySem.Value.int 55 0), (PySem.Value.str (Str.ofString "/claim/cut.py") 578)])) (List.toArray []))),
  (167, (PySem.Obj.mk (PySem.Value.type "function") none (PySem.Data.func (PySem.FuncData.mk (Str.ofString "enforce_number") (Str.ofString "enforce_number") (fdArgs (stA 19)) (fdBody (stA 19)) (fdScope (stA 19)) 3 [] (PySem.Value.none) (PySem.Value.none) (PySem.Value.none) (PySem.Value.str (Str.ofString "flatbuffers.number_types") 349) none (PySem.Value.ref 166) (PySem.Value.none) 0)) (List.toArray []))),
  (168, (PySem.Obj.mk (PySem.Value.type "tuple") none (PySem.Data.seq (List.toArray []) 0) (List.toArray []))),
  (170, (PySem.Obj.mk (PySem.Value.type "tuple") none (PySem.Data.seq (List.toArray [(PySem.Value.str (Str.ofString "packer_type") 587), (PySem.Value.str (Str.ofString "buf") 588), (PySem.Value.str (Str.ofString "head") 589)]) 0) (List.toArray []))),
  (171, (PySem.Obj.mk (PySem.Value.type "tuple") none (PySem.Data.seq (List.toArray []) 0) (List.toArray []))),
  (173, (PySem.Obj.mk (PySem.Value.type "code") none (PySem.Data.fields (List.toArray [(PySem.Value.str (Str.ofString "Get") 584), (PySem.Value.str (Str.ofString "Get") 585), (PySem.Value.str (Str.ofString "/claim/cut.py") 586), (PySem.Value.int 62 0), (PySem.Value.int 3 0), (PySem.Value.int 0 0), (PySem.Value.int 0 0), (PySem.Value.int 3 0), (PySem.Value.ref 168), (PySem.Value.bool (Bool.true)), (PySem.Value.int 317 0), (PySem.Value.ref 169), (PySem.Value.none), (PySem.Value.ref 170), (PySem.Value.ref 171), (PySem.Value.ref 172), (PySem.Value.int 590 0), (PySem.Value.int 62 0), (PySem.Value.str (Str.ofString "/claim/cut.py") 591)])) (List.toArray []))),
  (174, (PySem.Obj.mk (PySem.Value.type "function") none (PySem.Data.func (PySem.FuncData.mk (Str.ofString "Get") (Str.ofString "Get") (fdArgs (stA 22)) (fdBody (stA 22)) (fdScope (stA 22)) 3 [] (PySem.Value.none) (PySem.Value.none) (PySem.Value.none) (PySem.Value.str (Str.ofString "flatbuffers.encode") 580) none (PySem.Value.ref 173) (PySem.Value.none) 0)) (List.toArray []))),
  (175, (PySem.Obj.mk (PySem.Value.type "tuple") none (PySem.Data.seq (List.toArray []) 0) (List.toArray []))),
  (177, (PySem.Obj.mk (PySem.Value.type "tuple") none (PySem.Data.seq (List.toArray [(PySem.Value.str (Str.ofString "packer_type") 597), (PySem.Value.str (Str.ofString "buf") 598), (PySem.Value.str (Str.ofString "head") 599), (PySem.Value.str (Str.ofString "n") 600)]) 0) (List.toArray []))),
  (178, (PySem.Obj.mk (PySem.Value.type "tuple") none (PySem.Data.seq (List.toArray []) 0) (List.toArray []))),
  (180, (PySem.Obj.mk (PySem.Value.type "code") none (PySem.Data.fields (List.toArray [(PySem.Value.str (Str.ofString "Write") 594), (PySem.Value.str (Str.ofString "Write") 595), (PySem.Value.str (Str.ofString "/claim/cut.py") 596), (PySem.Value.int 65 0), (PySem.Value.int 4 0), (PySem.Value.int 0 0), (PySem.Value.int 0 0), (PySem.Value.int 3 0), (PySem.Value.ref 175), (PySem.Value.bool (Bool.true)), (PySem.Value.int 317 0), (PySem.Value.ref 176), (PySem.Value.none), (PySem.Value.ref 177), (PySem.Value.ref 178), (PySem.Value.ref 179), (PySem.Value.int 601 0), (PySem.Value.int 65 0), (PySem.Value.str (Str.ofString "/claim/cut.py") 602)])) (List.toArray []))),
  (181, (PySem.Obj.mk (PySem.Value.type "function") none (PySem.Data.func (PySem.FuncData.mk (Str.ofString "Write") (Str.ofString "Write") (fdArgs (stA 24)) (fdBody (stA 24)) (fdScope (stA 24)) 3 [] (PySem.Value.none) (PySem.Value.none) (PySem.Value.none) (PySem.Value.str (Str.ofString "flatbuffers.encode") 580) none (PySem.Value.ref 180) (PySem.Value.none) 0)) (List.toArray []))),
  (182, (PySem.Obj.mk (PySem.Value.type "tuple") none (PySem.Data.seq (List.toArray [(PySem.Value.type "RuntimeError")]) 0) (List.toArray [])))]
noncomputable def K03c4 (P : Params) : Frag := [
  (189, (PySem.Obj.mk (PySem.Value.type "tuple") none (PySem.Data.seq (List.toArray []) 0) (List.toArray []))),
  (190, (PySem.Obj.mk (PySem.Value.type "dict") none (PySem.Data.dict (List.toArray [(PySem.DictEntry.mk (PySem.PyData.keyHash P (Str.ofString "__module__")) (PySem.Value.str (Str.ofString "__module__") 613) (PySem.Value.str (Str.ofString "flatbuffers.builder") 604)), (PySem.DictEntry.mk (PySem.PyData.keyHash P (Str.ofString "__firstlineno__")) (PySem.Value.str (Str.ofString "__firstlineno__") 617) (PySem.Value.int 68 616)), (PySem.DictEntry.mk (PySem.PyData.keyHash P (Str.ofString "__static_attributes__")) (PySem.Value.str (Str.ofString "__static_attributes__") 618) (PySem.Value.ref 189)), (PySem.DictEntry.mk (PySem.PyData.keyHash P (Str.ofString "__weakref__")) (PySem.Value.str (Str.ofString "__weakref__") 620) (PySem.Value.ref 192)), (PySem.DictEntry.mk (PySem.PyData.keyHash P (Str.ofString "__doc__")) (PySem.Value.str (Str.ofString "__doc__") 621) (PySem.Value.none))]) 3) (List.toArray []))),
  (191, (PySem.Obj.mk (PySem.Value.type "type") none (PySem.Data.cls (PySem.ClassData.mk (Str.ofString "OffsetArithmeticError") [(PySem.Value.type "RuntimeError")] [(PySem.Value.ref 191), (PySem.Value.type "RuntimeError"), (PySem.Value.type "Exception"), (PySem.Value.type "BaseException"), (PySem.Value.type "object")] 190 (Str.ofString "OffsetArithmeticError") (Bool.true) [] [] (Bool.false) none (Bool.false))) (List.toArray [(some (PySem.Value.ref 182)), none, (some (PySem.Value.str (Str.ofString "OffsetArithmeticError") 606)), (some (PySem.Value.str (Str.ofString "OffsetArithmeticError") 614)), (some (PySem.Value.builtin "RuntimeError.__new__")), (some (PySem.Value.bool (Bool.true)))]))),
  (195, (PySem.Obj.mk (PySem.Value.type "tuple") none (PySem.Data.seq (List.toArray [(PySem.Value.type "RuntimeError")]) 0) (List.toArray []))),
  (202, (PySem.Obj.mk (PySem.Value.type "tuple") none (PySem.Data.seq (List.toArray []) 0) (List.toArray []))),
  (203, (PySem.Obj.mk (PySem.Value.type "dict") none (PySem.Data.dict (List.toArray [(PySem.DictEntry.mk (PySem.PyData.keyHash P (Str.ofString "__module__")) (PySem.Value.str (Str.ofString "__module__") 631) (PySem.Value.str (Str.ofString "flatbuffers.builder") 604)), (PySem.DictEntry.mk (PySem.PyData.keyHash P (Str.ofString "__firstlineno__")) (PySem.Value.str (Str.ofString "__firstlineno__") 635) (PySem.Value.int 70 634)), (PySem.DictEntry.mk (PySem.PyData.keyHash P (Str.ofString "__static_attributes__")) (PySem.Value.str (Str.ofString "__static_attributes__") 636) (PySem.Value.ref 202)), (PySem.DictEntry.mk (PySem.PyData.keyHash P (Str.ofString "__weakref__")) (PySem.Value.str (Str.ofString "__weakref__") 638) (PySem.Value.ref 205)), (PySem.DictEntry.mk (PySem.PyData.keyHash P (Str.ofString "__doc__")) (PySem.Value.str (Str.ofString "__doc__") 639) (PySem.Value.none))]) 3) (List.toArray []))),
  (204, (PySem.Obj.mk (PySem.Value.type "type") none (PySem.Data.cls (PySem.ClassData.mk (Str.ofString "IsNotNestedError") [(PySem.Value.type "RuntimeError")] [(PySem.Value.ref 204), (PySem.Value.type "RuntimeError"), (PySem.Value.type "Exception"), (PySem.Value.type "BaseException"), (PySem.Value.type "object")] 203 (Str.ofString "IsNotNestedError") (Bool.true) [] [] (Bool.false) none (Bool.false))) (List.toArray [(some (PySem.Value.ref 195)), none, (some (PySem.Value.str (Str.ofString "IsNotNestedError") 624)), (some (PySem.Value.str (Str.ofString "IsNotNestedError") 632)), (some (PySem.Value.builtin "RuntimeError.__new__")), (some (PySem.Value.bool (Bool.true)))]))),
  (208, (PySem.Obj.mk (PySem.Value.type "tuple") none (PySem.Data.seq (List.toArray [(PySem.Value.type "RuntimeError")]) 0) (List.toArray []))),
  (215, (PySem.Obj.mk (PySem.Value.type "tuple") none (PySem.Data.seq (List.toArray []) 0) (List.toArray []))),
  (216, (PySem.Obj.mk (PySem.Value.type "dict") none (PySem.Data.dict (List.toArray [(PySem.DictEntry.mk (PySem.PyData.keyHash P (Str.ofString "__module__")) (PySem.Value.str (Str.ofString "__module__") 649) (PySem.Value.str (Str.ofString "flatbuffers.builder") 604)), (PySem.DictEntry.mk (PySem.PyData.keyHash P (Str.ofString "__firstlineno__")) (PySem.Value.str (Str.ofString "__firstlineno__") 653) (PySem.Value.int 72 652)), (PySem.DictEntry.mk (PySem.PyData.keyHash P (Str.ofString "__static_attributes__")) (PySem.Value.str (Str.ofString "__static_attributes__") 654) (PySem.Value.ref 215)), (PySem.DictEntry.mk (PySem.PyData.keyHash P (Str.ofString "__weakref__")) (PySem.Value.str (Str.ofString "__weakref__") 656) (PySem.Value.ref 218)), (PySem.DictEntry.mk (PySem.PyData.keyHash P (Str.ofString "__doc__")) (PySem.Value.str (Str.ofString "__doc__") 657) (PySem.Value.none))]) 3) (List.toArray []))),
  (217, (PySem.Obj.mk (PySem.Value.type "type") none (PySem.Data.cls (PySem.ClassData.mk (Str.ofString "IsNestedError") [(PySem.Value.type "RuntimeError")] [(PySem.Value.ref 217), (PySem.Value.type "RuntimeError"), (PySem.Value.type "Exception"), (PySem.Value.type "BaseException"), (PySem.Value.type "object")] 216 (Str.ofString "IsNestedError") (Bool.true) [] [] (Bool.false) none (Bool.false))) (List.toArray [(some (PySem.Value.ref 208)), none, (some (PySem.Value.str (Str.ofString "IsNestedError") 642)), (some (PySem.Value.str (Str.ofString "IsNestedError") 650)), (some (PySem.Value.builtin "RuntimeError.__new__")), (some (PySem.Value.bool (Bool.true)))]))),
  (221, (PySem.Obj.mk (PySem.Value.type "tuple") none (PySem.Data.seq (List.toArray [(PySem.Value.type "RuntimeError")]) 0) (List.toArray []))),
  (228, (PySem.Obj.mk (PySem.Value.type "tuple") none (PySem.Data.seq (List.toArray []) 0) (List.toArray []))),
  (229, (PySem.Obj.mk (PySem.Value.type "dict") none (PySem.Data.dict (List.toArray [(PySem.DictEntry.mk (PySem.PyData.keyHash P (Str.ofString "__module__")) (PySem.Value.str (Str.ofString "__module__") 667) (PySem.Value.str (Str.ofString "flatbuffers.builder") 604)), (PySem.DictEntry.mk (PySem.PyData.keyHash P (Str.ofString "__firstlineno__")) (PySem.Value.str (Str.ofString "__firstlineno__") 671) (PySem.Value.int 74 670)), (PySem.DictEntry.mk (PySem.PyData.keyHash P (Str.ofString "__static_attributes__")) (PySem.Value.str (Str.ofString "__static_attributes__") 672) (PySem.Value.ref 228)), (PySem.DictEntry.mk (PySem.PyData.keyHash P (Str.ofString "__weakref__")) (PySem.Value.str (Str.ofString "__weakref__") 674) (PySem.Value.ref 231)), (PySem.DictEntry.mk (PySem.PyData.keyHash P (Str.ofString "__doc__")) (PySem.Value.str (Str.ofString "__doc__") 675) (PySem.Value.none))]) 3) (List.toArray []))),
  (230, (PySem.Obj.mk (PySem.Value.type "type") none (PySem.Data.cls (PySem.ClassData.mk (Str.ofString "BuilderSizeError") [(PySem.Value.type "RuntimeError")] [(PySem.Value.ref 230), (PySem.Value.type "RuntimeError"), (PySem.Value.type "Exception"), (PySem.Value.type "BaseException"), (PySem.Value.type "object")] 229 (Str.ofString "BuilderSizeError") (Bool.true) [] [] (Bool.false) none (Bool.false))) (List.toArray [(some (PySem.Value.ref 221)), none, (some (PySem.Value.str (Str.ofString "BuilderSizeError") 660)), (some (PySem.Value.str (Str.ofString "BuilderSizeError") 668)), (some (PySem.Value.builtin "RuntimeError.__new__")), (some (PySem.Value.bool (Bool.true)))])))]
noncomputable def K03c5 (P : Params) : Frag := [
  (234, (PySem.Obj.mk (PySem.Value.type "tuple") none (PySem.Data.seq (List.toArray [(PySem.Value.type "RuntimeError")]) 0) (List.toArray []))),
  (241, (PySem.Obj.mk (PySem.Value.type "tuple") none (PySem.Data.seq (List.toArray []) 0) (List.toArray []))),
  (242, (PySem.Obj.mk (PySem.Value.type "dict") none (PySem.Data.dict (List.toArray [(PySem.DictEntry.mk (PySem.PyData.keyHash P (Str.ofString "__module__")) (PySem.Value.str (Str.ofString "__module__") 685) (PySem.Value.str (Str.ofString "flatbuffers.builder") 604)), (PySem.DictEntry.mk (PySem.PyData.keyHash P (Str.ofString "__firstlineno__")) (PySem.Value.str (Str.ofString "__firstlineno__") 689) (PySem.Value.int 76 688)), (PySem.DictEntry.mk (PySem.PyData.keyHash P (Str.ofString "__static_attributes__")) (PySem.Value.str (Str.ofString "__static_attributes__") 690) (PySem.Value.ref 241)), (PySem.DictEntry.mk (PySem.PyData.keyHash P (Str.ofString "__weakref__")) (PySem.Value.str (Str.ofString "__weakref__") 692) (PySem.Value.ref 244)), (PySem.DictEntry.mk (PySem.PyData.keyHash P (Str.ofString "__doc__")) (PySem.Value.str (Str.ofString "__doc__") 693) (PySem.Value.none))]) 3) (List.toArray []))),
  (243, (PySem.Obj.mk (PySem.Value.type "type") none (PySem.Data.cls (PySem.ClassData.mk (Str.ofString "BuilderNotFinishedError") [(PySem.Value.type "RuntimeError")] [(PySem.Value.ref 243), (PySem.Value.type "RuntimeError"), (PySem.Value.type "Exception"), (PySem.Value.type "BaseException"), (PySem.Value.type "object")] 242 (Str.ofString "BuilderNotFinishedError") (Bool.true) [] [] (Bool.false) none (Bool.false))) (List.toArray [(some (PySem.Value.ref 234)), none, (some (PySem.Value.str (Str.ofString "BuilderNotFinishedError") 678)), (some (PySem.Value.str (Str.ofString "BuilderNotFinishedError") 686)), (some (PySem.Value.builtin "RuntimeError.__new__")), (some (PySem.Value.bool (Bool.true)))]))),
  (247, (PySem.Obj.mk (PySem.Value.type "tuple") none (PySem.Data.seq (List.toArray [(PySem.Value.type "object")]) 0) (List.toArray []))),
  (254, (PySem.Obj.mk (PySem.Value.type "tuple") none (PySem.Data.seq (List.toArray [(PySem.Value.str (Str.ofString "Bytes") 710), (PySem.Value.str (Str.ofString "current_vtable") 711), (PySem.Value.str (Str.ofString "head") 712), (PySem.Value.str (Str.ofString "minalign") 713), (PySem.Value.str (Str.ofString "objectEnd") 714), (PySem.Value.str (Str.ofString "vtables") 715), (PySem.Value.str (Str.ofString "nested") 716), (PySem.Value.str (Str.ofString "forceDefaults") 717), (PySem.Value.str (Str.ofString "finished") 718), (PySem.Value.str (Str.ofString "vectorNumElems") 719), (PySem.Value.str (Str.ofString "sharedStrings") 720)]) 0) (List.toArray []))),
  (255, (PySem.Obj.mk (PySem.Value.type "tuple") none (PySem.Data.seq (List.toArray [(PySem.Value.int 1024 727)]) 0) (List.toArray []))),
  (256, (PySem.Obj.mk (PySem.Value.type "tuple") none (PySem.Data.seq (List.toArray []) 0) (List.toArray []))),
  (258, (PySem.Obj.mk (PySem.Value.type "tuple") none (PySem.Data.seq (List.toArray [(PySem.Value.str (Str.ofString "self") 731), (PySem.Value.str (Str.ofString "initialSize") 732), (PySem.Value.str (Str.ofString "msg") 733)]) 0) (List.toArray []))),
  (259, (PySem.Obj.mk (PySem.Value.type "tuple") none (PySem.Data.seq (List.toArray []) 0) (List.toArray []))),
  (261, (PySem.Obj.mk (PySem.Value.type "code") none (PySem.Data.fields (List.toArray [(PySem.Value.str (Str.ofString "__init__") 728), (PySem.Value.str (Str.ofString "Builder.__init__") 729), (PySem.Value.str (Str.ofString "/claim/cut.py") 730), (PySem.Value.int 84 0), (PySem.Value.int 2 0), (PySem.Value.int 0 0), (PySem.Value.int 0 0), (PySem.Value.int 3 0), (PySem.Value.ref 256), (PySem.Value.bool (Bool.true)), (PySem.Value.int 317 0), (PySem.Value.ref 257), (PySem.Value.none), (PySem.Value.ref 258), (PySem.Value.ref 259), (PySem.Value.ref 260), (PySem.Value.int 734 0), (PySem.Value.int 84 0), (PySem.Value.str (Str.ofString "/claim/cut.py") 735)])) (List.toArray []))),
  (262, (PySem.Obj.mk (PySem.Value.type "function") none (PySem.Data.func (PySem.FuncData.mk (Str.ofString "__init__") (Str.ofString "Builder.__init__") (fdArgs (stB 32 3)) (fdBody (stB 32 3)) (fdScope (stB 32 3)) 3 [] (PySem.Value.ref 255) (PySem.Value.none) (PySem.Value.none) (PySem.Value.str (Str.ofString "flatbuffers.builder") 604) none (PySem.Value.ref 261) (PySem.Value.none) 0)) (List.toArray []))),
  (270, (PySem.Obj.mk (PySem.Value.type "tuple") none (PySem.Data.seq (List.toArray []) 0) (List.toArray []))),
  (272, (PySem.Obj.mk (PySem.Value.type "tuple") none (PySem.Data.seq (List.toArray [(PySem.Value.str (Str.ofString "self") 747)]) 0) (List.toArray []))),
  (273, (PySem.Obj.mk (PySem.Value.type "tuple") none (PySem.Data.seq (List.toArray []) 0) (List.toArray [])))]
noncomputable def K03c6 (P : Params) : Frag := [
  (275, (PySem.Obj.mk (PySem.Value.type "code") none (PySem.Data.fields (List.toArray [(PySem.Value.str (Str.ofString "Output") 744), (PySem.Value.str (Str.ofString "Builder.Output") 745), (PySem.Value.str (Str.ofString "/claim/cut.py") 746), (PySem.Value.int 102 0), (PySem.Value.int 1 0), (PySem.Value.int 0 0), (PySem.Value.int 0 0), (PySem.Value.int 3 0), (PySem.Value.ref 270), (PySem.Value.bool (Bool.true)), (PySem.Value.int 317 0), (PySem.Value.ref 271), (PySem.Value.none), (PySem.Value.ref 272), (PySem.Value.ref 273), (PySem.Value.ref 274), (PySem.Value.int 748 0), (PySem.Value.int 102 0), (PySem.Value.str (Str.ofString "/claim/cut.py") 749)])) (List.toArray []))),
  (276, (PySem.Obj.mk (PySem.Value.type "function") none (PySem.Data.func (PySem.FuncData.mk (Str.ofString "Output") (Str.ofString "Builder.Output") (fdArgs (stB 32 5)) (fdBody (stB 32 5)) (fdScope (stB 32 5)) 3 [] (PySem.Value.none) (PySem.Value.none) (PySem.Value.none) (PySem.Value.str (Str.ofString "flatbuffers.builder") 604) none (PySem.Value.ref 275) (PySem.Value.none) 0)) (List.toArray []))),
  (277, (PySem.Obj.mk (PySem.Value.type "tuple") none (PySem.Data.seq (List.toArray []) 0) (List.toArray []))),
  (279, (PySem.Obj.mk (PySem.Value.type "tuple") none (PySem.Data.seq (List.toArray [(PySem.Value.str (Str.ofString "self") 754), (PySem.Value.str (Str.ofString "numfields") 755)]) 0) (List.toArray []))),
  (280, (PySem.Obj.mk (PySem.Value.type "tuple") none (PySem.Data.seq (List.toArray []) 0) (List.toArray []))),
  (282, (PySem.Obj.mk (PySem.Value.type "code") none (PySem.Data.fields (List.toArray [(PySem.Value.str (Str.ofString "StartObject") 751), (PySem.Value.str (Str.ofString "Builder.StartObject") 752), (PySem.Value.str (Str.ofString "/claim/cut.py") 753), (PySem.Value.int 107 0), (PySem.Value.int 2 0), (PySem.Value.int 0 0), (PySem.Value.int 0 0), (PySem.Value.int 3 0), (PySem.Value.ref 277), (PySem.Value.bool (Bool.true)), (PySem.Value.int 317 0), (PySem.Value.ref 278), (PySem.Value.none), (PySem.Value.ref 279), (PySem.Value.ref 280), (PySem.Value.ref 281), (PySem.Value.int 756 0), (PySem.Value.int 107 0), (PySem.Value.str (Str.ofString "/claim/cut.py") 757)])) (List.toArray []))),
  (283, (PySem.Obj.mk (PySem.Value.type "function") none (PySem.Data.func (PySem.FuncData.mk (Str.ofString "StartObject") (Str.ofString "Builder.StartObject") (fdArgs (stB 32 6)) (fdBody (stB 32 6)) (fdScope (stB 32 6)) 3 [] (PySem.Value.none) (PySem.Value.none) (PySem.Value.none) (PySem.Value.str (Str.ofString "flatbuffers.builder") 604) none (PySem.Value.ref 282) (PySem.Value.none) 0)) (List.toArray []))),
  (284, (PySem.Obj.mk (PySem.Value.type "tuple") none (PySem.Data.seq (List.toArray []) 0) (List.toArray []))),
  (286, (PySem.Obj.mk (PySem.Value.type "tuple") none (PySem.Data.seq (List.toArray [(PySem.Value.str (Str.ofString "self") 762), (PySem.Value.str (Str.ofString "objectOffset") 763), (PySem.Value.str (Str.ofString "vtKey") 764), (PySem.Value.str (Str.ofString "trim") 765), (PySem.Value.str (Str.ofString "elem") 766), (PySem.Value.str (Str.ofString "objectSize") 767), (PySem.Value.str (Str.ofString "vt2Offset") 768), (PySem.Value.str (Str.ofString "i") 769), (PySem.Value.str (Str.ofString "trailing") 770), (PySem.Value.str (Str.ofString "off") 771), (PySem.Value.str (Str.ofString "vBytes") 772), (PySem.Value.str (Str.ofString "objectStart") 773)]) 0) (List.toArray []))),
  (287, (PySem.Obj.mk (PySem.Value.type "tuple") none (PySem.Data.seq (List.toArray []) 0) (List.toArray []))),
  (289, (PySem.Obj.mk (PySem.Value.type "code") none (PySem.Data.fields (List.toArray [(PySem.Value.str (Str.ofString "WriteVtable") 759), (PySem.Value.str (Str.ofString "Builder.WriteVtable") 760), (PySem.Value.str (Str.ofString "/claim/cut.py") 761), (PySem.Value.int 113 0), (PySem.Value.int 1 0), (PySem.Value.int 0 0), (PySem.Value.int 0 0), (PySem.Value.int 3 0), (PySem.Value.ref 284), (PySem.Value.bool (Bool.true)), (PySem.Value.int 317 0), (PySem.Value.ref 285), (PySem.Value.none), (PySem.Value.ref 286), (PySem.Value.ref 287), (PySem.Value.ref 288), (PySem.Value.int 774 0), (PySem.Value.int 113 0), (PySem.Value.str (Str.ofString "/claim/cut.py") 775)])) (List.toArray []))),
  (290, (PySem.Obj.mk (PySem.Value.type "function") none (PySem.Data.func (PySem.FuncData.mk (Str.ofString "WriteVtable") (Str.ofString "Builder.WriteVtable") (fdArgs (stB 32 7)) (fdBody (stB 32 7)) (fdScope (stB 32 7)) 3 [] (PySem.Value.none) (PySem.Value.none) (PySem.Value.none) (PySem.Value.str (Str.ofString "flatbuffers.builder") 604) none (PySem.Value.ref 289) (PySem.Value.none) 0)) (List.toArray []))),
  (291, (PySem.Obj.mk (PySem.Value.type "tuple") none (PySem.Data.seq (List.toArray []) 0) (List.toArray []))),
  (293, (PySem.Obj.mk (PySem.Value.type "tuple") none (PySem.Data.seq (List.toArray [(PySem.Value.str (Str.ofString "self") 780)]) 0) (List.toArray []))),
  (294, (PySem.Obj.mk (PySem.Value.type "tuple") none (PySem.Data.seq (List.toArray []) 0) (List.toArray [])))]
noncomputable def K03c7 (P : Params) : Frag := [
  (296, (PySem.Obj.mk (PySem.Value.type "code") none (PySem.Data.fields (List.toArray [(PySem.Value.str (Str.ofString "EndObject") 777), (PySem.Value.str (Str.ofString "Builder.EndObject") 778), (PySem.Value.str (Str.ofString "/claim/cut.py") 779), (PySem.Value.int 160 0), (PySem.Value.int 1 0), (PySem.Value.int 0 0), (PySem.Value.int 0 0), (PySem.Value.int 3 0), (PySem.Value.ref 291), (PySem.Value.bool (Bool.true)), (PySem.Value.int 317 0), (PySem.Value.ref 292), (PySem.Value.none), (PySem.Value.ref 293), (PySem.Value.ref 294), (PySem.Value.ref 295), (PySem.Value.int 781 0), (PySem.Value.int 160 0), (PySem.Value.str (Str.ofString "/claim/cut.py") 782)])) (List.toArray []))),
  (297, (PySem.Obj.mk (PySem.Value.type "function") none (PySem.Data.func (PySem.FuncData.mk (Str.ofString "EndObject") (Str.ofString "Builder.EndObject") (fdArgs (stB 32 8)) (fdBody (stB 32 8)) (fdScope (stB 32 8)) 3 [] (PySem.Value.none) (PySem.Value.none) (PySem.Value.none) (PySem.Value.str (Str.ofString "flatbuffers.builder") 604) none (PySem.Value.ref 296) (PySem.Value.none) 0)) (List.toArray []))),
  (298, (PySem.Obj.mk (PySem.Value.type "tuple") none (PySem.Data.seq (List.toArray []) 0) (List.toArray []))),
  (300, (PySem.Obj.mk (PySem.Value.type "tuple") none (PySem.Data.seq (List.toArray [(PySem.Value.str (Str.ofString "self") 787), (PySem.Value.str (Str.ofString "msg") 788), (PySem.Value.str (Str.ofString "newSize") 789), (PySem.Value.str (Str.ofString "bytes2") 790)]) 0) (List.toArray []))),
  (301, (PySem.Obj.mk (PySem.Value.type "tuple") none (PySem.Data.seq (List.toArray []) 0) (List.toArray []))),
  (303, (PySem.Obj.mk (PySem.Value.type "code") none (PySem.Data.fields (List.toArray [(PySem.Value.str (Str.ofString "GrowByteBuffer") 784), (PySem.Value.str (Str.ofString "Builder.GrowByteBuffer") 785), (PySem.Value.str (Str.ofString "/claim/cut.py") 786), (PySem.Value.int 165 0), (PySem.Value.int 1 0), (PySem.Value.int 0 0), (PySem.Value.int 0 0), (PySem.Value.int 3 0), (PySem.Value.ref 298), (PySem.Value.bool (Bool.true)), (PySem.Value.int 317 0), (PySem.Value.ref 299), (PySem.Value.none), (PySem.Value.ref 300), (PySem.Value.ref 301), (PySem.Value.ref 302), (PySem.Value.int 791 0), (PySem.Value.int 165 0), (PySem.Value.str (Str.ofString "/claim/cut.py") 792)])) (List.toArray []))),
  (304, (PySem.Obj.mk (PySem.Value.type "function") none (PySem.Data.func (PySem.FuncData.mk (Str.ofString "GrowByteBuffer") (Str.ofString "Builder.GrowByteBuffer") (fdArgs (stB 32 9)) (fdBody (stB 32 9)) (fdScope (stB 32 9)) 3 [] (PySem.Value.none) (PySem.Value.none) (PySem.Value.none) (PySem.Value.str (Str.ofString "flatbuffers.builder") 604) none (PySem.Value.ref 303) (PySem.Value.none) 0)) (List.toArray []))),
  (305, (PySem.Obj.mk (PySem.Value.type "tuple") none (PySem.Data.seq (List.toArray []) 0) (List.toArray []))),
  (307, (PySem.Obj.mk (PySem.Value.type "tuple") none (PySem.Data.seq (List.toArray [(PySem.Value.str (Str.ofString "self") 797)]) 0) (List.toArray []))),
  (308, (PySem.Obj.mk (PySem.Value.type "tuple") none (PySem.Data.seq (List.toArray []) 0) (List.toArray []))),
  (310, (PySem.Obj.mk (PySem.Value.type "code") none (PySem.Data.fields (List.toArray [(PySem.Value.str (Str.ofString "Head") 794), (PySem.Value.str (Str.ofString "Builder.Head") 795), (PySem.Value.str (Str.ofString "/claim/cut.py") 796), (PySem.Value.int 176 0), (PySem.Value.int 1 0), (PySem.Value.int 0 0), (PySem.Value.int 0 0), (PySem.Value.int 3 0), (PySem.Value.ref 305), (PySem.Value.bool (Bool.true)), (PySem.Value.int 317 0), (PySem.Value.ref 306), (PySem.Value.none), (PySem.Value.ref 307), (PySem.Value.ref 308), (PySem.Value.ref 309), (PySem.Value.int 798 0), (PySem.Value.int 176 0), (PySem.Value.str (Str.ofString "/claim/cut.py") 799)])) (List.toArray []))),
  (311, (PySem.Obj.mk (PySem.Value.type "function") none (PySem.Data.func (PySem.FuncData.mk (Str.ofString "Head") (Str.ofString "Builder.Head") (fdArgs (stB 32 10)) (fdBody (stB 32 10)) (fdScope (stB 32 10)) 3 [] (PySem.Value.none) (PySem.Value.none) (PySem.Value.none) (PySem.Value.str (Str.ofString "flatbuffers.builder") 604) none (PySem.Value.ref 310) (PySem.Value.none) 0)) (List.toArray []))),
  (312, (PySem.Obj.mk (PySem.Value.type "tuple") none (PySem.Data.seq (List.toArray []) 0) (List.toArray []))),
  (314, (PySem.Obj.mk (PySem.Value.type "tuple") none (PySem.Data.seq (List.toArray [(PySem.Value.str (Str.ofString "self") 804)]) 0) (List.toArray []))),
  (315, (PySem.Obj.mk (PySem.Value.type "tuple") none (PySem.Data.seq (List.toArray []) 0) (List.toArray [])))]
noncomputable def K03c8 (P : Params) : Frag := [
  (317, (PySem.Obj.mk (PySem.Value.type "code") none (PySem.Data.fields (List.toArray [(PySem.Value.str (Str.ofString "Offset") 801), (PySem.Value.str (Str.ofString "Builder.Offset") 802), (PySem.Value.str (Str.ofString "/claim/cut.py") 803), (PySem.Value.int 179 0), (PySem.Value.int 1 0), (PySem.Value.int 0 0), (PySem.Value.int 0 0), (PySem.Value.int 3 0), (PySem.Value.ref 312), (PySem.Value.bool (Bool.true)), (PySem.Value.int 317 0), (PySem.Value.ref 313), (PySem.Value.none), (PySem.Value.ref 314), (PySem.Value.ref 315), (PySem.Value.ref 316), (PySem.Value.int 805 0), (PySem.Value.int 179 0), (PySem.Value.str (Str.ofString "/claim/cut.py") 806)])) (List.toArray []))),
  (318, (PySem.Obj.mk (PySem.Value.type "function") none (PySem.Data.func (PySem.FuncData.mk (Str.ofString "Offset") (Str.ofString "Builder.Offset") (fdArgs (stB 32 11)) (fdBody (stB 32 11)) (fdScope (stB 32 11)) 3 [] (PySem.Value.none) (PySem.Value.none) (PySem.Value.none) (PySem.Value.str (Str.ofString "flatbuffers.builder") 604) none (PySem.Value.ref 317) (PySem.Value.none) 0)) (List.toArray []))),
  (319, (PySem.Obj.mk (PySem.Value.type "tuple") none (PySem.Data.seq (List.toArray []) 0) (List.toArray []))),
  (321, (PySem.Obj.mk (PySem.Value.type "tuple") none (PySem.Data.seq (List.toArray [(PySem.Value.str (Str.ofString "self") 811), (PySem.Value.str (Str.ofString "n") 812), (PySem.Value.str (Str.ofString "new_head") 813)]) 0) (List.toArray []))),
  (322, (PySem.Obj.mk (PySem.Value.type "tuple") none (PySem.Data.seq (List.toArray []) 0) (List.toArray []))),
  (324, (PySem.Obj.mk (PySem.Value.type "code") none (PySem.Data.fields (List.toArray [(PySem.Value.str (Str.ofString "Pad") 808), (PySem.Value.str (Str.ofString "Builder.Pad") 809), (PySem.Value.str (Str.ofString "/claim/cut.py") 810), (PySem.Value.int 182 0), (PySem.Value.int 2 0), (PySem.Value.int 0 0), (PySem.Value.int 0 0), (PySem.Value.int 3 0), (PySem.Value.ref 319), (PySem.Value.bool (Bool.true)), (PySem.Value.int 317 0), (PySem.Value.ref 320), (PySem.Value.none), (PySem.Value.ref 321), (PySem.Value.ref 322), (PySem.Value.ref 323), (PySem.Value.int 814 0), (PySem.Value.int 182 0), (PySem.Value.str (Str.ofString "/claim/cut.py") 815)])) (List.toArray []))),
  (325, (PySem.Obj.mk (PySem.Value.type "function") none (PySem.Data.func (PySem.FuncData.mk (Str.ofString "Pad") (Str.ofString "Builder.Pad") (fdArgs (stB 32 12)) (fdBody (stB 32 12)) (fdScope (stB 32 12)) 3 [] (PySem.Value.none) (PySem.Value.none) (PySem.Value.none) (PySem.Value.str (Str.ofString "flatbuffers.builder") 604) none (PySem.Value.ref 324) (PySem.Value.none) 0)) (List.toArray []))),
  (326, (PySem.Obj.mk (PySem.Value.type "tuple") none (PySem.Data.seq (List.toArray []) 0) (List.toArray []))),
  (328, (PySem.Obj.mk (PySem.Value.type "tuple") none (PySem.Data.seq (List.toArray [(PySem.Value.str (Str.ofString "self") 820), (PySem.Value.str (Str.ofString "size") 821), (PySem.Value.str (Str.ofString "additionalBytes") 822), (PySem.Value.str (Str.ofString "head") 823), (PySem.Value.str (Str.ofString "buf_len") 824), (PySem.Value.str (Str.ofString "alignSize") 825), (PySem.Value.str (Str.ofString "needed") 826), (PySem.Value.str (Str.ofString "oldBufSize") 827)]) 0) (List.toArray []))),
  (329, (PySem.Obj.mk (PySem.Value.type "tuple") none (PySem.Data.seq (List.toArray []) 0) (List.toArray []))),
  (331, (PySem.Obj.mk (PySem.Value.type "code") none (PySem.Data.fields (List.toArray [(PySem.Value.str (Str.ofString "Prep") 817), (PySem.Value.str (Str.ofString "Builder.Prep") 818), (PySem.Value.str (Str.ofString "/claim/cut.py") 819), (PySem.Value.int 189 0), (PySem.Value.int 3 0), (PySem.Value.int 0 0), (PySem.Value.int 0 0), (PySem.Value.int 3 0), (PySem.Value.ref 326), (PySem.Value.bool (Bool.true)), (PySem.Value.int 317 0), (PySem.Value.ref 327), (PySem.Value.none), (PySem.Value.ref 328), (PySem.Value.ref 329), (PySem.Value.ref 330), (PySem.Value.int 828 0), (PySem.Value.int 189 0), (PySem.Value.str (Str.ofString "/claim/cut.py") 829)])) (List.toArray []))),
  (332, (PySem.Obj.mk (PySem.Value.type "function") none (PySem.Data.func (PySem.FuncData.mk (Str.ofString "Prep") (Str.ofString "Builder.Prep") (fdArgs (stB 32 13)) (fdBody (stB 32 13)) (fdScope (stB 32 13)) 3 [] (PySem.Value.none) (PySem.Value.none) (PySem.Value.none) (PySem.Value.str (Str.ofString "flatbuffers.builder") 604) none (PySem.Value.ref 331) (PySem.Value.none) 0)) (List.toArray []))),
  (333, (PySem.Obj.mk (PySem.Value.type "tuple") none (PySem.Data.seq (List.toArray []) 0) (List.toArray []))),
  (335, (PySem.Obj.mk (PySem.Value.type "tuple") none (PySem.Data.seq (List.toArray [(PySem.Value.str (Str.ofString "self") 834), (PySem.Value.str (Str.ofString "off") 835), (PySem.Value.str (Str.ofString "msg") 836), (PySem.Value.str (Str.ofString "off2") 837)]) 0) (List.toArray []))),
  (336, (PySem.Obj.mk (PySem.Value.type "tuple") none (PySem.Data.seq (List.toArray []) 0) (List.toArray [])))]
noncomputable def K03c9 (P : Params) : Frag := [
  (338, (PySem.Obj.mk (PySem.Value.type "code") none (PySem.Data.fields (List.toArray [(PySem.Value.str (Str.ofString "PrependSOffsetTRelative") 831), (PySem.Value.str (Str.ofString "Builder.PrependSOffsetTRelative") 832), (PySem.Value.str (Str.ofString "/claim/cut.py") 833), (PySem.Value.int 205 0), (PySem.Value.int 2 0), (PySem.Value.int 0 0), (PySem.Value.int 0 0), (PySem.Value.int 3 0), (PySem.Value.ref 333), (PySem.Value.bool (Bool.true)), (PySem.Value.int 317 0), (PySem.Value.ref 334), (PySem.Value.none), (PySem.Value.ref 335), (PySem.Value.ref 336), (PySem.Value.ref 337), (PySem.Value.int 838 0), (PySem.Value.int 205 0), (PySem.Value.str (Str.ofString "/claim/cut.py") 839)])) (List.toArray []))),
  (339, (PySem.Obj.mk (PySem.Value.type "function") none (PySem.Data.func (PySem.FuncData.mk (Str.ofString "PrependSOffsetTRelative") (Str.ofString "Builder.PrependSOffsetTRelative") (fdArgs (stB 32 14)) (fdBody (stB 32 14)) (fdScope (stB 32 14)) 3 [] (PySem.Value.none) (PySem.Value.none) (PySem.Value.none) (PySem.Value.str (Str.ofString "flatbuffers.builder") 604) none (PySem.Value.ref 338) (PySem.Value.none) 0)) (List.toArray []))),
  (340, (PySem.Obj.mk (PySem.Value.type "tuple") none (PySem.Data.seq (List.toArray []) 0) (List.toArray []))),
  (342, (PySem.Obj.mk (PySem.Value.type "tuple") none (PySem.Data.seq (List.toArray [(PySem.Value.str (Str.ofString "self") 844), (PySem.Value.str (Str.ofString "off") 845), (PySem.Value.str (Str.ofString "msg") 846), (PySem.Value.str (Str.ofString "off2") 847)]) 0) (List.toArray []))),
  (343, (PySem.Obj.mk (PySem.Value.type "tuple") none (PySem.Data.seq (List.toArray []) 0) (List.toArray []))),
  (345, (PySem.Obj.mk (PySem.Value.type "code") none (PySem.Data.fields (List.toArray [(PySem.Value.str (Str.ofString "PrependUOffsetTRelative") 841), (PySem.Value.str (Str.ofString "Builder.PrependUOffsetTRelative") 842), (PySem.Value.str (Str.ofString "/claim/cut.py") 843), (PySem.Value.int 213 0), (PySem.Value.int 2 0), (PySem.Value.int 0 0), (PySem.Value.int 0 0), (PySem.Value.int 3 0), (PySem.Value.ref 340), (PySem.Value.bool (Bool.true)), (PySem.Value.int 317 0), (PySem.Value.ref 341), (PySem.Value.none), (PySem.Value.ref 342), (PySem.Value.ref 343), (PySem.Value.ref 344), (PySem.Value.int 848 0), (PySem.Value.int 213 0), (PySem.Value.str (Str.ofString "/claim/cut.py") 849)])) (List.toArray []))),
  (346, (PySem.Obj.mk (PySem.Value.type "function") none (PySem.Data.func (PySem.FuncData.mk (Str.ofString "PrependUOffsetTRelative") (Str.ofString "Builder.PrependUOffsetTRelative") (fdArgs (stB 32 15)) (fdBody (stB 32 15)) (fdScope (stB 32 15)) 3 [] (PySem.Value.none) (PySem.Value.none) (PySem.Value.none) (PySem.Value.str (Str.ofString "flatbuffers.builder") 604) none (PySem.Value.ref 345) (PySem.Value.none) 0)) (List.toArray []))),
  (383, (PySem.Obj.mk (PySem.Value.type "tuple") none (PySem.Data.seq (List.toArray []) 0) (List.toArray []))),
  (385, (PySem.Obj.mk (PySem.Value.type "tuple") none (PySem.Data.seq (List.toArray [(PySem.Value.str (Str.ofString "self") 896)]) 0) (List.toArray []))),
  (386, (PySem.Obj.mk (PySem.Value.type "tuple") none (PySem.Data.seq (List.toArray []) 0) (List.toArray []))),
  (388, (PySem.Obj.mk (PySem.Value.type "code") none (PySem.Data.fields (List.toArray [(PySem.Value.str (Str.ofString "assertNested") 893), (PySem.Value.str (Str.ofString "Builder.assertNested") 894), (PySem.Value.str (Str.ofString "/claim/cut.py") 895), (PySem.Value.int 236 0), (PySem.Value.int 1 0), (PySem.Value.int 0 0), (PySem.Value.int 0 0), (PySem.Value.int 3 0), (PySem.Value.ref 383), (PySem.Value.bool (Bool.true)), (PySem.Value.int 317 0), (PySem.Value.ref 384), (PySem.Value.none), (PySem.Value.ref 385), (PySem.Value.ref 386), (PySem.Value.ref 387), (PySem.Value.int 897 0), (PySem.Value.int 236 0), (PySem.Value.str (Str.ofString "/claim/cut.py") 898)])) (List.toArray []))),
  (389, (PySem.Obj.mk (PySem.Value.type "function") none (PySem.Data.func (PySem.FuncData.mk (Str.ofString "assertNested") (Str.ofString "Builder.assertNested") (fdArgs (stB 32 21)) (fdBody (stB 32 21)) (fdScope (stB 32 21)) 3 [] (PySem.Value.none) (PySem.Value.none) (PySem.Value.none) (PySem.Value.str (Str.ofString "flatbuffers.builder") 604) none (PySem.Value.ref 388) (PySem.Value.none) 0)) (List.toArray []))),
  (390, (PySem.Obj.mk (PySem.Value.type "tuple") none (PySem.Data.seq (List.toArray []) 0) (List.toArray []))),
  (392, (PySem.Obj.mk (PySem.Value.type "tuple") none (PySem.Data.seq (List.toArray [(PySem.Value.str (Str.ofString "self") 903)]) 0) (List.toArray []))),
  (393, (PySem.Obj.mk (PySem.Value.type "tuple") none (PySem.Data.seq (List.toArray []) 0) (List.toArray [])))]
noncomputable def K03c10 (P : Params) : Frag := [
  (395, (PySem.Obj.mk (PySem.Value.type "code") none (PySem.Data.fields (List.toArray [(PySem.Value.str (Str.ofString "assertNotNested") 900), (PySem.Value.str (Str.ofString "Builder.assertNotNested") 901), (PySem.Value.str (Str.ofString "/claim/cut.py") 902), (PySem.Value.int 240 0), (PySem.Value.int 1 0), (PySem.Value.int 0 0), (PySem.Value.int 0 0), (PySem.Value.int 3 0), (PySem.Value.ref 390), (PySem.Value.bool (Bool.true)), (PySem.Value.int 317 0), (PySem.Value.ref 391), (PySem.Value.none), (PySem.Value.ref 392), (PySem.Value.ref 393), (PySem.Value.ref 394), (PySem.Value.int 904 0), (PySem.Value.int 240 0), (PySem.Value.str (Str.ofString "/claim/cut.py") 905)])) (List.toArray []))),
  (396, (PySem.Obj.mk (PySem.Value.type "function") none (PySem.Data.func (PySem.FuncData.mk (Str.ofString "assertNotNested") (Str.ofString "Builder.assertNotNested") (fdArgs (stB 32 22)) (fdBody (stB 32 22)) (fdScope (stB 32 22)) 3 [] (PySem.Value.none) (PySem.Value.none) (PySem.Value.none) (PySem.Value.str (Str.ofString "flatbuffers.builder") 604) none (PySem.Value.ref 395) (PySem.Value.none) 0)) (List.toArray []))),
  (404, (PySem.Obj.mk (PySem.Value.type "tuple") none (PySem.Data.seq (List.toArray []) 0) (List.toArray []))),
  (406, (PySem.Obj.mk (PySem.Value.type "tuple") none (PySem.Data.seq (List.toArray [(PySem.Value.str (Str.ofString "self") 918), (PySem.Value.str (Str.ofString "slotnum") 919)]) 0) (List.toArray []))),
  (407, (PySem.Obj.mk (PySem.Value.type "tuple") none (PySem.Data.seq (List.toArray []) 0) (List.toArray []))),
  (409, (PySem.Obj.mk (PySem.Value.type "code") none (PySem.Data.fields (List.toArray [(PySem.Value.str (Str.ofString "Slot") 915), (PySem.Value.str (Str.ofString "Builder.Slot") 916), (PySem.Value.str (Str.ofString "/claim/cut.py") 917), (PySem.Value.int 247 0), (PySem.Value.int 2 0), (PySem.Value.int 0 0), (PySem.Value.int 0 0), (PySem.Value.int 3 0), (PySem.Value.ref 404), (PySem.Value.bool (Bool.true)), (PySem.Value.int 317 0), (PySem.Value.ref 405), (PySem.Value.none), (PySem.Value.ref 406), (PySem.Value.ref 407), (PySem.Value.ref 408), (PySem.Value.int 920 0), (PySem.Value.int 247 0), (PySem.Value.str (Str.ofString "/claim/cut.py") 921)])) (List.toArray []))),
  (410, (PySem.Obj.mk (PySem.Value.type "function") none (PySem.Data.func (PySem.FuncData.mk (Str.ofString "Slot") (Str.ofString "Builder.Slot") (fdArgs (stB 32 24)) (fdBody (stB 32 24)) (fdScope (stB 32 24)) 3 [] (PySem.Value.none) (PySem.Value.none) (PySem.Value.none) (PySem.Value.str (Str.ofString "flatbuffers.builder") 604) none (PySem.Value.ref 409) (PySem.Value.none) 0)) (List.toArray []))),
  (411, (PySem.Obj.mk (PySem.Value.type "tuple") none (PySem.Data.seq (List.toArray [(PySem.Value.none)]) 0) (List.toArray []))),
  (412, (PySem.Obj.mk (PySem.Value.type "tuple") none (PySem.Data.seq (List.toArray []) 0) (List.toArray []))),
  (414, (PySem.Obj.mk (PySem.Value.type "tuple") none (PySem.Data.seq (List.toArray [(PySem.Value.str (Str.ofString "self") 926), (PySem.Value.str (Str.ofString "rootTable") 927), (PySem.Value.str (Str.ofString "sizePrefix") 928), (PySem.Value.str (Str.ofString "file_identifier") 929), (PySem.Value.str (Str.ofString "prepSize") 930), (PySem.Value.str (Str.ofString "i") 931), (PySem.Value.str (Str.ofString "size") 932)]) 0) (List.toArray []))),
  (415, (PySem.Obj.mk (PySem.Value.type "tuple") none (PySem.Data.seq (List.toArray []) 0) (List.toArray []))),
  (417, (PySem.Obj.mk (PySem.Value.type "code") none (PySem.Data.fields (List.toArray [(PySem.Value.str (Str.ofString "__Finish") 923), (PySem.Value.str (Str.ofString "Builder.__Finish") 924), (PySem.Value.str (Str.ofString "/claim/cut.py") 925), (PySem.Value.int 251 0), (PySem.Value.int 4 0), (PySem.Value.int 0 0), (PySem.Value.int 0 0), (PySem.Value.int 3 0), (PySem.Value.ref 412), (PySem.Value.bool (Bool.true)), (PySem.Value.int 317 0), (PySem.Value.ref 413), (PySem.Value.none), (PySem.Value.ref 414), (PySem.Value.ref 415), (PySem.Value.ref 416), (PySem.Value.int 933 0), (PySem.Value.int 251 0), (PySem.Value.str (Str.ofString "/claim/cut.py") 934)])) (List.toArray []))),
  (418, (PySem.Obj.mk (PySem.Value.type "function") none (PySem.Data.func (PySem.FuncData.mk (Str.ofString "__Finish") (Str.ofString "Builder.__Finish") (fdArgs (stB 32 25)) (fdBody (stB 32 25)) (fdScope (stB 32 25)) 3 [] (PySem.Value.ref 411) (PySem.Value.none) (PySem.Value.none) (PySem.Value.str (Str.ofString "flatbuffers.builder") 604) none (PySem.Value.ref 417) (PySem.Value.none) 0)) (List.toArray []))),
  (419, (PySem.Obj.mk (PySem.Value.type "tuple") none (PySem.Data.seq (List.toArray [(PySem.Value.none)]) 0) (List.toArray []))),
  (420, (PySem.Obj.mk (PySem.Value.type "tuple") none (PySem.Data.seq (List.toArray []) 0) (List.toArray [])))]
noncomputable def K03c11 (P : Params) : Frag := [
  (422, (PySem.Obj.mk (PySem.Value.type "tuple") none (PySem.Data.seq (List.toArray [(PySem.Value.str (Str.ofString "self") 939), (PySem.Value.str (Str.ofString "rootTable") 940), (PySem.Value.str (Str.ofString "file_identifier") 941)]) 0) (List.toArray []))),
  (423, (PySem.Obj.mk (PySem.Value.type "tuple") none (PySem.Data.seq (List.toArray []) 0) (List.toArray []))),
  (425, (PySem.Obj.mk (PySem.Value.type "code") none (PySem.Data.fields (List.toArray [(PySem.Value.str (Str.ofString "Finish") 936), (PySem.Value.str (Str.ofString "Builder.Finish") 937), (PySem.Value.str (Str.ofString "/claim/cut.py") 938), (PySem.Value.int 272 0), (PySem.Value.int 3 0), (PySem.Value.int 0 0), (PySem.Value.int 0 0), (PySem.Value.int 3 0), (PySem.Value.ref 420), (PySem.Value.bool (Bool.true)), (PySem.Value.int 317 0), (PySem.Value.ref 421), (PySem.Value.none), (PySem.Value.ref 422), (PySem.Value.ref 423), (PySem.Value.ref 424), (PySem.Value.int 942 0), (PySem.Value.int 272 0), (PySem.Value.str (Str.ofString "/claim/cut.py") 943)])) (List.toArray []))),
  (426, (PySem.Obj.mk (PySem.Value.type "function") none (PySem.Data.func (PySem.FuncData.mk (Str.ofString "Finish") (Str.ofString "Builder.Finish") (fdArgs (stB 32 26)) (fdBody (stB 32 26)) (fdScope (stB 32 26)) 3 [] (PySem.Value.ref 419) (PySem.Value.none) (PySem.Value.none) (PySem.Value.str (Str.ofString "flatbuffers.builder") 604) none (PySem.Value.ref 425) (PySem.Value.none) 0)) (List.toArray []))),
  (427, (PySem.Obj.mk (PySem.Value.type "tuple") none (PySem.Data.seq (List.toArray [(PySem.Value.none)]) 0) (List.toArray []))),
  (428, (PySem.Obj.mk (PySem.Value.type "tuple") none (PySem.Data.seq (List.toArray []) 0) (List.toArray []))),
  (430, (PySem.Obj.mk (PySem.Value.type "tuple") none (PySem.Data.seq (List.toArray [(PySem.Value.str (Str.ofString "self") 948), (PySem.Value.str (Str.ofString "rootTable") 949), (PySem.Value.str (Str.ofString "file_identifier") 950)]) 0) (List.toArray []))),
  (431, (PySem.Obj.mk (PySem.Value.type "tuple") none (PySem.Data.seq (List.toArray []) 0) (List.toArray []))),
  (433, (PySem.Obj.mk (PySem.Value.type "code") none (PySem.Data.fields (List.toArray [(PySem.Value.str (Str.ofString "FinishSizePrefixed") 945), (PySem.Value.str (Str.ofString "Builder.FinishSizePrefixed") 946), (PySem.Value.str (Str.ofString "/claim/cut.py") 947), (PySem.Value.int 275 0), (PySem.Value.int 3 0), (PySem.Value.int 0 0), (PySem.Value.int 0 0), (PySem.Value.int 3 0), (PySem.Value.ref 428), (PySem.Value.bool (Bool.true)), (PySem.Value.int 317 0), (PySem.Value.ref 429), (PySem.Value.none), (PySem.Value.ref 430), (PySem.Value.ref 431), (PySem.Value.ref 432), (PySem.Value.int 951 0), (PySem.Value.int 275 0), (PySem.Value.str (Str.ofString "/claim/cut.py") 952)])) (List.toArray []))),
  (434, (PySem.Obj.mk (PySem.Value.type "function") none (PySem.Data.func (PySem.FuncData.mk (Str.ofString "FinishSizePrefixed") (Str.ofString "Builder.FinishSizePrefixed") (fdArgs (stB 32 27)) (fdBody (stB 32 27)) (fdScope (stB 32 27)) 3 [] (PySem.Value.ref 427) (PySem.Value.none) (PySem.Value.none) (PySem.Value.str (Str.ofString "flatbuffers.builder") 604) none (PySem.Value.ref 433) (PySem.Value.none) 0)) (List.toArray []))),
  (435, (PySem.Obj.mk (PySem.Value.type "tuple") none (PySem.Data.seq (List.toArray []) 0) (List.toArray []))),
  (437, (PySem.Obj.mk (PySem.Value.type "tuple") none (PySem.Data.seq (List.toArray [(PySem.Value.str (Str.ofString "self") 957), (PySem.Value.str (Str.ofString "flags") 958), (PySem.Value.str (Str.ofString "off") 959)]) 0) (List.toArray []))),
  (438, (PySem.Obj.mk (PySem.Value.type "tuple") none (PySem.Data.seq (List.toArray []) 0) (List.toArray []))),
  (440, (PySem.Obj.mk (PySem.Value.type "code") none (PySem.Data.fields (List.toArray [(PySem.Value.str (Str.ofString "Prepend") 954), (PySem.Value.str (Str.ofString "Builder.Prepend") 955), (PySem.Value.str (Str.ofString "/claim/cut.py") 956), (PySem.Value.int 278 0), (PySem.Value.int 3 0), (PySem.Value.int 0 0), (PySem.Value.int 0 0), (PySem.Value.int 3 0), (PySem.Value.ref 435), (PySem.Value.bool (Bool.true)), (PySem.Value.int 317 0), (PySem.Value.ref 436), (PySem.Value.none), (PySem.Value.ref 437), (PySem.Value.ref 438), (PySem.Value.ref 439), (PySem.Value.int 960 0), (PySem.Value.int 278 0), (PySem.Value.str (Str.ofString "/claim/cut.py") 961)])) (List.toArray []))),
  (441, (PySem.Obj.mk (PySem.Value.type "function") none (PySem.Data.func (PySem.FuncData.mk (Str.ofString "Prepend") (Str.ofString "Builder.Prepend") (fdArgs (stB 32 28)) (fdBody (stB 32 28)) (fdScope (stB 32 28)) 3 [] (PySem.Value.none) (PySem.Value.none) (PySem.Value.none) (PySem.Value.str (Str.ofString "flatbuffers.builder") 604) none (PySem.Value.ref 440) (PySem.Value.none) 0)) (List.toArray [])))]
noncomputable def K03c12 (P : Params) : Frag := [
  (442, (PySem.Obj.mk (PySem.Value.type "tuple") none (PySem.Data.seq (List.toArray []) 0) (List.toArray []))),
  (444, (PySem.Obj.mk (PySem.Value.type "tuple") none (PySem.Data.seq (List.toArray [(PySem.Value.str (Str.ofString "self") 966), (PySem.Value.str (Str.ofString "flags") 967), (PySem.Value.str (Str.ofString "o") 968), (PySem.Value.str (Str.ofString "x") 969), (PySem.Value.str (Str.ofString "d") 970)]) 0) (List.toArray []))),
  (445, (PySem.Obj.mk (PySem.Value.type "tuple") none (PySem.Data.seq (List.toArray []) 0) (List.toArray []))),
  (447, (PySem.Obj.mk (PySem.Value.type "code") none (PySem.Data.fields (List.toArray [(PySem.Value.str (Str.ofString "PrependSlot") 963), (PySem.Value.str (Str.ofString "Builder.PrependSlot") 964), (PySem.Value.str (Str.ofString "/claim/cut.py") 965), (PySem.Value.int 282 0), (PySem.Value.int 5 0), (PySem.Value.int 0 0), (PySem.Value.int 0 0), (PySem.Value.int 3 0), (PySem.Value.ref 442), (PySem.Value.bool (Bool.true)), (PySem.Value.int 317 0), (PySem.Value.ref 443), (PySem.Value.none), (PySem.Value.ref 444), (PySem.Value.ref 445), (PySem.Value.ref 446), (PySem.Value.int 971 0), (PySem.Value.int 282 0), (PySem.Value.str (Str.ofString "/claim/cut.py") 972)])) (List.toArray []))),
  (448, (PySem.Obj.mk (PySem.Value.type "function") none (PySem.Data.func (PySem.FuncData.mk (Str.ofString "PrependSlot") (Str.ofString "Builder.PrependSlot") (fdArgs (stB 32 29)) (fdBody (stB 32 29)) (fdScope (stB 32 29)) 3 [] (PySem.Value.none) (PySem.Value.none) (PySem.Value.none) (PySem.Value.str (Str.ofString "flatbuffers.builder") 604) none (PySem.Value.ref 447) (PySem.Value.none) 0)) (List.toArray []))),
  (463, (PySem.Obj.mk (PySem.Value.type "tuple") none (PySem.Data.seq (List.toArray []) 0) (List.toArray []))),
  (465, (PySem.Obj.mk (PySem.Value.type "tuple") none (PySem.Data.seq (List.toArray [(PySem.Value.str (Str.ofString "self") 993), (PySem.Value.str (Str.ofString "args") 994)]) 0) (List.toArray []))),
  (466, (PySem.Obj.mk (PySem.Value.type "tuple") none (PySem.Data.seq (List.toArray []) 0) (List.toArray []))),
  (468, (PySem.Obj.mk (PySem.Value.type "code") none (PySem.Data.fields (List.toArray [(PySem.Value.str (Str.ofString "PrependUint8Slot") 990), (PySem.Value.str (Str.ofString "Builder.PrependUint8Slot") 991), (PySem.Value.str (Str.ofString "/claim/cut.py") 992), (PySem.Value.int 297 0), (PySem.Value.int 1 0), (PySem.Value.int 0 0), (PySem.Value.int 0 0), (PySem.Value.int 7 0), (PySem.Value.ref 463), (PySem.Value.bool (Bool.true)), (PySem.Value.int 317 0), (PySem.Value.ref 464), (PySem.Value.none), (PySem.Value.ref 465), (PySem.Value.ref 466), (PySem.Value.ref 467), (PySem.Value.int 995 0), (PySem.Value.int 297 0), (PySem.Value.str (Str.ofString "/claim/cut.py") 996)])) (List.toArray []))),
  (469, (PySem.Obj.mk (PySem.Value.type "function") none (PySem.Data.func (PySem.FuncData.mk (Str.ofString "PrependUint8Slot") (Str.ofString "Builder.PrependUint8Slot") (fdArgs (stB 32 32)) (fdBody (stB 32 32)) (fdScope (stB 32 32)) 3 [] (PySem.Value.none) (PySem.Value.none) (PySem.Value.none) (PySem.Value.str (Str.ofString "flatbuffers.builder") 604) none (PySem.Value.ref 468) (PySem.Value.none) 0)) (List.toArray []))),
  (470, (PySem.Obj.mk (PySem.Value.type "tuple") none (PySem.Data.seq (List.toArray []) 0) (List.toArray []))),
  (472, (PySem.Obj.mk (PySem.Value.type "tuple") none (PySem.Data.seq (List.toArray [(PySem.Value.str (Str.ofString "self") 1001), (PySem.Value.str (Str.ofString "args") 1002)]) 0) (List.toArray []))),
  (473, (PySem.Obj.mk (PySem.Value.type "tuple") none (PySem.Data.seq (List.toArray []) 0) (List.toArray []))),
  (475, (PySem.Obj.mk (PySem.Value.type "code") none (PySem.Data.fields (List.toArray [(PySem.Value.str (Str.ofString "PrependUint16Slot") 998), (PySem.Value.str (Str.ofString "Builder.PrependUint16Slot") 999), (PySem.Value.str (Str.ofString "/claim/cut.py") 1000), (PySem.Value.int 300 0), (PySem.Value.int 1 0), (PySem.Value.int 0 0), (PySem.Value.int 0 0), (PySem.Value.int 7 0), (PySem.Value.ref 470), (PySem.Value.bool (Bool.true)), (PySem.Value.int 317 0), (PySem.Value.ref 471), (PySem.Value.none), (PySem.Value.ref 472), (PySem.Value.ref 473), (PySem.Value.ref 474), (PySem.Value.int 1003 0), (PySem.Value.int 300 0), (PySem.Value.str (Str.ofString "/claim/cut.py") 1004)])) (List.toArray []))),
  (476, (PySem.Obj.mk (PySem.Value.type "function") none (PySem.Data.func (PySem.FuncData.mk (Str.ofString "PrependUint16Slot") (Str.ofString "Builder.PrependUint16Slot") (fdArgs (stB 32 33)) (fdBody (stB 32 33)) (fdScope (stB 32 33)) 3 [] (PySem.Value.none) (PySem.Value.none) (PySem.Value.none) (PySem.Value.str (Str.ofString "flatbuffers.builder") 604) none (PySem.Value.ref 475) (PySem.Value.none) 0)) (List.toArray [])))]
noncomputable def K03c13 (P : Params) : Frag := [
  (477, (PySem.Obj.mk (PySem.Value.type "tuple") none (PySem.Data.seq (List.toArray []) 0) (List.toArray []))),
  (479, (PySem.Obj.mk (PySem.Value.type "tuple") none (PySem.Data.seq (List.toArray [(PySem.Value.str (Str.ofString "self") 1009), (PySem.Value.str (Str.ofString "args") 1010)]) 0) (List.toArray []))),
  (480, (PySem.Obj.mk (PySem.Value.type "tuple") none (PySem.Data.seq (List.toArray []) 0) (List.toArray []))),
  (482, (PySem.Obj.mk (PySem.Value.type "code") none (PySem.Data.fields (List.toArray [(PySem.Value.str (Str.ofString "PrependUint32Slot") 1006), (PySem.Value.str (Str.ofString "Builder.PrependUint32Slot") 1007), (PySem.Value.str (Str.ofString "/claim/cut.py") 1008), (PySem.Value.int 303 0), (PySem.Value.int 1 0), (PySem.Value.int 0 0), (PySem.Value.int 0 0), (PySem.Value.int 7 0), (PySem.Value.ref 477), (PySem.Value.bool (Bool.true)), (PySem.Value.int 317 0), (PySem.Value.ref 478), (PySem.Value.none), (PySem.Value.ref 479), (PySem.Value.ref 480), (PySem.Value.ref 481), (PySem.Value.int 1011 0), (PySem.Value.int 303 0), (PySem.Value.str (Str.ofString "/claim/cut.py") 1012)])) (List.toArray []))),
  (483, (PySem.Obj.mk (PySem.Value.type "function") none (PySem.Data.func (PySem.FuncData.mk (Str.ofString "PrependUint32Slot") (Str.ofString "Builder.PrependUint32Slot") (fdArgs (stB 32 34)) (fdBody (stB 32 34)) (fdScope (stB 32 34)) 3 [] (PySem.Value.none) (PySem.Value.none) (PySem.Value.none) (PySem.Value.str (Str.ofString "flatbuffers.builder") 604) none (PySem.Value.ref 482) (PySem.Value.none) 0)) (List.toArray []))),
  (484, (PySem.Obj.mk (PySem.Value.type "tuple") none (PySem.Data.seq (List.toArray []) 0) (List.toArray []))),
  (486, (PySem.Obj.mk (PySem.Value.type "tuple") none (PySem.Data.seq (List.toArray [(PySem.Value.str (Str.ofString "self") 1017), (PySem.Value.str (Str.ofString "args") 1018)]) 0) (List.toArray []))),
  (487, (PySem.Obj.mk (PySem.Value.type "tuple") none (PySem.Data.seq (List.toArray []) 0) (List.toArray []))),
  (489, (PySem.Obj.mk (PySem.Value.type "code") none (PySem.Data.fields (List.toArray [(PySem.Value.str (Str.ofString "PrependUint64Slot") 1014), (PySem.Value.str (Str.ofString "Builder.PrependUint64Slot") 1015), (PySem.Value.str (Str.ofString "/claim/cut.py") 1016), (PySem.Value.int 306 0), (PySem.Value.int 1 0), (PySem.Value.int 0 0), (PySem.Value.int 0 0), (PySem.Value.int 7 0), (PySem.Value.ref 484), (PySem.Value.bool (Bool.true)), (PySem.Value.int 317 0), (PySem.Value.ref 485), (PySem.Value.none), (PySem.Value.ref 486), (PySem.Value.ref 487), (PySem.Value.ref 488), (PySem.Value.int 1019 0), (PySem.Value.int 306 0), (PySem.Value.str (Str.ofString "/claim/cut.py") 1020)])) (List.toArray []))),
  (490, (PySem.Obj.mk (PySem.Value.type "function") none (PySem.Data.func (PySem.FuncData.mk (Str.ofString "PrependUint64Slot") (Str.ofString "Builder.PrependUint64Slot") (fdArgs (stB 32 35)) (fdBody (stB 32 35)) (fdScope (stB 32 35)) 3 [] (PySem.Value.none) (PySem.Value.none) (PySem.Value.none) (PySem.Value.str (Str.ofString "flatbuffers.builder") 604) none (PySem.Value.ref 489) (PySem.Value.none) 0)) (List.toArray []))),
  (589, (PySem.Obj.mk (PySem.Value.type "tuple") none (PySem.Data.seq (List.toArray []) 0) (List.toArray []))),
  (591, (PySem.Obj.mk (PySem.Value.type "tuple") none (PySem.Data.seq (List.toArray [(PySem.Value.str (Str.ofString "self") 1141), (PySem.Value.str (Str.ofString "x") 1142)]) 0) (List.toArray []))),
  (592, (PySem.Obj.mk (PySem.Value.type "tuple") none (PySem.Data.seq (List.toArray []) 0) (List.toArray []))),
  (594, (PySem.Obj.mk (PySem.Value.type "code") none (PySem.Data.fields (List.toArray [(PySem.Value.str (Str.ofString "PrependInt32") 1138), (PySem.Value.str (Str.ofString "Builder.PrependInt32") 1139), (PySem.Value.str (Str.ofString "/claim/cut.py") 1140), (PySem.Value.int 351 0), (PySem.Value.int 2 0), (PySem.Value.int 0 0), (PySem.Value.int 0 0), (PySem.Value.int 3 0), (PySem.Value.ref 589), (PySem.Value.bool (Bool.true)), (PySem.Value.int 317 0), (PySem.Value.ref 590), (PySem.Value.none), (PySem.Value.ref 591), (PySem.Value.ref 592), (PySem.Value.ref 593), (PySem.Value.int 1143 0), (PySem.Value.int 351 0), (PySem.Value.str (Str.ofString "/claim/cut.py") 1144)])) (List.toArray []))),
  (595, (PySem.Obj.mk (PySem.Value.type "function") none (PySem.Data.func (PySem.FuncData.mk (Str.ofString "PrependInt32") (Str.ofString "Builder.PrependInt32") (fdArgs (stB 32 50)) (fdBody (stB 32 50)) (fdScope (stB 32 50)) 3 [] (PySem.Value.none) (PySem.Value.none) (PySem.Value.none) (PySem.Value.str (Str.ofString "flatbuffers.builder") 604) none (PySem.Value.ref 594) (PySem.Value.none) 0)) (List.toArray [])))]
noncomputable def K03c14 (P : Params) : Frag := [
  (610, (PySem.Obj.mk (PySem.Value.type "tuple") none (PySem.Data.seq (List.toArray []) 0) (List.toArray []))),
  (612, (PySem.Obj.mk (PySem.Value.type "tuple") none (PySem.Data.seq (List.toArray [(PySem.Value.str (Str.ofString "self") 1165), (PySem.Value.str (Str.ofString "x") 1166)]) 0) (List.toArray []))),
  (613, (PySem.Obj.mk (PySem.Value.type "tuple") none (PySem.Data.seq (List.toArray []) 0) (List.toArray []))),
  (615, (PySem.Obj.mk (PySem.Value.type "code") none (PySem.Data.fields (List.toArray [(PySem.Value.str (Str.ofString "PrependVOffsetT") 1162), (PySem.Value.str (Str.ofString "Builder.PrependVOffsetT") 1163), (PySem.Value.str (Str.ofString "/claim/cut.py") 1164), (PySem.Value.int 360 0), (PySem.Value.int 2 0), (PySem.Value.int 0 0), (PySem.Value.int 0 0), (PySem.Value.int 3 0), (PySem.Value.ref 610), (PySem.Value.bool (Bool.true)), (PySem.Value.int 317 0), (PySem.Value.ref 611), (PySem.Value.none), (PySem.Value.ref 612), (PySem.Value.ref 613), (PySem.Value.ref 614), (PySem.Value.int 1167 0), (PySem.Value.int 360 0), (PySem.Value.str (Str.ofString "/claim/cut.py") 1168)])) (List.toArray []))),
  (616, (PySem.Obj.mk (PySem.Value.type "function") none (PySem.Data.func (PySem.FuncData.mk (Str.ofString "PrependVOffsetT") (Str.ofString "Builder.PrependVOffsetT") (fdArgs (stB 32 53)) (fdBody (stB 32 53)) (fdScope (stB 32 53)) 3 [] (PySem.Value.none) (PySem.Value.none) (PySem.Value.none) (PySem.Value.str (Str.ofString "flatbuffers.builder") 604) none (PySem.Value.ref 615) (PySem.Value.none) 0)) (List.toArray []))),
  (617, (PySem.Obj.mk (PySem.Value.type "tuple") none (PySem.Data.seq (List.toArray []) 0) (List.toArray []))),
  (619, (PySem.Obj.mk (PySem.Value.type "tuple") none (PySem.Data.seq (List.toArray [(PySem.Value.str (Str.ofString "self") 1173), (PySem.Value.str (Str.ofString "x") 1174), (PySem.Value.str (Str.ofString "flags") 1175), (PySem.Value.str (Str.ofString "new_head") 1176)]) 0) (List.toArray []))),
  (620, (PySem.Obj.mk (PySem.Value.type "tuple") none (PySem.Data.seq (List.toArray []) 0) (List.toArray []))),
  (622, (PySem.Obj.mk (PySem.Value.type "code") none (PySem.Data.fields (List.toArray [(PySem.Value.str (Str.ofString "Place") 1170), (PySem.Value.str (Str.ofString "Builder.Place") 1171), (PySem.Value.str (Str.ofString "/claim/cut.py") 1172), (PySem.Value.int 363 0), (PySem.Value.int 3 0), (PySem.Value.int 0 0), (PySem.Value.int 0 0), (PySem.Value.int 3 0), (PySem.Value.ref 617), (PySem.Value.bool (Bool.true)), (PySem.Value.int 317 0), (PySem.Value.ref 618), (PySem.Value.none), (PySem.Value.ref 619), (PySem.Value.ref 620), (PySem.Value.ref 621), (PySem.Value.int 1177 0), (PySem.Value.int 363 0), (PySem.Value.str (Str.ofString "/claim/cut.py") 1178)])) (List.toArray []))),
  (623, (PySem.Obj.mk (PySem.Value.type "function") none (PySem.Data.func (PySem.FuncData.mk (Str.ofString "Place") (Str.ofString "Builder.Place") (fdArgs (stB 32 54)) (fdBody (stB 32 54)) (fdScope (stB 32 54)) 3 [] (PySem.Value.none) (PySem.Value.none) (PySem.Value.none) (PySem.Value.str (Str.ofString "flatbuffers.builder") 604) none (PySem.Value.ref 622) (PySem.Value.none) 0)) (List.toArray []))),
  (631, (PySem.Obj.mk (PySem.Value.type "tuple") none (PySem.Data.seq (List.toArray []) 0) (List.toArray []))),
  (633, (PySem.Obj.mk (PySem.Value.type "tuple") none (PySem.Data.seq (List.toArray [(PySem.Value.str (Str.ofString "self") 1191), (PySem.Value.str (Str.ofString "x") 1192), (PySem.Value.str (Str.ofString "new_head") 1193)]) 0) (List.toArray []))),
  (634, (PySem.Obj.mk (PySem.Value.type "tuple") none (PySem.Data.seq (List.toArray []) 0) (List.toArray []))),
  (636, (PySem.Obj.mk (PySem.Value.type "code") none (PySem.Data.fields (List.toArray [(PySem.Value.str (Str.ofString "PlaceSOffsetT") 1188), (PySem.Value.str (Str.ofString "Builder.PlaceSOffsetT") 1189), (PySem.Value.str (Str.ofString "/claim/cut.py") 1190), (PySem.Value.int 372 0), (PySem.Value.int 2 0), (PySem.Value.int 0 0), (PySem.Value.int 0 0), (PySem.Value.int 3 0), (PySem.Value.ref 631), (PySem.Value.bool (Bool.true)), (PySem.Value.int 317 0), (PySem.Value.ref 632), (PySem.Value.none), (PySem.Value.ref 633), (PySem.Value.ref 634), (PySem.Value.ref 635), (PySem.Value.int 1194 0), (PySem.Value.int 372 0), (PySem.Value.str (Str.ofString "/claim/cut.py") 1195)])) (List.toArray []))),
  (637, (PySem.Obj.mk (PySem.Value.type "function") none (PySem.Data.func (PySem.FuncData.mk (Str.ofString "PlaceSOffsetT") (Str.ofString "Builder.PlaceSOffsetT") (fdArgs (stB 32 56)) (fdBody (stB 32 56)) (fdScope (stB 32 56)) 3 [] (PySem.Value.none) (PySem.Value.none) (PySem.Value.none) (PySem.Value.str (Str.ofString "flatbuffers.builder") 604) none (PySem.Value.ref 636) (PySem.Value.none) 0)) (List.toArray [])))]
noncomputable def K03c15 (P : Params) : Frag := [
  (638, (PySem.Obj.mk (PySem.Value.type "tuple") none (PySem.Data.seq (List.toArray []) 0) (List.toArray []))),
  (640, (PySem.Obj.mk (PySem.Value.type "tuple") none (PySem.Data.seq (List.toArray [(PySem.Value.str (Str.ofString "self") 1200), (PySem.Value.str (Str.ofString "x") 1201), (PySem.Value.str (Str.ofString "new_head") 1202)]) 0) (List.toArray []))),
  (641, (PySem.Obj.mk (PySem.Value.type "tuple") none (PySem.Data.seq (List.toArray []) 0) (List.toArray []))),
  (643, (PySem.Obj.mk (PySem.Value.type "code") none (PySem.Data.fields (List.toArray [(PySem.Value.str (Str.ofString "PlaceUOffsetT") 1197), (PySem.Value.str (Str.ofString "Builder.PlaceUOffsetT") 1198), (PySem.Value.str (Str.ofString "/claim/cut.py") 1199), (PySem.Value.int 378 0), (PySem.Value.int 2 0), (PySem.Value.int 0 0), (PySem.Value.int 0 0), (PySem.Value.int 3 0), (PySem.Value.ref 638), (PySem.Value.bool (Bool.true)), (PySem.Value.int 317 0), (PySem.Value.ref 639), (PySem.Value.none), (PySem.Value.ref 640), (PySem.Value.ref 641), (PySem.Value.ref 642), (PySem.Value.int 1203 0), (PySem.Value.int 378 0), (PySem.Value.str (Str.ofString "/claim/cut.py") 1204)])) (List.toArray []))),
  (644, (PySem.Obj.mk (PySem.Value.type "function") none (PySem.Data.func (PySem.FuncData.mk (Str.ofString "PlaceUOffsetT") (Str.ofString "Builder.PlaceUOffsetT") (fdArgs (stB 32 57)) (fdBody (stB 32 57)) (fdScope (stB 32 57)) 3 [] (PySem.Value.none) (PySem.Value.none) (PySem.Value.none) (PySem.Value.str (Str.ofString "flatbuffers.builder") 604) none (PySem.Value.ref 643) (PySem.Value.none) 0)) (List.toArray []))),
  (645, (PySem.Obj.mk (PySem.Value.type "tuple") none (PySem.Data.seq (List.toArray [(PySem.Value.str (Str.ofString "Bytes") 1206), (PySem.Value.str (Str.ofString "current_vtable") 1207), (PySem.Value.str (Str.ofString "finished") 1208), (PySem.Value.str (Str.ofString "forceDefaults") 1209), (PySem.Value.str (Str.ofString "head") 1210), (PySem.Value.str (Str.ofString "minalign") 1211), (PySem.Value.str (Str.ofString "nested") 1212), (PySem.Value.str (Str.ofString "objectEnd") 1213), (PySem.Value.str (Str.ofString "sharedStrings") 1214), (PySem.Value.str (Str.ofString "vtables") 1215)]) 0) (List.toArray []))),
  (647, (PySem.Obj.mk (PySem.Value.type "dict") none (PySem.Data.dict (List.toArray [(PySem.DictEntry.mk (PySem.PyData.keyHash P (Str.ofString "__module__")) (PySem.Value.str (Str.ofString "__module__") 705) (PySem.Value.str (Str.ofString "flatbuffers.builder") 604)), (PySem.DictEntry.mk (PySem.PyData.keyHash P (Str.ofString "__firstlineno__")) (PySem.Value.str (Str.ofString "__firstlineno__") 709) (PySem.Value.int 79 708)), (PySem.DictEntry.mk (PySem.PyData.keyHash P (Str.ofString "__slots__")) (PySem.Value.str (Str.ofString "__slots__") 721) (PySem.Value.ref 254)), (PySem.DictEntry.mk (PySem.PyData.keyHash P (Str.ofString "MAX_BUFFER_SIZE")) (PySem.Value.str (Str.ofString "MAX_BUFFER_SIZE") 726) (PySem.Value.int 2147483648 725)), (PySem.DictEntry.mk (PySem.PyData.keyHash P (Str.ofString "__init__")) (PySem.Value.str (Str.ofString "__init__") 736) (PySem.Value.ref 262)), (PySem.DictEntry.mk (PySem.PyData.keyHash P (Str.ofString "Clear")) (PySem.Value.str (Str.ofString "Clear") 743) (PySem.Value.ref 269)), (PySem.DictEntry.mk (PySem.PyData.keyHash P (Str.ofString "Output")) (PySem.Value.str (Str.ofString "Output") 750) (PySem.Value.ref 276)), (PySem.DictEntry.mk (PySem.PyData.keyHash P (Str.ofString "StartObject")) (PySem.Value.str (Str.ofString "StartObject") 758) (PySem.Value.ref 283)), (PySem.DictEntry.mk (PySem.PyData.keyHash P (Str.ofString "WriteVtable")) (PySem.Value.str (Str.ofString "WriteVtable") 776) (PySem.Value.ref 290)), (PySem.DictEntry.mk (PySem.PyData.keyHash P (Str.ofString "EndObject")) (PySem.Value.str (Str.ofString "EndObject") 783) (PySem.Value.ref 297)), (PySem.DictEntry.mk (PySem.PyData.keyHash P (Str.ofString "GrowByteBuffer")) (PySem.Value.str (Str.ofString "GrowByteBuffer") 793) (PySem.Value.ref 304)), (PySem.DictEntry.mk (PySem.PyData.keyHash P (Str.ofString "Head")) (PySem.Value.str (Str.ofString "Head") 800) (PySem.Value.ref 311)), (PySem.DictEntry.mk (PySem.PyData.keyHash P (Str.ofString "Offset")) (PySem.Value.str (Str.ofString "Offset") 807) (PySem.Value.ref 318)), (PySem.DictEntry.mk (PySem.PyData.keyHash P (Str.ofString "Pad")) (PySem.Value.str (Str.ofString "Pad") 816) (PySem.Value.ref 325)), (PySem.DictEntry.mk (PySem.PyData.keyHash P (Str.ofString "Prep")) (PySem.Value.str (Str.ofString "Prep") 830) (PySem.Value.ref 332)), (PySem.DictEntry.mk (PySem.PyData.keyHash P (Str.ofString "PrependSOffsetTRelative")) (PySem.Value.str (Str.ofString "PrependSOffsetTRelative") 840) (PySem.Value.ref 339)), (PySem.DictEntry.mk (PySem.PyData.keyHash P (Str.ofString "PrependUOffsetTRelative")) (PySem.Value.str (Str.ofString "PrependUOffsetTRelative") 850) (PySem.Value.ref 346)), (PySem.DictEntry.mk (PySem.PyData.keyHash P (Str.ofString "StartVector")) (PySem.Value.str (Str.ofString "StartVector") 860) (PySem.Value.ref 353)), (PySem.DictEntry.mk (PySem.PyData.keyHash P (Str.ofString "EndVector")) (PySem.Value.str (Str.ofString "EndVector") 868) (PySem.Value.ref 361)), (PySem.DictEntry.mk (PySem.PyData.keyHash P (Str.ofString "CreateSharedString")) (PySem.Value.str (Str.ofString "CreateSharedString") 876) (PySem.Value.ref 368)), (PySem.DictEntry.mk (PySem.PyData.keyHash P (Str.ofString "CreateString")) (PySem.Value.str (Str.ofString "CreateString") 884) (PySem.Value.ref 375)), (PySem.DictEntry.mk (PySem.PyData.keyHash P (Str.ofString "CreateByteVector")) (PySem.Value.str (Str.ofString "CreateByteVector") 892) (PySem.Value.ref 382)), (PySem.DictEntry.mk (PySem.PyData.keyHash P (Str.ofString "assertNested")) (PySem.Value.str (Str.ofString "assertNested") 899) (PySem.Value.ref 389)), (PySem.DictEntry.mk (PySem.PyData.keyHash P (Str.ofString "assertNotNested")) (PySem.Value.str (Str.ofString "assertNotNested") 906) (PySem.Value.ref 396)), (PySem.DictEntry.mk (PySem.PyData.keyHash P (Str.ofString "assertStructIsInline")) (PySem.Value.str (Str.ofString "assertStructIsInline") 914) (PySem.Value.ref 403)), (PySem.DictEntry.mk (PySem.PyData.keyHash P (Str.ofString "Slot")) (PySem.Value.str (Str.ofString "Slot") 922) (PySem.Value.ref 410)), (PySem.DictEntry.mk (PySem.PyData.keyHash P (Str.ofString "_Builder__Finish")) (PySem.Value.str (Str.ofString "_Builder__Finish") 935) (PySem.Value.ref 418)), (PySem.DictEntry.mk (PySem.PyData.keyHash P (Str.ofString "Finish")) (PySem.Value.str (Str.ofString "Finish") 944) (PySem.Value.ref 426)), (PySem.DictEntry.mk (PySem.PyData.keyHash P (Str.ofString "FinishSizePrefixed")) (PySem.Value.str (Str.ofString "FinishSizePrefixed") 953) (PySem.Value.ref 434)), (PySem.DictEntry.mk (PySem.PyData.keyHash P (Str.ofString "Prepend")) (PySem.Value.str (Str.ofString "Prepend") 962) (PySem.Value.ref 441)), (PySem.DictEntry.mk (PySem.PyData.keyHash P (Str.ofString "PrependSlot")) (PySem.Value.str (Str.ofString "PrependSlot") 973) (PySem.Value.ref 448)), (PySem.DictEntry.mk (PySem.PyData.keyHash P (Str.ofString "PrependBoolSlot")) (PySem.Value.str (Str.ofString "PrependBoolSlot") 981) (PySem.Value.ref 455)), (PySem.DictEntry.mk (PySem.PyData.keyHash P (Str.ofString "PrependByteSlot")) (PySem.Value.str (Str.ofString "PrependByteSlot") 989) (PySem.Value.ref 462)), (PySem.DictEntry.mk (PySem.PyData.keyHash P (Str.ofString "PrependUint8Slot")) (PySem.Value.str (Str.ofString "PrependUint8Slot") 997) (PySem.Value.ref 469)), (PySem.DictEntry.mk (PySem.PyData.keyHash P (Str.ofString "PrependUint16Slot")) (PySem.Value.str (Str.ofString "PrependUint16Slot") 1005) (PySem.Value.ref 476)), (PySem.DictEntry.mk (PySem.PyData.keyHash P (Str.ofString "PrependUint32Slot")) (PySem.Value.str (Str.ofString "PrependUint32Slot") 1013) (PySem.Value.ref 483)), (PySem.DictEntry.mk (PySem.PyData.keyHash P (Str.ofString "PrependUint64Slot")) (PySem.Value.str (Str.ofString "PrependUint64Slot") 1021) (PySem.Value.ref 490)), (PySem.DictEntry.mk (PySem.PyData.keyHash P (Str.ofString "PrependInt8Slot")) (PySem.Value.str (Str.ofString "PrependInt8Slot") 1029) (PySem.Value.ref 497)), (PySem.DictEntry.mk (PySem.PyData.keyHash P (Str.ofString "PrependInt16Slot")) (PySem.Value.str (Str.ofString "PrependInt16Slot") 1037) (PySem.Value.ref 504)), (PySem.DictEntry.mk (PySem.PyData.keyHash P (Str.ofString "PrependInt32Slot")) (PySem.Value.str (Str.ofString "PrependInt32Slot") 1045) (PySem.Value.ref 511)), (PySem.DictEntry.mk (PySem.PyData.keyHash P (Str.ofString "PrependInt64Slot")) (PySem.Value.str (Str.ofString "PrependInt64Slot") 1053) (PySem.Value.ref 518)), (PySem.DictEntry.mk (PySem.PyData.keyHash P (Str.ofString "PrependUOffsetTRelativeSlot")) (PySem.Value.str (Str.ofString "PrependUOffsetTRelativeSlot") 1063) (PySem.Value.ref 525)), (PySem.DictEntry.mk (PySem.PyData.keyHash P (Str.ofString "PrependStructSlot")) (PySem.Value.str (Str.ofString "PrependStructSlot") 1073) (PySem.Value.ref 532)), (PySem.DictEntry.mk (PySem.PyData.keyHash P (Str.ofString "PrependBool")) (PySem.Value.str (Str.ofString "PrependBool") 1081) (PySem.Value.ref 539)), (PySem.DictEntry.mk (PySem.PyData.keyHash P (Str.ofString "PrependByte")) (PySem.Value.str (Str.ofString "PrependByte") 1089) (PySem.Value.ref 546)), (PySem.DictEntry.mk (PySem.PyData.keyHash P (Str.ofString "PrependUint8")) (PySem.Value.str (Str.ofString "PrependUint8") 1097) (PySem.Value.ref 553)), (PySem.DictEntry.mk (PySem.PyData.keyHash P (Str.ofString "PrependUint16")) (PySem.Value.str (Str.ofString "PrependUint16") 1105) (PySem.Value.ref 560)), (PySem.DictEntry.mk (PySem.PyData.keyHash P (Str.ofString "PrependUint32")) (PySem.Value.str (Str.ofString "PrependUint32") 1113) (PySem.Value.ref 567)), (PySem.DictEntry.mk (PySem.PyData.keyHash P (Str.ofString "PrependUint64")) (PySem.Value.str (Str.ofString "PrependUint64") 1121) (PySem.Value.ref 574)), (PySem.DictEntry.mk (PySem.PyData.keyHash P (Str.ofString "PrependInt8")) (PySem.Value.str (Str.ofString "PrependInt8") 1129) (PySem.Value.ref 581)), (PySem.DictEntry.mk (PySem.PyData.keyHash P (Str.ofString "PrependInt16")) (PySem.Value.str (Str.ofString "PrependInt16") 1137) (PySem.Value.ref 588)), (PySem.DictEntry.mk (PySem.PyData.keyHash P (Str.ofString "PrependInt32")) (PySem.Value.str (Str.ofString "PrependInt32") 1145) (PySem.Value.ref 595)), (PySem.DictEntry.mk (PySem.PyData.keyHash P (Str.ofString "PrependInt64")) (PySem.Value.str (Str.ofString "PrependInt64") 1153) (PySem.Value.ref 602)), (PySem.DictEntry.mk (PySem.PyData.keyHash P (Str.ofString "ForceDefaults")) (PySem.Value.str (Str.ofString "ForceDefaults") 1161) (PySem.Value.ref 609)), (PySem.DictEntry.mk (PySem.PyData.keyHash P (Str.ofString "PrependVOffsetT")) (PySem.Value.str (Str.ofString "PrependVOffsetT") 1169) (PySem.Value.ref 616)), (PySem.DictEntry.mk (PySem.PyData.keyHash P (Str.ofString "Place")) (PySem.Value.str (Str.ofString "Place") 1179) (PySem.Value.ref 623)), (PySem.DictEntry.mk (PySem.PyData.keyHash P (Str.ofString "PlaceVOffsetT")) (PySem.Value.str (Str.ofString "PlaceVOffsetT") 1187) (PySem.Value.ref 630)), (PySem.DictEntry.mk (PySem.PyData.keyHash P (Str.ofString "PlaceSOffsetT")) (PySem.Value.str (Str.ofString "PlaceSOffsetT") 1196) (PySem.Value.ref 637)), (PySem.DictEntry.mk (PySem.PyData.keyHash P (Str.ofString "PlaceUOffsetT")) (PySem.Value.str (Str.ofString "PlaceUOffsetT") 1205) (PySem.Value.ref 644)), (PySem.DictEntry.mk (PySem.PyData.keyHash P (Str.ofString "__static_attributes__")) (PySem.Value.str (Str.ofString "__static_attributes__") 1216) (PySem.Value.ref 645)), (PySem.DictEntry.mk (PySem.PyData.keyHash P (Str.ofString "Bytes")) (PySem.Value.str (Str.ofString "Bytes") 1218) (PySem.Value.ref 649)), (PySem.DictEntry.mk (PySem.PyData.keyHash P (Str.ofString "current_vtable")) (PySem.Value.str (Str.ofString "current_vtable") 1220) (PySem.Value.ref 650)), (PySem.DictEntry.mk (PySem.PyData.keyHash P (Str.ofString "finished")) (PySem.Value.str (Str.ofString "finished") 1222) (PySem.Value.ref 651)), (PySem.DictEntry.mk (PySem.PyData.keyHash P (Str.ofString "forceDefaults")) (PySem.Value.str (Str.ofString "forceDefaults") 1224) (PySem.Value.ref 652)), (PySem.DictEntry.mk (PySem.PyData.keyHash P (Str.ofString "head")) (PySem.Value.str (Str.ofString "head") 1226) (PySem.Value.ref 653)), (PySem.DictEntry.mk (PySem.PyData.keyHash P (Str.ofString "minalign")) (PySem.Value.str (Str.ofString "minalign") 1228) (PySem.Value.ref 654)), (PySem.DictEntry.mk (PySem.PyData.keyHash P (Str.ofString "nested")) (PySem.Value.str (Str.ofString "nested") 1230) (PySem.Value.ref 655)), (PySem.DictEntry.mk (PySem.PyData.keyHash P (Str.ofString "objectEnd")) (PySem.Value.str (Str.ofString "objectEnd") 1232) (PySem.Value.ref 656)), (PySem.DictEntry.mk (PySem.PyData.keyHash P (Str.ofString "sharedStrings")) (PySem.Value.str (Str.ofString "sharedStrings") 1234) (PySem.Value.ref 657)), (PySem.DictEntry.mk (PySem.PyData.keyHash P (Str.ofString "vectorNumElems")) (PySem.Value.str (Str.ofString "vectorNumElems") 1236) (PySem.Value.ref 658)), (PySem.DictEntry.mk (PySem.PyData.keyHash P (Str.ofString "vtables")) (PySem.Value.str (Str.ofString "vtables") 1238) (PySem.Value.ref 659)), (PySem.DictEntry.mk (PySem.PyData.keyHash P (Str.ofString "__doc__")) (PySem.Value.str (Str.ofString "__doc__") 1239) (PySem.Value.none))]) 13) (List.toArray []))),
  (648, (PySem.Obj.mk (PySem.Value.type "type") none (PySem.Data.cls (PySem.ClassData.mk (Str.ofString "Builder") [(PySem.Value.type "object")] [(PySem.Value.ref 648), (PySem.Value.type "object")] 647 (Str.ofString "Builder") (Bool.false) [(Str.ofString "Bytes"), (Str.ofString "current_vtable"), (Str.ofString "finished"), (Str.ofString "forceDefaults"), (Str.ofString "head"), (Str.ofString "minalign"), (Str.ofString "nested"), (Str.ofString "objectEnd"), (Str.ofString "sharedStrings"), (Str.ofString "vectorNumElems"), (Str.ofString "vtables")] [] (Bool.false) none (Bool.false))) (List.toArray [(some (PySem.Value.ref 247)), none, (some (PySem.Value.str (Str.ofString "Builder") 698)), (some (PySem.Value.str (Str.ofString "Builder") 706)), (some (PySem.Value.builtin "object.__new__")), (some (PySem.Value.bool (Bool.false)))]))),
  (649, (PySem.Obj.mk (PySem.Value.type "member_descriptor") none (PySem.Data.fields (List.toArray [(PySem.Value.str (Str.ofString "Bytes") 1217), (PySem.Value.ref 648), (PySem.Value.builtin "proto.slot"), (PySem.Value.builtin "proto.slot#set"), (PySem.Value.int 10 0)])) (List.toArray []))),
  (650, (PySem.Obj.mk (PySem.Value.type "member_descriptor") none (PySem.Data.fields (List.toArray [(PySem.Value.str (Str.ofString "current_vtable") 1219), (PySem.Value.ref 648), (PySem.Value.builtin "proto.slot"), (PySem.Value.builtin "proto.slot#set"), (PySem.Value.int 9 0)])) (List.toArray []))),
  (651, (PySem.Obj.mk (PySem.Value.type "member_descriptor") none (PySem.Data.fields (List.toArray [(PySem.Value.str (Str.ofString "finished") 1221), (PySem.Value.ref 648), (PySem.Value.builtin "proto.slot"), (PySem.Value.builtin "proto.slot#set"), (PySem.Value.int 8 0)])) (List.toArray []))),
  (652, (PySem.Obj.mk (PySem.Value.type "member_descriptor") none (PySem.Data.fields (List.toArray [(PySem.Value.str (Str.ofString "forceDefaults") 1223), (PySem.Value.ref 648), (PySem.Value.builtin "proto.slot"), (PySem.Value.builtin "proto.slot#set"), (PySem.Value.int 7 0)])) (List.toArray []))),
  (653, (PySem.Obj.mk (PySem.Value.type "member_descriptor") none (PySem.Data.fields (List.toArray [(PySem.Value.str (Str.ofString "head") 1225), (PySem.Value.ref 648), (PySem.Value.builtin "proto.slot"), (PySem.Value.builtin "proto.slot#set"), (PySem.Value.int 6 0)])) (List.toArray []))),
  (654, (PySem.Obj.mk (PySem.Value.type "member_descriptor") none (PySem.Data.fields (List.toArray [(PySem.Value.str (Str.ofString "minalign") 1227), (PySem.Value.ref 648), (PySem.Value.builtin "proto.slot"), (PySem.Value.builtin "proto.slot#set"), (PySem.Value.int 5 0)])) (List.toArray []))),
  (655, (PySem.Obj.mk (PySem.Value.type "member_descriptor") none (PySem.Data.fields (List.toArray [(PySem.Value.str (Str.ofString "nested") 1229), (PySem.Value.ref 648), (PySem.Value.builtin "proto.slot"), (PySem.Value.builtin "proto.slot#set"), (PySem.Value.int 4 0)])) (List.toArray [])))]
noncomputable def K03c16 (P : Params) : Frag := [
  (656, (PySem.Obj.mk (PySem.Value.type "member_descriptor") none (PySem.Data.fields (List.toArray [(PySem.Value.str (Str.ofString "objectEnd") 1231), (PySem.Value.ref 648), (PySem.Value.builtin "proto.slot"), (PySem.Value.builtin "proto.slot#set"), (PySem.Value.int 3 0)])) (List.toArray []))),
  (657, (PySem.Obj.mk (PySem.Value.type "member_descriptor") none (PySem.Data.fields (List.toArray [(PySem.Value.str (Str.ofString "sharedStrings") 1233), (PySem.Value.ref 648), (PySem.Value.builtin "proto.slot"), (PySem.Value.builtin "proto.slot#set"), (PySem.Value.int 2 0)])) (List.toArray []))),
  (658, (PySem.Obj.mk (PySem.Value.type "member_descriptor") none (PySem.Data.fields (List.toArray [(PySem.Value.str (Str.ofString "vectorNumElems") 1235), (PySem.Value.ref 648), (PySem.Value.builtin "proto.slot"), (PySem.Value.builtin "proto.slot#set"), (PySem.Value.int 1 0)])) (List.toArray []))),
  (659, (PySem.Obj.mk (PySem.Value.type "member_descriptor") none (PySem.Data.fields (List.toArray [(PySem.Value.str (Str.ofString "vtables") 1237), (PySem.Value.ref 648), (PySem.Value.builtin "proto.slot"), (PySem.Value.builtin "proto.slot#set"), (PySem.Value.int 0 0)])) (List.toArray []))),
  (662, (PySem.Obj.mk (PySem.Value.type "tuple") none (PySem.Data.seq (List.toArray [(PySem.Value.type "object")]) 0) (List.toArray []))),
  (669, (PySem.Obj.mk (PySem.Value.type "tuple") none (PySem.Data.seq (List.toArray [(PySem.Value.str (Str.ofString "Bytes") 1256), (PySem.Value.str (Str.ofString "Pos") 1257)]) 0) (List.toArray []))),
  (670, (PySem.Obj.mk (PySem.Value.type "tuple") none (PySem.Data.seq (List.toArray []) 0) (List.toArray []))),
  (672, (PySem.Obj.mk (PySem.Value.type "tuple") none (PySem.Data.seq (List.toArray [(PySem.Value.str (Str.ofString "self") 1262), (PySem.Value.str (Str.ofString "buf") 1263), (PySem.Value.str (Str.ofString "pos") 1264)]) 0) (List.toArray []))),
  (673, (PySem.Obj.mk (PySem.Value.type "tuple") none (PySem.Data.seq (List.toArray []) 0) (List.toArray []))),
  (675, (PySem.Obj.mk (PySem.Value.type "code") none (PySem.Data.fields (List.toArray [(PySem.Value.str (Str.ofString "__init__") 1259), (PySem.Value.str (Str.ofString "Table.__init__") 1260), (PySem.Value.str (Str.ofString "/claim/cut.py") 1261), (PySem.Value.int 387 0), (PySem.Value.int 3 0), (PySem.Value.int 0 0), (PySem.Value.int 0 0), (PySem.Value.int 3 0), (PySem.Value.ref 670), (PySem.Value.bool (Bool.true)), (PySem.Value.int 317 0), (PySem.Value.ref 671), (PySem.Value.none), (PySem.Value.ref 672), (PySem.Value.ref 673), (PySem.Value.ref 674), (PySem.Value.int 1265 0), (PySem.Value.int 387 0), (PySem.Value.str (Str.ofString "/claim/cut.py") 1266)])) (List.toArray []))),
  (676, (PySem.Obj.mk (PySem.Value.type "function") none (PySem.Data.func (PySem.FuncData.mk (Str.ofString "__init__") (Str.ofString "Table.__init__") (fdArgs (stB 34 1)) (fdBody (stB 34 1)) (fdScope (stB 34 1)) 3 [] (PySem.Value.none) (PySem.Value.none) (PySem.Value.none) (PySem.Value.str (Str.ofString "flatbuffers.table") 1242) none (PySem.Value.ref 675) (PySem.Value.none) 0)) (List.toArray []))),
  (677, (PySem.Obj.mk (PySem.Value.type "tuple") none (PySem.Data.seq (List.toArray []) 0) (List.toArray []))),
  (679, (PySem.Obj.mk (PySem.Value.type "tuple") none (PySem.Data.seq (List.toArray [(PySem.Value.str (Str.ofString "self") 1271), (PySem.Value.str (Str.ofString "vtableOffset") 1272), (PySem.Value.str (Str.ofString "vtable") 1273), (PySem.Value.str (Str.ofString "vtableEnd") 1274)]) 0) (List.toArray []))),
  (680, (PySem.Obj.mk (PySem.Value.type "tuple") none (PySem.Data.seq (List.toArray []) 0) (List.toArray []))),
  (682, (PySem.Obj.mk (PySem.Value.type "code") none (PySem.Data.fields (List.toArray [(PySem.Value.str (Str.ofString "Offset") 1268), (PySem.Value.str (Str.ofString "Table.Offset") 1269), (PySem.Value.str (Str.ofString "/claim/cut.py") 1270), (PySem.Value.int 392 0), (PySem.Value.int 2 0), (PySem.Value.int 0 0), (PySem.Value.int 0 0), (PySem.Value.int 3 0), (PySem.Value.ref 677), (PySem.Value.bool (Bool.true)), (PySem.Value.int 317 0), (PySem.Value.ref 678), (PySem.Value.none), (PySem.Value.ref 679), (PySem.Value.ref 680), (PySem.Value.ref 681), (PySem.Value.int 1275 0), (PySem.Value.int 392 0), (PySem.Value.str (Str.ofString "/claim/cut.py") 1276)])) (List.toArray [])))]
noncomputable def K03c17 (P : Params) : Frag := [
  (683, (PySem.Obj.mk (PySem.Value.type "function") none (PySem.Data.func (PySem.FuncData.mk (Str.ofString "Offset") (Str.ofString "Table.Offset") (fdArgs (stB 34 2)) (fdBody (stB 34 2)) (fdScope (stB 34 2)) 3 [] (PySem.Value.none) (PySem.Value.none) (PySem.Value.none) (PySem.Value.str (Str.ofString "flatbuffers.table") 1242) none (PySem.Value.ref 682) (PySem.Value.none) 0)) (List.toArray []))),
  (719, (PySem.Obj.mk (PySem.Value.type "tuple") none (PySem.Data.seq (List.toArray []) 0) (List.toArray []))),
  (721, (PySem.Obj.mk (PySem.Value.type "tuple") none (PySem.Data.seq (List.toArray [(PySem.Value.str (Str.ofString "self") 1322), (PySem.Value.str (Str.ofString "flags") 1323), (PySem.Value.str (Str.ofString "off") 1324)]) 0) (List.toArray []))),
  (722, (PySem.Obj.mk (PySem.Value.type "tuple") none (PySem.Data.seq (List.toArray []) 0) (List.toArray []))),
  (724, (PySem.Obj.mk (PySem.Value.type "code") none (PySem.Data.fields (List.toArray [(PySem.Value.str (Str.ofString "Get") 1319), (PySem.Value.str (Str.ofString "Table.Get") 1320), (PySem.Value.str (Str.ofString "/claim/cut.py") 1321), (PySem.Value.int 414 0), (PySem.Value.int 3 0), (PySem.Value.int 0 0), (PySem.Value.int 0 0), (PySem.Value.int 3 0), (PySem.Value.ref 719), (PySem.Value.bool (Bool.true)), (PySem.Value.int 317 0), (PySem.Value.ref 720), (PySem.Value.none), (PySem.Value.ref 721), (PySem.Value.ref 722), (PySem.Value.ref 723), (PySem.Value.int 1325 0), (PySem.Value.int 414 0), (PySem.Value.str (Str.ofString "/claim/cut.py") 1326)])) (List.toArray []))),
  (725, (PySem.Obj.mk (PySem.Value.type "function") none (PySem.Data.func (PySem.FuncData.mk (Str.ofString "Get") (Str.ofString "Table.Get") (fdArgs (stB 34 8)) (fdBody (stB 34 8)) (fdScope (stB 34 8)) 3 [] (PySem.Value.none) (PySem.Value.none) (PySem.Value.none) (PySem.Value.str (Str.ofString "flatbuffers.table") 1242) none (PySem.Value.ref 724) (PySem.Value.none) 0)) (List.toArray []))),
  (726, (PySem.Obj.mk (PySem.Value.type "tuple") none (PySem.Data.seq (List.toArray []) 0) (List.toArray []))),
  (728, (PySem.Obj.mk (PySem.Value.type "tuple") none (PySem.Data.seq (List.toArray [(PySem.Value.str (Str.ofString "self") 1331), (PySem.Value.str (Str.ofString "slot") 1332), (PySem.Value.str (Str.ofString "d") 1333), (PySem.Value.str (Str.ofString "validator_flags") 1334), (PySem.Value.str (Str.ofString "off") 1335)]) 0) (List.toArray []))),
  (729, (PySem.Obj.mk (PySem.Value.type "tuple") none (PySem.Data.seq (List.toArray []) 0) (List.toArray []))),
  (731, (PySem.Obj.mk (PySem.Value.type "code") none (PySem.Data.fields (List.toArray [(PySem.Value.str (Str.ofString "GetSlot") 1328), (PySem.Value.str (Str.ofString "Table.GetSlot") 1329), (PySem.Value.str (Str.ofString "/claim/cut.py") 1330), (PySem.Value.int 418 0), (PySem.Value.int 4 0), (PySem.Value.int 0 0), (PySem.Value.int 0 0), (PySem.Value.int 3 0), (PySem.Value.ref 726), (PySem.Value.bool (Bool.true)), (PySem.Value.int 317 0), (PySem.Value.ref 727), (PySem.Value.none), (PySem.Value.ref 728), (PySem.Value.ref 729), (PySem.Value.ref 730), (PySem.Value.int 1336 0), (PySem.Value.int 418 0), (PySem.Value.str (Str.ofString "/claim/cut.py") 1337)])) (List.toArray []))),
  (732, (PySem.Obj.mk (PySem.Value.type "function") none (PySem.Data.func (PySem.FuncData.mk (Str.ofString "GetSlot") (Str.ofString "Table.GetSlot") (fdArgs (stB 34 9)) (fdBody (stB 34 9)) (fdScope (stB 34 9)) 3 [] (PySem.Value.none) (PySem.Value.none) (PySem.Value.none) (PySem.Value.str (Str.ofString "flatbuffers.table") 1242) none (PySem.Value.ref 731) (PySem.Value.none) 0)) (List.toArray []))),
  (740, (PySem.Obj.mk (PySem.Value.type "tuple") none (PySem.Data.seq (List.toArray [(PySem.Value.str (Str.ofString "Bytes") 1348), (PySem.Value.str (Str.ofString "Pos") 1349)]) 0) (List.toArray []))),
  (742, (PySem.Obj.mk (PySem.Value.type "dict") none (PySem.Data.dict (List.toArray [(PySem.DictEntry.mk (PySem.PyData.keyHash P (Str.ofString "__module__")) (PySem.Value.str (Str.ofString "__module__") 1251) (PySem.Value.str (Str.ofString "flatbuffers.table") 1242)), (PySem.DictEntry.mk (PySem.PyData.keyHash P (Str.ofString "__firstlineno__")) (PySem.Value.str (Str.ofString "__firstlineno__") 1255) (PySem.Value.int 384 1254)), (PySem.DictEntry.mk (PySem.PyData.keyHash P (Str.ofString "__slots__")) (PySem.Value.str (Str.ofString "__slots__") 1258) (PySem.Value.ref 669)), (PySem.DictEntry.mk (PySem.PyData.keyHash P (Str.ofString "__init__")) (PySem.Value.str (Str.ofString "__init__") 1267) (PySem.Value.ref 676)), (PySem.DictEntry.mk (PySem.PyData.keyHash P (Str.ofString "Offset")) (PySem.Value.str (Str.ofString "Offset") 1277) (PySem.Value.ref 683)), (PySem.DictEntry.mk (PySem.PyData.keyHash P (Str.ofString "Indirect")) (PySem.Value.str (Str.ofString "Indirect") 1285) (PySem.Value.ref 690)), (PySem.DictEntry.mk (PySem.PyData.keyHash P (Str.ofString "String")) (PySem.Value.str (Str.ofString "String") 1293) (PySem.Value.ref 697)), (PySem.DictEntry.mk (PySem.PyData.keyHash P (Str.ofString "VectorLen")) (PySem.Value.str (Str.ofString "VectorLen") 1301) (PySem.Value.ref 704)), (PySem.DictEntry.mk (PySem.PyData.keyHash P (Str.ofString "Vector")) (PySem.Value.str (Str.ofString "Vector") 1309) (PySem.Value.ref 711)), (PySem.DictEntry.mk (PySem.PyData.keyHash P (Str.ofString "Union")) (PySem.Value.str (Str.ofString "Union") 1318) (PySem.Value.ref 718)), (PySem.DictEntry.mk (PySem.PyData.keyHash P (Str.ofString "Get")) (PySem.Value.str (Str.ofString "Get") 1327) (PySem.Value.ref 725)), (PySem.DictEntry.mk (PySem.PyData.keyHash P (Str.ofString "GetSlot")) (PySem.Value.str (Str.ofString "GetSlot") 1338) (PySem.Value.ref 732)), (PySem.DictEntry.mk (PySem.PyData.keyHash P (Str.ofString "GetVOffsetTSlot")) (PySem.Value.str (Str.ofString "GetVOffsetTSlot") 1347) (PySem.Value.ref 739)), (PySem.DictEntry.mk (PySem.PyData.keyHash P (Str.ofString "__static_attributes__")) (PySem.Value.str (Str.ofString "__static_attributes__") 1350) (PySem.Value.ref 740)), (PySem.DictEntry.mk (PySem.PyData.keyHash P (Str.ofString "Bytes")) (PySem.Value.str (Str.ofString "Bytes") 1352) (PySem.Value.ref 744)), (PySem.DictEntry.mk (PySem.PyData.keyHash P (Str.ofString "Pos")) (PySem.Value.str (Str.ofString "Pos") 1354) (PySem.Value.ref 745)), (PySem.DictEntry.mk (PySem.PyData.keyHash P (Str.ofString "__doc__")) (PySem.Value.str (Str.ofString "__doc__") 1355) (PySem.Value.none))]) 4) (List.toArray []))),
  (743, (PySem.Obj.mk (PySem.Value.type "type") none (PySem.Data.cls (PySem.ClassData.mk (Str.ofString "Table") [(PySem.Value.type "object")] [(PySem.Value.ref 743), (PySem.Value.type "object")] 742 (Str.ofString "Table") (Bool.false) [(Str.ofString "Bytes"), (Str.ofString "Pos")] [] (Bool.false) none (Bool.false))) (List.toArray [(some (PySem.Value.ref 662)), none, (some (PySem.Value.str (Str.ofString "Table") 1244)), (some (PySem.Value.str (Str.ofString "Table") 1252)), (some (PySem.Value.builtin "object.__new__")), (some (PySem.Value.bool (Bool.false)))]))),
  (744, (PySem.Obj.mk (PySem.Value.type "member_descriptor") none (PySem.Data.fields (List.toArray [(PySem.Value.str (Str.ofString "Bytes") 1351), (PySem.Value.ref 743), (PySem.Value.builtin "proto.slot"), (PySem.Value.builtin "proto.slot#set"), (PySem.Value.int 1 0)])) (List.toArray [])))]
noncomputable def K03c18 (P : Params) : Frag := [
  (745, (PySem.Obj.mk (PySem.Value.type "member_descriptor") none (PySem.Data.fields (List.toArray [(PySem.Value.str (Str.ofString "Pos") 1353), (PySem.Value.ref 743), (PySem.Value.builtin "proto.slot"), (PySem.Value.builtin "proto.slot#set"), (PySem.Value.int 0 0)])) (List.toArray []))),
  (748, (PySem.Obj.mk (PySem.Value.type "tuple") none (PySem.Data.seq (List.toArray []) 0) (List.toArray []))),
  (750, (PySem.Obj.mk (PySem.Value.type "tuple") none (PySem.Data.seq (List.toArray [(PySem.Value.str (Str.ofString "width") 1363)]) 0) (List.toArray []))),
  (751, (PySem.Obj.mk (PySem.Value.type "tuple") none (PySem.Data.seq (List.toArray []) 0) (List.toArray []))),
  (753, (PySem.Obj.mk (PySem.Value.type "code") none (PySem.Data.fields (List.toArray [(PySem.Value.str (Str.ofString "_law_flags") 1360), (PySem.Value.str (Str.ofString "_law_flags") 1361), (PySem.Value.str (Str.ofString "/claim/cut.py") 1362), (PySem.Value.int 430 0), (PySem.Value.int 1 0), (PySem.Value.int 0 0), (PySem.Value.int 0 0), (PySem.Value.int 3 0), (PySem.Value.ref 748), (PySem.Value.bool (Bool.true)), (PySem.Value.int 317 0), (PySem.Value.ref 749), (PySem.Value.none), (PySem.Value.ref 750), (PySem.Value.ref 751), (PySem.Value.ref 752), (PySem.Value.int 1364 0), (PySem.Value.int 430 0), (PySem.Value.str (Str.ofString "/claim/cut.py") 1365)])) (List.toArray []))),
  (754, (PySem.Obj.mk (PySem.Value.type "function") none (PySem.Data.func (PySem.FuncData.mk (Str.ofString "_law_flags") (Str.ofString "_law_flags") (fdArgs (stA 36)) (fdBody (stA 36)) (fdScope (stA 36)) 3 [] (PySem.Value.none) (PySem.Value.none) (PySem.Value.none) (PySem.Value.str (Str.ofString "law_bb0042_03") 1358) none (PySem.Value.ref 753) (PySem.Value.none) 0)) (List.toArray []))),
  (755, (PySem.Obj.mk (PySem.Value.type "tuple") none (PySem.Data.seq (List.toArray []) 0) (List.toArray []))),
  (757, (PySem.Obj.mk (PySem.Value.type "tuple") none (PySem.Data.seq (List.toArray [(PySem.Value.str (Str.ofString "widths") 1370), (PySem.Value.str (Str.ofString "values") 1371), (PySem.Value.str (Str.ofString "order") 1372), (PySem.Value.str (Str.ofString "size") 1373), (PySem.Value.str (Str.ofString "sized") 1374), (PySem.Value.str (Str.ofString "builder") 1375), (PySem.Value.str (Str.ofString "n") 1376), (PySem.Value.str (Str.ofString "root") 1377)]) 0) (List.toArray []))),
  (758, (PySem.Obj.mk (PySem.Value.type "tuple") none (PySem.Data.seq (List.toArray []) 0) (List.toArray []))),
  (760, (PySem.Obj.mk (PySem.Value.type "code") none (PySem.Data.fields (List.toArray [(PySem.Value.str (Str.ofString "_law_laid") 1367), (PySem.Value.str (Str.ofString "_law_laid") 1368), (PySem.Value.str (Str.ofString "/claim/cut.py") 1369), (PySem.Value.int 432 0), (PySem.Value.int 5 0), (PySem.Value.int 0 0), (PySem.Value.int 0 0), (PySem.Value.int 3 0), (PySem.Value.ref 755), (PySem.Value.bool (Bool.true)), (PySem.Value.int 317 0), (PySem.Value.ref 756), (PySem.Value.none), (PySem.Value.ref 757), (PySem.Value.ref 758), (PySem.Value.ref 759), (PySem.Value.int 1378 0), (PySem.Value.int 432 0), (PySem.Value.str (Str.ofString "/claim/cut.py") 1379)])) (List.toArray []))),
  (761, (PySem.Obj.mk (PySem.Value.type "function") none (PySem.Data.func (PySem.FuncData.mk (Str.ofString "_law_laid") (Str.ofString "_law_laid") (fdArgs (stA 37)) (fdBody (stA 37)) (fdScope (stA 37)) 3 [] (PySem.Value.none) (PySem.Value.none) (PySem.Value.none) (PySem.Value.str (Str.ofString "law_bb0042_03") 1358) none (PySem.Value.ref 760) (PySem.Value.none) 0)) (List.toArray []))),
  (762, (PySem.Obj.mk (PySem.Value.type "tuple") none (PySem.Data.seq (List.toArray []) 0) (List.toArray []))),
  (764, (PySem.Obj.mk (PySem.Value.type "tuple") none (PySem.Data.seq (List.toArray [(PySem.Value.str (Str.ofString "octets") 1384), (PySem.Value.str (Str.ofString "widths") 1385), (PySem.Value.str (Str.ofString "values") 1386), (PySem.Value.str (Str.ofString "sized") 1387), (PySem.Value.str (Str.ofString "at") 1388), (PySem.Value.str (Str.ofString "table") 1389), (PySem.Value.str (Str.ofString "row") 1390), (PySem.Value.str (Str.ofString "size") 1391), (PySem.Value.str (Str.ofString "n") 1392), (PySem.Value.str (Str.ofString "place") 1393), (PySem.Value.str (Str.ofString "flags") 1394)]) 0) (List.toArray []))),
  (765, (PySem.Obj.mk (PySem.Value.type "tuple") none (PySem.Data.seq (List.toArray []) 0) (List.toArray []))),
  (767, (PySem.Obj.mk (PySem.Value.type "code") none (PySem.Data.fields (List.toArray [(PySem.Value.str (Str.ofString "_law_good") 1381), (PySem.Value.str (Str.ofString "_law_good") 1382), (PySem.Value.str (Str.ofString "/claim/cut.py") 1383), (PySem.Value.int 450 0), (PySem.Value.int 4 0), (PySem.Value.int 0 0), (PySem.Value.int 0 0), (PySem.Value.int 3 0), (PySem.Value.ref 762), (PySem.Value.bool (Bool.true)), (PySem.Value.int 317 0), (PySem.Value.ref 763), (PySem.Value.none), (PySem.Value.ref 764), (PySem.Value.ref 765), (PySem.Value.ref 766), (PySem.Value.int 1395 0), (PySem.Value.int 450 0), (PySem.Value.str (Str.ofString "/claim/cut.py") 1396)])) (List.toArray [])))]
noncomputable def K03c19 (P : Params) : Frag := [
  (768, (PySem.Obj.mk (PySem.Value.type "function") none (PySem.Data.func (PySem.FuncData.mk (Str.ofString "_law_good") (Str.ofString "_law_good") (fdArgs (stA 38)) (fdBody (stA 38)) (fdScope (stA 38)) 3 [] (PySem.Value.none) (PySem.Value.none) (PySem.Value.none) (PySem.Value.str (Str.ofString "law_bb0042_03") 1358) none (PySem.Value.ref 767) (PySem.Value.none) 0)) (List.toArray []))),
  (769, (PySem.Obj.mk (PySem.Value.type "tuple") none (PySem.Data.seq (List.toArray []) 0) (List.toArray []))),
  (772, (PySem.Obj.mk (PySem.Value.type "code") none (PySem.Data.fields (List.toArray [(PySem.Value.str (Str.ofString "law") 1398), (PySem.Value.str (Str.ofString "law") 1399), (PySem.Value.str (Str.ofString "/claim/cut.py") 1400), (PySem.Value.int 465 0), (PySem.Value.int 1 0), (PySem.Value.int 0 0), (PySem.Value.int 0 0), (PySem.Value.int 3 0), (PySem.Value.ref 769), (PySem.Value.bool (Bool.true)), (PySem.Value.int 317 0), (PySem.Value.ref 770), (PySem.Value.none), (PySem.Value.none), (PySem.Value.none), (PySem.Value.ref 771), (PySem.Value.int 1401 0), (PySem.Value.int 465 0), (PySem.Value.str (Str.ofString "/claim/cut.py") 1402)])) (List.toArray []))),
  (773, (PySem.Obj.mk (PySem.Value.type "function") none (PySem.Data.func (PySem.FuncData.mk (Str.ofString "law") (Str.ofString "law") (fdArgs (stA 39)) (fdBody (stA 39)) (fdScope (stA 39)) 3 [] (PySem.Value.none) (PySem.Value.none) (PySem.Value.none) (PySem.Value.str (Str.ofString "law_bb0042_03") 1358) none (PySem.Value.ref 772) (PySem.Value.none) 0)) (List.toArray [])))]
noncomputable def K03 (P : Params) : Frag := K03c0 P ++ (K03c1 P ++ (K03c2 P ++ (K03c3 P ++ (K03c4 P ++ (K03c5 P ++ (K03c6 P ++ (K03c7 P ++ (K03c8 P ++ (K03c9 P ++ (K03c10 P ++ (K03c11 P ++ (K03c12 P ++ (K03c13 P ++ (K03c14 P ++ (K03c15 P ++ (K03c16 P ++ (K03c17 P ++ (K03c18 P ++ (K03c19 P)))))))))))))))))))
end Mine
namespace Mine
open PySem PySem.W PySem.Calls PyProof.Rows

noncomputable def gl (x : Str) (v : V) : Str × V := (x, v)
noncomputable def sl (a : Addr) (x : Str) (i : Nat) : (Addr × Str) × Nat := ((a, x), i)
noncomputable def ca (a : Addr) (x : Str) (v : V) : (Addr × Str) × V := ((a, x), v)
noncomputable def me (a : Addr) (x : Str) (i : Addr) : (Addr × Str) × Addr := ((a, x), i)

noncomputable def tL : Tab where
  globs := [gl "Struct" (.typ "_struct.Struct"), gl "unpack" (.bltn "_struct.unpack"), gl "uint8" (.ref 50), gl "uint16" (.ref 51), gl "uint32" (.ref 52), gl "uint64" (.ref 53), gl "int32" (.ref 54), gl "uoffset" (.ref 52), gl "soffset" (.ref 54), gl "Uint8Flags" (.ref 64), gl "Uint16Flags" (.ref 78), gl "Uint32Flags" (.ref 92), gl "Uint64Flags" (.ref 106), gl "Int32Flags" (.ref 120), gl "SOffsetTFlags" (.ref 134), gl "UOffsetTFlags" (.ref 146), gl "VOffsetTFlags" (.ref 158), gl "enforce_number" (.ref 167), gl "FILE_IDENTIFIER_LENGTH" (.int 4), gl "Get" (.ref 174), gl "Get_encode" (.ref 174), gl "Write" (.ref 181), gl "OffsetArithmeticError" (.ref 191), gl "IsNotNestedError" (.ref 204), gl "IsNestedError" (.ref 217), gl "BuilderSizeError" (.ref 230), gl "BuilderNotFinishedError" (.ref 243), gl "VtableMetadataFields" (.int 2), gl "Builder" (.ref 648), gl "Table" (.ref 743), gl "_law_flags" (.ref 754), gl "_law_laid" (.ref 761), gl "_law_good" (.ref 768), gl "law" (.ref 773)]
  bltns := []
  slots := [sl 648 "Bytes" 0, sl 648 "current_vtable" 1, sl 648 "finished" 2, sl 648 "forceDefaults" 3, sl 648 "head" 4, sl 648 "minalign" 5, sl 648 "nested" 6, sl 648 "objectEnd" 7, sl 648 "sharedStrings" 8, sl 648 "vectorNumElems" 9, sl 648 "vtables" 10, sl 743 "Bytes" 0, sl 743 "Pos" 1]
  cattrs := [ca 64 "bytewidth" (.int 1), ca 64 "min_val" (.int 0), ca 64 "max_val" (.int 255), ca 64 "py_type" (.typ "int"), ca 64 "packer_type" (.ref 50), ca 78 "bytewidth" (.int 2), ca 78 "min_val" (.int 0), ca 78 "max_val" (.int 65535), ca 78 "py_type" (.typ "int"), ca 78 "packer_type" (.ref 51), ca 92 "bytewidth" (.int 4), ca 92 "min_val" (.int 0), ca 92 "max_val" (.int 4294967295), ca 92 "py_type" (.typ "int"), ca 92 "packer_type" (.ref 52), ca 106 "bytewidth" (.int 8), ca 106 "min_val" (.int 0), ca 106 "max_val" (.int 18446744073709551615), ca 106 "py_type" (.typ "int"), ca 106 "packer_type" (.ref 53), ca 120 "bytewidth" (.int 4), ca 120 "min_val" (.int (-2147483648)), ca 120 "max_val" (.int 2147483647), ca 120 "py_type" (.typ "int"), ca 120 "packer_type" (.ref 54), ca 134 "bytewidth" (.int 4), ca 134 "min_val" (.int (-2147483648)), ca 134 "max_val" (.int 2147483647), ca 134 "py_type" (.typ "int"), ca 134 "packer_type" (.ref 54), ca 146 "bytewidth" (.int 4), ca 146 "min_val" (.int 0), ca 146 "max_val" (.int 4294967295), ca 146 "py_type" (.typ "int"), ca 146 "packer_type" (.ref 52), ca 158 "bytewidth" (.int 2), ca 158 "min_val" (.int 0), ca 158 "max_val" (.int 65535), ca 158 "py_type" (.typ "int"), ca 158 "packer_type" (.ref 51), ca 648 "MAX_BUFFER_SIZE" (.int 2147483648)]
  meths := [me 648 "__init__" 262, me 648 "Output" 276, me 648 "StartObject" 283, me 648 "WriteVtable" 290, me 648 "EndObject" 297, me 648 "GrowByteBuffer" 304, me 648 "Head" 311, me 648 "Offset" 318, me 648 "Pad" 325, me 648 "Prep" 332, me 648 "PrependSOffsetTRelative" 339, me 648 "PrependUOffsetTRelative" 346, me 648 "assertNested" 389, me 648 "assertNotNested" 396, me 648 "Slot" 410, me 648 "_Builder__Finish" 418, me 648 "Finish" 426, me 648 "FinishSizePrefixed" 434, me 648 "Prepend" 441, me 648 "PrependSlot" 448, me 648 "PrependUint8Slot" 469, me 648 "PrependUint16Slot" 476, me 648 "PrependUint32Slot" 483, me 648 "PrependUint64Slot" 490, me 648 "PrependInt32" 595, me 648 "PrependVOffsetT" 616, me 648 "Place" 623, me 648 "PlaceSOffsetT" 637, me 648 "PlaceUOffsetT" 644, me 743 "__init__" 676, me 743 "Offset" 683, me 743 "Get" 725, me 743 "GetSlot" 732]
  structs := [(50, 1, false), (51, 2, false), (52, 4, false), (53, 8, false), (54, 4, true)]
  callees := [167, 174, 181, 262, 276, 283, 290, 297, 304, 311, 318, 325, 332, 339, 346, 389, 396, 410, 418, 426, 434, 441, 448, 469, 476, 483, 490, 595, 616, 623, 637, 644, 676, 683, 725, 732, 754, 761, 768, 773, 648, 743]

noncomputable def L_enforce_number : List Str := ["n", "flags"]
noncomputable def B_enforce_number : List S :=
  [.ite (.band [(.isn false (.attr (.var 1) "min_val")), (.isn false (.attr (.var 1) "max_val"))])
     [.ret0]
     [],
   .ite (.not (.chain (.attr (.var 1) "min_val") .LtE (.var 0) .LtE (.attr (.var 1) "max_val")))
     [.bad]
     []]

noncomputable def L_Get : List Str := ["packer_type", "buf", "head"]
noncomputable def B_Get : List S :=
  [.ret (.idx (.meth (.var 0) "unpack_from" [(.var 1), (.var 2)] [] []) (.int 0))]

noncomputable def L_Write : List Str := ["packer_type", "buf", "head", "n"]
noncomputable def B_Write : List S :=
  [.expr (.meth (.var 0) "pack_into" [(.var 1), (.var 2), (.var 3)] [] [])]

noncomputable def L_Builder_init : List Str := ["self", "initialSize", "msg"]
noncomputable def B_Builder_init : List S :=
  [.ite (.not (.chain (.int 0) .LtE (.var 1) .LtE (.attr (.glob "Builder") "MAX_BUFFER_SIZE")))
     [.asg (.var 2) (.str "flatbuffers: Cannot create Builder larger than 2 gigabytes."),
     .bad]
     [],
   .asg (.attr (.var 0) "Bytes") (.bcall .bytearray [(.var 1)]),
   .asg (.attr (.var 0) "current_vtable") .none,
   .asg (.attr (.var 0) "head") (.meth (.glob "UOffsetTFlags") "py_type" [(.var 1)] [] []),
   .asg (.attr (.var 0) "minalign") (.int 1),
   .asg (.attr (.var 0) "objectEnd") .none,
   .asg (.attr (.var 0) "vtables") .dict0,
   .asg (.attr (.var 0) "nested") (.bool false),
   .asg (.attr (.var 0) "forceDefaults") (.bool false),
   .asg (.attr (.var 0) "sharedStrings") .none,
   .asg (.attr (.var 0) "finished") (.bool false)]

noncomputable def L_Builder_Output : List Str := ["self"]
noncomputable def B_Builder_Output : List S :=
  [.ite (.not (.attr (.var 0) "finished"))
     [.bad]
     [],
   .ret (.sl (.attr (.var 0) "Bytes") (.attr (.var 0) "head") .none)]

noncomputable def L_Builder_StartObject : List Str := ["self", "numfields"]
noncomputable def B_Builder_StartObject : List S :=
  [.expr (.meth (.var 0) "assertNotNested" [] [] []),
   .asg (.attr (.var 0) "current_vtable") (.lmul (.frz (.list [(.int 0)])) (.var 1)),
   .asg (.attr (.var 0) "objectEnd") (.meth (.var 0) "Offset" [] [] []),
   .asg (.attr (.var 0) "nested") (.bool true)]

noncomputable def L_Builder_WriteVtable : List Str := ["self", "objectOffset", "vtKey", "trim", "elem", "objectSize", "vt2Offset", "i", "trailing", "off", "vBytes", "objectStart"]
noncomputable def B_Builder_WriteVtable : List S :=
  [.expr (.meth (.var 0) "PrependSOffsetTRelative" [(.int 0)] [] []),
   .asg (.var 1) (.meth (.var 0) "Offset" [] [] []),
   .asg (.var 2) (.list []),
   .asg (.var 3) (.bool true),
   .for_ (.var 4) .rev [(.attr (.var 0) "current_vtable")]
     [.ite (.cmp .Eq (.var 4) (.int 0))
       [.ite (.var 3)
         [.cont]
         []]
       [.asg (.var 4) (.bin .Sub (.var 1) (.var 4)),
       .asg (.var 3) (.bool false)],
     .expr (.meth (.var 2) "append" [(.var 4)] [] [])],
   .asg (.var 5) (.meth (.glob "UOffsetTFlags") "py_type" [(.bin .Sub (.var 1) (.attr (.var 0) "objectEnd"))] [] []),
   .expr (.meth (.var 2) "append" [(.var 5)] [] []),
   .asg (.var 2) (.bcall .tuple [(.var 2)]),
   .asg (.var 6) (.meth (.attr (.var 0) "vtables") "get" [(.var 2)] [] []),
   .ite (.isn false (.var 6))
     [.asg (.var 7) (.bin .Sub (.bcall .len [(.attr (.var 0) "current_vtable")]) (.int 1)),
     .asg (.var 8) (.int 0),
     .asg (.var 3) (.bool true),
     .whil (.cmp .GtE (.var 7) (.int 0))
       [.asg (.var 9) (.int 0),
       .asg (.var 4) (.idx (.attr (.var 0) "current_vtable") (.var 7)),
       .aug 7 .Sub (.int 1),
       .ite (.cmp .Eq (.var 4) (.int 0))
         [.ite (.var 3)
           [.aug 8 .Add (.int 1),
           .cont]
           []]
         [.asg (.var 9) (.bin .Sub (.var 1) (.var 4)),
         .asg (.var 3) (.bool false)],
       .expr (.meth (.var 0) "PrependVOffsetT" [(.var 9)] [] [])],
     .expr (.meth (.var 0) "PrependVOffsetT" [(.meth (.glob "VOffsetTFlags") "py_type" [(.var 5)] [] [])] [] []),
     .asg (.var 10) (.bin .Add (.bin .Sub (.bcall .len [(.attr (.var 0) "current_vtable")]) (.var 8)) (.glob "VtableMetadataFields")),
     .aug 10 .Mult (.attr (.glob "VOffsetTFlags") "bytewidth"),
     .expr (.meth (.var 0) "PrependVOffsetT" [(.meth (.glob "VOffsetTFlags") "py_type" [(.var 10)] [] [])] [] []),
     .asg (.var 11) (.meth (.glob "SOffsetTFlags") "py_type" [(.bin .Sub (.bcall .len [(.attr (.var 0) "Bytes")]) (.var 1))] [] []),
     .expr (.call (.glob "Write") [(.glob "soffset"), (.attr (.var 0) "Bytes"), (.var 11), (.meth (.glob "SOffsetTFlags") "py_type" [(.bin .Sub (.meth (.var 0) "Offset" [] [] []) (.var 1))] [] [])] [] []),
     .asg (.idx (.attr (.var 0) "vtables") (.var 2)) (.meth (.var 0) "Offset" [] [] [])]
     [.asg (.var 11) (.meth (.glob "SOffsetTFlags") "py_type" [(.bin .Sub (.bcall .len [(.attr (.var 0) "Bytes")]) (.var 1))] [] []),
     .asg (.attr (.var 0) "head") (.meth (.glob "UOffsetTFlags") "py_type" [(.var 11)] [] []),
     .expr (.call (.glob "Write") [(.glob "soffset"), (.attr (.var 0) "Bytes"), (.meth (.var 0) "Head" [] [] []), (.meth (.glob "SOffsetTFlags") "py_type" [(.bin .Sub (.var 6) (.var 1))] [] [])] [] [])],
   .asg (.attr (.var 0) "current_vtable") .none,
   .ret (.var 1)]

noncomputable def L_Builder_EndObject : List Str := ["self"]
noncomputable def B_Builder_EndObject : List S :=
  [.expr (.meth (.var 0) "assertNested" [] [] []),
   .asg (.attr (.var 0) "nested") (.bool false),
   .ret (.meth (.var 0) "WriteVtable" [] [] [])]

noncomputable def L_Builder_GrowByteBuffer : List Str := ["self", "msg", "newSize", "bytes2"]
noncomputable def B_Builder_GrowByteBuffer : List S :=
  [.ite (.cmp .Eq (.bcall .len [(.attr (.var 0) "Bytes")]) (.attr (.glob "Builder") "MAX_BUFFER_SIZE"))
     [.asg (.var 1) (.str "flatbuffers: cannot grow buffer beyond 2 gigabytes"),
     .bad]
     [],
   .asg (.var 2) (.bcall .min [(.bin .Mult (.bcall .len [(.attr (.var 0) "Bytes")]) (.int 2)), (.attr (.glob "Builder") "MAX_BUFFER_SIZE")]),
   .ite (.cmp .Eq (.var 2) (.int 0))
     [.asg (.var 2) (.int 1)]
     [],
   .asg (.var 3) (.bcall .bytearray [(.var 2)]),
   .asg (.sl (.var 3) (.bin .Sub (.var 2) (.bcall .len [(.attr (.var 0) "Bytes")])) .none) (.attr (.var 0) "Bytes"),
   .asg (.attr (.var 0) "Bytes") (.var 3)]

noncomputable def L_Builder_Head : List Str := ["self"]
noncomputable def B_Builder_Head : List S :=
  [.ret (.attr (.var 0) "head")]

noncomputable def L_Builder_Offset : List Str := ["self"]
noncomputable def B_Builder_Offset : List S :=
  [.ret (.bin .Sub (.bcall .len [(.attr (.var 0) "Bytes")]) (.attr (.var 0) "head"))]

noncomputable def L_Builder_Pad : List Str := ["self", "n", "new_head"]
noncomputable def B_Builder_Pad : List S :=
  [.ite (.cmp .LtE (.var 1) (.int 0))
     [.ret0]
     [],
   .asg (.var 2) (.bin .Sub (.attr (.var 0) "head") (.var 1)),
   .asg (.sl (.attr (.var 0) "Bytes") (.var 2) (.attr (.var 0) "head")) (.bmul (.bytes [0]) (.var 1)),
   .asg (.attr (.var 0) "head") (.var 2)]

noncomputable def L_Builder_Prep : List Str := ["self", "size", "additionalBytes", "head", "buf_len", "alignSize", "needed", "oldBufSize"]
noncomputable def B_Builder_Prep : List S :=
  [.ite (.cmp .Gt (.var 1) (.attr (.var 0) "minalign"))
     [.asg (.attr (.var 0) "minalign") (.var 1)]
     [],
   .asg (.var 3) (.attr (.var 0) "head"),
   .asg (.var 4) (.bcall .len [(.attr (.var 0) "Bytes")]),
   .asg (.var 5) (.bin .Add (.inv (.bin .Add (.bin .Sub (.var 4) (.var 3)) (.var 2))) (.int 1)),
   .aug 5 .BitAnd (.bin .Sub (.var 1) (.int 1)),
   .asg (.var 6) (.bin .Add (.bin .Add (.var 5) (.var 1)) (.var 2)),
   .whil (.cmp .Lt (.var 3) (.var 6))
     [.asg (.var 7) (.var 4),
     .expr (.meth (.var 0) "GrowByteBuffer" [] [] []),
     .asg (.var 4) (.bcall .len [(.attr (.var 0) "Bytes")]),
     .aug 3 .Add (.bin .Sub (.var 4) (.var 7))],
   .asg (.attr (.var 0) "head") (.var 3),
   .expr (.meth (.var 0) "Pad" [(.var 5)] [] [])]

noncomputable def L_Builder_PrependSOffsetTRelative : List Str := ["self", "off", "msg", "off2"]
noncomputable def B_Builder_PrependSOffsetTRelative : List S :=
  [.expr (.meth (.var 0) "Prep" [(.attr (.glob "SOffsetTFlags") "bytewidth"), (.int 0)] [] []),
   .ite (.not (.cmp .LtE (.var 1) (.meth (.var 0) "Offset" [] [] [])))
     [.asg (.var 2) (.str "flatbuffers: Offset arithmetic error."),
     .bad]
     [],
   .asg (.var 3) (.bin .Add (.bin .Sub (.meth (.var 0) "Offset" [] [] []) (.var 1)) (.attr (.glob "SOffsetTFlags") "bytewidth")),
   .expr (.meth (.var 0) "PlaceSOffsetT" [(.var 3)] [] [])]

noncomputable def L_Builder_PrependUOffsetTRelative : List Str := ["self", "off", "msg", "off2"]
noncomputable def B_Builder_PrependUOffsetTRelative : List S :=
  [.expr (.meth (.var 0) "Prep" [(.attr (.glob "UOffsetTFlags") "bytewidth"), (.int 0)] [] []),
   .ite (.not (.cmp .LtE (.var 1) (.meth (.var 0) "Offset" [] [] [])))
     [.asg (.var 2) (.str "flatbuffers: Offset arithmetic error."),
     .bad]
     [],
   .asg (.var 3) (.bin .Add (.bin .Sub (.meth (.var 0) "Offset" [] [] []) (.var 1)) (.attr (.glob "UOffsetTFlags") "bytewidth")),
   .expr (.meth (.var 0) "PlaceUOffsetT" [(.var 3)] [] [])]

noncomputable def L_Builder_assertNested : List Str := ["self"]
noncomputable def B_Builder_assertNested : List S :=
  [.ite (.not (.attr (.var 0) "nested"))
     [.bad]
     []]

noncomputable def L_Builder_assertNotNested : List Str := ["self"]
noncomputable def B_Builder_assertNotNested : List S :=
  [.ite (.attr (.var 0) "nested")
     [.bad]
     []]

noncomputable def L_Builder_Slot : List Str := ["self", "slotnum"]
noncomputable def B_Builder_Slot : List S :=
  [.expr (.meth (.var 0) "assertNested" [] [] []),
   .asg (.idx (.attr (.var 0) "current_vtable") (.var 1)) (.meth (.var 0) "Offset" [] [] [])]

noncomputable def L_Builder_zFinish : List Str := ["self", "rootTable", "sizePrefix", "file_identifier", "prepSize", "i", "size"]
noncomputable def B_Builder_zFinish : List S :=
  [.expr (.call (.glob "enforce_number") [(.var 1), (.glob "UOffsetTFlags")] [] []),
   .asg (.var 4) (.attr (.glob "UOffsetTFlags") "bytewidth"),
   .ite (.isn true (.var 3))
     [.aug 4 .Add (.attr (.glob "Int32Flags") "bytewidth")]
     [],
   .ite (.var 2)
     [.aug 4 .Add (.attr (.glob "Int32Flags") "bytewidth")]
     [],
   .expr (.meth (.var 0) "Prep" [(.attr (.var 0) "minalign"), (.var 4)] [] []),
   .ite (.isn true (.var 3))
     [.expr (.meth (.var 0) "Prep" [(.attr (.glob "UOffsetTFlags") "bytewidth"), (.glob "FILE_IDENTIFIER_LENGTH")] [] []),
     .asg (.var 3) (.call (.glob "unpack") [(.str ">BBBB"), (.var 3)] [] []),
     .for_ (.var 5) .rng [(.bin .Sub (.glob "FILE_IDENTIFIER_LENGTH") (.int 1)), (.neg (.int 1)), (.neg (.int 1))]
       [.expr (.meth (.var 0) "Place" [(.idx (.var 3) (.var 5)), (.glob "Uint8Flags")] [] [])]]
     [],
   .expr (.meth (.var 0) "PrependUOffsetTRelative" [(.var 1)] [] []),
   .ite (.var 2)
     [.asg (.var 6) (.bin .Sub (.bcall .len [(.attr (.var 0) "Bytes")]) (.attr (.var 0) "head")),
     .expr (.call (.glob "enforce_number") [(.var 6), (.glob "Int32Flags")] [] []),
     .expr (.meth (.var 0) "PrependInt32" [(.var 6)] [] [])]
     [],
   .asg (.attr (.var 0) "finished") (.bool true),
   .ret (.attr (.var 0) "head")]

noncomputable def L_Builder_Finish : List Str := ["self", "rootTable", "file_identifier"]
noncomputable def B_Builder_Finish : List S :=
  [.ret (.meth (.var 0) "_Builder__Finish" [(.var 1), (.bool false)] ["file_identifier"] [(.var 2)])]

noncomputable def L_Builder_FinishSizePrefixed : List Str := ["self", "rootTable", "file_identifier"]
noncomputable def B_Builder_FinishSizePrefixed : List S :=
  [.ret (.meth (.var 0) "_Builder__Finish" [(.var 1), (.bool true)] ["file_identifier"] [(.var 2)])]

noncomputable def L_Builder_Prepend : List Str := ["self", "flags", "off"]
noncomputable def B_Builder_Prepend : List S :=
  [.expr (.meth (.var 0) "Prep" [(.attr (.var 1) "bytewidth"), (.int 0)] [] []),
   .expr (.meth (.var 0) "Place" [(.var 2), (.var 1)] [] [])]

noncomputable def L_Builder_PrependSlot : List Str := ["self", "flags", "o", "x", "d"]
noncomputable def B_Builder_PrependSlot : List S :=
  [.ite (.isn true (.var 3))
     [.expr (.call (.glob "enforce_number") [(.var 3), (.var 1)] [] [])]
     [],
   .ite (.isn true (.var 4))
     [.expr (.call (.glob "enforce_number") [(.var 4), (.var 1)] [] [])]
     [],
   .ite (.bor [(.cmp .NotEq (.var 3) (.var 4)), (.band [(.attr (.var 0) "forceDefaults"), (.isn true (.var 4))])])
     [.expr (.meth (.var 0) "Prepend" [(.var 1), (.var 3)] [] []),
     .expr (.meth (.var 0) "Slot" [(.var 2)] [] [])]
     []]

noncomputable def L_Builder_PrependUint8Slot : List Str := ["self", "args"]
noncomputable def B_Builder_PrependUint8Slot : List S :=
  [.expr (.methStar (.var 0) "PrependSlot" (.glob "Uint8Flags") (.var 1))]

noncomputable def L_Builder_PrependUint16Slot : List Str := ["self", "args"]
noncomputable def B_Builder_PrependUint16Slot : List S :=
  [.expr (.methStar (.var 0) "PrependSlot" (.glob "Uint16Flags") (.var 1))]

noncomputable def L_Builder_PrependUint32Slot : List Str := ["self", "args"]
noncomputable def B_Builder_PrependUint32Slot : List S :=
  [.expr (.methStar (.var 0) "PrependSlot" (.glob "Uint32Flags") (.var 1))]

noncomputable def L_Builder_PrependUint64Slot : List Str := ["self", "args"]
noncomputable def B_Builder_PrependUint64Slot : List S :=
  [.expr (.methStar (.var 0) "PrependSlot" (.glob "Uint64Flags") (.var 1))]

noncomputable def L_Builder_PrependInt32 : List Str := ["self", "x"]
noncomputable def B_Builder_PrependInt32 : List S :=
  [.expr (.meth (.var 0) "Prepend" [(.glob "Int32Flags"), (.var 1)] [] [])]

noncomputable def L_Builder_PrependVOffsetT : List Str := ["self", "x"]
noncomputable def B_Builder_PrependVOffsetT : List S :=
  [.expr (.meth (.var 0) "Prepend" [(.glob "VOffsetTFlags"), (.var 1)] [] [])]

noncomputable def L_Builder_Place : List Str := ["self", "x", "flags", "new_head"]
noncomputable def B_Builder_Place : List S :=
  [.expr (.call (.glob "enforce_number") [(.var 1), (.var 2)] [] []),
   .asg (.var 3) (.bin .Sub (.attr (.var 0) "head") (.attr (.var 2) "bytewidth")),
   .asg (.attr (.var 0) "head") (.var 3),
   .expr (.call (.glob "Write") [(.attr (.var 2) "packer_type"), (.attr (.var 0) "Bytes"), (.var 3), (.var 1)] [] [])]

noncomputable def L_Builder_PlaceSOffsetT : List Str := ["self", "x", "new_head"]
noncomputable def B_Builder_PlaceSOffsetT : List S :=
  [.expr (.call (.glob "enforce_number") [(.var 1), (.glob "SOffsetTFlags")] [] []),
   .asg (.var 2) (.bin .Sub (.attr (.var 0) "head") (.attr (.glob "SOffsetTFlags") "bytewidth")),
   .asg (.attr (.var 0) "head") (.var 2),
   .expr (.call (.glob "Write") [(.glob "soffset"), (.attr (.var 0) "Bytes"), (.var 2), (.var 1)] [] [])]

noncomputable def L_Builder_PlaceUOffsetT : List Str := ["self", "x", "new_head"]
noncomputable def B_Builder_PlaceUOffsetT : List S :=
  [.expr (.call (.glob "enforce_number") [(.var 1), (.glob "UOffsetTFlags")] [] []),
   .asg (.var 2) (.bin .Sub (.attr (.var 0) "head") (.attr (.glob "UOffsetTFlags") "bytewidth")),
   .asg (.attr (.var 0) "head") (.var 2),
   .expr (.call (.glob "Write") [(.glob "uoffset"), (.attr (.var 0) "Bytes"), (.var 2), (.var 1)] [] [])]

noncomputable def L_Table_init : List Str := ["self", "buf", "pos"]
noncomputable def B_Table_init : List S :=
  [.expr (.call (.glob "enforce_number") [(.var 2), (.glob "UOffsetTFlags")] [] []),
   .asg (.attr (.var 0) "Bytes") (.var 1),
   .asg (.attr (.var 0) "Pos") (.var 2)]

noncomputable def L_Table_Offset : List Str := ["self", "vtableOffset", "vtable", "vtableEnd"]
noncomputable def B_Table_Offset : List S :=
  [.asg (.var 2) (.bin .Sub (.attr (.var 0) "Pos") (.meth (.var 0) "Get" [(.glob "SOffsetTFlags"), (.attr (.var 0) "Pos")] [] [])),
   .asg (.var 3) (.meth (.var 0) "Get" [(.glob "VOffsetTFlags"), (.var 2)] [] []),
   .ite (.cmp .Lt (.var 1) (.var 3))
     [.ret (.meth (.var 0) "Get" [(.glob "VOffsetTFlags"), (.bin .Add (.var 2) (.var 1))] [] [])]
     [],
   .ret (.int 0)]

noncomputable def L_Table_Get : List Str := ["self", "flags", "off"]
noncomputable def B_Table_Get : List S :=
  [.expr (.call (.glob "enforce_number") [(.var 2), (.glob "UOffsetTFlags")] [] []),
   .ret (.meth (.var 1) "py_type" [(.call (.glob "Get_encode") [(.attr (.var 1) "packer_type"), (.attr (.var 0) "Bytes"), (.var 2)] [] [])] [] [])]

noncomputable def L_Table_GetSlot : List Str := ["self", "slot", "d", "validator_flags", "off"]
noncomputable def B_Table_GetSlot : List S :=
  [.expr (.call (.glob "enforce_number") [(.var 1), (.glob "VOffsetTFlags")] [] []),
   .ite (.isn true (.var 3))
     [.expr (.call (.glob "enforce_number") [(.var 2), (.var 3)] [] [])]
     [],
   .asg (.var 4) (.meth (.var 0) "Offset" [(.var 1)] [] []),
   .ite (.cmp .Eq (.var 4) (.int 0))
     [.ret (.var 2)]
     [],
   .ret (.meth (.var 0) "Get" [(.var 3), (.bin .Add (.attr (.var 0) "Pos") (.var 4))] [] [])]

noncomputable def L_law_flags : List Str := ["width"]
noncomputable def B_law_flags : List S :=
  [.ret (.ite (.cmp .Eq (.var 0) (.int 1)) (.glob "Uint8Flags") (.ite (.cmp .Eq (.var 0) (.int 2)) (.glob "Uint16Flags") (.ite (.cmp .Eq (.var 0) (.int 4)) (.glob "Uint32Flags") (.glob "Uint64Flags"))))]

noncomputable def L_law_laid : List Str := ["widths", "values", "order", "size", "sized", "builder", "n", "root"]
noncomputable def B_law_laid : List S :=
  [.asg (.var 5) (.call (.glob "Builder") [(.var 3)] [] []),
   .expr (.meth (.var 5) "StartObject" [(.bcall .len [(.var 0)])] [] []),
   .for_ (.var 6) .of [(.var 2)]
     [.ite (.cmp .Eq (.idx (.var 0) (.var 6)) (.int 1))
       [.expr (.meth (.var 5) "PrependUint8Slot" [(.var 6), (.idx (.var 1) (.var 6)), .none] [] [])]
       [.ite (.cmp .Eq (.idx (.var 0) (.var 6)) (.int 2))
         [.expr (.meth (.var 5) "PrependUint16Slot" [(.var 6), (.idx (.var 1) (.var 6)), .none] [] [])]
         [.ite (.cmp .Eq (.idx (.var 0) (.var 6)) (.int 4))
           [.expr (.meth (.var 5) "PrependUint32Slot" [(.var 6), (.idx (.var 1) (.var 6)), .none] [] [])]
           [.ite (.cmp .Eq (.idx (.var 0) (.var 6)) (.int 8))
             [.expr (.meth (.var 5) "PrependUint64Slot" [(.var 6), (.idx (.var 1) (.var 6)), .none] [] [])]
             []]]]],
   .asg (.var 7) (.meth (.var 5) "EndObject" [] [] []),
   .ite (.var 4)
     [.expr (.meth (.var 5) "FinishSizePrefixed" [(.var 7)] [] [])]
     [.expr (.meth (.var 5) "Finish" [(.var 7)] [] [])],
   .ret (.bcall .bytes [(.meth (.var 5) "Output" [] [] [])])]

noncomputable def L_law_good : List Str := ["octets", "widths", "values", "sized", "at", "table", "row", "size", "n", "place", "flags"]
noncomputable def B_law_good : List S :=
  [.asg (.var 4) (.ite (.var 3) (.int 4) (.int 0)),
   .asg (.var 5) (.call (.glob "Table") [(.var 0), (.bin .Add (.bin .Add (.var 4) (.idx (.var 0) (.var 4))) (.bin .Mult (.int 256) (.idx (.var 0) (.bin .Add (.var 4) (.int 1)))))] [] []),
   .asg (.var 6) (.bin .Sub (.attr (.var 5) "Pos") (.meth (.var 5) "Get" [(.glob "Int32Flags"), (.attr (.var 5) "Pos")] [] [])),
   .asg (.var 7) (.meth (.var 5) "Get" [(.glob "Uint16Flags"), (.bin .Add (.var 6) (.int 2))] [] []),
   .ite (.bor [(.cmp .NotEq (.bin .Add (.attr (.var 5) "Pos") (.var 7)) (.bcall .len [(.var 0)])), (.band [(.var 3), (.cmp .NotEq (.meth (.var 5) "Get" [(.glob "Uint32Flags"), (.int 0)] [] []) (.bin .Sub (.bcall .len [(.var 0)]) (.int 4)))])])
     [.ret (.bool false)]
     [],
   .for_ (.var 8) .rng [(.bcall .len [(.var 1)])]
     [.asg (.var 9) (.meth (.var 5) "Offset" [(.bin .Add (.int 4) (.bin .Mult (.int 2) (.var 8)))] [] []),
     .asg (.var 10) (.call (.glob "_law_flags") [(.idx (.var 1) (.var 8))] [] []),
     .ite (.bor [(.cmp .NotEq (.cmp .Eq (.var 9) (.int 0)) (.cmp .Eq (.idx (.var 1) (.var 8)) (.int 0))), (.cmp .NotEq (.meth (.var 5) "GetSlot" [(.bin .Add (.int 4) (.bin .Mult (.int 2) (.var 8))), (.int 9), (.var 10)] [] []) (.ite (.cmp .Eq (.var 9) (.int 0)) (.int 9) (.idx (.var 2) (.var 8))))])
       [.ret (.bool false)]
       [],
     .ite (.band [(.cmp .Gt (.var 9) (.int 0)), (.bor [(.cmp .NotEq (.bin .Mod (.bin .Add (.attr (.var 5) "Pos") (.var 9)) (.idx (.var 1) (.var 8))) (.int 0)), (.not (.chain (.int 4) .LtE (.var 9) .LtE (.bin .Sub (.var 7) (.idx (.var 1) (.var 8)))))])])
       [.ret (.bool false)]
       []],
   .ret (.bool true)]

noncomputable def L_law : List Str := ["script", "a", "b", "c", "count", "widths", "values", "sized", "falling", "least", "great", "many", "last", "rest", "orders", "order", "other", "end", "n", "whole"]
noncomputable def B_law : List S :=
  [.asg (.tup [(.var 1), (.var 2), (.var 3)]) (.frz (.sl (.frz (.ladd (.frz (.sl (.var 0) .none (.int 3))) (.frz (.list [(.int 0), (.int 0), (.int 0)])))) .none (.int 3))),
   .asg (.var 4) (.bin .Add (.int 1) (.bin .Mod (.bin .Add (.var 1) (.int 5)) (.int 9))),
   .asg (.var 5) (.frz (.lcomp [("n", none), ("b", some 2), ("c", some 3)] 0 .rng [(.var 4)] [] (.idx (.frz (.list [(.int 1), (.int 2), (.int 4), (.int 8), (.int 0)])) (.bin .Mod (.bin .Add (.bin .FloorDiv (.var 1) (.bin .Pow (.int 5) (.var 0))) (.bin .Mult (.var 0) (.bin .Add (.bin .Mod (.var 2) (.int 5)) (.int 1)))) (.int 5))))),
   .asg (.var 6) (.frz (.lcomp [("n", none), ("c", some 3), ("widths", some 5), ("b", some 2)] 0 .rng [(.var 4)] [] (.bin .Mod (.bin .Add (.bin .Add (.var 1) (.bin .Mult (.bin .Mult (.var 0) (.var 0)) (.int 1000003))) (.bin .FloorDiv (.bin .Add (.var 3) (.var 0)) (.int 7))) (.bin .Pow (.int 256) (.idx (.var 2) (.var 0)))))),
   .asg (.var 7) (.cmp .Eq (.bin .Mod (.bin .FloorDiv (.var 1) (.int 9)) (.int 2)) (.int 1)),
   .asg (.var 8) (.frz (.lcomp2 [("width", none), ("n", none), ("widths", some 5), ("count", some 4)] 0 .of [(.tup [(.int 8), (.int 4), (.int 2), (.int 1), (.int 0)])] 1 .rng [(.var 3)] [(.cmp .Eq (.idx (.var 2) (.var 1)) (.var 0))] (.var 1))),
   .asg (.var 9) (.call (.glob "_law_laid") [(.var 5), (.var 6), (.var 8), (.bin .Mod (.bin .FloorDiv (.var 1) (.int 18)) (.int 40)), (.var 7)] [] []),
   .ite (.not (.call (.glob "_law_good") [(.var 9), (.var 5), (.var 6), (.var 7)] [] []))
     [.ret (.bool false)]
     [],
   .asg (.var 10) (.bcall .max [(.frz (.ladd (.frz (.list [(.int 4)])) (.var 5)))]),
   .asg (.var 11) (.bcall .sum [(.var 5)]),
   .asg (.var 12) (.bcall .max [(.frz (.ladd (.frz (.list [(.int 0)])) (.frz (.lcomp [("n", none), ("widths", some 5)] 0 .rng [(.var 4)] [(.cmp .Gt (.idx (.var 1) (.var 0)) (.int 0))] (.bin .Add (.var 0) (.int 1))))))]),
   .asg (.var 13) (.bin .Add (.bin .Add (.bin .Add (.bin .Add (.int 4) (.int 4)) (.bin .Mult (.int 2) (.var 12))) (.int 4)) (.ite (.var 7) (.int 4) (.int 0))),
   .ite (.cmp .NotEq (.bcall .len [(.var 9)]) (.bin .Mult (.bin .FloorDiv (.bin .Sub (.bin .Add (.bin .Add (.bin .Mult (.bin .FloorDiv (.bin .Add (.var 11) (.int 3)) (.int 4)) (.int 4)) (.var 13)) (.var 10)) (.int 1)) (.var 10)) (.var 10)))
     [.ret (.bool false)]
     [],
   .asg (.var 14) (.frz (.list [(.frz (.lcomp [("n", none), ("count", some 4), ("c", some 3)] 0 .rng [(.var 4)] [] (.bin .Mod (.bin .Add (.bin .Mult (.var 0) (.bin .Sub (.var 1) (.int 1))) (.var 2)) (.var 1)))), (.frz (.ladd (.frz (.lcomp [("n", none), ("b", some 2), ("c", some 3)] 0 .rng [(.var 4)] [(.cmp .Eq (.bin .Mod (.bin .FloorDiv (.bin .Add (.var 1) (.var 2)) (.bin .Pow (.int 2) (.var 0))) (.int 2)) (.int 1))] (.var 0))) (.frz (.lcomp [("n", none), ("b", some 2), ("c", some 3)] 0 .rng [(.var 4)] [(.cmp .Eq (.bin .Mod (.bin .FloorDiv (.bin .Add (.var 1) (.var 2)) (.bin .Pow (.int 2) (.var 0))) (.int 2)) (.int 0))] (.var 0)))))])),
   .for_ (.var 15) .of [(.var 14)]
     [.asg (.var 16) (.call (.glob "_law_laid") [(.var 5), (.var 6), (.var 15), (.bin .Mod (.var 2) (.int 30)), (.var 7)] [] []),
     .asg (.var 17) (.int 0),
     .for_ (.var 18) .of [(.var 15)]
       [.ite (.cmp .Gt (.idx (.var 5) (.var 18)) (.int 0))
         [.asg (.var 17) (.bin .Add (.bin .Mult (.bin .FloorDiv (.bin .Sub (.bin .Add (.var 17) (.idx (.var 5) (.var 18))) (.int 1)) (.idx (.var 5) (.var 18))) (.idx (.var 5) (.var 18))) (.idx (.var 5) (.var 18)))]
         []],
     .asg (.var 19) (.bin .Mult (.bin .FloorDiv (.bin .Sub (.bin .Add (.bin .Add (.bin .Mult (.bin .FloorDiv (.bin .Add (.var 17) (.int 3)) (.int 4)) (.int 4)) (.var 13)) (.var 10)) (.int 1)) (.var 10)) (.var 10)),
     .ite (.bor [(.not (.call (.glob "_law_good") [(.var 16), (.var 5), (.var 6), (.var 7)] [] [])), (.cmp .NotEq (.bcall .len [(.var 16)]) (.var 19))])
       [.ret (.bool false)]
       []],
   .ret (.bool true)]

end Mine
namespace Mine
open PySem PySem.W PySem.Calls PyProof.Rows

structure ProgL (W : Wd) : Prop where
  tab : TabOk W.K tL
  enforce_number : FnPos W 167 L_enforce_number ["n", "flags"] B_enforce_number
  Get : FnPos W 174 L_Get ["packer_type", "buf", "head"] B_Get
  Write : FnPos W 181 L_Write ["packer_type", "buf", "head", "n"] B_Write
  Builder_init : FnPos W 262 L_Builder_init ["self", "initialSize"] B_Builder_init
  Builder_Output : FnPos W 276 L_Builder_Output ["self"] B_Builder_Output
  Builder_StartObject : FnPos W 283 L_Builder_StartObject ["self", "numfields"] B_Builder_StartObject
  Builder_WriteVtable : FnPos W 290 L_Builder_WriteVtable ["self"] B_Builder_WriteVtable
  Builder_EndObject : FnPos W 297 L_Builder_EndObject ["self"] B_Builder_EndObject
  Builder_GrowByteBuffer : FnPos W 304 L_Builder_GrowByteBuffer ["self"] B_Builder_GrowByteBuffer
  Builder_Head : FnPos W 311 L_Builder_Head ["self"] B_Builder_Head
  Builder_Offset : FnPos W 318 L_Builder_Offset ["self"] B_Builder_Offset
  Builder_Pad : FnPos W 325 L_Builder_Pad ["self", "n"] B_Builder_Pad
  Builder_Prep : FnPos W 332 L_Builder_Prep ["self", "size", "additionalBytes"] B_Builder_Prep
  Builder_PrependSOffsetTRelative : FnPos W 339 L_Builder_PrependSOffsetTRelative ["self", "off"] B_Builder_PrependSOffsetTRelative
  Builder_PrependUOffsetTRelative : FnPos W 346 L_Builder_PrependUOffsetTRelative ["self", "off"] B_Builder_PrependUOffsetTRelative
  Builder_assertNested : FnPos W 389 L_Builder_assertNested ["self"] B_Builder_assertNested
  Builder_assertNotNested : FnPos W 396 L_Builder_assertNotNested ["self"] B_Builder_assertNotNested
  Builder_Slot : FnPos W 410 L_Builder_Slot ["self", "slotnum"] B_Builder_Slot
  Builder_zFinish : FnKw3 W 418 L_Builder_zFinish "self" "rootTable" "sizePrefix" "file_identifier" B_Builder_zFinish
  Builder_Finish : FnNone2 W 426 L_Builder_Finish "self" "rootTable" "file_identifier" B_Builder_Finish
  Builder_FinishSizePrefixed : FnNone2 W 434 L_Builder_FinishSizePrefixed "self" "rootTable" "file_identifier" B_Builder_FinishSizePrefixed
  Builder_Prepend : FnPos W 441 L_Builder_Prepend ["self", "flags", "off"] B_Builder_Prepend
  Builder_PrependSlot : FnPos W 448 L_Builder_PrependSlot ["self", "flags", "o", "x", "d"] B_Builder_PrependSlot
  Builder_PrependUint8Slot : FnStar W 469 L_Builder_PrependUint8Slot "self" "args" B_Builder_PrependUint8Slot
  Builder_PrependUint16Slot : FnStar W 476 L_Builder_PrependUint16Slot "self" "args" B_Builder_PrependUint16Slot
  Builder_PrependUint32Slot : FnStar W 483 L_Builder_PrependUint32Slot "self" "args" B_Builder_PrependUint32Slot
  Builder_PrependUint64Slot : FnStar W 490 L_Builder_PrependUint64Slot "self" "args" B_Builder_PrependUint64Slot
  Builder_PrependInt32 : FnPos W 595 L_Builder_PrependInt32 ["self", "x"] B_Builder_PrependInt32
  Builder_PrependVOffsetT : FnPos W 616 L_Builder_PrependVOffsetT ["self", "x"] B_Builder_PrependVOffsetT
  Builder_Place : FnPos W 623 L_Builder_Place ["self", "x", "flags"] B_Builder_Place
  Builder_PlaceSOffsetT : FnPos W 637 L_Builder_PlaceSOffsetT ["self", "x"] B_Builder_PlaceSOffsetT
  Builder_PlaceUOffsetT : FnPos W 644 L_Builder_PlaceUOffsetT ["self", "x"] B_Builder_PlaceUOffsetT
  Table_init : FnPos W 676 L_Table_init ["self", "buf", "pos"] B_Table_init
  Table_Offset : FnPos W 683 L_Table_Offset ["self", "vtableOffset"] B_Table_Offset
  Table_Get : FnPos W 725 L_Table_Get ["self", "flags", "off"] B_Table_Get
  Table_GetSlot : FnPos W 732 L_Table_GetSlot ["self", "slot", "d", "validator_flags"] B_Table_GetSlot
  law_flags : FnPos W 754 L_law_flags ["width"] B_law_flags
  law_laid : FnPos W 761 L_law_laid ["widths", "values", "order", "size", "sized"] B_law_laid
  law_good : FnPos W 768 L_law_good ["octets", "widths", "values", "sized"] B_law_good
  law : FnPos W 773 L_law ["script"] B_law
  clsBuilder : ClassOk W.K 648 262
  clsTable : ClassOk W.K 743 676
variable {W : Wd}
noncomputable abbrev A_uint8 : Addr := 50
noncomputable abbrev A_uint16 : Addr := 51
noncomputable abbrev A_uint32 : Addr := 52
noncomputable abbrev A_uint64 : Addr := 53
noncomputable abbrev A_int32 : Addr := 54
noncomputable abbrev A_Uint8Flags : Addr := 64
noncomputable abbrev A_Uint16Flags : Addr := 78
noncomputable abbrev A_Uint32Flags : Addr := 92
noncomputable abbrev A_Uint64Flags : Addr := 106
noncomputable abbrev A_Int32Flags : Addr := 120
noncomputable abbrev A_SOffsetTFlags : Addr := 134
noncomputable abbrev A_UOffsetTFlags : Addr := 146
noncomputable abbrev A_VOffsetTFlags : Addr := 158
noncomputable abbrev A_enforce_number : Addr := 167
noncomputable abbrev A_Get : Addr := 174
noncomputable abbrev A_Write : Addr := 181
noncomputable abbrev A_OffsetArithmeticError : Addr := 191
noncomputable abbrev A_IsNotNestedError : Addr := 204
noncomputable abbrev A_IsNestedError : Addr := 217
noncomputable abbrev A_BuilderSizeError : Addr := 230
noncomputable abbrev A_BuilderNotFinishedError : Addr := 243
noncomputable abbrev A_Builder_init : Addr := 262
noncomputable abbrev A_Builder_Output : Addr := 276
noncomputable abbrev A_Builder_StartObject : Addr := 283
noncomputable abbrev A_Builder_WriteVtable : Addr := 290
noncomputable abbrev A_Builder_EndObject : Addr := 297
noncomputable abbrev A_Builder_GrowByteBuffer : Addr := 304
noncomputable abbrev A_Builder_Head : Addr := 311
noncomputable abbrev A_Builder_Offset : Addr := 318
noncomputable abbrev A_Builder_Pad : Addr := 325
noncomputable abbrev A_Builder_Prep : Addr := 332
noncomputable abbrev A_Builder_PrependSOffsetTRelative : Addr := 339
noncomputable abbrev A_Builder_PrependUOffsetTRelative : Addr := 346
noncomputable abbrev A_Builder_assertNested : Addr := 389
noncomputable abbrev A_Builder_assertNotNested : Addr := 396
noncomputable abbrev A_Builder_Slot : Addr := 410
noncomputable abbrev A_Builder_zFinish : Addr := 418
noncomputable abbrev A_Builder_Finish : Addr := 426
noncomputable abbrev A_Builder_FinishSizePrefixed : Addr := 434
noncomputable abbrev A_Builder_Prepend : Addr := 441
noncomputable abbrev A_Builder_PrependSlot : Addr := 448
noncomputable abbrev A_Builder_PrependUint8Slot : Addr := 469
noncomputable abbrev A_Builder_PrependUint16Slot : Addr := 476
noncomputable abbrev A_Builder_PrependUint32Slot : Addr := 483
noncomputable abbrev A_Builder_PrependUint64Slot : Addr := 490
noncomputable abbrev A_Builder_PrependInt32 : Addr := 595
noncomputable abbrev A_Builder_PrependVOffsetT : Addr := 616
noncomputable abbrev A_Builder_Place : Addr := 623
noncomputable abbrev A_Builder_PlaceSOffsetT : Addr := 637
noncomputable abbrev A_Builder_PlaceUOffsetT : Addr := 644
noncomputable abbrev A_Builder : Addr := 648
noncomputable abbrev A_Table_init : Addr := 676
noncomputable abbrev A_Table_Offset : Addr := 683
noncomputable abbrev A_Table_Get : Addr := 725
noncomputable abbrev A_Table_GetSlot : Addr := 732
noncomputable abbrev A_Table : Addr := 743
noncomputable abbrev A_law_flags : Addr := 754
noncomputable abbrev A_law_laid : Addr := 761
noncomputable abbrev A_law_good : Addr := 768
noncomputable abbrev A_law : Addr := 773
theorem g_Struct : (tL.st W).glob "Struct" = some (.typ "_struct.Struct") := by kernel_rfl
theorem g_unpack : (tL.st W).glob "unpack" = some (.bltn "_struct.unpack") := by kernel_rfl
theorem g_uint8 : (tL.st W).glob "uint8" = some (.ref A_uint8) := by kernel_rfl
theorem g_uint16 : (tL.st W).glob "uint16" = some (.ref A_uint16) := by kernel_rfl
theorem g_uint32 : (tL.st W).glob "uint32" = some (.ref A_uint32) := by kernel_rfl
theorem g_uint64 : (tL.st W).glob "uint64" = some (.ref A_uint64) := by kernel_rfl
theorem g_int32 : (tL.st W).glob "int32" = some (.ref A_int32) := by kernel_rfl
theorem g_uoffset : (tL.st W).glob "uoffset" = some (.ref A_uint32) := by kernel_rfl
theorem g_soffset : (tL.st W).glob "soffset" = some (.ref A_int32) := by kernel_rfl
theorem g_Uint8Flags : (tL.st W).glob "Uint8Flags" = some (.ref A_Uint8Flags) := by kernel_rfl
theorem g_Uint16Flags : (tL.st W).glob "Uint16Flags" = some (.ref A_Uint16Flags) := by kernel_rfl
theorem g_Uint32Flags : (tL.st W).glob "Uint32Flags" = some (.ref A_Uint32Flags) := by kernel_rfl
theorem g_Uint64Flags : (tL.st W).glob "Uint64Flags" = some (.ref A_Uint64Flags) := by kernel_rfl
theorem g_Int32Flags : (tL.st W).glob "Int32Flags" = some (.ref A_Int32Flags) := by kernel_rfl
theorem g_SOffsetTFlags : (tL.st W).glob "SOffsetTFlags" = some (.ref A_SOffsetTFlags) := by kernel_rfl
theorem g_UOffsetTFlags : (tL.st W).glob "UOffsetTFlags" = some (.ref A_UOffsetTFlags) := by kernel_rfl
theorem g_VOffsetTFlags : (tL.st W).glob "VOffsetTFlags" = some (.ref A_VOffsetTFlags) := by kernel_rfl
theorem g_enforce_number : (tL.st W).glob "enforce_number" = some (.ref A_enforce_number) := by kernel_rfl
theorem g_FILE_IDENTIFIER_LENGTH : (tL.st W).glob "FILE_IDENTIFIER_LENGTH" = some (.int 4) := by kernel_rfl
theorem g_Get : (tL.st W).glob "Get" = some (.ref A_Get) := by kernel_rfl
theorem g_Get_encode : (tL.st W).glob "Get_encode" = some (.ref A_Get) := by kernel_rfl
theorem g_Write : (tL.st W).glob "Write" = some (.ref A_Write) := by kernel_rfl
theorem g_OffsetArithmeticError : (tL.st W).glob "OffsetArithmeticError" = some (.ref A_OffsetArithmeticError) := by kernel_rfl
theorem g_IsNotNestedError : (tL.st W).glob "IsNotNestedError" = some (.ref A_IsNotNestedError) := by kernel_rfl
theorem g_IsNestedError : (tL.st W).glob "IsNestedError" = some (.ref A_IsNestedError) := by kernel_rfl
theorem g_BuilderSizeError : (tL.st W).glob "BuilderSizeError" = some (.ref A_BuilderSizeError) := by kernel_rfl
theorem g_BuilderNotFinishedError : (tL.st W).glob "BuilderNotFinishedError" = some (.ref A_BuilderNotFinishedError) := by kernel_rfl
theorem g_VtableMetadataFields : (tL.st W).glob "VtableMetadataFields" = some (.int 2) := by kernel_rfl
theorem g_Builder : (tL.st W).glob "Builder" = some (.ref A_Builder) := by kernel_rfl
theorem g_Table : (tL.st W).glob "Table" = some (.ref A_Table) := by kernel_rfl
theorem g_law_flags : (tL.st W).glob "_law_flags" = some (.ref A_law_flags) := by kernel_rfl
theorem g_law_laid : (tL.st W).glob "_law_laid" = some (.ref A_law_laid) := by kernel_rfl
theorem g_law_good : (tL.st W).glob "_law_good" = some (.ref A_law_good) := by kernel_rfl
theorem g_law : (tL.st W).glob "law" = some (.ref A_law) := by kernel_rfl
theorem s_Builder_Bytes : (tL.st W).slot A_Builder "Bytes" = some 0 := by kernel_rfl
theorem s_Builder_current_vtable : (tL.st W).slot A_Builder "current_vtable" = some 1 := by kernel_rfl
theorem s_Builder_finished : (tL.st W).slot A_Builder "finished" = some 2 := by kernel_rfl
theorem s_Builder_forceDefaults : (tL.st W).slot A_Builder "forceDefaults" = some 3 := by kernel_rfl
theorem s_Builder_head : (tL.st W).slot A_Builder "head" = some 4 := by kernel_rfl
theorem s_Builder_minalign : (tL.st W).slot A_Builder "minalign" = some 5 := by kernel_rfl
theorem s_Builder_nested : (tL.st W).slot A_Builder "nested" = some 6 := by kernel_rfl
theorem s_Builder_objectEnd : (tL.st W).slot A_Builder "objectEnd" = some 7 := by kernel_rfl
theorem s_Builder_sharedStrings : (tL.st W).slot A_Builder "sharedStrings" = some 8 := by kernel_rfl
theorem s_Builder_vectorNumElems : (tL.st W).slot A_Builder "vectorNumElems" = some 9 := by kernel_rfl
theorem s_Builder_vtables : (tL.st W).slot A_Builder "vtables" = some 10 := by kernel_rfl
theorem s_Table_Bytes : (tL.st W).slot A_Table "Bytes" = some 0 := by kernel_rfl
theorem s_Table_Pos : (tL.st W).slot A_Table "Pos" = some 1 := by kernel_rfl
theorem k_Uint8Flags_bytewidth : (tL.st W).cattr A_Uint8Flags "bytewidth" = some (.int 1) := by kernel_rfl
theorem k_Uint8Flags_min_val : (tL.st W).cattr A_Uint8Flags "min_val" = some (.int 0) := by kernel_rfl
theorem k_Uint8Flags_max_val : (tL.st W).cattr A_Uint8Flags "max_val" = some (.int 255) := by kernel_rfl
theorem k_Uint8Flags_py_type : (tL.st W).cattr A_Uint8Flags "py_type" = some (.typ "int") := by kernel_rfl
theorem k_Uint8Flags_packer_type : (tL.st W).cattr A_Uint8Flags "packer_type" = some (.ref A_uint8) := by kernel_rfl
theorem k_Uint16Flags_bytewidth : (tL.st W).cattr A_Uint16Flags "bytewidth" = some (.int 2) := by kernel_rfl
theorem k_Uint16Flags_min_val : (tL.st W).cattr A_Uint16Flags "min_val" = some (.int 0) := by kernel_rfl
theorem k_Uint16Flags_max_val : (tL.st W).cattr A_Uint16Flags "max_val" = some (.int 65535) := by kernel_rfl
theorem k_Uint16Flags_py_type : (tL.st W).cattr A_Uint16Flags "py_type" = some (.typ "int") := by kernel_rfl
theorem k_Uint16Flags_packer_type : (tL.st W).cattr A_Uint16Flags "packer_type" = some (.ref A_uint16) := by kernel_rfl
theorem k_Uint32Flags_bytewidth : (tL.st W).cattr A_Uint32Flags "bytewidth" = some (.int 4) := by kernel_rfl
theorem k_Uint32Flags_min_val : (tL.st W).cattr A_Uint32Flags "min_val" = some (.int 0) := by kernel_rfl
theorem k_Uint32Flags_max_val : (tL.st W).cattr A_Uint32Flags "max_val" = some (.int 4294967295) := by kernel_rfl
theorem k_Uint32Flags_py_type : (tL.st W).cattr A_Uint32Flags "py_type" = some (.typ "int") := by kernel_rfl
theorem k_Uint32Flags_packer_type : (tL.st W).cattr A_Uint32Flags "packer_type" = some (.ref A_uint32) := by kernel_rfl
theorem k_Uint64Flags_bytewidth : (tL.st W).cattr A_Uint64Flags "bytewidth" = some (.int 8) := by kernel_rfl
theorem k_Uint64Flags_min_val : (tL.st W).cattr A_Uint64Flags "min_val" = some (.int 0) := by kernel_rfl
theorem k_Uint64Flags_max_val : (tL.st W).cattr A_Uint64Flags "max_val" = some (.int 18446744073709551615) := by kernel_rfl
theorem k_Uint64Flags_py_type : (tL.st W).cattr A_Uint64Flags "py_type" = some (.typ "int") := by kernel_rfl
theorem k_Uint64Flags_packer_type : (tL.st W).cattr A_Uint64Flags "packer_type" = some (.ref A_uint64) := by kernel_rfl
theorem k_Int32Flags_bytewidth : (tL.st W).cattr A_Int32Flags "bytewidth" = some (.int 4) := by kernel_rfl
theorem k_Int32Flags_min_val : (tL.st W).cattr A_Int32Flags "min_val" = some (.int (-2147483648)) := by kernel_rfl
theorem k_Int32Flags_max_val : (tL.st W).cattr A_Int32Flags "max_val" = some (.int 2147483647) := by kernel_rfl
theorem k_Int32Flags_py_type : (tL.st W).cattr A_Int32Flags "py_type" = some (.typ "int") := by kernel_rfl
theorem k_Int32Flags_packer_type : (tL.st W).cattr A_Int32Flags "packer_type" = some (.ref A_int32) := by kernel_rfl
theorem k_SOffsetTFlags_bytewidth : (tL.st W).cattr A_SOffsetTFlags "bytewidth" = some (.int 4) := by kernel_rfl
theorem k_SOffsetTFlags_min_val : (tL.st W).cattr A_SOffsetTFlags "min_val" = some (.int (-2147483648)) := by kernel_rfl
theorem k_SOffsetTFlags_max_val : (tL.st W).cattr A_SOffsetTFlags "max_val" = some (.int 2147483647) := by kernel_rfl
theorem k_SOffsetTFlags_py_type : (tL.st W).cattr A_SOffsetTFlags "py_type" = some (.typ "int") := by kernel_rfl
theorem k_SOffsetTFlags_packer_type : (tL.st W).cattr A_SOffsetTFlags "packer_type" = some (.ref A_int32) := by kernel_rfl
theorem k_UOffsetTFlags_bytewidth : (tL.st W).cattr A_UOffsetTFlags "bytewidth" = some (.int 4) := by kernel_rfl
theorem k_UOffsetTFlags_min_val : (tL.st W).cattr A_UOffsetTFlags "min_val" = some (.int 0) := by kernel_rfl
theorem k_UOffsetTFlags_max_val : (tL.st W).cattr A_UOffsetTFlags "max_val" = some (.int 4294967295) := by kernel_rfl
theorem k_UOffsetTFlags_py_type : (tL.st W).cattr A_UOffsetTFlags "py_type" = some (.typ "int") := by kernel_rfl
theorem k_UOffsetTFlags_packer_type : (tL.st W).cattr A_UOffsetTFlags "packer_type" = some (.ref A_uint32) := by kernel_rfl
theorem k_VOffsetTFlags_bytewidth : (tL.st W).cattr A_VOffsetTFlags "bytewidth" = some (.int 2) := by kernel_rfl
theorem k_VOffsetTFlags_min_val : (tL.st W).cattr A_VOffsetTFlags "min_val" = some (.int 0) := by kernel_rfl
theorem k_VOffsetTFlags_max_val : (tL.st W).cattr A_VOffsetTFlags "max_val" = some (.int 65535) := by kernel_rfl
theorem k_VOffsetTFlags_py_type : (tL.st W).cattr A_VOffsetTFlags "py_type" = some (.typ "int") := by kernel_rfl
theorem k_VOffsetTFlags_packer_type : (tL.st W).cattr A_VOffsetTFlags "packer_type" = some (.ref A_uint16) := by kernel_rfl
theorem k_Builder_MAX_BUFFER_SIZE : (tL.st W).cattr A_Builder "MAX_BUFFER_SIZE" = some (.int 2147483648) := by kernel_rfl
theorem m_Builder_init : (tL.st W).meth A_Builder "__init__" = some A_Builder_init := by kernel_rfl
theorem m_Builder_Output : (tL.st W).meth A_Builder "Output" = some A_Builder_Output := by kernel_rfl
theorem m_Builder_StartObject : (tL.st W).meth A_Builder "StartObject" = some A_Builder_StartObject := by kernel_rfl
theorem m_Builder_WriteVtable : (tL.st W).meth A_Builder "WriteVtable" = some A_Builder_WriteVtable := by kernel_rfl
theorem m_Builder_EndObject : (tL.st W).meth A_Builder "EndObject" = some A_Builder_EndObject := by kernel_rfl
theorem m_Builder_GrowByteBuffer : (tL.st W).meth A_Builder "GrowByteBuffer" = some A_Builder_GrowByteBuffer := by kernel_rfl
theorem m_Builder_Head : (tL.st W).meth A_Builder "Head" = some A_Builder_Head := by kernel_rfl
theorem m_Builder_Offset : (tL.st W).meth A_Builder "Offset" = some A_Builder_Offset := by kernel_rfl
theorem m_Builder_Pad : (tL.st W).meth A_Builder "Pad" = some A_Builder_Pad := by kernel_rfl
theorem m_Builder_Prep : (tL.st W).meth A_Builder "Prep" = some A_Builder_Prep := by kernel_rfl
theorem m_Builder_PrependSOffsetTRelative : (tL.st W).meth A_Builder "PrependSOffsetTRelative" = some A_Builder_PrependSOffsetTRelative := by kernel_rfl
theorem m_Builder_PrependUOffsetTRelative : (tL.st W).meth A_Builder "PrependUOffsetTRelative" = some A_Builder_PrependUOffsetTRelative := by kernel_rfl
theorem m_Builder_assertNested : (tL.st W).meth A_Builder "assertNested" = some A_Builder_assertNested := by kernel_rfl
theorem m_Builder_assertNotNested : (tL.st W).meth A_Builder "assertNotNested" = some A_Builder_assertNotNested := by kernel_rfl
theorem m_Builder_Slot : (tL.st W).meth A_Builder "Slot" = some A_Builder_Slot := by kernel_rfl
theorem m_Builder_Builder__Finish : (tL.st W).meth A_Builder "_Builder__Finish" = some A_Builder_zFinish := by kernel_rfl
theorem m_Builder_Finish : (tL.st W).meth A_Builder "Finish" = some A_Builder_Finish := by kernel_rfl
theorem m_Builder_FinishSizePrefixed : (tL.st W).meth A_Builder "FinishSizePrefixed" = some A_Builder_FinishSizePrefixed := by kernel_rfl
theorem m_Builder_Prepend : (tL.st W).meth A_Builder "Prepend" = some A_Builder_Prepend := by kernel_rfl
theorem m_Builder_PrependSlot : (tL.st W).meth A_Builder "PrependSlot" = some A_Builder_PrependSlot := by kernel_rfl
theorem m_Builder_PrependUint8Slot : (tL.st W).meth A_Builder "PrependUint8Slot" = some A_Builder_PrependUint8Slot := by kernel_rfl
theorem m_Builder_PrependUint16Slot : (tL.st W).meth A_Builder "PrependUint16Slot" = some A_Builder_PrependUint16Slot := by kernel_rfl
theorem m_Builder_PrependUint32Slot : (tL.st W).meth A_Builder "PrependUint32Slot" = some A_Builder_PrependUint32Slot := by kernel_rfl
theorem m_Builder_PrependUint64Slot : (tL.st W).meth A_Builder "PrependUint64Slot" = some A_Builder_PrependUint64Slot := by kernel_rfl
theorem m_Builder_PrependInt32 : (tL.st W).meth A_Builder "PrependInt32" = some A_Builder_PrependInt32 := by kernel_rfl
theorem m_Builder_PrependVOffsetT : (tL.st W).meth A_Builder "PrependVOffsetT" = some A_Builder_PrependVOffsetT := by kernel_rfl
theorem m_Builder_Place : (tL.st W).meth A_Builder "Place" = some A_Builder_Place := by kernel_rfl
theorem m_Builder_PlaceSOffsetT : (tL.st W).meth A_Builder "PlaceSOffsetT" = some A_Builder_PlaceSOffsetT := by kernel_rfl
theorem m_Builder_PlaceUOffsetT : (tL.st W).meth A_Builder "PlaceUOffsetT" = some A_Builder_PlaceUOffsetT := by kernel_rfl
theorem m_Table_init : (tL.st W).meth A_Table "__init__" = some A_Table_init := by kernel_rfl
theorem m_Table_Offset : (tL.st W).meth A_Table "Offset" = some A_Table_Offset := by kernel_rfl
theorem m_Table_Get : (tL.st W).meth A_Table "Get" = some A_Table_Get := by kernel_rfl
theorem m_Table_GetSlot : (tL.st W).meth A_Table "GetSlot" = some A_Table_GetSlot := by kernel_rfl
theorem u_uint8 : (tL.st W).struct A_uint8 = some (1, false) := by kernel_rfl
theorem u_uint16 : (tL.st W).struct A_uint16 = some (2, false) := by kernel_rfl
theorem u_uint32 : (tL.st W).struct A_uint32 = some (4, false) := by kernel_rfl
theorem u_uint64 : (tL.st W).struct A_uint64 = some (8, false) := by kernel_rfl
theorem u_int32 : (tL.st W).struct A_int32 = some (4, true) := by kernel_rfl
theorem f_enforce_number : (tL.st W).callee A_enforce_number = true := by kernel_rfl
theorem f_Get : (tL.st W).callee A_Get = true := by kernel_rfl
theorem f_Write : (tL.st W).callee A_Write = true := by kernel_rfl
theorem f_Builder_init : (tL.st W).callee A_Builder_init = true := by kernel_rfl
theorem f_Builder_Output : (tL.st W).callee A_Builder_Output = true := by kernel_rfl
theorem f_Builder_StartObject : (tL.st W).callee A_Builder_StartObject = true := by kernel_rfl
theorem f_Builder_WriteVtable : (tL.st W).callee A_Builder_WriteVtable = true := by kernel_rfl
theorem f_Builder_EndObject : (tL.st W).callee A_Builder_EndObject = true := by kernel_rfl
theorem f_Builder_GrowByteBuffer : (tL.st W).callee A_Builder_GrowByteBuffer = true := by kernel_rfl
theorem f_Builder_Head : (tL.st W).callee A_Builder_Head = true := by kernel_rfl
theorem f_Builder_Offset : (tL.st W).callee A_Builder_Offset = true := by kernel_rfl
theorem f_Builder_Pad : (tL.st W).callee A_Builder_Pad = true := by kernel_rfl
theorem f_Builder_Prep : (tL.st W).callee A_Builder_Prep = true := by kernel_rfl
theorem f_Builder_PrependSOffsetTRelative : (tL.st W).callee A_Builder_PrependSOffsetTRelative = true := by kernel_rfl
theorem f_Builder_PrependUOffsetTRelative : (tL.st W).callee A_Builder_PrependUOffsetTRelative = true := by kernel_rfl
theorem f_Builder_assertNested : (tL.st W).callee A_Builder_assertNested = true := by kernel_rfl
theorem f_Builder_assertNotNested : (tL.st W).callee A_Builder_assertNotNested = true := by kernel_rfl
theorem f_Builder_Slot : (tL.st W).callee A_Builder_Slot = true := by kernel_rfl
theorem f_Builder_zFinish : (tL.st W).callee A_Builder_zFinish = true := by kernel_rfl
theorem f_Builder_Finish : (tL.st W).callee A_Builder_Finish = true := by kernel_rfl
theorem f_Builder_FinishSizePrefixed : (tL.st W).callee A_Builder_FinishSizePrefixed = true := by kernel_rfl
theorem f_Builder_Prepend : (tL.st W).callee A_Builder_Prepend = true := by kernel_rfl
theorem f_Builder_PrependSlot : (tL.st W).callee A_Builder_PrependSlot = true := by kernel_rfl
theorem f_Builder_PrependUint8Slot : (tL.st W).callee A_Builder_PrependUint8Slot = true := by kernel_rfl
theorem f_Builder_PrependUint16Slot : (tL.st W).callee A_Builder_PrependUint16Slot = true := by kernel_rfl
theorem f_Builder_PrependUint32Slot : (tL.st W).callee A_Builder_PrependUint32Slot = true := by kernel_rfl
theorem f_Builder_PrependUint64Slot : (tL.st W).callee A_Builder_PrependUint64Slot = true := by kernel_rfl
theorem f_Builder_PrependInt32 : (tL.st W).callee A_Builder_PrependInt32 = true := by kernel_rfl
theorem f_Builder_PrependVOffsetT : (tL.st W).callee A_Builder_PrependVOffsetT = true := by kernel_rfl
theorem f_Builder_Place : (tL.st W).callee A_Builder_Place = true := by kernel_rfl
theorem f_Builder_PlaceSOffsetT : (tL.st W).callee A_Builder_PlaceSOffsetT = true := by kernel_rfl
theorem f_Builder_PlaceUOffsetT : (tL.st W).callee A_Builder_PlaceUOffsetT = true := by kernel_rfl
theorem f_Table_init : (tL.st W).callee A_Table_init = true := by kernel_rfl
theorem f_Table_Offset : (tL.st W).callee A_Table_Offset = true := by kernel_rfl
theorem f_Table_Get : (tL.st W).callee A_Table_Get = true := by kernel_rfl
theorem f_Table_GetSlot : (tL.st W).callee A_Table_GetSlot = true := by kernel_rfl
theorem f_law_flags : (tL.st W).callee A_law_flags = true := by kernel_rfl
theorem f_law_laid : (tL.st W).callee A_law_laid = true := by kernel_rfl
theorem f_law_good : (tL.st W).callee A_law_good = true := by kernel_rfl
theorem f_law : (tL.st W).callee A_law = true := by kernel_rfl
theorem f_Builder : (tL.st W).callee A_Builder = true := by kernel_rfl
theorem f_Table : (tL.st W).callee A_Table = true := by kernel_rfl
end Mine
section X3
set_option maxHeartbeats 4000000
namespace Mine
open PySem PySem.W PySem.Calls PyProof.Rows

theorem tk1 (P : Params) : tL.globs.all (fun p => globOk (K03 P) p.1 p.2) = true := by kernel_rfl
theorem tk2 (P : Params) : tL.bltns.all (fun p => bltnOk (K03 P) p.1 p.2) = true := by kernel_rfl
theorem tk3 (P : Params) : tL.slots.all (fun p => slotOk (K03 P) p.1.1 p.1.2 p.2) = true := by kernel_rfl
theorem tk4 (P : Params) : tL.cattrs.all (fun p => cattrOk (K03 P) p.1.1 p.1.2 p.2) = true := by kernel_rfl
theorem tk5 (P : Params) : tL.meths.all (fun p => methOk (K03 P) p.1.1 p.1.2 p.2) = true := by kernel_rfl
theorem tk6 (P : Params) : tL.structs.all (fun p => structOk (K03 P) p.1 p.2.1 p.2.2) = true := by kernel_rfl
theorem tk7 (P : Params) : tL.callees.all (calleeOk (K03 P)) = true := by kernel_rfl
theorem tk8 (P : Params) : noNames.all (freeOk (K03 P)) = true := by kernel_rfl
theorem fd_enforce_number (P : Params) : fdOk (K03 P) 167 = true := by kernel_rfl
theorem x_enforce_number (P : Params) : textOk (K03 P) 167 L_enforce_number ["n", "flags"] B_enforce_number = true := by kernel_rfl
theorem p_enforce_number (P : Params) : ∀ vals : List Value, vals.length = 2 → ∀ S : Setting, peek (K03 P) S (bindArgs (fdOf (K03 P) 167) ⟨vals, []⟩) = some ((["n", "flags"] : List Str).zip vals)
  | [v0, v1], _, S => by kernel_rfl
theorem fd_Get (P : Params) : fdOk (K03 P) 174 = true := by kernel_rfl
theorem x_Get (P : Params) : textOk (K03 P) 174 L_Get ["packer_type", "buf", "head"] B_Get = true := by kernel_rfl
theorem p_Get (P : Params) : ∀ vals : List Value, vals.length = 3 → ∀ S : Setting, peek (K03 P) S (bindArgs (fdOf (K03 P) 174) ⟨vals, []⟩) = some ((["packer_type", "buf", "head"] : List Str).zip vals)
  | [v0, v1, v2], _, S => by kernel_rfl
theorem fd_Write (P : Params) : fdOk (K03 P) 181 = true := by kernel_rfl
theorem x_Write (P : Params) : textOk (K03 P) 181 L_Write ["packer_type", "buf", "head", "n"] B_Write = true := by kernel_rfl
theorem p_Write (P : Params) : ∀ vals : List Value, vals.length = 4 → ∀ S : Setting, peek (K03 P) S (bindArgs (fdOf (K03 P) 181) ⟨vals, []⟩) = some ((["packer_type", "buf", "head", "n"] : List Str).zip vals)
  | [v0, v1, v2, v3], _, S => by kernel_rfl
theorem fd_Builder_init (P : Params) : fdOk (K03 P) 262 = true := by kernel_rfl
theorem x_Builder_init (P : Params) : textOk (K03 P) 262 L_Builder_init ["self", "initialSize"] B_Builder_init = true := by kernel_rfl
theorem p_Builder_init (P : Params) : ∀ vals : List Value, vals.length = 2 → ∀ S : Setting, peek (K03 P) S (bindArgs (fdOf (K03 P) 262) ⟨vals, []⟩) = some ((["self", "initialSize"] : List Str).zip vals)
  | [v0, v1], _, S => by kernel_rfl
theorem fd_Builder_Output (P : Params) : fdOk (K03 P) 276 = true := by kernel_rfl
theorem x_Builder_Output (P : Params) : textOk (K03 P) 276 L_Builder_Output ["self"] B_Builder_Output = true := by kernel_rfl
theorem p_Builder_Output (P : Params) : ∀ vals : List Value, vals.length = 1 → ∀ S : Setting, peek (K03 P) S (bindArgs (fdOf (K03 P) 276) ⟨vals, []⟩) = some ((["self"] : List Str).zip vals)
  | [v0], _, S => by kernel_rfl
theorem fd_Builder_StartObject (P : Params) : fdOk (K03 P) 283 = true := by kernel_rfl
theorem x_Builder_StartObject (P : Params) : textOk (K03 P) 283 L_Builder_StartObject ["self", "numfields"] B_Builder_StartObject = true := by kernel_rfl
theorem p_Builder_StartObject (P : Params) : ∀ vals : List Value, vals.length = 2 → ∀ S : Setting, peek (K03 P) S (bindArgs (fdOf (K03 P) 283) ⟨vals, []⟩) = some ((["self", "numfields"] : List Str).zip vals)
  | [v0, v1], _, S => by kernel_rfl
theorem fd_Builder_WriteVtable (P : Params) : fdOk (K03 P) 290 = true := by kernel_rfl
theorem x_Builder_WriteVtable (P : Params) : textOk (K03 P) 290 L_Builder_WriteVtable ["self"] B_Builder_WriteVtable = true := by kernel_rfl
theorem p_Builder_WriteVtable (P : Params) : ∀ vals : List Value, vals.length = 1 → ∀ S : Setting, peek (K03 P) S (bindArgs (fdOf (K03 P) 290) ⟨vals, []⟩) = some ((["self"] : List Str).zip vals)
  | [v0], _, S => by kernel_rfl
theorem fd_Builder_EndObject (P : Params) : fdOk (K03 P) 297 = true := by kernel_rfl
theorem x_Builder_EndObject (P : Params) : textOk (K03 P) 297 L_Builder_EndObject ["self"] B_Builder_EndObject = true := by kernel_rfl
theorem p_Builder_EndObject (P : Params) : ∀ vals : List Value, vals.length = 1 → ∀ S : Setting, peek (K03 P) S (bindArgs (fdOf (K03 P) 297) ⟨vals, []⟩) = some ((["self"] : List Str).zip vals)
  | [v0], _, S => by kernel_rfl
theorem fd_Builder_GrowByteBuffer (P : Params) : fdOk (K03 P) 304 = true := by kernel_rfl
theorem x_Builder_GrowByteBuffer (P : Params) : textOk (K03 P) 304 L_Builder_GrowByteBuffer ["self"] B_Builder_GrowByteBuffer = true := by kernel_rfl
theorem p_Builder_GrowByteBuffer (P : Params) : ∀ vals : List Value, vals.length = 1 → ∀ S : Setting, peek (K03 P) S (bindArgs (fdOf (K03 P) 304) ⟨vals, []⟩) = some ((["self"] : List Str).zip vals)
  | [v0], _, S => by kernel_rfl
theorem fd_Builder_Head (P : Params) : fdOk (K03 P) 311 = true := by kernel_rfl
theorem x_Builder_Head (P : Params) : textOk (K03 P) 311 L_Builder_Head ["self"] B_Builder_Head = true := by kernel_rfl
theorem p_Builder_Head (P : Params) : ∀ vals : List Value, vals.length = 1 → ∀ S : Setting, peek (K03 P) S (bindArgs (fdOf (K03 P) 311) ⟨vals, []⟩) = some ((["self"] : List Str).zip vals)
  | [v0], _, S => by kernel_rfl
theorem fd_Builder_Offset (P : Params) : fdOk (K03 P) 318 = true := by kernel_rfl
theorem x_Builder_Offset (P : Params) : textOk (K03 P) 318 L_Builder_Offset ["self"] B_Builder_Offset = true := by kernel_rfl
theorem p_Builder_Offset (P : Params) : ∀ vals : List Value, vals.length = 1 → ∀ S : Setting, peek (K03 P) S (bindArgs (fdOf (K03 P) 318) ⟨vals, []⟩) = some ((["self"] : List Str).zip vals)
  | [v0], _, S => by kernel_rfl
theorem fd_Builder_Pad (P : Params) : fdOk (K03 P) 325 = true := by kernel_rfl
theorem x_Builder_Pad (P : Params) : textOk (K03 P) 325 L_Builder_Pad ["self", "n"] B_Builder_Pad = true := by kernel_rfl
theorem p_Builder_Pad (P : Params) : ∀ vals : List Value, vals.length = 2 → ∀ S : Setting, peek (K03 P) S (bindArgs (fdOf (K03 P) 325) ⟨vals, []⟩) = some ((["self", "n"] : List Str).zip vals)
  | [v0, v1], _, S => by kernel_rfl
theorem fd_Builder_Prep (P : Params) : fdOk (K03 P) 332 = true := by kernel_rfl
theorem x_Builder_Prep (P : Params) : textOk (K03 P) 332 L_Builder_Prep ["self", "size", "additionalBytes"] B_Builder_Prep = true := by kernel_rfl
theorem p_Builder_Prep (P : Params) : ∀ vals : List Value, vals.length = 3 → ∀ S : Setting, peek (K03 P) S (bindArgs (fdOf (K03 P) 332) ⟨vals, []⟩) = some ((["self", "size", "additionalBytes"] : List Str).zip vals)
  | [v0, v1, v2], _, S => by kernel_rfl
theorem fd_Builder_PrependSOffsetTRelative (P : Params) : fdOk (K03 P) 339 = true := by kernel_rfl
theorem x_Builder_PrependSOffsetTRelative (P : Params) : textOk (K03 P) 339 L_Builder_PrependSOffsetTRelative ["self", "off"] B_Builder_PrependSOffsetTRelative = true := by kernel_rfl
theorem p_Builder_PrependSOffsetTRelative (P : Params) : ∀ vals : List Value, vals.length = 2 → ∀ S : Setting, peek (K03 P) S (bindArgs (fdOf (K03 P) 339) ⟨vals, []⟩) = some ((["self", "off"] : List Str).zip vals)
  | [v0, v1], _, S => by kernel_rfl
theorem fd_Builder_PrependUOffsetTRelative (P : Params) : fdOk (K03 P) 346 = true := by kernel_rfl
theorem x_Builder_PrependUOffsetTRelative (P : Params) : textOk (K03 P) 346 L_Builder_PrependUOffsetTRelative ["self", "off"] B_Builder_PrependUOffsetTRelative = true := by kernel_rfl
theorem p_Builder_PrependUOffsetTRelative (P : Params) : ∀ vals : List Value, vals.length = 2 → ∀ S : Setting, peek (K03 P) S (bindArgs (fdOf (K03 P) 346) ⟨vals, []⟩) = some ((["self", "off"] : List Str).zip vals)
  | [v0, v1], _, S => by kernel_rfl
theorem fd_Builder_assertNested (P : Params) : fdOk (K03 P) 389 = true := by kernel_rfl
theorem x_Builder_assertNested (P : Params) : textOk (K03 P) 389 L_Builder_assertNested ["self"] B_Builder_assertNested = true := by kernel_rfl
theorem p_Builder_assertNested (P : Params) : ∀ vals : List Value, vals.length = 1 → ∀ S : Setting, peek (K03 P) S (bindArgs (fdOf (K03 P) 389) ⟨vals, []⟩) = some ((["self"] : List Str).zip vals)
  | [v0], _, S => by kernel_rfl
theorem fd_Builder_assertNotNested (P : Params) : fdOk (K03 P) 396 = true := by kernel_rfl
theorem x_Builder_assertNotNested (P : Params) : textOk (K03 P) 396 L_Builder_assertNotNested ["self"] B_Builder_assertNotNested = true := by kernel_rfl
theorem p_Builder_assertNotNested (P : Params) : ∀ vals : List Value, vals.length = 1 → ∀ S : Setting, peek (K03 P) S (bindArgs (fdOf (K03 P) 396) ⟨vals, []⟩) = some ((["self"] : List Str).zip vals)
  | [v0], _, S => by kernel_rfl
theorem fd_Builder_Slot (P : Params) : fdOk (K03 P) 410 = true := by kernel_rfl
theorem x_Builder_Slot (P : Params) : textOk (K03 P) 410 L_Builder_Slot ["self", "slotnum"] B_Builder_Slot = true := by kernel_rfl
theorem p_Builder_Slot (P : Params) : ∀ vals : List Value, vals.length = 2 → ∀ S : Setting, peek (K03 P) S (bindArgs (fdOf (K03 P) 410) ⟨vals, []⟩) = some ((["self", "slotnum"] : List Str).zip vals)
  | [v0, v1], _, S => by kernel_rfl
theorem fd_Builder_zFinish (P : Params) : fdOk (K03 P) 418 = true := by kernel_rfl
theorem x_Builder_zFinish (P : Params) : textOk (K03 P) 418 L_Builder_zFinish ["self", "rootTable", "sizePrefix", "file_identifier"] B_Builder_zFinish = true := by kernel_rfl
theorem p_Builder_zFinish (P : Params) : ∀ vals : List Value, vals.length = 4 → ∀ S : Setting, peek (K03 P) S (bindArgs (fdOf (K03 P) 418) ⟨vals, []⟩) = some ((["self", "rootTable", "sizePrefix", "file_identifier"] : List Str).zip vals)
  | [v0, v1, v2, v3], _, S => by kernel_rfl
theorem fd_Builder_Finish (P : Params) : fdOk (K03 P) 426 = true := by kernel_rfl
theorem x_Builder_Finish (P : Params) : textOk (K03 P) 426 L_Builder_Finish ["self", "rootTable", "file_identifier"] B_Builder_Finish = true := by kernel_rfl
theorem p_Builder_Finish (P : Params) : ∀ vals : List Value, vals.length = 3 → ∀ S : Setting, peek (K03 P) S (bindArgs (fdOf (K03 P) 426) ⟨vals, []⟩) = some ((["self", "rootTable", "file_identifier"] : List Str).zip vals)
  | [v0, v1, v2], _, S => by kernel_rfl
theorem fd_Builder_FinishSizePrefixed (P : Params) : fdOk (K03 P) 434 = true := by kernel_rfl
theorem x_Builder_FinishSizePrefixed (P : Params) : textOk (K03 P) 434 L_Builder_FinishSizePrefixed ["self", "rootTable", "file_identifier"] B_Builder_FinishSizePrefixed = true := by kernel_rfl
theorem p_Builder_FinishSizePrefixed (P : Params) : ∀ vals : List Value, vals.length = 3 → ∀ S : Setting, peek (K03 P) S (bindArgs (fdOf (K03 P) 434) ⟨vals, []⟩) = some ((["self", "rootTable", "file_identifier"] : List Str).zip vals)
  | [v0, v1, v2], _, S => by kernel_rfl
theorem fd_Builder_Prepend (P : Params) : fdOk (K03 P) 441 = true := by kernel_rfl
theorem x_Builder_Prepend (P : Params) : textOk (K03 P) 441 L_Builder_Prepend ["self", "flags", "off"] B_Builder_Prepend = true := by kernel_rfl
theorem p_Builder_Prepend (P : Params) : ∀ vals : List Value, vals.length = 3 → ∀ S : Setting, peek (K03 P) S (bindArgs (fdOf (K03 P) 441) ⟨vals, []⟩) = some ((["self", "flags", "off"] : List Str).zip vals)
  | [v0, v1, v2], _, S => by kernel_rfl
theorem fd_Builder_PrependSlot (P : Params) : fdOk (K03 P) 448 = true := by kernel_rfl
theorem x_Builder_PrependSlot (P : Params) : textOk (K03 P) 448 L_Builder_PrependSlot ["self", "flags", "o", "x", "d"] B_Builder_PrependSlot = true := by kernel_rfl
theorem p_Builder_PrependSlot (P : Params) : ∀ vals : List Value, vals.length = 5 → ∀ S : Setting, peek (K03 P) S (bindArgs (fdOf (K03 P) 448) ⟨vals, []⟩) = some ((["self", "flags", "o", "x", "d"] : List Str).zip vals)
  | [v0, v1, v2, v3, v4], _, S => by kernel_rfl
theorem fd_Builder_PrependUint8Slot (P : Params) : fdOk (K03 P) 469 = true := by kernel_rfl
theorem x_Builder_PrependUint8Slot (P : Params) : textOk (K03 P) 469 L_Builder_PrependUint8Slot ["self", "args"] B_Builder_PrependUint8Slot = true := by kernel_rfl
theorem fd_Builder_PrependUint16Slot (P : Params) : fdOk (K03 P) 476 = true := by kernel_rfl
theorem x_Builder_PrependUint16Slot (P : Params) : textOk (K03 P) 476 L_Builder_PrependUint16Slot ["self", "args"] B_Builder_PrependUint16Slot = true := by kernel_rfl
theorem fd_Builder_PrependUint32Slot (P : Params) : fdOk (K03 P) 483 = true := by kernel_rfl
theorem x_Builder_PrependUint32Slot (P : Params) : textOk (K03 P) 483 L_Builder_PrependUint32Slot ["self", "args"] B_Builder_PrependUint32Slot = true := by kernel_rfl
theorem fd_Builder_PrependUint64Slot (P : Params) : fdOk (K03 P) 490 = true := by kernel_rfl
theorem x_Builder_PrependUint64Slot (P : Params) : textOk (K03 P) 490 L_Builder_PrependUint64Slot ["self", "args"] B_Builder_PrependUint64Slot = true := by kernel_rfl
theorem fd_Builder_PrependInt32 (P : Params) : fdOk (K03 P) 595 = true := by kernel_rfl
theorem x_Builder_PrependInt32 (P : Params) : textOk (K03 P) 595 L_Builder_PrependInt32 ["self", "x"] B_Builder_PrependInt32 = true := by kernel_rfl
theorem p_Builder_PrependInt32 (P : Params) : ∀ vals : List Value, vals.length = 2 → ∀ S : Setting, peek (K03 P) S (bindArgs (fdOf (K03 P) 595) ⟨vals, []⟩) = some ((["self", "x"] : List Str).zip vals)
  | [v0, v1], _, S => by kernel_rfl
theorem fd_Builder_PrependVOffsetT (P : Params) : fdOk (K03 P) 616 = true := by kernel_rfl
theorem x_Builder_PrependVOffsetT (P : Params) : textOk (K03 P) 616 L_Builder_PrependVOffsetT ["self", "x"] B_Builder_PrependVOffsetT = true := by kernel_rfl
theorem p_Builder_PrependVOffsetT (P : Params) : ∀ vals : List Value, vals.length = 2 → ∀ S : Setting, peek (K03 P) S (bindArgs (fdOf (K03 P) 616) ⟨vals, []⟩) = some ((["self", "x"] : List Str).zip vals)
  | [v0, v1], _, S => by kernel_rfl
theorem fd_Builder_Place (P : Params) : fdOk (K03 P) 623 = true := by kernel_rfl
theorem x_Builder_Place (P : Params) : textOk (K03 P) 623 L_Builder_Place ["self", "x", "flags"] B_Builder_Place = true := by kernel_rfl
theorem p_Builder_Place (P : Params) : ∀ vals : List Value, vals.length = 3 → ∀ S : Setting, peek (K03 P) S (bindArgs (fdOf (K03 P) 623) ⟨vals, []⟩) = some ((["self", "x", "flags"] : List Str).zip vals)
  | [v0, v1, v2], _, S => by kernel_rfl
theorem fd_Builder_PlaceSOffsetT (P : Params) : fdOk (K03 P) 637 = true := by kernel_rfl
theorem x_Builder_PlaceSOffsetT (P : Params) : textOk (K03 P) 637 L_Builder_PlaceSOffsetT ["self", "x"] B_Builder_PlaceSOffsetT = true := by kernel_rfl
theorem p_Builder_PlaceSOffsetT (P : Params) : ∀ vals : List Value, vals.length = 2 → ∀ S : Setting, peek (K03 P) S (bindArgs (fdOf (K03 P) 637) ⟨vals, []⟩) = some ((["self", "x"] : List Str).zip vals)
  | [v0, v1], _, S => by kernel_rfl
theorem fd_Builder_PlaceUOffsetT (P : Params) : fdOk (K03 P) 644 = true := by kernel_rfl
theorem x_Builder_PlaceUOffsetT (P : Params) : textOk (K03 P) 644 L_Builder_PlaceUOffsetT ["self", "x"] B_Builder_PlaceUOffsetT = true := by kernel_rfl
theorem p_Builder_PlaceUOffsetT (P : Params) : ∀ vals : List Value, vals.length = 2 → ∀ S : Setting, peek (K03 P) S (bindArgs (fdOf (K03 P) 644) ⟨vals, []⟩) = some ((["self", "x"] : List Str).zip vals)
  | [v0, v1], _, S => by kernel_rfl
theorem fd_Table_init (P : Params) : fdOk (K03 P) 676 = true := by kernel_rfl
theorem x_Table_init (P : Params) : textOk (K03 P) 676 L_Table_init ["self", "buf", "pos"] B_Table_init = true := by kernel_rfl
theorem p_Table_init (P : Params) : ∀ vals : List Value, vals.length = 3 → ∀ S : Setting, peek (K03 P) S (bindArgs (fdOf (K03 P) 676) ⟨vals, []⟩) = some ((["self", "buf", "pos"] : List Str).zip vals)
  | [v0, v1, v2], _, S => by kernel_rfl
theorem fd_Table_Offset (P : Params) : fdOk (K03 P) 683 = true := by kernel_rfl
theorem x_Table_Offset (P : Params) : textOk (K03 P) 683 L_Table_Offset ["self", "vtableOffset"] B_Table_Offset = true := by kernel_rfl
theorem p_Table_Offset (P : Params) : ∀ vals : List Value, vals.length = 2 → ∀ S : Setting, peek (K03 P) S (bindArgs (fdOf (K03 P) 683) ⟨vals, []⟩) = some ((["self", "vtableOffset"] : List Str).zip vals)
  | [v0, v1], _, S => by kernel_rfl
theorem fd_Table_Get (P : Params) : fdOk (K03 P) 725 = true := by kernel_rfl
theorem x_Table_Get (P : Params) : textOk (K03 P) 725 L_Table_Get ["self", "flags", "off"] B_Table_Get = true := by kernel_rfl
theorem p_Table_Get (P : Params) : ∀ vals : List Value, vals.length = 3 → ∀ S : Setting, peek (K03 P) S (bindArgs (fdOf (K03 P) 725) ⟨vals, []⟩) = some ((["self", "flags", "off"] : List Str).zip vals)
  | [v0, v1, v2], _, S => by kernel_rfl
theorem fd_Table_GetSlot (P : Params) : fdOk (K03 P) 732 = true := by kernel_rfl
theorem x_Table_GetSlot (P : Params) : textOk (K03 P) 732 L_Table_GetSlot ["self", "slot", "d", "validator_flags"] B_Table_GetSlot = true := by kernel_rfl
theorem p_Table_GetSlot (P : Params) : ∀ vals : List Value, vals.length = 4 → ∀ S : Setting, peek (K03 P) S (bindArgs (fdOf (K03 P) 732) ⟨vals, []⟩) = some ((["self", "slot", "d", "validator_flags"] : List Str).zip vals)
  | [v0, v1, v2, v3], _, S => by kernel_rfl
theorem fd_law_flags (P : Params) : fdOk (K03 P) 754 = true := by kernel_rfl
theorem x_law_flags (P : Params) : textOk (K03 P) 754 L_law_flags ["width"] B_law_flags = true := by kernel_rfl
theorem p_law_flags (P : Params) : ∀ vals : List Value, vals.length = 1 → ∀ S : Setting, peek (K03 P) S (bindArgs (fdOf (K03 P) 754) ⟨vals, []⟩) = some ((["width"] : List Str).zip vals)
  | [v0], _, S => by kernel_rfl
theorem fd_law_laid (P : Params) : fdOk (K03 P) 761 = true := by kernel_rfl
theorem x_law_laid (P : Params) : textOk (K03 P) 761 L_law_laid ["widths", "values", "order", "size", "sized"] B_law_laid = true := by kernel_rfl
theorem p_law_laid (P : Params) : ∀ vals : List Value, vals.length = 5 → ∀ S : Setting, peek (K03 P) S (bindArgs (fdOf (K03 P) 761) ⟨vals, []⟩) = some ((["widths", "values", "order", "size", "sized"] : List Str).zip vals)
  | [v0, v1, v2, v3, v4], _, S => by kernel_rfl
theorem fd_law_good (P : Params) : fdOk (K03 P) 768 = true := by kernel_rfl
theorem x_law_good (P : Params) : textOk (K03 P) 768 L_law_good ["octets", "widths", "values", "sized"] B_law_good = true := by kernel_rfl
theorem p_law_good (P : Params) : ∀ vals : List Value, vals.length = 4 → ∀ S : Setting, peek (K03 P) S (bindArgs (fdOf (K03 P) 768) ⟨vals, []⟩) = some ((["octets", "widths", "values", "sized"] : List Str).zip vals)
  | [v0, v1, v2, v3], _, S => by kernel_rfl
theorem fd_law (P : Params) : fdOk (K03 P) 773 = true := by kernel_rfl
theorem x_law (P : Params) : textOk (K03 P) 773 L_law ["script"] B_law = true := by kernel_rfl
theorem p_law (P : Params) : ∀ vals : List Value, vals.length = 1 → ∀ S : Setting, peek (K03 P) S (bindArgs (fdOf (K03 P) 773) ⟨vals, []⟩) = some ((["script"] : List Str).zip vals)
  | [v0], _, S => by kernel_rfl
theorem b_Builder_zFinish (P : Params) (v0 v1 v2 v3 : Value) (S : Setting) : peek (K03 P) S (bindArgs (fdOf (K03 P) 418) ⟨[v0, v1, v2], [("file_identifier", v3)]⟩) = some ((["self", "rootTable", "sizePrefix", "file_identifier"] : List Str).zip [v0, v1, v2, v3]) := by kernel_rfl
theorem b_Builder_Finish (P : Params) (v0 v1 : Value) (S : Setting) : peek (K03 P) S (bindArgs (fdOf (K03 P) 426) ⟨[v0, v1], []⟩) = some ((["self", "rootTable", "file_identifier"] : List Str).zip [v0, v1, .none]) := by kernel_rfl
theorem b_Builder_FinishSizePrefixed (P : Params) (v0 v1 : Value) (S : Setting) : peek (K03 P) S (bindArgs (fdOf (K03 P) 434) ⟨[v0, v1], []⟩) = some ((["self", "rootTable", "file_identifier"] : List Str).zip [v0, v1, .none]) := by kernel_rfl
theorem b_Builder_PrependUint8Slot (P : Params) (v0 v1 v2 v3 : Value) : bindArgs (fdOf (K03 P) 469) ⟨[v0, v1, v2, v3], []⟩ = (newTuple [v1, v2, v3] >>= fun t => pure ([(("self" : Str), v0), (("args" : Str), t)] : List (Str × Value))) := by kernel_rfl
theorem b_Builder_PrependUint16Slot (P : Params) (v0 v1 v2 v3 : Value) : bindArgs (fdOf (K03 P) 476) ⟨[v0, v1, v2, v3], []⟩ = (newTuple [v1, v2, v3] >>= fun t => pure ([(("self" : Str), v0), (("args" : Str), t)] : List (Str × Value))) := by kernel_rfl
theorem b_Builder_PrependUint32Slot (P : Params) (v0 v1 v2 v3 : Value) : bindArgs (fdOf (K03 P) 483) ⟨[v0, v1, v2, v3], []⟩ = (newTuple [v1, v2, v3] >>= fun t => pure ([(("self" : Str), v0), (("args" : Str), t)] : List (Str × Value))) := by kernel_rfl
theorem b_Builder_PrependUint64Slot (P : Params) (v0 v1 v2 v3 : Value) : bindArgs (fdOf (K03 P) 490) ⟨[v0, v1, v2, v3], []⟩ = (newTuple [v1, v2, v3] >>= fun t => pure ([(("self" : Str), v0), (("args" : Str), t)] : List (Str × Value))) := by kernel_rfl
theorem mk_Builder (P : Params) : makesIn (K03 P) 648 = true := by kernel_rfl
theorem mi_Builder (P : Params) : findIn (K03 P) (.ref 648) "__init__" = some (some (.ref 262)) := by kernel_rfl
theorem mf_Builder (P : Params) : typeIn (K03 P) (.ref 262) = some (.type "function") := by kernel_rfl
theorem mk_Table (P : Params) : makesIn (K03 P) 743 = true := by kernel_rfl
theorem mi_Table (P : Params) : findIn (K03 P) (.ref 743) "__init__" = some (some (.ref 676)) := by kernel_rfl
theorem mf_Table (P : Params) : typeIn (K03 P) (.ref 676) = some (.type "function") := by kernel_rfl
theorem prog_of {W : Wd} (h : W.K = K03 W.w.params) : ProgL W where
  tab := by rw [h]; exact ⟨tk1 _, tk2 _, tk3 _, tk4 _, tk5 _, tk6 _, tk7 _, tk8 _⟩
  enforce_number := { fd := by rw [h]; exact fd_enforce_number _, text := by rw [h]; exact x_enforce_number _, bind := bindPos rfl (by rw [h]; exact p_enforce_number _) }
  Get := { fd := by rw [h]; exact fd_Get _, text := by rw [h]; exact x_Get _, bind := bindPos rfl (by rw [h]; exact p_Get _) }
  Write := { fd := by rw [h]; exact fd_Write _, text := by rw [h]; exact x_Write _, bind := bindPos rfl (by rw [h]; exact p_Write _) }
  Builder_init := { fd := by rw [h]; exact fd_Builder_init _, text := by rw [h]; exact x_Builder_init _, bind := bindPos rfl (by rw [h]; exact p_Builder_init _) }
  Builder_Output := { fd := by rw [h]; exact fd_Builder_Output _, text := by rw [h]; exact x_Builder_Output _, bind := bindPos rfl (by rw [h]; exact p_Builder_Output _) }
  Builder_StartObject := { fd := by rw [h]; exact fd_Builder_StartObject _, text := by rw [h]; exact x_Builder_StartObject _, bind := bindPos rfl (by rw [h]; exact p_Builder_StartObject _) }
  Builder_WriteVtable := { fd := by rw [h]; exact fd_Builder_WriteVtable _, text := by rw [h]; exact x_Builder_WriteVtable _, bind := bindPos rfl (by rw [h]; exact p_Builder_WriteVtable _) }
  Builder_EndObject := { fd := by rw [h]; exact fd_Builder_EndObject _, text := by rw [h]; exact x_Builder_EndObject _, bind := bindPos rfl (by rw [h]; exact p_Builder_EndObject _) }
  Builder_GrowByteBuffer := { fd := by rw [h]; exact fd_Builder_GrowByteBuffer _, text := by rw [h]; exact x_Builder_GrowByteBuffer _, bind := bindPos rfl (by rw [h]; exact p_Builder_GrowByteBuffer _) }
  Builder_Head := { fd := by rw [h]; exact fd_Builder_Head _, text := by rw [h]; exact x_Builder_Head _, bind := bindPos rfl (by rw [h]; exact p_Builder_Head _) }
  Builder_Offset := { fd := by rw [h]; exact fd_Builder_Offset _, text := by rw [h]; exact x_Builder_Offset _, bind := bindPos rfl (by rw [h]; exact p_Builder_Offset _) }
  Builder_Pad := { fd := by rw [h]; exact fd_Builder_Pad _, text := by rw [h]; exact x_Builder_Pad _, bind := bindPos rfl (by rw [h]; exact p_Builder_Pad _) }
  Builder_Prep := { fd := by rw [h]; exact fd_Builder_Prep _, text := by rw [h]; exact x_Builder_Prep _, bind := bindPos rfl (by rw [h]; exact p_Builder_Prep _) }
  Builder_PrependSOffsetTRelative := { fd := by rw [h]; exact fd_Builder_PrependSOffsetTRelative _, text := by rw [h]; exact x_Builder_PrependSOffsetTRelative _, bind := bindPos rfl (by rw [h]; exact p_Builder_PrependSOffsetTRelative _) }
  Builder_PrependUOffsetTRelative := { fd := by rw [h]; exact fd_Builder_PrependUOffsetTRelative _, text := by rw [h]; exact x_Builder_PrependUOffsetTRelative _, bind := bindPos rfl (by rw [h]; exact p_Builder_PrependUOffsetTRelative _) }
  Builder_assertNested := { fd := by rw [h]; exact fd_Builder_assertNested _, text := by rw [h]; exact x_Builder_assertNested _, bind := bindPos rfl (by rw [h]; exact p_Builder_assertNested _) }
  Builder_assertNotNested := { fd := by rw [h]; exact fd_Builder_assertNotNested _, text := by rw [h]; exact x_Builder_assertNotNested _, bind := bindPos rfl (by rw [h]; exact p_Builder_assertNotNested _) }
  Builder_Slot := { fd := by rw [h]; exact fd_Builder_Slot _, text := by rw [h]; exact x_Builder_Slot _, bind := bindPos rfl (by rw [h]; exact p_Builder_Slot _) }
  Builder_zFinish := { fd := by rw [h]; exact fd_Builder_zFinish _, text := by rw [h]; exact x_Builder_zFinish _, bind := bindKw3 (by rw [h]; exact b_Builder_zFinish _) }
  Builder_Finish := { fd := by rw [h]; exact fd_Builder_Finish _, text := by rw [h]; exact x_Builder_Finish _, bind := bindNone2 (by rw [h]; exact b_Builder_Finish _) }
  Builder_FinishSizePrefixed := { fd := by rw [h]; exact fd_Builder_FinishSizePrefixed _, text := by rw [h]; exact x_Builder_FinishSizePrefixed _, bind := bindNone2 (by rw [h]; exact b_Builder_FinishSizePrefixed _) }
  Builder_Prepend := { fd := by rw [h]; exact fd_Builder_Prepend _, text := by rw [h]; exact x_Builder_Prepend _, bind := bindPos rfl (by rw [h]; exact p_Builder_Prepend _) }
  Builder_PrependSlot := { fd := by rw [h]; exact fd_Builder_PrependSlot _, text := by rw [h]; exact x_Builder_PrependSlot _, bind := bindPos rfl (by rw [h]; exact p_Builder_PrependSlot _) }
  Builder_PrependUint8Slot := { fd := by rw [h]; exact fd_Builder_PrependUint8Slot _, text := by rw [h]; exact x_Builder_PrependUint8Slot _, bind := bindStar (by rw [h]; exact b_Builder_PrependUint8Slot _) }
  Builder_PrependUint16Slot := { fd := by rw [h]; exact fd_Builder_PrependUint16Slot _, text := by rw [h]; exact x_Builder_PrependUint16Slot _, bind := bindStar (by rw [h]; exact b_Builder_PrependUint16Slot _) }
  Builder_PrependUint32Slot := { fd := by rw [h]; exact fd_Builder_PrependUint32Slot _, text := by rw [h]; exact x_Builder_PrependUint32Slot _, bind := bindStar (by rw [h]; exact b_Builder_PrependUint32Slot _) }
  Builder_PrependUint64Slot := { fd := by rw [h]; exact fd_Builder_PrependUint64Slot _, text := by rw [h]; exact x_Builder_PrependUint64Slot _, bind := bindStar (by rw [h]; exact b_Builder_PrependUint64Slot _) }
  Builder_PrependInt32 := { fd := by rw [h]; exact fd_Builder_PrependInt32 _, text := by rw [h]; exact x_Builder_PrependInt32 _, bind := bindPos rfl (by rw [h]; exact p_Builder_PrependInt32 _) }
  Builder_PrependVOffsetT := { fd := by rw [h]; exact fd_Builder_PrependVOffsetT _, text := by rw [h]; exact x_Builder_PrependVOffsetT _, bind := bindPos rfl (by rw [h]; exact p_Builder_PrependVOffsetT _) }
  Builder_Place := { fd := by rw [h]; exact fd_Builder_Place _, text := by rw [h]; exact x_Builder_Place _, bind := bindPos rfl (by rw [h]; exact p_Builder_Place _) }
  Builder_PlaceSOffsetT := { fd := by rw [h]; exact fd_Builder_PlaceSOffsetT _, text := by rw [h]; exact x_Builder_PlaceSOffsetT _, bind := bindPos rfl (by rw [h]; exact p_Builder_PlaceSOffsetT _) }
  Builder_PlaceUOffsetT := { fd := by rw [h]; exact fd_Builder_PlaceUOffsetT _, text := by rw [h]; exact x_Builder_PlaceUOffsetT _, bind := bindPos rfl (by rw [h]; exact p_Builder_PlaceUOffsetT _) }
  Table_init := { fd := by rw [h]; exact fd_Table_init _, text := by rw [h]; exact x_Table_init _, bind := bindPos rfl (by rw [h]; exact p_Table_init _) }
  Table_Offset := { fd := by rw [h]; exact fd_Table_Offset _, text := by rw [h]; exact x_Table_Offset _, bind := bindPos rfl (by rw [h]; exact p_Table_Offset _) }
  Table_Get := { fd := by rw [h]; exact fd_Table_Get _, text := by rw [h]; exact x_Table_Get _, bind := bindPos rfl (by rw [h]; exact p_Table_Get _) }
  Table_GetSlot := { fd := by rw [h]; exact fd_Table_GetSlot _, text := by rw [h]; exact x_Table_GetSlot _, bind := bindPos rfl (by rw [h]; exact p_Table_GetSlot _) }
  law_flags := { fd := by rw [h]; exact fd_law_flags _, text := by rw [h]; exact x_law_flags _, bind := bindPos rfl (by rw [h]; exact p_law_flags _) }
  law_laid := { fd := by rw [h]; exact fd_law_laid _, text := by rw [h]; exact x_law_laid _, bind := bindPos rfl (by rw [h]; exact p_law_laid _) }
  law_good := { fd := by rw [h]; exact fd_law_good _, text := by rw [h]; exact x_law_good _, bind := bindPos rfl (by rw [h]; exact p_law_good _) }
  law := { fd := by rw [h]; exact fd_law _, text := by rw [h]; exact x_law _, bind := bindPos rfl (by rw [h]; exact p_law _) }
  clsBuilder := ⟨by rw [h]; exact mk_Builder _, by rw [h]; exact mi_Builder _, by rw [h]; exact mf_Builder _⟩
  clsTable := ⟨by rw [h]; exact mk_Table _, by rw [h]; exact mi_Table _, by rw [h]; exact mf_Table _⟩
end Mine
end X3
namespace Mine
open PySem PySem.W PySem.Calls PyProof.Rows
local macro_rules | `(tactic| walk_at "row g") => `(tactic| (first
    | (with_reducible exact g_Struct)
    | (with_reducible exact g_unpack)
    | (with_reducible exact g_uint8)
    | (with_reducible exact g_uint16)
    | (with_reducible exact g_uint32)
    | (with_reducible exact g_uint64)
    | (with_reducible exact g_int32)
    | (with_reducible exact g_uoffset)
    | (with_reducible exact g_soffset)
    | (with_reducible exact g_Uint8Flags)
    | (with_reducible exact g_Uint16Flags)
    | (with_reducible exact g_Uint32Flags)
    | (with_reducible exact g_Uint64Flags)
    | (with_reducible exact g_Int32Flags)
    | (with_reducible exact g_SOffsetTFlags)
    | (with_reducible exact g_UOffsetTFlags)
    | (with_reducible exact g_VOffsetTFlags)
    | (with_reducible exact g_enforce_number)
    | (with_reducible exact g_FILE_IDENTIFIER_LENGTH)
    | (with_reducible exact g_Get)
    | (with_reducible exact g_Get_encode)
    | (with_reducible exact g_Write)
    | (with_reducible exact g_OffsetArithmeticError)
    | (with_reducible exact g_IsNotNestedError)
    | (with_reducible exact g_IsNestedError)
    | (with_reducible exact g_BuilderSizeError)
    | (with_reducible exact g_BuilderNotFinishedError)
    | (with_reducible exact g_VtableMetadataFields)
    | (with_reducible exact g_Builder)
    | (with_reducible exact g_Table)
    | (with_reducible exact g_law_flags)
    | (with_reducible exact g_law_laid)
    | (with_reducible exact g_law_good)
    | (with_reducible exact g_law)))
local macro_rules | `(tactic| walk_at "row s") => `(tactic| (first
    | (with_reducible exact s_Builder_Bytes)
    | (with_reducible exact s_Builder_current_vtable)
    | (with_reducible exact s_Builder_finished)
    | (with_reducible exact s_Builder_forceDefaults)
    | (with_reducible exact s_Builder_head)
    | (with_reducible exact s_Builder_minalign)
    | (with_reducible exact s_Builder_nested)
    | (with_reducible exact s_Builder_objectEnd)
    | (with_reducible exact s_Builder_sharedStrings)
    | (with_reducible exact s_Builder_vectorNumElems)
    | (with_reducible exact s_Builder_vtables)
    | (with_reducible exact s_Table_Bytes)
    | (with_reducible exact s_Table_Pos)))
local macro_rules | `(tactic| walk_at "row k") => `(tactic| (first
    | (with_reducible exact k_Uint8Flags_bytewidth)
    | (with_reducible exact k_Uint8Flags_min_val)
    | (with_reducible exact k_Uint8Flags_max_val)
    | (with_reducible exact k_Uint8Flags_py_type)
    | (with_reducible exact k_Uint8Flags_packer_type)
    | (with_reducible exact k_Uint16Flags_bytewidth)
    | (with_reducible exact k_Uint16Flags_min_val)
    | (with_reducible exact k_Uint16Flags_max_val)
    | (with_reducible exact k_Uint16Flags_py_type)
    | (with_reducible exact k_Uint16Flags_packer_type)
    | (with_reducible exact k_Uint32Flags_bytewidth)
    | (with_reducible exact k_Uint32Flags_min_val)
    | (with_reducible exact k_Uint32Flags_max_val)
    | (with_reducible exact k_Uint32Flags_py_type)
    | (with_reducible exact k_Uint32Flags_packer_type)
    | (with_reducible exact k_Uint64Flags_bytewidth)
    | (with_reducible exact k_Uint64Flags_min_val)
    | (with_reducible exact k_Uint64Flags_max_val)
    | (with_reducible exact k_Uint64Flags_py_type)
    | (with_reducible exact k_Uint64Flags_packer_type)
    | (with_reducible exact k_Int32Flags_bytewidth)
    | (with_reducible exact k_Int32Flags_min_val)
    | (with_reducible exact k_Int32Flags_max_val)
    | (with_reducible exact k_Int32Flags_py_type)
    | (with_reducible exact k_Int32Flags_packer_type)
    | (with_reducible exact k_SOffsetTFlags_bytewidth)
    | (with_reducible exact k_SOffsetTFlags_min_val)
    | (with_reducible exact k_SOffsetTFlags_max_val)
    | (with_reducible exact k_SOffsetTFlags_py_type)
    | (with_reducible exact k_SOffsetTFlags_packer_type)
    | (with_reducible exact k_UOffsetTFlags_bytewidth)
    | (with_reducible exact k_UOffsetTFlags_min_val)
    | (with_reducible exact k_UOffsetTFlags_max_val)
    | (with_reducible exact k_UOffsetTFlags_py_type)
    | (with_reducible exact k_UOffsetTFlags_packer_type)
    | (with_reducible exact k_VOffsetTFlags_bytewidth)
    | (with_reducible exact k_VOffsetTFlags_min_val)
    | (with_reducible exact k_VOffsetTFlags_max_val)
    | (with_reducible exact k_VOffsetTFlags_py_type)
    | (with_reducible exact k_VOffsetTFlags_packer_type)
    | (with_reducible exact k_Builder_MAX_BUFFER_SIZE)))
local macro_rules | `(tactic| walk_at "row m") => `(tactic| (first
    | (with_reducible exact m_Builder_init)
    | (with_reducible exact m_Builder_Output)
    | (with_reducible exact m_Builder_StartObject)
    | (with_reducible exact m_Builder_WriteVtable)
    | (with_reducible exact m_Builder_EndObject)
    | (with_reducible exact m_Builder_GrowByteBuffer)
    | (with_reducible exact m_Builder_Head)
    | (with_reducible exact m_Builder_Offset)
    | (with_reducible exact m_Builder_Pad)
    | (with_reducible exact m_Builder_Prep)
    | (with_reducible exact m_Builder_PrependSOffsetTRelative)
    | (with_reducible exact m_Builder_PrependUOffsetTRelative)
    | (with_reducible exact m_Builder_assertNested)
    | (with_reducible exact m_Builder_assertNotNested)
    | (with_reducible exact m_Builder_Slot)
    | (with_reducible exact m_Builder_Builder__Finish)
    | (with_reducible exact m_Builder_Finish)
    | (with_reducible exact m_Builder_FinishSizePrefixed)
    | (with_reducible exact m_Builder_Prepend)
    | (with_reducible exact m_Builder_PrependSlot)
    | (with_reducible exact m_Builder_PrependUint8Slot)
    | (with_reducible exact m_Builder_PrependUint16Slot)
    | (with_reducible exact m_Builder_PrependUint32Slot)
    | (with_reducible exact m_Builder_PrependUint64Slot)
    | (with_reducible exact m_Builder_PrependInt32)
    | (with_reducible exact m_Builder_PrependVOffsetT)
    | (with_reducible exact m_Builder_Place)
    | (with_reducible exact m_Builder_PlaceSOffsetT)
    | (with_reducible exact m_Builder_PlaceUOffsetT)
    | (with_reducible exact m_Table_init)
    | (with_reducible exact m_Table_Offset)
    | (with_reducible exact m_Table_Get)
    | (with_reducible exact m_Table_GetSlot)))
local macro_rules | `(tactic| walk_at "row u") => `(tactic| (first
    | (with_reducible exact u_uint8)
    | (with_reducible exact u_uint16)
    | (with_reducible exact u_uint32)
    | (with_reducible exact u_uint64)
    | (with_reducible exact u_int32)))
local macro_rules | `(tactic| walk_at "row f") => `(tactic| (first
    | (with_reducible exact f_enforce_number)
    | (with_reducible exact f_Get)
    | (with_reducible exact f_Write)
    | (with_reducible exact f_Builder_init)
    | (with_reducible exact f_Builder_Output)
    | (with_reducible exact f_Builder_StartObject)
    | (with_reducible exact f_Builder_WriteVtable)
    | (with_reducible exact f_Builder_EndObject)
    | (with_reducible exact f_Builder_GrowByteBuffer)
    | (with_reducible exact f_Builder_Head)
    | (with_reducible exact f_Builder_Offset)
    | (with_reducible exact f_Builder_Pad)
    | (with_reducible exact f_Builder_Prep)
    | (with_reducible exact f_Builder_PrependSOffsetTRelative)
    | (with_reducible exact f_Builder_PrependUOffsetTRelative)
    | (with_reducible exact f_Builder_assertNested)
    | (with_reducible exact f_Builder_assertNotNested)
    | (with_reducible exact f_Builder_Slot)
    | (with_reducible exact f_Builder_zFinish)
    | (with_reducible exact f_Builder_Finish)
    | (with_reducible exact f_Builder_FinishSizePrefixed)
    | (with_reducible exact f_Builder_Prepend)
    | (with_reducible exact f_Builder_PrependSlot)
    | (with_reducible exact f_Builder_PrependUint8Slot)
    | (with_reducible exact f_Builder_PrependUint16Slot)
    | (with_reducible exact f_Builder_PrependUint32Slot)
    | (with_reducible exact f_Builder_PrependUint64Slot)
    | (with_reducible exact f_Builder_PrependInt32)
    | (with_reducible exact f_Builder_PrependVOffsetT)
    | (with_reducible exact f_Builder_Place)
    | (with_reducible exact f_Builder_PlaceSOffsetT)
    | (with_reducible exact f_Builder_PlaceUOffsetT)
    | (with_reducible exact f_Table_init)
    | (with_reducible exact f_Table_Offset)
    | (with_reducible exact f_Table_Get)
    | (with_reducible exact f_Table_GetSlot)
    | (with_reducible exact f_law_flags)
    | (with_reducible exact f_law_laid)
    | (with_reducible exact f_law_good)
    | (with_reducible exact f_law)
    | (with_reducible exact f_Builder)
    | (with_reducible exact f_Table)))
local macro_rules | `(tactic| walk_at "fld") => `(tactic| first | assumption | exact updF_self | ((refine' (updF_ne ?h).trans ?_); (case h => decide); walk_at "fld"))
local macro_rules | `(tactic| walk_at "neq") => `(tactic| first | assumption | exact Ne.symm (by assumption))
local macro_rules | `(tactic| walk_at "hpx") => `(tactic| first | assumption | exact upd_self _ _ _ | ((refine' (upd_ne ?h).trans ?_); (case h => walk_at "neq"); walk_at "hpx"))
local macro_rules | `(tactic| walk_at "vc") => `(tactic| first
    | (with_reducible refine q_next ?_) | (with_reducible refine q_cont ?_) | (with_reducible refine q_ret ?_) | (with_reducible refine rk_ret ?_) | (with_reducible refine rk_next ?_)
    | (with_reducible refine s_nil ?_) | (with_reducible refine s_expr ?_) | (with_reducible refine s_asg ?_) | (with_reducible refine s_ite ?_) | (with_reducible refine s_ret ?_) | (with_reducible refine s_ret0 ?_) | (with_reducible refine s_cont ?_)
    | ((with_reducible refine' s_aug ?h ?_); (case h => rfl))
    | ((with_reducible refine' e_var ?h ?_); (case h => rfl))
    | ((with_reducible refine' e_glob ?h ?_); (case h => walk_at "row g"))
    | (with_reducible refine e_int ?_) | (with_reducible refine e_none ?_) | (with_reducible refine e_bool ?_) | (with_reducible refine e_str ?_) | (with_reducible refine e_bytes ?_)
    | (with_reducible refine e_bin ?_) | (with_reducible refine e_attr ?_) | (with_reducible refine e_bcall ?_) | (with_reducible refine es_cons ?_) | (with_reducible refine es_nil ?_)
    | (with_reducible refine e_meth0 ?_) | (with_reducible refine e_call0 ?_) | (with_reducible refine e_cmp ?_) | (with_reducible refine e_not ?_) | (with_reducible refine e_isn ?_) | (with_reducible refine e_inv ?_) | (with_reducible refine e_neg ?_)
    | (with_reducible refine e_idx ?_) | (with_reducible refine e_sl ?_) | (with_reducible refine e_ladd ?_) | (with_reducible refine e_lmul ?_) | (with_reducible refine e_bmul ?_) | (with_reducible refine e_frz ?_) | (with_reducible refine e_list ?_) | (with_reducible refine e_tup ?_) | (with_reducible refine e_dict0 ?_)
    | (with_reducible refine e_chain ?_) | (with_reducible refine e_ite ?_) | (with_reducible refine e_band ?_) | (with_reducible refine e_bor ?_) | (with_reducible refine and_cons ?_) | (with_reducible refine and_one ?_) | (with_reducible refine or_cons ?_) | (with_reducible refine or_one ?_)
    | (with_reducible refine g_var ?_) | (with_reducible refine g_attr ?_) | (with_reducible refine g_idx ?_) | (with_reducible refine g_sl ?_)
    | (with_reducible refine b_add ?_) | (with_reducible refine b_sub ?_) | (with_reducible refine b_band ?_)
    | (with_reducible refine i_ex rfl ?_)
    | (with_reducible refine c_int ?_) | ((with_reducible show callK _ _ (V.typ _) _ _ _ _ _); refine c_int ?_)
    | ((with_reducible refine c_ref ?h ?_); (case h => walk_at "row f"))
    | ((with_reducible refine' a_cls ?h ?_); (case h => walk_at "row k"))
    | ((with_reducible refine' r_cls ?h ?_); (case h => walk_at "row k"))
    | ((with_reducible refine' r_inst ?e ?h ?_); (case e => walk_at "hpx"); (case h => walk_at "row m"))
    | ((with_reducible refine' a_inst ?e ?h ?x ?y ?_); (case e => walk_at "hpx"); (case h => walk_at "row s"); (case x => walk_at "fld"); (case y => rfl))
    | ((with_reducible refine' w_attr ?e ?h ?_); (case e => walk_at "hpx"); (case h => walk_at "row s"))
    | ((with_reducible refine' b_lenA ?e ?h ?_); (case e => walk_at "hpx"); (case h => omega)))
local macro_rules | `(tactic| walk_at "go") => `(tactic| repeat (walk_at "vc"))
section D1

section
variable {W : Wd}
noncomputable abbrev TL (W : Wd) : St W := tL.st W

theorem fl_Uint8 : FlagOk (TL W) A_Uint8Flags 1 false A_uint8 := ⟨k_Uint8Flags_bytewidth, k_Uint8Flags_min_val, by rw [show hiI false 1 = 255 by decide +kernel]; exact k_Uint8Flags_max_val, k_Uint8Flags_py_type, k_Uint8Flags_packer_type, u_uint8, .inl rfl⟩
theorem fl_Uint16 : FlagOk (TL W) A_Uint16Flags 2 false A_uint16 := ⟨k_Uint16Flags_bytewidth, k_Uint16Flags_min_val, by rw [show hiI false 2 = 65535 by decide +kernel]; exact k_Uint16Flags_max_val, k_Uint16Flags_py_type, k_Uint16Flags_packer_type, u_uint16, .inr (.inl rfl)⟩
theorem fl_Uint32 : FlagOk (TL W) A_Uint32Flags 4 false A_uint32 := ⟨k_Uint32Flags_bytewidth, k_Uint32Flags_min_val, by rw [show hiI false 4 = 4294967295 by decide +kernel]; exact k_Uint32Flags_max_val, k_Uint32Flags_py_type, k_Uint32Flags_packer_type, u_uint32, .inr (.inr (.inl rfl))⟩
theorem fl_Uint64 : FlagOk (TL W) A_Uint64Flags 8 false A_uint64 := ⟨k_Uint64Flags_bytewidth, k_Uint64Flags_min_val, by rw [show hiI false 8 = 18446744073709551615 by decide +kernel]; exact k_Uint64Flags_max_val, k_Uint64Flags_py_type, k_Uint64Flags_packer_type, u_uint64, .inr (.inr (.inr rfl))⟩
theorem fl_Int32 : FlagOk (TL W) A_Int32Flags 4 true A_int32 := ⟨k_Int32Flags_bytewidth, by rw [show loI true 4 = -2147483648 by decide +kernel]; exact k_Int32Flags_min_val, by rw [show hiI true 4 = 2147483647 by decide +kernel]; exact k_Int32Flags_max_val, k_Int32Flags_py_type, k_Int32Flags_packer_type, u_int32, .inr (.inr (.inl rfl))⟩
theorem fl_SO : FlagOk (TL W) A_SOffsetTFlags 4 true A_int32 := ⟨k_SOffsetTFlags_bytewidth, by rw [show loI true 4 = -2147483648 by decide +kernel]; exact k_SOffsetTFlags_min_val, by rw [show hiI true 4 = 2147483647 by decide +kernel]; exact k_SOffsetTFlags_max_val, k_SOffsetTFlags_py_type, k_SOffsetTFlags_packer_type, u_int32, .inr (.inr (.inl rfl))⟩
theorem fl_UO : FlagOk (TL W) A_UOffsetTFlags 4 false A_uint32 := ⟨k_UOffsetTFlags_bytewidth, k_UOffsetTFlags_min_val, by rw [show hiI false 4 = 4294967295 by decide +kernel]; exact k_UOffsetTFlags_max_val, k_UOffsetTFlags_py_type, k_UOffsetTFlags_packer_type, u_uint32, .inr (.inr (.inl rfl))⟩
theorem fl_VO : FlagOk (TL W) A_VOffsetTFlags 2 false A_uint16 := ⟨k_VOffsetTFlags_bytewidth, k_VOffsetTFlags_min_val, by rw [show hiI false 2 = 65535 by decide +kernel]; exact k_VOffsetTFlags_max_val, k_VOffsetTFlags_py_type, k_VOffsetTFlags_packer_type, u_uint16, .inr (.inl rfl)⟩

variable {n : Nat} {hp : Hp} {k : K1}

theorem c_enforce (H : ProgL W) {F : Addr} {w : Nat} {sg : Bool} {sa : Addr} {x : Int} (Fl : FlagOk (TL W) F w sg sa) (hx : inR sg w x) (hn : 1 ≤ n) (h : k .none hp) : CallP W n A_enforce_number [.int x, .ref F] [] [] hp k := by
  obtain ⟨n, rfl⟩ : ∃ m, n = m + 1 := ⟨n - 1, by omega⟩
  refine H.enforce_number.call (stOk_of H.tab) rfl ?_
  unfold B_enforce_number
  walk_at "go"
  refine a_cls Fl.mn ⟨_, rfl, t_false rfl (t_false rfl ?_)⟩
  walk_at "go"
  obtain ⟨h1, h2⟩ := inR_bounds hx
  refine a_cls Fl.mn ?_
  walk_at "go"
  refine ⟨true, x_le h1, ?_⟩
  rw [if_pos rfl]
  walk_at "go"
  refine a_cls Fl.mx ⟨true, x_le h2, true, rfl, t_false rfl ?_⟩
  walk_at "go"
  exact h

theorem c_Get (H : ProgL W) {w : Nat} {sg : Bool} {sa : Addr} {v : V} {b : List UInt8} {i : Int} (st : (TL W).struct sa = some (w, sg)) (hv : v = .bytes b ∨ ∃ c, v = .ref c ∧ hp c = some (.barr b)) (hi : 0 ≤ i ∧ i.toNat + w ≤ b.length) (hb : b.length ≤ 1048576) (hn : 1 ≤ n)
    (h : k (.int (leB sg w (cut b i.toNat (i.toNat + w)))) hp) : CallP W n A_Get [.ref sa, v, .int i] [] [] hp k := by
  obtain ⟨n, rfl⟩ : ∃ m, n = m + 1 := ⟨n - 1, by omega⟩
  refine H.Get.call (stOk_of H.tab) rfl ?_
  unfold B_Get
  walk_at "go"
  refine r_unpk st ?_
  walk_at "go"
  refine c_unpk st hv hi hb ?_
  walk_at "go"
  exact ⟨_, rfl, h⟩

theorem c_Write (H : ProgL W) {w : Nat} {sg : Bool} {sa c : Addr} {b : List UInt8} {i x : Int} (st : (TL W).struct sa = some (w, sg)) (hc : hp c = some (.barr b)) (hi : 0 ≤ i ∧ i.toNat + w ≤ b.length) (hx : inR sg w x) (hb : b.length ≤ 1048576) (hn : 1 ≤ n)
    (h : k .none (hp.upd c (.barr (b.take i.toNat ++ leE w x ++ b.drop (i.toNat + w))))) : CallP W n A_Write [.ref sa, .ref c, .int i, .int x] [] [] hp k := by
  obtain ⟨n, rfl⟩ : ∃ m, n = m + 1 := ⟨n - 1, by omega⟩
  refine H.Write.call (stOk_of H.tab) rfl ?_
  unfold B_Write
  walk_at "go"
  refine r_pack st ?_
  walk_at "go"
  refine c_pack st hc hi hx hb ?_
  walk_at "go"
  exact h
end
end D1
section D2

section
variable {W : Wd} {n : Nat} {hp : Hp} {k : K1}

theorem c_Offset (H : ProgL W) {self bb : Addr} {f : Nat → Option V} {bytes : List UInt8} {head : Int} (hs : hp self = some (.inst A_Builder f)) (h0 : f 0 = some (.ref bb)) (h4 : f 4 = some (.int head)) (hb : hp bb = some (.barr bytes)) (hl : bytes.length ≤ 1048576) (hn : 1 ≤ n)
    (h : k (.int (bytes.length - head)) hp) : CallP W n A_Builder_Offset [.ref self] [] [] hp k := by
  obtain ⟨n, rfl⟩ : ∃ m, n = m + 1 := ⟨n - 1, by omega⟩
  refine H.Builder_Offset.call (stOk_of H.tab) rfl ?_
  unfold B_Builder_Offset
  walk_at "go"
  exact h

theorem c_assertNested (H : ProgL W) {self : Addr} {f : Nat → Option V} (hs : hp self = some (.inst A_Builder f)) (h6 : f 6 = some (.bool true)) (hn : 1 ≤ n) (h : k .none hp) : CallP W n A_Builder_assertNested [.ref self] [] [] hp k := by
  obtain ⟨n, rfl⟩ : ∃ m, n = m + 1 := ⟨n - 1, by omega⟩
  refine H.Builder_assertNested.call (stOk_of H.tab) rfl ?_
  unfold B_Builder_assertNested
  walk_at "go"
  refine ⟨_, rfl, t_false rfl ?_⟩
  walk_at "go"
  exact h
theorem c_assertNotNested (H : ProgL W) {self : Addr} {f : Nat → Option V} (hs : hp self = some (.inst A_Builder f)) (h6 : f 6 = some (.bool false)) (hn : 1 ≤ n) (h : k .none hp) : CallP W n A_Builder_assertNotNested [.ref self] [] [] hp k := by
  obtain ⟨n, rfl⟩ : ∃ m, n = m + 1 := ⟨n - 1, by omega⟩
  refine H.Builder_assertNotNested.call (stOk_of H.tab) rfl ?_
  unfold B_Builder_assertNotNested
  walk_at "go"
  refine t_false rfl ?_
  walk_at "go"
  exact h

noncomputable def growN (l : Nat) : Nat := if l = 0 then 1 else 2 * l

theorem c_Grow (H : ProgL W) {self bb : Addr} {f : Nat → Option V} {bytes : List UInt8} (hs : hp self = some (.inst A_Builder f)) (h0 : f 0 = some (.ref bb)) (hb : hp bb = some (.barr bytes)) (hl : bytes.length ≤ 65536) (hn : 1 ≤ n)
    (h : ∀ c hp', c ≠ self → hp' self = some (.inst A_Builder (updF f 0 (.ref c))) → hp' c = some (.barr (List.replicate (growN bytes.length - bytes.length) 0 ++ bytes)) → Rest self hp hp' → k .none hp') : CallP W n A_Builder_GrowByteBuffer [.ref self] [] [] hp k := by
  obtain ⟨n, rfl⟩ : ∃ m, n = m + 1 := ⟨n - 1, by omega⟩
  refine H.Builder_GrowByteBuffer.call (stOk_of H.tab) rfl ?_
  unfold B_Builder_GrowByteBuffer
  have nbs : bb ≠ self := fun z => by rw [z, hs] at hb; cases hb
  walk_at "go"
  refine ⟨false, x_neq (by omega), t_false rfl ?_⟩
  walk_at "go"
  refine b_mul (.inl (by omega)) ?_
  walk_at "go"
  refine b_min ?_
  rw [if_neg (show ¬ (2147483648 : Int) < (bytes.length : Int) * 2 by omega)]
  walk_at "go"
  have fin : ∀ (c : Addr) (m : Int) (h1 : Hp), m = growN bytes.length → c ≠ self → c ≠ bb → hp c = none → h1 = ((hp.upd c (.barr (List.replicate m.toNat 0))).upd c (.barr ((List.replicate m.toNat (0 : UInt8)).take (m - bytes.length).toNat ++ bytes ++ (List.replicate m.toNat (0 : UInt8)).drop m.toNat))) → k .none (h1.upd self (.inst A_Builder (updF f 0 (.ref c)))) := fun c m h1 em ncs ncb hc e => by
    refine h c _ ncs (upd_self _ _ _) ?_ ?_
    · rw [upd_ne ncs, e, upd_self]
      have g1 : bytes.length ≤ growN bytes.length := by unfold growN; split <;> omega
      have e1 : m.toNat = growN bytes.length := by omega
      have e2 : (m - bytes.length).toNat = growN bytes.length - bytes.length := by omega
      rw [e1, e2, List.take_replicate, List.drop_replicate, Nat.sub_self, List.replicate_zero, List.append_nil, Nat.min_eq_left (by omega)]
    · rw [e]
      exact ((Rest.refl.new hc).barr (upd_self _ _ _)).upd
  by_cases hz : bytes.length = 0
  · refine ⟨true, x_eq (by omega), t_true rfl ?_⟩
    walk_at "go"
    refine b_barr (by omega) (n_ex fun c hc => ?_)
    have ncs : c ≠ self := (ne_none hs hc).symm
    have ncb : c ≠ bb := (ne_none hb hc).symm
    walk_at "go"
    refine w_slA (x := bytes) (upd_self _ _ _) (clo (by omega) rfl) chi_none (by simp) (.inr ⟨bb, rfl, ncb.symm, (upd_ne ncb.symm).trans hb⟩) (by simp [hz]) (by simp) ?_
    walk_at "go"
    refine fin c 1 _ (by unfold growN; rw [if_pos hz]; rfl) ncs ncb hc ?_
    simp [hz]
  · refine ⟨false, x_neq (by omega), t_false rfl ?_⟩
    walk_at "go"
    refine b_barr (by omega) (n_ex fun c hc => ?_)
    have ncs : c ≠ self := (ne_none hs hc).symm
    have ncb : c ≠ bb := (ne_none hb hc).symm
    walk_at "go"
    refine w_slA (x := bytes) (upd_self _ _ _) (clo (by omega) rfl) chi_none (by simp) (.inr ⟨bb, rfl, ncb.symm, (upd_ne ncb.symm).trans hb⟩) (by simp; omega) (by simp; omega) ?_
    walk_at "go"
    refine fin c (bytes.length * 2) _ (by unfold growN; rw [if_neg hz]; omega) ncs ncb hc ?_
    simp only [List.length_replicate]
    rw [Nat.min_eq_left (by omega)]

/-- a builder stands: what is written, how much room is ahead of it, its other fields -/
noncomputable def BR (hp : Hp) (self : Addr) (out : List UInt8) (room : Nat) (g : Nat → Option V) : Prop :=
  ∃ f bb bytes, ∃ head : Nat, hp self = some (.inst A_Builder f) ∧ f 0 = some (.ref bb) ∧ f 4 = some (.int head) ∧ (∀ i, i ≠ 0 → i ≠ 4 → f i = g i) ∧ hp bb = some (.barr bytes) ∧ bytes.drop head = out ∧ room ≤ head ∧ bytes.length = head + out.length ∧ bytes.length ≤ 8192

theorem c_Pad (H : ProgL W) {self bb : Addr} {f : Nat → Option V} {bytes : List UInt8} {head m : Nat} (hs : hp self = some (.inst A_Builder f)) (h0 : f 0 = some (.ref bb)) (h4 : f 4 = some (.int head)) (hb : hp bb = some (.barr bytes)) (hl : bytes.length ≤ 65536) (hm : m ≤ head) (hh : head ≤ bytes.length) (hn : 1 ≤ n)
    (h : ∀ hp' f' bytes', hp' self = some (.inst A_Builder f') → f' 0 = some (.ref bb) → f' 4 = some (.int ((head - m : Nat) : Int)) → (∀ i, i ≠ 0 → i ≠ 4 → f' i = f i) → hp' bb = some (.barr bytes') → bytes'.drop (head - m) = zeros m ++ bytes.drop head → bytes'.length = bytes.length → Rest self hp hp' → k .none hp') :
    CallP W n A_Builder_Pad [.ref self, .int m] [] [] hp k := by
  obtain ⟨n, rfl⟩ : ∃ m, n = m + 1 := ⟨n - 1, by omega⟩
  refine H.Builder_Pad.call (stOk_of H.tab) rfl ?_
  unfold B_Builder_Pad
  have nbs : bb ≠ self := fun z => by rw [z, hs] at hb; cases hb
  walk_at "go"
  by_cases hz : m = 0
  · subst hz
    refine ⟨true, x_le (by omega), t_true rfl ?_⟩
    walk_at "go"
    exact h hp f bytes hs h0 h4 (fun _ _ _ => rfl) hb (by simp [zeros]) rfl .refl
  · refine ⟨false, x_nle (by omega), t_false rfl ?_⟩
    walk_at "go"
    refine ⟨0, m, rfl, rfl, ⟨by omega, by omega⟩, ?_⟩
    walk_at "go"
    refine w_slA (x := zeros m) (l := head - m) (h := head) hb (clo (by omega) (by omega)) (chi (by omega) (by omega)) (by omega) (.inl rfl) (by simp [zeros]; omega) (by omega) ?_
    walk_at "go"
    refine h _ _ _ (upd_self _ _ _) ((updF_ne (by decide)).trans h0) ?_ (fun i _ h4 => updF_ne h4) ((upd_ne nbs).trans (upd_self _ _ _)) ?_ ?_ ?_
    · rw [updF_self]; congr 2; omega
    · rw [List.append_assoc, List.drop_append, List.length_take, List.drop_of_length_le (by simp; omega)]
      rw [Nat.min_eq_left (by omega), Nat.sub_self, List.nil_append, List.drop_zero]
    · simp [zeros]; omega
    · exact (Rest.barr .refl hb).upd

end
end D2
section D3

section
variable {W : Wd} {n : Nat} {hp : Hp} {k : K1}

theorem growN_gt (l : Nat) : l < growN l := by unfold growN; split <;> omega
theorem growN_le (l : Nat) : growN l ≤ 2 * l + 1 := by unfold growN; split <;> omega

/-- what Prep's loop keeps -/
noncomputable def PrepInv (self : Addr) (f₁ : Nat → Option V) (hp₀ : Hp) (out : List UInt8) (need : Nat) (hp : Hp) (head len : Nat) : Prop :=
  ∃ f bb bytes, hp self = some (.inst A_Builder f) ∧ f 0 = some (.ref bb) ∧ (∀ i, i ≠ 0 → f i = f₁ i) ∧ hp bb = some (.barr bytes) ∧ bytes.drop head = out ∧ bytes.length = head + out.length ∧ len = bytes.length ∧ len ≤ 8192 ∧ Rest self hp₀ hp

theorem prep_loop (H : ProgL W) {self : Addr} {f₁ : Nat → Option V} {hp₀ : Hp} {out : List UInt8} {need : Nat} {s a p : Option V} (hn : 2 ≤ n) (hb : need + out.length ≤ 4000) {K : KS}
    (fin : ∀ hp head len v7, PrepInv self f₁ hp₀ out need hp head len → need ≤ head → K .next [some (.ref self), s, a, some (.int (head : Nat)), some (.int (len : Nat)), p, some (.int (need : Nat)), v7] hp) :
    ∀ (fuel : Nat) (hp : Hp) (head len : Nat) (v7 : Option V), need - head ≤ fuel → PrepInv self f₁ hp₀ out need hp head len →
      WhileP W n (.cmp .Lt (.var 3) (.var 6)) [.asg (.var 7) (.var 4), .expr (.meth (.var 0) "GrowByteBuffer" [] [] []), .asg (.var 4) (.bcall .len [(.attr (.var 0) "Bytes")]), .aug 3 .Add (.bin .Sub (.var 4) (.var 7))]
        [some (.ref self), s, a, some (.int (head : Nat)), some (.int (len : Nat)), p, some (.int (need : Nat)), v7] hp K := by
  intro fuel
  induction fuel with
  | zero =>
    intro hp head len v7 hf I
    refine whileP_of (stOk_of H.tab) ?_
    walk_at "go"
    refine ⟨false, x_nlt (by omega), t_false rfl ?_⟩
    exact fin _ _ _ _ I (by omega)
  | succ fuel ih =>
    intro hp head len v7 hf I
    refine whileP_of (stOk_of H.tab) ?_
    walk_at "go"
    by_cases hlt : head < need
    · refine ⟨true, x_lt (by omega), t_true rfl ?_⟩
      obtain ⟨f, bb, bytes, hs, h0, hf1, hbb, hd, hl, rfl, hl2, hr⟩ := I
      walk_at "go"
      refine c_Grow H hs h0 hbb (by omega) (by omega) fun c hp' ncs hs' hc' hr' => ?_
      walk_at "go"
      refine b_lenA hc' (by have := growN_le bytes.length; simp; omega) ?_
      walk_at "go"
      have g1 := growN_gt bytes.length
      have g2 := growN_le bytes.length
      have e1 : (List.replicate (growN bytes.length - bytes.length) (0 : UInt8) ++ bytes).length = growN bytes.length := by simp; omega
      rw [e1]
      have e2 : (head : Int) + (((growN bytes.length : Nat) : Int) - (bytes.length : Int)) = ((head + (growN bytes.length - bytes.length) : Nat) : Int) := by omega
      rw [e2]
      refine ih hp' (head + (growN bytes.length - bytes.length)) (growN bytes.length) _ (by omega) ⟨_, c, _, hs', updF_self, fun i hi => (updF_ne hi).trans (hf1 i hi), hc', ?_, ?_, e1.symm, by omega, hr.trans hr'⟩
      · rw [List.drop_append, List.drop_of_length_le (by simp), List.nil_append, List.length_replicate]
        rw [show head + (growN bytes.length - bytes.length) - (growN bytes.length - bytes.length) = head by omega, hd]
      · rw [e1]; omega
    · refine ⟨false, x_nlt (by omega), t_false rfl ?_⟩
      exact fin _ _ _ _ I (by omega)

theorem c_Prep (H : ProgL W) {self : Addr} {out : List UInt8} {room size add mal : Nat} {g : Nat → Option V} (B : BR hp self out room g) (hg : g 5 = some (.int mal)) (hw : size = 1 ∨ size = 2 ∨ size = 4 ∨ size = 8) (hb : out.length + add ≤ 2000) (hn : 3 ≤ n)
    (h : ∀ hp', BR hp' self (zeros (padN (out.length + add) size) ++ out) (size + add) (updF g 5 (.int ((max mal size : Nat) : Int))) → Rest self hp hp' → k .none hp') : CallP W n A_Builder_Prep [.ref self, .int size, .int add] [] [] hp k := by
  obtain ⟨n, rfl⟩ : ∃ m, n = m + 1 := ⟨n - 1, by omega⟩
  refine H.Builder_Prep.call (stOk_of H.tab) rfl ?_
  unfold B_Builder_Prep
  obtain ⟨f, bb, bytes, head, hs, h0, h4, hfg, hbb, hd, hr, hl, hl2⟩ := B
  have h5 : f 5 = some (.int mal) := (hfg 5 (by decide) (by decide)).trans hg
  have nbs : bb ≠ self := fun z => by rw [z, hs] at hbb; cases hbb
  walk_at "go"
  -- behind the first test the greatest width is kept
  have key : ∀ (f₁ : Nat → Option V) (hp₁ : Hp), hp₁ self = some (.inst A_Builder f₁) → f₁ 5 = some (.int ((max mal size : Nat) : Int)) → (∀ i, i ≠ 5 → f₁ i = f i) → hp₁ bb = some (.barr bytes) → Rest self hp hp₁ →
      vcSs (TL W) n (B_Builder_Prep.drop 1) [some (.ref self), some (.int size), some (.int add), none, none, none, none, none] hp₁ (retK k) := by
    intro f₁ hp₁ hs₁ h5₁ hf₁ hbb₁ hr₁
    have h0₁ : f₁ 0 = some (.ref bb) := (hf₁ 0 (by decide)).trans h0
    have h4₁ : f₁ 4 = some (.int head) := (hf₁ 4 (by decide)).trans h4
    unfold B_Builder_Prep
    simp only [List.drop_succ_cons, List.drop_zero]
    walk_at "go"
    rw [pad_and (len := out.length + add) (by omega) hw]
    refine s_whil ?_
    have hp1 := padN_lt (len := out.length + add) (size := size) (by omega)
    have en : ((padN (out.length + add) size : Nat) : Int) + (size : Int) + (add : Int) = ((padN (out.length + add) size + size + add : Nat) : Int) := by omega
    rw [en]
    show WhileP W n _ _ [some (.ref self), some (.int size), some (.int add), some (.int head), some (.int bytes.length), some (.int ((padN (out.length + add) size : Nat) : Int)), some (.int ((padN (out.length + add) size + size + add : Nat) : Int)), none] hp₁ _
    refine prep_loop H (f₁ := f₁) (hp₀ := hp) (out := out) (by omega) (by omega) ?_ _ hp₁ head bytes.length none (Nat.le_refl _) ⟨f₁, bb, bytes, hs₁, h0₁, fun _ _ => rfl, hbb₁, hd, hl, rfl, hl2, hr₁⟩
    intro hp₂ head₂ len₂ v7 I hge
    obtain ⟨f₂, bb₂, bytes₂, hs₂, h0₂, hf₂, hbb₂, hd₂, hl₂, rfl, hl2₂, hr₂⟩ := I
    have nbs₂ : bb₂ ≠ self := fun z => by rw [z, hs₂] at hbb₂; cases hbb₂
    walk_at "go"
    refine c_Pad H (head := head₂) (upd_self _ _ _) ((updF_ne (by decide)).trans h0₂) updF_self ((upd_ne nbs₂).trans hbb₂) (by omega) (by omega) (by omega) (by omega) ?_
    intro hp₃ f₃ bytes₃ hs₃ h0₃ h4₃ hf₃ hbb₃ hd₃ hl₃ hr₃
    walk_at "go"
    refine h hp₃ ⟨f₃, bb₂, bytes₃, _, hs₃, h0₃, h4₃, fun i hi hi4 => ?_, hbb₃, by rw [hd₃, hd₂], by omega, ?_, by omega⟩ ((hr₂.trans (Rest.upd .refl)).trans hr₃)
    · rw [hf₃ i hi hi4, updF_ne hi4, hf₂ i hi]
      by_cases h5 : i = 5
      · subst h5; rw [h5₁, updF_self]
      · rw [hf₁ i h5, updF_ne h5, hfg i hi hi4]
    · simp [zeros]; omega
  by_cases hgt : mal < size
  · refine ⟨true, x_gt (by omega), t_true rfl ?_⟩
    refine s_asg (e_var rfl (g_attr (e_var rfl (w_attr hs s_Builder_minalign (s_nil (q_next ?_))))))
    refine key _ _ (upd_self _ _ _) ?_ (fun i hi => updF_ne hi) ((upd_ne nbs).trans hbb) (Rest.upd .refl)
    rw [updF_self, Nat.max_eq_right (by omega)]
  · refine ⟨false, x_ngt (by omega), t_false rfl ?_⟩
    refine s_nil (q_next ?_)
    refine key f hp hs ?_ (fun _ _ => rfl) hbb .refl
    rw [h5, Nat.max_eq_left (by omega)]
end
end D3
section D4

section
variable {W : Wd} {n : Nat} {hp : Hp} {k : K1}

theorem leE_len (w : Nat) (x : Int) : (leE w x).length = w := by unfold leE; simp

theorem c_Place (H : ProgL W) {self : Addr} {out : List UInt8} {room : Nat} {g : Nat → Option V} {F : Addr} {w : Nat} {sg : Bool} {sa : Addr} {x : Int} (B : BR hp self out room g) (Fl : FlagOk (TL W) F w sg sa) (hx : inR sg w x) (hr : w ≤ room) (hn : 2 ≤ n)
    (h : ∀ hp', BR hp' self (leE w x ++ out) (room - w) g → Rest self hp hp' → k .none hp') : CallP W n A_Builder_Place [.ref self, .int x, .ref F] [] [] hp k := by
  obtain ⟨n, rfl⟩ : ∃ m, n = m + 1 := ⟨n - 1, by omega⟩
  refine H.Builder_Place.call (stOk_of H.tab) rfl ?_
  unfold B_Builder_Place
  obtain ⟨f, bb, bytes, head, hs, h0, h4, hfg, hbb, hd, hr0, hl, hl2⟩ := B
  have nbs : bb ≠ self := fun z => by rw [z, hs] at hbb; cases hbb
  walk_at "go"
  refine c_enforce H Fl hx (by omega) ?_
  walk_at "go"
  refine a_cls Fl.bw ?_
  walk_at "go"
  refine a_cls Fl.pk ?_
  walk_at "go"
  refine c_Write H Fl.st ((upd_ne nbs).trans hbb) (by omega) hx (by omega) (by omega) ?_
  walk_at "go"
  have e1 : ((head : Int) - (w : Int)).toNat = head - w := by omega
  refine h _ ⟨_, bb, _, head - w, (upd_ne nbs.symm).trans (upd_self _ _ _), (updF_ne (by decide)).trans h0, by rw [updF_self]; congr 2; omega, fun i hi hi4 => (updF_ne hi4).trans (hfg i hi hi4), upd_self _ _ _, ?_, by omega, ?_, ?_⟩ ((Rest.upd .refl).barr ((upd_ne nbs).trans hbb))
  · rw [e1, List.append_assoc, List.drop_append, List.drop_of_length_le (by simp; omega), List.length_take, Nat.min_eq_left (by omega), Nat.sub_self, List.nil_append, List.drop_zero, show head - w + w = head by omega, hd]
  · simp [leE_len, e1]; omega
  · simp [leE_len, e1]; omega

theorem c_PlaceS (H : ProgL W) {self : Addr} {out : List UInt8} {room : Nat} {g : Nat → Option V} {x : Int} (B : BR hp self out room g) (hx : inR true 4 x) (hr : 4 ≤ room) (hn : 2 ≤ n)
    (h : ∀ hp', BR hp' self (leE 4 x ++ out) (room - 4) g → Rest self hp hp' → k .none hp') : CallP W n A_Builder_PlaceSOffsetT [.ref self, .int x] [] [] hp k := by
  obtain ⟨n, rfl⟩ : ∃ m, n = m + 1 := ⟨n - 1, by omega⟩
  refine H.Builder_PlaceSOffsetT.call (stOk_of H.tab) rfl ?_
  unfold B_Builder_PlaceSOffsetT
  obtain ⟨f, bb, bytes, head, hs, h0, h4, hfg, hbb, hd, hr0, hl, hl2⟩ := B
  have nbs : bb ≠ self := fun z => by rw [z, hs] at hbb; cases hbb
  walk_at "go"
  refine c_enforce H fl_SO hx (by omega) ?_
  walk_at "go"
  refine c_Write H u_int32 ((upd_ne nbs).trans hbb) (by omega) hx (by omega) (by omega) ?_
  walk_at "go"
  have e1 : ((head : Int) - 4).toNat = head - 4 := by omega
  refine h _ ⟨_, bb, _, head - 4, (upd_ne nbs.symm).trans (upd_self _ _ _), (updF_ne (by decide)).trans h0, by rw [updF_self]; congr 2; omega, fun i hi hi4 => (updF_ne hi4).trans (hfg i hi hi4), upd_self _ _ _, ?_, by omega, ?_, ?_⟩ ((Rest.upd .refl).barr ((upd_ne nbs).trans hbb))
  · rw [e1, List.append_assoc, List.drop_append, List.drop_of_length_le (by simp; omega), List.length_take, Nat.min_eq_left (by omega), Nat.sub_self, List.nil_append, List.drop_zero, show head - 4 + 4 = head by omega, hd]
  · simp [leE_len, e1]; omega
  · simp [leE_len, e1]; omega

theorem c_PlaceU (H : ProgL W) {self : Addr} {out : List UInt8} {room : Nat} {g : Nat → Option V} {x : Int} (B : BR hp self out room g) (hx : inR false 4 x) (hr : 4 ≤ room) (hn : 2 ≤ n)
    (h : ∀ hp', BR hp' self (leE 4 x ++ out) (room - 4) g → Rest self hp hp' → k .none hp') : CallP W n A_Builder_PlaceUOffsetT [.ref self, .int x] [] [] hp k := by
  obtain ⟨n, rfl⟩ : ∃ m, n = m + 1 := ⟨n - 1, by omega⟩
  refine H.Builder_PlaceUOffsetT.call (stOk_of H.tab) rfl ?_
  unfold B_Builder_PlaceUOffsetT
  obtain ⟨f, bb, bytes, head, hs, h0, h4, hfg, hbb, hd, hr0, hl, hl2⟩ := B
  have nbs : bb ≠ self := fun z => by rw [z, hs] at hbb; cases hbb
  walk_at "go"
  refine c_enforce H fl_UO hx (by omega) ?_
  walk_at "go"
  refine c_Write H u_uint32 ((upd_ne nbs).trans hbb) (by omega) hx (by omega) (by omega) ?_
  walk_at "go"
  have e1 : ((head : Int) - 4).toNat = head - 4 := by omega
  refine h _ ⟨_, bb, _, head - 4, (upd_ne nbs.symm).trans (upd_self _ _ _), (updF_ne (by decide)).trans h0, by rw [updF_self]; congr 2; omega, fun i hi hi4 => (updF_ne hi4).trans (hfg i hi hi4), upd_self _ _ _, ?_, by omega, ?_, ?_⟩ ((Rest.upd .refl).barr ((upd_ne nbs).trans hbb))
  · rw [e1, List.append_assoc, List.drop_append, List.drop_of_length_le (by simp; omega), List.length_take, Nat.min_eq_left (by omega), Nat.sub_self, List.nil_append, List.drop_zero, show head - 4 + 4 = head by omega, hd]
  · simp [leE_len, e1]; omega
  · simp [leE_len, e1]; omega

/-- the object at hand -/
theorem BR.at {self : Addr} {out : List UInt8} {room : Nat} {g : Nat → Option V} (B : BR hp self out room g) : ∃ f, hp self = some (.inst A_Builder f) ∧ ∀ i, i ≠ 0 → i ≠ 4 → f i = g i := by
  obtain ⟨f, bb, bytes, head, hs, h0, h4, hfg, _⟩ := B
  exact ⟨f, hs, hfg⟩

theorem c_OffsetB (H : ProgL W) {self : Addr} {out : List UInt8} {room : Nat} {g : Nat → Option V} (B : BR hp self out room g) (hn : 1 ≤ n) (h : k (.int (out.length : Nat)) hp) : CallP W n A_Builder_Offset [.ref self] [] [] hp k := by
  obtain ⟨f, bb, bytes, head, hs, h0, h4, hfg, hbb, hd, hr0, hl, hl2⟩ := B
  refine c_Offset H hs h0 h4 hbb (by omega) hn ?_
  have e : (bytes.length : Int) - (head : Int) = ((out.length : Nat) : Int) := by omega
  rw [e]; exact h

/-- what a number lays ahead of what is written -/
noncomputable def laidN (w : Nat) (x : Int) (out : List UInt8) : List UInt8 := leE w x ++ (zeros (padN out.length w) ++ out)
noncomputable def upM (g : Nat → Option V) (mal size : Nat) : Nat → Option V := updF g 5 (.int ((max mal size : Nat) : Int))

theorem c_Prepend (H : ProgL W) {self : Addr} {out : List UInt8} {room mal : Nat} {g : Nat → Option V} {F : Addr} {w : Nat} {sg : Bool} {sa : Addr} {x : Int} (B : BR hp self out room g) (hg : g 5 = some (.int mal)) (Fl : FlagOk (TL W) F w sg sa) (hx : inR sg w x) (hb : out.length ≤ 2000) (hn : 4 ≤ n)
    (h : ∀ hp', BR hp' self (laidN w x out) 0 (upM g mal w) → Rest self hp hp' → k .none hp') : CallP W n A_Builder_Prepend [.ref self, .ref F, .int x] [] [] hp k := by
  obtain ⟨n, rfl⟩ : ∃ m, n = m + 1 := ⟨n - 1, by omega⟩
  refine H.Builder_Prepend.call (stOk_of H.tab) rfl ?_
  unfold B_Builder_Prepend
  obtain ⟨f, hs, hfg⟩ := B.at
  walk_at "go"
  refine a_cls Fl.bw ?_
  walk_at "go"
  refine c_Prep H (add := 0) B hg Fl.w8 (by omega) (by omega) fun hp₁ B₁ R₁ => ?_
  obtain ⟨f₁, hs₁, hfg₁⟩ := B₁.at
  walk_at "go"
  refine c_Place H B₁ Fl hx (by omega) (by omega) fun hp₂ B₂ R₂ => ?_
  walk_at "go"
  refine h hp₂ ?_ (R₁.trans R₂)
  rw [show w + 0 - w = 0 by omega] at B₂
  exact B₂

theorem c_PrependVO (H : ProgL W) {self : Addr} {out : List UInt8} {room mal : Nat} {g : Nat → Option V} {x : Int} (B : BR hp self out room g) (hg : g 5 = some (.int mal)) (hx : inR false 2 x) (hb : out.length ≤ 2000) (hn : 5 ≤ n)
    (h : ∀ hp', BR hp' self (laidN 2 x out) 0 (upM g mal 2) → Rest self hp hp' → k .none hp') : CallP W n A_Builder_PrependVOffsetT [.ref self, .int x] [] [] hp k := by
  obtain ⟨n, rfl⟩ : ∃ m, n = m + 1 := ⟨n - 1, by omega⟩
  refine H.Builder_PrependVOffsetT.call (stOk_of H.tab) rfl ?_
  unfold B_Builder_PrependVOffsetT
  obtain ⟨f, hs, hfg⟩ := B.at
  walk_at "go"
  refine c_Prepend H B hg fl_VO hx hb (by omega) fun hp₁ B₁ R₁ => ?_
  walk_at "go"
  exact h hp₁ B₁ R₁
theorem c_PrependI32 (H : ProgL W) {self : Addr} {out : List UInt8} {room mal : Nat} {g : Nat → Option V} {x : Int} (B : BR hp self out room g) (hg : g 5 = some (.int mal)) (hx : inR true 4 x) (hb : out.length ≤ 2000) (hn : 5 ≤ n)
    (h : ∀ hp', BR hp' self (laidN 4 x out) 0 (upM g mal 4) → Rest self hp hp' → k .none hp') : CallP W n A_Builder_PrependInt32 [.ref self, .int x] [] [] hp k := by
  obtain ⟨n, rfl⟩ : ∃ m, n = m + 1 := ⟨n - 1, by omega⟩
  refine H.Builder_PrependInt32.call (stOk_of H.tab) rfl ?_
  unfold B_Builder_PrependInt32
  obtain ⟨f, hs, hfg⟩ := B.at
  walk_at "go"
  refine c_Prepend H B hg fl_Int32 hx hb (by omega) fun hp₁ B₁ R₁ => ?_
  walk_at "go"
  exact h hp₁ B₁ R₁

theorem laidN_len (w : Nat) (x : Int) (out : List UInt8) : (laidN w x out).length = w + padN out.length w + out.length := by unfold laidN; simp [leE_len, zeros]; omega

theorem c_PrependSRel (H : ProgL W) {self : Addr} {out : List UInt8} {room mal off : Nat} {g : Nat → Option V} (B : BR hp self out room g) (hg : g 5 = some (.int mal)) (ho : off ≤ out.length) (hb : out.length ≤ 2000) (hn : 4 ≤ n)
    (h : ∀ hp', BR hp' self (laidN 4 ((out.length + padN out.length 4 - off + 4 : Nat) : Int) out) 0 (upM g mal 4) → Rest self hp hp' → k .none hp') : CallP W n A_Builder_PrependSOffsetTRelative [.ref self, .int off] [] [] hp k := by
  obtain ⟨n, rfl⟩ : ∃ m, n = m + 1 := ⟨n - 1, by omega⟩
  refine H.Builder_PrependSOffsetTRelative.call (stOk_of H.tab) rfl ?_
  unfold B_Builder_PrependSOffsetTRelative
  obtain ⟨f, hs, hfg⟩ := B.at
  walk_at "go"
  refine c_Prep H (add := 0) (size := 4) B hg (.inr (.inr (.inl rfl))) (by omega) (by omega) fun hp₁ B₁ R₁ => ?_
  obtain ⟨f₁, hs₁, hfg₁⟩ := B₁.at
  have hp4 := padN_lt (len := out.length) (size := 4) (by omega)
  walk_at "go"
  refine c_OffsetB H B₁ (by omega) ?_
  have el : (zeros (padN (out.length + 0) 4) ++ out).length = padN out.length 4 + out.length := by simp [zeros]
  refine ⟨true, x_le (by rw [el]; omega), true, rfl, t_false rfl ?_⟩
  walk_at "go"
  refine c_OffsetB H B₁ (by omega) ?_
  walk_at "go"
  rw [el]
  have e : ((padN out.length 4 + out.length : Nat) : Int) - (off : Int) + 4 = ((out.length + padN out.length 4 - off + 4 : Nat) : Int) := by omega
  rw [e]
  refine c_PlaceS H B₁ (by unfold inR; simp; omega) (by omega) (by omega) fun hp₂ B₂ R₂ => ?_
  walk_at "go"
  exact h hp₂ B₂ (R₁.trans R₂)

theorem c_PrependURel (H : ProgL W) {self : Addr} {out : List UInt8} {room mal off : Nat} {g : Nat → Option V} (B : BR hp self out room g) (hg : g 5 = some (.int mal)) (ho : off ≤ out.length) (hb : out.length ≤ 2000) (hn : 4 ≤ n)
    (h : ∀ hp', BR hp' self (laidN 4 ((out.length + padN out.length 4 - off + 4 : Nat) : Int) out) 0 (upM g mal 4) → Rest self hp hp' → k .none hp') : CallP W n A_Builder_PrependUOffsetTRelative [.ref self, .int off] [] [] hp k := by
  obtain ⟨n, rfl⟩ : ∃ m, n = m + 1 := ⟨n - 1, by omega⟩
  refine H.Builder_PrependUOffsetTRelative.call (stOk_of H.tab) rfl ?_
  unfold B_Builder_PrependUOffsetTRelative
  obtain ⟨f, hs, hfg⟩ := B.at
  walk_at "go"
  refine c_Prep H (add := 0) (size := 4) B hg (.inr (.inr (.inl rfl))) (by omega) (by omega) fun hp₁ B₁ R₁ => ?_
  obtain ⟨f₁, hs₁, hfg₁⟩ := B₁.at
  have hp4 := padN_lt (len := out.length) (size := 4) (by omega)
  walk_at "go"
  refine c_OffsetB H B₁ (by omega) ?_
  have el : (zeros (padN (out.length + 0) 4) ++ out).length = padN out.length 4 + out.length := by simp [zeros]
  refine ⟨true, x_le (by rw [el]; omega), true, rfl, t_false rfl ?_⟩
  walk_at "go"
  refine c_OffsetB H B₁ (by omega) ?_
  walk_at "go"
  rw [el]
  have e : ((padN out.length 4 + out.length : Nat) : Int) - (off : Int) + 4 = ((out.length + padN out.length 4 - off + 4 : Nat) : Int) := by omega
  rw [e]
  refine c_PlaceU H B₁ (by unfold inR; simp; omega) (by omega) (by omega) fun hp₂ B₂ R₂ => ?_
  walk_at "go"
  exact h hp₂ B₂ (R₁.trans R₂)
end
end D4
section D5

section
variable {W : Wd} {n : Nat} {hp : Hp} {k : K1}

theorem rep_flat (m : Nat) : (List.replicate m [V.int 0]).flatten = List.replicate m (V.int 0) := by
  induction m with
  | zero => rfl
  | succ m ih => rw [List.replicate_succ, List.flatten_cons, ih, List.replicate_succ]; rfl
theorem upd_del {c : Addr} {o : Ob} (h : hp c = none) : (hp.upd c o).del c = hp := by
  funext b
  unfold Hp.del Hp.upd
  by_cases e : b = c
  · subst e; rw [if_pos rfl, h]
  · rw [if_neg e, if_neg e]

theorem BR.set {self : Addr} {out : List UInt8} {room i : Nat} {g f : Nat → Option V} {v : V} (B : BR hp self out room g) (hs : hp self = some (.inst A_Builder f)) (h0 : i ≠ 0) (h4 : i ≠ 4) : BR (hp.upd self (.inst A_Builder (updF f i v))) self out room (updF g i v) := by
  obtain ⟨f', bb, bytes, head, hs', h0', h4', hfg, hbb, hd, hr0, hl, hl2⟩ := B
  rw [hs] at hs'; cases hs'
  have nbs : bb ≠ self := fun z => by rw [z, hs] at hbb; cases hbb
  refine ⟨_, bb, bytes, head, upd_self _ _ _, (updF_ne (Ne.symm h0)).trans h0', (updF_ne (Ne.symm h4)).trans h4', fun j hj0 hj4 => ?_, (upd_ne nbs).trans hbb, hd, hr0, hl, hl2⟩
  unfold updF
  split
  · rfl
  · exact hfg j hj0 hj4
theorem BR.other {self c : Addr} {out : List UInt8} {room : Nat} {g : Nat → Option V} {o : Ob} (B : BR hp self out room g) (hc : ∀ x, hp c = some x → (∀ C f, x ≠ .inst C f) ∧ ∀ b, x ≠ .barr b) : BR (hp.upd c o) self out room g := by
  obtain ⟨f, bb, bytes, head, hs, h0, h4, hfg, hbb, r⟩ := B
  exact ⟨f, bb, bytes, head, (upd_ne fun z => (hc _ (z ▸ hs)).1 _ _ rfl).trans hs, h0, h4, hfg, (upd_ne fun z => (hc _ (z ▸ hbb)).2 _ rfl).trans hbb, r⟩
theorem BR.new {self c : Addr} {out : List UInt8} {room : Nat} {g : Nat → Option V} {o : Ob} (B : BR hp self out room g) (hc : hp c = none) : BR (hp.upd c o) self out room g := B.other fun x h => by rw [hc] at h; cases h
theorem BR.weaken {self : Addr} {out : List UInt8} {room room' : Nat} {g : Nat → Option V} (B : BR hp self out room g) (h : room' ≤ room) : BR hp self out room' g := by
  obtain ⟨f, bb, bytes, head, hs, h0, h4, hfg, hbb, hd, hr0, r⟩ := B
  exact ⟨f, bb, bytes, head, hs, h0, h4, hfg, hbb, hd, by omega, r⟩

/-- the others stand, but for the row of slots too -/
noncomputable def RestX (self cv : Addr) (hp hp' : Hp) : Prop := ∀ x o, x ≠ self → x ≠ cv → hp x = some o → (∀ b, o ≠ .barr b) → hp' x = some o
theorem Rest.x {self cv : Addr} {hp' : Hp} (r : Rest self hp hp') : RestX self cv hp hp' := fun x o a _ e b => r x o a e b
theorem RestX.trans {self cv : Addr} {h₁ h₂ h₃ : Hp} (x : RestX self cv h₁ h₂) (y : RestX self cv h₂ h₃) : RestX self cv h₁ h₃ := fun a o n m e b => y a o n m (x a o n m e b) b
theorem RestX.upd {self cv : Addr} {hp' : Hp} {o : Ob} (r : RestX self cv hp hp') : RestX self cv hp (hp'.upd cv o) := fun a o n m e b => (upd_ne m).trans (r a o n m e b)
theorem RestX.updS {self cv : Addr} {hp' : Hp} {o : Ob} (r : RestX self cv hp hp') : RestX self cv hp (hp'.upd self o) := fun a o n m e b => (upd_ne n).trans (r a o n m e b)

/-- a new builder's fields -/
structure Fresh (g : Nat → Option V) (d : Addr) : Prop where
  cv : g 1 = some .none
  fin : g 2 = some (.bool false)
  fd : g 3 = some (.bool false)
  mal : g 5 = some (.int (1 : Nat))
  nst : g 6 = some (.bool false)
  oe : g 7 = some .none
  vt : g 10 = some (.ref d)

theorem c_init (H : ProgL W) {self : Addr} {f : Nat → Option V} {size : Nat} (hs : hp self = some (.inst A_Builder f)) (hz : size ≤ 4096) (hn : 1 ≤ n)
    (h : ∀ hp' g d, BR hp' self [] 0 g → Fresh g d → hp' d = some (.tdict []) → (∀ y o, y ≠ self → hp y = some o → hp' y = some o) → k .none hp') : CallP W n A_Builder_init [.ref self, .int size] [] [] hp k := by
  obtain ⟨n, rfl⟩ : ∃ m, n = m + 1 := ⟨n - 1, by omega⟩
  refine H.Builder_init.call (stOk_of H.tab) rfl ?_
  unfold B_Builder_init
  walk_at "go"
  refine ⟨true, x_le (by omega), ?_⟩
  rw [if_pos rfl]
  walk_at "go"
  refine ⟨true, x_le (by omega), true, rfl, t_false rfl ?_⟩
  walk_at "go"
  refine b_barr (by omega) (n_ex fun c hc => ?_)
  have ncs : c ≠ self := (ne_none hs hc).symm
  walk_at "go"
  refine n_ex fun d hd => ?_
  have nds : d ≠ self := fun z => by rw [z, upd_self] at hd; cases hd
  have ndc : d ≠ c := fun z => by subst z; rw [upd_ne nds, upd_ne nds, upd_ne nds, upd_ne nds, upd_ne nds, upd_self] at hd; cases hd
  have hd0 : hp d = none := by rw [upd_ne nds, upd_ne nds, upd_ne nds, upd_ne nds, upd_ne nds, upd_ne ndc] at hd; exact hd
  walk_at "go"
  refine h _ _ d ⟨_, c, List.replicate size 0, size, upd_self _ _ _, by walk_at "fld", by walk_at "fld", fun _ _ _ => rfl, by walk_at "hpx", by simp, Nat.zero_le _, by simp, by simp; omega⟩
    ⟨by walk_at "fld", by walk_at "fld", by walk_at "fld", by walk_at "fld", by walk_at "fld", by walk_at "fld", by walk_at "fld"⟩ (by walk_at "hpx") (fun y o ny ey => ?_)
  have nyc : y ≠ c := ne_none ey hc
  have nyd : y ≠ d := ne_none ey hd0
  rw [upd_ne ny, upd_ne ny, upd_ne ny, upd_ne ny, upd_ne ny, upd_ne nyd, upd_ne ny, upd_ne ny, upd_ne ny, upd_ne ny, upd_ne ny, upd_ne nyc]
  exact ey

theorem c_Builder (H : ProgL W) {size : Nat} (hz : size ≤ 4096) (hn : 2 ≤ n) (h : ∀ hp' self g d, BR hp' self [] 0 g → Fresh g d → hp' d = some (.tdict []) → (∀ y o, hp y = some o → hp' y = some o) → k (.ref self) hp') : CallP W n A_Builder [.int size] [] [] hp k := by
  obtain ⟨n, rfl⟩ : ∃ m, n = m + 1 := ⟨n - 1, by omega⟩
  refine callP_class H.clsBuilder fun x dx hx hdx hne => ?_
  refine c_init H (upd_self _ _ _) hz (by omega) fun hp' g d B Fr hd keep => ⟨rfl, h hp' x g d B Fr hd fun y o ey => keep y o (ne_none ey hx) ?_⟩
  rw [upd_ne (ne_none ey hx), upd_ne (ne_none ey hdx)]; exact ey

theorem c_StartObject (H : ProgL W) {self : Addr} {out : List UInt8} {room m : Nat} {g : Nat → Option V} (B : BR hp self out room g) (h6 : g 6 = some (.bool false)) (hm : m ≤ 1000) (hn : 2 ≤ n)
    (h : ∀ hp' cv, BR hp' self out room (updF (updF (updF g 1 (.ref cv)) 7 (.int (out.length : Nat))) 6 (.bool true)) → hp' cv = some (.list (List.replicate m (.int 0))) → hp cv = none → Rest self hp hp' → k .none hp') :
    CallP W n A_Builder_StartObject [.ref self, .int m] [] [] hp k := by
  obtain ⟨n, rfl⟩ : ∃ m, n = m + 1 := ⟨n - 1, by omega⟩
  refine H.Builder_StartObject.call (stOk_of H.tab) rfl ?_
  unfold B_Builder_StartObject
  obtain ⟨f, hs, hfg⟩ := B.at
  walk_at "go"
  refine c_assertNotNested H hs ((hfg 6 (by decide) (by decide)).trans h6) (by omega) ?_
  walk_at "go"
  refine ⟨by simp, n_ex fun c hc => ⟨c, _, rfl, upd_self _ _ _, ?_⟩⟩
  rw [upd_del hc]
  walk_at "go"
  refine ⟨_, m, rfl, rfl, ⟨by omega, by omega⟩, by simp, n_ex fun cv hcv => ?_⟩
  have ncs : cv ≠ self := (ne_none hs hcv).symm
  have e0 : (List.replicate ((m : Int)).toNat [V.int 0]).flatten = List.replicate m (V.int 0) := by
    rw [Int.toNat_natCast]; exact rep_flat m
  rw [e0]
  have hs1 : (hp.upd cv (.list (List.replicate m (.int 0)))) self = some (.inst A_Builder f) := (upd_ne ncs.symm).trans hs
  have B1 : BR (hp.upd cv (.list (List.replicate m (.int 0)))) self out room g := B.new hcv
  have B2 := B1.set (i := 1) (v := .ref cv) hs1 (by decide) (by decide)
  walk_at "go"
  refine c_OffsetB H B2 (by omega) ?_
  have B3 := B2.set (i := 7) (v := .int (out.length : Nat)) (upd_self _ _ _) (by decide) (by decide)
  have B4 := B3.set (i := 6) (v := .bool true) (upd_self _ _ _) (by decide) (by decide)
  walk_at "go"
  refine h _ cv B4 (by walk_at "hpx") hcv ?_
  exact ((((Rest.refl).new hcv).upd).upd).upd

theorem c_Slot (H : ProgL W) {self cv : Addr} {out : List UInt8} {room o : Nat} {g : Nat → Option V} {xs : List V} (B : BR hp self out room g) (h6 : g 6 = some (.bool true)) (h1 : g 1 = some (.ref cv)) (hcv : hp cv = some (.list xs)) (ho : o < xs.length) (hz : xs.length ≤ 1000) (hn : 2 ≤ n)
    (h : ∀ hp', BR hp' self out room g → hp' cv = some (.list (xs.set o (.int (out.length : Nat)))) → RestX self cv hp hp' → k .none hp') : CallP W n A_Builder_Slot [.ref self, .int o] [] [] hp k := by
  obtain ⟨n, rfl⟩ : ∃ m, n = m + 1 := ⟨n - 1, by omega⟩
  refine H.Builder_Slot.call (stOk_of H.tab) rfl ?_
  unfold B_Builder_Slot
  obtain ⟨f, hs, hfg⟩ := B.at
  have h1' := (hfg 1 (by decide) (by decide)).trans h1
  walk_at "go"
  refine c_assertNested H hs ((hfg 6 (by decide) (by decide)).trans h6) (by omega) ?_
  walk_at "go"
  refine c_OffsetB H B (by omega) ?_
  walk_at "go"
  refine w_lidx hcv (p := o) (by unfold place; rw [if_pos (by omega)]; simp) ?_
  walk_at "go"
  refine h _ (B.other fun x hx => ?_) (upd_self _ _ _) (RestX.upd (Rest.refl.x))
  rw [hcv] at hx; cases hx
  exact ⟨nofun, nofun⟩

theorem c_PrependSlot (H : ProgL W) {self cv : Addr} {out : List UInt8} {room o mal : Nat} {g : Nat → Option V} {xs : List V} {F : Addr} {w : Nat} {sg : Bool} {sa : Addr} {x : Int} (B : BR hp self out room g) (Fl : FlagOk (TL W) F w sg sa) (hx : inR sg w x)
    (h5 : g 5 = some (.int mal)) (h6 : g 6 = some (.bool true)) (h1 : g 1 = some (.ref cv)) (hcv : hp cv = some (.list xs)) (ho : o < xs.length) (hz : xs.length ≤ 1000) (hb : out.length ≤ 1900) (hn : 5 ≤ n)
    (h : ∀ hp', BR hp' self (laidN w x out) 0 (upM g mal w) → hp' cv = some (.list (xs.set o (.int ((laidN w x out).length : Nat)))) → RestX self cv hp hp' → k .none hp') : CallP W n A_Builder_PrependSlot [.ref self, .ref F, .int o, .int x, .none] [] [] hp k := by
  obtain ⟨n, rfl⟩ : ∃ m, n = m + 1 := ⟨n - 1, by omega⟩
  refine H.Builder_PrependSlot.call (stOk_of H.tab) rfl ?_
  unfold B_Builder_PrependSlot
  obtain ⟨f, hs, hfg⟩ := B.at
  walk_at "go"
  refine ⟨_, rfl, t_true rfl ?_⟩
  walk_at "go"
  refine c_enforce H Fl hx (by omega) ?_
  walk_at "go"
  refine ⟨_, rfl, t_false rfl ?_⟩
  walk_at "go"
  refine ⟨true, rfl, t_true rfl (t_true rfl ?_)⟩
  walk_at "go"
  refine c_Prepend H B h5 Fl hx (by omega) (by omega) fun hp₁ B₁ R₁ => ?_
  obtain ⟨f₁, hs₁, hfg₁⟩ := B₁.at
  have ncs : cv ≠ self := fun z => by rw [z, hs] at hcv; cases hcv
  walk_at "go"
  refine c_Slot H B₁ ((updF_ne (by decide)).trans h6) ((updF_ne (by decide)).trans h1) (R₁ cv _ ncs hcv nofun) ho hz (by omega) fun hp₂ B₂ hcv₂ R₂ => ?_
  walk_at "go"
  exact h hp₂ B₂ hcv₂ (R₁.x.trans R₂)
end
section
variable {W : Wd} {n : Nat} {hp : Hp} {k : K1}
theorem c_U8Slot (H : ProgL W) {self cv : Addr} {out : List UInt8} {room o mal : Nat} {g : Nat → Option V} {xs : List V} {x : Int} (B : BR hp self out room g) (hx : inR false 1 x)
    (h5 : g 5 = some (.int mal)) (h6 : g 6 = some (.bool true)) (h1 : g 1 = some (.ref cv)) (hcv : hp cv = some (.list xs)) (ho : o < xs.length) (hz : xs.length ≤ 1000) (hb : out.length ≤ 1900) (hn : 6 ≤ n)
    (h : ∀ hp', BR hp' self (laidN 1 x out) 0 (upM g mal 1) → hp' cv = some (.list (xs.set o (.int ((laidN 1 x out).length : Nat)))) → RestX self cv hp hp' → k .none hp') : CallP W n A_Builder_PrependUint8Slot [.ref self, .int o, .int x, .none] [] [] hp k := by
  obtain ⟨n, rfl⟩ : ∃ m, n = m + 1 := ⟨n - 1, by omega⟩
  refine H.Builder_PrependUint8Slot.toFnOk.call (stOk_of H.tab) (H.Builder_PrependUint8Slot.bind _ _ _ _) ?_
  unfold B_Builder_PrependUint8Slot
  obtain ⟨f, hs, hfg⟩ := B.at
  walk_at "go"
  refine e_star ?_
  walk_at "go"
  refine ⟨self, _, _, _, rfl, hs, m_Builder_PrependSlot, ?_⟩
  walk_at "go"
  refine ⟨_, rfl, by simp, f_Builder_PrependSlot, ?_⟩
  refine c_PrependSlot H B fl_Uint8 hx h5 h6 h1 hcv ho hz hb (by omega) fun hp₁ B₁ hcv₁ R₁ => ?_
  walk_at "go"
  exact h hp₁ B₁ hcv₁ R₁
end
section
variable {W : Wd} {n : Nat} {hp : Hp} {k : K1}
theorem c_U16Slot (H : ProgL W) {self cv : Addr} {out : List UInt8} {room o mal : Nat} {g : Nat → Option V} {xs : List V} {x : Int} (B : BR hp self out room g) (hx : inR false 2 x)
    (h5 : g 5 = some (.int mal)) (h6 : g 6 = some (.bool true)) (h1 : g 1 = some (.ref cv)) (hcv : hp cv = some (.list xs)) (ho : o < xs.length) (hz : xs.length ≤ 1000) (hb : out.length ≤ 1900) (hn : 6 ≤ n)
    (h : ∀ hp', BR hp' self (laidN 2 x out) 0 (upM g mal 2) → hp' cv = some (.list (xs.set o (.int ((laidN 2 x out).length : Nat)))) → RestX self cv hp hp' → k .none hp') : CallP W n A_Builder_PrependUint16Slot [.ref self, .int o, .int x, .none] [] [] hp k := by
  obtain ⟨n, rfl⟩ : ∃ m, n = m + 1 := ⟨n - 1, by omega⟩
  refine H.Builder_PrependUint16Slot.toFnOk.call (stOk_of H.tab) (H.Builder_PrependUint16Slot.bind _ _ _ _) ?_
  unfold B_Builder_PrependUint16Slot
  obtain ⟨f, hs, hfg⟩ := B.at
  walk_at "go"
  refine e_star ?_
  walk_at "go"
  refine ⟨self, _, _, _, rfl, hs, m_Builder_PrependSlot, ?_⟩
  walk_at "go"
  refine ⟨_, rfl, by simp, f_Builder_PrependSlot, ?_⟩
  refine c_PrependSlot H B fl_Uint16 hx h5 h6 h1 hcv ho hz hb (by omega) fun hp₁ B₁ hcv₁ R₁ => ?_
  walk_at "go"
  exact h hp₁ B₁ hcv₁ R₁
end
section
variable {W : Wd} {n : Nat} {hp : Hp} {k : K1}
theorem c_U32Slot (H : ProgL W) {self cv : Addr} {out : List UInt8} {room o mal : Nat} {g : Nat → Option V} {xs : List V} {x : Int} (B : BR hp self out room g) (hx : inR false 4 x)
    (h5 : g 5 = some (.int mal)) (h6 : g 6 = some (.bool true)) (h1 : g 1 = some (.ref cv)) (hcv : hp cv = some (.list xs)) (ho : o < xs.length) (hz : xs.length ≤ 1000) (hb : out.length ≤ 1900) (hn : 6 ≤ n)
    (h : ∀ hp', BR hp' self (laidN 4 x out) 0 (upM g mal 4) → hp' cv = some (.list (xs.set o (.int ((laidN 4 x out).length : Nat)))) → RestX self cv hp hp' → k .none hp') : CallP W n A_Builder_PrependUint32Slot [.ref self, .int o, .int x, .none] [] [] hp k := by
  obtain ⟨n, rfl⟩ : ∃ m, n = m + 1 := ⟨n - 1, by omega⟩
  refine H.Builder_PrependUint32Slot.toFnOk.call (stOk_of H.tab) (H.Builder_PrependUint32Slot.bind _ _ _ _) ?_
  unfold B_Builder_PrependUint32Slot
  obtain ⟨f, hs, hfg⟩ := B.at
  walk_at "go"
  refine e_star ?_
  walk_at "go"
  refine ⟨self, _, _, _, rfl, hs, m_Builder_PrependSlot, ?_⟩
  walk_at "go"
  refine ⟨_, rfl, by simp, f_Builder_PrependSlot, ?_⟩
  refine c_PrependSlot H B fl_Uint32 hx h5 h6 h1 hcv ho hz hb (by omega) fun hp₁ B₁ hcv₁ R₁ => ?_
  walk_at "go"
  exact h hp₁ B₁ hcv₁ R₁
end
section
variable {W : Wd} {n : Nat} {hp : Hp} {k : K1}
theorem c_U64Slot (H : ProgL W) {self cv : Addr} {out : List UInt8} {room o mal : Nat} {g : Nat → Option V} {xs : List V} {x : Int} (B : BR hp self out room g) (hx : inR false 8 x)
    (h5 : g 5 = some (.int mal)) (h6 : g 6 = some (.bool true)) (h1 : g 1 = some (.ref cv)) (hcv : hp cv = some (.list xs)) (ho : o < xs.length) (hz : xs.length ≤ 1000) (hb : out.length ≤ 1900) (hn : 6 ≤ n)
    (h : ∀ hp', BR hp' self (laidN 8 x out) 0 (upM g mal 8) → hp' cv = some (.list (xs.set o (.int ((laidN 8 x out).length : Nat)))) → RestX self cv hp hp' → k .none hp') : CallP W n A_Builder_PrependUint64Slot [.ref self, .int o, .int x, .none] [] [] hp k := by
  obtain ⟨n, rfl⟩ : ∃ m, n = m + 1 := ⟨n - 1, by omega⟩
  refine H.Builder_PrependUint64Slot.toFnOk.call (stOk_of H.tab) (H.Builder_PrependUint64Slot.bind _ _ _ _) ?_
  unfold B_Builder_PrependUint64Slot
  obtain ⟨f, hs, hfg⟩ := B.at
  walk_at "go"
  refine e_star ?_
  walk_at "go"
  refine ⟨self, _, _, _, rfl, hs, m_Builder_PrependSlot, ?_⟩
  walk_at "go"
  refine ⟨_, rfl, by simp, f_Builder_PrependSlot, ?_⟩
  refine c_PrependSlot H B fl_Uint64 hx h5 h6 h1 hcv ho hz hb (by omega) fun hp₁ B₁ hcv₁ R₁ => ?_
  walk_at "go"
  exact h hp₁ B₁ hcv₁ R₁
end
end D5
section D6

section
variable {W : Wd} {n : Nat} {hp : Hp} {k : K1}

/-- a slot's entry in the row of slots -/
noncomputable def entV (oo e : Nat) : Int := if e = 0 then 0 else (oo : Int) - e
/-- what is left of the slots, from the last on, when those at the end that are empty fall off -/
noncomputable def cutZ (trim : Bool) (r : List Nat) : List Nat := if trim then r.dropWhile (· == 0) else r
noncomputable def ents (oo : Nat) (l : List Nat) : List UInt8 := l.flatMap fun e => leE 2 (entV oo e)

theorem cutZ_len (trim : Bool) (r : List Nat) : (cutZ trim r).length ≤ r.length := by
  unfold cutZ
  split
  · exact (List.dropWhile_sublist _).length_le
  · exact Nat.le_refl _
theorem cutZ_zero {r : List Nat} : cutZ true (0 :: r) = cutZ true r := by unfold cutZ; simp
theorem cutZ_some {trim : Bool} {e : Nat} {r : List Nat} (h : e ≠ 0) : cutZ trim (e :: r) = e :: cutZ false r := by unfold cutZ; cases trim <;> simp [h]
theorem cutZ_false {e : Nat} {r : List Nat} : cutZ false (e :: r) = e :: cutZ false r := by unfold cutZ; simp
theorem ents_len (oo : Nat) : ∀ l : List Nat, (ents oo l).length = 2 * l.length
  | [] => rfl
  | e :: r => by
    have := ents_len oo r
    unfold ents at this ⊢
    rw [List.flatMap_cons, List.length_append, this, leE_len, List.length_cons]; omega
theorem ents_app (oo : Nat) (l m : List Nat) : ents oo (l ++ m) = ents oo l ++ ents oo m := by unfold ents; simp

theorem upM_same {g : Nat → Option V} {mal size : Nat} (h : g 5 = some (.int mal)) (hs : size ≤ mal) : upM g mal size = g := by
  funext i
  unfold upM updF
  split
  · rename_i e; rw [e, h, Nat.max_eq_left hs]
  · rfl

noncomputable abbrev keyBody : List S := [.ite (.cmp .Eq (.var 4) (.int 0))
       [.ite (.var 3)
         [.cont]
         []]
       [.asg (.var 4) (.bin .Sub (.var 1) (.var 4)),
       .asg (.var 3) (.bool false)],
     .expr (.meth (.var 2) "append" [(.var 4)] [] [])]

theorem key_loop (H : ProgL W) {self cv D : Addr} {oo : Nat} {xs ys : List V} {K : KS} (hDc : D ≠ cv) {l : List (Option V)} : ∀ (r : List Nat) (trim : Bool) (acc : List V) (hp : Hp) (v4 : Option V),
    hp D = some (.list acc) → hp cv = some (.list xs) → acc.length + r.length ≤ 1000 →
    (∀ hp' v4' trim', hp' D = some (.list (acc ++ (cutZ trim r).map fun e => V.int (entV oo e))) → (∀ y, y ≠ D → hp' y = hp y) → K .next (some (.ref self) :: some (.int (oo : Nat)) :: some (.ref D) :: some (.bool trim') :: v4' :: l) hp') →
    forGo (.lst cv xs ys) (fun x vars₁ hp₂ q => vcT (TL W) n (.var 4) x vars₁ hp₂ fun vars₂ hp₃ => vcSs (TL W) n keyBody vars₂ hp₃ q) (r.map fun e => V.int (e : Nat)) (some (.ref self) :: some (.int (oo : Nat)) :: some (.ref D) :: some (.bool trim) :: v4 :: l) hp K
  | [], trim, acc, hp, v4, hD, hc, hl, fin => by
    refine ⟨hc, fin hp v4 trim ?_ fun _ _ => rfl⟩
    rw [hD]; unfold cutZ; cases trim <;> simp
  | e :: r, trim, acc, hp, v4, hD, hc, hl, fin => by
    simp only [List.length_cons] at hl
    refine ⟨hc, ?_⟩
    have push : ∀ (v : Int) (t : Bool) (hp : Hp), hp D = some (.list acc) → hp cv = some (.list xs) → cutZ trim (e :: r) = e :: cutZ false r → v = entV oo e → t = false →
        (∀ hp' v4' trim', hp' D = some (.list (acc ++ (cutZ trim (e :: r)).map fun e => V.int (entV oo e))) → (∀ y, y ≠ D → hp' y = hp y) → K .next (some (.ref self) :: some (.int (oo : Nat)) :: some (.ref D) :: some (.bool trim') :: v4' :: l) hp') →
        forGo (.lst cv xs ys) (fun x vars₁ hp₂ q => vcT (TL W) n (.var 4) x vars₁ hp₂ fun vars₂ hp₃ => vcSs (TL W) n keyBody vars₂ hp₃ q) (r.map fun e => V.int (e : Nat)) (some (.ref self) :: some (.int (oo : Nat)) :: some (.ref D) :: some (.bool t) :: some (.int v) :: l) (hp.upd D (.list (acc ++ [V.int v]))) K := by
      intro v t hp hD hc hcut ev et fin
      subst et
      refine key_loop H hDc r false (acc ++ [.int v]) _ _ (upd_self _ _ _) ((upd_ne hDc.symm).trans hc) (by simp; omega) fun hp' v4' trim' h1 h2 => fin hp' v4' trim' ?_ fun y hy => (h2 y hy).trans (upd_ne hy)
      rw [h1, hcut, List.map_cons, ev, List.append_assoc]; rfl
    walk_at "go"
    by_cases hz : e = 0
    · subst hz
      refine ⟨true, x_eq rfl, t_true rfl ?_⟩
      walk_at "go"
      cases trim with
      | true =>
        refine t_true rfl ?_
        walk_at "go"
        refine key_loop H hDc r true acc hp _ hD hc (by omega) fun hp' v4' trim' h1 h2 => fin hp' v4' trim' ?_ h2
        rw [h1, cutZ_zero]
      | false =>
        refine t_false rfl ?_
        walk_at "go"
        refine r_app hD ?_
        walk_at "go"
        refine c_app hD (by omega) ?_
        walk_at "go"
        exact push 0 false hp hD hc cutZ_false rfl rfl fin
    · refine ⟨false, x_neq (by omega), t_false rfl ?_⟩
      walk_at "go"
      refine r_app hD ?_
      walk_at "go"
      refine c_app hD (by omega) ?_
      walk_at "go"
      exact push ((oo : Int) - (e : Int)) false hp hD hc (cutZ_some hz) (by unfold entV; rw [if_neg hz]) rfl fin

noncomputable abbrev entBody : List S := [.asg (.var 9) (.int 0),
       .asg (.var 4) (.idx (.attr (.var 0) "current_vtable") (.var 7)),
       .aug 7 .Sub (.int 1),
       .ite (.cmp .Eq (.var 4) (.int 0))
         [.ite (.var 3)
           [.aug 8 .Add (.int 1),
           .cont]
           []]
         [.asg (.var 9) (.bin .Sub (.var 1) (.var 4)),
         .asg (.var 3) (.bool false)],
       .expr (.meth (.var 0) "PrependVOffsetT" [(.var 9)] [] [])]

theorem laid_even {x : Int} {out : List UInt8} (h : out.length % 2 = 0) : laidN 2 x out = leE 2 x ++ out := by
  unfold laidN padN
  rw [h]; rfl

theorem ent_loop (H : ProgL W) {self cv : Addr} {oo mal : Nat} {g : Nat → Option V} {slots : List Nat} {K : KS} {v2 v5 v6 v10 v11 : Option V} (h5 : g 5 = some (.int mal)) (hm : 2 ≤ mal) (h1 : g 1 = some (.ref cv)) (hle : ∀ e ∈ slots, e ≤ oo) (hoo : oo ≤ 4000) (hn : 6 ≤ n) (hsl : slots.length ≤ 200) :
    ∀ (r done : List Nat) (trim : Bool) (tr : Nat) (out : List UInt8) (room : Nat) (hp : Hp) (v4 v9 : Option V), slots = r.reverse ++ done → BR hp self out room g → hp cv = some (.list (slots.map fun e => V.int (e : Nat))) → out.length % 2 = 0 → out.length + 2 * r.length ≤ 2000 →
    (∀ hp' room' v3' v4' v7' v9', BR hp' self (ents oo (cutZ trim r).reverse ++ out) room' g → Rest self hp hp' → K .next [some (.ref self), some (.int (oo : Nat)), v2, v3', v4', v5, v6, v7', some (.int ((tr + (r.length - (cutZ trim r).length) : Nat) : Int)), v9', v10, v11] hp') →
    WhileP W n (.cmp .GtE (.var 7) (.int 0)) entBody [some (.ref self), some (.int (oo : Nat)), v2, some (.bool trim), v4, v5, v6, some (.int ((r.length : Int) - 1)), some (.int (tr : Nat)), v9, v10, v11] hp K
  | [], done, trim, tr, out, room, hp, v4, v9, hsp, B, hcv, hev, hlen, fin => by
    refine whileP_of (stOk_of H.tab) ?_
    walk_at "go"
    refine ⟨false, x_nge (by simp), t_false rfl ?_⟩
    have := fin hp room (some (.bool trim)) v4 (some (.int (((([] : List Nat).length : Nat) : Int) - 1))) v9
    have e1 : cutZ trim ([] : List Nat) = [] := by unfold cutZ; cases trim <;> rfl
    rw [e1] at this
    exact this B .refl
  | e :: r, done, trim, tr, out, room, hp, v4, v9, hsp, B, hcv, hev, hlen, fin => by
    have hsp' : slots = r.reverse ++ (e :: done) := by rw [hsp]; simp
    have hmem : e ∈ slots := by rw [hsp']; simp
    have he := hle e hmem
    have hrl : r.length < slots.length := by rw [hsp']; simp
    have hat : slots[r.length]? = some e := by rw [hsp', List.getElem?_append_right (by simp)]; simp
    simp only [List.length_cons] at hlen
    obtain ⟨f, hs, hfg⟩ := B.at
    have hf1 := (hfg 1 (by decide) (by decide)).trans h1
    have ncs : cv ≠ self := fun z => by rw [z, hs] at hcv; cases hcv
    have e7 : (((e :: r).length : Nat) : Int) - 1 = (r.length : Nat) := by simp
    refine whileP_of (stOk_of H.tab) ?_
    rw [e7]
    walk_at "go"
    refine ⟨true, x_ge (by omega), t_true rfl ?_⟩
    walk_at "go"
    refine ⟨.int (e : Nat), ?_, ?_⟩
    · unfold idxV
      simp only [hcv]
      unfold place
      rw [if_pos (by rw [List.length_map]; omega)]
      simp [hat]
    walk_at "go"
    have more : ∀ (x : Int) (v3 : Bool), v3 = false → x = entV oo e → cutZ trim (e :: r) = e :: cutZ false r → ∀ v4 v9, CallP W n A_Builder_PrependVOffsetT [.ref self, .int x] [] [] hp fun _ hp₁ =>
        WhileP W n (.cmp .GtE (.var 7) (.int 0)) entBody [some (.ref self), some (.int (oo : Nat)), v2, some (.bool v3), v4, v5, v6, some (.int ((r.length : Int) - 1)), some (.int (tr : Nat)), v9, v10, v11] hp₁ K := by
      intro x v3 e3 ex hcut v4 v9
      subst e3
      refine c_PrependVO H B h5 ?_ (by omega) (by omega) fun hp₁ B₁ R₁ => ?_
      · rw [ex]; unfold entV inR; simp; split <;> omega
      rw [upM_same h5 hm, laid_even hev] at B₁
      refine ent_loop H h5 hm h1 hle hoo hn hsl r (e :: done) false tr _ 0 hp₁ v4 v9 hsp' B₁ (R₁ cv _ ncs hcv nofun) (by simp [leE_len]; omega) (by simp [leE_len]; omega) fun hp' room' v3' v4' v7' v9' B' R' => ?_
      have := fin hp' room' v3' v4' v7' v9'
      rw [hcut] at this
      rw [List.reverse_cons, ents_app, List.length_cons, List.length_cons, show r.length + 1 - ((cutZ false r).length + 1) = r.length - (cutZ false r).length by omega] at this
      refine this ?_ (R₁.trans R')
      have e2 : ents oo [e] = leE 2 x := by unfold ents; rw [ex]; simp
      rw [e2, List.append_assoc]; exact B'
    by_cases hz : e = 0
    · subst hz
      refine ⟨true, x_eq rfl, t_true rfl ?_⟩
      walk_at "go"
      cases trim with
      | true =>
        refine t_true rfl ?_
        walk_at "go"
        show WhileP W n (.cmp .GtE (.var 7) (.int 0)) entBody [some (.ref self), some (.int (oo : Nat)), v2, some (.bool true), some (.int ((0 : Nat) : Int)), v5, v6, some (.int ((r.length : Int) - 1)), some (.int ((tr : Int) + 1)), some (.int 0), v10, v11] hp K
        have et : (tr : Int) + 1 = ((tr + 1 : Nat) : Int) := by omega
        rw [et]
        refine ent_loop H h5 hm h1 hle hoo hn hsl r (0 :: done) true (tr + 1) out room hp _ _ hsp' B hcv hev (by omega) fun hp' room' v3' v4' v7' v9' B' R' => ?_
        have := fin hp' room' v3' v4' v7' v9'
        have hc := cutZ_len true r
        rw [cutZ_zero, List.length_cons, show tr + (r.length + 1 - (cutZ true r).length) = tr + 1 + (r.length - (cutZ true r).length) by omega] at this
        exact this B' R'
      | false =>
        refine t_false rfl ?_
        walk_at "go"
        exact more 0 false rfl rfl cutZ_false _ _
    · refine ⟨false, x_neq (by omega), t_false rfl ?_⟩
      walk_at "go"
      exact more ((oo : Int) - (e : Int)) false rfl (by unfold entV; rw [if_neg hz]) (cutZ_some hz) _ _
end
end D6
section D7

section
variable {W : Wd} {n : Nat} {hp : Hp} {k : K1}

theorem src_rev {a : Addr} {xs : List V} {q : Src → Prop} (e : hp a = some (.list xs)) (h : q (.lst a xs xs.reverse)) : srcK .rev [.ref a] hp q := by
  unfold srcK; simp only [e]; exact h
theorem BR.agree {self D : Addr} {out : List UInt8} {room : Nat} {g : Nat → Option V} {hp' : Hp} (B : BR hp self out room g) (hD : ∀ x, hp D = some x → (∀ C f, x ≠ .inst C f) ∧ ∀ b, x ≠ .barr b) (h : ∀ y, y ≠ D → hp' y = hp y) : BR hp' self out room g := by
  obtain ⟨f, bb, bytes, head, hs, h0, h4, hfg, hbb, r⟩ := B
  exact ⟨f, bb, bytes, head, (h _ fun z => (hD _ (z ▸ hs)).1 _ _ rfl).trans hs, h0, h4, hfg, (h _ fun z => (hD _ (z ▸ hbb)).2 _ rfl).trans hbb, r⟩
theorem lst_ref {a : Addr} {xs : List V} (e : hp a = some (.list xs)) : lstOf hp (.ref a) = some xs := by unfold lstOf; simp only [e]

theorem mapM_key {f : V → Option KD} (hf : ∀ i, f (.int i) = some (KD.i i)) : ∀ l : List Int, (l.map V.int).mapM f = some (l.map KD.i)
  | [] => rfl
  | i :: r => by
    rw [List.map_cons, List.mapM_cons, mapM_key hf r, hf]; rfl
theorem key_ints (l : List Int) : keyOf (.tup (l.map V.int)) = some (.inr (l.map KD.i)) := by
  show Option.map Sum.inr (List.mapM _ (l.map V.int)) = _
  rw [mapM_key (fun _ => rfl)]; rfl

theorem patch_mid {pre P q x rest : List UInt8} {head p : Nat} (hpre : pre.length = head) (hP : P.length = p) (hq : q.length = 4) :
    ((pre ++ (P ++ (q ++ rest))).take (head + p) ++ x ++ (pre ++ (P ++ (q ++ rest))).drop (head + p + 4)).drop head = P ++ (x ++ rest) := by
  have e1 : (pre ++ (P ++ (q ++ rest))).take (head + p) = pre ++ P := by
    rw [← List.append_assoc]; exact List.take_left' (by rw [List.length_append]; omega)
  have e2 : (pre ++ (P ++ (q ++ rest))).drop (head + p + 4) = rest := by
    rw [show pre ++ (P ++ (q ++ rest)) = (pre ++ P ++ q) ++ rest by simp]
    exact List.drop_left' (by rw [List.length_append, List.length_append]; omega)
  rw [e1, e2, List.append_assoc, List.append_assoc]
  exact List.drop_left' hpre

/-- the row of slots and its table, as they are written -/
noncomputable def vtab (oo osz : Nat) (slots : List Nat) (rest : List UInt8) : List UInt8 :=
  leE 2 (((cutZ true slots.reverse).length + 2 : Nat) * 2 : Int) ++ (leE 2 (osz : Nat) ++ (ents oo (cutZ true slots.reverse).reverse ++ (leE 4 ((4 + 2 * (cutZ true slots.reverse).length : Nat) : Int) ++ rest)))
/-- the key under which it is kept -/
noncomputable def vkey (oo osz : Nat) (slots : List Nat) : List KD := (((cutZ true slots.reverse).map (entV oo)) ++ [(osz : Int)]).map KD.i

theorem c_WriteVtable (H : ProgL W) {self cv vt : Addr} {out : List UInt8} {room mal oe : Nat} {g : Nat → Option V} {slots : List Nat} {kvs : List (List KD × V)} (B : BR hp self out room g) (h5 : g 5 = some (.int mal)) (h1 : g 1 = some (.ref cv))
    (hcv : hp cv = some (.list (slots.map fun e => V.int (e : Nat)))) (h7 : g 7 = some (.int oe)) (h10 : g 10 = some (.ref vt)) (hvt : hp vt = some (.tdict kvs)) (hkl : kvs.length ≤ 1000)
    (hle : ∀ e ∈ slots, e ≤ out.length) (hoe : oe ≤ out.length) (hsl : slots.length ≤ 100) (hlen : out.length ≤ 1000) (hn : 7 ≤ n)
    (hno : lookT kvs (vkey (out.length + padN out.length 4 + 4) (out.length + padN out.length 4 + 4 - oe) slots) = none)
    (h : ∀ hp', BR hp' self (vtab (out.length + padN out.length 4 + 4) (out.length + padN out.length 4 + 4 - oe) slots (zeros (padN out.length 4) ++ out)) 0 (updF (upM g mal 4) 1 .none) →
      hp' vt = some (.tdict (putT kvs (vkey (out.length + padN out.length 4 + 4) (out.length + padN out.length 4 + 4 - oe) slots) (.int ((vtab (out.length + padN out.length 4 + 4) (out.length + padN out.length 4 + 4 - oe) slots (zeros (padN out.length 4) ++ out)).length : Nat)))) →
      RestX self vt hp hp' → k (.int ((out.length + padN out.length 4 + 4 : Nat) : Int)) hp') :
    CallP W n A_Builder_WriteVtable [.ref self] [] [] hp k := by
  obtain ⟨n, rfl⟩ : ∃ m, n = m + 1 := ⟨n - 1, by omega⟩
  refine H.Builder_WriteVtable.call (stOk_of H.tab) rfl ?_
  unfold B_Builder_WriteVtable
  obtain ⟨f, hs, hfg⟩ := B.at
  have ncs : cv ≠ self := fun z => by rw [z, hs] at hcv; cases hcv
  have nvs : vt ≠ self := fun z => by rw [z, hs] at hvt; cases hvt
  have ncv : cv ≠ vt := fun z => by rw [z, hvt] at hcv; cases hcv
  have hp4 := padN_lt (len := out.length) (size := 4) (by omega)
  have ps := padN_sum (len := out.length) (size := 4) (by omega)
  walk_at "go"
  refine c_PrependSRel H (off := 0) B h5 (Nat.zero_le _) (by omega) (by omega) fun hp₁ B₁ R₁ => ?_
  generalize hoo : out.length + padN out.length 4 + 4 = oo at h hno
  have ho1 : (laidN 4 ((out.length + padN out.length 4 - 0 + 4 : Nat) : Int) out).length = oo := by rw [laidN_len]; omega
  generalize hout1 : laidN 4 ((out.length + padN out.length 4 - 0 + 4 : Nat) : Int) out = out₁ at B₁ ho1
  have hcv₁ := R₁ cv _ ncs hcv nofun
  have hvt₁ := R₁ vt _ nvs hvt nofun
  obtain ⟨f₁, hs₁, hfg₁⟩ := B₁.at
  walk_at "go"
  refine c_OffsetB H B₁ (by omega) ?_
  walk_at "go"
  refine ⟨by simp, n_ex fun D hD => ?_⟩
  have nDs : D ≠ self := (ne_none hs₁ hD).symm
  have nDc : D ≠ cv := (ne_none hcv₁ hD).symm
  have nDv : D ≠ vt := (ne_none hvt₁ hD).symm
  have B₂ := B₁.new (o := .list []) hD
  have hs₂ : (hp₁.upd D (.list [])) self = _ := (upd_ne nDs.symm).trans hs₁
  have hcv₂ : (hp₁.upd D (.list [])) cv = _ := (upd_ne nDc.symm).trans hcv₁
  have hf1 : f₁ 1 = some (.ref cv) := (hfg₁ 1 (by decide) (by decide)).trans ((updF_ne (by decide)).trans h1)
  have hf7 : f₁ 7 = some (.int oe) := (hfg₁ 7 (by decide) (by decide)).trans ((updF_ne (by decide)).trans h7)
  have hf10 : f₁ 10 = some (.ref vt) := (hfg₁ 10 (by decide) (by decide)).trans ((updF_ne (by decide)).trans h10)
  rw [ho1]
  walk_at "go"
  refine s_for ?_
  walk_at "go"
  refine src_rev hcv₂ ?_
  show forGo _ _ (List.map (fun e : Nat => V.int e) slots).reverse _ _ _
  rw [← List.map_reverse]
  show forGo _ _ _ [some (.ref self), some (.int (oo : Nat)), some (.ref D), some (.bool true), none, none, none, none, none, none, none, none] _ _
  refine key_loop H nDc slots.reverse true [] _ _ (upd_self _ _ _) hcv₂ (by simp; omega) fun hp₃ v4 trim hD₃ hk₃ => ?_
  rw [List.nil_append] at hD₃
  have B₃ : BR hp₃ self out₁ 0 (upM g mal 4) := B₂.agree (fun x hx => by rw [upd_self] at hx; cases hx; exact ⟨nofun, nofun⟩) hk₃
  have hcv₃ : hp₃ cv = some (.list (slots.map fun e => V.int (e : Nat))) := (hk₃ cv nDc.symm).trans hcv₂
  have hvt₃ : hp₃ vt = some (.tdict kvs) := (hk₃ vt nDv.symm).trans ((upd_ne nDv.symm).trans hvt₁)
  have hs₃ : hp₃ self = some (.inst A_Builder f₁) := (hk₃ self nDs.symm).trans hs₂
  walk_at "go"
  have eos : (oo : Int) - (oe : Int) = ((oo - oe : Nat) : Int) := by omega
  rw [eos]
  refine r_app hD₃ ?_
  walk_at "go"
  have hcl := cutZ_len true slots.reverse
  rw [List.length_reverse] at hcl
  refine c_app hD₃ (by simp; omega) ?_
  have B₄ : BR (hp₃.upd D (.list (((cutZ true slots.reverse).map fun e => V.int (entV oo e)) ++ [V.int ((oo - oe : Nat) : Int)]))) self out₁ 0 (upM g mal 4) := B₃.other (fun x hx => by rw [hD₃] at hx; cases hx; exact ⟨nofun, nofun⟩)
  generalize hh4 : hp₃.upd D (.list (((cutZ true slots.reverse).map fun e => V.int (entV oo e)) ++ [V.int ((oo - oe : Nat) : Int)])) = hp₄ at B₄
  have hD₄ : hp₄ D = some (.list (((cutZ true slots.reverse).map fun e => V.int (entV oo e)) ++ [V.int ((oo - oe : Nat) : Int)])) := by rw [← hh4]; exact upd_self _ _ _
  have k4 : ∀ y, y ≠ D → hp₄ y = hp₃ y := fun y hy => by rw [← hh4]; exact upd_ne hy
  have hs₄ := (k4 self nDs.symm).trans hs₃
  have hcv₄ := (k4 cv nDc.symm).trans hcv₃
  have hvt₄ := (k4 vt nDv.symm).trans hvt₃
  walk_at "go"
  refine b_tuple (lst_ref hD₄) (by simp; omega) ?_
  walk_at "go"
  refine r_get hvt₄ ?_
  walk_at "go"
  have ek : keyOf (.tup (((cutZ true slots.reverse).map fun e => V.int (entV oo e)) ++ [V.int ((oo - oe : Nat) : Int)])) = some (.inr (vkey oo (oo - oe) slots)) := by
    have : ((cutZ true slots.reverse).map fun e => V.int (entV oo e)) ++ [V.int ((oo - oe : Nat) : Int)] = (((cutZ true slots.reverse).map (entV oo)) ++ [((oo - oe : Nat) : Int)]).map V.int := by simp
    rw [this, key_ints]; rfl
  refine c_get hvt₄ ek ?_
  rw [hno]
  walk_at "go"
  refine ⟨true, rfl, t_true rfl ?_⟩
  walk_at "go"
  refine b_lenL hcv₄ (by simp; omega) ?_
  walk_at "go"
  refine s_whil ?_
  show WhileP W n _ _ [some (.ref self), some (.int (oo : Nat)), _, some (.bool true), v4, some (.int ((oo - oe : Nat) : Int)), some .none, some (.int (((slots.map fun e => V.int (e : Nat)).length : Nat) - 1 : Int)), some (.int ((0 : Nat) : Int)), none, none, none] _ _
  rw [show (((slots.map fun e => V.int (e : Nat)).length : Nat) : Int) = ((slots.reverse.length : Nat) : Int) by simp]
  have hpl : out₁.length % 2 = 0 := by omega
  refine ent_loop H (g := upM g mal 4) (mal := max mal 4) updF_self (by omega) ((updF_ne (by decide)).trans h1) (fun e he => by have := hle e he; omega) (by omega) (by omega) (by omega) slots.reverse [] true 0 out₁ 0 hp₄ v4 none (by simp) B₄ hcv₄ hpl (by rw [List.length_reverse]; omega) fun hp₅ room₅ v3 v4' v7 v9 B₅ R₅ => ?_
  have hel := ents_len oo (cutZ true slots.reverse).reverse
  rw [List.length_reverse] at hel
  generalize hE : ents oo (cutZ true slots.reverse).reverse = E at B₅ hel
  obtain ⟨f₅, hs₅, hfg₅⟩ := B₅.at
  have hcv₅ := R₅ cv _ ncs hcv₄ nofun
  have hvt₅ := R₅ vt _ nvs hvt₄ nofun
  have gg5 : upM g mal 4 5 = some (.int ((max mal 4 : Nat) : Int)) := updF_self
  walk_at "go"
  refine c_PrependVO H B₅ gg5 (by unfold inR; simp; omega) (by rw [List.length_append]; omega) (by omega) fun hp₆ B₆ R₆ => ?_
  rw [upM_same gg5 (by omega), laid_even (by rw [List.length_append]; omega)] at B₆
  obtain ⟨f₆, hs₆, hfg₆⟩ := B₆.at
  have hcv₆ := R₆ cv _ ncs hcv₅ nofun
  have hvt₆ := R₆ vt _ nvs hvt₅ nofun
  have hf61 : f₆ 1 = some (.ref cv) := (hfg₆ 1 (by decide) (by decide)).trans ((updF_ne (by decide)).trans h1)
  walk_at "go"
  refine b_lenL hcv₆ (by simp; omega) ?_
  walk_at "go"
  refine b_mul (.inl (by simp; omega)) ?_
  have evb : (((slots.map fun e => V.int (e : Nat)).length : Nat) - ((0 + (slots.reverse.length - (cutZ true slots.reverse).length) : Nat) : Int) + 2) * 2 = ((((cutZ true slots.reverse).length + 2 : Nat) : Int) * 2) := by
    rw [List.length_map, List.length_reverse]; omega
  rw [evb]
  walk_at "go"
  refine c_PrependVO H B₆ gg5 (by unfold inR; simp; omega) (by simp [leE_len]; omega) (by omega) fun hp₇ B₇ R₇ => ?_
  rw [upM_same gg5 (by omega), laid_even (by simp [leE_len]; omega)] at B₇
  have hcv₇ := R₇ cv _ ncs hcv₆ nofun
  have hvt₇ := R₇ vt _ nvs hvt₆ nofun
  have B₇' := B₇
  generalize hO : leE 2 ((((cutZ true slots.reverse).length + 2 : Nat) : Int) * 2) ++ (leE 2 ((oo - oe : Nat) : Int) ++ (E ++ out₁)) = O at B₇ B₇'
  have hOl : O.length = 4 + 2 * (cutZ true slots.reverse).length + oo := by rw [← hO]; simp [leE_len]; omega
  obtain ⟨f₇, bb, bytes, head, hs₇, h0₇, h4₇, hfg₇, hbb, hd, hr0, hl, hl2⟩ := B₇
  have nbs : bb ≠ self := fun z => by rw [z, hs₇] at hbb; cases hbb
  have nbv : bb ≠ vt := fun z => by rw [z, hvt₇] at hbb; cases hbb
  walk_at "go"
  refine c_OffsetB H B₇' (by omega) ?_
  walk_at "go"
  have ei : ((bytes.length : Int) - (oo : Int)).toNat = bytes.length - oo := by omega
  have ex : ((O.length : Nat) : Int) - (oo : Int) = ((4 + 2 * (cutZ true slots.reverse).length : Nat) : Int) := by omega
  rw [ex]
  refine c_Write H u_int32 hbb (by omega) (by unfold inR; simp; omega) (by omega) (by omega) ?_
  rw [ei]
  -- the octets as they stand now
  have hO2 : O = leE 2 ((((cutZ true slots.reverse).length + 2 : Nat) : Int) * 2) ++ (leE 2 ((oo - oe : Nat) : Int) ++ (E ++ out₁)) := hO.symm
  have hv : vtab oo (oo - oe) slots (zeros (padN out.length 4) ++ out) = leE 2 ((((cutZ true slots.reverse).length + 2 : Nat) : Int) * 2) ++ (leE 2 ((oo - oe : Nat) : Int) ++ (E ++ (leE 4 ((4 + 2 * (cutZ true slots.reverse).length : Nat) : Int) ++ (zeros (padN out.length 4) ++ out)))) := by
    unfold vtab; rw [hE]
  have hbd : bytes = bytes.take head ++ O := by rw [← hd, List.take_append_drop]
  have hth : (bytes.take head).length = head := by rw [List.length_take]; omega
  have key : (bytes.take (bytes.length - oo) ++ leE 4 ((4 + 2 * (cutZ true slots.reverse).length : Nat) : Int) ++ bytes.drop (bytes.length - oo + 4)).drop head = vtab oo (oo - oe) slots (zeros (padN out.length 4) ++ out) := by
    have h1 : leE 2 ((((cutZ true slots.reverse).length + 2 : Nat) : Int) * 2) ++ (leE 2 ((oo - oe : Nat) : Int) ++ (E ++ out₁)) = (leE 2 ((((cutZ true slots.reverse).length + 2 : Nat) : Int) * 2) ++ (leE 2 ((oo - oe : Nat) : Int) ++ E)) ++ (leE 4 ((out.length + padN out.length 4 - 0 + 4 : Nat) : Int) ++ (zeros (padN out.length 4) ++ out)) := by
      rw [← hout1]; unfold laidN; simp
    have h2 := patch_mid (pre := bytes.take head) (P := leE 2 ((((cutZ true slots.reverse).length + 2 : Nat) : Int) * 2) ++ (leE 2 ((oo - oe : Nat) : Int) ++ E)) (q := leE 4 ((out.length + padN out.length 4 - 0 + 4 : Nat) : Int)) (x := leE 4 ((4 + 2 * (cutZ true slots.reverse).length : Nat) : Int)) (rest := zeros (padN out.length 4) ++ out)
      hth (p := 4 + 2 * (cutZ true slots.reverse).length) (by simp [leE_len]; omega) (leE_len _ _)
    rw [← h1, ← hO2, ← hbd] at h2
    rw [show bytes.length - oo = head + (4 + 2 * (cutZ true slots.reverse).length) by omega, h2, hv]
    simp
  have hvl : (vtab oo (oo - oe) slots (zeros (padN out.length 4) ++ out)).length = O.length := by
    rw [hv, hOl]; simp [leE_len, zeros]; omega
  have B₈ : BR (hp₇.upd bb (.barr (bytes.take (bytes.length - oo) ++ leE 4 ((4 + 2 * (cutZ true slots.reverse).length : Nat) : Int) ++ bytes.drop (bytes.length - oo + 4)))) self (vtab oo (oo - oe) slots (zeros (padN out.length 4) ++ out)) 0 (upM g mal 4) :=
    ⟨f₇, bb, _, head, (upd_ne nbs.symm).trans hs₇, h0₇, h4₇, hfg₇, upd_self _ _ _, key, Nat.zero_le _, by simp [leE_len]; omega, by simp [leE_len]; omega⟩
  generalize hh8 : hp₇.upd bb (.barr (bytes.take (bytes.length - oo) ++ leE 4 ((4 + 2 * (cutZ true slots.reverse).length : Nat) : Int) ++ bytes.drop (bytes.length - oo + 4))) = hp₈ at B₈
  have R₈ : Rest self hp₇ hp₈ := by rw [← hh8]; exact Rest.refl.barr hbb
  have hvt₈ := R₈ vt _ nvs hvt₇ nofun
  obtain ⟨f₈, hs₈, hfg₈⟩ := B₈.at
  have hf810 : f₈ 10 = some (.ref vt) := (hfg₈ 10 (by decide) (by decide)).trans ((updF_ne (by decide)).trans h10)
  walk_at "go"
  refine c_OffsetB H B₈ (by omega) ?_
  walk_at "go"
  refine w_tidx hvt₈ ek (by omega) ?_
  have B₉ := B₈.other (c := vt) (o := .tdict (putT kvs (vkey oo (oo - oe) slots) (.int ((vtab oo (oo - oe) slots (zeros (padN out.length 4) ++ out)).length : Nat)))) (fun x hx => by rw [hvt₈] at hx; cases hx; exact ⟨nofun, nofun⟩)
  have hs₉ := (upd_ne (hp := hp₈) (o := .tdict (putT kvs (vkey oo (oo - oe) slots) (.int ((vtab oo (oo - oe) slots (zeros (padN out.length 4) ++ out)).length : Nat)))) nvs.symm).trans hs₈
  walk_at "go"
  refine h _ (B₉.set hs₉ (by decide) (by decide)) (by walk_at "hpx") ?_
  refine RestX.updS (RestX.upd ?_)
  refine ((((R₁.x.trans (fun x o nx nv e nb => ?_)).trans R₅.x).trans R₆.x).trans R₇.x).trans R₈.x
  have nxD : x ≠ D := fun z => by subst z; rw [hD] at e; cases e
  exact (k4 x nxD).trans ((hk₃ x nxD).trans ((upd_ne nxD).trans e))
end
end D7
section D8

section
variable {W : Wd} {n : Nat} {hp : Hp} {k : K1}

theorem c_EndObject (H : ProgL W) {self cv vt : Addr} {out : List UInt8} {room mal oe : Nat} {g : Nat → Option V} {slots : List Nat} {kvs : List (List KD × V)} (B : BR hp self out room g) (h5 : g 5 = some (.int mal)) (h6 : g 6 = some (.bool true)) (h1 : g 1 = some (.ref cv))
    (hcv : hp cv = some (.list (slots.map fun e => V.int (e : Nat)))) (h7 : g 7 = some (.int oe)) (h10 : g 10 = some (.ref vt)) (hvt : hp vt = some (.tdict kvs)) (hkl : kvs.length ≤ 1000)
    (hle : ∀ e ∈ slots, e ≤ out.length) (hoe : oe ≤ out.length) (hsl : slots.length ≤ 100) (hlen : out.length ≤ 1000) (hn : 8 ≤ n)
    (hno : lookT kvs (vkey (out.length + padN out.length 4 + 4) (out.length + padN out.length 4 + 4 - oe) slots) = none)
    (h : ∀ hp', BR hp' self (vtab (out.length + padN out.length 4 + 4) (out.length + padN out.length 4 + 4 - oe) slots (zeros (padN out.length 4) ++ out)) 0 (updF (upM (updF g 6 (.bool false)) mal 4) 1 .none) →
      hp' vt = some (.tdict (putT kvs (vkey (out.length + padN out.length 4 + 4) (out.length + padN out.length 4 + 4 - oe) slots) (.int ((vtab (out.length + padN out.length 4 + 4) (out.length + padN out.length 4 + 4 - oe) slots (zeros (padN out.length 4) ++ out)).length : Nat)))) →
      RestX self vt hp hp' → k (.int ((out.length + padN out.length 4 + 4 : Nat) : Int)) hp') :
    CallP W n A_Builder_EndObject [.ref self] [] [] hp k := by
  obtain ⟨n, rfl⟩ : ∃ m, n = m + 1 := ⟨n - 1, by omega⟩
  refine H.Builder_EndObject.call (stOk_of H.tab) rfl ?_
  unfold B_Builder_EndObject
  obtain ⟨f, hs, hfg⟩ := B.at
  have ncs : cv ≠ self := fun z => by rw [z, hs] at hcv; cases hcv
  have nvs : vt ≠ self := fun z => by rw [z, hs] at hvt; cases hvt
  walk_at "go"
  refine c_assertNested H hs ((hfg 6 (by decide) (by decide)).trans h6) (by omega) ?_
  have B₁ := B.set (i := 6) (v := .bool false) hs (by decide) (by decide)
  walk_at "go"
  refine c_WriteVtable H B₁ ((updF_ne (by decide)).trans h5) ((updF_ne (by decide)).trans h1) ((upd_ne ncs).trans hcv) ((updF_ne (by decide)).trans h7) ((updF_ne (by decide)).trans h10) ((upd_ne nvs).trans hvt) hkl hle hoe hsl hlen (by omega) hno fun hp₂ B₂ hv₂ R₂ => ?_
  walk_at "go"
  exact h hp₂ B₂ hv₂ fun x o a b e nb => R₂ x o a b ((upd_ne a).trans e) nb

/-- the end of what is written: the way to the root, and the size ahead -/
noncomputable def finPad (sized : Bool) (mal : Nat) (out : List UInt8) : List UInt8 := zeros (padN (out.length + (if sized then 8 else 4)) mal) ++ out
noncomputable def finRoot (root : Nat) (out : List UInt8) : List UInt8 := laidN 4 ((out.length + padN out.length 4 - root + 4 : Nat) : Int) out
noncomputable def finOut (sized : Bool) (mal root : Nat) (out : List UInt8) : List UInt8 :=
  if sized then laidN 4 (((finRoot root (finPad sized mal out)).length : Nat) : Int) (finRoot root (finPad sized mal out)) else finRoot root (finPad sized mal out)

theorem c_zFinish (H : ProgL W) {self : Addr} {out : List UInt8} {room mal root : Nat} {g : Nat → Option V} {sized : Bool} (B : BR hp self out room g) (h5 : g 5 = some (.int mal)) (hm : mal = 1 ∨ mal = 2 ∨ mal = 4 ∨ mal = 8) (hr : root ≤ out.length) (hlen : out.length ≤ 1500) (hn : 6 ≤ n)
    (h : ∀ hp' g' v, BR hp' self (finOut sized mal root out) 0 g' → g' 2 = some (.bool true) → Rest self hp hp' → k v hp') : CallP W n A_Builder_zFinish [.ref self, .int root, .bool sized] ["file_identifier"] [.none] hp k := by
  obtain ⟨n, rfl⟩ : ∃ m, n = m + 1 := ⟨n - 1, by omega⟩
  refine H.Builder_zFinish.toFnOk.call (stOk_of H.tab) (H.Builder_zFinish.bind _ _ _ _) ?_
  unfold B_Builder_zFinish
  obtain ⟨f, hs, hfg⟩ := B.at
  have hf5 : f 5 = some (.int mal) := (hfg 5 (by decide) (by decide)).trans h5
  walk_at "go"
  refine c_enforce H fl_UO (by unfold inR; simp; omega) (by omega) ?_
  walk_at "go"
  refine ⟨_, rfl, t_false rfl ?_⟩
  walk_at "go"
  -- the rest, by the size of what goes ahead
  have key : ∀ ps : Nat, ps = (if sized then 8 else 4) → vcSs (TL W) n (B_Builder_zFinish.drop 4) [some (.ref self), some (.int root), some (.bool sized), some .none, some (.int (ps : Nat)), none, none] hp (retK k) := by
    intro ps eps
    unfold B_Builder_zFinish
    simp only [List.drop_succ_cons, List.drop_zero]
    walk_at "go"
    refine c_Prep H B h5 hm (by rw [eps]; split <;> omega) (by omega) fun hp₁ B₁ R₁ => ?_
    rw [show zeros (padN (out.length + ps) mal) ++ out = finPad sized mal out by unfold finPad; rw [eps]] at B₁
    have hfl : (finPad sized mal out).length = padN (out.length + (if sized then 8 else 4)) mal + out.length := by unfold finPad; simp [zeros]
    have hpm := padN_lt (len := out.length + (if sized then 8 else 4)) (size := mal) (by omega)
    obtain ⟨f₁, hs₁, hfg₁⟩ := B₁.at
    walk_at "go"
    refine ⟨_, rfl, t_false rfl ?_⟩
    walk_at "go"
    refine c_PrependURel H (off := root) B₁ updF_self (by omega) (by omega) (by omega) fun hp₂ B₂ R₂ => ?_
    have B₂ : BR hp₂ self (finRoot root (finPad sized mal out)) 0 _ := B₂
    have hfr : (finRoot root (finPad sized mal out)).length = 4 + padN (finPad sized mal out).length 4 + (finPad sized mal out).length := laidN_len ..
    have hp4 := padN_lt (len := (finPad sized mal out).length) (size := 4) (by omega)
    obtain ⟨f₂, hs₂, hfg₂⟩ := B₂.at
    have R₁₂ := R₁.trans R₂
    cases sized with
    | false =>
      walk_at "go"
      refine t_false rfl ?_
      walk_at "go"
      have B₃ := B₂.set (i := 2) (v := .bool true) hs₂ (by decide) (by decide)
      obtain ⟨f₃, bb, bytes, head, hs₃, h0₃, h4₃, _⟩ := id B₃
      walk_at "go"
      exact h _ _ _ B₃ updF_self R₁₂.upd
    | true =>
      obtain ⟨f₂', bb, bytes, head, hs₂', h0₂, h4₂, hfg₂', hbb₂, hd₂, hr₂, hl₂, hl2₂⟩ := id B₂
      walk_at "go"
      refine t_true rfl ?_
      walk_at "go"
      have es : (bytes.length : Int) - (head : Int) = (((finRoot root (finPad true mal out)).length : Nat) : Int) := by omega
      rw [es]
      refine c_enforce H fl_Int32 (by unfold inR; simp; omega) (by omega) ?_
      walk_at "go"
      refine c_PrependI32 H B₂ updF_self (by unfold inR; simp; omega) (by omega) (by omega) fun hp₃ B₃ R₃ => ?_
      obtain ⟨f₃, hs₃, hfg₃⟩ := B₃.at
      have B₄ := B₃.set (i := 2) (v := .bool true) hs₃ (by decide) (by decide)
      obtain ⟨f₄, bb₄, bytes₄, head₄, hs₄, h0₄, h4₄, _⟩ := id B₄
      walk_at "go"
      exact h _ _ _ B₄ updF_self (R₁₂.trans R₃).upd
  cases sized with
  | false =>
    refine t_false rfl ?_
    refine s_nil (q_next ?_)
    exact key 4 rfl
  | true =>
    refine t_true rfl ?_
    refine s_aug rfl (e_attr (e_glob g_Int32Flags (a_cls k_Int32Flags_bytewidth (b_add (s_nil (q_next ?_))))))
    exact key 8 rfl

theorem c_Finish (H : ProgL W) {self : Addr} {out : List UInt8} {room mal root : Nat} {g : Nat → Option V} (B : BR hp self out room g) (h5 : g 5 = some (.int mal)) (hm : mal = 1 ∨ mal = 2 ∨ mal = 4 ∨ mal = 8) (hr : root ≤ out.length) (hlen : out.length ≤ 1500) (hn : 7 ≤ n)
    (h : ∀ hp' g' v, BR hp' self (finOut false mal root out) 0 g' → g' 2 = some (.bool true) → Rest self hp hp' → k v hp') : CallP W n A_Builder_Finish [.ref self, .int root] [] [] hp k := by
  obtain ⟨n, rfl⟩ : ∃ m, n = m + 1 := ⟨n - 1, by omega⟩
  refine H.Builder_Finish.toFnOk.call (stOk_of H.tab) (H.Builder_Finish.bind _ _) ?_
  unfold B_Builder_Finish
  obtain ⟨f, hs, hfg⟩ := B.at
  refine s_ret (e_meth (e_var rfl (r_inst hs m_Builder_Builder__Finish ?_)))
  walk_at "go"
  refine ⟨rfl, ?_⟩
  walk_at "go"
  refine c_zFinish H B h5 hm hr hlen (by omega) fun hp' g' v B' h2 R' => ?_
  exact h hp' g' v B' h2 R'
theorem c_FinishS (H : ProgL W) {self : Addr} {out : List UInt8} {room mal root : Nat} {g : Nat → Option V} (B : BR hp self out room g) (h5 : g 5 = some (.int mal)) (hm : mal = 1 ∨ mal = 2 ∨ mal = 4 ∨ mal = 8) (hr : root ≤ out.length) (hlen : out.length ≤ 1500) (hn : 7 ≤ n)
    (h : ∀ hp' g' v, BR hp' self (finOut true mal root out) 0 g' → g' 2 = some (.bool true) → Rest self hp hp' → k v hp') : CallP W n A_Builder_FinishSizePrefixed [.ref self, .int root] [] [] hp k := by
  obtain ⟨n, rfl⟩ : ∃ m, n = m + 1 := ⟨n - 1, by omega⟩
  refine H.Builder_FinishSizePrefixed.toFnOk.call (stOk_of H.tab) (H.Builder_FinishSizePrefixed.bind _ _) ?_
  unfold B_Builder_FinishSizePrefixed
  obtain ⟨f, hs, hfg⟩ := B.at
  refine s_ret (e_meth (e_var rfl (r_inst hs m_Builder_Builder__Finish ?_)))
  walk_at "go"
  refine ⟨rfl, ?_⟩
  walk_at "go"
  refine c_zFinish H B h5 hm hr hlen (by omega) fun hp' g' v B' h2 R' => ?_
  exact h hp' g' v B' h2 R'

theorem c_Output (H : ProgL W) {self : Addr} {out : List UInt8} {room : Nat} {g : Nat → Option V} (B : BR hp self out room g) (h2 : g 2 = some (.bool true)) (hn : 1 ≤ n)
    (h : ∀ hp' c, hp' c = some (.barr out) → BR hp' self out room g → (∀ y o, hp y = some o → hp' y = some o) → k (.ref c) hp') : CallP W n A_Builder_Output [.ref self] [] [] hp k := by
  obtain ⟨n, rfl⟩ : ∃ m, n = m + 1 := ⟨n - 1, by omega⟩
  refine H.Builder_Output.call (stOk_of H.tab) rfl ?_
  unfold B_Builder_Output
  have B0 := B
  obtain ⟨f, bb, bytes, head, hs, h0, h4, hfg, hbb, hd, hr0, hl, hl2⟩ := B
  have hf2 := (hfg 2 (by decide) (by decide)).trans h2
  walk_at "go"
  refine ⟨true, rfl, t_false rfl ?_⟩
  walk_at "go"
  refine l_slA hbb (by omega) (clo (by omega) rfl) chi_none (n_ex fun c hc => ?_)
  walk_at "go"
  refine h _ c ?_ (B0.new hc) (fun y o ey => (upd_ne (ne_none ey hc)).trans ey)
  rw [upd_self]
  congr 2
  unfold cut
  rw [show min ((head : Int)).toNat bytes.length = head by omega, List.take_of_length_le (by simp), hd]

/-! reading -/
noncomputable def rd (sg : Bool) (w : Nat) (b : List UInt8) (i : Nat) : Int := leB sg w (cut b i (i + w))
noncomputable def TR (hp : Hp) (t : Addr) (b : List UInt8) (pos : Nat) : Prop := ∃ f, hp t = some (.inst A_Table f) ∧ f 0 = some (.bytes b) ∧ f 1 = some (.int pos)

theorem c_Table (H : ProgL W) {b : List UInt8} {pos : Nat} (hpos : pos < 2 ^ 32) (hn : 3 ≤ n) (h : ∀ hp' t, TR hp' t b pos → (∀ y o, hp y = some o → hp' y = some o) → k (.ref t) hp') : CallP W n A_Table [.bytes b, .int pos] [] [] hp k := by
  obtain ⟨n, rfl⟩ : ∃ m, n = m + 1 := ⟨n - 1, by omega⟩
  refine callP_class H.clsTable fun x dx hx hdx hne => ?_
  obtain ⟨n, rfl⟩ : ∃ m, n = m + 1 := ⟨n - 1, by omega⟩
  refine H.Table_init.call (stOk_of H.tab) rfl ?_
  unfold B_Table_init
  walk_at "go"
  refine c_enforce H fl_UO (by unfold inR; simp; omega) (by omega) ?_
  walk_at "go"
  refine ⟨rfl, h _ x ⟨_, upd_self _ _ _, by walk_at "fld", by walk_at "fld"⟩ fun y o ey => ?_⟩
  have nx := ne_none ey hx
  rw [upd_ne nx, upd_ne nx, upd_ne nx, upd_ne (ne_none ey hdx)]; exact ey

theorem c_TGet (H : ProgL W) {t F : Addr} {b : List UInt8} {pos off w : Nat} {sg : Bool} {sa : Addr} (Tr : TR hp t b pos) (Fl : FlagOk (TL W) F w sg sa) (hoff : off + w ≤ b.length) (hb : b.length ≤ 1048576) (hn : 2 ≤ n)
    (h : k (.int (rd sg w b off)) hp) : CallP W n A_Table_Get [.ref t, .ref F, .int off] [] [] hp k := by
  obtain ⟨n, rfl⟩ : ∃ m, n = m + 1 := ⟨n - 1, by omega⟩
  refine H.Table_Get.call (stOk_of H.tab) rfl ?_
  unfold B_Table_Get
  obtain ⟨f, hs, h0, h1⟩ := Tr
  walk_at "go"
  refine c_enforce H fl_UO (by unfold inR; simp; omega) (by omega) ?_
  walk_at "go"
  refine r_cls Fl.py ?_
  walk_at "go"
  refine a_cls Fl.pk ?_
  walk_at "go"
  refine c_Get H Fl.st (.inl rfl) (by omega) (by omega) (by omega) ?_
  walk_at "go"
  rw [Int.toNat_natCast]
  exact h

/-- where a slot's value lies -/
noncomputable def offV (b : List UInt8) (vt vo : Nat) : Int := if (vo : Int) < rd false 2 b vt then rd false 2 b (vt + vo) else 0

theorem c_TOffset (H : ProgL W) {t : Addr} {b : List UInt8} {pos vt vo : Nat} (Tr : TR hp t b pos) (hp4 : pos + 4 ≤ b.length) (hvt : (pos : Int) - rd true 4 b pos = vt) (hv2 : vt + 2 ≤ b.length) (hvo : (vo : Int) < rd false 2 b vt → vt + vo + 2 ≤ b.length) (hb : b.length ≤ 1048576) (hn : 3 ≤ n)
    (h : k (.int (offV b vt vo)) hp) : CallP W n A_Table_Offset [.ref t, .int vo] [] [] hp k := by
  obtain ⟨n, rfl⟩ : ∃ m, n = m + 1 := ⟨n - 1, by omega⟩
  refine H.Table_Offset.call (stOk_of H.tab) rfl ?_
  unfold B_Table_Offset
  obtain ⟨f, hs, h0, h1⟩ := id Tr
  walk_at "go"
  refine c_TGet H Tr fl_SO (by omega) hb (by omega) ?_
  walk_at "go"
  rw [hvt]
  refine c_TGet H Tr fl_VO (by omega) hb (by omega) ?_
  walk_at "go"
  by_cases hlt : (vo : Int) < rd false 2 b vt
  · refine ⟨true, x_lt hlt, t_true rfl ?_⟩
    walk_at "go"
    have e : (vt : Int) + (vo : Int) = ((vt + vo : Nat) : Int) := by omega
    rw [e]
    refine c_TGet H Tr fl_VO (by have := hvo hlt; omega) hb (by omega) ?_
    walk_at "go"
    unfold offV at h
    rw [if_pos hlt] at h
    exact h
  · refine ⟨false, x_nlt hlt, t_false rfl ?_⟩
    walk_at "go"
    unfold offV at h
    rw [if_neg hlt] at h
    exact h

theorem c_GetSlot (H : ProgL W) {t F : Addr} {b : List UInt8} {pos vt vo w : Nat} {sg : Bool} {sa : Addr} {d : Int} (Tr : TR hp t b pos) (Fl : FlagOk (TL W) F w sg sa) (hp4 : pos + 4 ≤ b.length) (hvt : (pos : Int) - rd true 4 b pos = vt) (hv2 : vt + 2 ≤ b.length)
    (hvo : (vo : Int) < rd false 2 b vt → vt + vo + 2 ≤ b.length) (hsl : vo < 65536) (hd : inR sg w d) (hb : b.length ≤ 1048576) (hn : 4 ≤ n) {o : Nat} (ho : offV b vt vo = o) (hin : o ≠ 0 → pos + o + w ≤ b.length)
    (h : k (.int (if o = 0 then d else rd sg w b (pos + o))) hp) : CallP W n A_Table_GetSlot [.ref t, .int vo, .int d, .ref F] [] [] hp k := by
  obtain ⟨n, rfl⟩ : ∃ m, n = m + 1 := ⟨n - 1, by omega⟩
  refine H.Table_GetSlot.call (stOk_of H.tab) rfl ?_
  unfold B_Table_GetSlot
  obtain ⟨f, hs, h0, h1⟩ := id Tr
  walk_at "go"
  refine c_enforce H fl_VO (by unfold inR; simp; omega) (by omega) ?_
  walk_at "go"
  refine ⟨_, rfl, t_true rfl ?_⟩
  walk_at "go"
  refine c_enforce H Fl hd (by omega) ?_
  walk_at "go"
  refine c_TOffset H Tr hp4 hvt hv2 hvo hb (by omega) ?_
  walk_at "go"
  rw [ho]
  by_cases hz : o = 0
  · refine ⟨true, x_eq (by omega), t_true rfl ?_⟩
    walk_at "go"
    rw [if_pos hz] at h
    exact h
  · refine ⟨false, x_neq (by omega), t_false rfl ?_⟩
    walk_at "go"
    have e : (pos : Int) + (o : Int) = ((pos + o : Nat) : Int) := by omega
    rw [e]
    refine c_TGet H Tr Fl (hin hz) hb (by omega) ?_
    walk_at "go"
    rw [if_neg hz] at h
    exact h
end
end D8
section D9

section
variable {W : Wd} {n : Nat} {hp : Hp} {k : K1}

/-- the numbers, laid in an order: what is written, and the row of slots -/
noncomputable def layStep (ws : List Nat) (vs : List Int) (st : List UInt8 × List Nat) (i : Nat) : List UInt8 × List Nat :=
  if ws.getD i 0 = 0 then st else (laidN (ws.getD i 0) (vs.getD i 0) st.1, st.2.set i (laidN (ws.getD i 0) (vs.getD i 0) st.1).length)
noncomputable def malStep (ws : List Nat) (m i : Nat) : Nat := if ws.getD i 0 = 0 then m else max m (ws.getD i 0)
noncomputable def layAll (ws : List Nat) (vs : List Int) (order : List Nat) : List UInt8 × List Nat := order.foldl (layStep ws vs) ([], List.replicate ws.length 0)
noncomputable def malAll (ws : List Nat) (order : List Nat) : Nat := order.foldl (malStep ws) 1
noncomputable def laidOf (ws : List Nat) (vs : List Int) (order : List Nat) (sized : Bool) : List UInt8 :=
  finOut sized (max (malAll ws order) 4) ((layAll ws vs order).1.length + padN (layAll ws vs order).1.length 4 + 4)
    (vtab ((layAll ws vs order).1.length + padN (layAll ws vs order).1.length 4 + 4) ((layAll ws vs order).1.length + padN (layAll ws vs order).1.length 4 + 4) (layAll ws vs order).2 (zeros (padN (layAll ws vs order).1.length 4) ++ (layAll ws vs order).1))

noncomputable def isW8 (w : Nat) : Prop := w = 0 ∨ w = 1 ∨ w = 2 ∨ w = 4 ∨ w = 8
noncomputable def flagA (w : Nat) : Addr := if w = 1 then A_Uint8Flags else if w = 2 then A_Uint16Flags else if w = 4 then A_Uint32Flags else A_Uint64Flags

theorem c_law_flags (H : ProgL W) {w : Nat} (hn : 1 ≤ n) (h : k (.ref (flagA w)) hp) : CallP W n A_law_flags [.int w] [] [] hp k := by
  obtain ⟨n, rfl⟩ : ∃ m, n = m + 1 := ⟨n - 1, by omega⟩
  refine H.law_flags.call (stOk_of H.tab) rfl ?_
  unfold B_law_flags
  unfold flagA at h
  walk_at "go"
  by_cases h1 : w = 1
  · refine ⟨true, x_eq (by omega), t_true rfl ?_⟩
    walk_at "go"
    rw [if_pos h1] at h; exact h
  refine ⟨false, x_neq (by omega), t_false rfl ?_⟩
  walk_at "go"
  by_cases h2 : w = 2
  · refine ⟨true, x_eq (by omega), t_true rfl ?_⟩
    walk_at "go"
    rw [if_neg h1, if_pos h2] at h; exact h
  refine ⟨false, x_neq (by omega), t_false rfl ?_⟩
  walk_at "go"
  by_cases h4 : w = 4
  · refine ⟨true, x_eq (by omega), t_true rfl ?_⟩
    walk_at "go"
    rw [if_neg h1, if_neg h2, if_pos h4] at h; exact h
  refine ⟨false, x_neq (by omega), t_false rfl ?_⟩
  walk_at "go"
  rw [if_neg h1, if_neg h2, if_neg h4] at h; exact h

/-- a row of numbers as a value -/
noncomputable def VN (l : List Nat) : V := .flist (l.map fun e => V.int (e : Nat))
noncomputable def VI (l : List Int) : V := .flist (l.map V.int)
theorem idx_VN {l : List Nat} {i : Nat} (h : i < l.length) (hl : l.length ≤ 1000) : idxV hp (VN l) (.int (i : Nat)) = some (.int ((l.getD i 0 : Nat) : Int)) := by
  unfold VN idxV place
  simp only
  rw [if_pos (by rw [List.length_map]; omega)]
  simp [List.getElem?_eq_getElem h, List.getD_eq_getElem?_getD]
theorem idx_VI {l : List Int} {i : Nat} (h : i < l.length) (hl : l.length ≤ 1000) : idxV hp (VI l) (.int (i : Nat)) = some (.int (l.getD i 0)) := by
  unfold VI idxV place
  simp only
  rw [if_pos (by rw [List.length_map]; omega)]
  simp [List.getElem?_eq_getElem h, List.getD_eq_getElem?_getD]

structure Fields (g : Nat → Option V) (cv vt mal : Nat) : Prop where
  h1 : g 1 = some (.ref cv)
  h5 : g 5 = some (.int mal)
  h6 : g 6 = some (.bool true)
  h7 : g 7 = some (.int (0 : Nat))
  h10 : g 10 = some (.ref vt)
theorem Fields.up {g : Nat → Option V} {cv vt mal size : Nat} (F : Fields g cv vt mal) : Fields (upM g mal size) cv vt (max mal size) := ⟨(updF_ne (by decide)).trans F.h1, updF_self, (updF_ne (by decide)).trans F.h6, (updF_ne (by decide)).trans F.h7, (updF_ne (by decide)).trans F.h10⟩

noncomputable abbrev layBody : List S := [.ite (.cmp .Eq (.idx (.var 0) (.var 6)) (.int 1))
       [.expr (.meth (.var 5) "PrependUint8Slot" [(.var 6), (.idx (.var 1) (.var 6)), .none] [] [])]
       [.ite (.cmp .Eq (.idx (.var 0) (.var 6)) (.int 2))
         [.expr (.meth (.var 5) "PrependUint16Slot" [(.var 6), (.idx (.var 1) (.var 6)), .none] [] [])]
         [.ite (.cmp .Eq (.idx (.var 0) (.var 6)) (.int 4))
           [.expr (.meth (.var 5) "PrependUint32Slot" [(.var 6), (.idx (.var 1) (.var 6)), .none] [] [])]
           [.ite (.cmp .Eq (.idx (.var 0) (.var 6)) (.int 8))
             [.expr (.meth (.var 5) "PrependUint64Slot" [(.var 6), (.idx (.var 1) (.var 6)), .none] [] [])]
             []]]]]

theorem lay_loop (H : ProgL W) {ws : List Nat} {vs : List Int} {self cv vt : Addr} {K : KS} {v2 v3 v4 : Option V} {l : List (Option V)} {xs : List V} (hws : ∀ i, isW8 (ws.getD i 0)) (hl : ws.length ≤ 100) (hvl : vs.length = ws.length)
    (hvs : ∀ i, i < ws.length → inR false (ws.getD i 0) (vs.getD i 0)) (hn : 7 ≤ n) : ∀ (order : List Nat) (st : List UInt8 × List Nat) (mal : Nat) (hp : Hp) (g : Nat → Option V) (room : Nat) (v6 : Option V),
    (∀ i ∈ order, i < ws.length) → st.1.length + 15 * order.length ≤ 900 → st.2.length = ws.length → BR hp self st.1 room g → Fields g cv vt mal → hp cv = some (.list (st.2.map fun e => V.int (e : Nat))) → hp vt = some (.tdict []) →
    (∀ hp' g' room' v6', BR hp' self (order.foldl (layStep ws vs) st).1 room' g' → Fields g' cv vt (order.foldl (malStep ws) mal) → hp' cv = some (.list ((order.foldl (layStep ws vs) st).2.map fun e => V.int (e : Nat))) → hp' vt = some (.tdict []) →
      K .next (some (VN ws) :: some (VI vs) :: v2 :: v3 :: v4 :: some (.ref self) :: v6' :: l) hp') →
    forGo (.fix xs) (fun x vars₁ hp₂ q => vcT (TL W) n (.var 6) x vars₁ hp₂ fun vars₂ hp₃ => vcSs (TL W) n layBody vars₂ hp₃ q) (order.map fun e => V.int (e : Nat)) (some (VN ws) :: some (VI vs) :: v2 :: v3 :: v4 :: some (.ref self) :: v6 :: l) hp K
  | [], st, mal, hp, g, room, v6, _, _, _, B, F, hcv, hvt, fin => ⟨trivial, fin hp g room v6 B F hcv hvt⟩
  | i :: r, st, mal, hp, g, room, v6, hi, hlen, hsl, B, F, hcv, hvt, fin => by
    simp only [List.length_cons] at hlen
    have hil := hi i (.head _)
    have hir : ∀ j ∈ r, j < ws.length := fun j hj => hi j (.tail _ hj)
    have ncv : cv ≠ vt := fun z => by rw [z, hvt] at hcv; cases hcv
    obtain ⟨f, hs, hfg⟩ := B.at
    have nvs : vt ≠ self := fun z => by rw [z, hs] at hvt; cases hvt
    refine ⟨trivial, ?_⟩
    have step : ∀ w, w = ws.getD i 0 → w ≠ 0 → ∀ hp', BR hp' self (laidN w (vs.getD i 0) st.1) 0 (upM g mal w) → hp' cv = some (.list ((st.2.map fun e => V.int (e : Nat)).set i (.int ((laidN w (vs.getD i 0) st.1).length : Nat)))) → RestX self cv hp hp' →
        forGo (.fix xs) (fun x vars₁ hp₂ q => vcT (TL W) n (.var 6) x vars₁ hp₂ fun vars₂ hp₃ => vcSs (TL W) n layBody vars₂ hp₃ q) (r.map fun e => V.int (e : Nat)) (some (VN ws) :: some (VI vs) :: v2 :: v3 :: v4 :: some (.ref self) :: some (.int (i : Nat)) :: l) hp' K := by
      intro w ew hw0 hp' B' hcv' R'
      have hw8 := hws i
      rw [← ew] at hw8
      have hpl := padN_lt (len := st.1.length) (size := w) (by omega)
      have hll := laidN_len w (vs.getD i 0) st.1
      have e1 : layStep ws vs st i = (laidN w (vs.getD i 0) st.1, st.2.set i (laidN w (vs.getD i 0) st.1).length) := by unfold layStep; rw [← ew, if_neg hw0]
      have e2 : malStep ws mal i = max mal w := by unfold malStep; rw [← ew, if_neg hw0]
      refine lay_loop H hws hl hvl hvs hn r (layStep ws vs st i) (malStep ws mal i) hp' _ 0 _ hir (by rw [e1]; dsimp only; rcases hw8 with h | h | h | h | h <;> omega) (by rw [e1]; simpa using hsl) (by rw [e1]; exact B') (by rw [e2]; exact F.up) (by rw [e1, hcv']; simp) (R' vt _ nvs ncv.symm hvt nofun) fun hp'' g'' room'' v6' h1 h2 h3 h4 => fin hp'' g'' room'' v6' h1 h2 h3 h4
    have hx := hvs i hil
    have ho : i < (st.2.map fun e => V.int (e : Nat)).length := by rw [List.length_map]; omega
    have hz : (st.2.map fun e => V.int (e : Nat)).length ≤ 1000 := by rw [List.length_map]; omega
    walk_at "go"
    refine ⟨_, idx_VN hil (by omega), ?_⟩
    walk_at "go"
    by_cases h1 : ws.getD i 0 = 1
    · refine ⟨true, x_eq (by omega), t_true rfl ?_⟩
      walk_at "go"
      refine ⟨_, idx_VI (by omega) (by omega), ?_⟩
      walk_at "go"
      exact c_U8Slot H B (h1 ▸ hx) F.h5 F.h6 F.h1 hcv ho hz (by omega) (by omega) fun hp₁ B₁ hc₁ R₁ => step 1 h1.symm (by omega) hp₁ B₁ hc₁ R₁
    refine ⟨false, x_neq (by omega), t_false rfl ?_⟩
    walk_at "go"
    refine ⟨_, idx_VN hil (by omega), ?_⟩
    walk_at "go"
    by_cases h2 : ws.getD i 0 = 2
    · refine ⟨true, x_eq (by omega), t_true rfl ?_⟩
      walk_at "go"
      refine ⟨_, idx_VI (by omega) (by omega), ?_⟩
      walk_at "go"
      exact c_U16Slot H B (h2 ▸ hx) F.h5 F.h6 F.h1 hcv ho hz (by omega) (by omega) fun hp₁ B₁ hc₁ R₁ => step 2 h2.symm (by omega) hp₁ B₁ hc₁ R₁
    refine ⟨false, x_neq (by omega), t_false rfl ?_⟩
    walk_at "go"
    refine ⟨_, idx_VN hil (by omega), ?_⟩
    walk_at "go"
    by_cases h4 : ws.getD i 0 = 4
    · refine ⟨true, x_eq (by omega), t_true rfl ?_⟩
      walk_at "go"
      refine ⟨_, idx_VI (by omega) (by omega), ?_⟩
      walk_at "go"
      exact c_U32Slot H B (h4 ▸ hx) F.h5 F.h6 F.h1 hcv ho hz (by omega) (by omega) fun hp₁ B₁ hc₁ R₁ => step 4 h4.symm (by omega) hp₁ B₁ hc₁ R₁
    refine ⟨false, x_neq (by omega), t_false rfl ?_⟩
    walk_at "go"
    refine ⟨_, idx_VN hil (by omega), ?_⟩
    walk_at "go"
    by_cases h8 : ws.getD i 0 = 8
    · refine ⟨true, x_eq (by omega), t_true rfl ?_⟩
      walk_at "go"
      refine ⟨_, idx_VI (by omega) (by omega), ?_⟩
      walk_at "go"
      exact c_U64Slot H B (h8 ▸ hx) F.h5 F.h6 F.h1 hcv ho hz (by omega) (by omega) fun hp₁ B₁ hc₁ R₁ => step 8 h8.symm (by omega) hp₁ B₁ hc₁ R₁
    refine ⟨false, x_neq (by omega), t_false rfl ?_⟩
    walk_at "go"
    have h0 : ws.getD i 0 = 0 := by have := hws i; unfold isW8 at this; omega
    have e1 : layStep ws vs st i = st := by unfold layStep; rw [if_pos h0]
    have e2 : malStep ws mal i = mal := by unfold malStep; rw [if_pos h0]
    refine lay_loop H hws hl hvl hvs hn r st mal hp g room _ hir (by omega) hsl B F hcv hvt fun hp'' g'' room'' v6' a1 a2 a3 a4 => fin hp'' g'' room'' v6' ?_ ?_ ?_ a4
    · rw [List.foldl_cons, e1]; exact a1
    · rw [List.foldl_cons, e2]; exact a2
    · rw [List.foldl_cons, e1]; exact a3

theorem src_fl {xs : List V} {q : Src → Prop} (h : q (.fix xs)) : srcK .of [.flist xs] hp q := h

/-- the sizes that the walk asks for -/
structure LayBounds (ws : List Nat) (vs : List Int) (order : List Nat) : Prop where
  out : (layAll ws vs order).1.length ≤ 900
  slots : (layAll ws vs order).2.length = ws.length
  le : ∀ e ∈ (layAll ws vs order).2, e ≤ (layAll ws vs order).1.length
  mal : malAll ws order = 1 ∨ malAll ws order = 2 ∨ malAll ws order = 4 ∨ malAll ws order = 8

theorem c_law_laid (H : ProgL W) {ws : List Nat} {vs : List Int} {order : List Nat} {size : Nat} {sized : Bool} (hws : ∀ i, isW8 (ws.getD i 0)) (hl : ws.length ≤ 20) (hvl : vs.length = ws.length)
    (hvs : ∀ i, i < ws.length → inR false (ws.getD i 0) (vs.getD i 0)) (ho : ∀ i ∈ order, i < ws.length) (hol : order.length ≤ 20) (hsz : size ≤ 4000) (hn : 9 ≤ n) (LB : LayBounds ws vs order)
    (h : ∀ hp', k (.bytes (laidOf ws vs order sized)) hp') : CallP W n A_law_laid [VN ws, VI vs, VN order, .int size, .bool sized] [] [] hp k := by
  obtain ⟨n, rfl⟩ : ∃ m, n = m + 1 := ⟨n - 1, by omega⟩
  refine H.law_laid.call (stOk_of H.tab) rfl ?_
  unfold B_law_laid
  walk_at "go"
  refine c_Builder H (by omega) (by omega) fun hp₁ self g d B₁ Fr hd keep => ?_
  obtain ⟨f₁, hs₁, hfg₁⟩ := B₁.at
  have nds : d ≠ self := fun z => by rw [z, hs₁] at hd; cases hd
  walk_at "go"
  refine b_lenF (by rw [List.length_map]; omega) ?_
  walk_at "go"
  rw [List.length_map]
  refine c_StartObject H B₁ Fr.nst (by omega) (by omega) fun hp₂ cv B₂ hcv hcn R₂ => ?_
  have hd₂ := R₂ d _ nds hd nofun
  have F₂ : Fields (updF (updF (updF g 1 (.ref cv)) 7 (.int (([] : List UInt8).length : Nat))) 6 (.bool true)) cv d 1 :=
    ⟨by walk_at "fld", (updF_ne (by decide)).trans ((updF_ne (by decide)).trans ((updF_ne (by decide)).trans Fr.mal)), by walk_at "fld", by walk_at "fld", (updF_ne (by decide)).trans ((updF_ne (by decide)).trans ((updF_ne (by decide)).trans Fr.vt))⟩
  walk_at "go"
  refine s_for ?_
  walk_at "go"
  refine src_fl ?_
  show forGo _ _ (order.map fun e => V.int (e : Nat)) [some (VN ws), some (VI vs), some (VN order), some (.int (size : Nat)), some (.bool sized), some (.ref self), none, none] hp₂ _
  refine lay_loop H hws (by omega) hvl hvs (by omega) order ([], List.replicate ws.length 0) 1 hp₂ _ 0 none ho (by simp; omega) (by simp) B₂ F₂ (by rw [hcv, List.map_replicate]; rfl) hd₂ fun hp₃ g₃ room₃ v6 B₃ F₃ hcv₃ hd₃ => ?_
  have B₃ : BR hp₃ self (layAll ws vs order).1 room₃ g₃ := B₃
  have F₃ : Fields g₃ cv d (malAll ws order) := F₃
  have hcv₃ : hp₃ cv = some (.list ((layAll ws vs order).2.map fun e => V.int (e : Nat))) := hcv₃
  obtain ⟨L1, L2, L3, L4⟩ := LB
  obtain ⟨f₃, hs₃, hfg₃⟩ := B₃.at
  have hp4 := padN_lt (len := (layAll ws vs order).1.length) (size := 4) (by omega)
  walk_at "go"
  refine c_EndObject H (oe := 0) B₃ F₃.h5 F₃.h6 F₃.h1 hcv₃ F₃.h7 F₃.h10 hd₃ (by simp) L3 (Nat.zero_le _) (by omega) (by omega) (by omega) rfl fun hp₄ B₄ hd₄ R₄ => ?_
  rw [Nat.sub_zero] at B₄
  obtain ⟨f₄, hs₄, hfg₄⟩ := B₄.at
  have hc := cutZ_len true (layAll ws vs order).2.reverse
  rw [List.length_reverse] at hc
  have hvl : (vtab ((layAll ws vs order).1.length + padN (layAll ws vs order).1.length 4 + 4) ((layAll ws vs order).1.length + padN (layAll ws vs order).1.length 4 + 4) (layAll ws vs order).2 (zeros (padN (layAll ws vs order).1.length 4) ++ (layAll ws vs order).1)).length =
      4 + 2 * (cutZ true (layAll ws vs order).2.reverse).length + ((layAll ws vs order).1.length + padN (layAll ws vs order).1.length 4 + 4) := by
    unfold vtab; simp [leE_len, ents_len, zeros]; omega
  have hg5 : updF (upM (updF g₃ 6 (.bool false)) (malAll ws order) 4) 1 .none 5 = some (.int ((max (malAll ws order) 4 : Nat) : Int)) := (updF_ne (by decide)).trans updF_self
  have hmm : max (malAll ws order) 4 = 1 ∨ max (malAll ws order) 4 = 2 ∨ max (malAll ws order) 4 = 4 ∨ max (malAll ws order) 4 = 8 := by rcases L4 with e | e | e | e <;> rw [e] <;> decide
  walk_at "go"
  cases sized with
  | true =>
    refine t_true rfl ?_
    walk_at "go"
    refine c_FinishS H B₄ hg5 hmm (by rw [hvl]; omega) (by rw [hvl]; omega) (by omega) fun hp₅ g₅ v B₅ h2 R₅ => ?_
    obtain ⟨f₅, hs₅, hfg₅⟩ := B₅.at
    walk_at "go"
    refine c_Output H B₅ h2 (by omega) fun hp₆ c hc₆ B₆ _ => ?_
    have hl6 : (finOut true (max (malAll ws order) 4) ((layAll ws vs order).1.length + padN (layAll ws vs order).1.length 4 + 4) (vtab ((layAll ws vs order).1.length + padN (layAll ws vs order).1.length 4 + 4) ((layAll ws vs order).1.length + padN (layAll ws vs order).1.length 4 + 4) (layAll ws vs order).2 (zeros (padN (layAll ws vs order).1.length 4) ++ (layAll ws vs order).1))).length ≤ 8192 := by
      obtain ⟨_, _, _, _, _, _, _, _, _, _, _, hl, hl2⟩ := B₆; omega
    walk_at "go"
    refine b_bytes hc₆ (by omega) ?_
    walk_at "go"
    exact h hp₆
  | false =>
    refine t_false rfl ?_
    walk_at "go"
    refine c_Finish H B₄ hg5 hmm (by rw [hvl]; omega) (by rw [hvl]; omega) (by omega) fun hp₅ g₅ v B₅ h2 R₅ => ?_
    obtain ⟨f₅, hs₅, hfg₅⟩ := B₅.at
    walk_at "go"
    refine c_Output H B₅ h2 (by omega) fun hp₆ c hc₆ B₆ _ => ?_
    have hl6 : (finOut false (max (malAll ws order) 4) ((layAll ws vs order).1.length + padN (layAll ws vs order).1.length 4 + 4) (vtab ((layAll ws vs order).1.length + padN (layAll ws vs order).1.length 4 + 4) ((layAll ws vs order).1.length + padN (layAll ws vs order).1.length 4 + 4) (layAll ws vs order).2 (zeros (padN (layAll ws vs order).1.length 4) ++ (layAll ws vs order).1))).length ≤ 8192 := by
      obtain ⟨_, _, _, _, _, _, _, _, _, _, _, hl, hl2⟩ := B₆; omega
    walk_at "go"
    refine b_bytes hc₆ (by omega) ?_
    walk_at "go"
    exact h hp₆
end
end D9
section D10

section
variable {W : Wd} {n : Nat} {hp : Hp} {k : K1}

/-- octets that tell the numbers -/
structure GoodB (b : List UInt8) (ws : List Nat) (vs : List Int) (sized : Bool) (pos vt size : Nat) (pl : Nat → Nat) : Prop where
  len : b.length ≤ 8000
  at_ : (if sized then 4 else 0) + 1 < b.length
  hpos : (if sized then 4 else 0) + (b.getD (if sized then 4 else 0) 0).toNat + 256 * (b.getD ((if sized then 4 else 0) + 1) 0).toNat = pos
  p4 : pos + 4 ≤ b.length
  hvt : (pos : Int) - rd true 4 b pos = vt
  v4 : vt + 4 ≤ b.length
  hsize : rd false 2 b (vt + 2) = size
  end_ : pos + size = b.length
  sz : sized = true → rd false 4 b 0 = ((b.length - 4 : Nat) : Int) ∧ 4 ≤ b.length
  off : ∀ i, i < ws.length → offV b vt (4 + 2 * i) = pl i ∧ (((4 + 2 * i : Nat) : Int) < rd false 2 b vt → vt + (4 + 2 * i) + 2 ≤ b.length)
  zero : ∀ i, i < ws.length → (pl i = 0 ↔ ws.getD i 0 = 0)
  val : ∀ i, i < ws.length → pl i ≠ 0 → rd false (ws.getD i 0) b (pos + pl i) = vs.getD i 0 ∧ (pos + pl i) % ws.getD i 0 = 0 ∧ 4 ≤ pl i ∧ pl i + ws.getD i 0 ≤ size

theorem getD_bytes {b : List UInt8} {i : Nat} (h : i < b.length) (hl : b.length ≤ 1048576) : idxV hp (.bytes b) (.int (i : Nat)) = some (.int ((b.getD i 0).toNat : Int)) := by
  unfold idxV place
  simp only
  rw [if_pos hl, if_pos (by omega)]
  simp [List.getElem?_eq_getElem h, List.getD_eq_getElem?_getD]
theorem beq0 (m : Nat) : (((m : Nat) : Int) == 0) = decide (m = 0) := by by_cases h : m = 0 <;> simp [h]
theorem src_rng1 {m : Int} {q : Src → Prop} (h1 : -2 ^ 40 < m ∧ m ≤ 2 ^ 20) (h : q (.fix (rangeL 0 m 1))) : srcK .rng [.int m] hp q := ⟨h1, h⟩
theorem rangeL_nat (m : Nat) : rangeL 0 (m : Int) 1 = (List.range m).map fun e => V.int (e : Nat) := by
  rw [rangeL_up]; simp
theorem fl_of {w : Nat} (h : isW8 w) : ∃ sa, FlagOk (TL W) (flagA w) (if w = 0 then 8 else w) false sa := by
  rcases h with rfl | rfl | rfl | rfl | rfl
  · exact ⟨_, fl_Uint64⟩
  · exact ⟨_, fl_Uint8⟩
  · exact ⟨_, fl_Uint16⟩
  · exact ⟨_, fl_Uint32⟩
  · exact ⟨_, fl_Uint64⟩

noncomputable abbrev goodBody : List S := [.asg (.var 9) (.meth (.var 5) "Offset" [(.bin .Add (.int 4) (.bin .Mult (.int 2) (.var 8)))] [] []),
     .asg (.var 10) (.call (.glob "_law_flags") [(.idx (.var 1) (.var 8))] [] []),
     .ite (.bor [(.cmp .NotEq (.cmp .Eq (.var 9) (.int 0)) (.cmp .Eq (.idx (.var 1) (.var 8)) (.int 0))), (.cmp .NotEq (.meth (.var 5) "GetSlot" [(.bin .Add (.int 4) (.bin .Mult (.int 2) (.var 8))), (.int 9), (.var 10)] [] []) (.ite (.cmp .Eq (.var 9) (.int 0)) (.int 9) (.idx (.var 2) (.var 8))))])
       [.ret (.bool false)]
       [],
     .ite (.band [(.cmp .Gt (.var 9) (.int 0)), (.bor [(.cmp .NotEq (.bin .Mod (.bin .Add (.attr (.var 5) "Pos") (.var 9)) (.idx (.var 1) (.var 8))) (.int 0)), (.not (.chain (.int 4) .LtE (.var 9) .LtE (.bin .Sub (.var 7) (.idx (.var 1) (.var 8)))))])])
       [.ret (.bool false)]
       []]

theorem good_loop (H : ProgL W) {b : List UInt8} {ws : List Nat} {vs : List Int} {sized : Bool} {pos vt size : Nat} {pl : Nat → Nat} {t : Addr} {K : KS} {v3 v4 v6 : Option V} (G : GoodB b ws vs sized pos vt size pl) (Tr : TR hp t b pos) (hws : ∀ i, isW8 (ws.getD i 0)) (hl : ws.length ≤ 100) (hvl : vs.length = ws.length) (hn : 5 ≤ n)
    (fin : ∀ v8 v9 v10, K .next [some (.bytes b), some (VN ws), some (VI vs), v3, v4, some (.ref t), v6, some (.int (size : Nat)), v8, v9, v10] hp) {xs : List V} : ∀ (r : List Nat) (v8 v9 v10 : Option V), (∀ i ∈ r, i < ws.length) →
    forGo (.fix xs) (fun x vars₁ hp₂ q => vcT (TL W) n (.var 8) x vars₁ hp₂ fun vars₂ hp₃ => vcSs (TL W) n goodBody vars₂ hp₃ q) (r.map fun e => V.int (e : Nat)) [some (.bytes b), some (VN ws), some (VI vs), v3, v4, some (.ref t), v6, some (.int (size : Nat)), v8, v9, v10] hp K
  | [], v8, v9, v10, _ => ⟨trivial, fin v8 v9 v10⟩
  | i :: r, v8, v9, v10, hr => by
    have hi := hr i (.head _)
    have hw := hws i
    obtain ⟨sa, Fl⟩ := fl_of (W := W) hw
    obtain ⟨ho1, ho2⟩ := G.off i hi
    have hz := G.zero i hi
    have hv := G.val i hi
    have hlen := G.len
    have hend := G.end_
    obtain ⟨f, hs, hf0, hf1⟩ := id Tr
    refine ⟨trivial, ?_⟩
    walk_at "go"
    refine b_mul (.inl (by omega)) ?_
    walk_at "go"
    have e4 : (4 : Int) + 2 * (i : Int) = ((4 + 2 * i : Nat) : Int) := by omega
    rw [e4]
    refine c_TOffset H Tr G.p4 G.hvt (by have := G.v4; omega) ho2 (by omega) (by omega) ?_
    rw [ho1]
    walk_at "go"
    refine ⟨_, idx_VN hi (by omega), ?_⟩
    walk_at "go"
    refine c_law_flags H (by omega) ?_
    walk_at "go"
    refine ⟨decide (pl i = 0), congrArg some (beq0 _), ?_⟩
    walk_at "go"
    refine ⟨_, idx_VN hi (by omega), ?_⟩
    walk_at "go"
    refine ⟨decide (ws.getD i 0 = 0), congrArg some (beq0 _), ?_⟩
    refine ⟨false, by show some _ = some _; congr 1; simp [hz], t_false rfl ?_⟩
    walk_at "go"
    refine b_mul (.inl (by omega)) ?_
    walk_at "go"
    rw [e4]
    have hin9 : inR false (if ws.getD i 0 = 0 then 8 else ws.getD i 0) 9 := by
      unfold inR
      rcases hw with e | e | e | e | e <;> rw [e] <;> decide +kernel
    refine c_GetSlot H Tr Fl G.p4 G.hvt (by have := G.v4; omega) ho2 (by omega) hin9 (by omega) (by omega) ho1 ?_ ?_
    · intro hne
      obtain ⟨_, _, _, h4⟩ := hv hne
      rw [if_neg (fun e => hne (hz.mpr e))]
      omega
    walk_at "go"
    by_cases h0 : pl i = 0
    · refine ⟨true, x_eq (by omega), t_true rfl ?_⟩
      walk_at "go"
      refine ⟨false, x_nne (by rw [if_pos h0]), t_false rfl ?_⟩
      walk_at "go"
      refine ⟨false, x_ngt (by omega), t_false rfl (t_false rfl ?_)⟩
      walk_at "go"
      exact good_loop H G Tr hws hl hvl hn fin r _ _ _ fun j hj => hr j (.tail _ hj)
    · obtain ⟨h1, h2, h3, h4⟩ := hv h0
      have hw0 : ws.getD i 0 ≠ 0 := fun e => h0 (hz.mpr e)
      refine ⟨false, x_neq (by omega), t_false rfl ?_⟩
      walk_at "go"
      refine ⟨_, idx_VI (by omega) (by omega), ?_⟩
      refine ⟨false, x_nne (by rw [if_neg h0, if_neg hw0, h1]), t_false rfl ?_⟩
      walk_at "go"
      refine ⟨true, x_gt (by omega), t_true rfl ?_⟩
      walk_at "go"
      refine ⟨_, idx_VN hi (by omega), ?_⟩
      refine b_mod (by omega) ?_
      walk_at "go"
      refine ⟨false, x_nne (by exact_mod_cast h2), t_false rfl ?_⟩
      walk_at "go"
      refine ⟨true, x_le (by omega), ?_⟩
      rw [if_pos rfl]
      walk_at "go"
      refine ⟨_, idx_VN hi (by omega), ?_⟩
      walk_at "go"
      refine ⟨true, x_le (by omega), true, rfl, t_false rfl ?_⟩
      walk_at "go"
      exact good_loop H G Tr hws hl hvl hn fin r _ _ _ fun j hj => hr j (.tail _ hj)

theorem c_law_good (H : ProgL W) {b : List UInt8} {ws : List Nat} {vs : List Int} {sized : Bool} {pos vt size : Nat} {pl : Nat → Nat} (G : GoodB b ws vs sized pos vt size pl) (hws : ∀ i, isW8 (ws.getD i 0)) (hl : ws.length ≤ 100) (hvl : vs.length = ws.length) (hn : 6 ≤ n)
    (h : ∀ hp', k (.bool true) hp') : CallP W n A_law_good [.bytes b, VN ws, VI vs, .bool sized] [] [] hp k := by
  obtain ⟨n, rfl⟩ : ∃ m, n = m + 1 := ⟨n - 1, by omega⟩
  refine H.law_good.call (stOk_of H.tab) rfl ?_
  unfold B_law_good
  have hlen := G.len
  have hat := G.at_
  have hpos := G.hpos
  have hend := G.end_
  walk_at "go"
  have key : ∀ a : Nat, a = (if sized then 4 else 0) → vcSs (TL W) n (B_law_good.drop 1) [some (.bytes b), some (VN ws), some (VI vs), some (.bool sized), some (.int (a : Nat)), none, none, none, none, none, none] hp (retK k) := by
    intro a ea
    rw [← ea] at hat hpos
    unfold B_law_good
    simp only [List.drop_succ_cons, List.drop_zero]
    walk_at "go"
    refine ⟨_, getD_bytes (by omega) (by omega), ?_⟩
    walk_at "go"
    have e1 : (a : Int) + 1 = ((a + 1 : Nat) : Int) := by omega
    rw [e1]
    refine ⟨_, getD_bytes (by omega) (by omega), ?_⟩
    refine b_mul (.inl (by omega)) ?_
    walk_at "go"
    have e2 : (a : Int) + ((b.getD a 0).toNat : Int) + 256 * ((b.getD (a + 1) 0).toNat : Int) = (pos : Nat) := by omega
    rw [e2]
    refine c_Table H (by have := G.p4; omega) (by omega) fun hp₁ t Tr _ => ?_
    obtain ⟨f, hs, hf0, hf1⟩ := id Tr
    walk_at "go"
    refine c_TGet H Tr fl_Int32 G.p4 (by omega) (by omega) ?_
    walk_at "go"
    rw [G.hvt]
    have e3 : (vt : Int) + 2 = ((vt + 2 : Nat) : Int) := by omega
    rw [e3]
    refine c_TGet H Tr fl_Uint16 (by have := G.v4; omega) (by omega) (by omega) ?_
    rw [G.hsize]
    walk_at "go"
    refine b_lenB (by omega) ?_
    refine ⟨false, x_nne (by omega), t_false rfl ?_⟩
    walk_at "go"
    have tail : vcSs (TL W) n (B_law_good.drop 5) [some (.bytes b), some (VN ws), some (VI vs), some (.bool sized), some (.int (a : Nat)), some (.ref t), some (.int (vt : Nat)), some (.int (size : Nat)), none, none, none] hp₁ (retK k) := by
      unfold B_law_good
      simp only [List.drop_succ_cons, List.drop_zero]
      refine s_for ?_
      walk_at "go"
      refine b_lenF (by rw [List.length_map]; omega) ?_
      walk_at "go"
      rw [List.length_map]
      refine src_rng1 (by omega) ?_
      rw [rangeL_nat]
      show forGo _ _ ((List.range ws.length).map fun e => V.int (e : Nat)) _ _ _
      refine good_loop H G Tr hws hl hvl (by omega) ?_ (List.range ws.length) none none none fun i hi => List.mem_range.mp hi
      intro v8 v9 v10
      walk_at "go"
      exact h hp₁
    cases hsd : sized with
    | false =>
      subst hsd
      refine t_false rfl (t_false rfl ?_)
      refine s_nil (q_next ?_)
      exact tail
    | true =>
      subst hsd
      obtain ⟨hz1, hz2⟩ := G.sz rfl
      refine t_true rfl ?_
      walk_at "go"
      refine c_TGet H (off := 0) Tr fl_Uint32 (by omega) (by omega) (by omega) ?_
      rw [hz1]
      walk_at "go"
      refine b_lenB (by omega) ?_
      walk_at "go"
      refine ⟨false, x_nne (by omega), t_false rfl ?_⟩
      refine s_nil (q_next ?_)
      exact tail
  cases hsd : sized with
  | true =>
    subst hsd
    refine t_true rfl (e_int (g_var ?_))
    exact key 4 rfl
  | false =>
    subst hsd
    refine t_false rfl (e_int (g_var ?_))
    exact key 0 rfl
end
end D10
section Q03
/-! the plain law: what is laid tells the numbers -/
theorem foldr_leE : ∀ (w N : Nat), ((List.range w).map fun k => (N / 256 ^ k % 256).toUInt8).foldr (fun x acc => x.toNat + 256 * acc) 0 = N % 256 ^ w
  | 0, N => by simp [Nat.mod_one]
  | w + 1, N => by
    rw [List.range_succ_eq_map, List.map_cons, List.foldr_cons, List.map_map]
    have e : ((fun k => (N / 256 ^ k % 256).toUInt8) ∘ Nat.succ) = fun k => ((N / 256) / 256 ^ k % 256).toUInt8 := by
      funext k
      simp only [Function.comp, Nat.succ_eq_add_one]
      rw [Nat.pow_succ, Nat.mul_comm, Nat.div_div_eq_div_mul]
    rw [e, foldr_leE w (N / 256), Nat.pow_succ, Nat.mul_comm (256 ^ w) 256, Nat.mod_mul]
    simp
theorem two_pow (w : Nat) : (2 : Nat) ^ (8 * w) = 256 ^ w := by rw [Nat.pow_mul]
theorem leB_leE_u {w : Nat} {x : Int} (h : inR false w x) : leB false w (leE w x) = x := by
  unfold inR at h
  simp only [Bool.false_eq_true, if_false] at h
  unfold leB leE
  simp only [Bool.false_and, Bool.false_eq_true, if_false]
  rw [foldr_leE, Int.emod_eq_of_lt h.1 h.2, Nat.mod_eq_of_lt ?_]
  · omega
  · rw [← two_pow]
    have := h.2
    have e : ((2 : Int) ^ (8 * w)) = ((2 ^ (8 * w) : Nat) : Int) := by simp
    rw [e] at this
    (clear e; omega)
theorem leB_leE_s {x : Nat} (h : x < 2 ^ 31) : leB true 4 (leE 4 (x : Int)) = x := by
  have e : leB true 4 (leE 4 (x : Int)) = leB false 4 (leE 4 (x : Int)) := by
    have hu : ((leE 4 (x : Int)).foldr (fun x acc => x.toNat + 256 * acc) 0 : Nat) = x := by
      unfold leE
      rw [foldr_leE, Int.emod_eq_of_lt (by omega) (by omega)]
      simp; omega
    unfold leB
    simp only [hu]
    rw [if_neg (by simp; (clear hu; omega)), if_neg (by simp)]
  rw [e]
  exact leB_leE_u (by unfold inR; simp; (clear e; omega))

theorem cut_at {b pre y rest : List UInt8} {p w : Nat} (hb : b = pre ++ (y ++ rest)) (hp : pre.length = p) (hy : y.length = w) : cut b p (p + w) = y := by
  unfold cut
  rw [hb, List.drop_left' hp, Nat.add_sub_cancel_left]
  exact List.take_left' hy
theorem rd_u {b pre rest : List UInt8} {p w : Nat} {x : Int} (hb : b = pre ++ (leE w x ++ rest)) (hp : pre.length = p) (hx : inR false w x) : rd false w b p = x := by
  unfold rd
  rw [cut_at hb hp (leE_len w x), leB_leE_u hx]
theorem rd_s {b pre rest : List UInt8} {p x : Nat} (hb : b = pre ++ (leE 4 (x : Int) ++ rest)) (hp : pre.length = p) (hx : x < 2 ^ 31) : rd true 4 b p = x := by
  unfold rd
  rw [cut_at hb hp (leE_len 4 x), leB_leE_s hx]
theorem inR_nat {w x : Nat} (h : x < 256 ^ w) : inR false w (x : Int) := by
  unfold inR
  simp only [Bool.false_eq_true, if_false]
  rw [← two_pow] at h
  have e : ((2 : Int) ^ (8 * w)) = ((2 ^ (8 * w) : Nat) : Int) := by simp
  rw [e]
  omega

/-! what the order lays -/
structure LayInv (ws : List Nat) (vs : List Int) (done : List Nat) (st : List UInt8 × List Nat) : Prop where
  len : st.2.length = ws.length
  set : ∀ i, i < ws.length → i ∈ done → ws.getD i 0 ≠ 0 → ∃ s, st.2[i]? = some s ∧ ws.getD i 0 ≤ s ∧ s ≤ st.1.length ∧ s % ws.getD i 0 = 0 ∧ (st.1.drop (st.1.length - s)).take (ws.getD i 0) = leE (ws.getD i 0) (vs.getD i 0)
  unset : ∀ i, i < ws.length → (i ∉ done ∨ ws.getD i 0 = 0) → st.2[i]? = some 0
  le : ∀ e ∈ st.2, e ≤ st.1.length
  bound : st.1.length ≤ 15 * done.length

theorem layInv_step {ws : List Nat} {vs : List Int} {done : List Nat} {st : List UInt8 × List Nat} {i : Nat} (hws : ∀ i, isW8 (ws.getD i 0)) (I : LayInv ws vs done st) (hi : i < ws.length) : LayInv ws vs (done ++ [i]) (layStep ws vs st i) := by
  unfold layStep
  split
  · rename_i h0
    refine ⟨I.len, fun j hj hm hw => I.set j hj ?_ hw, fun j hj hm => I.unset j hj ?_, I.le, by have := I.bound; simp; (clear hi h0; omega)⟩
    · rcases List.mem_append.mp hm with h | h
      · exact h
      · have := List.mem_singleton.mp h; subst this; exact absurd h0 hw
    · rcases hm with h | h
      · exact .inl fun z => h (List.mem_append_left _ z)
      · exact .inr h
  · rename_i h0
    have hw8 := hws i
    have hl := laidN_len (ws.getD i 0) (vs.getD i 0) st.1
    have hpl := padN_lt (len := st.1.length) (size := ws.getD i 0) (by (clear hi hl; omega))
    have hps := padN_sum (len := st.1.length) (size := ws.getD i 0) (by (clear hi h0 hl; omega))
    refine ⟨by simpa using I.len, fun j hj hm hw => ?_, fun j hj hm => ?_, fun e he => ?_, ?_⟩
    · by_cases hji : j = i
      · subst hji
        refine ⟨_, List.getElem?_set_self (by rw [I.len]; exact hj), by (clear hj hw hi h0 hpl hps; omega), Nat.le_refl _, ?_, ?_⟩
        · rw [hl, show ws.getD j 0 + padN st.1.length (ws.getD j 0) + st.1.length = ws.getD j 0 + (st.1.length + padN st.1.length (ws.getD j 0)) by (clear hj hw hi h0 hl hpl hps; omega), Nat.add_mod_left]
          exact hps
        · rw [Nat.sub_self, List.drop_zero]
          unfold laidN
          exact List.take_left' (leE_len _ _)
      · have hm' : j ∈ done := by
          rcases List.mem_append.mp hm with h | h
          · exact h
          · exact absurd (List.mem_singleton.mp h) hji
        obtain ⟨s, h1, h2, h3, h4, h5⟩ := I.set j hj hm' hw
        refine ⟨s, by rw [List.getElem?_set_ne (Ne.symm hji)]; exact h1, h2, by show s ≤ (laidN (ws.getD i 0) (vs.getD i 0) st.1).length; (clear hi h0 hpl hps hj hw hji h1 h2 h4 h5; omega), h4, ?_⟩
        have e : (laidN (ws.getD i 0) (vs.getD i 0) st.1).drop ((laidN (ws.getD i 0) (vs.getD i 0) st.1).length - s) = st.1.drop (st.1.length - s) := by
          rw [hl]
          unfold laidN
          rw [← List.append_assoc, List.drop_append, List.drop_of_length_le (by simp [leE_len, zeros]; (clear hi h0 hl hpl hps hj hw hji h1 h2 h4 h5; omega)), List.nil_append]
          congr 1
          simp [leE_len, zeros]; (clear hi h0 hl hpl hps hj hw hji h1 h2 h4 h5; omega)
        rw [e]; exact h5
    · by_cases hji : j = i
      · subst hji
        rcases hm with h | h
        · exact absurd (List.mem_append_right _ (List.mem_singleton.mpr rfl)) h
        · exact absurd h h0
      · rw [List.getElem?_set_ne (Ne.symm hji)]
        refine I.unset j hj ?_
        rcases hm with h | h
        · exact .inl fun z => h (List.mem_append_left _ z)
        · exact .inr h
    · show e ≤ (laidN (ws.getD i 0) (vs.getD i 0) st.1).length
      rcases List.mem_or_eq_of_mem_set he with h | h
      · have := I.le e h; (clear hi h0 hpl hps; omega)
      · (clear hi h0 hpl hps; omega)
    · have := I.bound
      show (laidN (ws.getD i 0) (vs.getD i 0) st.1).length ≤ _
      rw [List.length_append, List.length_singleton]
      rcases hw8 with h | h | h | h | h <;> (clear hi h0 hps; omega)
theorem layInv_all {ws : List Nat} {vs : List Int} (hws : ∀ i, isW8 (ws.getD i 0)) : ∀ (order done : List Nat) (st : List UInt8 × List Nat), (∀ i ∈ order, i < ws.length) → LayInv ws vs done st → LayInv ws vs (done ++ order) (order.foldl (layStep ws vs) st)
  | [], done, st, _, I => by rw [List.append_nil]; exact I
  | i :: r, done, st, h, I => by
    have := layInv_all hws r (done ++ [i]) _ (fun j hj => h j (.tail _ hj)) (layInv_step hws I (h i (.head _)))
    rwa [List.append_assoc] at this
theorem layInv {ws : List Nat} {vs : List Int} {order : List Nat} (hws : ∀ i, isW8 (ws.getD i 0)) (h : ∀ i ∈ order, i < ws.length) : LayInv ws vs order (layAll ws vs order) := by
  refine layInv_all hws order [] _ h ⟨by simp, fun i _ hm => (nomatch hm), fun i hi _ => ?_, fun e he => ?_, by simp⟩
  · rw [List.getElem?_replicate, if_pos hi]
  · have := List.eq_of_mem_replicate he; omega

theorem mal_cases {ws : List Nat} (hws : ∀ i, isW8 (ws.getD i 0)) : ∀ (order : List Nat) (m : Nat), (m = 1 ∨ m = 2 ∨ m = 4 ∨ m = 8) → (order.foldl (malStep ws) m = 1 ∨ order.foldl (malStep ws) m = 2 ∨ order.foldl (malStep ws) m = 4 ∨ order.foldl (malStep ws) m = 8)
  | [], m, h => h
  | i :: r, m, h => by
    refine mal_cases hws r _ ?_
    unfold malStep
    have := hws i
    unfold isW8 at this
    split
    · exact h
    · omega
theorem mal_ge {ws : List Nat} : ∀ (order : List Nat) (m : Nat), m ≤ order.foldl (malStep ws) m ∧ ∀ i ∈ order, ws.getD i 0 ≤ order.foldl (malStep ws) m
  | [], m => ⟨Nat.le_refl _, fun _ h => by cases h⟩
  | i :: r, m => by
    obtain ⟨h1, h2⟩ := mal_ge (ws := ws) r (malStep ws m i)
    have h3 : m ≤ malStep ws m i ∧ ws.getD i 0 ≤ malStep ws m i := by unfold malStep; split <;> (clear h1; omega)
    refine ⟨by rw [List.foldl_cons]; omega, fun j hj => ?_⟩
    rw [List.foldl_cons]
    rcases List.mem_cons.mp hj with e | e
    · subst e; omega
    · exact h2 j e
theorem mal_in {ws : List Nat} : ∀ (order : List Nat) (m : Nat), order.foldl (malStep ws) m = m ∨ ∃ i ∈ order, order.foldl (malStep ws) m = ws.getD i 0
  | [], m => .inl rfl
  | i :: r, m => by
    rw [List.foldl_cons]
    rcases mal_in (ws := ws) r (malStep ws m i) with h | ⟨j, hj, h⟩
    · rw [h]
      unfold malStep
      split
      · exact .inl rfl
      · rcases Nat.le_total m (ws.getD i 0) with h1 | h1
        · exact .inr ⟨i, .head _, Nat.max_eq_right h1⟩
        · exact .inl (Nat.max_eq_left h1)
    · exact .inr ⟨j, .tail _ hj, h⟩

theorem layBounds {ws : List Nat} {vs : List Int} {order : List Nat} (hws : ∀ i, isW8 (ws.getD i 0)) (h : ∀ i ∈ order, i < ws.length) (hl : order.length ≤ 20) : LayBounds ws vs order := by
  have I := layInv (vs := vs) hws h
  exact ⟨by have := I.bound; omega, I.len, I.le, mal_cases hws order 1 (.inl rfl)⟩

/-! the row of slots -/
theorem kept_spec (slots : List Nat) : ∃ z, slots = (cutZ true slots.reverse).reverse ++ List.replicate z 0 := by
  unfold cutZ
  rw [if_pos rfl]
  refine ⟨(slots.reverse.takeWhile (· == 0)).length, ?_⟩
  have h1 := List.takeWhile_append_dropWhile (p := (· == 0)) (l := slots.reverse)
  have h2 : slots.reverse.takeWhile (· == 0) = List.replicate (slots.reverse.takeWhile (· == 0)).length 0 := by
    refine List.eq_replicate_of_mem fun x hx => ?_
    have := List.all_eq_true.mp (List.all_takeWhile (p := (· == 0)) (l := slots.reverse)) x hx
    simpa using this
  have h3 := congrArg List.reverse h1
  rw [List.reverse_append, List.reverse_reverse, h2, List.reverse_replicate] at h3
  exact h3.symm
theorem ents_drop (oo : Nat) : ∀ (l : List Nat) (i : Nat), i < l.length → ents oo l = ents oo (l.take i) ++ (leE 2 (entV oo (l.getD i 0)) ++ ents oo (l.drop (i + 1)))
  | [], i, h => by simp at h
  | e :: r, 0, _ => by unfold ents; simp
  | e :: r, i + 1, h => by
    have := ents_drop oo r i (by simpa using h)
    rw [List.take_succ_cons, List.drop_succ_cons, show (e :: r).getD (i + 1) 0 = r.getD i 0 from rfl]
    have e1 : ∀ l, ents oo (e :: l) = leE 2 (entV oo e) ++ ents oo l := fun l => by unfold ents; rw [List.flatMap_cons]
    rw [e1, e1, this, List.append_assoc]

theorem pad0 {l : Nat} (h : l % 4 = 0) : padN l 4 = 0 := by unfold padN; rw [h]
theorem zeros0 : zeros 0 = [] := rfl

/-- the whole, cut at its joints -/
theorem laid_form {ws : List Nat} {vs : List Int} {order : List Nat} {sized : Bool} (hws : ∀ i, isW8 (ws.getD i 0)) (h : ∀ i ∈ order, i < ws.length) :
    ∃ pm L1 : Nat, ∃ c : Nat, c = (cutZ true (layAll ws vs order).2.reverse).length ∧
      L1 = pm + (4 + 2 * c + ((layAll ws vs order).1.length + padN (layAll ws vs order).1.length 4 + 4)) ∧
      pm = padN (4 + 2 * c + ((layAll ws vs order).1.length + padN (layAll ws vs order).1.length 4 + 4) + (if sized then 8 else 4)) (max (malAll ws order) 4) ∧
      laidOf ws vs order sized = (if sized then leE 4 ((L1 + 4 : Nat) : Int) else []) ++ (leE 4 ((L1 - ((layAll ws vs order).1.length + padN (layAll ws vs order).1.length 4 + 4) + 4 : Nat) : Int) ++ (zeros pm ++
        vtab ((layAll ws vs order).1.length + padN (layAll ws vs order).1.length 4 + 4) ((layAll ws vs order).1.length + padN (layAll ws vs order).1.length 4 + 4) (layAll ws vs order).2 (zeros (padN (layAll ws vs order).1.length 4) ++ (layAll ws vs order).1))) := by
  unfold laidOf
  generalize hV : vtab ((layAll ws vs order).1.length + padN (layAll ws vs order).1.length 4 + 4) ((layAll ws vs order).1.length + padN (layAll ws vs order).1.length 4 + 4) (layAll ws vs order).2 (zeros (padN (layAll ws vs order).1.length 4) ++ (layAll ws vs order).1) = V
  have hVl : V.length = 4 + 2 * (cutZ true (layAll ws vs order).2.reverse).length + ((layAll ws vs order).1.length + padN (layAll ws vs order).1.length 4 + 4) := by
    rw [← hV]; unfold vtab; simp [leE_len, ents_len, zeros]; (clear hV; omega)
  generalize hoo : (layAll ws vs order).1.length + padN (layAll ws vs order).1.length 4 + 4 = oo at hVl
  generalize hc : (cutZ true (layAll ws vs order).2.reverse).length = c at hVl
  have hmal := mal_cases hws order 1 (.inl rfl)
  have hmal : malAll ws order = 1 ∨ malAll ws order = 2 ∨ malAll ws order = 4 ∨ malAll ws order = 8 := hmal
  generalize hm : max (malAll ws order) 4 = m
  have hm4 : m = 4 ∨ m = 8 := by (clear hV hoo hc hVl; omega)
  refine ⟨padN (V.length + (if sized then 8 else 4)) m, padN (V.length + (if sized then 8 else 4)) m + V.length, c, rfl, by (clear hV hoo hc hmal hm hm4; omega), by rw [hVl], ?_⟩
  have hps := padN_sum (len := V.length + (if sized then 8 else 4)) (size := m) (by (clear hV hoo hc hVl hmal hm; omega))
  have hL : (padN (V.length + (if sized then 8 else 4)) m + V.length) % 4 = 0 := by
    have : (if sized then 8 else 4) % 4 = 0 := by cases sized <;> rfl
    rcases hm4 with e | e <;> rw [e] at hps ⊢ <;> (clear hV hoo hc hVl hmal hm e; omega)
  have hpad : (finPad sized m V).length = padN (V.length + (if sized then 8 else 4)) m + V.length := by unfold finPad; simp [zeros]
  have hroot : finRoot oo (finPad sized m V) = leE 4 ((padN (V.length + (if sized then 8 else 4)) m + V.length - oo + 4 : Nat) : Int) ++ (zeros (padN (V.length + (if sized then 8 else 4)) m) ++ V) := by
    unfold finRoot laidN
    rw [hpad, pad0 hL, zeros0, List.nil_append, Nat.add_zero]
    rfl
  have hrl : (finRoot oo (finPad sized m V)).length = padN (V.length + (if sized then 8 else 4)) m + V.length + 4 := by rw [hroot]; simp [leE_len, zeros]; (clear hV hoo hc hVl hmal hm hm4 hps hL hpad hroot; omega)
  unfold finOut
  cases sized with
  | false => simp only [Bool.false_eq_true, if_false] at hroot ⊢; rw [hroot]; rfl
  | true =>
    simp only [if_true] at hroot hrl hL ⊢
    unfold laidN
    rw [hrl, pad0 (by (clear hV hoo hc hVl hmal hm hm4 hps hroot; omega)), zeros0, List.nil_append, hroot]

theorem getD_app {pre y rest : List UInt8} {p i : Nat} (hp : pre.length = p) (hi : i < y.length) : (pre ++ (y ++ rest)).getD (p + i) 0 = y.getD i 0 := by
  rw [List.getD_eq_getElem?_getD, List.getD_eq_getElem?_getD, List.getElem?_append_right (by (clear hi; omega)), show p + i - pre.length = i by (clear hi; omega), List.getElem?_append_left hi]
theorem leE4_01 {x : Nat} (h : x < 65536) : ((leE 4 (x : Int)).getD 0 0).toNat + 256 * ((leE 4 (x : Int)).getD 1 0).toNat = x := by
  unfold leE
  rw [Int.emod_eq_of_lt (by omega) (by omega)]
  simp [List.range_succ_eq_map]
  omega

theorem good_of {ws : List Nat} {vs : List Int} {order : List Nat} {sized : Bool} (hws : ∀ i, isW8 (ws.getD i 0)) (h : ∀ i ∈ order, i < ws.length) (hol : order.length ≤ 20) (hl : ws.length ≤ 20) (cov : ∀ i, i < ws.length → ws.getD i 0 ≠ 0 → i ∈ order) (hvs : ∀ i, i < ws.length → inR false (ws.getD i 0) (vs.getD i 0)) :
    ∃ pos vt size pl, GoodB (laidOf ws vs order sized) ws vs sized pos vt size pl := by
  have I := layInv (vs := vs) hws h
  obtain ⟨pm, L1, c, hc, hL1, hpm, hb⟩ := laid_form (vs := vs) (sized := sized) hws h
  have hbound := I.bound
  have hp4 := padN_lt (len := (layAll ws vs order).1.length) (size := 4) (by (clear hol hl hc hL1 hpm hb hbound; omega))
  have hps4 := padN_sum (len := (layAll ws vs order).1.length) (size := 4) (by (clear hol hl hc hL1 hpm hb hbound hp4; omega))
  generalize hoo : (layAll ws vs order).1.length + padN (layAll ws vs order).1.length 4 + 4 = oo at *
  have hmal : malAll ws order = 1 ∨ malAll ws order = 2 ∨ malAll ws order = 4 ∨ malAll ws order = 8 := mal_cases hws order 1 (.inl rfl)
  have hmge := (mal_ge (ws := ws) order 1).2
  have hmge : ∀ i ∈ order, ws.getD i 0 ≤ malAll ws order := hmge
  generalize hm : max (malAll ws order) 4 = m at *
  have hm4 : m = 4 ∨ m = 8 := by (clear hol hl hc hbound hp4 hps4 hoo hL1 hb hpm; omega)
  have hpml := padN_lt (len := 4 + 2 * c + oo + (if sized then 8 else 4)) (size := m) (by (clear hol hl hc hbound hp4 hps4 hoo hL1 hb hmal hm hpm; omega))
  have hpms := padN_sum (len := 4 + 2 * c + oo + (if sized then 8 else 4)) (size := m) (by (clear hol hl hc hbound hp4 hps4 hoo hL1 hb hmal hm hm4; omega))
  rw [← hpm] at hpml hpms
  obtain ⟨z, hz⟩ := kept_spec (layAll ws vs order).2
  generalize hK : (cutZ true (layAll ws vs order).2.reverse).reverse = kept at hz
  have hkl : kept.length = c := by rw [← hK, List.length_reverse, hc]
  have hcz : c + z = ws.length := by have := congrArg List.length hz; rw [I.len, List.length_append, List.length_replicate, hkl] at this; (clear hol hl hbound hp4 hps4 hoo hL1 hb hmal hm hpm hm4 hpml hpms hK hz; omega)
  generalize hat : (if sized then 4 else 0) = at_ at *
  have hps : (if sized then 8 else 4) = at_ + 4 := by rw [← hat]; cases sized <;> rfl
  rw [hps] at hpms
  -- the pieces
  generalize hV : vtab oo oo (layAll ws vs order).2 (zeros (padN (layAll ws vs order).1.length 4) ++ (layAll ws vs order).1) = V at hb
  have hVf : V = leE 2 ((c + 2 : Nat) * 2 : Int) ++ (leE 2 (oo : Int) ++ (ents oo kept ++ (leE 4 ((4 + 2 * c : Nat) : Int) ++ (zeros (padN (layAll ws vs order).1.length 4) ++ (layAll ws vs order).1)))) := by
    rw [← hV]; unfold vtab; rw [hK, ← hc]
  have hVl : V.length = 4 + 2 * c + oo := by rw [hVf]; simp [leE_len, ents_len, zeros]; (clear hol hl hbound hp4 hL1 hmal hm hpm hm4 hpml hK hz hcz hpms hat hps hV hb hVf; omega)
  generalize hpre : (if sized then leE 4 ((L1 + 4 : Nat) : Int) else []) = pre at hb
  have hprel : pre.length = at_ := by rw [← hpre, ← hat]; cases sized <;> simp [leE_len]
  generalize hB : laidOf ws vs order sized = b at *
  have hbl : b.length = at_ + 4 + L1 := by rw [hb]; simp [leE_len, zeros, hprel]; (clear hol hl hbound hp4 hmal hm hpm hm4 hpml hK hz hcz hpms hat hps hV hVf hpre hprel hB hb; omega)
  have hat4 : at_ = 0 ∨ at_ = 4 := by rw [← hat]; cases sized <;> simp
  have hpreV : (pre ++ (leE 4 ((L1 - oo + 4 : Nat) : Int) ++ zeros pm)).length = at_ + 4 + pm := by simp [leE_len, zeros, hprel]; (clear hol hl hc hbound hp4 hps4 hoo hL1 hmal hm hpm hm4 hpml hK hz hkl hcz hpms hat hps hV hVf hVl hpre hprel hB hb hbl hat4; omega)
  have hbV : b = (pre ++ (leE 4 ((L1 - oo + 4 : Nat) : Int) ++ zeros pm)) ++ V := by rw [hb]; simp
  generalize hP : pre ++ (leE 4 ((L1 - oo + 4 : Nat) : Int) ++ zeros pm) = P at hpreV hbV
  -- the octets behind the row's head
  have hrow : rd false 2 b (at_ + 4 + pm) = ((c + 2 : Nat) * 2 : Int) := by
    refine rd_u (pre := P) (rest := leE 2 (oo : Int) ++ (ents oo kept ++ (leE 4 ((4 + 2 * c : Nat) : Int) ++ (zeros (padN (layAll ws vs order).1.length 4) ++ (layAll ws vs order).1)))) (by rw [hbV, hVf]) hpreV ?_
    have := inR_nat (w := 2) (x := (c + 2) * 2) (by (clear hol hbound hp4 hps4 hoo hL1 hmal hm hpm hm4 hpml hK hz hpms hat hps hV hVf hVl hpre hprel hB hb hbl hat4 hP hpreV hbV; omega))
    simpa using this
  have hsz : rd false 2 b (at_ + 4 + pm + 2) = (oo : Int) := by
    refine rd_u (pre := P ++ leE 2 ((c + 2 : Nat) * 2 : Int)) (rest := ents oo kept ++ (leE 4 ((4 + 2 * c : Nat) : Int) ++ (zeros (padN (layAll ws vs order).1.length 4) ++ (layAll ws vs order).1))) (by rw [hbV, hVf]; simp) (by simp [leE_len, hpreV]) (inR_nat (by (clear hl hc hL1 hmal hm hpm hm4 hpml hK hz hkl hcz hpms hat hps hV hVf hVl hpre hprel hB hb hbl hat4 hP hpreV hbV hrow; omega)))
  have hso : rd true 4 b (at_ + 4 + pm + (4 + 2 * c)) = ((4 + 2 * c : Nat) : Int) := by
    refine rd_s (pre := P ++ (leE 2 ((c + 2 : Nat) * 2 : Int) ++ (leE 2 (oo : Int) ++ ents oo kept))) (rest := zeros (padN (layAll ws vs order).1.length 4) ++ (layAll ws vs order).1) (by rw [hbV, hVf]; simp) (by simp [leE_len, ents_len, hpreV, hkl]; (clear hol hl hc hbound hp4 hps4 hoo hL1 hmal hm hpm hm4 hpml hK hz hkl hcz hpms hat hps hV hVf hVl hpre hprel hB hb hbl hat4 hP hpreV hbV hrow hsz; omega)) (by (clear hol hbound hp4 hps4 hoo hL1 hmal hm hpm hm4 hpml hK hz hpms hat hps hV hVf hVl hpre hprel hB hb hbl hat4 hP hpreV hbV hrow hsz; omega))
  have hslot : ∀ i, i < ws.length → (layAll ws vs order).2.getD i 0 = if i < c then kept.getD i 0 else 0 := fun i hi => by
    rw [hz, List.getD_eq_getElem?_getD]
    split
    · rename_i hic
      rw [List.getElem?_append_left (by (clear hol hl hbound hp4 hps4 hoo hL1 hmal hm hpm hm4 hpml hK hz hcz hpms hat hps hV hVf hVl hpre hprel hB hb hbl hat4 hP hpreV hbV hrow hsz hso hi; omega)), List.getD_eq_getElem?_getD]
    · rename_i hic
      rw [List.getElem?_append_right (by (clear hol hl hbound hp4 hps4 hoo hL1 hmal hm hpm hm4 hpml hK hz hcz hpms hat hps hV hVf hVl hpre hprel hB hb hbl hat4 hP hpreV hbV hrow hsz hso hi; omega)), List.getElem?_replicate]
      split <;> rfl
  have hsle : ∀ i, (layAll ws vs order).2.getD i 0 ≤ (layAll ws vs order).1.length := fun i => by
    rw [List.getD_eq_getElem?_getD]
    cases e : (layAll ws vs order).2[i]? with
    | none => simp
    | some x => exact I.le x (List.mem_of_getElem? e)
  refine ⟨at_ + 4 + pm + (4 + 2 * c), at_ + 4 + pm, oo, fun i => if (layAll ws vs order).2.getD i 0 = 0 then 0 else oo - (layAll ws vs order).2.getD i 0, ?_⟩
  refine ⟨by (clear hmal hm hK hz hpms hat hV hVf hVl hpre hB hb hP hbV hrow hsz hso; omega), by rw [hat]; (clear hol hl hbound hp4 hmal hm hm4 hpml hK hz hcz hpms hat hV hVf hVl hpre hB hb hat4 hP hbV hrow hsz hso; omega), ?_, by (clear hl hmal hm hm4 hpml hK hz hcz hpms hat hV hVf hVl hpre hB hb hat4 hP hpreV hbV hrow hsz hso; omega), by rw [hso]; (clear hol hl hc hbound hp4 hps4 hoo hL1 hmal hm hpm hm4 hpml hK hz hkl hcz hpms hat hps hV hVf hVl hpre hprel hB hb hbl hat4 hP hpreV hbV hrow hsz hso; omega), by (clear hol hl hbound hp4 hmal hm hm4 hpml hK hz hcz hpms hat hV hVf hVl hpre hB hb hat4 hP hpreV hbV hrow hsz hso; omega), hsz, by (clear hol hl hbound hp4 hmal hm hm4 hpml hK hz hcz hpms hat hV hVf hVl hpre hB hb hat4 hP hpreV hbV hrow hsz hso; omega), fun e => ?_, fun i hi => ?_, fun i hi => ?_, fun i hi hne => ?_⟩
  · rw [hat, hb]
    have g0 : (pre ++ (leE 4 ((L1 - oo + 4 : Nat) : Int) ++ (zeros pm ++ V))).getD at_ 0 = (leE 4 ((L1 - oo + 4 : Nat) : Int)).getD 0 0 := getD_app (i := 0) hprel (by rw [leE_len]; (clear hol hl hc hbound hp4 hps4 hoo hL1 hmal hm hpm hm4 hpml hK hz hkl hcz hpms hat hps hV hVf hVl hpre hprel hB hb hbl hat4 hP hpreV hbV hrow hsz hso; omega))
    have g1 := getD_app (pre := pre) (y := leE 4 ((L1 - oo + 4 : Nat) : Int)) (rest := zeros pm ++ V) (i := 1) hprel (by rw [leE_len]; (clear hol hl hc hbound hp4 hps4 hoo hL1 hmal hm hpm hm4 hpml hK hz hkl hcz hpms hat hps hV hVf hVl hpre hprel hB hb hbl hat4 hP hpreV hbV hrow hsz hso g0; omega))
    have := leE4_01 (x := L1 - oo + 4) (by (clear hol hbound hp4 hmal hm hK hz hpms hat hV hVf hVl hpre hB hb hP hbV hrow hsz hso g0 g1; omega))
    rw [g0, g1]
    (clear hl hmal hm hm4 hpml hK hz hcz hpms hat hV hVf hVl hpre hB hb hat4 hP hbV hrow hsz hso g0 g1; omega)
  · subst e
    have ea : at_ = 4 := by rw [← hat]; rfl
    refine ⟨?_, by (clear hol hl hbound hp4 hmal hm hm4 hpml hK hz hcz hpms hV hVf hVl hprel hb hat4 hP hbV hrow hsz hso hpre hB; omega)⟩
    have hpe : pre = leE 4 ((L1 + 4 : Nat) : Int) := by rw [← hpre]; rfl
    have := rd_u (b := b) (pre := []) (p := 0) (w := 4) (x := ((L1 + 4 : Nat) : Int)) (rest := leE 4 ((L1 - oo + 4 : Nat) : Int) ++ (zeros pm ++ V)) (by rw [hb, hpe]; rfl) rfl (inR_nat (by (clear hmal hm hK hz hpms hV hVf hVl hprel hb hP hbV hrow hsz hso hpre hB hpe; omega)))
    rw [this]; (clear hol hl hbound hp4 hmal hm hm4 hpml hK hz hcz hpms hV hVf hVl hprel hb hat4 hP hbV hrow hsz hso hpre hB hpe; omega)
  · constructor
    · unfold offV
      rw [hrow]
      split
      · rename_i hlt
        have hic : i < c := by (clear hol hl hbound hp4 hps4 hoo hL1 hmal hm hpm hm4 hpml hK hz hcz hpms hat hps hV hVf hVl hpre hprel hB hb hbl hat4 hP hpreV hbV hrow hsz hso hi; omega)
        have e1 := ents_drop oo kept i (by (clear hol hl hbound hp4 hps4 hoo hL1 hmal hm hpm hm4 hpml hK hz hcz hpms hat hps hV hVf hVl hpre hprel hB hb hbl hat4 hP hpreV hbV hrow hsz hso hi hic; omega))
        have hss := hsle i
        rw [hslot i hi, if_pos hic] at hss ⊢
        have := rd_u (b := b) (pre := P ++ (leE 2 ((c + 2 : Nat) * 2 : Int) ++ (leE 2 (oo : Int) ++ ents oo (kept.take i)))) (p := at_ + 4 + pm + (4 + 2 * i)) (w := 2) (x := entV oo (kept.getD i 0))
          (rest := ents oo (kept.drop (i + 1)) ++ (leE 4 ((4 + 2 * c : Nat) : Int) ++ (zeros (padN (layAll ws vs order).1.length 4) ++ (layAll ws vs order).1))) (by rw [hbV, hVf, e1]; simp) (by simp [leE_len, ents_len, hpreV]; (clear hol hl hbound hp4 hps4 hoo hL1 hmal hm hpm hm4 hpml hK hz hcz hpms hat hps hV hVf hVl hpre hprel hB hb hbl hat4 hP hpreV hbV hrow hsz hso hi hic e1 hss; omega)) (by
            unfold entV
            split
            · exact inR_nat (x := 0) (by (clear hol hl hc hbound hp4 hps4 hoo hL1 hmal hm hpm hm4 hpml hK hz hkl hcz hpms hat hps hV hVf hVl hpre hprel hB hb hbl hat4 hP hpreV hbV hrow hsz hso hi hlt hic e1 hss; omega))
            · have := inR_nat (w := 2) (x := oo - kept.getD i 0) (by (clear hl hc hL1 hmal hm hpm hm4 hpml hK hz hkl hcz hpms hat hps hV hVf hVl hpre hprel hB hb hbl hat4 hP hpreV hbV hrow hsz hso hi hlt hic e1 hss; omega))
              rwa [show ((oo - kept.getD i 0 : Nat) : Int) = (oo : Int) - (kept.getD i 0 : Nat) by (clear hol hl hc hbound hL1 hmal hm hpm hm4 hpml hK hz hkl hcz hpms hat hps hV hVf hVl hpre hprel hB hb hbl hat4 hP hpreV hbV hrow hsz hso hi hlt hic e1; omega)] at this)
        rw [this]
        unfold entV
        split
        · rfl
        · (clear hol hl hc hbound hL1 hmal hm hpm hm4 hpml hK hz hkl hcz hpms hat hps hV hVf hVl hpre hprel hB hb hbl hat4 hP hpreV hbV hrow hsz hso hi hlt hic e1 this; omega)
      · rename_i hlt
        rw [hslot i hi]
        simp [show ¬ i < c by (clear hol hl hbound hp4 hps4 hoo hL1 hmal hm hpm hm4 hpml hK hz hcz hpms hat hps hV hVf hVl hpre hprel hB hb hbl hat4 hP hpreV hbV hrow hsz hso hi; omega)]
    · rw [hrow]; intro hlt; (clear hol hl hbound hp4 hmal hm hm4 hpml hK hz hcz hpms hat hV hVf hVl hpre hB hb hat4 hP hpreV hbV hrow hsz hso hi; omega)
  · have hss := hsle i
    constructor
    · intro he
      apply Classical.byContradiction
      intro hw
      obtain ⟨s, h1, h2, h3, h4, h5⟩ := I.set i hi (cov i hi hw) hw
      rw [List.getD_eq_getElem?_getD, h1] at he
      simp only [Option.getD_some] at he
      split at he <;> (clear hol hl hc hbound hL1 hmal hm hpm hm4 hpml hK hz hkl hcz hpms hat hps hV hVf hVl hpre hprel hB hb hbl hat4 hP hpreV hbV hrow hsz hso hi hss h1 h4 h5; omega)
    · intro hw
      have := I.unset i hi (.inr hw)
      rw [List.getD_eq_getElem?_getD, this]
      rfl
  · have hw : ws.getD i 0 ≠ 0 := fun e => by
      have := I.unset i hi (.inr e)
      rw [List.getD_eq_getElem?_getD, this] at hne
      exact hne rfl
    obtain ⟨s, h1, h2, h3, h4, h5⟩ := I.set i hi (cov i hi hw) hw
    have hgd : (layAll ws vs order).2.getD i 0 = s := by rw [List.getD_eq_getElem?_getD, h1]; rfl
    rw [hgd, if_neg (by (clear hol hl hc hbound hp4 hps4 hoo hL1 hmal hm hpm hm4 hpml hK hz hkl hcz hpms hat hps hV hVf hVl hpre hprel hB hb hbl hat4 hP hpreV hbV hrow hsz hso hi hne h1 h3 h4 h5; omega))]
    have hpos : at_ + 4 + pm + (4 + 2 * c) + (oo - s) = b.length - s := by (clear hol hl hbound hmal hm hm4 hpml hK hz hcz hpms hV hVf hVl hpre hB hb hat4 hP hbV hrow hsz hso hi hne hw h1 h2 h4 h5; omega)
    have hdrop : b.drop (b.length - s) = (layAll ws vs order).1.drop ((layAll ws vs order).1.length - s) := by
      have e2 : b = (P ++ (leE 2 ((c + 2 : Nat) * 2 : Int) ++ (leE 2 (oo : Int) ++ (ents oo kept ++ (leE 4 ((4 + 2 * c : Nat) : Int) ++ zeros (padN (layAll ws vs order).1.length 4)))))) ++ (layAll ws vs order).1 := by rw [hbV, hVf]; simp
      have e3 := congrArg List.length e2
      rw [List.length_append] at e3
      rw [e3]
      conv => lhs; rw [e2]
      rw [List.drop_append, List.drop_of_length_le (by (clear hol hl hbound hp4 hmal hm hm4 hpml hK hz hcz hpms hat hV hVf hVl hpre hB hb hat4 hP hbV hrow hsz hso hi hne hw h1 h2 h4 h5 e2; omega)), List.nil_append]
      congr 1
      (clear hol hl hbound hp4 hmal hm hm4 hpml hK hz hcz hpms hat hV hVf hVl hpre hB hb hat4 hP hbV hrow hsz hso hi hne hw h1 h2 h4 h5 e2; omega)
    refine ⟨?_, ?_, by (clear hol hl hbound hmal hm hm4 hpml hK hz hcz hpms hV hVf hVl hpre hB hb hat4 hP hbV hrow hsz hso hi hne hw h1 h2 h4 h5 hdrop; omega), by (clear hol hl hbound hp4 hmal hm hm4 hpml hK hz hcz hpms hV hVf hVl hpre hB hb hat4 hP hbV hrow hsz hso hi hne hw h1 h3 h4 h5 hdrop; omega)⟩
    · rw [hpos]
      unfold rd cut
      rw [Nat.add_sub_cancel_left, hdrop, h5]
      exact leB_leE_u (hvs i hi)
    · rw [hpos]
      have hmw := hmge i (cov i hi hw)
      have hw8 := hws i
      have hbm : b.length % m = 0 := by
        rw [hbl, hL1, ← hpms]
        congr 1
        (clear hol hl hc hbound hp4 hps4 hoo hL1 hmal hm hpm hm4 hpml hK hz hkl hcz hpms hat hps hV hVf hVl hpre hprel hB hb hbl hat4 hP hpreV hbV hrow hsz hso hi hne hw h1 h2 h3 h4 h5 hgd hpos hdrop hmw; omega)
      rcases hm4 with e | e <;> rw [e] at hbm <;> rcases hw8 with e' | e' | e' | e' | e' <;> rw [e'] at h4 h2 hmw ⊢ <;> (clear hol hl hbound hp4 hmal hpml hK hz hcz hpms hat hV hVf hVl hpre hB hb hP hbV hrow hsz hso hi h1 h2 h3 h5 hgd hdrop; omega)
end Q03
section Q03b
/-! how long it is -/
noncomputable def endStep (ws : List Nat) (e i : Nat) : Nat := if ws.getD i 0 = 0 then e else (e + ws.getD i 0 - 1) / ws.getD i 0 * ws.getD i 0 + ws.getD i 0
theorem pad_ceil {l w : Nat} (h : w = 1 ∨ w = 2 ∨ w = 4 ∨ w = 8) : l + padN l w = (l + w - 1) / w * w := by
  unfold padN
  rcases h with rfl | rfl | rfl | rfl <;> omega
theorem lay_end {ws : List Nat} {vs : List Int} (hws : ∀ i, isW8 (ws.getD i 0)) : ∀ (order : List Nat) (st : List UInt8 × List Nat), (order.foldl (layStep ws vs) st).1.length = order.foldl (endStep ws) st.1.length
  | [], _ => rfl
  | i :: r, st => by
    rw [List.foldl_cons, List.foldl_cons, lay_end hws r]
    congr 1
    unfold layStep endStep
    split
    · rfl
    · rename_i h0
      have hw := hws i
      show (laidN (ws.getD i 0) (vs.getD i 0) st.1).length = _
      rw [laidN_len, ← pad_ceil (by unfold isW8 at hw; omega)]
      (clear h0; omega)

theorem dropWhile_head : ∀ {r t : List Nat} {e : Nat}, r.dropWhile (· == 0) = e :: t → e ≠ 0
  | [], _, _, h => by simp at h
  | x :: r, t, e, h => by
    rw [List.dropWhile_cons] at h
    split at h
    · exact dropWhile_head h
    · rename_i hx
      cases h
      simpa using hx

/-- the row of slots goes to the last one that is held -/
theorem last_kept {ws : List Nat} {vs : List Int} {order : List Nat} (hws : ∀ i, isW8 (ws.getD i 0)) (h : ∀ i ∈ order, i < ws.length) (cov : ∀ i, i < ws.length → ws.getD i 0 ≠ 0 → i ∈ order) :
    (∀ i, i < ws.length → ws.getD i 0 ≠ 0 → i < (cutZ true (layAll ws vs order).2.reverse).length) ∧ ((cutZ true (layAll ws vs order).2.reverse).length ≠ 0 → (cutZ true (layAll ws vs order).2.reverse).length - 1 < ws.length ∧ ws.getD ((cutZ true (layAll ws vs order).2.reverse).length - 1) 0 ≠ 0) := by
  have I := layInv (vs := vs) hws h
  obtain ⟨z, hz⟩ := kept_spec (layAll ws vs order).2
  generalize hK : (cutZ true (layAll ws vs order).2.reverse) = K at hz ⊢
  have hlen := congrArg List.length hz
  rw [I.len, List.length_append, List.length_reverse, List.length_replicate] at hlen
  refine ⟨fun i hi hw => ?_, fun hne => ?_⟩
  · apply Classical.byContradiction
    intro hge
    obtain ⟨s, h1, h2, _⟩ := I.set i hi (cov i hi hw) hw
    rw [hz, List.getElem?_append_right (by rw [List.length_reverse]; (clear hK hz hlen hi hw h1 h2; omega)), List.getElem?_replicate] at h1
    split at h1
    · cases h1; (clear hK hz hlen hi hge; omega)
    · cases h1
  · refine ⟨by (clear hK hz; omega), fun hw => ?_⟩
    have h1 := I.unset (K.length - 1) (by (clear hK hz hw; omega)) (.inr hw)
    rw [hz, List.getElem?_append_left (by rw [List.length_reverse]; (clear hK hz hlen hw h1; omega)), List.getElem?_reverse (by (clear hK hz hlen hw h1; omega))] at h1
    rw [show K.length - 1 - (K.length - 1) = 0 by (clear hK hz hlen hne hw h1; omega)] at h1
    match K, hK, h1 with
    | e :: t, hK, h1 =>
      have : e = 0 := by simpa using h1
      unfold cutZ at hK
      rw [if_pos rfl] at hK
      exact dropWhile_head hK this

theorem zlen (n : Nat) : (zeros n).length = n := List.length_replicate
theorem laid_length {ws : List Nat} {vs : List Int} {order : List Nat} {sized : Bool} (hws : ∀ i, isW8 (ws.getD i 0)) (h : ∀ i ∈ order, i < ws.length) (cov : ∀ i, i < ws.length → ws.getD i 0 ≠ 0 → i ∈ order) {great last : Nat}
    (hg1 : great = 4 ∨ great ∈ ws) (hg2 : 4 ≤ great ∧ ∀ w ∈ ws, w ≤ great)
    (hl1 : last = 0 ∨ ∃ i, i < ws.length ∧ ws.getD i 0 ≠ 0 ∧ last = i + 1) (hl2 : ∀ i, i < ws.length → ws.getD i 0 ≠ 0 → i + 1 ≤ last) :
    (great = 4 ∨ great = 8) ∧ (laidOf ws vs order sized).length = ((order.foldl (endStep ws) 0 + 3) / 4 * 4 + (4 + 4 + 2 * last + 4 + (if sized then 4 else 0)) + great - 1) / great * great := by
  obtain ⟨pm, L1, c, hc, hL1, hpm, hb⟩ := laid_form (vs := vs) (sized := sized) hws h
  obtain ⟨k1, k2⟩ := last_kept (vs := vs) hws h cov
  rw [← hc] at k1 k2
  have hmal : malAll ws order = 1 ∨ malAll ws order = 2 ∨ malAll ws order = 4 ∨ malAll ws order = 8 := mal_cases hws order 1 (.inl rfl)
  have hmge : ∀ i ∈ order, ws.getD i 0 ≤ malAll ws order := (mal_ge (ws := ws) order 1).2
  have hmin : malAll ws order = 1 ∨ ∃ i ∈ order, malAll ws order = ws.getD i 0 := mal_in (ws := ws) order 1
  generalize malAll ws order = M at hpm hmal hmge hmin
  have memw : ∀ i, i < ws.length → ws.getD i 0 ∈ ws := fun i hi => by
    rw [List.getD_eq_getElem?_getD, List.getElem?_eq_getElem hi]; exact List.getElem_mem hi
  have hgr : max M 4 = great := by
    have a1 : M ≤ great := by
      rcases hmin with e | ⟨i, hi, e⟩
      · clear hl1; (clear hg1 hc hL1 hb hpm hmal; omega)
      · rw [e]; exact hg2.2 _ (memw i (h i hi))
    have a2 : great ≤ max M 4 := by
      rcases hg1 with e | e
      · clear hmin hl1; (clear hg2 hc hL1 hb hpm hmal; omega)
      · obtain ⟨i, hi, e2⟩ := List.mem_iff_getElem.mp e
        have e3 : ws.getD i 0 = great := by rw [List.getD_eq_getElem?_getD, List.getElem?_eq_getElem hi]; exact e2
        have := hmge i (cov i hi (by clear hmin hl1; (clear hc hL1 hb hpm hmal a1; omega)))
        clear hmin hl1; (clear hc hL1 hb hpm hmal; omega)
    clear hmin hl1; (clear hg1 hc hL1 hb hpm hmal; omega)
  have hlast : last = c := by
    have a1 : c ≤ last := by
      by_cases e : c = 0
      · (clear hg1 hg2 hl1 hL1 hb hpm hmal hmin hgr; omega)
      · obtain ⟨b1, b2⟩ := k2 e
        have := hl2 _ b1 b2
        (clear hg1 hg2 hl1 hL1 hb hpm hmal hmin hgr e b1; omega)
    have a2 : last ≤ c := by
      rcases hl1 with e | ⟨i, hi, hw, e⟩
      · (clear hg1 hg2 hL1 hb hpm hmal hmin hgr a1; omega)
      · have := k1 i hi hw; (clear hg1 hg2 hL1 hb hpm hmal hmin hgr hi hw; omega)
    (clear hg1 hg2 hl1 hL1 hb hpm hmal hmin hgr; omega)
  have hg48 : great = 4 ∨ great = 8 := by clear hmin hl1; (clear hg1 hc hL1 hb hpm hlast; omega)
  refine ⟨hg48, ?_⟩
  have he := lay_end (vs := vs) hws order ([], List.replicate ws.length 0)
  change (layAll ws vs order).1.length = order.foldl (endStep ws) 0 at he
  have hp4 := pad_ceil (l := (layAll ws vs order).1.length) (w := 4) (.inr (.inr (.inl rfl)))
  rw [he] at hp4
  have hVl : (vtab ((layAll ws vs order).1.length + padN (layAll ws vs order).1.length 4 + 4) ((layAll ws vs order).1.length + padN (layAll ws vs order).1.length 4 + 4) (layAll ws vs order).2 (zeros (padN (layAll ws vs order).1.length 4) ++ (layAll ws vs order).1)).length = 4 + 2 * c + ((layAll ws vs order).1.length + padN (layAll ws vs order).1.length 4 + 4) := by
    unfold vtab; rw [← hc]; simp [leE_len, ents_len, zeros, ← hc]; (clear hg1 hg2 hl1 hc hL1 hb hpm hmal hmin hgr hlast hg48 he hp4; omega)
  rw [hgr] at hpm
  have hlen : (laidOf ws vs order sized).length = (if sized then 4 else 0) + 4 + L1 := by
    rw [hb]
    cases sized <;> simp only [Bool.false_eq_true, if_false, if_true, List.length_append, leE_len, hVl, zlen, List.length_nil, List.append_nil, List.nil_append] <;> clear hmin hl1 <;> (clear hg1 hg2 hmal hgr hlast hg48 he hp4 hVl hb hpm; omega)
  rw [hlen, hL1, he]
  have hpg := pad_ceil (l := 4 + 2 * c + ((layAll ws vs order).1.length + padN (layAll ws vs order).1.length 4 + 4) + (if sized then 8 else 4)) (w := great) (by (clear hg1 hl1 hc hL1 hb hpm hmal hmin hlast hVl hlen; omega))
  rw [← hpm, he] at hpg
  subst hlast
  rcases hg48 with e | e <;> subst e <;> cases sized <;> simp only [Bool.false_eq_true, if_false, if_true] at hpg ⊢ <;> (clear hl1 hmal hmin hg2 hb; omega)

/-! by falling widths nothing is lost -/
theorem same_end {ws : List Nat} {w : Nat} (hw : w = 1 ∨ w = 2 ∨ w = 4 ∨ w = 8) : ∀ (l : List Nat) (e : Nat), (∀ i ∈ l, ws.getD i 0 = w) → e % w = 0 → l.foldl (endStep ws) e = e + w * l.length
  | [], e, _, _ => by simp
  | i :: r, e, h, he => by
    have h1 : endStep ws e i = e + w := by
      unfold endStep
      rw [h i (.head _), if_neg (by (clear he; omega))]
      rcases hw with rfl | rfl | rfl | rfl <;> omega
    rw [List.foldl_cons, h1, same_end hw r _ (fun j hj => h j (.tail _ hj)) (by rw [Nat.add_mod_right]; exact he), List.length_cons, Nat.mul_add]
    (clear hw he h1; omega)
theorem zero_end {ws : List Nat} : ∀ (l : List Nat) (e : Nat), (∀ i ∈ l, ws.getD i 0 = 0) → l.foldl (endStep ws) e = e
  | [], _, _ => rfl
  | i :: r, e, h => by
    have h1 : endStep ws e i = e := by unfold endStep; rw [if_pos (h i (.head _))]
    rw [List.foldl_cons, h1]; exact zero_end r e fun j hj => h j (.tail _ hj)
noncomputable def ofWidth (ws : List Nat) (w : Nat) : List Nat := (List.range ws.length).filter fun i => ws.getD i 0 == w
noncomputable def falling (ws : List Nat) : List Nat := [8, 4, 2, 1, 0].flatMap (ofWidth ws)
theorem ofWidth_len : ∀ (ws : List Nat) (w : Nat), (ofWidth ws w).length = ws.count w := fun ws w => by
  unfold ofWidth
  have e : ws = (List.range ws.length).map fun i => ws.getD i 0 := by
    apply List.ext_getElem?
    intro i
    rw [List.getElem?_map]
    by_cases hi : i < ws.length
    · rw [List.getElem?_eq_getElem hi, List.getElem?_range hi]; simp [List.getD_eq_getElem?_getD, List.getElem?_eq_getElem hi]
    · rw [List.getElem?_eq_none (by omega), List.getElem?_eq_none (by rw [List.length_range]; omega)]; rfl
  conv => rhs; rw [e]
  rw [List.count_eq_countP, List.countP_map, List.countP_eq_length_filter]
  rfl
theorem sum_counts : ∀ (ws : List Nat), (∀ w ∈ ws, isW8 w) → ws.sum = 8 * ws.count 8 + 4 * ws.count 4 + 2 * ws.count 2 + ws.count 1
  | [], _ => rfl
  | w :: r, h => by
    have ih := sum_counts r fun x hx => h x (.tail _ hx)
    rw [List.sum_cons, ih]
    rcases h w (.head _) with rfl | rfl | rfl | rfl | rfl <;> simp [List.count_cons] <;> (clear ih; omega)
theorem falling_sum {ws : List Nat} (hws : ∀ w ∈ ws, isW8 w) : (falling ws).foldl (endStep ws) 0 = ws.sum := by
  have mem : ∀ w, ∀ i ∈ ofWidth ws w, ws.getD i 0 = w := fun w i hi => by
    unfold ofWidth at hi
    have := (List.mem_filter.mp hi).2
    simpa using this
  unfold falling
  simp only [List.flatMap_cons, List.flatMap_nil, List.append_nil, List.foldl_append]
  rw [same_end (w := 8) (by omega) _ _ (mem 8) (by omega), same_end (w := 4) (by omega) _ _ (mem 4) (by omega), same_end (w := 2) (by omega) _ _ (mem 2) (by omega), same_end (w := 1) (by omega) _ _ (mem 1) (by omega), zero_end _ _ (mem 0)]
  rw [ofWidth_len, ofWidth_len, ofWidth_len, ofWidth_len, sum_counts ws hws]
  omega
theorem falling_lt {ws : List Nat} {i : Nat} (h : i ∈ falling ws) : i < ws.length := by
  unfold falling at h
  obtain ⟨w, _, hi⟩ := List.mem_flatMap.mp h
  unfold ofWidth at hi
  exact List.mem_range.mp (List.mem_filter.mp hi).1
theorem falling_cov {ws : List Nat} (hws : ∀ i, isW8 (ws.getD i 0)) {i : Nat} (hi : i < ws.length) : i ∈ falling ws := by
  unfold falling
  refine List.mem_flatMap.mpr ⟨ws.getD i 0, ?_, ?_⟩
  · rcases hws i with e | e | e | e | e <;> rw [e] <;> decide
  · unfold ofWidth
    exact List.mem_filter.mpr ⟨List.mem_range.mpr hi, by simp⟩
theorem falling_len {ws : List Nat} (hws : ∀ w ∈ ws, isW8 w) : (falling ws).length = ws.length := by
  unfold falling
  simp only [List.flatMap_cons, List.flatMap_nil, List.append_nil, List.length_append, ofWidth_len]
  induction ws with
  | nil => rfl
  | cons w r ih =>
    have := ih fun x hx => hws x (.tail _ hx)
    rcases hws w (.head _) with rfl | rfl | rfl | rfl | rfl <;> simp [List.count_cons] at this ⊢ <;> omega
end Q03b
section D11

local macro_rules | `(tactic| walk_at "vc") => `(tactic| first | (with_reducible refine e_frzK ?_) | (with_reducible refine n_frzK ?_))
/-! what the script tells -/
noncomputable def cntA (a : Int) : Nat := (1 + (a + 5) % 9).toNat
theorem cntA_eq (a : Int) : 1 + (a + 5) % 9 = (cntA a : Nat) := by unfold cntA; omega
theorem cntA_le (a : Int) : 1 ≤ cntA a ∧ cntA a ≤ 9 := by unfold cntA; omega
noncomputable def wJ (b c : Int) (i : Nat) : Int := (b / 5 ^ i + (i : Int) * (c % 5 + 1)) % 5
noncomputable def wI (b c : Int) (i : Nat) : Nat := [1, 2, 4, 8, 0].getD (wJ b c i).toNat 0
noncomputable def wsOf (b c : Int) (m : Nat) : List Nat := (List.range m).map (wI b c)
noncomputable def vI (b c : Int) (ws : List Nat) (i : Nat) : Int := (c + (i : Int) * (i : Int) * 1000003 + (b + (i : Int)) / 7) % 256 ^ ws.getD i 0
noncomputable def vsOf (b c : Int) (ws : List Nat) : List Int := (List.range ws.length).map (vI b c ws)
theorem getD_map {α : Type} {f : Nat → α} {m i : Nat} {d : α} (h : i < m) : ((List.range m).map f).getD i d = f i := by
  rw [List.getD_eq_getElem?_getD, List.getElem?_map, List.getElem?_range h]; rfl
theorem wI_w8 (b c : Int) (i : Nat) : isW8 (wI b c i) := by
  unfold wI
  have h1 : 0 ≤ wJ b c i := by unfold wJ; omega
  have h2 : wJ b c i < 5 := by unfold wJ; omega
  generalize wJ b c i = j at h1 h2
  obtain rfl | rfl | rfl | rfl | rfl : j = 0 ∨ j = 1 ∨ j = 2 ∨ j = 3 ∨ j = 4 := by omega
  all_goals (unfold isW8; decide)
theorem wsOf_len {b c : Int} {m : Nat} : (wsOf b c m).length = m := by unfold wsOf; rw [List.length_map, List.length_range]
theorem wsOf_mem {b c : Int} {m w : Nat} (h : w ∈ wsOf b c m) : isW8 w := by
  obtain ⟨i, _, rfl⟩ := List.mem_map.mp h; exact wI_w8 b c i
theorem w8_getD {ws : List Nat} (h : ∀ w ∈ ws, isW8 w) (i : Nat) : isW8 (ws.getD i 0) := by
  rw [List.getD_eq_getElem?_getD]
  by_cases hi : i < ws.length
  · rw [List.getElem?_eq_getElem hi]; exact h _ (List.getElem_mem hi)
  · rw [List.getElem?_eq_none (by omega)]; unfold isW8; decide
theorem vsOf_len {b c : Int} {ws : List Nat} : (vsOf b c ws).length = ws.length := by unfold vsOf; rw [List.length_map, List.length_range]
theorem vsOf_in {b c : Int} {ws : List Nat} {i : Nat} (h : i < ws.length) (hw : isW8 (ws.getD i 0)) : inR false (ws.getD i 0) ((vsOf b c ws).getD i 0) := by
  unfold vsOf
  rw [getD_map h]
  unfold vI
  generalize c + (i : Int) * (i : Int) * 1000003 + (b + (i : Int)) / 7 = x
  generalize ws.getD i 0 = w at hw
  rcases hw with rfl | rfl | rfl | rfl | rfl <;> (unfold inR; simp <;> omega)

theorem law_widths {b c : Int} {m : Nat} {v0 v1 : Option V} {l : List (Option V)} {hp : Hp} {k : K1} (hm : m ≤ 9) (h : k (VN (wsOf b c m)) hp) :
    vcE (TL W) n (.frz (.lcomp [("n", none), ("b", some 2), ("c", some 3)] 0 .rng [(.var 4)] [] (.idx (.frz (.list [(.int 1), (.int 2), (.int 4), (.int 8), (.int 0)])) (.bin .Mod (.bin .Add (.bin .FloorDiv (.var 1) (.bin .Pow (.int 5) (.var 0))) (.bin .Mult (.var 0) (.bin .Add (.bin .Mod (.var 2) (.int 5)) (.int 1)))) (.int 5)))))
      (v0 :: v1 :: some (.int b) :: some (.int c) :: some (.int (m : Nat)) :: l) hp k := by
  refine e_frzK (e_rcomp (F := fun i => [V.int (wI b c i : Nat)]) rfl (by omega) (fun i _ => Nat.le_refl 1) ?_ ?_)
  · intro i hi hp' D acc q h1 h2
    refine if_nil ?_
    rw [if_pos rfl]
    walk_at "go"
    refine ⟨by decide, n_frzK ?_⟩
    walk_at "go"
    refine b_pow ⟨by omega, by omega, by omega, by omega⟩ ?_
    walk_at "go"
    refine b_div ?_ ?_
    · obtain rfl | rfl | rfl | rfl | rfl | rfl | rfl | rfl | rfl : i = 0 ∨ i = 1 ∨ i = 2 ∨ i = 3 ∨ i = 4 ∨ i = 5 ∨ i = 6 ∨ i = 7 ∨ i = 8 := by omega
      all_goals decide
    walk_at "go"
    refine b_mod (by decide) ?_
    walk_at "go"
    refine b_mul (.inl (by omega)) ?_
    walk_at "go"
    refine b_mod (by decide) ?_
    rw [Int.toNat_natCast]
    show ∃ v, idxV _ _ (.int (wJ b c i)) = some v ∧ _
    refine ⟨V.int (wI b c i : Nat), ?_, push_at (by simp only [List.length_singleton] at h1; omega) h2⟩
    have h1 : 0 ≤ wJ b c i := by unfold wJ; omega
    have h2 : wJ b c i < 5 := by unfold wJ; omega
    unfold wI
    generalize wJ b c i = j at h1 h2
    obtain rfl | rfl | rfl | rfl | rfl : j = 0 ∨ j = 1 ∨ j = 2 ∨ j = 3 ∨ j = 4 := by omega
    all_goals rfl
  · rw [flat_one]
    unfold VN wsOf at h
    rw [List.map_map] at h
    exact h

theorem law_values {b c : Int} {ws : List Nat} {v0 v1 : Option V} {l : List (Option V)} {hp : Hp} {k : K1} (hm : ws.length ≤ 9) (h8 : ∀ i, isW8 (ws.getD i 0)) (h : k (VI (vsOf b c ws)) hp) :
    vcE (TL W) n (.frz (.lcomp [("n", none), ("c", some 3), ("widths", some 5), ("b", some 2)] 0 .rng [(.var 4)] [] (.bin .Mod (.bin .Add (.bin .Add (.var 1) (.bin .Mult (.bin .Mult (.var 0) (.var 0)) (.int 1000003))) (.bin .FloorDiv (.bin .Add (.var 3) (.var 0)) (.int 7))) (.bin .Pow (.int 256) (.idx (.var 2) (.var 0))))))
      (v0 :: v1 :: some (.int b) :: some (.int c) :: some (.int (ws.length : Nat)) :: some (VN ws) :: l) hp k := by
  refine e_frzK (e_rcomp (F := fun i => [V.int (vI b c ws i)]) rfl (by omega) (fun i _ => Nat.le_refl 1) ?_ ?_)
  · intro i hi hp' D acc q h1 h2
    have hw := h8 i
    refine if_nil ?_
    rw [if_pos rfl]
    walk_at "go"
    refine b_mul (.inl (by omega)) ?_
    walk_at "go"
    refine b_mul (.inr (by decide)) ?_
    walk_at "go"
    refine b_div (by decide) ?_
    walk_at "go"
    refine ⟨_, idx_VN hi (by omega), ?_⟩
    refine b_pow ⟨by omega, by omega, by omega, by unfold isW8 at hw; omega⟩ ?_
    rw [Int.toNat_natCast]
    refine b_mod ?_ (push_at (by simp only [List.length_singleton] at h1; omega) h2)
    unfold isW8 at hw
    rcases hw with e | e | e | e | e <;> rw [e] <;> decide
  · rw [flat_one]
    unfold VI vsOf at h
    rw [List.map_map] at h
    exact h

theorem law_falling {ws : List Nat} {v0 v1 v2 v3 : Option V} {l : List (Option V)} {hp : Hp} {k : K1} (hm : ws.length ≤ 9) (h : k (VN (falling ws)) hp) :
    vcE (TL W) n (.frz (.lcomp2 [("width", none), ("n", none), ("widths", some 5), ("count", some 4)] 0 .of [(.tup [(.int 8), (.int 4), (.int 2), (.int 1), (.int 0)])] 1 .rng [(.var 3)] [(.cmp .Eq (.idx (.var 2) (.var 1)) (.var 0))] (.var 1)))
      (v0 :: v1 :: v2 :: v3 :: some (.int (ws.length : Nat)) :: some (VN ws) :: l) hp k := by
  refine e_frzK (e_rcomp2 (xs := [8, 4, 2, 1, 0]) (F := fun x i => if ws.getD i 0 == x then [V.int (i : Nat)] else []) ?_ (fun x => rfl) (by omega) (by decide) ?_ ?_ ?_)
  · intro q hq
    walk_at "go"
    exact ⟨by decide, hq⟩
  · intro x i _
    skip
    split <;> simp
  · intro x hx i hi hp' D acc q h1 h2
    refine if_one ?_
    walk_at "go"
    refine ⟨_, idx_VN hi (by omega), ?_⟩
    walk_at "go"
    have e1 : (((ws.getD i 0 : Nat) : Int) == ((x : Nat) : Int)) = (ws.getD i 0 == x) := by
      by_cases e : ws.getD i 0 = x
      · rw [e]; simp
      · rw [beq_false_of_ne e, beq_false_of_ne (by omega)]
    refine ⟨_, rfl, ?_⟩
    rw [e1]
    refine t_ex rfl ?_
    cases e : ws.getD i 0 == x with
    | true =>
      rw [if_pos rfl]
      skip
      rw [e, if_pos rfl] at h1 h2
      walk_at "go"
      exact push_at (by simp only [List.length_singleton] at h1; omega) h2
    | false =>
      rw [if_neg Bool.false_ne_true]
      skip
      rw [e, if_neg Bool.false_ne_true, List.append_nil] at h2
      exact h2
  · have e : ([8, 4, 2, 1, 0] : List Nat).flatMap (fun x => (List.range ws.length).flatMap fun i => if ws.getD i 0 == x then [V.int (i : Nat)] else []) = (falling ws).map fun e => V.int (e : Nat) := by
      unfold falling
      rw [List.map_flatMap]
      congr 1
      funext x
      unfold ofWidth
      exact flat_filter
    rw [e]
    exact h
end D11
section D12

local macro_rules | `(tactic| walk_at "vc") => `(tactic| first | (with_reducible refine e_frzK ?_) | (with_reducible refine n_frzK ?_))
/-! what the script asks of each order -/
theorem law_last {ws : List Nat} {v0 v1 v2 v3 : Option V} {l : List (Option V)} {hp : Hp} {k : K1} (hm : ws.length ≤ 9) (h : k (VN (((List.range ws.length).filter fun i => decide (ws.getD i 0 > 0)).map (· + 1))) hp) :
    vcE (TL W) n (.frz (.lcomp [("n", none), ("widths", some 5)] 0 .rng [(.var 4)] [(.cmp .Gt (.idx (.var 1) (.var 0)) (.int 0))] (.bin .Add (.var 0) (.int 1))))
      (v0 :: v1 :: v2 :: v3 :: some (.int (ws.length : Nat)) :: some (VN ws) :: l) hp k := by
  refine e_frzK (e_rcomp (F := fun i => if decide (ws.getD i 0 > 0) then [V.int (i + 1 : Nat)] else []) rfl (by omega) (fun i _ => by split <;> simp) ?_ ?_)
  · intro i hi hp' D acc q h1 h2
    refine if_one ?_
    walk_at "go"
    refine ⟨_, idx_VN hi (by omega), ?_⟩
    walk_at "go"
    have e1 : decide ((((0 : Int)) < ((ws.getD i 0 : Nat) : Int))) = decide (ws.getD i 0 > 0) := decide_eq_decide.mpr (by omega)
    refine ⟨_, rfl, ?_⟩
    rw [e1]
    refine t_ex rfl ?_
    cases e : decide (ws.getD i 0 > 0) with
    | true =>
      rw [if_pos rfl]
      rw [e, if_pos rfl] at h1 h2
      walk_at "go"
      exact push_at (by simp only [List.length_singleton] at h1; omega) h2
    | false =>
      rw [if_neg Bool.false_ne_true]
      rw [e, if_neg Bool.false_ne_true, List.append_nil] at h2
      exact h2
  · rw [flat_filter (g := fun i : Nat => V.int (i + 1 : Nat))]
    unfold VN at h
    rw [List.map_map] at h
    exact h

noncomputable def oI (m : Nat) (c : Int) (i : Nat) : Nat := (((i : Int) * ((m : Int) - 1) + c) % m).toNat
noncomputable def ord1 (m : Nat) (c : Int) : List Nat := (List.range m).map (oI m c)
noncomputable def bitI (b c : Int) (i : Nat) : Int := (b + c) / 2 ^ i % 2
noncomputable def ord2 (m : Nat) (b c : Int) : List Nat := ((List.range m).filter fun i => bitI b c i == 1) ++ (List.range m).filter fun i => bitI b c i == 0
theorem ord1_lt {m i : Nat} {c : Int} (hm : 1 ≤ m) (h : i ∈ ord1 m c) : i < m := by
  obtain ⟨j, hj, rfl⟩ := List.mem_map.mp h
  unfold oI
  have := Int.emod_nonneg ((j : Int) * ((m : Int) - 1) + c) (b := (m : Int)) (by omega)
  have := Int.emod_lt_of_pos ((j : Int) * ((m : Int) - 1) + c) (b := (m : Int)) (by omega)
  omega
theorem ord1_cov {m i : Nat} {c : Int} (h : i < m) : i ∈ ord1 m c := by
  refine List.mem_map.mpr ⟨((c - i) % (m : Int)).toNat, List.mem_range.mpr ?_, ?_⟩
  · have := Int.emod_nonneg (c - i) (b := (m : Int)) (by omega)
    have := Int.emod_lt_of_pos (c - i) (b := (m : Int)) (by omega)
    omega
  · unfold oI
    have h1 := Int.emod_nonneg (c - i) (b := (m : Int)) (by omega)
    have h2 := Int.mul_ediv_add_emod (c - i) (m : Int)
    rw [Int.toNat_of_nonneg h1]
    generalize (c - i) % (m : Int) = r at h1 h2
    generalize (c - i) / (m : Int) = q at h2
    have e : r * ((m : Int) - 1) + c = (i : Int) + (m : Int) * (r + q) := by rw [Int.mul_sub, Int.mul_add, Int.mul_comm r]; omega
    rw [e, Int.add_mul_emod_self_left, Int.emod_eq_of_lt (by omega) (by omega)]
    omega
theorem ord1_len {m : Nat} {c : Int} : (ord1 m c).length = m := by unfold ord1; rw [List.length_map, List.length_range]
theorem ord2_lt {m i : Nat} {b c : Int} (h : i ∈ ord2 m b c) : i < m := by
  rcases List.mem_append.mp h with h | h <;> exact List.mem_range.mp (List.mem_filter.mp h).1
theorem ord2_cov {m i : Nat} {b c : Int} (h : i < m) : i ∈ ord2 m b c := by
  have h1 : bitI b c i = 0 ∨ bitI b c i = 1 := by unfold bitI; omega
  rcases h1 with e | e
  · exact List.mem_append.mpr (.inr (List.mem_filter.mpr ⟨List.mem_range.mpr h, by rw [e]; rfl⟩))
  · exact List.mem_append.mpr (.inl (List.mem_filter.mpr ⟨List.mem_range.mpr h, by rw [e]; rfl⟩))
theorem ord2_len {m : Nat} {b c : Int} : (ord2 m b c).length ≤ m + m := by
  unfold ord2
  rw [List.length_append]
  have h1 := List.length_filter_le (fun i => bitI b c i == 1) (List.range m)
  have h2 := List.length_filter_le (fun i => bitI b c i == 0) (List.range m)
  rw [List.length_range] at h1 h2
  omega

theorem law_ord1 {m : Nat} {c : Int} {v0 v1 v2 : Option V} {l : List (Option V)} {hp : Hp} {k : K1} (hm : 1 ≤ m ∧ m ≤ 9) (h : k (VN (ord1 m c)) hp) :
    vcE (TL W) n (.frz (.lcomp [("n", none), ("count", some 4), ("c", some 3)] 0 .rng [(.var 4)] [] (.bin .Mod (.bin .Add (.bin .Mult (.var 0) (.bin .Sub (.var 1) (.int 1))) (.var 2)) (.var 1))))
      (v0 :: v1 :: v2 :: some (.int c) :: some (.int (m : Nat)) :: l) hp k := by
  refine e_frzK (e_rcomp (F := fun i => [V.int (oI m c i : Nat)]) rfl (by omega) (fun i _ => Nat.le_refl 1) ?_ ?_)
  · intro i hi hp' D acc q h1 h2
    refine if_nil ?_
    rw [if_pos rfl]
    walk_at "go"
    refine b_mul (.inl (by omega)) ?_
    walk_at "go"
    refine b_mod (by omega) (push_at (by simp only [List.length_singleton] at h1; omega) ?_)
    unfold oI at h2
    rw [Int.toNat_of_nonneg (Int.emod_nonneg _ (by omega))] at h2
    exact h2
  · rw [flat_one]
    unfold VN ord1 at h
    rw [List.map_map] at h
    exact h

theorem law_bits {m : Nat} {b c r : Int} {v0 v1 : Option V} {l : List (Option V)} {hp : Hp} {k : K1} (hm : m ≤ 9) (h : k (VN ((List.range m).filter fun i => bitI b c i == r)) hp) :
    vcE (TL W) n (.frz (.lcomp [("n", none), ("b", some 2), ("c", some 3)] 0 .rng [(.var 4)] [(.cmp .Eq (.bin .Mod (.bin .FloorDiv (.bin .Add (.var 1) (.var 2)) (.bin .Pow (.int 2) (.var 0))) (.int 2)) (.int r))] (.var 0)))
      (v0 :: v1 :: some (.int b) :: some (.int c) :: some (.int (m : Nat)) :: l) hp k := by
  refine e_frzK (e_rcomp (F := fun i => if bitI b c i == r then [V.int (i : Nat)] else []) rfl (by omega) (fun i _ => by split <;> simp) ?_ ?_)
  · intro i hi hp' D acc q h1 h2
    refine if_one ?_
    walk_at "go"
    refine b_pow ⟨by omega, by omega, by omega, by omega⟩ ?_
    rw [Int.toNat_natCast]
    refine b_div ?_ ?_
    · obtain rfl | rfl | rfl | rfl | rfl | rfl | rfl | rfl | rfl : i = 0 ∨ i = 1 ∨ i = 2 ∨ i = 3 ∨ i = 4 ∨ i = 5 ∨ i = 6 ∨ i = 7 ∨ i = 8 := by omega
      all_goals decide
    walk_at "go"
    refine b_mod (by decide) ?_
    walk_at "go"
    refine ⟨bitI b c i == r, rfl, ?_⟩
    refine t_ex rfl ?_
    cases e : bitI b c i == r with
    | true =>
      rw [if_pos rfl]
      rw [e, if_pos rfl] at h1 h2
      walk_at "go"
      exact push_at (by simp only [List.length_singleton] at h1; omega) h2
    | false =>
      rw [if_neg Bool.false_ne_true]
      rw [e, if_neg Bool.false_ne_true, List.append_nil] at h2
      exact h2
  · rw [flat_filter (g := fun i : Nat => V.int (i : Nat))]
    exact h

noncomputable abbrev endBody : List S := [.ite (.cmp .Gt (.idx (.var 5) (.var 18)) (.int 0))
        [.asg (.var 17) (.bin .Add (.bin .Mult (.bin .FloorDiv (.bin .Sub (.bin .Add (.var 17) (.idx (.var 5) (.var 18))) (.int 1)) (.idx (.var 5) (.var 18))) (.idx (.var 5) (.var 18))) (.idx (.var 5) (.var 18)))]
         []]
theorem end_loop {ws : List Nat} {v0 v1 v2 v3 v4 v6 v7 v8 v9 v10 v11 v12 v13 v14 v15 v16 v19 : Option V} {K : KS} {xs : List V} {hp : Hp} (hws : ∀ i, isW8 (ws.getD i 0)) (hl : ws.length ≤ 9)
    : ∀ (r : List Nat) (e : Nat) (v18 : Option V), (∀ i ∈ r, i < ws.length) →
    (∀ v18, K .next [v0, v1, v2, v3, v4, some (VN ws), v6, v7, v8, v9, v10, v11, v12, v13, v14, v15, v16, some (.int (r.foldl (endStep ws) e : Nat)), v18, v19] hp) →
    forGo (.fix xs) (fun x vars₁ hp₂ q => vcT (TL W) n (.var 18) x vars₁ hp₂ fun vars₂ hp₃ => vcSs (TL W) n endBody vars₂ hp₃ q) (r.map fun e => V.int (e : Nat)) [v0, v1, v2, v3, v4, some (VN ws), v6, v7, v8, v9, v10, v11, v12, v13, v14, v15, v16, some (.int (e : Nat)), v18, v19] hp K
  | [], e, v18, _, fin => ⟨trivial, fin v18⟩
  | i :: r, e, v18, hr, fin => by
    have hi := hr i (.head _)
    have hw := hws i
    refine ⟨trivial, ?_⟩
    have go : ∀ e', e' = endStep ws e i → forGo (.fix xs) (fun x vars₁ hp₂ q => vcT (TL W) n (.var 18) x vars₁ hp₂ fun vars₂ hp₃ => vcSs (TL W) n endBody vars₂ hp₃ q) (r.map fun e => V.int (e : Nat)) [v0, v1, v2, v3, v4, some (VN ws), v6, v7, v8, v9, v10, v11, v12, v13, v14, v15, v16, some (.int (e' : Nat)), some (.int (i : Nat)), v19] hp K := by
      rintro _ rfl
      exact end_loop hws hl r _ _ (fun j hj => hr j (.tail _ hj)) fin
    walk_at "go"
    refine ⟨_, idx_VN hi (by omega), ?_⟩
    walk_at "go"
    by_cases h0 : ws.getD i 0 = 0
    · refine ⟨false, x_ngt (by omega), t_false rfl ?_⟩
      walk_at "go"
      exact go e (by unfold endStep; rw [if_pos h0])
    · refine ⟨true, x_gt (by omega), t_true rfl ?_⟩
      walk_at "go"
      refine ⟨_, idx_VN hi (by omega), ?_⟩
      walk_at "go"
      refine ⟨_, idx_VN hi (by omega), ?_⟩
      unfold isW8 at hw
      refine b_div (by omega) ?_
      walk_at "go"
      refine ⟨_, idx_VN hi (by omega), ?_⟩
      refine b_mul (.inr (by omega)) ?_
      walk_at "go"
      refine ⟨_, idx_VN hi (by omega), ?_⟩
      walk_at "go"
      have e1 : ((e : Int) + ((ws.getD i 0 : Nat) : Int) - 1) / ((ws.getD i 0 : Nat) : Int) * ((ws.getD i 0 : Nat) : Int) + ((ws.getD i 0 : Nat) : Int) = ((endStep ws e i : Nat) : Int) := by
        unfold endStep
        rw [if_neg h0]
        rcases hw with h | h | h | h | h <;> rw [h] <;> omega
      rw [e1]
      exact go _ rfl
end D12
section D13

local macro_rules | `(tactic| walk_at "vc") => `(tactic| first | (with_reducible refine e_frzK ?_) | (with_reducible refine n_frzK ?_))
/-! what the script tells, all in all -/
noncomputable def restN (last : Nat) (sized : Bool) : Nat := 4 + 4 + 2 * last + 4 + (if sized then 4 else 0)
structure Much (ws : List Nat) (great last : Nat) : Prop where
  g1 : great = 4 ∨ great ∈ ws
  g2 : 4 ≤ great ∧ ∀ w ∈ ws, w ≤ great
  l1 : last = 0 ∨ ∃ i, i < ws.length ∧ ws.getD i 0 ≠ 0 ∧ last = i + 1
  l2 : ∀ i, i < ws.length → ws.getD i 0 ≠ 0 → i + 1 ≤ last
  l3 : last ≤ 9
noncomputable abbrev ordBody : List S := [.asg (.var 16) (.call (.glob "_law_laid") [(.var 5), (.var 6), (.var 15), (.bin .Mod (.var 2) (.int 30)), (.var 7)] [] []),
     .asg (.var 17) (.int 0),
     .for_ (.var 18) .of [(.var 15)] endBody,
     .asg (.var 19) (.bin .Mult (.bin .FloorDiv (.bin .Sub (.bin .Add (.bin .Add (.bin .Mult (.bin .FloorDiv (.bin .Add (.var 17) (.int 3)) (.int 4)) (.int 4)) (.var 13)) (.var 10)) (.int 1)) (.var 10)) (.var 10)),
     .ite (.bor [(.not (.call (.glob "_law_good") [(.var 16), (.var 5), (.var 6), (.var 7)] [] [])), (.cmp .NotEq (.bcall .len [(.var 16)]) (.var 19))])
       [.ret (.bool false)]
       []]
theorem ord_step (H : ProgL W) {ws : List Nat} {vs : List Int} {o : List Nat} {great last : Nat} {b : Int} {sized : Bool} {v0 v1 v3 v4 v8 v9 v11 v12 v14 v16 v17 v18 v19 : Option V} {K : KS} {hp : Hp} (hws : ∀ i, isW8 (ws.getD i 0)) (hl : ws.length ≤ 9) (hvl : vs.length = ws.length)
    (hvs : ∀ i, i < ws.length → inR false (ws.getD i 0) (vs.getD i 0)) (ho : ∀ i ∈ o, i < ws.length) (cov : ∀ i, i < ws.length → i ∈ o) (hol : o.length ≤ 20) (M : Much ws great last) (hn : 9 ≤ n)
    (fin : ∀ v16 v17 v18 v19 hp', K .next [v0, v1, some (.int b), v3, v4, some (VN ws), some (VI vs), some (.bool sized), v8, v9, some (.int (great : Nat)), v11, v12, some (.int (restN last sized : Nat)), v14, some (VN o), v16, v17, v18, v19] hp') :
    vcSs (TL W) n ordBody [v0, v1, some (.int b), v3, v4, some (VN ws), some (VI vs), some (.bool sized), v8, v9, some (.int (great : Nat)), v11, v12, some (.int (restN last sized : Nat)), v14, some (VN o), v16, v17, v18, v19] hp K := by
  obtain ⟨hg48, hlen⟩ := laid_length (vs := vs) (order := o) (sized := sized) hws ho (fun i hi _ => cov i hi) M.g1 M.g2 M.l1 M.l2
  obtain ⟨pos, vt, size, pl, G⟩ := good_of (sized := sized) hws ho hol (by omega) (fun i hi _ => cov i hi) hvs
  have hblen := G.len
  walk_at "go"
  refine b_mod (by decide) ?_
  have e1 : b % 30 = (((b % 30).toNat : Nat) : Int) := by omega
  walk_at "go"
  rw [e1]
  refine c_law_laid H hws (by omega) hvl hvs ho hol (by omega) hn (layBounds hws ho hol) fun hp' => ?_
  walk_at "go"
  refine s_for ?_
  walk_at "go"
  show forGo (.fix _) _ (o.map fun e => V.int (e : Nat)) _ _ _
  refine end_loop hws hl o 0 _ ho fun v18 => ?_
  walk_at "go"
  refine b_div (by decide) ?_
  walk_at "go"
  refine b_mul (.inr (by decide)) ?_
  walk_at "go"
  refine b_div (by omega) ?_
  walk_at "go"
  refine b_mul (.inr (by omega)) ?_
  walk_at "go"
  refine c_law_good H G hws (by omega) hvl (by omega) fun hp'' => ?_
  refine ⟨_, rfl, ?_⟩
  refine t_false rfl ?_
  walk_at "go"
  refine b_lenB (by omega) ?_
  walk_at "go"
  refine ⟨false, x_nne ?_, t_false rfl ?_⟩
  · rw [hlen]
    unfold restN
    rcases hg48 with rfl | rfl <;> cases sized <;> simp only [Bool.false_eq_true, if_false, if_true] <;> omega
  · refine s_nil ?_
    walk_at "go"
    exact fin _ _ _ _ _

theorem b_maxN {l : List Nat} {v : V} {xs : List V} {hp : Hp} {k : K1} (e : lstOf hp v = some xs) (ex : xs = l.map fun e => V.int (e : Nat)) (hn : l ≠ []) (h : ∀ m ∈ l, (∀ x ∈ l, x ≤ m) → k (.int (m : Nat)) hp) : bcallK .max [v] hp k := by
  refine b_max (is := l.map fun e => ((e : Nat) : Int)) e ?_ ?_ ?_
  · rw [ex, ← ints_map, List.map_map]; rfl
  · intro z; exact hn (by simpa using z)
  · intro m hm hx
    obtain ⟨y, hy, rfl⟩ := List.mem_map.mp hm
    exact h y hy fun x hx' => by
      have := hx x (List.mem_map.mpr ⟨x, hx', rfl⟩)
      omega
theorem b_sumN {l : List Nat} {v : V} {xs : List V} {hp : Hp} {k : K1} (e : lstOf hp v = some xs) (ex : xs = l.map fun e => V.int (e : Nat)) (h : k (.int (l.sum : Nat)) hp) : bcallK .sum [v] hp k := by
  have hs : ∀ l : List Nat, (l.map fun e => ((e : Nat) : Int)).sum = ((l.sum : Nat) : Int) := by
    intro l
    induction l with
    | nil => rfl
    | cons x r ih => rw [List.map_cons, List.sum_cons, List.sum_cons, ih]; omega
  refine b_sum (is := l.map fun e => ((e : Nat) : Int)) e ?_ ?_
  · rw [ex, ← ints_map, List.map_map]; rfl
  · rw [hs]; exact h

theorem abc (is : List Int) : ∃ a b c : Int, cut (cut (is.map V.int) 0 (min 3 (is.map V.int).length) ++ [.int 0, .int 0, .int 0]) 0 3 = [.int a, .int b, .int c] := by
  match is with
  | [] => exact ⟨0, 0, 0, rfl⟩
  | [a] => exact ⟨a, 0, 0, rfl⟩
  | [a, b] => exact ⟨a, b, 0, rfl⟩
  | a :: b :: c :: r =>
    refine ⟨a, b, c, ?_⟩
    have e : min 3 ((a :: b :: c :: r).map V.int).length = 3 := by simp only [List.map_cons, List.length_cons]; omega
    rw [e]
    rfl

theorem un_frz {W : Wd} {T : St W} {n : Nat} {vars : Vars} {hp : Hp} {k : K1} {e : E} (h : vcE T n (.frz e) vars hp k) : vcE T n e vars hp (frzK k) := h
theorem c_lawT (H : ProgL W) {a b c : Int} {ws : List Nat} {vs : List Int} {m : Nat} {sized : Bool} {v0 v8 v9 v10 v11 v12 v13 v14 v15 v16 v17 v18 v19 : Option V} {hp : Hp} {k : K1} (hm : 1 ≤ m ∧ m ≤ 9) (ews : ws.length = m) (hws' : ∀ w ∈ ws, isW8 w) (hvl : vs.length = ws.length)
    (hvs : ∀ i, i < ws.length → inR false (ws.getD i 0) (vs.getD i 0)) (hn : 9 ≤ n) (h : ∀ hp', k (.bool true) hp') :
    vcSs (TL W) n (B_law.drop 5) [v0, some (.int a), some (.int b), some (.int c), some (.int (m : Nat)), some (VN ws), some (VI vs), some (.bool sized), v8, v9, v10, v11, v12, v13, v14, v15, v16, v17, v18, v19] hp (retK k) := by
  subst ews
  have hws := w8_getD hws'
  unfold B_law
  simp only [List.drop_succ_cons, List.drop_zero]
  refine s_asg (law_falling hm.2 ?_)
  walk_at "go"
  refine b_div (by decide) ?_
  walk_at "go"
  refine b_mod (by decide) ?_
  walk_at "go"
  have e1 : a / 18 % 40 = (((a / 18 % 40).toNat : Nat) : Int) := by omega
  rw [e1]
  have hflen := falling_len hws'
  have hflt : ∀ i ∈ falling ws, i < ws.length := fun i hi => falling_lt hi
  have hfcov : ∀ i, i < ws.length → i ∈ falling ws := fun i hi => falling_cov hws hi
  refine c_law_laid H hws (by omega) hvl hvs hflt (by omega) (by omega) hn (layBounds hws hflt (by omega)) fun hp₁ => ?_
  obtain ⟨pos, vt, size, pl, G⟩ := good_of (vs := vs) (sized := sized) hws hflt (by omega) (by omega) (fun i hi _ => hfcov i hi) hvs
  have hblen := G.len
  walk_at "go"
  refine c_law_good H G hws (by omega) hvl (by omega) fun hp₂ => ?_
  refine ⟨_, rfl, t_false rfl ?_⟩
  walk_at "go"
  refine ⟨by decide, n_frzK ?_⟩
  walk_at "go"
  refine l_add rfl rfl (by simp only [List.length_map, List.length_cons, List.length_nil]; omega) (n_frzK ?_)
  walk_at "go"
  refine b_maxN (l := 4 :: ws) rfl rfl (by simp) fun great hg1 hg2 => ?_
  walk_at "go"
  refine b_sumN (l := ws) rfl rfl ?_
  walk_at "go"
  refine ⟨by decide, n_frzK ?_⟩
  refine law_last hm.2 ?_
  refine l_add rfl rfl (by
    have := List.length_filter_le (fun i => decide (ws.getD i 0 > 0)) (List.range ws.length)
    rw [List.length_range] at this
    simp only [List.length_map, List.length_cons, List.length_nil]; omega) (n_frzK ?_)
  walk_at "go"
  refine b_maxN (l := 0 :: ((List.range ws.length).filter fun i => decide (ws.getD i 0 > 0)).map (· + 1)) rfl rfl (by simp) fun last hl1 hl2 => ?_
  have M : Much ws great last := by
    have l1 : last = 0 ∨ ∃ i, i < ws.length ∧ ws.getD i 0 ≠ 0 ∧ last = i + 1 := by
      rcases List.mem_cons.mp hl1 with e | e
      · exact .inl e
      · obtain ⟨i, hi, rfl⟩ := List.mem_map.mp e
        obtain ⟨h1, h2⟩ := List.mem_filter.mp hi
        exact .inr ⟨i, List.mem_range.mp h1, by have := of_decide_eq_true h2; omega, rfl⟩
    refine ⟨List.mem_cons.mp hg1, ⟨hg2 4 (.head _), fun w hw => hg2 w (.tail _ hw)⟩, l1, ?_, ?_⟩
    · intro i hi h0
      exact hl2 _ (.tail _ (List.mem_map.mpr ⟨i, List.mem_filter.mpr ⟨List.mem_range.mpr hi, decide_eq_true (by omega)⟩, rfl⟩))
    · rcases l1 with e | ⟨i, hi, _, e⟩
      · rw [e]; decide
      · rw [e]; have := hm.2; omega
  clear hl1 hl2 hg1 hg2
  obtain ⟨hg48, hlen⟩ := laid_length (vs := vs) (order := falling ws) (sized := sized) hws hflt (fun i hi _ => hfcov i hi) M.g1 M.g2 M.l1 M.l2
  rw [falling_sum hws'] at hlen
  have hl9 := M.l3
  walk_at "go"
  refine b_mul (.inl (by omega)) ?_
  walk_at "go"
  refine ⟨_, rfl, ?_⟩
  have tail : vcSs (TL W) n (B_law.drop 12) [v0, some (.int a), some (.int b), some (.int c), some (.int (ws.length : Nat)), some (VN ws), some (VI vs), some (.bool sized), some (VN (falling ws)), some (.bytes (laidOf ws vs (falling ws) sized)), some (.int (great : Nat)), some (.int (ws.sum : Nat)), some (.int (last : Nat)), some (.int (restN last sized : Nat)), v14, v15, v16, v17, v18, v19] hp₂ (retK k) := by
    unfold B_law
    simp only [List.drop_succ_cons, List.drop_zero]
    walk_at "go"
    refine b_lenB (by omega) ?_
    walk_at "go"
    refine b_div (by decide) ?_
    walk_at "go"
    refine b_mul (.inr (by decide)) ?_
    walk_at "go"
    refine b_div (by omega) ?_
    walk_at "go"
    refine b_mul (.inr (by omega)) ?_
    walk_at "go"
    refine ⟨false, x_nne ?_, t_false rfl ?_⟩
    · rw [hlen]
      unfold restN
      rcases hg48 with e | e <;> rw [e] <;> cases sized <;> simp only [Bool.false_eq_true, if_false, if_true] <;> omega
    walk_at "go"
    refine un_frz (law_ord1 hm ?_)
    walk_at "go"
    refine un_frz (law_bits hm.2 ?_)
    walk_at "go"
    refine un_frz (law_bits hm.2 ?_)
    refine l_add rfl rfl (by
      have h1 := ord2_len (m := ws.length) (b := b) (c := c)
      unfold ord2 at h1
      rw [List.length_append] at h1
      rw [List.length_map, List.length_map]; omega) (n_frzK ?_)
    walk_at "go"
    refine ⟨by show 2 ≤ 1048576; decide, n_frzK ?_⟩
    walk_at "go"
    refine s_for ?_
    walk_at "go"
    refine ⟨trivial, ?_⟩
    refine ord_step H (o := ord1 ws.length c) hws hm.2 hvl hvs (fun i hi => ord1_lt hm.1 hi) (fun i hi => ord1_cov hi) (by rw [ord1_len]; omega) M hn ?_
    intro u16 u17 u18 u19 hp₃
    refine ⟨trivial, ?_⟩
    have eo : VN (ord2 ws.length b c) = V.flist ((((List.range ws.length).filter fun i => bitI b c i == 1).map fun e => V.int (e : Nat)) ++ (((List.range ws.length).filter fun i => bitI b c i == 0).map fun e => V.int (e : Nat))) := by
      unfold VN ord2; rw [List.map_append]
    rw [← eo]
    refine ord_step H (o := ord2 ws.length b c) hws hm.2 hvl hvs (fun i hi => ord2_lt hi) (fun i hi => ord2_cov hi) (by have := ord2_len (m := ws.length) (b := b) (c := c); omega) M hn ?_
    intro u16 u17 u18 u19 hp₄
    refine ⟨trivial, ?_⟩
    walk_at "go"
    exact h _
  cases hsd : sized with
  | true =>
    subst hsd
    rw [if_pos rfl]
    refine e_int (b_add (g_var ?_))
    have er : (4 : Int) + 4 + 2 * (last : Int) + 4 + 4 = ((restN last true : Nat) : Int) := by unfold restN; rw [if_pos rfl]; omega
    rw [er]
    exact tail
  | false =>
    subst hsd
    rw [if_neg Bool.false_ne_true]
    refine e_int (b_add (g_var ?_))
    have er : (4 : Int) + 4 + 2 * (last : Int) + 4 + 0 = ((restN last false : Nat) : Int) := by unfold restN; rw [if_neg Bool.false_ne_true]; omega
    rw [er]
    exact tail

theorem c_law (H : ProgL W) {is : List Int} {hp : Hp} {k : K1} (hl : is.length ≤ 1000) (hn : 10 ≤ n) (h : ∀ hp', k (.bool true) hp') : CallP W n A_law [.flist (is.map V.int)] [] [] hp k := by
  obtain ⟨n, rfl⟩ : ∃ m, n = m + 1 := ⟨n - 1, by omega⟩
  refine H.law.call (stOk_of H.tab) rfl ?_
  unfold B_law
  walk_at "go"
  refine l_slF (by rw [List.length_map]; omega) rfl (chi (by decide) rfl) (n_frzK ?_)
  walk_at "go"
  refine ⟨by decide, n_frzK ?_⟩
  refine l_add rfl rfl (by unfold cut; rw [List.length_take]; simp only [List.length_cons, List.length_nil]; omega) (n_frzK ?_)
  walk_at "go"
  refine l_slF ?_ rfl (chi (by decide) rfl) (n_frzK ?_)
  · unfold cut; rw [List.length_append, List.length_take]; simp only [List.length_cons, List.length_nil]; omega
  obtain ⟨a, b, c, e⟩ := abc is
  have e3 : ∀ l : List V, l.length ≥ 3 → min (3 : Int).toNat l.length = 3 := fun l hl => by show min 3 _ = 3; omega
  rw [e3 (cut (is.map V.int) 0 (min (3 : Int).toNat (is.map V.int).length) ++ [V.int 0, V.int 0, V.int 0]) (by rw [List.length_append]; simp only [List.length_cons, List.length_nil]; omega)]
  have e4 : (3 : Int).toNat = 3 := rfl
  rw [e4, e]
  refine g_tup3 rfl ?_
  walk_at "go"
  refine b_mod (by decide) ?_
  walk_at "go"
  rw [cntA_eq]
  have hm := cntA_le a
  walk_at "go"
  refine un_frz (law_widths hm.2 ?_)
  walk_at "go"
  have hwl := wsOf_len (b := b) (c := c) (m := cntA a)
  have h8 : ∀ w ∈ wsOf b c (cntA a), isW8 w := fun w hw => wsOf_mem hw
  generalize wsOf b c (cntA a) = ws at hwl h8
  generalize cntA a = m at hwl hm
  subst hwl
  refine un_frz (law_values hm.2 (w8_getD h8) ?_)
  walk_at "go"
  refine b_div (by decide) ?_
  walk_at "go"
  refine b_mod (by decide) ?_
  walk_at "go"
  refine ⟨_, rfl, ?_⟩
  refine g_var ?_
  exact c_lawT H hm rfl h8 vsOf_len (fun i hi => vsOf_in hi (w8_getD h8 i)) (by omega) h
end D13
end Mine
section HJ03
namespace Mine

open PySem PySem.W PySem.Calls PyProof.Rows
theorem faOf03 {K : Frag} {h : Heap} {mg : Str → Option Value} {n : Str} {a b : Addr} (X : K.In h) (G : h.Ns mainGlobals mg) (e : nsIn K mainGlobals n = some (some (.ref b))) (hm : mg n = some (.ref a)) : a = b := by
  have := PySem.W.mg_of X G e
  rw [hm] at this
  exact Value.ref.inj (Option.some.inj this)
theorem ints_rel {hp : Hp} {h : Heap} : ∀ {vs : List Value} {is : List Int}, IntsAre vs is → VRels hp h (is.map V.int) vs
  | _, _, .nil => rfl
  | _, _, .cons n t r => ⟨_, _, rfl, ⟨t, rfl⟩, ints_rel r⟩
theorem room_law : Room 20 callerA := ⟨by decide +kernel, by decide +kernel, rfl, rfl⟩
theorem lawAt03 (P : Params) : nsIn (K03 P) mainGlobals "law" = some (some (.ref 773)) := by kernel_rfl
end Mine
section
set_option maxHeartbeats 8000000
namespace Hdd
open Mine
open _root_.PySem _root_.PySem.W _root_.PySem.Calls PyProof.Rows
theorem main03 : _root_.PySem.Challenge.rw_bb0042_03.Holds := by
  w_on
  o_law
  o_head (kHook K03 [2, 3, 43, 45, 46, 48, 49, 50, 51, 52, 53, 54, 55, 62, 63, 64, 69, 76, 77, 78, 83, 90, 91, 92, 97, 104, 105, 106, 111, 118, 119, 120, 125, 132, 133, 134, 137, 144, 145, 146, 149, 156, 157, 158, 161, 163, 164, 166, 167, 168, 170, 171, 173, 174, 175, 177, 178, 180, 181, 182, 189, 190, 191, 195, 202, 203, 204, 208, 215, 216, 217, 221, 228, 229, 230, 234, 241, 242, 243, 247, 254, 255, 256, 258, 259, 261, 262, 270, 272, 273, 275, 276, 277, 279, 280, 282, 283, 284, 286, 287, 289, 290, 291, 293, 294, 296, 297, 298, 300, 301, 303, 304, 305, 307, 308, 310, 311, 312, 314, 315, 317, 318, 319, 321, 322, 324, 325, 326, 328, 329, 331, 332, 333, 335, 336, 338, 339, 340, 342, 343, 345, 346, 383, 385, 386, 388, 389, 390, 392, 393, 395, 396, 404, 406, 407, 409, 410, 411, 412, 414, 415, 417, 418, 419, 420, 422, 423, 425, 426, 427, 428, 430, 431, 433, 434, 435, 437, 438, 440, 441, 442, 444, 445, 447, 448, 463, 465, 466, 468, 469, 470, 472, 473, 475, 476, 477, 479, 480, 482, 483, 484, 486, 487, 489, 490, 589, 591, 592, 594, 595, 610, 612, 613, 615, 616, 617, 619, 620, 622, 623, 631, 633, 634, 636, 637, 638, 640, 641, 643, 644, 645, 647, 648, 649, 650, 651, 652, 653, 654, 655, 656, 657, 658, 659, 662, 669, 670, 672, 673, 675, 676, 677, 679, 680, 682, 683, 719, 721, 722, 724, 725, 726, 728, 729, 731, 732, 740, 742, 743, 744, 745, 748, 750, 751, 753, 754, 755, 757, 758, 760, 761, 762, 764, 765, 767, 768, 769, 772, 773] (fun _ => by kernel_rfl))
  case hw => w_witness2
  intro w s₀ s₁ mg mb G Y fa o pm cd doc dV kV ho hd hcd hD hmg hg args vals as hpre hlay hrd hwl hlo
  have KX := kIn_of Y
  obtain rfl := faOf03 KX G.T.g (lawAt03 _) hmg
  clear hd hD hcd ho hmg
  have hT := G.T
  wrow_args hpre hlay hrd hwl hlo
  clear Y G
  rename_i is hs hl0 hl1 hr1 hl2 w4 w3 la lv las hLL ra w1 r0 hI hr hc1 hc2
  let W : Wd := { prog := _root_.PySem.Challenge.rw_bb0042_03.row.prog, w := w, K := K03 w.params, h₀ := s₁.heap, os := s₁.os, mg := mg, mb := mb, inK := KX, hg := hT.g, hb := hT.b, nolim := hT.nolimit, bi := hT.builtins }
  have H : ProgL W := prog_of rfl
  have O : HOk W (fun _ => none) s₁ := ⟨fun _ _ e => e, (fun _ _ e => nomatch e), (fun _ _ e => nomatch e), (fun _ _ e => nomatch e), hg, rfl⟩
  have R := c_law (n := 20) (is := is) (hp := fun _ => none) (k := fun v _ => v = .bool true) H (by omega) (by decide) (fun _ => rfl) callerA s₁ [.ref la] [] room_law O
    ⟨_, _, rfl, ⟨la, lv.toArray, rfl, rfl, hLL, ints_rel hI⟩, rfl⟩ ⟨rfl, rfl⟩
  refine wpC_call (codeC_mono R ?_)
  rintro r s' ⟨v, rfl, b, hp', rfl, rv, O', st⟩
  obtain rfl : v = .bool true := rv
  refine ⟨.inl ⟨_, .bool true, [], rfl, ?_, .bool true, ?_, fun _ => ⟨.nil, nofun⟩⟩, .of_keep fun b o e => st.keep b o e rfl, O'.os, .of_eq O'.gens⟩
  · intro cls
    rfl
  · wrow_post
end Hdd
end
theorem PySem.Challenge.cw_bb0042_03_holds : PySem.Challenge.rw_bb0042_03.Holds := by
  exact Hdd.main03
end HJ03
