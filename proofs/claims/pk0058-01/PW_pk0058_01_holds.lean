import PyProof.Rows.All
import Wide.All
import OpenK.AllK
import Wide.FinOn
import Lean
import PySem.Challenge.RW_pk0058_01
set_option Elab.async false
set_option compiler.extract_closed false
set_option genSizeOf false
set_option genSizeOfSpec false
set_option genInjectivity false
set_option maxRecDepth 100000
namespace Mine
theorem rm_le {a b r k : Nat} (h : a ≤ r) (d : b + k ≤ a) : b ≤ r - k := Nat.le_sub_of_add_le (Nat.le_trans d h)
theorem rm_lt {a b r k : Nat} (h : a ≤ r) (d : b + 1 + k ≤ a) : b < r - k := Nat.le_sub_of_add_le (Nat.le_trans d h)
end Mine
local macro_rules | `(tactic| omega) => `(tactic| first | (with_reducible first | assumption | exact Nat.le_trans (by assumption) (by decide) | exact Mine.rm_le (by assumption) (by decide) | exact Mine.rm_lt (by assumption) (by decide)) | lia | omega (splitDisjunctions := true))
set_option maxRecDepth 100000
set_option Elab.async false
set_option linter.unusedVariables false
namespace Mine
open PySem PySem.W PyProof.Rows PySem.Calls

/-- the goal by a name, so that what is taken apart does not write it out each time -/
theorem cps {G : Prop} (h : ∀ P : Prop, (G → P) → P) : G := h G id
/-! ## contexts without a built-in that holds a bytearray -/
noncomputable def heldIds : List String := Builtin.Bytes.decodersThatHold ++ ["bytearray.__contains__", "bytearray.__mod__", "bytearray.__rmod__", "_struct.pack_into.held", "bytearray.find.held"]
noncomputable def held : Code → Bool
  | .builtin id _ => heldIds.contains id
  | _ => false
noncomputable def NoHold (Γ : Ctx) : Prop := held Γ.code = false ∧ ∀ x ∈ Γ.below, held x.1 = false
theorem NoHold.enter {Γ : Ctx} (h : NoHold Γ) {c : Code} (hc : held c = false) (hd : Option Value) (p : Pos) : NoHold (Γ.enter c hd p) :=
  ⟨hc, fun x hx => by
    have hx' : x ∈ (Γ.code, p) :: Γ.below := hx
    rcases List.mem_cons.mp hx' with rfl | hx'
    · exact h.1
    · exact h.2 x hx'⟩
theorem NoHold.goto {Γ : Ctx} (h : NoHold Γ) {c : Code} (hc : held c = false) : NoHold (Γ.goto c) := ⟨hc, h.2⟩

noncomputable def wpN {α : Type} (M : Model) (A : Around) (t : Sem α) (Q : α → Shared → Prop) (E : Value → Shared → Prop) (s : Shared) : Prop :=
  ∀ Γ p, Γ.In A → NoHold Γ → Sem.wp M Γ t (fun a _ s' => Q a s') (fun e _ s' => E e s') p s
noncomputable def codeN (M : Model) (A : Around) (c : Code) (R : Result → Shared → Prop) (s : Shared) : Prop :=
  ∀ Γ p, Γ.code = c → Γ.Below A → NoHold Γ → wpCode M Γ R p s

section
variable {α β : Type} {M : Model} {A : Around} {E : Value → Shared → Prop} {s : Shared}
theorem lift {t : Sem α} {Q : α → Shared → Prop} (h : wpAny M A t Q E s) : wpN M A t Q E s := fun Γ p hΓ _ => h Γ p hΓ
theorem codeLift {c : Code} {R : Result → Shared → Prop} (h : codeAny M A c R s) : codeN M A c R s := fun Γ p hc hΓ _ => h Γ p hc hΓ
theorem wpN_pure {a : α} {Q : α → Shared → Prop} (h : Q a s) : wpN M A (pure a) Q E s := fun _ _ _ _ => h
theorem wpN_mono {t : Sem α} {Q Q' : α → Shared → Prop} {E' : Value → Shared → Prop} (h : wpN M A t Q E s) (hQ : ∀ a s, Q a s → Q' a s) (hE : ∀ e s, E e s → E' e s) : wpN M A t Q' E' s :=
  fun Γ p hΓ hN => Sem.wp_mono M Γ t (fun a _ s => hQ a s) (fun e _ s => hE e s) p s (h Γ p hΓ hN)
theorem wpN_post {t : Sem α} {Q Q' : α → Shared → Prop} (h : wpN M A t Q E s) (hQ : ∀ a s, Q a s → Q' a s) : wpN M A t Q' E s := wpN_mono h hQ fun _ _ x => x
theorem wpN_bind {m : Sem α} {f : α → Sem β} {Q : β → Shared → Prop} (h : wpN M A m (fun a s' => wpN M A (f a) Q E s') E s) : wpN M A (m >>= f) Q E s := fun Γ p hΓ hN => by
  rw [Sem.wp_bind']
  exact Sem.wp_mono M Γ m (fun a p' s' h' => h' Γ p' hΓ hN) (fun _ _ _ h' => h') p s (h Γ p hΓ hN)
theorem wpN_onRaise {m : Sem α} {k : Value → Sem Unit} {Q : α → Shared → Prop} (h : wpN M A m Q (fun e s' => wpN M A (k e) (fun _ s'' => E e s'') E s') s) : wpN M A (m.onRaise k) Q E s := fun Γ p hΓ hN => by
  rw [Sem.wp_onRaise]
  exact Sem.wp_mono M Γ m (fun _ _ _ h' => h') (fun e p' s' h' => h' Γ p' hΓ hN) p s (h Γ p hΓ hN)
theorem wpN_attempt {m : Sem α} {Q : Except Value α → Shared → Prop} (h : wpN M A m (fun a => Q (.ok a)) (fun e => Q (.error e)) s) : wpN M A m.attempt Q E s := fun Γ p hΓ hN => by
  rw [Sem.wp_attempt]; exact h Γ p hΓ hN
theorem wpN_holding {vs : List Value} {m : Sem α} {Q : α → Shared → Prop} (h : wpN M A m Q E s) : wpN M A (holding vs m) Q E s := fun Γ p hΓ hN => by
  rw [Sem.wp_holding]; exact h Γ p hΓ hN
theorem wpN_keep {vs : List Value} {m : Sem α} {Q : α → Shared → Prop} (h : wpN M A m Q E s) : wpN M A (m.keep vs) Q E s := fun Γ p hΓ hN => by
  rw [Sem.wp_keep]; exact h Γ p hΓ hN
theorem wpN_standAt {pos : Pos} {Q : Unit → Shared → Prop} (h : Q () s) : wpN M A (standAt pos) Q E s := fun _ _ _ _ => h
theorem wpN_point {Q : Unit → Shared → Prop} (h : Q () s) : wpN M A point Q E s := fun _ _ _ _ => h
theorem wpN_rule {tag : String} {Q : Unit → Shared → Prop} (h : Q () s) : wpN M A (rule tag) Q E s := fun _ _ _ _ => h
theorem wpN_ite {c : Prop} [Decidable c] {a b : Sem α} {Q : α → Shared → Prop} (h : if c then wpN M A a Q E s else wpN M A b Q E s) : wpN M A (if c then a else b) Q E s := by split <;> simp_all

theorem codeN_mono {c : Code} {R R' : Result → Shared → Prop} (h : codeN M A c R s) (hR : ∀ r s, R r s → R' r s) : codeN M A c R' s :=
  fun Γ p hc hΓ hN => wpCode_mono hR (h Γ p hc hΓ hN)
theorem wpN_run {c : Code} {h : Option Value} {Q : Flow → Shared → Prop} (hc : codeN M (A.mark h) c (fun r s' => match r with | .ok f => Q f s' | .error e => E e s') s) (hk : held c = false)
    (hnb : h ≠ some byPass := by intro x; cases x) : wpN M A (run c h) Q E s :=
  fun Γ p hΓ hN => by rw [Sem.wp_run]; exact hc _ p rfl (hΓ.enter c h p hnb) (hN.enter hk _ _)
theorem wpN_runValue {c : Code} {Q : Value → Shared → Prop} (hc : codeN M A c (fun r s' => match r with | .ok (.ret v) => Q v s' | .ok _ => False | .error e => E e s') s) (hk : held c = false) :
    wpN M A (runValue c) Q E s := fun Γ p hΓ hN => by
  rw [Sem.wp_runValue]; exact hc _ p rfl (hΓ.enter c none p (by intro x; cases x)) (hN.enter hk _ _)
theorem wpN_call {f : Value} {pos : List Value} {kw : List (Str × Value)} {Q : Value → Shared → Prop} (hc : codeN M A (.call f ⟨pos, kw⟩) (fun r s' => match r with | .ok (.ret v) => Q v s' | .ok _ => False | .error e => E e s') s) :
    wpN M A (call f pos kw) Q E s := wpN_runValue hc rfl
theorem codeN_of_tree {c : Code} {R : Result → Shared → Prop} (h : wpN M (A.under c) (M.den c) (fun fin s' => match fin with | .done f => R (.ok f) s' | .again c' => (c'.quiet = true ∧ held c' = false) ∧ codeN M A c' R s')
      (fun e s' => R (.error e) s') s) : codeN M A c R s := fun Γ p hc hΓ hN => by
  rw [wpCode_iff_wp, hc]
  refine Sem.wp_mono M Γ _ (fun fin p' s' h' => ?_) (fun _ _ _ h' => h') p s (h Γ p (hc ▸ hΓ.in) hN)
  cases fin with
  | done f => exact h'
  | again c' => exact ⟨h'.1.1, h'.2 (Γ.goto c') p' rfl (hΓ.goto c') (hN.goto h'.1.2)⟩
theorem codeN_loop {c : Code} {R : Result → Shared → Prop} (hq : c.quiet = true) (hk : held c = false) (I : Nat → Shared → Prop)
    (turn : ∀ n s, I n s → wpN M (A.under c) (M.den c) (fun fin s' => match fin with | .done f => R (.ok f) s' | .again c' => (c' = c ∧ ∃ m, m < n ∧ I m s') ∨ ((c'.quiet = true ∧ held c' = false) ∧ codeN M A c' R s')) (fun e s' => R (.error e) s') s)
    (n : Nat) (h : I n s) : codeN M A c R s := by
  induction n using Nat.strongRecOn generalizing s with
  | ind n ih =>
    refine codeN_of_tree (wpN_mono (turn n s h) (fun fin s' hf => ?_) fun _ _ h' => h')
    cases fin with
    | done f => exact hf
    | again c' =>
      rcases hf with ⟨rfl, m, hm, hI⟩ | hf
      · exact ⟨⟨hq, hk⟩, ih m hm hI⟩
      · exact hf
theorem wpN_runOwn {c : Code} {env : Env} {Q : Flow → Shared → Prop} (hc : codeN M A c (fun r s' => match r with | .ok f => Q f s' | .error _ => False) s) (hk : held c = false) : wpN M A (runOwn c env) Q E s := by
  unfold runOwn
  refine wpN_onRaise (wpN_run (h := none) ?_ hk)
  refine codeN_mono (A := A) hc fun r s' hr => ?_
  cases r with
  | ok f => exact hr
  | error e => exact hr.elim
theorem wpN_operate {vs : List Value} {m : Sem Value} {Q : Value → Shared → Prop} (h : wpN M A m Q E s) : wpN M A (operate vs m) Q E s := by
  unfold operate
  refine wpN_bind (wpN_holding (wpN_post h fun r s' hr => ?_))
  refine wpN_bind ?_
  unfold release
  generalize (vs.filter fun | .ref _ => true | _ => false) = l
  induction l with
  | nil => exact wpN_pure (wpN_pure hr)
  | cons a r' ih =>
    cases r' with
    | nil => exact wpN_pure (wpN_pure hr)
    | cons b r'' => exact wpN_bind (wpN_holding (wpN_point ih))
end
end Mine

set_option maxRecDepth 100000
set_option Elab.async false
set_option linter.unusedVariables false
namespace Mine
open PySem PySem.W PyProof.Rows PySem.Calls

inductive All2 {α β : Type} (R : α → β → Prop) : List α → List β → Prop
  | nil : All2 R [] []
  | cons {a b l m} : R a b → All2 R l m → All2 R (a :: l) (b :: m)
namespace All2
variable {α β : Type} {R : α → β → Prop}
theorem length {l : List α} {m : List β} (h : All2 R l m) : l.length = m.length := by
  induction h with
  | nil => rfl
  | cons _ _ ih => simp [ih]
theorem append {l l' : List α} {m m' : List β} (h : All2 R l m) (h' : All2 R l' m') : All2 R (l ++ l') (m ++ m') := by
  induction h with
  | nil => exact h'
  | cons r _ ih => exact .cons r ih
theorem split {m m' : List β} : ∀ {l : List α}, All2 R l (m ++ m') → ∃ l1 l2, l = l1 ++ l2 ∧ All2 R l1 m ∧ All2 R l2 m' := by
  induction m with
  | nil => intro l h; exact ⟨[], l, rfl, .nil, h⟩
  | cons b m ih =>
    intro l h
    cases h with
    | cons r h => obtain ⟨l1, l2, rfl, h1, h2⟩ := ih h; exact ⟨_ :: l1, l2, rfl, .cons r h1, h2⟩
theorem mem {l : List α} {m : List β} (h : All2 R l m) {b : β} (hb : b ∈ m) : ∃ a ∈ l, R a b := by
  induction h with
  | nil => cases hb
  | cons r _ ih =>
    rcases List.mem_cons.mp hb with rfl | hb
    · exact ⟨_, .head _, r⟩
    · obtain ⟨a, ha, hr⟩ := ih hb; exact ⟨a, .tail _ ha, hr⟩
theorem get {l : List α} {m : List β} (h : All2 R l m) : ∀ {i : Nat} {b : β}, m[i]? = some b → ∃ a, l[i]? = some a ∧ R a b := by
  induction h with
  | nil => intro i b e; simp at e
  | cons r _ ih =>
    intro i b e
    cases i with
    | zero => simp at e; subst e; exact ⟨_, rfl, r⟩
    | succ i => simp at e; simpa using ih e
theorem getL {l : List α} {m : List β} (h : All2 R l m) : ∀ {i : Nat} {a : α}, l[i]? = some a → ∃ b, m[i]? = some b ∧ R a b := by
  induction h with
  | nil => intro i b e; simp at e
  | cons r _ ih =>
    intro i b e
    cases i with
    | zero => simp at e; subst e; exact ⟨_, rfl, r⟩
    | succ i => simp at e; simpa using ih e
theorem take {l : List α} {m : List β} (h : All2 R l m) (n : Nat) : All2 R (l.take n) (m.take n) := by
  induction h generalizing n with
  | nil => simp; exact .nil
  | cons r _ ih => cases n with
    | zero => exact .nil
    | succ n => simp; exact .cons r (ih n)
theorem drop {l : List α} {m : List β} (h : All2 R l m) (n : Nat) : All2 R (l.drop n) (m.drop n) := by
  induction h generalizing n with
  | nil => simp; exact .nil
  | cons r h ih => cases n with
    | zero => exact .cons r h
    | succ n => simp; exact ih n
theorem reverse {l : List α} {m : List β} (h : All2 R l m) : All2 R l.reverse m.reverse := by
  induction h with
  | nil => exact .nil
  | cons r _ ih => simp; exact ih.append (.cons r .nil)
theorem set {l : List α} {m : List β} (h : All2 R l m) {a : α} {b : β} (r : R a b) (i : Nat) : All2 R (l.set i a) (m.set i b) := by
  induction h generalizing i with
  | nil => simp; exact .nil
  | cons r' h ih => cases i with
    | zero => exact .cons r h
    | succ i => simp; exact .cons r' (ih i)
end All2

/-! ## abstract values and objects -/
inductive V where
  | none | bool (b : Bool) | int (i : Int) | str (x : Str) | bytes (l : List Nat) | ref (a : Addr) | type (n : String) | bi (n : String)
noncomputable abbrev bnat (b : Array UInt8) : List Nat := b.toList.map (·.toNat)
inductive VR : Value → V → Prop
  | none : VR .none .none
  | bool (b) : VR (.bool b) (.bool b)
  | int (i t) : VR (.int i t) (.int i)
  | str (x t) : VR (.str x t) (.str x)
  | bytes (b t) : VR (.bytes b t) (.bytes (bnat b))
  | ref (a) : VR (.ref a) (.ref a)
  | type (n) : VR (.type n) (.type n)
  | bi (n) : VR (.builtin n) (.bi n)
inductive AObj where
  | list (vs : List V)
  | barr (l : List Nat)
  | cell (v : Option V)
  | code (qual : Str)
  | tab (pos : Pos) (t : Option Addr)
  | lam (name qual : Str) (params : Arguments) (body : PySem.Expr) (scope : Scope) (cl : List (Str × Addr)) (c' : Addr)
  | slice (l u s : V)
  | liter (l : Addr) (i : Nat)
  | riter (x left step : Int)
  | biter (b : List Nat) (i : Nat)
  | range (a b c : Int)
  | raw (o : Obj)
noncomputable def OR (o : Obj) : AObj → Prop
  | .list vs => ∃ its n, o = listOf its n ∧ All2 VR its.toList vs
  | .barr l => ∃ b, o = { cls := .type "bytearray", data := .bytearray b } ∧ l = bnat b
  | .cell none => o.data = .cell none
  | .cell (some x) => ∃ v, o.data = .cell (some v) ∧ VR v x
  | .code qual => ∃ vs t, o.data = .fields vs ∧ vs[1]? = some (.str qual t)
  | .tab pos t => ∃ ps, o = tabObj ps ∧ TriplesOk ps.toList ∧ codeAmong pos ps.toList = t.map Value.ref
  | .lam name qual params body scope cl c' => ∃ pm ctv, o = kla_obj name qual params body scope cl pm c' ctv
  | .slice l u s => ∃ lv uv sv, o = { cls := .type "slice", data := .fields #[lv, uv, sv] } ∧ VR lv l ∧ VR uv u ∧ VR sv s
  | .liter l i => o.cls = .type "list_iterator" ∧ o.data = .fields #[.ref l, .int i 0]
  | .riter x left step => o = { cls := .type "range_iterator", dict := none, data := .fields #[rawInt x, rawInt left, rawInt step], slots := #[] }
  | .biter l i => ∃ b t, o.cls = .type "bytes_iterator" ∧ o.data = .fields #[.bytes b t, .int i 0] ∧ l = bnat b
  | .range a b c => ∃ t u v, o = { cls := .type "range", dict := none, data := .fields #[.int a t, .int b u, .int c v], slots := #[] }
  | .raw o' => o = o' ∧ ∀ es n, o.data ≠ .dict es n
/-! ## the state -/
structure Gl where
  prog : Program
  w : World
  K : Frag
  p : Program
  loose : List Str
  mean : ExcName → Option Value
  mg : Str → Option Value
  mb : Str → Option Value
structure Fc where
  g : Gl
  A : Around
  env : Env
  h₀ : Heap
  s₀ : Shared
  room : Nat
  hd : Bool
noncomputable abbrev Fc.M (c : Fc) : Model := model c.g.prog c.g.w
structure FcOk (c : Fc) : Prop where
  top : Top c.g.p c.g.loose c.g.mean c.g.mg c.g.mb c.h₀
  kin : c.g.K.In c.h₀
  glob : c.env.globals = mainGlobals
  blt : c.env.builtins = builtinsNs
  kind : c.env.scope.kind = .function
  hand : c.hd = false → c.A.handled = none
  hdr : c.hd = true → c.room = 0
  depth : c.A.depth + c.room ≤ 400
  units : c.A.units + 10 * c.room ≤ 1000
noncomputable abbrev Loc := List (Str × V)
structure St where
  loc : Loc
  hp : List (Addr × AObj)
noncomputable def LocRel (m : Str → Option Value) (l : Loc) : Prop := ∀ x v, l.lookup x = some v → ∃ v', m x = some v' ∧ VR v' v
noncomputable def ER (p : Addr × Obj) (q : Addr × AObj) : Prop := p.1 = q.1 ∧ OR p.2 q.2
/-- the same object, but for the slots of a frame -/
noncomputable def FR (o o' : Obj) : Prop := o' = o ∨ ∃ es n sl, o.data = .dict es n ∧ o' = { o with slots := sl }
noncomputable def PR (p' p : Addr × Obj) : Prop := p'.1 = p.1 ∧ FR p.2 p'.2
theorem FR.refl (o : Obj) : FR o o := .inl rfl
theorem FR.trans {a b c : Obj} (h : FR a b) (k : FR b c) : FR a c := by
  rcases h with rfl | ⟨es, n, sl, d, rfl⟩
  · exact k
  · rcases k with rfl | ⟨es', n', sl', d', rfl⟩
    · exact .inr ⟨es, n, sl, d, rfl⟩
    · exact .inr ⟨es, n, sl', d, rfl⟩
theorem PR.refl (l : List (Addr × Obj)) : All2 PR l l := by
  induction l with
  | nil => exact .nil
  | cons a l ih => exact .cons ⟨rfl, .refl _⟩ ih
theorem All2PR.names : ∀ {a b : List (Addr × Obj)}, All2 PR b a → b.map (·.1) = a.map (·.1)
  | _, _, .nil => rfl
  | _, _, .cons r h => by simp [r.1, All2PR.names h]
theorem FR.data {o o' : Obj} (h : FR o o') (hd : ∀ es n, o.data ≠ .dict es n) : o' = o := by
  rcases h with h | ⟨es, n, _, d, _⟩
  · exact h
  · exact absurd d (hd es n)
theorem OR.nodict {o : Obj} {ao : AObj} (h : OR o ao) : ∀ es n, o.data ≠ .dict es n := by
  intro es n hd
  cases ao with
  | list vs => obtain ⟨_, _, rfl, _⟩ := h; cases hd
  | barr l => obtain ⟨_, rfl, _⟩ := h; cases hd
  | cell v => cases v with
    | none => rw [show o.data = _ from h] at hd; cases hd
    | some x => obtain ⟨_, e, _⟩ := h; rw [e] at hd; cases hd
  | code q => obtain ⟨_, _, e, _⟩ := h; rw [e] at hd; cases hd
  | tab p t => obtain ⟨_, rfl, _⟩ := h; cases hd
  | lam => obtain ⟨_, _, rfl⟩ := h; cases hd
  | slice => obtain ⟨_, _, _, rfl, _⟩ := h; cases hd
  | liter => rw [h.2] at hd; cases hd
  | riter => rw [show o = _ from h] at hd; cases hd
  | biter => obtain ⟨_, _, _, e, _⟩ := h; rw [e] at hd; cases hd
  | range => obtain ⟨_, _, _, rfl⟩ := h; cases hd
  | raw o' => exact h.2 es n hd
/-- every frame of the stack is the running one or one that is kept -/
noncomputable def FrOk (c : Fc) (φ : List (Addr × Obj)) : Prop := ∀ l, c.A.frames = some l → ∀ e ∈ l, e.scope.kind ≠ .module ∧ ∃ L, e.frame = some L ∧ (L = c.env.locals ∨ ∃ o es n, (L, o) ∈ φ ∧ o.data = .dict es n)
structure Sat (c : Fc) (φ : List (Addr × Obj)) (st : St) (s : Shared) : Prop where
  ok : FcOk c
  fr : ∃ m, Fr c.h₀ c.env.locals s.heap m ∧ LocRel m st.loc
  nw : ∃ news φ', News c.h₀ c.env.locals s.heap (news ++ φ') ∧ ((news ++ φ').map (·.1)).Nodup ∧ All2 ER news st.hp ∧ All2 PR φ' φ
  rest : ∃ h tk, s = { c.s₀ with heap := h, toks := tk }
  frm : FrOk c φ

section
variable {c : Fc} {φ : List (Addr × Obj)} {st : St} {s : Shared}
theorem Sat.keep₀ (S : Sat c φ st s) : ∀ b o, c.h₀.get? b = some o → s.heap.get? b = some o := let ⟨_, F, _⟩ := S.fr; F.keep
theorem Sat.top (S : Sat c φ st s) : Top c.g.p c.g.loose c.g.mean c.g.mg c.g.mb s.heap := S.ok.top.keeps S.keep₀
theorem Sat.kin (S : Sat c φ st s) : c.g.K.In s.heap := S.ok.kin.keeps S.keep₀
theorem Sat.at (S : Sat c φ st s) {a : Addr} {ao : AObj} (hm : (a, ao) ∈ st.hp) : ∃ o, s.heap.get? a = some o ∧ OR o ao := by
  obtain ⟨news, φ', N, _, H, _⟩ := S.nw
  obtain ⟨⟨a', o⟩, hp, e, ho⟩ := H.mem hm
  cases e
  exact ⟨o, (N _ (List.mem_append_left _ hp)).1, ho⟩
theorem Sat.list (S : Sat c φ st s) {a : Addr} {vs : List V} (hm : (a, AObj.list vs) ∈ st.hp) : ∃ its n, s.heap.get? a = some (listOf its n) ∧ All2 VR its.toList vs ∧ s.heap.IsList a its := by
  obtain ⟨o, ho, its, n, rfl, h⟩ := S.at hm
  exact ⟨its, n, ho, h, ⟨_, ho, rfl, n, rfl⟩⟩

/-- a heap that keeps every object -/
theorem Sat.keeps (S : Sat c φ st s) {h' : Heap} {tk : Tok} (hk : ∀ b o, s.heap.get? b = some o → h'.get? b = some o) : Sat c φ st { s with heap := h', toks := tk } := by
  obtain ⟨m, F, hl⟩ := S.fr
  obtain ⟨news, φ', N, nd, H, P⟩ := S.nw
  obtain ⟨h, t, e⟩ := S.rest
  exact ⟨S.ok, ⟨m, ⟨F.ns.keeps hk, fun b o e => hk _ _ (F.keep b o e), F.above⟩, hl⟩, ⟨news, φ', fun p hp => ⟨hk _ _ (N p hp).1, (N p hp).2⟩, nd, H, P⟩, ⟨h', tk, by rw [e]⟩, S.frm⟩
theorem Sat.toks (S : Sat c φ st s) (tk : Tok) : Sat c φ st { s with toks := tk } := S.keeps (h' := s.heap) fun _ _ e => e
/-- forget entries and names -/
theorem Sat.weaken {loc' : Loc} (S : Sat c φ st s) (hl : ∀ x v, loc'.lookup x = some v → st.loc.lookup x = some v) : Sat c φ ⟨loc', st.hp⟩ s :=
  ⟨S.ok, let ⟨m, F, h⟩ := S.fr; ⟨m, F, fun x v e => h x v (hl x v e)⟩, S.nw, S.rest, S.frm⟩
theorem Sat.perm (S : Sat c φ st s) {hp' : List (Addr × AObj)} (h : st.hp.Perm hp') : Sat c φ ⟨st.loc, hp'⟩ s := by
  refine ⟨S.ok, S.fr, ?_, S.rest, S.frm⟩
  obtain ⟨news, φ', N, nd, H, P⟩ := S.nw
  have : ∃ news', news.Perm news' ∧ All2 ER news' hp' := by
    clear N nd S P
    generalize st.hp = hp₀ at h H
    induction h generalizing news with
    | nil => cases H; exact ⟨[], .nil, .nil⟩
    | cons x _ ih => cases H with | cons r H => obtain ⟨n', p', H'⟩ := ih _ H; exact ⟨_ :: n', p'.cons _, .cons r H'⟩
    | swap x y l => cases H with | cons r H => cases H with | cons r' H => exact ⟨_, .swap _ _ _, .cons r' (.cons r H)⟩
    | trans _ _ ih1 ih2 => obtain ⟨n1, p1, H1⟩ := ih1 _ H; obtain ⟨n2, p2, H2⟩ := ih2 _ H1; exact ⟨n2, p1.trans p2, H2⟩
  obtain ⟨news', p', H'⟩ := this
  have pa : (news ++ φ').Perm (news' ++ φ') := p'.append_right φ'
  exact ⟨news', φ', fun q hq => N q (pa.mem_iff.mpr hq), (pa.map _).nodup_iff.mp nd, H', P⟩
theorem Sat.drop (S : Sat c φ st s) {l r : List (Addr × AObj)} (h : st.hp = l ++ r) : Sat c φ ⟨st.loc, r⟩ s := by
  refine ⟨S.ok, S.fr, ?_, S.rest, S.frm⟩
  obtain ⟨news, φ', N, nd, H, P⟩ := S.nw
  rw [h] at H
  obtain ⟨n1, n2, rfl, _, H2⟩ := H.split
  refine ⟨n2, φ', fun q hq => N q ?_, ?_, H2, P⟩
  · rw [List.append_assoc]; exact List.mem_append_right _ hq
  · rw [List.append_assoc, List.map_append] at nd; exact (List.nodup_append.mp nd).2.1

theorem Sat.fresh (S : Sat c φ st s) {a : Addr} (ha : s.heap.objs.size ≤ a) : c.h₀.get? a = none ∧ a ≠ c.env.locals := by
  obtain ⟨m, F, _⟩ := S.fr
  refine ⟨?_, fun e => ?_⟩
  · cases q : c.h₀.get? a with
    | none => rfl
    | some o => exact absurd (Heap.lt_size (F.keep _ _ q)) (Nat.not_lt.mpr ha)
  · exact absurd F.ns.lt (e ▸ Nat.not_lt.mpr ha)

/-- an object added to the ledger -/
theorem Sat.add (S : Sat c φ st s) {h' : Heap} {tk : Tok} {a : Addr} {o : Obj} {ao : AObj} (ha : s.heap.objs.size ≤ a) (hk : ∀ b o, s.heap.get? b = some o → h'.get? b = some o) (ho : h'.get? a = some o) (r : OR o ao) :
    Sat c φ ⟨st.loc, (a, ao) :: st.hp⟩ { s with heap := h', toks := tk } := by
  have S' := S.keeps (tk := tk) hk
  obtain ⟨news₀, φ', N₀, nd₀, H₀, P⟩ := S.nw
  refine ⟨S'.ok, S'.fr, ⟨(a, o) :: news₀, φ', ?_, ?_, .cons ⟨rfl, r⟩ H₀, P⟩, S'.rest, S.frm⟩
  · intro p hp
    rcases List.mem_cons.mp hp with rfl | hp
    · exact ⟨ho, (S.fresh ha).2, (S.fresh ha).1⟩
    · exact ⟨hk _ _ (N₀ p hp).1, (N₀ p hp).2⟩
  · simp only [List.cons_append, List.map_cons, List.nodup_cons]
    refine ⟨fun hm => ?_, nd₀⟩
    obtain ⟨p, hp, e⟩ := List.mem_map.mp hm
    exact absurd (Heap.lt_size (N₀ p hp).1) (e ▸ Nat.not_lt.mpr ha)
theorem Sat.alloc (S : Sat c φ st s) {o : Obj} {ao : AObj} (hf : o.isFreed = false) (r : OR o ao) : Sat c φ ⟨st.loc, (s.heap.objs.size, ao) :: st.hp⟩ { s with heap := s.heap.push o } :=
  S.add (tk := s.toks) (Nat.le_refl _) (fun _ _ e => Heap.get?_push_of_some _ e) (Heap.get?_push_size _ hf) r

/-- an object of the ledger changed -/
theorem Sat.set (S : Sat c φ st s) {pre post : List (Addr × AObj)} {a : Addr} {ao ao' : AObj} (h : st.hp = pre ++ (a, ao) :: post) {h' : Heap} {tk : Tok} {o' : Obj}
    (hk : Heap.ExtBut a s.heap h') (ho : h'.get? a = some o') (r : OR o' ao') : Sat c φ ⟨st.loc, pre ++ (a, ao') :: post⟩ { s with heap := h', toks := tk } := by
  obtain ⟨m, F, hl⟩ := S.fr
  obtain ⟨news, φ', N, nd, H, P⟩ := S.nw
  obtain ⟨hh, t, e⟩ := S.rest
  rw [h] at H
  obtain ⟨n1, n2, rfl, H1, H2⟩ := H.split
  cases H2 with
  | cons r2 H2 =>
    rename_i p n2
    obtain ⟨a', o⟩ := p
    obtain ⟨rfl, _⟩ := r2
    have hm : (a', o) ∈ (n1 ++ (a', o) :: n2) ++ φ' := List.mem_append_left _ (List.mem_append_right _ (.head _))
    have hL : c.env.locals ≠ a' := fun q => (N _ hm).2.1 q.symm
    have h0 : ∀ b o, c.h₀.get? b = some o → b ≠ a' := fun b o e q => by have := (N _ hm).2.2; rw [q] at e; rw [this] at e; cases e
    refine ⟨S.ok, ⟨m, ⟨F.ns.extBut hk hL, fun b o e => hk b o (h0 b o e) (F.keep b o e), F.above⟩, hl⟩, ⟨n1 ++ (a', o') :: n2, φ', ?_, ?_, H1.append (.cons ⟨rfl, r⟩ H2), P⟩, ⟨h', tk, by rw [e]⟩, S.frm⟩
    · have ne : ∀ q ∈ (n1 ++ n2) ++ φ', q.1 ≠ a' := by
        intro q hq e
        have nd' : ((a', o) :: ((n1 ++ n2) ++ φ')).map (·.1) |>.Nodup := by
          refine List.Perm.nodup_iff (List.Perm.map _ ?_) |>.mp nd
          refine (List.Perm.append_right φ' List.perm_middle)
        rw [List.map_cons, List.nodup_cons] at nd'
        exact nd'.1 (List.mem_map.mpr ⟨q, hq, e⟩)
      intro q hq
      have hq' : q = (a', o') ∨ q ∈ (n1 ++ n2) ++ φ' := by
        simp only [List.mem_append, List.mem_cons] at hq ⊢
        rcases hq with (h | h | h) | h
        · exact .inr (.inl (.inl h))
        · exact .inl h
        · exact .inr (.inl (.inr h))
        · exact .inr (.inr h)
      rcases hq' with rfl | hq'
      · exact ⟨ho, (N _ hm).2⟩
      · have hq2 : q ∈ (n1 ++ (a', o) :: n2) ++ φ' := by
          simp only [List.mem_append, List.mem_cons] at hq' ⊢
          rcases hq' with (h | h) | h
          · exact .inl (.inl h)
          · exact .inl (.inr (.inr h))
          · exact .inr h
        exact ⟨hk _ _ (ne q hq') (N q hq2).1, (N q hq2).2⟩
    · simpa using nd
/-- a local name stored -/
theorem Sat.store (S : Sat c φ st s) {x : Str} {v : Value} {v' : V} (hv : VR v v') {h' : Heap} {tk : Tok} (hs : Heap.SameBut c.env.locals s.heap h')
    (hn : ∀ m, s.heap.Ns c.env.locals m → h'.Ns c.env.locals (fun y => if y = x then some v else m y)) : Sat c φ ⟨(x, v') :: st.loc, st.hp⟩ { s with heap := h', toks := tk } := by
  obtain ⟨m, F, hl⟩ := S.fr
  obtain ⟨news, φ', N, nd, H, P⟩ := S.nw
  obtain ⟨hh, t, e⟩ := S.rest
  refine ⟨S.ok, ⟨_, F.set (hn m F.ns) hs, fun y u hu => ?_⟩, ⟨news, φ', N.set hs, nd, H, P⟩, ⟨h', tk, by rw [e]⟩, S.frm⟩
  rw [List.lookup_cons] at hu
  by_cases hy : y = x
  · subst hy; simp at hu; subst hu; exact ⟨v, by simp, hv⟩
  · have : (y == x) = false := beq_eq_false_iff_ne.mpr hy
    rw [this] at hu
    obtain ⟨v2, e2, r2⟩ := hl y u hu
    exact ⟨v2, by simp [hy, e2], r2⟩
end
end Mine

set_option maxRecDepth 100000
set_option Elab.async false
set_option linter.unusedVariables false
namespace Mine
open PySem PySem.W PyProof.Rows PySem.Calls

noncomputable def TR {α β : Type} (c : Fc) (t : Sem α) (R : α → β → Prop) (st : St) (Q : β → St → Prop) : Prop :=
  ∀ φ s, Sat c φ st s → wpN c.M c.A t (fun a s' => ∃ b st', R a b ∧ Sat c φ st' s' ∧ Q b st') (fun _ _ => False) s
noncomputable abbrev UR : Unit → Unit → Prop := fun _ _ => True
inductive AFlow where
  | next | brk | cont | ret (v : V)
inductive FRel : Flow → AFlow → Prop
  | next : FRel .next .next
  | brk : FRel .brk .brk
  | cont : FRel .cont .cont
  | ret {v x} : VR v x → FRel (.ret v) (.ret x)
noncomputable abbrev EV (c : Fc) (e : PySem.Expr) (st : St) (Q : V → St → Prop) : Prop := TR c (eval e c.env) VR st Q
noncomputable abbrev EB (c : Fc) (e : PySem.Expr) (st : St) (Q : Bool → St → Prop) : Prop := TR c (isTrue e c.env (eval e c.env)) Eq st Q
noncomputable abbrev EX (c : Fc) (ss : List Stmt) (st : St) (Q : AFlow → St → Prop) : Prop := TR c (execs ss c.env) FRel st Q
noncomputable abbrev ES (c : Fc) (s : Stmt) (st : St) (Q : AFlow → St → Prop) : Prop := TR c (exec s c.env) FRel st Q

section
variable {α β γ δ : Type} {c : Fc} {st : St} {R : α → β → Prop} {Q : β → St → Prop}
theorem TR.mono {t : Sem α} {Q' : β → St → Prop} (h : TR c t R st Q) (k : ∀ b st', Q b st' → Q' b st') : TR c t R st Q' :=
  fun φ s S => wpN_post (h φ s S) fun a s' ⟨b, st', r, S', q⟩ => ⟨b, st', r, S', k _ _ q⟩
theorem TR.pure {a : α} {b : β} (r : R a b) (q : Q b st) : TR c (pure a) R st Q := fun φ s S => wpN_pure ⟨b, st, r, S, q⟩
theorem TR.bind {m : Sem α} {f : α → Sem γ} {R' : γ → δ → Prop} {Q' : δ → St → Prop} (h : TR c m R st (fun b st' => ∀ a, R a b → TR c (f a) R' st' Q')) : TR c (m >>= f) R' st Q' :=
  fun φ s S => wpN_bind (wpN_post (h φ s S) fun a s' ⟨b, st', r, S', q⟩ => q a r φ s' S')
theorem TR.pre {t : Sem α} {st' : St} (h : TR c t R st' Q) (k : ∀ φ s, Sat c φ st s → Sat c φ st' s) : TR c t R st Q := fun φ s S => h φ s (k φ s S)
theorem TR.holding {t : Sem α} {vs : List Value} (h : TR c t R st Q) : TR c (holding vs t) R st Q := fun φ s S => wpN_holding (h φ s S)
theorem TR.keepv {t : Sem α} {vs : List Value} (h : TR c t R st Q) : TR c (t.keep vs) R st Q := fun φ s S => wpN_keep (h φ s S)
theorem TR.operate {t : Sem Value} {vs : List Value} {Q : V → St → Prop} (h : TR c t VR st Q) : TR c (operate vs t) VR st Q := fun φ s S => wpN_operate (h φ s S)
theorem TR.stand {pos : Pos} {f : Unit → Sem α} (h : TR c (f ()) R st Q) : TR c (standAt pos >>= f) R st Q := fun φ s S => wpN_bind (wpN_standAt (h φ s S))
theorem TR.hpoint {vs : List Value} {f : Unit → Sem α} (h : TR c (f ()) R st Q) : TR c (PySem.holding vs PySem.point >>= f) R st Q := fun φ s S => wpN_bind (wpN_holding (wpN_point (h φ s S)))
theorem TR.release {vs ks : List Value} {f : Unit → Sem α} (h : TR c (f ()) R st Q) : TR c (release vs ks >>= f) R st Q := fun φ s S => by
  refine wpN_bind ?_
  unfold PySem.release
  generalize (vs.filter fun | .ref _ => true | _ => false) = l
  induction l with
  | nil => exact wpN_pure (h φ s S)
  | cons a r' ih =>
    cases r' with
    | nil => exact wpN_pure (h φ s S)
    | cons b r'' => exact wpN_bind (wpN_holding (wpN_point ih))
theorem TR.ofEq {t t' : Sem α} (e : t = t') (h : TR c t' R st Q) : TR c t R st Q := e ▸ h
/-- a leaf by the library -/
theorem TR.leaf {t : Sem α} (h : ∀ φ s, Sat c φ st s → wpAny c.M c.A t (fun a s' => ∃ b st', R a b ∧ Sat c φ st' s' ∧ Q b st') (fun _ _ => False) s) : TR c t R st Q := fun φ s S => lift (h φ s S)
end

section
variable {c : Fc} {st : St} {Q : V → St → Prop}
/-! ### names -/
theorem ev_local {x : Str} {pos : Pos} {v : V} (hk : c.env.kindOf x = some .local) (hl : st.loc.lookup x = some v) (q : Q v st) (hd : (x == ("__debug__" : Str)) = false) : EV c (.Name x pos) st Q :=
  TR.leaf fun φ s S => by
    obtain ⟨m, F, hm⟩ := S.fr
    obtain ⟨v', e, r⟩ := hm x v hl
    exact wpAny_Name (wpAny_loadName_local S.ok.kind hk F.ns e ⟨v, st, r, S, q⟩) hd
theorem ev_cell {x : Str} {pos : Pos} {a : Addr} {v : V} (hk : c.env.kindOf x = some .cell) (hc : c.env.cells.lookup x = some a) (hm : (a, AObj.cell (some v)) ∈ st.hp) (q : Q v st) (hd : (x == ("__debug__" : Str)) = false) : EV c (.Name x pos) st Q :=
  TR.leaf fun φ s S => by
    obtain ⟨o, ho, v', hd', r⟩ := S.at hm
    exact wpAny_Name (wpAny_loadName_cell S.ok.kind hk hc ⟨o, ho, hd'⟩ ⟨v, st, r, S, q⟩) hd
theorem ev_glob {x : Str} {pos : Pos} {v : Value} {v' : V} (hk : c.env.kindOf x = some .globalImplicit) (hn : nsIn c.g.K mainGlobals x = some (some v)) (r : VR v v') (q : Q v' st) (hd : (x == ("__debug__" : Str)) = false) : EV c (.Name x pos) st Q :=
  TR.leaf fun φ s S => Name_function_global S.ok.kind hk (loadGlobal_global (mg := c.g.mg) (by rw [S.ok.glob]; exact S.top.g) (mg_of S.kin S.top.g hn) ⟨v', st, r, S, q⟩) hd
theorem ev_bi {x : Str} {pos : Pos} {v : Value} {v' : V} (hk : c.env.kindOf x = some .globalImplicit) (hn : nsIn c.g.K mainGlobals x = some none) (hb : bootBuiltins x = some v) (hx : x ≠ "__name__") (r : VR v v') (q : Q v' st)
    (hd : (x == ("__debug__" : Str)) = false) : EV c (.Name x pos) st Q :=
  TR.leaf fun φ s S => Name_function_global S.ok.kind hk (loadGlobal_builtin (mg := c.g.mg) (mb := c.g.mb) (by rw [S.ok.glob]; exact S.top.g) (mg_none_of S.kin S.top.g hn) (by rw [S.ok.blt]; exact S.top.b) ((S.top.builtins x hx).trans hb) ⟨v', st, r, S, q⟩) hd
/-! ### constants -/
theorem ev_int {i : Int} {k : Nat} {pos : Pos} (q : Q (.int i) st) : EV c (.Constant (.int i) k pos) st Q :=
  TR.leaf fun φ s S => wpAny_mkInt ⟨_, st, .int i _, S.toks _, q⟩
theorem ev_none {k : Nat} {pos : Pos} (q : Q .none st) : EV c (.Constant .none k pos) st Q := TR.pure .none q
/-! ### operators -/
noncomputable def BO (c : Fc) (op : Operator) (a b : V) (st : St) (Q : V → St → Prop) : Prop := ∀ v v', VR v a → VR v' b → TR c (binaryOp op v v') VR st Q
noncomputable def IO (c : Fc) (op : Operator) (a b : V) (st : St) (Q : V → St → Prop) : Prop := ∀ v v', VR v a → VR v' b → TR c (inplaceOp op v v') VR st Q
noncomputable def CO (c : Fc) (op : CmpOp) (a b : V) (st : St) (Q : V → St → Prop) : Prop := ∀ v v', VR v a → VR v' b → TR c (compareOp op v v') VR st Q
noncomputable def UO (c : Fc) (op : UnaryOp) (a : V) (st : St) (Q : V → St → Prop) : Prop := ∀ v, VR v a → TR c (unaryOp op v) VR st Q
noncomputable def TT (c : Fc) (a : V) (st : St) (Q : Bool → St → Prop) : Prop := ∀ v, VR v a → TR c (truthy v) Eq st Q
theorem ev_binop {l r : PySem.Expr} {op : Operator} {pos : Pos} (h : EV c l st fun a st1 => EV c r st1 fun b st2 => BO c op a b st2 Q) : EV c (.BinOp l op r pos) st Q :=
  TR.bind (TR.mono h fun a st1 h1 v r1 => TR.bind (TR.holding (TR.mono h1 fun b st2 h2 v' r2 => TR.stand (TR.operate (h2 v v' r1 r2)))))
theorem ev_unop {x : PySem.Expr} {op : UnaryOp} {pos : Pos} (h : EV c x st fun a st1 => UO c op a st1 Q) : EV c (.UnaryOp op x pos) st Q :=
  TR.bind (TR.mono h fun a st1 h1 v r1 => TR.stand (TR.holding (h1 v r1)))
theorem ev_ifexp {t b o : PySem.Expr} {pos : Pos} (h : EB c t st fun k st1 => if k then EV c b st1 Q else EV c o st1 Q) : EV c (.IfExp t b o pos) st Q :=
  TR.bind (TR.mono h fun k st1 h1 k' e => by subst e; cases k' <;> exact h1)
theorem ev_cmp1 {l r : PySem.Expr} {op : CmpOp} {pos : Pos} (h : EV c l st fun a st1 => EV c r st1 fun b st2 => CO c op a b st2 Q) (hm : ∀ t, markedEach [op] [r] [t] = [t] := by intro t; rfl) : EV c (.Compare l [op] [r] pos) st Q :=
  TR.bind (TR.mono h fun a st1 h1 v r1 => by
    show TR c (compareChain pos v [op] (markedEach [op] [r] [eval r c.env])) VR st1 Q
    rw [hm]
    exact TR.bind (TR.holding (TR.mono h1 fun b st2 h2 v' r2 => TR.stand (TR.operate (h2 v v' r1 r2)))))
/-! ### tests -/
variable {Qb : Bool → St → Prop}
theorem eb_not {x : PySem.Expr} {pos : Pos} (h : EB c x st fun k st1 => Qb (!k) st1) : EB c (.UnaryOp .Not x pos) st Qb :=
  TR.bind (TR.mono h fun k st1 h1 k' e => by subst e; exact TR.pure rfl h1)
theorem eb_and1 {x : PySem.Expr} {pos : Pos} (h : EB c x st Qb) : TR c (allTrue .And [x] c.env) Eq st Qb :=
  TR.bind (TR.mono h fun k st1 h1 k' e => by subst e; cases k' <;> exact TR.pure rfl h1)
theorem eb_andc {x y : PySem.Expr} {r : List PySem.Expr} (h : EB c x st fun k st1 => if k then TR c (allTrue .And (y :: r) c.env) Eq st1 Qb else Qb false st1) : TR c (allTrue .And (x :: y :: r) c.env) Eq st Qb :=
  TR.bind (TR.mono h fun k st1 h1 k' e => by
    subst e
    cases k' with
    | true => exact h1
    | false => exact TR.pure rfl h1)
theorem eb_or1 {x : PySem.Expr} {pos : Pos} (h : EB c x st Qb) : TR c (allTrue .Or [x] c.env) Eq st Qb :=
  TR.bind (TR.mono h fun k st1 h1 k' e => by subst e; cases k' <;> exact TR.pure rfl h1)
theorem eb_orc {x y : PySem.Expr} {r : List PySem.Expr} (h : EB c x st fun k st1 => if k then Qb true st1 else TR c (allTrue .Or (y :: r) c.env) Eq st1 Qb) : TR c (allTrue .Or (x :: y :: r) c.env) Eq st Qb :=
  TR.bind (TR.mono h fun k st1 h1 k' e => by
    subst e
    cases k' with
    | true => exact TR.pure rfl h1
    | false => exact h1)
theorem eb_cmp1 {l r : PySem.Expr} {op : CmpOp} {pos : Pos} (h : EV c l st fun a st1 => EV c r st1 fun b st2 => CO c op a b st2 fun k st3 => TT c k st3 Qb) (hm : ∀ t, markedEach [op] [r] [t] = [t] := by intro t; rfl) : EB c (.Compare l [op] [r] pos) st Qb :=
  TR.bind (TR.mono h fun a st1 h1 v r1 => by
    show TR c (testChain pos v [op] (markedEach [op] [r] [eval r c.env])) Eq st1 Qb
    rw [hm]
    exact TR.bind (TR.holding (TR.mono h1 fun b st2 h2 v' r2 => TR.stand (TR.bind (TR.operate (TR.mono (h2 v v' r1 r2) fun k st3 h3 kv r3 => TR.holding (h3 kv r3)))))))
theorem eb_cmp2 {l r r' : PySem.Expr} {op op' : CmpOp} {pos : Pos} (h : EV c l st fun a st1 => EV c r st1 fun b st2 => CO c op a b st2 fun k st3 => TT c k st3 fun t st4 => if t then EV c r' st4 fun d st5 => CO c op' b d st5 fun k st6 => TT c k st6 Qb else Qb false st4)
    (hm : ∀ t t', markedEach [op, op'] [r, r'] [t, t'] = [t, t'] := by intro t t'; rfl) : EB c (.Compare l [op, op'] [r, r'] pos) st Qb :=
  TR.bind (TR.mono h fun a st1 h1 v r1 => by
    show TR c (testChain pos v [op, op'] (markedEach [op, op'] [r, r'] [eval r c.env, eval r' c.env])) Eq st1 Qb
    rw [hm]
    refine TR.bind (TR.holding (TR.mono h1 fun b st2 h2 v' r2 => TR.stand (TR.bind (TR.holding (TR.mono (h2 v v' r1 r2) fun k st3 h3 kv r3 => TR.release (TR.bind (TR.holding (TR.mono (h3 kv r3) fun t st4 h4 t' e => ?_))))))))
    subst e
    cases t' with
    | false => exact TR.pure rfl h4
    | true => exact TR.bind (TR.holding (TR.mono h4 fun d st5 h5 v'' r5 => TR.stand (TR.bind (TR.operate (TR.mono (h5 v' v'' r2 r5) fun k st6 h6 kv r6 => TR.holding (h6 kv r6)))))))
theorem eb_plain {e : PySem.Expr} (h : EV c e st fun a st1 => TT c a st1 Qb) (he : isTrue e c.env (eval e c.env) = (do let v ← eval e c.env; standAt e.pos; holding [v] (truthy v)) := by rfl) : EB c e st Qb :=
  TR.ofEq he (TR.bind (TR.mono h fun a st1 h1 v r1 => TR.stand (TR.holding (h1 v r1))))
theorem tt_bool {b : Bool} (q : Qb b st) : TT c (.bool b) st Qb := fun v r => by cases r; exact TR.leaf fun φ s S => wpAny_truthy_bool ⟨b, st, rfl, S, q⟩
/-! ### and, or as values -/
theorem ev_and2 {x y : PySem.Expr} {pos : Pos} (h : EV c x st fun a st1 => TT c a st1 fun t st2 => if t then EV c y st2 Q else Q a st2) : EV c (.BoolOp .And [x, y] pos) st Q :=
  TR.bind (TR.mono h fun a st1 h1 v r1 => TR.stand (TR.bind (TR.holding (TR.mono (h1 v r1) fun t st2 h2 t' e => by
    subst e
    cases t' with
    | true => exact h2
    | false => exact TR.pure r1 h2))))
theorem ev_and3 {x y z : PySem.Expr} {pos : Pos} (h : EV c x st fun a st1 => TT c a st1 fun t st2 => if t then EV c (.BoolOp .And [y, z] pos) st2 Q else Q a st2) : EV c (.BoolOp .And [x, y, z] pos) st Q :=
  TR.bind (TR.mono h fun a st1 h1 v r1 => TR.stand (TR.bind (TR.holding (TR.mono (h1 v r1) fun t st2 h2 t' e => by
    subst e
    cases t' with
    | true => exact h2
    | false => exact TR.pure r1 h2))))
/-! ### lists of expressions, calls -/
noncomputable def EL (c : Fc) (pos : Pos) (es : List PySem.Expr) (st : St) (Q : List V → St → Prop) : Prop := TR c (spliced (backTo pos (starEach es c.env))) (All2 VR) st Q
noncomputable def EK (c : Fc) (pos : Pos) (ks : List Keyword) (st : St) (Q : List V → St → Prop) : Prop := TR c (evalAll ((backToKw pos (keywordEach ks c.env)).map (·.2))) (All2 VR) st Q
theorem el_nil {pos : Pos} {Q : List V → St → Prop} (q : Q [] st) : EL c pos [] st Q := TR.pure .nil q
theorem el_cons {pos : Pos} {e : PySem.Expr} {es : List PySem.Expr} {Q : List V → St → Prop} (h : EV c e st fun a st1 => EL c pos es st1 fun as st2 => Q (a :: as) st2)
    (hs : starEach (e :: es) c.env = (false, eval e c.env) :: starEach es c.env := by rfl) : EL c pos (e :: es) st Q := by
  unfold EL
  rw [hs]
  show TR c (spliced ((false, eval e c.env) :: backTo pos (starEach es c.env))) (All2 VR) st Q
  exact TR.bind (TR.mono h fun a st1 h1 v r1 => TR.bind (TR.pure (R := fun (x : List Value) (y : List Value) => x = y) rfl fun a' e' => by
    subst e'
    exact TR.bind (TR.holding (TR.mono h1 fun as st2 h2 vs r2 => TR.pure (All2.cons r1 r2) h2))))
theorem ek_nil {pos : Pos} {Q : List V → St → Prop} (q : Q [] st) : EK c pos [] st Q := TR.pure .nil q
theorem ek_cons {pos : Pos} {k : Keyword} {ks : List Keyword} {Q : List V → St → Prop} (h : EV c k.value st fun a st1 => EK c pos ks st1 fun as st2 => Q (a :: as) st2) : EK c pos (k :: ks) st Q := by
  unfold EK
  obtain ⟨n, e, p⟩ := k
  show TR c (evalAll ((do let v ← eval e c.env; standAt pos; pure v) :: ((backToKw pos (keywordEach ks c.env)).map (·.2)))) (All2 VR) st Q
  refine TR.bind (TR.bind (TR.mono h fun a st1 h1 v r1 => TR.stand (TR.pure r1 ?_)))
  intro v' r1'
  exact TR.bind (TR.holding (TR.mono h1 fun as st2 h2 vs r2 => TR.pure (All2.cons r1' r2) h2))
noncomputable def kwNames (ks : List Keyword) : List Str := ks.filterMap (·.arg)
/-- a call of a value by place and keyword -/
noncomputable def CA (c : Fc) (f : V) (as : List V) (kn : List Str) (ks : List V) (st : St) (Q : V → St → Prop) : Prop :=
  ∀ fv vs kvs, VR fv f → All2 VR vs as → All2 VR kvs ks → TR c (call fv vs (kn.zip kvs)) VR st Q
noncomputable def Keeper (c : Fc) (f : V) (st : St) : Prop := match f with
  | .ref a => (∃ oc od fd sl, c.g.K.lookup a = some ⟨oc, od, .func fd, sl⟩) ∨ (∃ n q p b sc cl c', (a, AObj.lam n q p b sc cl c') ∈ st.hp)
  | .type _ | .bi _ => True
  | _ => False
theorem evalArgs_tr {pos : Pos} {f : Value} {args : List PySem.Expr} {ks : List Keyword} {Q : List V × List V → St → Prop} (hk : (keywordEach ks c.env).all (·.1.isSome) = true) (hst : (starEach args c.env).all (fun x => !x.1) = true)
    (h : EL c pos args st fun as st1 => EK c pos ks st1 fun kvs st2 => Q (as, kvs) st2) :
    TR c (evalArgs f true (backTo pos (starEach args c.env)) (backToKw pos (keywordEach ks c.env))) (fun x y => ∃ kvs, x.kw = ((keywordEach ks c.env).filterMap (·.1)).zip kvs ∧ All2 VR x.pos y.1 ∧ All2 VR kvs y.2) st Q := by
  have hall : (backToKw pos (keywordEach ks c.env)).all (·.1.isSome) = true := by
    unfold backToKw; rw [List.all_map]; exact hk
  have hfm : (backToKw pos (keywordEach ks c.env)).filterMap (·.1) = (keywordEach ks c.env).filterMap (·.1) := by
    unfold backToKw; rw [List.filterMap_map]; rfl
  unfold evalArgs
  have fin : ∀ (vs : List Value) (as : List V) (st1 : St), All2 VR vs as → (EK c pos ks st1 fun kvs st2 => Q (as, kvs) st2) →
      TR c (evalAll ((backToKw pos (keywordEach ks c.env)).map (·.2)) >>= fun l => PySem.Sem.pure (⟨vs, ((backToKw pos (keywordEach ks c.env)).filterMap (·.1)).zip l⟩ : Args))
        (fun x y => ∃ kvs, x.kw = ((keywordEach ks c.env).filterMap (·.1)).zip kvs ∧ All2 VR x.pos y.1 ∧ All2 VR kvs y.2) st1 Q :=
    fun vs as st1 r1 h1 => TR.bind (TR.mono h1 fun kvs st2 h2 kv r2 => TR.pure (b := (as, kvs)) ⟨kv, by rw [hfm], r1, r2⟩ h2)
  cases hse : starEach args c.env with
  | nil =>
    unfold EL at h
    rw [hse] at h
    show TR c (spliced [] >>= _) _ st Q
    refine TR.bind (TR.mono h fun as st1 h1 vs r1 => ?_)
    show TR c (holding _ _) _ st1 Q
    refine TR.holding ?_
    simp only [hall, if_true]
    exact fin vs as st1 r1 h1
  | cons x xs =>
    rw [hse] at hst
    obtain ⟨b, t⟩ := x
    have hb : b = false := by simp at hst; exact hst.1
    subst hb
    unfold EL at h
    rw [hse] at h
    show TR c (spliced (backTo pos ((false, t) :: xs)) >>= _) _ st Q
    refine TR.bind (TR.mono h fun as st1 h1 vs r1 => ?_)
    show TR c (holding _ _) _ st1 Q
    refine TR.holding ?_
    simp only [hall, if_true]
    exact fin vs as st1 r1 h1
theorem callWith_tr {pos : Pos} {f : Value} {fa : V} {first : List Value} {args : List PySem.Expr} {ks : List Keyword} {Q : V → St → Prop} {R1 : List Value → List V → Prop} (rf : VR f fa)
    (hk : (keywordEach ks c.env).all (·.1.isSome) = true) (hst : (starEach args c.env).all (fun x => !x.1) = true)
    (h : EL c pos args st fun as st1 => EK c pos ks st1 fun kvs st2 => Keeper c fa st2 ∧ ∀ vs kv, All2 VR vs as → All2 VR kv kvs → TR c (call f (first ++ vs) (((keywordEach ks c.env).filterMap (·.1)).zip kv)) VR st2 Q) :
    TR c (callWith pos f first (backTo pos (starEach args c.env)) (backToKw pos (keywordEach ks c.env))) VR st Q := by
  unfold callWith
  refine TR.bind (TR.holding (TR.mono (evalArgs_tr (Q := fun y st2 => Keeper c fa st2 ∧ ∀ vs kv, All2 VR vs y.1 → All2 VR kv y.2 → TR c (call f (first ++ vs) (((keywordEach ks c.env).filterMap (·.1)).zip kv)) VR st2 Q) hk hst h) ?_))
  rintro ⟨as, kvs⟩ st2 ⟨hkp, hcall⟩ x ⟨kv, ekw, r1, r2⟩
  refine TR.stand ?_
  obtain ⟨xp, xk⟩ := x
  dsimp only at ekw r1 r2 ⊢
  subst ekw
  have hstar : ((backTo pos (starEach args c.env)).any (·.1) || (backToKw pos (keywordEach ks c.env)).any (·.1.isNone)) = false := by
    rw [Bool.or_eq_false_iff]
    constructor
    · unfold backTo; rw [List.any_map]
      rw [List.any_eq_false]
      intro y hy
      have := List.all_eq_true.mp hst y hy
      simpa using this
    · unfold backToKw; rw [List.any_map]
      rw [List.any_eq_false]
      intro y hy
      have := List.all_eq_true.mp hk y hy
      cases hn : y.1 with
      | none => rw [hn] at this; cases this
      | some z => simp [hn]
  rw [hstar]
  have body := hcall xp kv r1 r2
  have tail : ∀ t : Sem Value, TR c t VR st2 Q → TR c (t >>= fun r => holding [r] point >>= fun _ => pure r) VR st2 Q := fun t ht => TR.bind (TR.mono ht fun v st3 q r rr => TR.hpoint (TR.pure rr q))
  cases fa with
  | ref a =>
    cases rf
    intro φ s S
    have hf : ∃ o fd, s.heap.get? a = some o ∧ o.data = .func fd := by
      rcases hkp with ⟨oc, od, fd, sl, e⟩ | ⟨n, q, p, b, sc, cl, c', e⟩
      · exact ⟨_, fd, S.kin _ _ e, rfl⟩
      · obtain ⟨o, ho, pm, ctv, rfl⟩ := S.at e
        exact ⟨_, _, ho, rfl⟩
    obtain ⟨o, fd, ho, hd⟩ := hf
    refine wpN_bind (m := keeperOf (.ref a)) (lift ?_)
    unfold keeperOf
    refine wpAny_bind (wpAny_load ho ?_)
    rw [hd]
    refine wpAny_pure ?_
    dsimp only
    split <;> first
      | exact tail _ body φ s S
      | exact tail _ (TR.keepv body) φ s S
  | type n => cases rf; intro φ s S; exact wpN_bind (m := keeperOf (.type n)) (lift (wpAny_pure (tail _ body φ s S)))
  | bi n => cases rf; intro φ s S; exact wpN_bind (m := keeperOf (.builtin n)) (lift (wpAny_pure (tail _ body φ s S)))
  | none => exact hkp.elim
  | bool => exact hkp.elim
  | int => exact hkp.elim
  | str => exact hkp.elim
  | bytes => exact hkp.elim
theorem ev_call {n : Str} {np pos : Pos} {args : List PySem.Expr} {ks : List Keyword} (h : EV c (.Name n np) st fun f st1 => EL c pos args st1 fun as st2 => EK c pos ks st2 fun kvs st3 => Keeper c f st3 ∧ CA c f as (kwNames ks) kvs st3 Q)
    (hk : (keywordEach ks c.env).all (·.1.isSome) = true) (hst : (starEach args c.env).all (fun x => !x.1) = true) (hn : (keywordEach ks c.env).filterMap (·.1) = kwNames ks) : EV c (.Call (.Name n np) args ks pos) st Q := by
  show TR c (eval (.Name n np) c.env >>= fun f => callWith pos f [] (backTo pos (starEach args c.env)) (backToKw pos (keywordEach ks c.env))) VR st Q
  refine TR.bind (TR.mono h fun f st1 h1 fv rf => callWith_tr (R1 := All2 VR) rf hk hst ?_)
  refine TR.mono h1 fun as st2 h2 => TR.mono h2 fun kvs st3 h3 => ⟨h3.1, fun vs kv r1 r2 => ?_⟩
  rw [hn]
  exact h3.2 fv vs kv rf r1 r2
end
end Mine

set_option maxRecDepth 100000
set_option Elab.async false
set_option linter.unusedVariables false
namespace Mine
open PySem PySem.W PyProof.Rows PySem.Calls

section
variable {α β : Type} {c : Fc} {R : α → β → Prop}
theorem Sat.inFrame {φ : List (Addr × Obj)} {loc : Loc} {fr hp : List (Addr × AObj)} {s : Shared} (S : Sat c φ ⟨loc, fr ++ hp⟩ s) : ∃ n1, All2 ER n1 fr ∧ Sat c (n1 ++ φ) ⟨loc, hp⟩ s := by
  obtain ⟨news, φ', N, nd, H, P⟩ := S.nw
  obtain ⟨n1, n2, rfl, H1, H2⟩ := All2.split H
  have p : ((n1 ++ n2) ++ φ').Perm (n2 ++ (n1 ++ φ')) := by
    rw [← List.append_assoc]
    exact List.Perm.append_right φ' List.perm_append_comm
  refine ⟨n1, H1, S.ok, S.fr, ⟨n2, n1 ++ φ', fun q hq => N q (p.mem_iff.mpr hq), (p.map _).nodup_iff.mp nd, H2, (PR.refl n1).append P⟩, S.rest, fun l hl e he => ?_⟩
  obtain ⟨k, L, hf, hL⟩ := S.frm l hl e he
  refine ⟨k, L, hf, hL.imp id fun ⟨o, es, n, hm, hd⟩ => ⟨o, es, n, List.mem_append_right _ hm, hd⟩⟩
theorem ER.after : ∀ {n1 n1' : List (Addr × Obj)} {fr : List (Addr × AObj)}, All2 ER n1 fr → All2 PR n1' n1 → All2 ER n1' fr
  | _, _, _, .nil, h => by cases h; exact .nil
  | _, _, _, .cons r h, k => by
    cases k with
    | cons r' k => exact .cons ⟨r'.1.trans r.1, by rw [r'.2.data r.2.nodict]; exact r.2⟩ (ER.after h k)
theorem Sat.outFrame {φ n1 : List (Addr × Obj)} {st : St} {fr : List (Addr × AObj)} {s : Shared} (H1 : All2 ER n1 fr) (S : Sat c (n1 ++ φ) st s) : Sat c φ ⟨st.loc, fr ++ st.hp⟩ s := by
  obtain ⟨n2, ψ, N, nd, H2, P⟩ := S.nw
  obtain ⟨n1', φ', rfl, P1, P2⟩ := P.split
  have p : (n2 ++ (n1' ++ φ')).Perm ((n1' ++ n2) ++ φ') := by
    rw [← List.append_assoc]
    exact List.Perm.append_right φ' List.perm_append_comm
  refine ⟨S.ok, S.fr, ⟨n1' ++ n2, φ', fun q hq => N q (p.mem_iff.mpr hq), (p.map _).nodup_iff.mp nd, (ER.after H1 P1).append H2, P2⟩, S.rest, fun l hl e he => ?_⟩
  obtain ⟨k, L, hf, hL⟩ := S.frm l hl e he
  refine ⟨k, L, hf, hL.imp id fun ⟨o, es, n, hm, hd⟩ => ?_⟩
  rcases List.mem_append.mp hm with hm | hm
  · obtain ⟨i, hi⟩ := List.mem_iff_getElem?.mp hm
    obtain ⟨q, _, r⟩ := All2.getL (R := ER) H1 hi
    exact absurd hd (r.2.nodict es n)
  · exact ⟨o, es, n, hm, hd⟩
theorem TR.frame {t : Sem α} {loc : Loc} {fr hp : List (Addr × AObj)} {Q Q' : β → St → Prop} (h : TR c t R ⟨loc, hp⟩ Q) (k : ∀ b st', Q b st' → Q' b ⟨st'.loc, fr ++ st'.hp⟩) : TR c t R ⟨loc, fr ++ hp⟩ Q' := fun φ s S => by
  obtain ⟨n1, H1, S'⟩ := S.inFrame
  exact wpN_post (h _ s S') fun a s' ⟨b, st', r, S'', q⟩ => ⟨b, _, r, S''.outFrame H1, k _ _ q⟩
end

section
variable {c : Fc} {st : St}
theorem TR.releaseEnd {vs ks : List Value} {Q : Unit → St → Prop} (q : Q () st) : TR c (PySem.release vs ks) UR st Q := fun φ s S => by
  unfold PySem.release
  generalize (vs.filter fun | .ref _ => true | _ => false) = l
  induction l with
  | nil => exact wpN_pure ⟨(), st, trivial, S, q⟩
  | cons a r' ih =>
    cases r' with
    | nil => exact wpN_pure ⟨(), st, trivial, S, q⟩
    | cons b r'' => exact wpN_bind (wpN_holding (wpN_point ih))
/-! ### stores -/
noncomputable def SN (c : Fc) (x : Str) (v : V) (st : St) (Q : St → Prop) : Prop := ∀ val, VR val v → TR c (storeName c.env x val) UR st (fun _ st' => Q st')
theorem sn_local {x : Str} {v : V} {Q : St → Prop} (hk : c.env.kindOf x = some .local) (q : Q ⟨(x, v) :: st.loc, st.hp⟩) : SN c x v st Q := fun val r => TR.leaf fun φ s S => by
  obtain ⟨m, F, hl⟩ := S.fr
  have hp : (c.env.scope.kind == .class || (c.env.scope.kind == .module && c.env.locals != c.env.globals)) = false := by rw [S.ok.kind]; rfl
  refine wpAny_storeName_local hk F.ns (fun h' hn hs => ⟨(), _, trivial, S.store r hs fun m' hm' => ?_, q⟩) hp
  have : m' = m := funext fun y => hm'.agree F.ns y
  rw [this]; exact hn
theorem sn_cell {x : Str} {v : V} {a : Addr} {old : Option V} {pre post : List (Addr × AObj)} {Q : St → Prop} (hk : c.env.kindOf x = some .cell) (hc : c.env.cells.lookup x = some a) (hp : st.hp = pre ++ (a, .cell old) :: post)
    (q : Q ⟨st.loc, pre ++ (a, .cell (some v)) :: post⟩) : SN c x v st Q := fun val r => TR.leaf fun φ s S => by
  obtain ⟨o, ho, hor⟩ := S.at (a := a) (ao := .cell old) (by rw [hp]; simp)
  have hd : ∃ v₀, o.data = .cell v₀ := by
    cases old with
    | none => exact ⟨_, hor⟩
    | some y => obtain ⟨v₀, e, _⟩ := hor; exact ⟨_, e⟩
  obtain ⟨v₀, hd⟩ := hd
  refine wpAny_storeName_cell S.ok.kind hk hc ⟨o, ho, hd⟩ fun h' hv hs => ?_
  obtain ⟨o', ho', hd'⟩ := hv
  exact ⟨(), _, trivial, S.set (ao' := .cell (some v)) (tk := s.toks) hp hs.extBut ho' ⟨val, hd', r⟩, q⟩
theorem bind_tr {x : Str} {v : V} {val : Value} {Q : St → Prop} (r : VR val v) (h : SN c x v st Q) : TR c (bindName c.env x val) UR st (fun _ st' => Q st') := by
  unfold bindName
  refine TR.hpoint (TR.bind (TR.mono (h val r) fun _ st' q _ _ => ?_))
  intro φ s S
  exact wpN_point ⟨(), st', trivial, S, q⟩
theorem assignName_tr {x : Str} {pos : Pos} {v : V} {val : Value} {Q : St → Prop} (r : VR val v) (h : SN c x v st Q) : TR c (assign (.Name x pos) c.env val) UR st (fun _ st' => Q st') :=
  TR.stand (bind_tr r h)

/-! ### statements -/
variable {Q : AFlow → St → Prop}
theorem ex_nil (q : Q .next st) : EX c [] st Q := TR.pure .next q
theorem ex_cons {s : Stmt} {ss : List Stmt} (h : ES c s st fun f st1 => match f with | .next => EX c ss st1 Q | f => Q f st1) : EX c (s :: ss) st Q :=
  TR.bind (TR.mono h fun f st1 h1 fv r => by
    cases r with
    | next => exact h1
    | brk => exact TR.pure .brk h1
    | cont => exact TR.pure .cont h1
    | ret rv => exact TR.pure (.ret rv) h1)
theorem es_assign {x : Str} {px : Pos} {e : PySem.Expr} {pos : Pos} (h : EV c e st fun v st1 => SN c x v st1 fun st2 => Q .next st2) (hs : swapsWithSole [.Name x px] e pos.line c.env = pure false) : ES c (.Assign [.Name x px] e pos) st Q := by
  show TR c (standAt pos >>= fun _ => swapsWithSole [.Name x px] e pos.line c.env >>= _) FRel st Q
  refine TR.stand ?_
  rw [hs]
  refine TR.bind (TR.pure (R := fun (x y : Bool) => x = y) rfl ?_)
  intro a ea
  subst ea
  refine TR.bind (TR.mono h fun v st1 h1 val r => ?_)
  show TR c (swappedStores [.Name x px] e c.env >>= fun sw => assignStores c.env val sw [assign (.Name x px) c.env]) FRel st1 Q
  have hsw : swappedStores [.Name x px] e c.env = pure none := rfl
  rw [hsw]
  refine TR.bind (TR.pure (R := fun (x y : Option (List Str)) => x = y) rfl ?_)
  intro a ea
  subst ea
  exact TR.bind (TR.mono (assignName_tr r h1) fun _ st2 q _ _ => TR.pure .next q)
theorem es_expr {e : PySem.Expr} {pos : Pos} (h : EV c e st fun v st1 => v = .none ∧ Q .next st1) (hi : interactive c.env = false) (hs : swapsWith e none pos.line c.env = pure false) : ES c (.Expr e pos) st Q := by
  show TR c (standAt pos >>= fun _ => if interactive c.env then printExpr (eval e c.env) else _) FRel st Q
  refine TR.stand ?_
  rw [hi, if_neg Bool.false_ne_true]
  rw [hs]
  refine TR.bind (TR.pure (R := fun (x y : Bool) => x = y) rfl ?_)
  intro a ea
  subst ea
  refine TR.bind (TR.mono h fun v st1 h1 val r => ?_)
  obtain ⟨rfl, q⟩ := h1
  cases r
  unfold dropValue
  cases e <;> exact TR.pure .next q
theorem es_return {e : PySem.Expr} {pos : Pos} (h : EV c e st fun v st1 => Q (.ret v) st1) : ES c (.Return (some e) pos) st Q :=
  TR.stand (TR.bind (TR.mono h fun v st1 q val r => TR.pure (.ret r) q))
theorem es_if {t : PySem.Expr} {b o : List Stmt} {pos : Pos} (h : EB c t st fun k st1 => if k then EX c b st1 Q else EX c o st1 Q) : ES c (.If t b o pos) st Q :=
  TR.stand (TR.bind (TR.mono h fun k st1 h1 k' e => by subst e; cases k' <;> exact h1))
theorem es_aug {x : Str} {np pos : Pos} {op : Operator} {e : PySem.Expr} (h : EV c (.Name x np) st fun a st1 => EV c e st1 fun b st2 => IO c op a b st2 fun v st3 => SN c x v st3 fun st4 => Q .next st4) (hd : (x == ("__debug__" : Str)) = false) :
    ES c (.AugAssign (.Name x np) op e pos) st Q := by
  have h0 : TR c (standAt np >>= fun _ => loadName c.env x) VR st fun a st1 => EV c e st1 fun b st2 => IO c op a b st2 fun v st3 => SN c x v st3 fun st4 => Q .next st4 := by
    have := h
    unfold EV at this
    rw [arm_eval_Name, hd] at this
    exact this
  show TR c (standAt np >>= fun _ => loadName c.env x >>= _) FRel st Q
  have e1 : (standAt np >>= fun _ => loadName c.env x >>= fun old => (do let v ← holding [old] (eval e c.env); standAt pos; let new ← operate [old, v] (inplaceOp op old v); standAt np; bindName c.env x new; pure Flow.next)) =
      ((standAt np >>= fun _ => loadName c.env x) >>= fun old => (do let v ← holding [old] (eval e c.env); standAt pos; let new ← operate [old, v] (inplaceOp op old v); standAt np; bindName c.env x new; pure Flow.next)) := rfl
  rw [e1]
  refine TR.bind (TR.mono h0 fun a st1 h1 av ra => ?_)
  refine TR.bind (TR.holding (TR.mono h1 fun b st2 h2 bv rb => TR.stand (TR.bind (TR.operate (TR.mono (h2 av bv ra rb) fun v st3 h3 vv rv => TR.stand (TR.bind (TR.mono (bind_tr rv h3) fun _ st4 q _ _ => TR.pure .next q)))))))
/-- a store into an item -/
noncomputable def SI (c : Fc) (o i v : V) (st : St) (Q : St → Prop) : Prop := ∀ ov iv vv, VR ov o → VR iv i → VR vv v → TR c (setItem ov iv vv) UR st (fun _ st' => Q st')
noncomputable def GI (c : Fc) (o i : V) (st : St) (Q : V → St → Prop) : Prop := ∀ ov iv, VR ov o → VR iv i → TR c (getItem ov iv) VR st Q
theorem es_setitem {o i e : PySem.Expr} {sp pos : Pos} (h : EV c e st fun v st1 => EV c o st1 fun ov st2 => EV c i st2 fun iv st3 => SI c ov iv v st3 fun st4 => Q .next st4)
    (hs : swapsWithSole [.Subscript o i sp] e pos.line c.env = pure false) : ES c (.Assign [.Subscript o i sp] e pos) st Q := by
  show TR c (standAt pos >>= fun _ => swapsWithSole [.Subscript o i sp] e pos.line c.env >>= _) FRel st Q
  refine TR.stand ?_
  rw [hs]
  refine TR.bind (TR.pure (R := fun (x y : Bool) => x = y) rfl ?_)
  intro a ea
  subst ea
  refine TR.bind (TR.mono h fun v st1 h1 val r => ?_)
  show TR c (swappedStores [.Subscript o i sp] e c.env >>= fun sw => assignStores c.env val sw [assign (.Subscript o i sp) c.env]) FRel st1 Q
  have hsw : swappedStores [.Subscript o i sp] e c.env = pure none := rfl
  rw [hsw]
  refine TR.bind (TR.pure (R := fun (x y : Option (List Str)) => x = y) rfl ?_)
  intro a ea
  subst ea
  refine TR.bind (R := UR) (β := Unit) ?_
  refine TR.bind (TR.holding (TR.mono h1 fun ov st2 h2 ovv ro => TR.bind (TR.holding (TR.mono h2 fun iv st3 h3 ivv ri => TR.stand (TR.bind (TR.holding (TR.mono (h3 ovv ivv val ro ri r) fun _ st4 q _ _ => ?_)))))))
  exact TR.releaseEnd fun _ _ => TR.pure .next q
theorem es_augitem {o i e : PySem.Expr} {sp pos : Pos} {op : Operator} (h : EV c o st fun ov st1 => EV c i st1 fun iv st2 => GI c ov iv st2 fun a st3 => EV c e st3 fun b st4 => IO c op a b st4 fun v st5 => SI c ov iv v st5 fun st6 => Q .next st6)
    (hi : ∀ ov iv new, augStore i ov iv new = (do holding [new, ov, iv] (setItem ov iv new); release [new, ov, iv] []; pure .next) := by intro _ _ _; rfl) : ES c (.AugAssign (.Subscript o i sp) op e pos) st Q := by
  refine TR.stand (TR.bind (TR.mono h fun ov st1 h1 ovv ro => TR.bind (TR.holding (TR.mono h1 fun iv st2 h2 ivv ri => ?_))))
  refine TR.bind (TR.holding (TR.stand (TR.bind (TR.mono (h2 ovv ivv ro ri) fun a st3 h3 av ra => TR.bind (TR.holding (TR.mono h3 fun b st4 h4 bv rb => TR.stand (TR.operate (TR.mono (h4 av bv ra rb) fun v st5 h5 vv rv => TR.stand ?_))))))))
  rw [hi]
  exact TR.bind (TR.holding (TR.mono (h5 ovv ivv vv ro ri rv) fun _ st6 q _ _ => TR.release (TR.pure .next q)))
/-! ### while -/
theorem under_while {A : Around} {t : PySem.Expr} {b o : List Stmt} {env : Env} : A.under (.whileLoop t b o env) = A := Around.under_of_weight rfl rfl
theorem es_while {t : PySem.Expr} {b o : List Stmt} {pos : Pos} (I : Nat → St → Prop)
    (turn : ∀ n st, I n st → EB c t st fun k st1 => if k then EX c b st1 (fun f st2 => match f with | .next | .cont => ∃ m, m < n ∧ I m st2 | .brk => Q .next st2 | .ret v => Q (.ret v) st2) else EX c o st1 Q)
    (n : Nat) (h : I n st) : ES c (.While t b o pos) st Q := by
  refine TR.stand fun φ s S => wpN_runOwn ?_ rfl
  refine codeN_loop (I := fun n s => ∃ st, I n st ∧ Sat c φ st s) rfl rfl (fun n s ⟨st, hI, S⟩ => ?_) n ⟨st, h, S⟩
  rw [under_while]
  show wpN _ _ ((whileTurn t b o c.env).onRaise _) _ _ s
  refine wpN_onRaise (wpN_mono (E := fun _ _ => False) ?_ (fun _ _ x => x) fun _ _ x => x.elim)
  unfold whileTurn
  refine wpN_bind (wpN_post (turn n st hI φ s S) ?_)
  rintro k' s1 ⟨k, st1, rfl, S1, h1⟩
  cases k' with
  | false =>
    rw [if_neg Bool.false_ne_true] at h1 ⊢
    refine wpN_bind (wpN_post (h1 φ s1 S1) ?_)
    rintro f s2 ⟨f', st2, r, S2, q⟩
    exact wpN_pure ⟨f', st2, r, S2, q⟩
  | true =>
    rw [if_pos rfl] at h1 ⊢
    refine wpN_bind (wpN_post (h1 φ s1 S1) ?_)
    rintro f s2 ⟨f', st2, r, S2, q⟩
    cases r with
    | next => obtain ⟨m, hm, hI'⟩ := q; exact wpN_pure (.inl ⟨rfl, m, hm, st2, hI', S2⟩)
    | cont => obtain ⟨m, hm, hI'⟩ := q; exact wpN_pure (.inl ⟨rfl, m, hm, st2, hI', S2⟩)
    | brk => exact wpN_pure ⟨_, st2, .next, S2, q⟩
    | ret rv => exact wpN_pure ⟨_, st2, .ret rv, S2, q⟩
/-! ### iterators, for -/
inductive OptR : Option Value → Option V → Prop
  | none : OptR none none
  | some {v x} : VR v x → OptR (some v) (some x)
structure Iter (c : Fc) (it : Addr) (ia : Nat → AObj) (items : List V) (Src : List (Addr × AObj) → Prop) : Prop where
  nxt : ∀ i v loc hp, items[i]? = some v → Src hp → TR c (pyNext (.ref it)) OptR ⟨loc, (it, ia i) :: hp⟩ (fun o st' => o = some v ∧ st' = ⟨loc, (it, ia (i + 1)) :: hp⟩)
  fin : ∀ loc hp, Src hp → TR c (pyNext (.ref it)) OptR ⟨loc, (it, ia items.length) :: hp⟩ (fun o st' => o = none ∧ st' = ⟨loc, hp⟩)
  self : ∀ i loc hp, Src hp → TR c (pyIter (.ref it)) VR ⟨loc, (it, ia i) :: hp⟩ (fun v st' => v = .ref it ∧ st' = ⟨loc, (it, ia i) :: hp⟩)
theorem under_for {A : Around} {t : PySem.Expr} {it : Value} {b o : List Stmt} {env : Env} : A.under (.forLoop t it b o env) = A := Around.under_of_weight rfl rfl
theorem under_block {A : Around} {o : List Stmt} {env : Env} : A.under (.block o env) = A := Around.under_of_weight rfl rfl
theorem for_core {x : Str} {px : Pos} {body : List Stmt} {it : Addr} {ia : Nat → AObj} {items : List V} {Src : List (Addr × AObj) → Prop} (W : Iter c it ia items Src) (I : Nat → St → Prop) (hsrc : ∀ i st, I i st → Src st.hp)
    (turn : ∀ i v st, items[i]? = some v → I i st → SN c x v st fun st1 => EX c body st1 fun f st2 => match f with | .next | .cont => I (i + 1) st2 | .brk => False | .ret v => Q (.ret v) st2)
    (hret : ∀ v loc hp e, Q (.ret v) ⟨loc, hp⟩ → Q (.ret v) ⟨loc, e :: hp⟩)
    (done : ∀ st, I items.length st → Q .next st) {φ : List (Addr × Obj)} {s : Shared} (S : Sat c φ ⟨st.loc, (it, ia 0) :: st.hp⟩ s) (h0 : I 0 st) :
    codeN c.M c.A (.forLoop (.Name x px) (.ref it) body [] c.env) (fun r s' => match r with | .ok f => ∃ b st', FRel f b ∧ Sat c φ st' s' ∧ Q b st' | .error _ => False) s := by
  refine codeN_loop (I := fun n s => ∃ i st, n = items.length + 1 - i ∧ i ≤ items.length ∧ I i st ∧ Sat c φ ⟨st.loc, (it, ia i) :: st.hp⟩ s) rfl rfl ?_ (items.length + 1) ⟨0, st, by omega, by omega, h0, S⟩
  intro n s hcp2
  refine cps fun Pcp kcp => ?_
  obtain ⟨i, st, rfl, hi, hI, S⟩ := hcp2
  refine kcp ?_
  clear kcp Pcp
  rw [under_for]
  show wpN _ _ ((forTurn (.Name x px) (.ref it) body [] c.env).onRaise _) _ _ s
  refine wpN_onRaise (wpN_mono (E := fun _ _ => False) ?_ (fun _ _ x => x) fun _ _ x => x.elim)
  unfold forTurn
  refine wpN_bind (wpN_standAt (wpN_bind (wpN_onRaise ?_)))
  by_cases hlt : i < items.length
  · have hv : items[i]? = some items[i] := by simp [hlt]
    refine wpN_mono (W.nxt i _ st.loc st.hp hv (hsrc i st hI) φ s S) ?_ fun _ _ x => x.elim
    intro o s1 hcp2
    refine cps fun Pcp kcp => ?_
    obtain ⟨o', st1, r, S1, rfl, rfl⟩ := hcp2
    refine kcp ?_
    clear kcp Pcp
    cases r with
    | some r =>
      rename_i v
      refine wpN_bind (wpN_pure (wpN_bind ?_))
      have ha := TR.frame (fr := [(it, ia (i + 1))]) (Q' := fun (_ : Unit) st1' => ∃ st', st1' = ⟨st'.loc, (it, ia (i + 1)) :: st'.hp⟩ ∧ EX c body st' fun f st2 => match f with | .next | .cont => I (i + 1) st2 | .brk => False | .ret v => Q (.ret v) st2)
        (assignName_tr (pos := px) r (turn i _ st hv hI)) (fun _ st' q => ⟨st', rfl, q⟩)
      refine wpN_post (ha φ s1 S1) ?_
      intro _ s2 hcp2
      refine cps fun Pcp kcp => ?_
      obtain ⟨_, _, _, S2, st', rfl, hb⟩ := hcp2
      refine kcp ?_
      clear kcp Pcp
      have hb := TR.frame (fr := [(it, ia (i + 1))]) (Q' := fun f st2 => match f with | .next | .cont => ∃ st3, st2 = ⟨st3.loc, (it, ia (i + 1)) :: st3.hp⟩ ∧ I (i + 1) st3 | .brk => False | .ret v => Q (.ret v) st2) hb (fun f st2 q => by
        cases f with
        | next => exact ⟨st2, rfl, q⟩
        | cont => exact ⟨st2, rfl, q⟩
        | brk => exact q
        | ret v => exact hret v _ _ _ q)
      refine wpN_bind (wpN_post (hb φ s2 S2) ?_)
      intro f s3 hcp2
      refine cps fun Pcp kcp => ?_
      obtain ⟨f', st2, rf, S3, q⟩ := hcp2
      refine kcp ?_
      clear kcp Pcp
      cases rf with
      | next => obtain ⟨st3, rfl, hI'⟩ := q; exact wpN_pure (.inl ⟨rfl, _, by omega, i + 1, st3, rfl, by omega, hI', S3⟩)
      | cont => obtain ⟨st3, rfl, hI'⟩ := q; exact wpN_pure (.inl ⟨rfl, _, by omega, i + 1, st3, rfl, by omega, hI', S3⟩)
      | brk => exact q.elim
      | ret rv => exact wpN_pure ⟨_, st2, .ret rv, S3, q⟩
  · have hin : i = items.length := by omega
    subst hin
    refine wpN_mono (W.fin st.loc st.hp (hsrc _ st hI) φ s S) ?_ fun _ _ x => x.elim
    intro o s1 hcp2
    refine cps fun Pcp kcp => ?_
    obtain ⟨o', st1, r, S1, rfl, rfl⟩ := hcp2
    refine kcp ?_
    clear kcp Pcp
    cases r
    refine wpN_pure (.inr ⟨⟨rfl, rfl⟩, codeN_of_tree ?_⟩)
    rw [under_block]
    show wpN _ _ (do return Fin.done (← (execs [] c.env).onRaise _)) _ _ s1
    exact wpN_bind (wpN_onRaise (wpN_pure (wpN_pure ⟨.next, _, .next, S1, done st hI⟩)))
theorem es_for {x : Str} {px pos : Pos} {e : PySem.Expr} {body : List Stmt}
    (h : EV c e st fun v st1 => ∀ val, VR val v → TR c (pyIter val) VR st1 fun itv st2 => ∃ (it : Addr) (ia : Nat → AObj) (items : List V) (Src : List (Addr × AObj) → Prop) (I : Nat → St → Prop) (st0 : St), itv = .ref it ∧ st2 = ⟨st0.loc, (it, ia 0) :: st0.hp⟩ ∧ Iter c it ia items Src ∧ I 0 st0 ∧ (∀ i st, I i st → Src st.hp) ∧
      (∀ i v st, items[i]? = some v → I i st → SN c x v st fun st1 => EX c body st1 fun f st2 => match f with | .next | .cont => I (i + 1) st2 | .brk => False | .ret v => Q (.ret v) st2) ∧ (∀ st, I items.length st → Q .next st))
    (hret : ∀ v loc hp e, Q (.ret v) ⟨loc, hp⟩ → Q (.ret v) ⟨loc, e :: hp⟩)
    (hs : ∀ x, foldedSetIterable e c.env x = pure x := by intro _; rfl) : ES c (.For (.Name x px) e body [] pos) st Q := by
  refine TR.stand (TR.bind (TR.mono h fun v st1 h1 val r => ?_))
  rw [hs]
  refine TR.bind (TR.pure (R := fun (x y : Value) => x = y) rfl ?_)
  intro a ea
  subst ea
  refine TR.stand (TR.bind (TR.holding (TR.mono (h1 _ r) fun itv st2 h2 itval rit => ?_)))
  obtain ⟨it, ia, items, Src, I, st0, rfl, rfl, W, h0, hsrc, turn, done⟩ := h2
  cases rit
  exact fun φ s S => wpN_runOwn (for_core W I hsrc turn hret done S h0) rfl
end
end Mine

set_option maxRecDepth 100000
set_option Elab.async false
set_option linter.unusedVariables false
namespace Mine
open PySem PySem.W PyProof.Rows PySem.Calls

structure SubOk (env' : Env) (A' : Around) (r : Nat) (hd : Bool) : Prop where
  glob : env'.globals = mainGlobals
  blt : env'.builtins = builtinsNs
  kind : env'.scope.kind = .function
  hand : hd = false → A'.handled = none
  hdr : hd = true → r = 0
  depth : A'.depth + r ≤ 400
  units : A'.units + 10 * r ≤ 1000

theorem Sat.dropFrame {c : Fc} {φ : List (Addr × Obj)} {st : St} {s : Shared} {C : Addr} {oC : Obj} (S : Sat c ((C, oC) :: φ) st s) (hfr : FrOk c φ) {h' : Heap} {tk : Tok} (hs : Heap.ExtBut C s.heap h') : Sat c φ st { s with heap := h', toks := tk } := by
  obtain ⟨m, F, hl⟩ := S.fr
  obtain ⟨news, ψ, N, nd, H, P⟩ := S.nw
  obtain ⟨hh, t, e⟩ := S.rest
  cases P with
  | cons r P =>
    rename_i x φ'
    obtain ⟨C', oC'⟩ := x
    obtain rfl : C' = C := r.1
    have hm : (C', oC') ∈ news ++ (C', oC') :: φ' := by simp
    have hL : c.env.locals ≠ C' := fun q => (N _ hm).2.1 q.symm
    have h0 : ∀ b o, c.h₀.get? b = some o → b ≠ C' := fun b o e q => by have := (N _ hm).2.2; rw [q] at e; rw [this] at e; cases e
    have nd' : ((C', oC') :: (news ++ φ')).map (·.1) |>.Nodup := (List.Perm.map _ List.perm_middle).nodup_iff.mp nd
    rw [List.map_cons, List.nodup_cons] at nd'
    refine ⟨S.ok, ⟨m, ⟨F.ns.extBut hs hL, fun b o e => hs b o (h0 b o e) (F.keep b o e), F.above⟩, hl⟩, ⟨news, φ', fun q hq => ?_, nd'.2, H, P⟩, ⟨h', tk, by rw [e]⟩, hfr⟩
    have hq' : q ∈ news ++ (C', oC') :: φ' := by
      simp only [List.mem_append, List.mem_cons] at hq ⊢
      rcases hq with h | h
      · exact .inl h
      · exact .inr (.inr h)
    exact ⟨hs _ _ (fun e => nd'.1 (List.mem_map.mpr ⟨q, hq, e⟩)) (N q hq').1, (N q hq').2⟩
theorem FR.ns {o o' : Obj} {h h' : Heap} {a : Addr} {m : Str → Option Value} (r : FR o o') (ho : h.get? a = some o) (ho' : h'.get? a = some o') (n : h.Ns a m) : h'.Ns a m := by
  obtain ⟨oL, es, ep, hL, hLd, hLk, hLf⟩ := n
  rw [ho] at hL
  obtain rfl := Option.some.inj hL
  rcases r with rfl | ⟨_, _, sl, _, rfl⟩
  · exact ⟨_, es, ep, ho', hLd, hLk, hLf⟩
  · exact ⟨_, es, ep, ho', hLd, hLk, hLf⟩

theorem Sat.sub {c : Fc} {φ : List (Addr × Obj)} {st : St} {s : Shared} (S : Sat c φ st s) : ∃ (g : Heap) (oL : Obj),
    (∀ env' A' r hd cls, SubOk env' A' r hd → env'.locals = s.heap.objs.size → (∀ l, A'.frames = some l → ∃ l', c.A.frames = some l' ∧ ∀ e ∈ l, e ∈ l' ∨ (e.scope.kind ≠ .module ∧ e.frame = some env'.locals)) →
      Sat ⟨c.g, A', env', g, c.s₀, r, hd⟩ ((c.env.locals, oL) :: φ) ⟨[], st.hp⟩ { s with heap := s.heap.push { cls := cls, data := .dict #[] } }) ∧
    (∀ c' st' s', c'.h₀ = g → c'.s₀ = c.s₀ → Sat c' ((c.env.locals, oL) :: φ) st' s' → ∃ oC m, s'.heap.get? c'.env.locals = some oC ∧ s'.heap.Ns c'.env.locals m ∧ Sat c ((c'.env.locals, oC) :: φ) ⟨st.loc, st'.hp⟩ s') := by
  refine cps fun Pcp kcp => ?_
  obtain ⟨m, F, hl⟩ := S.fr
  refine kcp ?_
  clear kcp Pcp
  refine cps fun Pcp kcp => ?_
  obtain ⟨news, φ', N, nd, H, P⟩ := S.nw
  refine kcp ?_
  clear kcp Pcp
  refine cps fun Pcp kcp => ?_
  obtain ⟨hh, t, e⟩ := S.rest
  refine kcp ?_
  clear kcp Pcp
  refine cps fun Pcp kcp => ?_
  obtain ⟨oL, es, ep, hL, hLd, hLk, hLf⟩ := id F.ns
  refine kcp ?_
  clear kcp Pcp
  have nL : c.env.locals ∉ (news ++ φ').map (·.1) := fun q => by
    refine cps fun Pcp kcp => ?_
    obtain ⟨p, hp, e⟩ := List.mem_map.mp q
    refine kcp ?_
    clear kcp Pcp
    exact (N p hp).2.1 e
  have nm : ∀ b o, c.h₀.get? b = some o → b ∉ c.env.locals :: (news ++ φ').map (·.1) := fun b o e q => by
    rcases List.mem_cons.mp q with rfl | q
    · exact absurd (Heap.lt_size e) (Nat.not_lt.mpr F.above)
    · refine cps fun Pcp kcp => ?_
      obtain ⟨p, hp, rfl⟩ := List.mem_map.mp q
      refine kcp ?_
      clear kcp Pcp
      rw [(N p hp).2.2] at e; cases e
  have st0 : ∀ b o, c.h₀.get? b = some o → (hideAll s.heap (c.env.locals :: (news ++ φ').map (·.1))).get? b = some o := fun b o e => hideAll_get _ (F.keep b o e) (nm b o e)
  refine ⟨hideAll s.heap (c.env.locals :: (news ++ φ').map (·.1)), oL, ?_, ?_⟩
  · intro env' A' r hd cls ok hloc hfr
    have nd2 : ((news ++ (c.env.locals, oL) :: φ').map (·.1)).Nodup := by
      refine ((List.Perm.map _ List.perm_middle).nodup_iff).mpr ?_
      rw [List.map_cons, List.nodup_cons]
      exact ⟨nL, nd⟩
    refine ⟨⟨S.ok.top.keeps st0, S.ok.kin.keeps st0, ok.glob, ok.blt, ok.kind, ok.hand, ok.hdr, ok.depth, ok.units⟩, ⟨fun _ => none, ⟨?_, fun b o e => Heap.get?_push_of_some _ (of_hideAll _ e), ?_⟩, fun x v h => by simp at h⟩, ⟨news, (c.env.locals, oL) :: φ', ?_, nd2, H, .cons ⟨rfl, .refl _⟩ P⟩, ⟨_, _, by rw [e]⟩, ?_⟩
    · show Heap.Ns _ env'.locals _
      rw [hloc]; exact Heap.Ns.new _ _
    · show _ ≤ env'.locals
      rw [hloc]; exact Nat.le_of_eq (hideAll_size _ _)
    · intro p hp
      have hp' : p = (c.env.locals, oL) ∨ p ∈ news ++ φ' := by
        simp only [List.mem_append, List.mem_cons] at hp ⊢
        rcases hp with h | h | h
        · exact .inr (.inl h)
        · exact .inl h
        · exact .inr (.inr h)
      have hg : s.heap.get? p.1 = some p.2 := by
        rcases hp' with rfl | hp'
        · exact hL
        · exact (N p hp').1
      refine ⟨Heap.get?_push_of_some _ hg, ?_, hideAll_none _ ?_⟩
      · show p.1 ≠ env'.locals
        rw [hloc]; exact Nat.ne_of_lt (Heap.lt_size hg)
      · rcases hp' with rfl | hp'
        · exact .head _
        · exact .tail _ (List.mem_map_of_mem hp')
    · intro l hl e he
      refine cps fun Pcp kcp => ?_
      obtain ⟨l', hl', hin⟩ := hfr l hl
      refine kcp ?_
      clear kcp Pcp
      rcases hin e he with h | ⟨k, hf⟩
      · refine cps fun Pcp kcp => ?_
        obtain ⟨k, L, hf, hL'⟩ := S.frm l' hl' e h
        refine kcp ?_
        clear kcp Pcp
        refine ⟨k, L, hf, .inr ?_⟩
        rcases hL' with rfl | ⟨o, es', n', hm, hd⟩
        · exact ⟨oL, es, _, .head _, hLd⟩
        · exact ⟨o, es', n', .tail _ hm, hd⟩
      · exact ⟨k, _, hf, .inl rfl⟩
  · intro c' st' s' hg hs S'
    refine cps fun Pcp kcp => ?_
    obtain ⟨m', F', hl'⟩ := S'.fr
    refine kcp ?_
    clear kcp Pcp
    refine cps fun Pcp kcp => ?_
    obtain ⟨news', ψ, N', nd', H', P'⟩ := S'.nw
    refine kcp ?_
    clear kcp Pcp
    refine cps fun Pcp kcp => ?_
    obtain ⟨hh', t', e'⟩ := S'.rest
    refine kcp ?_
    clear kcp Pcp
    cases P' with
    | cons r P' =>
      rename_i x φ''
      obtain ⟨L', oL'⟩ := x
      obtain rfl : L' = c.env.locals := r.1
      rw [hg] at F' N'
      refine cps fun Pcp kcp => ?_
      obtain ⟨oC, esC, epC, hC, rC⟩ := id F'.ns
      refine kcp ?_
      clear kcp Pcp
      have gC : (hideAll s.heap (c.env.locals :: (news ++ φ').map (·.1))).get? c'.env.locals = none := by
        cases q : (hideAll s.heap (c.env.locals :: (news ++ φ').map (·.1))).get? c'.env.locals with
        | none => rfl
        | some o => exact absurd (Nat.lt_of_lt_of_le (Heap.lt_size q) F'.above) (Nat.lt_irrefl _)
      have cond : ∀ a, a ≠ c.env.locals → (hideAll s.heap (c.env.locals :: (news ++ φ').map (·.1))).get? a = none → c.h₀.get? a = none := fun a _ ha => by
        cases q : c.h₀.get? a with
        | none => rfl
        | some o => rw [st0 _ _ q] at ha; cases ha
      have hmL : (c.env.locals, oL') ∈ news' ++ (c.env.locals, oL') :: φ'' := by simp
      have nC : c'.env.locals ≠ c.env.locals := fun q => (N' _ hmL).2.1 q.symm
      have nd2 : ((c.env.locals, oL') :: (news' ++ φ'')).map (·.1) |>.Nodup := (List.Perm.map _ List.perm_middle).nodup_iff.mp nd'
      rw [List.map_cons, List.nodup_cons] at nd2
      have nsL : s'.heap.Ns c.env.locals m := r.2.ns hL (N' _ hmL).1 F.ns
      refine ⟨oC, m', hC, F'.ns, S.ok, ⟨m, ⟨nsL, fun b o e => F'.keep _ _ (st0 b o e), F.above⟩, hl⟩, ⟨news', (c'.env.locals, oC) :: φ'', fun p hp => ?_, ?_, H', .cons ⟨rfl, .refl _⟩ P'⟩, ⟨hh', t', by rw [e', hs]⟩, fun l hl e he => ?_⟩
      · have hp' : p = (c'.env.locals, oC) ∨ p ∈ news' ++ φ'' := by
          simp only [List.mem_append, List.mem_cons] at hp ⊢
          rcases hp with h | h | h
          · exact .inr (.inl h)
          · exact .inl h
          · exact .inr (.inr h)
        rcases hp' with rfl | hp'
        · exact ⟨hC, nC, cond _ nC gC⟩
        · have hin : p ∈ news' ++ (c.env.locals, oL') :: φ'' := by
            simp only [List.mem_append, List.mem_cons] at hp' ⊢
            rcases hp' with h | h
            · exact .inl h
            · exact .inr (.inr h)
          have ne : p.1 ≠ c.env.locals := fun q => nd2.1 (List.mem_map.mpr ⟨p, hp', q⟩)
          exact ⟨(N' p hin).1, ne, cond _ ne (N' p hin).2.2⟩
      · refine ((List.Perm.map _ List.perm_middle).nodup_iff).mpr ?_
        rw [List.map_cons, List.nodup_cons]
        refine ⟨fun hm => ?_, nd2.2⟩
        refine cps fun Pcp kcp => ?_
        obtain ⟨p, hp, e⟩ := List.mem_map.mp hm
        refine kcp ?_
        clear kcp Pcp
        have hin : p ∈ news' ++ (c.env.locals, oL') :: φ'' := by
          simp only [List.mem_append, List.mem_cons] at hp ⊢
          rcases hp with h | h
          · exact .inl h
          · exact .inr (.inr h)
        exact (N' p hin).2.1 e
      · refine cps fun Pcp kcp => ?_
        obtain ⟨k, L, hf, hL'⟩ := S.frm l hl e he
        refine kcp ?_
        clear kcp Pcp
        exact ⟨k, L, hf, hL'.imp id fun ⟨o, es, n, hm, hd⟩ => ⟨o, es, n, .tail _ hm, hd⟩⟩
theorem Sat.unFrame {c : Fc} {φ : List (Addr × Obj)} {st : St} {s : Shared} {C : Addr} {oC : Obj} (S : Sat c ((C, oC) :: φ) st s) (hfr : FrOk c φ) : Sat c φ st s := S.dropFrame hfr (h' := s.heap) (tk := s.toks) fun _ _ _ e => e

noncomputable def cellEntries (n : Nat) : List (Str × NameKind) → List (Addr × AObj) → List (Addr × AObj)
  | [], acc => acc
  | (_, kind) :: r, acc => if kind == .cell then cellEntries (n + 1) r ((n, .cell none) :: acc) else cellEntries n r acc
theorem Sat.cells {c : Fc} {φ : List (Addr × Obj)} : ∀ (names : List (Str × NameKind)) {st : St} {s : Shared}, Sat c φ st s → Sat c φ ⟨st.loc, cellEntries s.heap.objs.size names st.hp⟩ { s with heap := pushCells s.heap names }
  | [], st, s, S => S
  | (n, kind) :: r, st, s, S => by
    unfold cellEntries pushCells
    split
    · have S1 := S.alloc (o := { cls := .type "cell", data := .cell none }) (ao := .cell none) rfl rfl
      have := Sat.cells r S1
      rw [show ({ s with heap := s.heap.push { cls := .type "cell", data := .cell none } } : Shared).heap.objs.size = s.heap.objs.size + 1 from Heap.size_push ..] at this
      exact this
    · exact Sat.cells r S
noncomputable def BI (c : Fc) : List (Str × V) → St → (St → Prop) → Prop
  | [], st, Q => Q st
  | (x, v) :: r, st, Q => SN c x v st fun st' => BI c r st' Q
theorem Sat.reA {c : Fc} {φ : List (Addr × Obj)} {st : St} {s : Shared} (S : Sat c φ st s) {A' : Around} {r : Nat} {hd : Bool} (ok : SubOk c.env A' r hd) (hfr : ∀ l, A'.frames = some l → ∃ l', c.A.frames = some l' ∧ ∀ e ∈ l, e ∈ l' ∨ (e.scope.kind ≠ .module ∧ e.frame = some c.env.locals)) : Sat ⟨c.g, A', c.env, c.h₀, c.s₀, r, hd⟩ φ st s :=
  ⟨⟨S.ok.top, S.ok.kin, ok.glob, ok.blt, ok.kind, ok.hand, ok.hdr, ok.depth, ok.units⟩, S.fr, S.nw, S.rest, fun l hl e he => by
    obtain ⟨l', hl', hin⟩ := hfr l hl
    rcases hin e he with h | ⟨k, hf⟩
    · exact S.frm l' hl' e h
    · exact ⟨k, _, hf, .inl rfl⟩⟩
theorem frames_same {A : Around} {L : Addr} : ∀ l, A.frames = some l → ∃ l', A.frames = some l' ∧ ∀ e ∈ l, e ∈ l' ∨ (e.scope.kind ≠ .module ∧ e.frame = some L) := fun l hl => ⟨l, hl, fun e he => .inl he⟩
theorem frames_deep {A : Around} {env : Env} (hk : env.scope.kind = .function) (hf : env.frame = some env.locals) : ∀ l, (A.deeper env).frames = some l → ∃ l', A.in1.frames = some l' ∧ ∀ e ∈ l, e ∈ l' ∨ (e.scope.kind ≠ .module ∧ e.frame = some env.locals) := fun l hl => by
  have hl : A.frames.map (env :: ·) = some l := hl
  cases q : A.frames with
  | none => rw [q] at hl; cases hl
  | some l' =>
    rw [q] at hl
    obtain rfl : env :: l' = l := Option.some.inj hl
    refine ⟨l', rfl, fun e he => ?_⟩
    rcases List.mem_cons.mp he with rfl | he
    · exact .inr ⟨by rw [hk]; decide, hf⟩
    · exact .inl he
theorem binds_wp {c : Fc} {φ : List (Addr × Obj)} (f : Str × Value → PUnit → Sem (ForInStep PUnit)) (hf : ∀ n v u, f (n, v) u = (do storeName c.env n v; pure (.yield ⟨⟩))) {binds : List (Str × Value)} {ab : List (Str × V)} {Q : St → Prop}
    (rb : All2 (fun p q => p.1 = q.1 ∧ VR p.2 q.2) binds ab) : ∀ {st : St} {s : Shared}, BI c ab st Q → Sat c φ st s → wpN c.M c.A (forIn binds ⟨⟩ f) (fun _ s' => ∃ st', Sat c φ st' s' ∧ Q st') (fun _ _ => False) s := by
  induction rb with
  | nil => intro st s h S; rw [List.forIn_nil]; exact wpN_pure ⟨st, S, h⟩
  | cons r H ih =>
    rename_i a b l m
    intro st s h S
    obtain ⟨n, v⟩ := a
    obtain ⟨n', v'⟩ := b
    obtain ⟨e, rv⟩ := r
    obtain rfl : n = n' := e
    rw [List.forIn_cons, hf]
    refine wpN_bind (wpN_bind (wpN_post (h v rv φ s S) ?_))
    rintro _ s1 ⟨_, st1, _, S1, q⟩
    exact wpN_pure (ih q S1)
theorem bi_locals {c : Fc} : ∀ {ab : List (Str × V)} {st : St} {Q : St → Prop}, (∀ y ∈ ab, c.env.kindOf y.1 = some .local) → Q ⟨ab.reverse ++ st.loc, st.hp⟩ → BI c ab st Q
  | [], st, Q, _, q => q
  | (x, v) :: r, st, Q, h, q => sn_local (h (x, v) (.head _)) (bi_locals (fun y hy => h y (.tail _ hy)) (by simpa using q))

theorem newEnv_wp {c : Fc} {φ : List (Addr × Obj)} {st : St} {s : Shared} (S : Sat c φ st s) {scope : Scope} {closure : List (Str × Addr)} {binds : List (Str × Value)} {ab : List (Str × V)} {qual : Str} {func : Option Addr} {code : Value} {around : Option Env} {A : Around}
    {r : Nat} {hd : Bool} {Q : Addr → Heap → St → Prop}
    (ok : ∀ L cl, SubOk (newEnv scope L mainGlobals cl qual func code around builtinsNs) A r hd) (hfr : A.frames = c.A.frames)
    (rb : All2 (fun p q => p.1 = q.1 ∧ VR p.2 q.2) binds ab)
    (hb : ∀ L g A, BI ⟨c.g, A, newEnv scope L mainGlobals (cellsFrom (L + 1) scope.names closure) qual func code around builtinsNs, g, c.s₀, r, hd⟩ ab ⟨[], cellEntries (L + 1) scope.names st.hp⟩ (Q L g)) :
    wpN c.M A (newFunctionEnv scope mainGlobals closure binds qual func code around builtinsNs) (fun env s' => ∃ L g st' ψ, env = newEnv scope L mainGlobals (cellsFrom (L + 1) scope.names closure) qual func code around builtinsNs ∧
      Sat ⟨c.g, A, env, g, c.s₀, r, hd⟩ ψ st' s' ∧ Q L g st' ∧ (∀ c' st' s', c'.h₀ = g → c'.s₀ = c.s₀ → Sat c' ψ st' s' → ∃ oC m, s'.heap.get? c'.env.locals = some oC ∧ s'.heap.Ns c'.env.locals m ∧ Sat c ((c'.env.locals, oC) :: φ) ⟨st.loc, st'.hp⟩ s')) (fun _ _ => False) s := by
  obtain ⟨g, oL, hin, hout⟩ := S.sub
  have hloc : ∀ L cl, (newEnv scope L mainGlobals cl qual func code around builtinsNs).locals = L := fun L cl => by cases around <;> rfl
  have S1 := hin _ A r hd (.type (if around.isSome then "dict" else "frame")) (ok s.heap.objs.size (cellsFrom (s.heap.objs.size + 1) scope.names closure)) (hloc _ _) (by rw [hfr]; exact frames_same)
  have S2 := Sat.cells scope.names S1
  rw [show ({ s with heap := s.heap.push { cls := .type (if around.isSome then "dict" else "frame"), data := .dict #[] } } : Shared).heap.objs.size = s.heap.objs.size + 1 from Heap.size_push ..] at S2
  have fin : ∀ (f : Str × Value → PUnit → Sem (ForInStep PUnit)), (∀ n v u, f (n, v) u = (do storeName (newEnv scope s.heap.objs.size mainGlobals (cellsFrom (s.heap.objs.size + 1) scope.names closure) qual func code around builtinsNs) n v; pure (.yield ⟨⟩))) →
      wpN c.M A (forIn binds ⟨⟩ f) (fun _ s' => ∃ st', Sat ⟨c.g, A, newEnv scope s.heap.objs.size mainGlobals (cellsFrom (s.heap.objs.size + 1) scope.names closure) qual func code around builtinsNs, g, c.s₀, r, hd⟩ ((c.env.locals, oL) :: φ) st' s' ∧ Q s.heap.objs.size g st') (fun _ _ => False)
        { s with heap := pushCells (s.heap.push { cls := .type (if around.isSome then "dict" else "frame"), data := .dict #[] }) scope.names } := fun f hf => binds_wp f hf rb (hb _ g A) S2
  have hsz : ∀ o : Obj, ({ s with heap := s.heap.push o } : Shared).heap.objs.size = s.heap.objs.size + 1 := fun o => Heap.size_push ..
  cases around with
  | none =>
    unfold newFunctionEnv
    refine wpN_bind (lift (wpAny_alloc ?_))
    refine wpN_bind (lift (wpAny_layCells _ (fun name kind cells => by cases hkc : kind == NameKind.cell <;> simp [hkc]) _ _ _ _ ?_))
    rw [hsz]
    refine wpN_bind (wpN_post (fin _ fun _ _ _ => rfl) ?_)
    rintro _ s' ⟨st', S', q⟩
    exact wpN_pure ⟨_, g, st', _, rfl, S', q, hout⟩
  | some outer =>
    unfold newFunctionEnv
    refine wpN_bind (lift (wpAny_alloc ?_))
    refine wpN_bind (lift (wpAny_layCells _ (fun name kind cells => by cases hkc : kind == NameKind.cell <;> simp [hkc]) _ _ _ _ ?_))
    rw [hsz]
    refine wpN_bind (wpN_post (fin _ fun _ _ _ => rfl) ?_)
    rintro _ s' ⟨st', S', q⟩
    exact wpN_pure ⟨_, g, st', _, rfl, S', q, hout⟩

section
variable {prog : Program} {w : World} {A : Around} {R : Result → Shared → Prop} {s : Shared}
theorem codeN_func {body : List Stmt} {env : Env} (h : wpN (model prog w) (A.deeper env) (execs body env) (fun f s' => R (.ok (.ret (match f with | .ret v => v | _ => .none))) s') (fun _ _ => False) s) : codeN (model prog w) A (.func body env) R s := by
  refine codeN_of_tree ?_
  show wpN _ (A.deeper env) (do point; match ← (execs body env).onRaise (leaving env) with | .ret v => ret v | _ => ret .none) _ _ s
  refine wpN_bind (wpN_point (wpN_bind (wpN_onRaise (wpN_mono h (fun f s' h' => ?_) fun _ _ h' => h'.elim))))
  cases f <;> exact wpN_pure h'
theorem codeN_expr {e : PySem.Expr} {env : Env} (h : wpN (model prog w) (A.deeper env) (eval e env) (fun v s' => R (.ok (.ret v)) s') (fun _ _ => False) s) : codeN (model prog w) A (.expr e env) R s := by
  refine codeN_of_tree ?_
  show wpN _ (A.deeper env) (do point; ret (← (eval e env).onRaise (leaving env))) _ _ s
  exact wpN_bind (wpN_point (wpN_bind (wpN_onRaise (wpN_mono h (fun v s' h' => wpN_pure h') fun _ _ h' => h'.elim))))
theorem codeN_callFn {a : Addr} {args : Args} {o : Obj} {fd : FuncData} {body : List Stmt} (hroom : A.depth < recursionLimit) (ho : s.heap.get? a = some o)
    (hd' : o.data = .func fd) (hco : fd.scope.isCoroutine = false) (hgen : fd.scope.isGenerator = false) (hbody : fd.body = .stmts body) (hcd : s.heap.CodeRec fd.code fd.qualname)
    (h : wpN (model prog w) A.in1 (bindArgs fd args) (fun binds s₁ =>
      wpN (model prog w) A.in1 (newFunctionEnv fd.scope fd.globals fd.closure binds (fd.qualname ++ ".<locals>.") (some a) fd.code none fd.builtins)
        (fun env s₂ => s₂.heap.NoLimit ∧ codeN (model prog w) A (.func body env) R s₂) (fun e s' => R (.error e) s') s₁) (fun e s' => R (.error e) s') s) :
    codeN (model prog w) A (.call (.ref a) args) R s := by
  refine codeN_of_tree ?_
  show wpN _ A.in1 (callAny (.ref a) args) _ _ s
  simp only [callAny]
  refine wpN_bind (lift (wpAny_load ho ?_))
  refine cps fun Pcp kcp => ?_
  obtain ⟨c, oc, vs, tq, hc, hoc, hdc, hq⟩ := hcd
  refine kcp ?_
  clear kcp Pcp
  simp only [hd', callFunction, hco, hgen, hbody, hc]
  rw [hc] at h
  refine wpN_bind (m := field (.ref c) 1) (lift (wpAny_field hoc hdc hq (wpN_bind (wpN_pure ?_))))
  exact wpN_bind (wpN_mono h (fun binds s₁ h₁ => wpN_bind (wpN_mono h₁ (fun env s₂ h₂ => wpN_bind (lift (wpAny_enterFrame h₂.1 hroom
    (wpN_pure (And.intro ⟨rfl, rfl⟩ h₂.2))))) fun _ _ h' => h')) fun _ _ h' => h')
theorem codeN_callFnE {a : Addr} {args : Args} {o : Obj} {fd : FuncData} {body : PySem.Expr} (hroom : A.depth < recursionLimit) (ho : s.heap.get? a = some o)
    (hd' : o.data = .func fd) (hco : fd.scope.isCoroutine = false) (hgen : fd.scope.isGenerator = false) (hbody : fd.body = .expr body) (hcd : s.heap.CodeRec fd.code fd.qualname)
    (h : wpN (model prog w) A.in1 (bindArgs fd args) (fun binds s₁ =>
      wpN (model prog w) A.in1 (newFunctionEnv fd.scope fd.globals fd.closure binds (fd.qualname ++ ".<locals>.") (some a) fd.code none fd.builtins)
        (fun env s₂ => s₂.heap.NoLimit ∧ codeN (model prog w) A (.expr body env) R s₂) (fun e s' => R (.error e) s') s₁) (fun e s' => R (.error e) s') s) :
    codeN (model prog w) A (.call (.ref a) args) R s := by
  refine codeN_of_tree ?_
  show wpN _ A.in1 (callAny (.ref a) args) _ _ s
  simp only [callAny]
  refine wpN_bind (lift (wpAny_load ho ?_))
  obtain ⟨c, oc, vs, tq, hc, hoc, hdc, hq⟩ := hcd
  simp only [hd', callFunction, hco, hgen, hbody, hc]
  rw [hc] at h
  refine wpN_bind (m := field (.ref c) 1) (lift (wpAny_field hoc hdc hq (wpN_bind (wpN_pure ?_))))
  exact wpN_bind (wpN_mono h (fun binds s₁ h₁ => wpN_bind (wpN_mono h₁ (fun env s₂ h₂ => wpN_bind (lift (wpAny_enterFrame h₂.1 hroom
    (wpN_pure (And.intro ⟨rfl, rfl⟩ h₂.2))))) fun _ _ h' => h')) fun _ _ h' => h')
end

noncomputable def retOf : AFlow → V
  | .ret v => v
  | _ => .none
/-- arguments bound -/
noncomputable def BN (K : Frag) (fd : FuncData) (as : List V) (kn : List Str) (ks : List V) (ab : List (Str × V)) : Prop :=
  ∀ s : Shared, K.In s.heap → ∀ vs kvs, All2 VR vs as → All2 VR kvs ks → ∃ binds, BindsTo s fd ⟨vs, kn.zip kvs⟩ binds ∧ All2 (fun p q => p.1 = q.1 ∧ VR p.2 q.2) binds ab
theorem FcOk.sub {c : Fc} (ok : FcOk c) {env : Env} (h1 : env.globals = mainGlobals) (h2 : env.builtins = builtinsNs) (h3 : env.scope.kind = .function) (hr : 0 < c.room) : SubOk env c.A.in1 (c.room - 1) false ∧ SubOk env (c.A.deeper env) (c.room - 1) false := by
  have d := ok.depth
  have u := ok.units
  have hh : c.A.handled = none := ok.hand (by cases q : c.hd with | false => rfl | true => have := ok.hdr q; omega)
  refine ⟨⟨h1, h2, h3, fun _ => hh, fun q => by (cases q), ?_, ?_⟩, ⟨h1, h2, h3, fun _ => hh, fun q => by (cases q), ?_, ?_⟩⟩
  · show c.A.depth + (c.room - 1) ≤ 400; omega
  · show c.A.units + 1 + 10 * (c.room - 1) ≤ 1000; omega
  · show c.A.depth + 1 + (c.room - 1) ≤ 400; omega
  · show c.A.units + 3 + 10 * (c.room - 1) ≤ 1000; omega
theorem ca_def {c : Fc} {st : St} {Q : V → St → Prop} {f : Addr} {oc : Value} {od : Option Addr} {osl : Array (Option Value)} {name qual : Str} {params : Arguments} {body : List Stmt} {scope : Scope} {dV kV doc pm cdv ct : Value} {an : Option Addr}
    {as : List V} {kn : List Str} {ks : List V} {ab : List (Str × V)}
    (hK : c.g.K.lookup f = some ⟨oc, od, .func (fnX name qual params body scope [] dV kV doc pm an cdv ct), osl⟩) (hcd : codeIn c.g.K cdv qual = true) (hroom : 0 < c.room)
    (hb : BN c.g.K (fnX name qual params body scope [] dV kV doc pm an cdv ct) as kn ks ab)
    (h : ∀ L g A, BI ⟨c.g, A, envX qual scope L f cdv (cellsFrom (L + 1) scope.names []), g, c.s₀, c.room - 1, false⟩ ab ⟨[], cellEntries (L + 1) scope.names st.hp⟩ fun st1 => ∀ A', A'.frames = c.A.frames.map (envX qual scope L f cdv (cellsFrom (L + 1) scope.names []) :: ·) →
      EX ⟨c.g, A', envX qual scope L f cdv (cellsFrom (L + 1) scope.names []), g, c.s₀, c.room - 1, false⟩ body st1 fun fl st2 => Q (retOf fl) ⟨st.loc, st2.hp⟩)
    (hco : scope.isCoroutine = false) (hgen : scope.isGenerator = false) (hk : scope.kind = .function) : CA c (.ref f) as kn ks st Q := by
  intro fv vs kvs rf r1 r2 φ s S
  cases rf
  obtain ⟨binds, hbind, rb⟩ := hb s S.kin vs kvs r1 r2
  refine wpN_call (codeN_callFn (fd := fnX name qual params body scope [] dV kV doc pm an cdv ct) ?_ (S.kin _ _ hK) rfl hco hgen rfl (codeRec_of S.kin hcd) (lift (hbind _ _ _ _ ?_)))
  · have := S.ok.depth; have : c.A.depth < 1000 := by omega
    exact this
  have ok := fun L cl => S.ok.sub (env := newEnv scope L mainGlobals cl (qual ++ ".<locals>.") (some f) cdv none builtinsNs) rfl rfl hk hroom
  refine wpN_mono (newEnv_wp S (A := c.A.in1) (r := c.room - 1) (hd := false) (scope := scope) (closure := []) (qual := qual ++ ".<locals>.") (func := some f) (code := cdv) (around := none)
    (Q := fun L g st1 => ∀ A', A'.frames = c.A.frames.map (envX qual scope L f cdv (cellsFrom (L + 1) scope.names []) :: ·) → EX ⟨c.g, A', envX qual scope L f cdv (cellsFrom (L + 1) scope.names []), g, c.s₀, c.room - 1, false⟩ body st1 fun fl st2 => Q (retOf fl) ⟨st.loc, st2.hp⟩) (fun L cl => (ok L cl).1) rfl rb h) ?_ fun _ _ x => x.elim
  rintro env s1 ⟨L, g, st1, ψ, rfl, S1, hx, hout⟩
  refine ⟨S1.top.nolimit, codeN_func (wpN_mono (hx (c.A.deeper _) rfl ψ s1 (S1.reA (ok L _).2 (frames_deep hk rfl))) ?_ fun _ _ x => x.elim)⟩
  rintro fl s2 ⟨fl', st2, rfl', S2, q⟩
  obtain ⟨_, _, _, _, hS⟩ := hout _ _ _ (by rfl) (by rfl) S2
  replace hS := hS.unFrame S.frm
  cases rfl' with
  | ret rv => exact ⟨_, _, rv, hS, q⟩
  | next => exact ⟨_, _, .none, hS, q⟩
  | brk => exact ⟨_, _, .none, hS, q⟩
  | cont => exact ⟨_, _, .none, hS, q⟩
/-- a lambda called -/
theorem ca_lam {c : Fc} {st : St} {Q : V → St → Prop} {f c' : Addr} {name qual : Str} {params : Arguments} {body : PySem.Expr} {scope : Scope} {cl : List (Str × Addr)} {as : List V} {ab : List (Str × V)}
    (hm : (f, AObj.lam name qual params body scope cl c') ∈ st.hp) (hcd : (c', AObj.code qual) ∈ st.hp) (hroom : 0 < c.room)
    (hb : ∀ pm ctv vs, All2 VR vs as → ∃ binds, bindArgs (kla_fn name qual params body scope cl pm (.ref c') ctv) ⟨vs, []⟩ = pure binds ∧ All2 (fun p q => p.1 = q.1 ∧ VR p.2 q.2) binds ab)
    (h : ∀ L g A, BI ⟨c.g, A, envX qual scope L f (.ref c') (cellsFrom (L + 1) scope.names cl), g, c.s₀, c.room - 1, false⟩ ab ⟨[], cellEntries (L + 1) scope.names st.hp⟩ fun st1 => ∀ A',
      EV ⟨c.g, A', envX qual scope L f (.ref c') (cellsFrom (L + 1) scope.names cl), g, c.s₀, c.room - 1, false⟩ body st1 fun v st2 => Q v ⟨st.loc, st2.hp⟩)
    (hco : scope.isCoroutine = false) (hgen : scope.isGenerator = false) (hk : scope.kind = .function) : CA c (.ref f) as [] [] st Q := by
  intro fv vs kvs rf r1 r2 φ s S
  cases rf
  cases r2
  obtain ⟨o, ho, pm, ctv, rfl⟩ := S.at hm
  obtain ⟨oc, hoc, vsc, tq, hdc, hq⟩ := S.at hcd
  obtain ⟨binds, hbind, rb⟩ := hb pm ctv vs r1
  refine wpN_call (codeN_callFnE (fd := kla_fn name qual params body scope cl pm (.ref c') ctv) ?_ ho rfl hco hgen rfl ⟨c', oc, vsc, tq, rfl, hoc, hdc, hq⟩ ?_)
  · have := S.ok.depth; have : c.A.depth < 1000 := by omega
    exact this
  show wpN _ _ (bindArgs _ ⟨vs, []⟩) _ _ s
  rw [hbind]
  refine wpN_pure ?_
  have ok := fun L cl => S.ok.sub (env := newEnv scope L mainGlobals cl (qual ++ ".<locals>.") (some f) (.ref c') none builtinsNs) rfl rfl hk hroom
  refine wpN_mono (newEnv_wp S (A := c.A.in1) (r := c.room - 1) (hd := false) (scope := scope) (closure := cl) (qual := qual ++ ".<locals>.") (func := some f) (code := .ref c') (around := none)
    (Q := fun L g st1 => ∀ A', EV ⟨c.g, A', envX qual scope L f (.ref c') (cellsFrom (L + 1) scope.names cl), g, c.s₀, c.room - 1, false⟩ body st1 fun v st2 => Q v ⟨st.loc, st2.hp⟩) (fun L cl => (ok L cl).1) rfl rb h) ?_ fun _ _ x => x.elim
  rintro env s1 ⟨L, g, st1, ψ, rfl, S1, hx, hout⟩
  refine ⟨S1.top.nolimit, codeN_expr (wpN_mono (hx (c.A.deeper _) ψ s1 (S1.reA (ok L _).2 (frames_deep hk rfl))) ?_ fun _ _ x => x.elim)⟩
  rintro v s2 ⟨v', st2, rv, S2, q⟩
  obtain ⟨_, _, _, _, hS⟩ := hout _ _ _ (by rfl) (by rfl) S2
  exact ⟨_, _, rv, hS.unFrame S.frm, q⟩
end Mine

set_option maxRecDepth 100000
set_option Elab.async false
set_option linter.unusedVariables false
namespace Mine
open PySem PySem.W PyProof.Rows PySem.Calls

section
variable {c : Fc} {st : St} {Q : V → St → Prop}
theorem append_tr {pre post : List (Addr × AObj)} {a : Addr} {vs : List V} {x : Value} {v : V} (hp : st.hp = pre ++ (a, .list vs) :: post) (r : VR x v) (hsz : vs.length ≤ 16777216) (q : Q .none ⟨st.loc, pre ++ (a, .list (vs ++ [v])) :: post⟩) :
    TR c (call (.builtin "list.append") [.ref a, x]) VR st Q := TR.leaf fun φ s S => by
  obtain ⟨its, n, ho, H, _⟩ := S.list (a := a) (vs := vs) (by rw [hp]; simp)
  refine append_at (its := its) (n := n) ho (fun h' hs ho' => ⟨_, _, .none, S.set (tk := s.toks) (ao' := .list (vs ++ [v])) hp hs.extBut ho' ⟨_, _, rfl, ?_⟩, q⟩) ?_
  · simpa using H.append (.cons r .nil)
  · rw [sizeLine_eq]; have := H.length; simp at this; omega
theorem newList_tr {vs : List Value} {as : List V} (r : All2 VR vs as) (hsz : as.length ≤ 16777216) (q : ∀ a, Q (.ref a) ⟨st.loc, (a, .list as) :: st.hp⟩) : TR c (newList vs) VR st Q := TR.leaf fun φ s S =>
  wpAny_newObj_type ⟨_, _, .ref _, S.alloc (o := listOf vs.toArray 0) (ao := .list as) rfl ⟨_, _, rfl, by simpa using r⟩, q _⟩ (by
    show vs.toArray.size ≤ sizeLine
    rw [List.size_toArray, sizeLine_eq, r.length]; exact hsz)
theorem ev_list {es : List PySem.Expr} {pos : Pos} (h : EL c pos es st fun as st1 => as.length ≤ 16777216 ∧ ∀ a, Q (.ref a) ⟨st1.loc, (a, .list as) :: st1.hp⟩) : EV c (.List es pos) st Q :=
  TR.stand (TR.bind (TR.mono h fun as st1 h1 vs r => newList_tr r h1.1 h1.2))
end


/-! ## comprehensions -/
noncomputable def TE (c : Fc) (ifs : List PySem.Expr) (st : St) (Q : Bool → St → Prop) : Prop :=
  TR c (forIn ifs true fun t r => if r = true then do let ok ← PySem.isTrue t c.env (eval t c.env); pure (ForInStep.yield ok) else pure (ForInStep.yield r)) Eq st Q
theorem te_nil {c : Fc} {st : St} {Q : Bool → St → Prop} (q : Q true st) : TE c [] st Q := TR.pure rfl q
theorem te_one {c : Fc} {t : PySem.Expr} {st : St} {Q : Bool → St → Prop} (h : EB c t st Q) : TE c [t] st Q := by
  unfold TE
  rw [List.forIn_cons]
  simp only [if_true]
  refine TR.bind (TR.bind (TR.mono h fun k st1 q k' e => TR.pure (R := fun (x y : ForInStep Bool) => x = y) rfl ?_))
  intro a ea
  subst ea
  exact TR.pure e q
theorem under_comp {A : Around} {elt : PySem.Expr} {gs : List Comprehension} {scope : Scope} {pos : Pos} {n : Nat} {it acc : Value} {env : Env} : A.under (.compLoop (.ListComp elt gs scope pos) n it acc env) = A := Around.under_of_weight rfl rfl
theorem under_compS {A : Around} {elt : PySem.Expr} {gs : List Comprehension} {scope : Scope} {pos : Pos} {n : Nat} {it acc : Value} {env : Env} : A.under (.compStart (.ListComp elt gs scope pos) n it acc env) = A := Around.under_of_weight rfl rfl
theorem comp_loop {c : Fc} {x : Str} {px pos : Pos} {elt iter : PySem.Expr} {ifs : List PySem.Expr} {scope : Scope} {it D : Addr} {ia : Nat → AObj} {items : List V} {Src : List (Addr × AObj) → Prop} (W : Iter c it ia items Src)
    (I : Nat → List V → List (Addr × AObj) → Prop) (hsrc : ∀ i ys hp, I i ys hp → Src hp) (hlen : items.length ≤ 16777216)
    (turn : ∀ i v ys loc hp, items[i]? = some v → I i ys hp → SN c x v ⟨loc, hp⟩ fun st1 => TE c ifs st1 fun b st2 => if b then EV c elt st2 (fun y st3 => I (i + 1) (ys ++ [y]) st3.hp) else I (i + 1) ys st2.hp)
    {φ : List (Addr × Obj)} {s : Shared} {loc : Loc} {ys : List V} {hp : List (Addr × AObj)} {i : Nat} (hi : i ≤ items.length) (hys : ys.length ≤ i) (S : Sat c φ ⟨loc, (it, ia i) :: (D, .list ys) :: hp⟩ s) (h0 : I i ys hp)
    (hsrcD : ∀ D ys hp, Src hp → Src ((D, .list ys) :: hp)) :
    codeN c.M c.A (.compLoop (.ListComp elt [⟨.Name x px, iter, ifs, 0⟩] scope pos) 0 (.ref it) (.ref D) c.env) (fun r s' => match r with | .ok f => ∃ loc ys hp, Sat c φ ⟨loc, (D, .list ys) :: hp⟩ s' ∧ I items.length ys hp | .error _ => False) s := by
  refine codeN_loop (I := fun n s => ∃ i loc ys hp, n = items.length + 1 - i ∧ i ≤ items.length ∧ ys.length ≤ i ∧ I i ys hp ∧ Sat c φ ⟨loc, (it, ia i) :: (D, .list ys) :: hp⟩ s) rfl rfl ?_ _ ⟨i, loc, ys, hp, rfl, hi, hys, h0, S⟩
  clear S h0 hi hys hp ys loc i s
  intro n s hcp2
  refine cps fun Pcp kcp => ?_
  obtain ⟨i, loc, ys, hp, rfl, hi, hys, hI, S⟩ := hcp2
  refine kcp ?_
  clear kcp Pcp
  rw [under_comp]
  show wpN _ _ ((compTurn (.ListComp elt [⟨.Name x px, iter, ifs, 0⟩] scope pos) 0 (.ref it) (.ref D) c.env).onRaise _) _ _ s
  refine wpN_onRaise (wpN_mono (E := fun _ _ => False) ?_ (fun _ _ x => x) fun _ _ x => x.elim)
  rw [compTurn_list]
  refine wpN_bind (wpN_standAt (wpN_bind ?_))
  by_cases hlt : i < items.length
  · have hv : items[i]? = some items[i] := by simp [hlt]
    refine wpN_post (W.nxt i _ loc ((D, .list ys) :: hp) hv (hsrcD _ _ _ (hsrc i ys hp hI)) φ s S) ?_
    intro o s1 hcp2
    refine cps fun Pcp kcp => ?_
    obtain ⟨o', st1, r, S1, rfl, rfl⟩ := hcp2
    refine kcp ?_
    clear kcp Pcp
    cases r with
    | some r =>
      rename_i v
      refine wpN_bind (wpN_pure (wpN_bind ?_))
      have ha := TR.frame (fr := [(it, ia (i + 1)), (D, .list ys)]) (Q' := fun (_ : Unit) st1' => ∃ st', st1' = ⟨st'.loc, (it, ia (i + 1)) :: (D, .list ys) :: st'.hp⟩ ∧ TE c ifs st' fun b st2 => if b then EV c elt st2 (fun y st3 => I (i + 1) (ys ++ [y]) st3.hp) else I (i + 1) ys st2.hp)
        (assignName_tr (pos := px) r (turn i _ ys loc hp hv hI)) (fun _ st' q => ⟨st', rfl, q⟩)
      refine wpN_post (ha φ s1 S1) ?_
      intro _ s2 hcp2
      refine cps fun Pcp kcp => ?_
      obtain ⟨_, _, _, S2, st', rfl, hb⟩ := hcp2
      refine kcp ?_
      clear kcp Pcp
      have hb := TR.frame (fr := [(it, ia (i + 1)), (D, .list ys)]) (Q' := fun b st2' => ∃ st2, st2' = ⟨st2.loc, (it, ia (i + 1)) :: (D, .list ys) :: st2.hp⟩ ∧ if b then EV c elt st2 (fun y st3 => I (i + 1) (ys ++ [y]) st3.hp) else I (i + 1) ys st2.hp)
        hb (fun b st2 q => ⟨st2, rfl, q⟩)
      refine wpN_bind (wpN_post (hb φ s2 S2) ?_)
      intro k s3 hcp2
      refine cps fun Pcp kcp => ?_
      obtain ⟨k', _, rfl, S3, st2, rfl, q⟩ := hcp2
      refine kcp ?_
      clear kcp Pcp
      cases k with
      | false =>
        rw [if_neg Bool.false_ne_true] at q
        exact wpN_pure (.inl ⟨rfl, _, by omega, i + 1, _, ys, _, rfl, by omega, by omega, q, S3⟩)
      | true =>
        rw [if_pos rfl] at q
        have hq := TR.frame (fr := [(it, ia (i + 1)), (D, .list ys)]) (Q' := fun y st3' => ∃ st3, st3' = ⟨st3.loc, (it, ia (i + 1)) :: (D, .list ys) :: st3.hp⟩ ∧ I (i + 1) (ys ++ [y]) st3.hp) q (fun b st2 q => ⟨st2, rfl, q⟩)
        refine wpN_bind (wpN_bind (wpN_post (hq φ s3 S3) ?_))
        intro y s4 hcp2
        refine cps fun Pcp kcp => ?_
        obtain ⟨y', _, ry, S4, st3, rfl, q⟩ := hcp2
        refine kcp ?_
        clear kcp Pcp
        have happ := append_tr (c := c) (st := ⟨st3.loc, (it, ia (i + 1)) :: (D, .list ys) :: st3.hp⟩) (pre := [(it, ia (i + 1))]) (post := st3.hp) (a := D) (vs := ys) (x := y) (v := y') (Q := fun _ st4 => st4 = ⟨st3.loc, (it, ia (i + 1)) :: (D, .list (ys ++ [y'])) :: st3.hp⟩) rfl ry (by omega) rfl
        refine wpN_bind (wpN_post (happ φ s4 S4) ?_)
        intro _ s5 hcp2
        refine cps fun Pcp kcp => ?_
        obtain ⟨_, _, _, S5, rfl⟩ := hcp2
        refine kcp ?_
        clear kcp Pcp
        exact wpN_pure (wpN_pure (.inl ⟨rfl, _, by omega, i + 1, _, _, _, rfl, by omega, by simp; omega, q, S5⟩))
  · have hin : i = items.length := by omega
    subst hin
    refine wpN_post (W.fin loc ((D, .list ys) :: hp) (hsrcD _ _ _ (hsrc _ ys hp hI)) φ s S) ?_
    intro o s1 hcp2
    refine cps fun Pcp kcp => ?_
    obtain ⟨o', st1, r, S1, rfl, rfl⟩ := hcp2
    refine kcp ?_
    clear kcp Pcp
    cases r
    exact wpN_pure ⟨loc, ys, hp, S1, hI⟩
theorem comp_start {c : Fc} {elt target iter : PySem.Expr} {ifs : List PySem.Expr} {rest : List Comprehension} {scope : Scope} {pos : Pos} {it : Addr} {acc : Value} {R : Result → Shared → Prop} {s : Shared}
    (h0 : codeN c.M c.A (.compLoop (.ListComp elt (⟨target, iter, ifs, 0⟩ :: rest) scope pos) 0 (.ref it) acc c.env) R s)
    (h : wpN c.M c.A (pyIter (.ref it)) (fun it' s' => codeN c.M c.A (.compLoop (.ListComp elt (⟨target, iter, ifs, 0⟩ :: rest) scope pos) 0 it' acc c.env) R s') (fun _ _ => False) s) :
    codeN c.M c.A (.compStart (.ListComp elt (⟨target, iter, ifs, 0⟩ :: rest) scope pos) 0 (.ref it) acc c.env) R s := by
  refine codeN_of_tree ?_
  rw [under_compS]
  show wpN _ _ ((compStart (.ListComp elt (⟨target, iter, ifs, 0⟩ :: rest) scope pos) 0 (.ref it) acc c.env).onRaise _) _ _ s
  refine wpN_onRaise (wpN_mono (E := fun _ _ => False) ?_ (fun _ _ x => x) fun _ _ x => x.elim)
  unfold compStart
  show wpN _ _ (ask >>= _) _ _ s
  refine wpN_bind (lift (wpAny_askSetting ?_))
  refine wpN_ite ?_
  split
  · first
      | exact wpN_bind (wpN_pure (wpN_pure (And.intro ⟨rfl, rfl⟩ h0)))
      | exact wpN_pure (And.intro ⟨rfl, rfl⟩ h0)
  · first
      | exact wpN_bind (wpN_rule (wpN_bind (wpN_standAt (wpN_bind (wpN_mono h (fun it' s' h' => wpN_pure (And.intro ⟨rfl, rfl⟩ h')) fun _ _ x => x.elim)))))
      | (refine wpN_bind (wpN_rule ?_); show wpN _ _ (standAt iter.pos >>= _) _ _ s; exact wpN_bind (wpN_standAt (wpN_bind (wpN_mono h (fun it' s' h' => wpN_pure (And.intro ⟨rfl, rfl⟩ h')) fun _ _ x => x.elim))))
end Mine

set_option maxRecDepth 100000
set_option Elab.async false
set_option linter.unusedVariables false
namespace Mine
open PySem PySem.W PyProof.Rows PySem.Calls

theorem cellEntries_append : ∀ (names : List (Str × NameKind)) (n : Nat) (acc acc' : List (Addr × AObj)), cellEntries n names (acc ++ acc') = cellEntries n names acc ++ acc'
  | [], _, _, _ => rfl
  | (x, k) :: r, n, acc, acc' => by
    unfold cellEntries
    split
    · exact cellEntries_append r (n + 1) ((n, .cell none) :: acc) acc'
    · exact cellEntries_append r n acc acc'
theorem cellEntries_nil (names : List (Str × NameKind)) (n : Nat) (acc : List (Addr × AObj)) : cellEntries n names acc = cellEntries n names [] ++ acc := cellEntries_append names n [] acc
theorem All2PR.head {ψ : List (Addr × Obj)} {q : Addr × Obj} {l : List (Addr × Obj)} (h : All2 PR ψ (q :: l)) : ∃ p ψ', ψ = p :: ψ' ∧ PR p q ∧ All2 PR ψ' l := by
  cases h with
  | cons r h => exact ⟨_, _, rfl, r, h⟩
theorem Sat.reEnv {c : Fc} {φ : List (Addr × Obj)} {st : St} {s : Shared} (S : Sat c φ st s) {env' : Env} (hl : env'.locals = c.env.locals) (ok : SubOk env' c.A c.room c.hd) : Sat ⟨c.g, c.A, env', c.h₀, c.s₀, c.room, c.hd⟩ φ st s := by
  obtain ⟨m, F, h⟩ := S.fr
  obtain ⟨news, φ', N, nd, H, P⟩ := S.nw
  refine ⟨⟨S.ok.top, S.ok.kin, ok.glob, ok.blt, ok.kind, ok.hand, ok.hdr, ok.depth, ok.units⟩, ⟨m, by show Fr _ env'.locals _ _; rw [hl]; exact F, h⟩, ⟨news, φ', by show News _ env'.locals _ _; rw [hl]; exact N, nd, H, P⟩, S.rest, fun l hl' e he => ?_⟩
  obtain ⟨k, L, hf, hL⟩ := S.frm l hl' e he
  exact ⟨k, L, hf, hL.imp (fun q => q.trans hl.symm) id⟩
noncomputable abbrev cFc (c : Fc) (scope : Scope) (cl : List (Str × Addr)) (L : Addr) (g : Heap) : Fc := ⟨c.g, c.A, compEnvC scope (cellsFrom (L + 1) scope.names cl) L c.env, g, c.s₀, c.room, c.hd⟩
noncomputable def USE (c : Fc) (use : Option (Value → Sem Unit)) (D : Addr) (st : St) (Q : V → St → Prop) : Prop := match use with
  | none => Q (.ref D) st
  | some u => TR c (u (.ref D)) UR st (fun _ st' => Q .none st')
theorem comp_tr {c : Fc} {st : St} {Q : V → St → Prop} {scope : Scope} {cl : List (Str × Addr)} {x : Str} {px pos ppos : Pos} {elt iter : PySem.Expr} {ifs : List PySem.Expr} {use : Option (Value → Sem Unit)}
    (hclos : closureFor scope c.env = pure cl) (hkind : scope.kind = .function) (hnames : ∀ y ∈ scope.names, y.2 = .local → scope.names.lookup y.1 = some .local) (hs : ∀ x, foldedSetIterable iter c.env x = pure x)
    (h : EV c iter st fun v st1 => ∀ val, VR val v → TR c (pyIter val) VR st1 fun itv st2 => ∃ (it : Addr) (ia : Nat → AObj) (items : List V) (Src : List (Addr × AObj) → Prop) (I : Addr → Nat → List V → List (Addr × AObj) → Prop) (st0 : St),
      itv = .ref it ∧ st2 = ⟨st0.loc, (it, ia 0) :: st0.hp⟩ ∧ items.length ≤ 16777216 ∧ (∀ L g, Iter (cFc c scope cl L g) it ia items Src) ∧ (∀ D ys hp, Src hp → Src ((D, .list ys) :: hp)) ∧
      (∀ L, I L 0 [] (cellEntries (L + 1) scope.names st0.hp)) ∧ (∀ L i ys hp, I L i ys hp → Src hp) ∧
      (∀ L g i v ys loc hp, items[i]? = some v → I L i ys hp → SN (cFc c scope cl L g) x v ⟨loc, hp⟩ fun st1 => TE (cFc c scope cl L g) ifs st1 fun b st2 => if b then EV (cFc c scope cl L g) elt st2 (fun y st3 => I L (i + 1) (ys ++ [y]) st3.hp) else I L (i + 1) ys st2.hp) ∧
      (∀ L D ys hp, I L items.length ys hp → USE c use D ⟨st0.loc, (D, .list ys) :: hp⟩ Q)) :
    TR c (comprehension (.ListComp elt [⟨.Name x px, iter, ifs, 0⟩] scope pos) scope c.env ppos (newList []) false (eval iter c.env) use) VR st Q := by
  unfold comprehension
  rw [hclos]
  refine TR.bind (TR.mono h fun v st1 h1 val r => TR.stand ?_)
  show TR c (foldedSetIterable iter c.env val >>= _) VR st1 Q
  rw [hs]
  refine TR.bind (TR.pure (R := fun (x y : Value) => x = y) rfl ?_)
  intro a ea
  subst ea
  refine TR.bind (TR.holding (TR.mono (h1 _ r) fun itv st2 h2 itval rit => ?_))
  refine cps fun Pcp kcp => ?_
  obtain ⟨it, ia, items, Src, I, st0, rfl, rfl, hlen, W, hsrcD, h0, hsrc, turn, done⟩ := h2
  refine kcp ?_
  clear kcp Pcp
  cases rit
  have standIf : ∀ {b : Prop} [Decidable b] {p : Pos} {k : PUnit → Sem Value}, TR c (k ()) VR ⟨st0.loc, (it, ia 0) :: st0.hp⟩ Q → TR c (if b then standAt p >>= k else k ()) VR ⟨st0.loc, (it, ia 0) :: st0.hp⟩ Q := by
    intro b _ p k hk
    split
    · exact TR.stand hk
    · exact hk
  refine standIf ?_
  refine TR.bind (newList_tr .nil (by simp) fun D => ?_)
  intro accv racc
  cases racc
  refine TR.bind (TR.pure (R := fun (x y : List (Str × Addr)) => x = y) rfl ?_)
  intro a ea
  subst ea
  intro φ s S
  rw [S.ok.glob]
  have ok0 := S.ok
  have okn : ∀ L cl, SubOk (newEnv scope L mainGlobals cl c.env.qual none .none (some c.env) builtinsNs) c.A c.room c.hd := fun L cl => ⟨rfl, ok0.blt, hkind, ok0.hand, ok0.hdr, ok0.depth, ok0.units⟩
  have okc : ∀ L cl, SubOk (compEnvC scope cl L c.env) c.A c.room c.hd := fun L cl => ⟨ok0.glob, ok0.blt, hkind, ok0.hand, ok0.hdr, ok0.depth, ok0.units⟩
  refine wpN_bind (wpN_post (newEnv_wp S (A := c.A) (r := c.room) (hd := c.hd) (scope := scope) (closure := a) (qual := c.env.qual) (func := none) (code := .none) (around := some c.env) (binds := []) (ab := [])
    (Q := fun L g st1 => st1 = ⟨[], cellEntries (L + 1) scope.names ((D, .list []) :: (it, ia 0) :: st0.hp)⟩) okn rfl .nil (fun L g A => rfl)) ?_)
  intro cenv s1 hcp2
  refine cps fun Pcp kcp => ?_
  obtain ⟨L, g, st1, ψ, rfl, S1, rfl, hout⟩ := hcp2
  refine kcp ?_
  clear kcp Pcp
  have e1 : ({ newEnv scope L mainGlobals (cellsFrom (L + 1) scope.names a) c.env.qual none .none (some c.env) builtinsNs with scope := relabel scope c.env } : Env) = compEnvC scope (cellsFrom (L + 1) scope.names a) L c.env := by
    unfold newEnv compEnvC; rw [ok0.glob]
  have S2 : Sat (cFc c scope a L g) ψ ⟨[], (it, ia 0) :: (D, .list []) :: cellEntries (L + 1) scope.names st0.hp⟩ s1 := by
    refine (S1.reEnv (env' := compEnvC scope (cellsFrom (L + 1) scope.names a) L c.env) rfl (okc _ _)).perm ?_
    rw [cellEntries_nil _ _ ((D, .list []) :: (it, ia 0) :: st0.hp), cellEntries_nil _ _ st0.hp]
    refine List.perm_middle.trans ?_
    refine (List.Perm.cons _ List.perm_middle).trans ?_
    exact List.Perm.swap _ _ _
  have loop : ∀ s1, Sat (cFc c scope a L g) ψ ⟨[], (it, ia 0) :: (D, .list []) :: cellEntries (L + 1) scope.names st0.hp⟩ s1 → _ := fun s1 S2 =>
    comp_loop (c := cFc c scope a L g) (px := px) (pos := pos) (iter := iter) (scope := scope) (W L g) (I L) (hsrc L) hlen (turn L g) (Nat.zero_le _) (Nat.le_refl _) S2 (h0 L) hsrcD
  have start := comp_start (c := cFc c scope a L g) (loop s1 S2) (wpN_post ((W L g).self 0 [] ((D, .list []) :: cellEntries (L + 1) scope.names st0.hp) (hsrcD _ _ _ (hsrc L 0 _ _ (h0 L))) ψ s1 S2) (by
    intro itv s2 hcp2
    refine cps fun Pcp kcp => ?_
    obtain ⟨_, _, r, S3, rfl, rfl⟩ := hcp2
    refine kcp ?_
    clear kcp Pcp
    cases r
    exact loop s2 S3))
  have hv : ∀ x ∈ (scope.names.filter fun x => (x.2 == .local || x.2 == .cell) && x.1 != (".0" : Str)).reverse, x.2 = .local →
      Env.kindOf ({ newEnv scope L mainGlobals (cellsFrom (L + 1) scope.names a) c.env.qual none .none (some c.env) builtinsNs with scope := relabel scope c.env } : Env) x.1 = some .local := fun x hx hl => lookup_relabel_local (hnames x (List.mem_filter.mp (List.mem_reverse.mp hx)).1 hl)
  have hv' : ∀ x ∈ (scope.names.filter fun x => (x.2 == .local || x.2 == .cell) && x.1 != (".0" : Str)).reverse.drop 1 ++ (scope.names.filter fun x => (x.2 == .local || x.2 == .cell) && x.1 != (".0" : Str)).reverse.take 1,
      x.2 = .local → Env.kindOf ({ newEnv scope L mainGlobals (cellsFrom (L + 1) scope.names a) c.env.qual none .none (some c.env) builtinsNs with scope := relabel scope c.env } : Env) x.1 = some .local := fun x hx hl => by
    rcases List.mem_append.mp hx with h1 | h1
    · exact hv x (List.mem_of_mem_drop h1) hl
    · exact hv x (List.mem_of_mem_take h1) hl
  have start2 : codeN c.M c.A (.compStart (.ListComp elt [⟨.Name x px, iter, ifs, 0⟩] scope pos) 0 (.ref it) (.ref D) ({ newEnv scope L mainGlobals (cellsFrom (L + 1) scope.names a) c.env.qual none .none (some c.env) builtinsNs with scope := relabel scope c.env } : Env))
      (fun r s' => match r with | .ok f => ∃ loc ys hp, Sat (cFc c scope a L g) ψ ⟨loc, (D, .list ys) :: hp⟩ s' ∧ I L items.length ys hp | .error _ => False) s1 := by rw [e1]; exact start
  dsimp only
  refine wpN_holding (wpN_bind (wpN_attempt (wpN_holding (wpN_run (h := none) (A := c.A) (codeN_mono (A := c.A) start2 ?_) rfl))))
  intro r s2 hr
  cases r with
  | error e => exact hr.elim
  | ok f =>
    refine cps fun Pcp kcp => ?_
    obtain ⟨loc, ys, hp, S3, hI⟩ := hr
    refine kcp ?_
    clear kcp Pcp
    refine cps fun Pcp kcp => ?_
    obtain ⟨oC, m, hC, hn, S4⟩ := hout (cFc c scope a L g) _ _ rfl rfl S3
    refine kcp ?_
    clear kcp Pcp
    have hd := done L D ys hp hI
    cases use with
    | none =>
      refine wpN_bind (wpN_holding (lift (wpAny_comp_letGo (cenv := ({ newEnv scope L mainGlobals (cellsFrom (L + 1) scope.names a) c.env.qual none .none (some c.env) builtinsNs with scope := relabel scope c.env } : Env)) hkind _ s2 m hv hn fun h' m' _ hs' => ?_)))
      exact wpN_pure ⟨_, _, .ref D, S4.dropFrame S.frm (tk := s2.toks) hs'.extBut, hd⟩
    | some u =>
      refine wpN_bind (wpN_rule (wpN_bind (wpN_holding (wpN_post (hd _ s2 S4) ?_))))
      intro _ s3 hcp2
      refine cps fun Pcp kcp => ?_
      obtain ⟨_, st5, _, S5, q⟩ := hcp2
      refine kcp ?_
      clear kcp Pcp
      refine cps fun Pcp kcp => ?_
      obtain ⟨news5, φ5, N5, _, _, P5⟩ := S5.nw
      refine kcp ?_
      clear kcp Pcp
      have hn5 : s3.heap.Ns L m := by
        refine cps fun Pcp kcp => ?_
        obtain ⟨p, ψ5, rfl, r, _⟩ := All2PR.head P5
        refine kcp ?_
        clear kcp Pcp
        have h1 := (N5 p (List.mem_append_right _ (.head _))).1
        rw [show p.1 = L from r.1] at h1
        exact r.2.ns hC h1 hn
      refine wpN_bind (lift (wpAny_comp_letGo (cenv := ({ newEnv scope L mainGlobals (cellsFrom (L + 1) scope.names a) c.env.qual none .none (some c.env) builtinsNs with scope := relabel scope c.env } : Env)) hkind _ s3 m hv' hn5 fun h' m' _ hs' => ?_))
      exact wpN_pure ⟨_, _, .none, S5.dropFrame S.frm (tk := s3.toks) hs'.extBut, q⟩
theorem ev_comp {c : Fc} {st : St} {Q : V → St → Prop} {elt : PySem.Expr} {gs : List Comprehension} {scope : Scope} {pos : Pos}
    (h : TR c (comprehension (.ListComp elt gs scope pos) scope c.env (firstIterPos gs pos) (newList []) (firstAsync gs) (firstIter gs c.env) none) VR st Q) : EV c (.ListComp elt gs scope pos) st Q := h
theorem es_assignComp {c : Fc} {st : St} {Q : AFlow → St → Prop} {elt : PySem.Expr} {gs : List Comprehension} {scope : Scope} {pos spos py : Pos} {y : Str}
    (hsw : swapsWith (.ListComp elt gs scope pos) (some (.Name y py)) spos.line c.env = pure true)
    (h : TR c (comprehension (.ListComp elt gs scope pos) scope c.env (firstIterPos gs pos) (newList []) (firstAsync gs) (firstIter gs c.env) (some (assign (.Name y py) c.env))) VR st (fun _ st' => Q .next st')) :
    ES c (.Assign [.Name y py] (.ListComp elt gs scope pos) spos) st Q := by
  unfold ES
  rw [exec_Assign_Name_used _ _ _ _ hsw]
  refine TR.stand (TR.bind (R := UR) (β := Unit) ?_)
  refine TR.bind (TR.mono h fun v st1 q val r => TR.pure (b := ()) trivial fun _ _ => TR.pure .next q)
end Mine

set_option maxRecDepth 100000
set_option Elab.async false
set_option linter.unusedVariables false
namespace Mine
open PySem PySem.W PyProof.Rows PySem.Calls

theorem Sat.lib {c : Fc} {φ : List (Addr × Obj)} {st : St} {s : Shared} (S : Sat c φ st s) : ∃ m news, Fr c.h₀ c.env.locals s.heap m ∧ News c.h₀ c.env.locals s.heap news ∧
    (∀ h' tk D o ao, s.heap.objs.size ≤ D ∨ (∀ p ∈ news, p.1 < D) → Fr c.h₀ c.env.locals h' m → News c.h₀ c.env.locals h' ((D, o) :: news) → OR o ao → Sat c φ ⟨st.loc, (D, ao) :: st.hp⟩ { s with heap := h', toks := tk }) ∧
    (∀ h' tk, Fr c.h₀ c.env.locals h' m → News c.h₀ c.env.locals h' news → Sat c φ st { s with heap := h', toks := tk }) := by
  obtain ⟨m, F, hl⟩ := S.fr
  obtain ⟨news, φ', N, nd, H, P⟩ := S.nw
  obtain ⟨hh, t, e⟩ := S.rest
  refine ⟨m, news ++ φ', F, N, fun h' tk D o ao hD F' N' r => ⟨S.ok, ⟨m, F', hl⟩, ⟨(D, o) :: news, φ', N', ?_, .cons ⟨rfl, r⟩ H, P⟩, ⟨h', tk, by rw [e]⟩, S.frm⟩, fun h' tk F' N' => ⟨S.ok, ⟨m, F', hl⟩, ⟨news, φ', N', nd, H, P⟩, ⟨h', tk, by rw [e]⟩, S.frm⟩⟩
  simp only [List.cons_append, List.map_cons, List.nodup_cons]
  refine ⟨fun hm => ?_, nd⟩
  obtain ⟨p, hp, e⟩ := List.mem_map.mp hm
  rcases hD with hD | hD
  · exact absurd (Heap.lt_size (N p hp).1) (e ▸ Nat.not_lt.mpr hD)
  · exact absurd (hD p hp) (e ▸ Nat.lt_irrefl _)
theorem intsAre {vs : List Value} {ns : List Int} (h : All2 VR vs (ns.map V.int)) : IntsAre vs ns := by
  induction ns generalizing vs with
  | nil => cases h; exact .nil
  | cons n ns ih =>
    cases h with
    | cons r h => cases r; exact .cons _ _ (ih h)
theorem IntsAre.all2 {vs : List Value} {ns : List Int} (h : IntsAre vs ns) : All2 VR vs (ns.map V.int) := by
  induction h with
  | nil => exact .nil
  | cons n t _ ih => exact .cons (.int _ _) ih

section
variable {c : Fc} {st : St} {Q : V → St → Prop}
/-! ### ints -/
theorem bo_add {i j : Int} (q : Q (.int (i + j)) st) : BO c .Add (.int i) (.int j) st Q := fun v v' r r' => by cases r; cases r'; exact TR.leaf fun φ s S => add_int ⟨_, st, .int _ _, S.toks _, q⟩
theorem bo_sub {i j : Int} (q : Q (.int (i - j)) st) : BO c .Sub (.int i) (.int j) st Q := fun v v' r r' => by cases r; cases r'; exact TR.leaf fun φ s S => sub_int ⟨_, st, .int _ _, S.toks _, q⟩
theorem bo_mul {i j : Int} (ho : IntMulOk i j) (q : Q (.int (i * j)) st) : BO c .Mult (.int i) (.int j) st Q := fun v v' r r' => by cases r; cases r'; exact TR.leaf fun φ s S => mul_int ⟨_, st, .int _ _, S.toks _, q⟩ ho
theorem bo_mod {i j : Int} (hj : j ≠ 0) (q : Q (.int (i.fmod j)) st) : BO c .Mod (.int i) (.int j) st Q := fun v v' r r' => by cases r; cases r'; exact TR.leaf fun φ s S => mod_int' hj ⟨_, st, .int _ _, S.toks _, q⟩
theorem bo_fdiv {i j : Int} (hj : j ≠ 0) (hp : Builtin.divisionGoesByPylong i j = false) (q : Q (.int (i.fdiv j)) st) : BO c .FloorDiv (.int i) (.int j) st Q := fun v v' r r' => by cases r; cases r'; exact TR.leaf fun φ s S => floordiv_int hj ⟨_, st, .int _ _, S.toks _, q⟩ (.inl hp)
theorem uo_neg {i : Int} (q : Q (.int (-i)) st) : UO c .USub (.int i) st Q := fun v r => by cases r; exact TR.leaf fun φ s S => neg_int ⟨_, st, .int _ _, S.toks _, q⟩
theorem co_lt {i j : Int} (q : Q (.bool (decide (i < j))) st) : CO c .Lt (.int i) (.int j) st Q := fun v v' r r' => by cases r; cases r'; exact TR.leaf fun φ s S => lt_int ⟨_, st, .bool _, S, q⟩
theorem co_le {i j : Int} (q : Q (.bool (decide (i ≤ j))) st) : CO c .LtE (.int i) (.int j) st Q := fun v v' r r' => by cases r; cases r'; exact TR.leaf fun φ s S => le_int ⟨_, st, .bool _, S, q⟩
theorem co_eq {i j : Int} (q : Q (.bool (i == j)) st) : CO c .Eq (.int i) (.int j) st Q := fun v v' r r' => by cases r; cases r'; exact TR.leaf fun φ s S => eq_int ⟨_, st, .bool _, S, q⟩
theorem co_ne {i j : Int} (q : Q (.bool (i != j)) st) : CO c .NotEq (.int i) (.int j) st Q := fun v v' r r' => by cases r; cases r'; exact TR.leaf fun φ s S => ne_int ⟨_, st, .bool _, S, q⟩
noncomputable def isNone : V → Bool
  | .none => true
  | _ => false
theorem co_isNone {a : V} (q : Q (.bool (isNone a)) st) : CO c .Is a .none st Q := fun v v' r r' => by
  cases r'
  refine TR.leaf fun φ s S => is_none ⟨.bool (isNone a), st, ?_, S, q⟩
  cases r <;> exact .bool _
theorem co_isNotNone {a : V} (ha : ∀ n, a ≠ .bi n) (q : Q (.bool !(isNone a)) st) : CO c .IsNot a .none st Q := fun v v' r r' => by
  cases r'
  have hp : plainIs v .none = true := by cases r <;> first | rfl | exact absurd rfl (ha _)
  refine TR.leaf fun φ s S => wpAny_isNot_plain hp ⟨.bool !(isNone a), st, ?_, S, q⟩
  cases r <;> exact .bool _
theorem bytes_eq_bnat (b b' : Array UInt8) : (b.toList == b'.toList) = (bnat b == bnat b') := by
  rw [Bool.eq_iff_iff]
  simp only [beq_iff_eq, bnat]
  refine ⟨fun h => by rw [h], fun h => ?_⟩
  exact List.map_inj_right (fun x y h => UInt8.toNat_inj.mp h) |>.mp h
theorem io_add {i j : Int} (q : Q (.int (i + j)) st) : IO c .Add (.int i) (.int j) st Q := fun v v' r r' => by cases r; cases r'; exact TR.leaf fun φ s S => AutoIntOps.iadd_0 ⟨_, st, .int _ _, S.toks _, q⟩
/-! ### lists -/
noncomputable def CAn (c : Fc) (f : String) (as : List V) (st : St) (Q : V → St → Prop) : Prop := ∀ vs, All2 VR vs as → TR c (call (.builtin f) vs) VR st Q
theorem ca_bi {f : String} {as : List V} (h : CAn c f as st Q) : CA c (.bi f) as [] [] st Q := fun fv vs kvs rf r1 r2 => by cases rf; cases r2; exact h vs r1
noncomputable def CAt (c : Fc) (f : String) (as : List V) (st : St) (Q : V → St → Prop) : Prop := ∀ vs, All2 VR vs as → TR c (call (.type f) vs) VR st Q
theorem ca_ty {f : String} {as : List V} (h : CAt c f as st Q) : CA c (.type f) as [] [] st Q := fun fv vs kvs rf r1 r2 => by cases rf; cases r2; exact h vs r1
theorem len_bytes' {l : List Nat} (hsz : l.length ≤ 16777216) (q : Q (.int l.length) st) : CAn c "len" [.bytes l] st Q := fun ws r => by
  cases r with
  | cons r h =>
    cases h; cases r
    rename_i b t
    refine TR.leaf fun φ s S => ?_
    have e : b.size = (bnat b).length := by simp [bnat]
    refine len_bytes (by rw [e]; omega) ⟨_, st, .int _ _, S.toks _, ?_⟩
    rw [e]; exact q
end
end Mine

set_option maxRecDepth 100000
set_option Elab.async false
set_option linter.unusedVariables false
open PySem PySem.W PyProof.Rows PySem.Calls
namespace Mine

/-! ## weaker states -/
noncomputable abbrev Hp := List (Addr × AObj)
noncomputable def LocLe (l l' : Loc) : Prop := ∀ x v, l'.lookup x = some v → l.lookup x = some v
theorem LocLe.refl (l : Loc) : LocLe l l := fun _ _ e => e
theorem LocLe.nil (l : Loc) : LocLe l [] := fun _ _ e => by simp at e
theorem LocLe.cons {l r : Loc} {x : Str} {v : V} (e : l.lookup x = some v) (h : LocLe l r) : LocLe l ((x, v) :: r) := fun y u hu => by
  rw [List.lookup_cons] at hu
  by_cases hy : y = x
  · subst hy; simp at hu; subst hu; exact e
  · have : (y == x) = false := beq_eq_false_iff_ne.mpr hy
    rw [this] at hu
    exact h y u hu
inductive Sub : Hp → Hp → Prop
  | refl (h : Hp) : Sub h h
  | drop {h h' : Hp} {e : Addr × AObj} : Sub h h' → Sub (e :: h) h'
  | keep {h h' : Hp} {e : Addr × AObj} : Sub h h' → Sub (e :: h) (e :: h')
  | perm {a b c : Hp} : a.Perm b → Sub b c → Sub a c
theorem Sub.sat {h h' : Hp} (k : Sub h h') : ∃ l, h.Perm (l ++ h') := by
  induction k with
  | refl h => exact ⟨[], .refl _⟩
  | drop _ ih => obtain ⟨l, p⟩ := ih; exact ⟨_ :: l, p.cons _⟩
  | keep _ ih => obtain ⟨l, p⟩ := ih; exact ⟨l, (p.cons _).trans List.perm_middle.symm⟩
  | perm q _ ih => obtain ⟨l, p⟩ := ih; exact ⟨l, q.trans p⟩
theorem Sub.app (l : Hp) {a b : Hp} (h : Sub a b) : Sub (l ++ a) b := by
  induction l with
  | nil => exact h
  | cons e l ih => exact .drop ih
structure WK (st st' : St) : Prop where
  loc : LocLe st.loc st'.loc
  hp : Sub st.hp st'.hp
theorem WK.refl (st : St) : WK st st := ⟨.refl _, .refl _⟩
theorem WK.sat {c : Fc} {φ : List (Addr × Obj)} {st st' : St} {s : Shared} (k : WK st st') (S : Sat c φ st s) : Sat c φ st' s := by
  obtain ⟨l, p⟩ := k.hp.sat
  exact ((S.perm p).drop rfl).weaken k.loc
section
variable {α β : Type} {c : Fc} {R : α → β → Prop} {st st' : St} {t : Sem α} {Q : β → St → Prop}
theorem TR.preWK (k : WK st st') (h : TR c t R st' Q) : TR c t R st Q := TR.pre h fun _ _ S => k.sat S
theorem TR.postWK (h : TR c t R st fun b st1 => ∃ st2, WK st1 st2 ∧ Q b st2) : TR c t R st Q := fun φ s S =>
  wpN_post (h φ s S) fun a s' ⟨b, st1, r, S1, st2, k, q⟩ => ⟨b, st2, r, k.sat S1, q⟩
end

/-! ## walking forms -/
noncomputable def CN (k : Bool) (A B : Prop) : Prop := if k = true then A else B
theorem CN.t {k : Bool} {A B : Prop} (hk : k = true) (a : A) : CN k A B := by subst hk; exact a
theorem CN.f {k : Bool} {A B : Prop} (hk : k = false) (b : B) : CN k A B := by subst hk; exact b
theorem CN.by {k : Bool} {A B : Prop} (a : k = true → A) (b : k = false → B) : CN k A B := by cases k with | true => exact a rfl | false => exact b rfl
noncomputable def NX (c : Fc) (ss : List Stmt) (Q : AFlow → St → Prop) : AFlow → St → Prop := fun f st => match f with
  | .next => EX c ss st Q
  | f => Q f st
section
variable {c : Fc} {st : St} {Q : AFlow → St → Prop}
theorem x_cons {s : Stmt} {ss : List Stmt} (h : ES c s st (NX c ss Q)) : EX c (s :: ss) st Q := ex_cons (TR.mono h fun f st1 k => by cases f <;> exact k)
theorem nx_next {ss : List Stmt} (h : EX c ss st Q) : NX c ss Q .next st := h
theorem nx_ret {ss : List Stmt} {v : V} (h : Q (.ret v) st) : NX c ss Q (.ret v) st := h
theorem s_if {t : PySem.Expr} {b o : List Stmt} {pos : Pos} (h : EB c t st fun k st1 => CN k (EX c b st1 Q) (EX c o st1 Q)) : ES c (.If t b o pos) st Q := es_if (TR.mono h fun k st1 x => x)
noncomputable def AN (c : Fc) (l : List PySem.Expr) (st : St) (Qb : Bool → St → Prop) : Prop := TR c (allTrue .And l c.env) Eq st Qb
noncomputable def ON (c : Fc) (l : List PySem.Expr) (st : St) (Qb : Bool → St → Prop) : Prop := TR c (allTrue .Or l c.env) Eq st Qb
variable {Qb : Bool → St → Prop} {Qv : V → St → Prop}
theorem b_and {vs : List PySem.Expr} {pos : Pos} (h : AN c vs st Qb) : EB c (.BoolOp .And vs pos) st Qb := h
theorem b_or {vs : List PySem.Expr} {pos : Pos} (h : ON c vs st Qb) : EB c (.BoolOp .Or vs pos) st Qb := h
theorem an_one {x : PySem.Expr} (h : EB c x st Qb) : AN c [x] st Qb := eb_and1 (pos := default) h
theorem an_cons {x y : PySem.Expr} {r : List PySem.Expr} (h : EB c x st fun k st1 => CN k (AN c (y :: r) st1 Qb) (Qb false st1)) : AN c (x :: y :: r) st Qb := eb_andc (TR.mono h fun _ _ x => x)
theorem on_one {x : PySem.Expr} (h : EB c x st Qb) : ON c [x] st Qb := eb_or1 (pos := default) h
theorem on_cons {x y : PySem.Expr} {r : List PySem.Expr} (h : EB c x st fun k st1 => CN k (Qb true st1) (ON c (y :: r) st1 Qb)) : ON c (x :: y :: r) st Qb := eb_orc (TR.mono h fun _ _ x => x)
theorem v_ifexp {t b o : PySem.Expr} {pos : Pos} (h : EB c t st fun k st1 => CN k (EV c b st1 Qv) (EV c o st1 Qv)) : EV c (.IfExp t b o pos) st Qv := ev_ifexp (TR.mono h fun _ _ x => x)
theorem b_cmp2 {l r r' : PySem.Expr} {op op' : CmpOp} {pos : Pos} (h : EV c l st fun a st1 => EV c r st1 fun b st2 => CO c op a b st2 fun k st3 => TT c k st3 fun t st4 => CN t (EV c r' st4 fun d st5 => CO c op' b d st5 fun k st6 => TT c k st6 Qb) (Qb false st4))
    (hm : ∀ t t', markedEach [op, op'] [r, r'] [t, t'] = [t, t'] := by intro t t'; rfl) : EB c (.Compare l [op, op'] [r, r'] pos) st Qb := eb_cmp2 h hm
theorem v_and2 {x y : PySem.Expr} {pos : Pos} (h : EV c x st fun a st1 => TT c a st1 fun t st2 => CN t (EV c y st2 Qv) (Qv a st2)) : EV c (.BoolOp .And [x, y] pos) st Qv := ev_and2 h
theorem v_and3 {x y z : PySem.Expr} {pos : Pos} (h : EV c x st fun a st1 => TT c a st1 fun t st2 => CN t (EV c (.BoolOp .And [y, z] pos) st2 Qv) (Qv a st2)) : EV c (.BoolOp .And [x, y, z] pos) st Qv := ev_and3 h

/-! ### while, for -/
theorem s_while {t : PySem.Expr} {b o : List Stmt} {pos : Pos} (I : Nat → St → Prop) (n : Nat) (st0 : St) (h0 : WK st st0) (h : I n st0)
    (turn : ∀ n st, I n st → EB c t st fun k st1 => CN k (EX c b st1 (fun f st2 => match f with | .next | .cont => ∃ m st3, m < n ∧ WK st2 st3 ∧ I m st3 | .brk => Q .next st2 | .ret v => Q (.ret v) st2)) (EX c o st1 Q)) : ES c (.While t b o pos) st Q := by
  refine es_while (I := fun n st => ∃ st0, WK st st0 ∧ I n st0) (fun n st ⟨st0, k, hI⟩ => ?_) n ⟨st0, h0, h⟩
  refine TR.preWK k (TR.mono (turn n st0 hI) fun kk st1 hh => ?_)
  cases kk with
  | false => exact hh
  | true =>
    refine TR.mono hh fun f st2 q => ?_
    cases f with
    | next => obtain ⟨m, st3, h1, h2, h3⟩ := q; exact ⟨m, h1, st3, h2, h3⟩
    | cont => obtain ⟨m, st3, h1, h2, h3⟩ := q; exact ⟨m, h1, st3, h2, h3⟩
    | brk => exact q
    | ret v => exact q
/-- what a loop's turn has to give -/
noncomputable def TU (I : Nat → St → Prop) (i : Nat) (Q : AFlow → St → Prop) : AFlow → St → Prop := fun f st2 => match f with
  | .next | .cont => ∃ st3, WK st2 st3 ∧ I i st3
  | .brk => False
  | .ret v => Q (.ret v) st2
structure FOR (c : Fc) (x : Str) (body : List Stmt) (items : List V) (Src : Hp → Prop) (st : St) (Q : AFlow → St → Prop) : Prop where
  ex : ∃ I : Nat → St → Prop, (∃ st3, WK st st3 ∧ I 0 st3) ∧ (∀ i st, I i st → Src st.hp) ∧
    (∀ i v st, items[i]? = some v → I i st → SN c x v st fun st1 => EX c body st1 (TU I (i + 1) Q)) ∧ (∀ st, I items.length st → Q .next st)
noncomputable def ITER (c : Fc) (v : V) (st : St) (P : List V → (Hp → Prop) → St → Prop) : Prop :=
  ∀ val, VR val v → TR c (pyIter val) VR st fun itv st2 => ∃ (it : Addr) (ia : Nat → AObj) (items : List V) (Src : Hp → Prop) (st0 : St), itv = .ref it ∧ st2 = ⟨st0.loc, (it, ia 0) :: st0.hp⟩ ∧ (∀ c' : Fc, c'.A = c.A → Iter c' it ia items Src) ∧ (∀ h h', Sub h h' → Src h' → Src h) ∧ P items Src st0
theorem s_for {x : Str} {px pos : Pos} {e : PySem.Expr} {body : List Stmt} (h : EV c e st fun v st1 => ITER c v st1 fun items Src st2 => FOR c x body items Src st2 Q)
    (hs : ∀ x, foldedSetIterable e c.env x = pure x := by intro _; rfl) : ES c (.For (.Name x px) e body [] pos) st Q := by
  refine TR.postWK (es_for (Q := fun f st1 => ∃ st2, WK st1 st2 ∧ Q f st2) (TR.mono h fun v st1 h1 val r => ?_) (fun v loc hp e ⟨st2, k, q⟩ => ⟨st2, ⟨k.loc, .drop k.hp⟩, q⟩) hs)
  refine TR.mono (h1 val r) fun itv st2 hx => ?_
  obtain ⟨it, ia, items, Src, st0, e1, e2, W, hsub, ⟨I, ⟨st3, k3, h0⟩, hsrc, turn, done⟩⟩ := hx
  refine ⟨it, ia, items, Src, fun i st => ∃ st3, WK st st3 ∧ I i st3, st0, e1, e2, W c rfl, ⟨st3, k3, h0⟩, fun i st ⟨st3, k, hI⟩ => hsub _ _ k.hp (hsrc _ _ hI), fun i v st hv ⟨st3, k, hI⟩ => ?_, fun st ⟨st3, k, hI⟩ => ⟨st3, k, done _ hI⟩⟩
  intro val' r'
  refine TR.preWK k (TR.mono (turn i v st3 hv hI val' r') fun _ st4 hx => ?_)
  refine TR.mono hx fun f st5 q => ?_
  cases f with
  | next => exact q
  | cont => exact q
  | brk => exact q
  | ret v => exact ⟨st5, .refl _, q⟩
/-- a loop as a fold -/
theorem FOR.fold {x : Str} {body : List Stmt} {items : List V} {Src : Hp → Prop} {σ : Type} (enc : σ → St) (step : σ → V → σ) (s0 : σ) (J : Nat → σ → Prop) (h0 : WK st (enc s0)) (j0 : J 0 s0) (src : ∀ s, Src (enc s).hp)
    (turn : ∀ i v s, items[i]? = some v → J i s → SN c x v (enc s) fun st1 => EX c body st1 (TU (fun _ st => J (i + 1) (step s v) ∧ st = enc (step s v)) 0 Q))
    (done : J items.length (items.foldl step s0) → Q .next (enc (items.foldl step s0))) : FOR c x body items Src st Q := by
  refine ⟨fun i st => i ≤ items.length ∧ J i ((items.take i).foldl step s0) ∧ st = enc ((items.take i).foldl step s0), ⟨enc s0, h0, Nat.zero_le _, by simpa using j0, by simp⟩, fun i st ⟨_, _, e⟩ => e ▸ src _, ?_, ?_⟩
  · rintro i v st hv ⟨hi, hj, rfl⟩
    have hlt : i < items.length := by
      rcases Nat.lt_or_ge i items.length with h | h
      · exact h
      · rw [List.getElem?_eq_none h] at hv; cases hv
    intro val r
    refine TR.mono (turn i v _ hv hj val r) fun _ st4 hx => TR.mono hx fun f st5 q => ?_
    have e : (items.take (i + 1)).foldl step s0 = step ((items.take i).foldl step s0) v := by
      rw [List.take_add_one, hv, List.foldl_append]; rfl
    cases f with
    | next => obtain ⟨st6, k, j, e6⟩ := q; exact ⟨st6, k, hlt, by rw [e]; exact j, by rw [e]; exact e6⟩
    | cont => obtain ⟨st6, k, j, e6⟩ := q; exact ⟨st6, k, hlt, by rw [e]; exact j, by rw [e]; exact e6⟩
    | brk => exact q
    | ret v => exact q
  · rintro st ⟨_, hj, rfl⟩
    rw [List.take_length] at hj ⊢
    exact done hj
theorem tu_next {I : Nat → St → Prop} {i : Nat} (st3 : St) (k : WK st st3) (h : I i st3) : TU I i Q .next st := ⟨st3, k, h⟩
end
end Mine

set_option maxRecDepth 100000
set_option Elab.async false
set_option linter.unusedVariables false
open PySem PySem.W PyProof.Rows PySem.Calls
namespace Mine

inductive Upd : Hp → Addr → AObj → AObj → Hp → Prop
  | here {r : Hp} {a : Addr} {o o' : AObj} : Upd ((a, o) :: r) a o o' ((a, o') :: r)
  | there {e : Addr × AObj} {r r' : Hp} {a : Addr} {o o' : AObj} : Upd r a o o' r' → Upd (e :: r) a o o' (e :: r')
theorem Upd.split {h h' : Hp} {a : Addr} {o o' : AObj} (u : Upd h a o o' h') : ∃ pre post, h = pre ++ (a, o) :: post ∧ h' = pre ++ (a, o') :: post := by
  induction u with
  | here => exact ⟨[], _, rfl, rfl⟩
  | there _ ih => obtain ⟨pre, post, e1, e2⟩ := ih; exact ⟨_ :: pre, post, by rw [e1]; rfl, by rw [e2]; rfl⟩
theorem Upd.mem {h h' : Hp} {a : Addr} {o o' : AObj} (u : Upd h a o o' h') : (a, o) ∈ h := by obtain ⟨pre, post, rfl, _⟩ := u.split; simp
noncomputable def RL (hp : Hp) (a : Addr) (vs : List V) : Prop := (a, AObj.list vs) ∈ hp ∨ ∃ its n, (a, AObj.raw (W.listOf its n)) ∈ hp ∧ All2 VR its.toList vs
theorem RL.here {hp : Hp} {a : Addr} {vs : List V} : RL ((a, .list vs) :: hp) a vs := .inl (.head _)
theorem RL.there {hp : Hp} {a : Addr} {vs : List V} {e : Addr × AObj} (h : RL hp a vs) : RL (e :: hp) a vs := h.imp (.tail _) fun ⟨its, n, m, r⟩ => ⟨its, n, .tail _ m, r⟩
theorem Sub.mem {h h' : Hp} (k : Sub h h') {e : Addr × AObj} (m : e ∈ h') : e ∈ h := by
  induction k with
  | refl h => exact m
  | drop _ ih => exact .tail _ (ih m)
  | keep _ ih => rcases List.mem_cons.mp m with rfl | m
                 · exact .head _
                 · exact .tail _ (ih m)
  | perm p _ ih => exact p.mem_iff.mpr (ih m)
theorem RL.sub {h h' : Hp} (k : Sub h h') {a : Addr} {vs : List V} (r : RL h' a vs) : RL h a vs := r.imp (fun m => k.mem m) fun ⟨its, n, m, r⟩ => ⟨its, n, k.mem m, r⟩
theorem Sat.listR {c : Fc} {φ : List (Addr × Obj)} {st : St} {s : Shared} (S : Sat c φ st s) {a : Addr} {vs : List V} (h : RL st.hp a vs) : ∃ its n, s.heap.get? a = some (W.listOf its n) ∧ All2 VR its.toList vs ∧ s.heap.IsList a its := by
  rcases h with h | ⟨its, n, h, r⟩
  · exact S.list h
  · obtain ⟨o, ho, rfl, _⟩ := S.at h
    exact ⟨its, n, ho, r, ⟨_, ho, rfl, n, rfl⟩⟩

section
variable {c : Fc} {st : St} {Q : V → St → Prop}
theorem len_listR {a : Addr} {vs : List V} (hm : RL st.hp a vs) (hsz : vs.length ≤ 16777216) (q : Q (.int vs.length) st) : CAn c "len" [.ref a] st Q := fun ws r => by
  cases r with
  | cons r h =>
    cases h; cases r
    refine TR.leaf fun φ s S => ?_
    obtain ⟨its, n, ho, H, hl⟩ := S.listR hm
    have e : its.size = vs.length := by simpa using H.length
    refine len_list hl (by rw [e]; omega) ⟨_, st, .int _ _, S.toks _, ?_⟩
    rw [e]; exact q
/-! ### subscripts -/
noncomputable def SB (c : Fc) (value slice : PySem.Expr) (o i : V) (st : St) (Q : V → St → Prop) : Prop := ∀ ov iv, VR ov o → VR iv i → TR c (subscriptTail value slice ov iv) VR st Q
theorem ev_sub {o i : PySem.Expr} {pos : Pos} (h : EV c o st fun ov st1 => EV c i st1 fun iv st2 => SB c o i ov iv st2 Q) : EV c (.Subscript o i pos) st Q :=
  TR.bind (TR.mono h fun ov st1 h1 v r1 => TR.bind (TR.holding (TR.mono h1 fun iv st2 h2 v' r2 => TR.stand (h2 v v' r1 r2))))
theorem subscripted_false (slice : PySem.Expr) (o i : Value) : ∃ ops, subscripted slice false o i = operate ops (getItem o i) := by
  unfold subscripted
  split <;> first | exact ⟨_, rfl⟩ | contradiction
theorem sb_list {value slice : PySem.Expr} {a : Addr} {vs : List V} {i : V} (hm : RL st.hp a vs) (h : ∀ φ s, Sat c φ st s → ∀ its n, s.heap.get? a = some (W.listOf its n) → All2 VR its.toList vs → s.heap.IsList a its → ∀ iv, VR iv i →
    wpAny c.M c.A (getItem (.ref a) iv) (fun v s' => ∃ x st', VR v x ∧ Sat c φ st' s' ∧ Q x st') (fun _ _ => False) s) : SB c value slice (.ref a) i st Q := fun ov iv ro ri => by
  cases ro
  refine TR.leaf fun φ s S => ?_
  obtain ⟨its, n, ho, H, hl⟩ := S.listR hm
  obtain ⟨ops, e⟩ := subscripted_false slice (.ref a) iv
  exact tail_any hl.typeIs slot_list_getitem.lookup (h φ s S its n ho H hl iv ri) e
theorem sb_listN {value slice : PySem.Expr} {a : Addr} {vs : List V} {k : Nat} {v : V} (hm : RL st.hp a vs) (hv : vs[k]? = some v) (hk : (k : Int) < 2 ^ 63) (q : Q v st) : SB c value slice (.ref a) (.int k) st Q :=
  sb_list hm fun φ s S its n ho H hl iv ri => by
    cases ri
    obtain ⟨x, hx, r⟩ := H.get hv
    exact wpAny_getItem_list (x := x) hl (by omega) hk (by simpa using hx) ⟨v, st, r, S, q⟩
theorem sb_listI {value slice : PySem.Expr} {a : Addr} {vs : List V} {k : Int} {v : V} (hm : RL st.hp a vs) (h0 : 0 ≤ k) (hv : vs[k.toNat]? = some v) (hk : k < 2 ^ 63) (q : Q v st) : SB c value slice (.ref a) (.int k) st Q :=
  sb_list hm fun φ s S its n ho H hl iv ri => by
    cases ri
    obtain ⟨x, hx, r⟩ := H.get hv
    exact wpAny_getItem_list (x := x) hl h0 hk (by simpa using hx) ⟨v, st, r, S, q⟩
theorem sb_last {value slice : PySem.Expr} {a : Addr} {vs : List V} {v : V} (hm : RL st.hp a (vs ++ [v])) (q : Q v st) : SB c value slice (.ref a) (.int (-1)) st Q :=
  sb_list hm fun φ s S its n ho H hl iv ri => by
    cases ri
    have hL := H.length
    simp at hL
    obtain ⟨x, hx, r⟩ := H.get (i := vs.length) (b := v) (by simp)
    refine wpAny_getItem_list_neg (x := x) hl (by decide) (by omega) (by decide) ?_ ⟨v, st, r, S, q⟩
    rw [hL, show ((-1 : Int) + ((vs.length + 1 : Nat) : Int)).toNat = vs.length by omega]
    simpa using hx
/-! ### slices -/
noncomputable def OV (c : Fc) (e : Option PySem.Expr) (st : St) (Q : V → St → Prop) : Prop := TR c (valueOrNone (evalOpt e c.env)) VR st Q
theorem ov_none (q : Q .none st) : OV c none st Q := TR.pure .none q
theorem ov_some {e : PySem.Expr} (h : EV c e st Q) : OV c (some e) st Q := h
theorem ev_slice {l u s : Option PySem.Expr} {pos : Pos} (h : OV c l st fun lv st1 => OV c u st1 fun uv st2 => OV c s st2 fun sv st3 => ∀ a, Q (.ref a) ⟨st3.loc, (a, .slice lv uv sv) :: st3.hp⟩) : EV c (.Slice l u s pos) st Q := by
  refine TR.bind (TR.mono h fun lv st1 h1 lvv rl => TR.bind (TR.holding (TR.mono h1 fun uv st2 h2 uvv ru => TR.bind (TR.holding (TR.mono h2 fun sv st3 h3 svv rs => ?_)))))
  refine TR.leaf fun φ s S => ?_
  show wpAny _ _ (newObj (.type "slice") (.fields #[lvv, uvv, svv])) _ _ s
  exact wpAny_newObj_type ⟨_, _, .ref _, S.alloc (ao := .slice lv uv sv) rfl ⟨lvv, uvv, svv, rfl, rl, ru, rs⟩, h3 _⟩
inductive Part : V → Option Int → Prop
  | none : Part .none none
  | int (i) : Part (.int i) (some i)
theorem Part.is {v : Value} {x : V} {o : Option Int} (p : Part x o) (r : VR v x) : IsPart v o := by
  cases p <;> cases r
  · exact .none
  · exact .int _ _
noncomputable def slc {α : Type} (l : List α) (lo hi : Option Int) : List α := (l.drop (kms_lo lo l.length)).take (kms_hi hi l.length - kms_lo lo l.length)
theorem kms_pick_slc (l : List Value) (lo hi : Option Int) : kms_pick l lo hi = slc l lo hi := rfl
theorem All2.slc {α β : Type} {R : α → β → Prop} {l : List α} {m : List β} (h : All2 R l m) (lo hi : Option Int) : All2 R (slc l lo hi) (Mine.slc m lo hi) := by
  unfold Mine.slc
  rw [h.length]
  exact (h.drop _).take _
theorem slc_length {α : Type} (l : List α) (lo hi : Option Int) : (slc l lo hi).length ≤ l.length := by
  unfold slc; simp; omega
theorem sb_listS {value : PySem.Expr} {slice : PySem.Expr} {a sl : Addr} {vs : List V} {lv uv : V} {lo hi : Option Int} {loc : Loc} {hp : Hp} (hm : RL hp a vs) (pl : Part lv lo) (pu : Part uv hi) (hsz : vs.length ≤ 16777216)
    (q : ∀ D, Q (.ref D) ⟨loc, (D, .list (slc vs lo hi)) :: hp⟩) : SB c value slice (.ref a) (.ref sl) ⟨loc, (sl, .slice lv uv .none) :: hp⟩ Q :=
  sb_list (st := ⟨loc, (sl, .slice lv uv .none) :: hp⟩) (RL.there hm) fun φ s S its n ho H hl iv ri => by
    cases ri
    obtain ⟨o, hsl, lvv, uvv, svv, rfl, rl, ru, rs⟩ := S.at (a := sl) (ao := .slice lv uv .none) (.head _)
    cases rs
    have hL := H.length
    simp at hL
    refine wpAny_getItem_list_slice hl ⟨_, hsl, rfl, rfl⟩ (pl.is rl) (pu.is ru) .none (by decide) ⟨_, _, .ref _, ?_, q _⟩ (by rw [sizeLine_eq]; omega)
    rw [kms_pick_eq, kms_pick_slc]
    exact (S.drop (l := [_]) rfl).alloc (o := W.listOf (slc its.toList lo hi).toArray 0) (ao := .list (slc vs lo hi)) rfl ⟨_, _, rfl, by simpa using H.slc lo hi⟩
theorem sb_listRev {value : PySem.Expr} {slice : PySem.Expr} {a sl : Addr} {vs : List V} {loc : Loc} {hp : Hp} (hm : RL hp a vs) (hsz : vs.length ≤ 16777216)
    (q : ∀ D, Q (.ref D) ⟨loc, (D, .list vs.reverse) :: hp⟩) : SB c value slice (.ref a) (.ref sl) ⟨loc, (sl, .slice .none .none (.int (-1))) :: hp⟩ Q :=
  sb_list (st := ⟨loc, (sl, .slice .none .none (.int (-1))) :: hp⟩) (RL.there hm) fun φ s S its n ho H hl iv ri => by
    cases ri
    obtain ⟨o, hsl, lvv, uvv, svv, rfl, rl, ru, rs⟩ := S.at (a := sl) (ao := .slice .none .none (.int (-1))) (.head _)
    cases rs; cases rl; cases ru
    have hL := H.length
    simp at hL
    refine wpAny_getItem_list_slice hl ⟨_, hsl, rfl, rfl⟩ .none .none (.int _ _) (by decide) ⟨_, _, .ref _, ?_, q _⟩ (by rw [sizeLine_eq]; omega)
    rw [krv_pick]
    exact (S.drop (l := [_]) rfl).alloc (o := W.listOf its.toList.reverse.toArray 0) (ao := .list vs.reverse) rfl ⟨_, _, rfl, by simpa using H.reverse⟩
/-! ### bytes -/
theorem bInts_bnat (b : Array UInt8) : KBw.bInts b = (bnat b).map (fun n : Nat => (n : Int)) := by
  simp [KBw.bInts, bnat]
theorem letGo_bytes (value : PySem.Expr) (b : Array UInt8) (t : Tok) (r : Value) : letTemporaryGo value (.bytes b t) r = pure () := by
  cases value <;> rfl
theorem subscripted_int (slice : PySem.Expr) (hs : ∀ l u p, slice ≠ .Slice l u none p) (o i : Value) : subscripted slice false o i = operate [o, i] (getItem o i) := by
  unfold subscripted
  split
  · exact absurd rfl (hs _ _ _)
  · rename_i h; cases h
  · rfl
theorem sb_bytesI {value slice : PySem.Expr} {l : List Nat} {k : Int} {n : Nat} (hs : ∀ l u p, slice ≠ .Slice l u none p) (h0 : 0 ≤ k) (hv : l[k.toNat]? = some n) (hsz : l.length ≤ 16777216) (q : Q (.int n) st) : SB c value slice (.bytes l) (.int k) st Q := fun ov iv ro ri => by
  cases ro; cases ri
  rename_i b t t'
  have hlt : k.toNat < (bnat b).length := by
    rcases Nat.lt_or_ge k.toNat (bnat b).length with h | h
    · exact h
    · rw [List.getElem?_eq_none h] at hv; cases hv
  refine TR.leaf fun φ s S => KBw.item_K (bInts_bnat b) (by simp only [List.length_map] at *; omega) h0 (by simp only [List.length_map] at *; omega) (fun t' k' _ _ => ⟨.int n, st, ?_, S.toks _, q⟩) (subscripted_int slice hs _ _) (letGo_bytes _ _ _)
  have : ((bnat b).map (fun n : Nat => (n : Int))).getD k.toNat 0 = (n : Int) := by
    rw [List.getD_eq_getElem?_getD, List.getElem?_map, hv]; rfl
  rw [this]; exact .int _ _
theorem sb_bytesN {value slice : PySem.Expr} {l : List Nat} {k : Nat} {n : Nat} (hs : ∀ l u p, slice ≠ .Slice l u none p) (hv : l[k]? = some n) (hsz : l.length ≤ 16777216) (q : Q (.int n) st) : SB c value slice (.bytes l) (.int k) st Q := sb_bytesI hs (by omega) (by simpa using hv) hsz q
end
end Mine

set_option maxRecDepth 100000
set_option Elab.async false
set_option linter.unusedVariables false
open PySem PySem.W PyProof.Rows PySem.Calls
namespace Mine

section
variable {c : Fc} {st : St} {Q : V → St → Prop}
/-! ### a slice of bytes -/
theorem clip_at (n : Nat) (x : Int) : clipAt n x = if x < 0 then n - (-x).toNat else min x.toNat n := by
  unfold clipAt
  cases x with
  | ofNat k =>
    have h0 : ¬ Int.ofNat k < 0 := Int.not_lt.mpr (Int.natCast_nonneg k)
    rw [if_neg h0, if_neg h0]
    show (max 0 (min (k : Int) (n : Int))).toNat = min k n
    rcases Nat.le_total k n with h | h
    · rw [Int.min_eq_left (Int.ofNat_le.mpr h), Int.max_eq_right (Int.natCast_nonneg k), Nat.min_eq_left h]; rfl
    · rw [Int.min_eq_right (Int.ofNat_le.mpr h), Int.max_eq_right (Int.natCast_nonneg n), Nat.min_eq_right h]; rfl
  | negSucc k =>
    have h0 : Int.negSucc k < 0 := Int.negSucc_lt_zero k
    rw [if_pos h0, if_pos h0]
    have e : Int.negSucc k + n = (n : Int) - ((k + 1 : Nat) : Int) := by rw [Int.sub_eq_add_neg, Int.add_comm]; rfl
    rw [e, Int.min_eq_left (Int.sub_le_self _ (Int.natCast_nonneg _))]
    show _ = n - (k + 1)
    have t := Int.toNat_sub n (k + 1)
    rcases Int.le_total 0 ((n : Int) - ((k + 1 : Nat) : Int)) with h | h
    · rw [Int.max_eq_right h]; exact t
    · rw [Int.max_eq_left h]; rw [Int.toNat_of_nonpos h] at t; exact t
theorem clip_lo (lo : Option Int) (n : Nat) : lo.elim 0 (clipAt n) = kms_lo lo n := by
  cases lo with
  | none => rfl
  | some x => exact clip_at n x
theorem clip_hi (hi : Option Int) (n : Nat) : hi.elim n (clipAt n) = kms_hi hi n := by
  cases hi with
  | none => rfl
  | some x => exact clip_at n x
theorem bnat_of_ints {b : Array UInt8} {l : List Nat} (h : KBw.bInts b = l.map (fun n : Nat => (n : Int))) : bnat b = l := by
  rw [bInts_bnat] at h
  exact List.map_inj_right (fun x y h => Int.ofNat.inj h) |>.mp h
theorem bnat_picked (b : Array UInt8) (lo hi : Option Int) : bnat (KBy.picked b lo hi) = slc (bnat b) lo hi := by
  refine bnat_of_ints ?_
  rw [KBc.ints_picked (bInts_bnat b) lo hi]
  unfold slc
  simp only [List.length_map, clip_lo, clip_hi, List.map_take, List.map_drop]
theorem getItem_bytes_slice {prog : Program} {w : World} {A : Around} {E : Value → Shared → Prop} {s : Shared} {b : Array UInt8} {t : Tok} {a : Addr} {l u : Value} {lo hi : Option Int} {Q : Value → Shared → Prop} (hs : s.heap.IsSliceOf a l u .none) (pl : IsPart l lo) (pu : IsPart u hi)
    (hz : (KBy.picked b lo hi).size ≤ sizeLine) (h : ∀ t' k, Q (.bytes (KBy.picked b lo hi) t') { s with toks := k }) : wpAny (model prog w) A (getItem (.bytes b t) (.ref a)) Q E s :=
  getItem_meets (T := "bytes") (id := "bytes.__getitem__") rfl (by decide) FB.slot_bytes_getitem FB.entry_bytes_getitem (FB.args_bytes_getitem_2 _ _) (KBc.meets_slice2 b t a pl pu) ⟨hs, hz, h⟩
theorem sb_bytesS {value slice : PySem.Expr} {l : List Nat} {sl : Addr} {lv uv : V} {lo hi : Option Int} {loc : Loc} {hp : Hp} (pl : Part lv lo) (pu : Part uv hi) (hsz : l.length ≤ 16777216)
    (q : Q (.bytes (slc l lo hi)) ⟨loc, hp⟩) : SB c value slice (.bytes l) (.ref sl) ⟨loc, (sl, .slice lv uv .none) :: hp⟩ Q := fun ov iv ro ri => by
  cases ro; cases ri
  rename_i b t
  refine TR.leaf fun φ s S => ?_
  obtain ⟨o, hsl, lvv, uvv, svv, rfl, rl, ru, rs⟩ := S.at (a := sl) (ao := .slice lv uv .none) (.head _)
  cases rs
  obtain ⟨ops, e⟩ := subscripted_false slice (.bytes b t) (.ref sl)
  refine tail_any (T := "bytes") rfl FB.slot_bytes_getitem.lookup (getItem_bytes_slice ⟨_, hsl, rfl, rfl⟩ (pl.is rl) (pu.is ru) ?_ fun t' k => ⟨.bytes (slc (bnat b) lo hi), _, ?_, (S.drop (l := [_]) rfl).toks _, q⟩) e
  · have h1 : (KBy.picked b lo hi).size = (slc (bnat b) lo hi).length := by rw [← bnat_picked]; simp [bnat]
    have h2 := slc_length (bnat b) lo hi
    rw [sizeLine_eq]; omega
  · rw [← bnat_picked]; exact .bytes _ _
/-! ### methods of lists -/
theorem ev_methL {o : PySem.Expr} {name : Str} {apos pos : Pos} {args : List PySem.Expr} {id : String}
    (h : EV c o st fun ov st1 => ∃ a vs, ov = .ref a ∧ RL st1.hp a vs ∧ EL c pos args st1 fun as st2 => CAn c id (.ref a :: as) st2 Q)
    (slot : Slot "list" name id) (hty : typeOf (.builtin id) = pure (.type "method_descriptor"))
    (hbase : attributeBase o name c.env (eval o c.env) = eval o c.env)
    (hst : (starEach args c.env).all (fun x => !x.1) = true) (hlen : args.length < 29)
    (hline : (apos.endLine == pos.line) = true) : EV c (.Call (.Attribute o name apos) args [] pos) st Q := by
  show TR c (attributeBase o name c.env (eval o c.env) >>= fun ov => standAt apos.atName >>= fun _ => methodCall o name apos pos c.env ov (args.length + 0) (backTo pos (starEach args c.env)) (backToKw pos (keywordEach [] c.env))) VR st Q
  rw [hbase]
  refine TR.bind (TR.mono h fun ov st1 ⟨a, vs, e, hm, h1⟩ ovv ro => TR.stand ?_)
  subst e
  cases ro
  have hform : methodCallForm (args.length + 0) (backTo pos (starEach args c.env)) (backToKw pos (keywordEach [] c.env)) = true := by
    unfold methodCallForm backTo
    rw [List.all_map]
    have : (starEach args c.env).all ((fun x : Bool × Sem Value => !x.1) ∘ fun (x : Bool × Sem Value) => (x.1, do let v ← x.2; standAt pos; pure v)) = true := hst
    simp only [Bool.and_eq_true]
    refine ⟨⟨hst, rfl⟩, ?_⟩
    rw [show keywordEach [] c.env = [] from rfl]
    simp [backToKw]; omega
  have hpos : methodCallPos true o c.env apos pos = pure pos := by unfold methodCallPos; simp [hline]
  unfold methodCall
  rw [hform]
  intro φ s S
  obtain ⟨its, n, ho, H, hl⟩ := S.listR hm
  refine wpN_bind (wpN_holding (lift (getMethod_builtin hl.typeIs F.plainAttrs_list slot hty (fun a' e => by cases e; exact ⟨_, ho, rfl⟩) ?_)))
  rw [hpos]
  refine wpN_bind (wpN_pure ?_)
  refine callWith_tr (R1 := All2 VR) (fa := .bi id) (.bi id) rfl hst (ks := []) (TR.mono h1 fun as st2 h2 => ek_nil ⟨trivial, fun vs kv r1 r2 => ?_⟩) φ s S
  cases r2
  exact h2 _ (.cons (.ref a) r1)
theorem m_append {a : Addr} {vs : List V} {v : V} {hp' : Hp} (u : Upd st.hp a (.list vs) (.list (vs ++ [v])) hp') (hsz : vs.length ≤ 16777216) (q : Q .none ⟨st.loc, hp'⟩) : CAn c "list.append" [.ref a, v] st Q := fun ws r => by
  obtain ⟨pre, post, e1, rfl⟩ := u.split
  cases r with
  | cons r h => cases h with
    | cons r' h => cases h; cases r; exact append_tr e1 r' hsz q
theorem ins_eq {α : Type} (xs : Array α) (k : Nat) (y : α) (hk : k ≤ xs.size) : ((xs.extract 0 k).push y ++ xs.extract k).toList = xs.toList.take k ++ y :: xs.toList.drop k := by
  simp [List.take_of_length_le]
theorem fits_not {i : Int} (h : (-9223372036854775808 : Int) ≤ i) (h' : i < 9223372036854775808) : ¬ (!Builtin.List.listFitsIndex i) = true := by
  unfold Builtin.List.listFitsIndex
  have e1 : decide ((-2 ^ 63 : Int) ≤ i) = true := decide_eq_true (by exact h)
  have e2 : decide (i < (2 ^ 63 : Int)) = true := decide_eq_true (by exact h')
  rw [e1, e2]
  decide
theorem m_insert {a : Addr} {vs : List V} {v : V} {i : Nat} {hp' : Hp} (u : Upd st.hp a (.list vs) (.list (vs.take i ++ v :: vs.drop i)) hp') (hi : i ≤ vs.length) (hsz : vs.length ≤ 16777216) (q : Q .none ⟨st.loc, hp'⟩) : CAn c "list.insert" [.ref a, .int i, v] st Q := fun ws r => by
  obtain ⟨pre, post, e1, rfl⟩ := u.split
  cases r with
  | cons r h => cases h with
    | cons r2 h => cases h with
      | cons r3 h =>
        cases h; cases r; cases r2
        rename_i y t
        refine TR.leaf fun φ s S => ?_
        obtain ⟨its, n, ho, H, hl⟩ := S.list (a := a) (vs := vs) (by rw [e1]; simp)
        have hL := H.length
        simp at hL
        obtain ⟨z, ez⟩ : ∃ z : Int, (i : Int) = z := ⟨_, rfl⟩
        rw [ez]
        have hf : ¬ (!Builtin.List.listFitsIndex z) = true := fits_not (by omega) (by omega)
        have hz : its.size ≤ sizeLine := by rw [sizeLine_eq]; omega
        refine call_meets F.slot_list_insert ⟨_, ho, rfl⟩ F.entry_list_insert (F.args_list_insert_3 _ _ _) (PySem.AutoSeq1.list_insert_list_int_val_1 a its n z t y hf hz) ⟨ho, ?_⟩
        have hm : ∀ (f : Array Value → Array Value), Obj.mapSeq f (W.listOf its n) = W.listOf (f its) (if (f its).size == its.size then n else n + 1) := fun f => rfl
        refine ⟨_, _, .none, S.set (tk := s.toks) (ao' := .list (vs.take i ++ v :: vs.drop i)) e1 (Heap.SameBut.update ..).extBut (Heap.get?_update_self _ ho (by rw [hm]; rfl)) ?_, q⟩
        rw [hm]
        refine ⟨_, _, rfl, ?_⟩
        have h0 : ¬ (z < 0) := by omega
        simp only [if_neg h0]
        have e : min z.toNat its.size = i := by omega
        rw [e, ins_eq its i y (by omega)]
        exact (H.take i).append (.cons r3 (H.drop i))
end
end Mine

set_option maxRecDepth 100000
set_option Elab.async false
set_option linter.unusedVariables false
open PySem PySem.W PyProof.Rows PySem.Calls
namespace Mine

section
variable {c : Fc} {st : St} {Q : V → St → Prop}
/-! ### operations on lists -/
theorem bo_addL {a b : Addr} {vs ws : List V} (ha : RL st.hp a vs) (hb : RL st.hp b ws) (hz : vs.length + ws.length ≤ 16777216) (q : ∀ D, Q (.ref D) ⟨st.loc, (D, .list (vs ++ ws)) :: st.hp⟩) : BO c .Add (.ref a) (.ref b) st Q := fun v v' r r' => by
  cases r; cases r'
  refine TR.leaf fun φ s S => ?_
  obtain ⟨its, n, ho, H, hl⟩ := S.listR ha
  obtain ⟨its2, n2, ho2, H2, hl2⟩ := S.listR hb
  obtain ⟨m, news, F, N, mk, _⟩ := S.lib
  have h1 := H.length
  have h2 := H2.length
  simp at h1 h2
  exact add_arrays F N hl hl2 (fun h' F' N' => ⟨_, _, .ref _, mk h' s.toks _ _ (.list (vs ++ ws)) (.inl (Nat.le_refl _)) F' N' ⟨(its.toList ++ its2.toList).toArray, 0, rfl, by simpa using H.append H2⟩, q _⟩) (by rw [sizeLine_eq]; omega)
theorem foldl_app {α : Type} : ∀ (k : Nat) (xs acc : Array α), (List.foldl (fun x1 x2 => x1 ++ x2) acc (List.replicate k xs)).toList = acc.toList ++ (List.replicate k xs.toList).flatten
  | 0, xs, acc => by simp
  | k + 1, xs, acc => by
    rw [List.replicate_succ, List.foldl_cons, foldl_app k xs, List.replicate_succ]
    simp
theorem All2.rep {α β : Type} {R : α → β → Prop} {l : List α} {m : List β} (h : All2 R l m) : ∀ k, All2 R (List.replicate k l).flatten (List.replicate k m).flatten
  | 0 => .nil
  | k + 1 => by simp only [List.replicate_succ, List.flatten_cons]; exact h.append (h.rep k)
theorem bo_mulL {a : Addr} {vs : List V} {x : Int} (ha : (a, AObj.list vs) ∈ st.hp) (hne : vs ≠ []) (hx : 0 ≤ x) (hx' : x ≤ 16777216) (hz : vs.length * x.toNat ≤ 16777216) (q : ∀ D, Q (.ref D) ⟨st.loc, (D, .list (List.replicate x.toNat vs).flatten) :: st.hp⟩) : BO c .Mult (.ref a) (.int x) st Q := fun v v' r r' => by
  cases r; cases r'
  refine TR.leaf fun φ s S => ?_
  obtain ⟨its, n, ho, H, hl⟩ := S.list ha
  obtain ⟨m, news, F, N, mk, _⟩ := S.lib
  have h1 := H.length
  simp at h1
  refine mul_list F N ho (by omega) (by omega) (by rw [h1]; exact hz) (fun h' F' N' => ⟨_, _, .ref _, mk h' s.toks _ _ (.list (List.replicate x.toNat vs).flatten) (.inl (Nat.le_refl _)) F' N' ⟨_, 0, rfl, ?_⟩, q _⟩)
  have he : its.isEmpty = false := by
    cases hv : vs with
    | nil => exact absurd hv hne
    | cons x r => rw [Array.isEmpty_eq_false_iff]; intro e; rw [e, hv] at h1; simp at h1
  rw [he]
  simp only [Bool.false_eq_true, if_false, foldl_app]
  exact H.rep _
theorem noInplace_list : fillsInplaceSlot (.type "list") "add" (Operator.Add == Operator.Add) = pure false := by
  unfold fillsInplaceSlot
  have h := F.slot_list_iadd.lookup
  simp only [h, pure_bind]
  have : isSeqSlot (some (Value.builtin "list.__iadd__")) = true := by decide +kernel
  simp [this]
theorem seq_list_iadd : seqSlot? (.type "list") (dunderI "add") = pure (some (.builtin "list.__iadd__")) := PySem.seqSlot_of F.slot_list_iadd.lookup (by decide +kernel)
theorem io_addL {a b : Addr} {vs ws : List V} {hp' : Hp} (u : Upd st.hp a (.list vs) (.list (vs ++ ws)) hp') (hb : RL st.hp b ws) (hz : vs.length + ws.length ≤ 16777216) (q : Q (.ref a) ⟨st.loc, hp'⟩) : IO c .Add (.ref a) (.ref b) st Q := fun v v' r r' => by
  cases r; cases r'
  obtain ⟨pre, post, e1, rfl⟩ := u.split
  refine TR.leaf fun φ s S => ?_
  obtain ⟨its, n, ho, H, hl⟩ := S.list (a := a) (vs := vs) (by rw [e1]; simp)
  obtain ⟨its2, n2, ho2, H2, hl2⟩ := S.listR hb
  have h1 := H.length
  have h2 := H2.length
  simp at h1 h2
  unfold inplaceOp
  refine wpAny_holding ?_
  dsimp only
  refine wpAny_bind (wpAny_typeOf hl.typeIs ?_)
  show wpAny _ _ (fillsInplaceSlot (.type "list") "add" (Operator.Add == Operator.Add) >>= _) _ _ s
  rw [noInplace_list]
  refine wpAny_bind (wpAny_pure ?_)
  show wpAny _ _ (binaryOp1 "add" (.ref a) (.ref b) >>= _) _ _ s
  refine wpAny_bind (binaryOp1_none hl.typeIs hl2.typeIs noFill_list_add ?_)
  show wpAny _ _ (seqSlot? (.type "list") (dunderI "add") >>= _) _ _ s
  rw [seq_list_iadd]
  refine wpAny_bind (wpAny_pure ?_)
  refine wpAny_bind (wpAny_rule ?_)
  have hm : ∀ (f : Array Value → Array Value), Obj.mapSeq f (W.listOf its n) = W.listOf (f its) (if (f its).size == its.size then n else n + 1) := fun f => rfl
  have hs : its.size ≤ sizeLine := by rw [sizeLine_eq]; omega
  have hs2 : its.size + its2.size ≤ sizeLine + 1 := by rw [sizeLine_eq]; omega
  have hs3 : ¬ (!its.isEmpty && Builtin.List.listTooLong (its.size + its2.size)) = true := by
    have : Builtin.List.listTooLong (its.size + its2.size) = false := by unfold Builtin.List.listTooLong; exact decide_eq_false (by rw [sizeLine_eq]; omega)
    rw [this]; simp
  refine wpAny_mono (call_meets F.slot_list_iadd hl.typeIs F.entry_list_iadd (F.args_list_iadd_2 _ _) (AutoSeq1.list___iadd___list_list_0 a its n b its2 n2 hs3 hs hs2) ⟨ho, ho2, (?_ : (fun v s' => ∃ x st', VR v x ∧ Sat c φ st' s' ∧ Q x st') (Value.ref a) _)⟩) (fun _ _ x => x) (fun _ _ x => x)
  refine ⟨_, _, .ref a, S.set (tk := s.toks) (ao' := .list (vs ++ ws)) e1 (Heap.SameBut.update ..).extBut (Heap.get?_update_self _ ho (by rw [hm]; rfl)) ?_, q⟩
  rw [hm]
  exact ⟨_, _, rfl, by simpa using H.append H2⟩
theorem si_list {a : Addr} {vs : List V} {k : Int} {v : V} {hp' : Hp} {Q : St → Prop} (u : Upd st.hp a (.list vs) (.list (vs.set k.toNat v)) hp') (h0 : 0 ≤ k) (hk : k < vs.length) (hz : vs.length ≤ 16777216) (q : Q ⟨st.loc, hp'⟩) : SI c (.ref a) (.int k) v st Q := fun ov iv vv ro ri rv => by
  cases ro; cases ri
  obtain ⟨pre, post, e1, rfl⟩ := u.split
  refine TR.leaf fun φ s S => ?_
  obtain ⟨its, n, ho, H, hl⟩ := S.list (a := a) (vs := vs) (by rw [e1]; simp)
  have h1 := H.length
  simp at h1
  have hm : ∀ (f : Array Value → Array Value), Obj.mapSeq f (W.listOf its n) = W.listOf (f its) (if (f its).size == its.size then n else n + 1) := fun f => rfl
  refine ki_setAt ho h0 (by omega) (by omega) ⟨(), _, trivial, S.set (tk := s.toks) (ao' := .list (vs.set k.toNat v)) e1 (Heap.SameBut.update ..).extBut (Heap.get?_update_self _ ho (by rw [hm]; rfl)) ?_, q⟩
  rw [hm]
  exact ⟨_, _, rfl, by simpa using H.set rv k.toNat⟩
/-! ### ranges -/
theorem ca_range1 {n : Int} (q : ∀ r, Q (.ref r) ⟨st.loc, (r, .range 0 n 1) :: st.hp⟩) : CAt c "range" [.int n] st Q := fun ws r => by
  cases r with
  | cons r h => cases h; cases r; exact TR.leaf fun φ s S => call_range_1 ⟨_, _, .ref _, (S.toks (s.toks + 1 + 1)).alloc (ao := .range 0 n 1) rfl ⟨_, _, _, rfl⟩, q _⟩
theorem ca_range3 {a b d : Int} (hd : d ≠ 0) (hp : Builtin.divisionGoesByPylong (b - a) d = false) (q : ∀ r, Q (.ref r) ⟨st.loc, (r, .range a b d) :: st.hp⟩) : CAt c "range" [.int a, .int b, .int d] st Q := fun ws r => by
  cases r with
  | cons r h => cases h with
    | cons r' h => cases h with
      | cons r'' h => cases h; cases r; cases r'; cases r''; exact TR.leaf fun φ s S => call_range_3 hd ⟨_, _, .ref _, (S.toks s.toks).alloc (ao := .range a b d) rfl ⟨_, _, _, rfl⟩, q _⟩ (.inl hp)
noncomputable def rItems (a : Int) (n : Nat) (d : Int) : List V := (List.range n).map fun i : Nat => V.int (a + i * d)
theorem rItems_get {a : Int} {n : Nat} {d : Int} {i : Nat} {v : V} (h : (rItems a n d)[i]? = some v) : i < n ∧ v = .int (a + i * d) := by
  unfold rItems at h
  rw [List.getElem?_map] at h
  rcases Nat.lt_or_ge i n with hi | hi
  · rw [List.getElem?_range hi] at h; exact ⟨hi, (Option.some.inj h).symm⟩
  · rw [List.getElem?_eq_none (by simpa using hi)] at h; cases h
theorem rItems_length (a : Int) (n : Nat) (d : Int) : (rItems a n d).length = n := by simp [rItems]
theorem iter_range {c : Fc} (hA : c.A.handled = none) (it : Addr) (a d : Int) (n : Nat) : Iter c it (fun i => .riter (a + i * d) (n - i) d) (rItems a n d) (fun _ => True) where
  nxt := fun i v loc hp hv _ => TR.leaf fun φ s S => by
    obtain ⟨hi, rfl⟩ := rItems_get hv
    obtain ⟨o, ho, hor⟩ := S.at (a := it) (ao := .riter (a + i * d) (n - i) d) (.head _)
    have hor : o = _ := hor
    subst hor
    refine wpAny_pyNext_range_item ho (by omega) fun h' hi' hs => ⟨_, _, .some (.int _ _), S.set (pre := []) (post := hp) (tk := _) (ao' := .riter (a + (i + 1 : Nat) * d) (n - (i + 1 : Nat)) d) rfl hs.extBut hi' ?_, rfl, rfl⟩
    show _ = _
    have e1 : a + (i : Int) * d + d = a + ((i + 1 : Nat) : Int) * d := by rw [Int.natCast_succ, Int.add_mul]; omega
    have e2 : (n : Int) - i - 1 = n - ((i + 1 : Nat) : Int) := by omega
    rw [e1, e2]
  fin := fun loc hp _ => TR.leaf fun φ s S => by
    rw [rItems_length] at S
    obtain ⟨o, ho, hor⟩ := S.at (a := it) (ao := .riter (a + n * d) (n - n) d) (.head _)
    have hor : o = _ := hor
    subst hor
    exact wpAny_pyNext_range_end hA ho (by omega) fun h' hs => ⟨_, _, .none, (by
      obtain ⟨n1, H1, S'⟩ := Sat.inFrame (fr := [_]) S
      cases H1 with
      | cons r H1 =>
        cases H1
        rename_i p
        obtain ⟨a', o'⟩ := p
        obtain ⟨e, _⟩ := r
        have e : a' = it := e
        subst e
        exact Sat.dropFrame (tk := s.toks) S' S.frm hs), rfl, rfl⟩
  self := fun i loc hp _ => TR.leaf fun φ s S => by
    obtain ⟨o, ho, hor⟩ := S.at (a := it) (ao := .riter (a + i * d) (n - i) d) (.head _)
    have hor : o = _ := hor
    subst hor
    exact wpAny_pyIter_rangeiter ho ⟨_, _, .ref _, S, rfl, rfl⟩
theorem it_range {r : Addr} {a b d : Int} {n : Nat} {loc : Loc} {hp : Hp} {P : List V → (Hp → Prop) → St → Prop} (hs : Builtin.Range.small a b d = true) (hn : Builtin.Range.rangeSize a b d = n)
    (q : P (rItems a n d) (fun _ => True) ⟨loc, hp⟩) (hd : c.hd = false := by rfl) : ITER c (.ref r) ⟨loc, (r, .range a b d) :: hp⟩ P := fun val rv => by
  cases rv
  intro φ s S
  have hA := S.ok.hand hd
  refine lift ?_
  obtain ⟨o, ho, t, u, v, rfl⟩ := S.at (a := r) (ao := .range a b d) (.head _)
  refine wpAny_pyIter_range ho hs ⟨_, _, .ref _, ((S.drop (l := [_]) rfl).alloc (ao := .riter a n d) rfl (by rw [hn]; rfl)), ?_⟩
  refine ⟨s.heap.objs.size, _, _, _, ⟨loc, hp⟩, rfl, ?_, fun c' e => iter_range (by rw [e]; exact hA) s.heap.objs.size a d n, fun _ _ _ _ => trivial, q⟩
  simp
theorem small_of {a b d : Int} (ha : -2305843009213693952 ≤ a) (ha' : a ≤ 2305843009213693952) (hb : -2305843009213693952 ≤ b) (hb' : b ≤ 2305843009213693952) (hd : 0 < d) (hd' : d ≤ 2305843009213693952) : Builtin.Range.small a b d = true := by
  have hsz : 0 ≤ Builtin.Range.rangeSize a b d ∧ Builtin.Range.rangeSize a b d ≤ 9223372036854775807 := by
    unfold Builtin.Range.rangeSize
    rw [if_pos hd]
    split
    · have h1 : 0 ≤ (b - a - 1) / d := Int.ediv_nonneg (by omega) (by omega)
      have h2 : (b - a - 1) / d ≤ b - a - 1 := Int.ediv_le_self _ (by omega)
      omega
    · omega
  unfold Builtin.Range.small
  have f : ∀ x : Int, -9223372036854775808 ≤ x → x ≤ 9223372036854775807 → Builtin.Range.rangeFitsLong x = true := fun x h h' => by
    unfold Builtin.Range.rangeFitsLong
    simp only [Bool.and_eq_true, decide_eq_true_eq]
    exact ⟨by exact h, by show x < 9223372036854775808; omega⟩
  rw [f a (by omega) (by omega), f b (by omega) (by omega), f d (by omega) (by omega), f _ (by omega) hsz.2, if_pos hd, f (b + (d - 1)) (by omega) (by omega)]
  simp
theorem size_step1 {a b : Int} : Builtin.Range.rangeSize a b 1 = ((b - a).toNat : Int) := by
  unfold Builtin.Range.rangeSize
  rw [if_pos (by decide)]
  split
  · rw [Int.ediv_one]; omega
  · omega
end
end Mine

set_option maxRecDepth 100000
set_option Elab.async false
set_option linter.unusedVariables false
open PySem PySem.W PyProof.Rows PySem.Calls
namespace Mine

section
variable {c : Fc} {st : St} {Q : V → St → Prop}
/-! ### iteration over lists and bytes -/
theorem Sat.dropHead {c : Fc} {φ : List (Addr × Obj)} {loc : Loc} {it : Addr} {ao : AObj} {hp : Hp} {s : Shared} (S : Sat c φ ⟨loc, (it, ao) :: hp⟩ s) {h' : Heap} {tk : Tok} (hs : Heap.ExtBut it s.heap h') : Sat c φ ⟨loc, hp⟩ { s with heap := h', toks := tk } := by
  obtain ⟨n1, H1, S'⟩ := Sat.inFrame (fr := [_]) S
  cases H1 with
  | cons r H1 =>
    cases H1
    rename_i p
    obtain ⟨a', o'⟩ := p
    obtain ⟨e, _⟩ := r
    have e : a' = it := e
    subst e
    exact Sat.dropFrame (tk := tk) S' S.frm hs
theorem iter_list {c : Fc} (hA : c.A.handled = none) (it l : Addr) (vs : List V) : Iter c it (fun i => .liter l i) vs (fun hp => RL hp l vs) where
  nxt := fun i v loc hp hv hsrc => TR.leaf fun φ s S => by
    obtain ⟨o, ho, hor⟩ := S.at (a := it) (ao := .liter l i) (.head _)
    obtain ⟨its, n, hl, H, hL⟩ := S.listR (RL.there hsrc)
    obtain ⟨x, hx, r⟩ := H.get hv
    refine wpAny_pyNext_list_item (x := x) ⟨o, ho, hor⟩ hL (by simpa using hx) fun h' hi' hs => ?_
    obtain ⟨o', ho', hor'⟩ := hi'
    exact ⟨_, _, .some r, S.set (pre := []) (post := hp) (tk := s.toks) (ao' := .liter l (i + 1)) rfl hs.extBut ho' hor', rfl, rfl⟩
  fin := fun loc hp hsrc => TR.leaf fun φ s S => by
    obtain ⟨o, ho, hor⟩ := S.at (a := it) (ao := .liter l vs.length) (.head _)
    obtain ⟨its, n, hl, H, hL⟩ := S.listR (RL.there hsrc)
    have e := H.length
    simp at e
    exact wpAny_pyNext_list_end hA ⟨o, ho, hor⟩ hL (by rw [Array.getElem?_eq_none]; omega) fun h' hs => ⟨_, _, .none, S.dropHead (tk := s.toks) hs, rfl, rfl⟩
  self := fun i loc hp hsrc => TR.leaf fun φ s S => by
    obtain ⟨o, ho, hor⟩ := S.at (a := it) (ao := .liter l i) (.head _)
    exact wpAny_pyIter_listiter ⟨o, ho, hor⟩ ⟨_, _, .ref _, S, rfl, rfl⟩
theorem it_list {l : Addr} {vs : List V} {P : List V → (Hp → Prop) → St → Prop} (hm : RL st.hp l vs) (q : P vs (fun hp => RL hp l vs) st) (hd : c.hd = false := by rfl) : ITER c (.ref l) st P := fun val rv => by
  cases rv
  intro φ s S
  have hA := S.ok.hand hd
  refine lift ?_
  obtain ⟨its, n, hl, H, hL⟩ := S.listR hm
  exact wpAny_pyIter_list hL ⟨_, _, .ref _, S.alloc (ao := .liter l 0) rfl ⟨rfl, rfl⟩, ⟨s.heap.objs.size, _, _, _, st, rfl, rfl, fun c' e => iter_list (by rw [e]; exact hA) s.heap.objs.size l vs, fun _ _ k r => r.sub k, q⟩⟩
/-! ### calls of built-ins -/
theorem bnat_byteArr {ns : List Int} (h : ∀ n ∈ ns, 0 ≤ n ∧ n < 256) : bnat (byteArr ns) = ns.map Int.toNat := by
  unfold bnat byteArr
  rw [List.map_map]
  refine List.map_congr_left fun n hn => ?_
  have := h n hn
  show n.toNat.toUInt8.toNat = n.toNat
  rw [Nat.toUInt8, UInt8.toNat_ofNat']
  omega
theorem ca_bytesL {a : Addr} {ns : List Int} (hm : RL st.hp a (ns.map V.int)) (hin : ∀ n ∈ ns, 0 ≤ n ∧ n < 256) (hz : ns.length ≤ 16777216) (q : Q (.bytes (ns.map Int.toNat)) st) (hd : c.hd = false := by rfl) : CAt c "bytes" [.ref a] st Q := fun ws r => by
  cases r with
  | cons r h =>
    cases h; cases r
    refine TR.leaf fun φ s S => ?_
    obtain ⟨its, n, hl, H, hL⟩ := S.listR hm
    obtain ⟨m, news, F, N, _, mk⟩ := S.lib
    refine KBa.make_K F N (S.ok.hand hd) (vs := its.toList) (by simpa using hL) (intsAre H) hin hz fun h' t' k F' N' _ => ⟨.bytes (ns.map Int.toNat), _, ?_, mk h' k F' N', q⟩
    rw [← bnat_byteArr hin]; exact .bytes _ _
theorem ca_listL {a : Addr} {vs : List V} (hm : RL st.hp a vs) (hz : vs.length ≤ 16777216) (q : ∀ D, Q (.ref D) ⟨st.loc, (D, .list vs) :: st.hp⟩) : CAt c "list" [.ref a] st Q := fun ws r => by
  cases r with
  | cons r h =>
    cases h; cases r
    refine TR.leaf fun φ s S => ?_
    obtain ⟨its, n, hl, H, hL⟩ := S.listR hm
    obtain ⟨m, news, F, N, mk, _⟩ := S.lib
    have e := H.length
    simp at e
    exact list_copyK F N hL (fun D k h' F' N' hD => ⟨_, _, .ref _, mk h' s.toks D _ (.list vs) (.inr hD) F' N' ⟨_, _, rfl, H⟩, q D⟩) (by rw [sizeLine_eq]; omega)
theorem ca_sum {a : Addr} {ns : List Int} (hm : RL st.hp a (ns.map V.int)) (q : Q (.int ns.sum) st) (hd : c.hd = false := by rfl) : CAn c "sum" [.ref a] st Q := fun ws r => by
  cases r with
  | cons r h =>
    cases h; cases r
    refine TR.leaf fun φ s S => ?_
    obtain ⟨its, n, hl, H, hL⟩ := S.listR hm
    obtain ⟨m, news, F, N, _, mk⟩ := S.lib
    exact LSm.sum_ints F N (S.ok.hand hd) (vs := its.toList) (by simpa using hL) (intsAre H) fun h' k t' F' N' => ⟨_, _, .int _ _, mk h' k F' N', q⟩
theorem ca_max {a : Addr} {ns : List Int} (hm : RL st.hp a (ns.map V.int)) (h0 : ns ≠ []) (q : ∀ M, M ∈ ns → (∀ x ∈ ns, x ≤ M) → Q (.int M) st) (hd : c.hd = false := by rfl) : CAn c "max" [.ref a] st Q := fun ws r => by
  cases r with
  | cons r h =>
    cases h; cases r
    refine TR.leaf fun φ s S => ?_
    obtain ⟨its, n, hl, H, hL⟩ := S.listR hm
    obtain ⟨m, news, F, N, _, mk⟩ := S.lib
    exact max_list_N (S.ok.hand hd) F N (vs := its.toList) (by simpa using hL) (intsAre H) (List.length_pos_iff.mpr h0) fun h' M t tk F' N' h1 h2 => ⟨_, _, .int _ _, mk h' tk F' N', q M h1 h2⟩
theorem ca_min {a : Addr} {ns : List Int} (hm : RL st.hp a (ns.map V.int)) (h0 : ns ≠ []) (q : ∀ M, M ∈ ns → (∀ x ∈ ns, M ≤ x) → Q (.int M) st) (hd : c.hd = false := by rfl) : CAn c "min" [.ref a] st Q := fun ws r => by
  cases r with
  | cons r h =>
    cases h; cases r
    refine TR.leaf fun φ s S => ?_
    obtain ⟨its, n, hl, H, hL⟩ := S.listR hm
    obtain ⟨m, news, F, N, _, mk⟩ := S.lib
    exact min_list_N (S.ok.hand hd) F N (vs := its.toList) (by simpa using hL) (intsAre H) (List.length_pos_iff.mpr h0) fun h' M t tk F' N' h1 h2 => ⟨_, _, .int _ _, mk h' tk F' N', q M h1 h2⟩
theorem ca_isBytes {l : List Nat} (q : Q (.bool true) st) : CAn c "isinstance" [.bytes l, .type "bytes"] st Q := fun ws r => by
  cases r with
  | cons r h => cases h with
    | cons r' h => cases h; cases r; cases r'; exact TR.leaf fun φ s S => call_isinstance (isinstance_true (Tx := "bytes") F.isi_meta_bytes PySem.F.sub_bytes_bytes) ⟨rfl, ⟨_, _, .bool _, S, q⟩⟩
/-! ### equality -/
mutual
inductive RD (hp : Hp) : V → PyData → Prop
  | int (i : Int) : RD hp (.int i) (.int i)
  | list {a : Addr} {vs : List V} {ds : List PyData} : RL hp a vs → RDs hp vs ds → RD hp (.ref a) (.list ds)
inductive RDs (hp : Hp) : List V → List PyData → Prop
  | nil : RDs hp [] []
  | cons {v : V} {d : PyData} {vs : List V} {ds : List PyData} : RD hp v d → RDs hp vs ds → RDs hp (v :: vs) (d :: ds)
end
mutual
theorem RD.reads {c : Fc} {φ : List (Addr × Obj)} {st : St} {s : Shared} (S : Sat c φ st s) : ∀ {v : V} {d : PyData}, RD st.hp v d → ∀ {val : Value}, VR val v → ∃ as, Reads s.heap val d as
  | _, _, .int i, _, r => by cases r; exact ⟨_, .int _ _⟩
  | _, _, .list (a := a) (vs := vs) hm hs, _, r => by
    cases r
    obtain ⟨its, n, hl, H, hL⟩ := S.listR hm
    obtain ⟨as, ha⟩ := RDs.reads S hs H
    exact ⟨_, .list hl rfl rfl ha⟩
theorem RDs.reads {c : Fc} {φ : List (Addr × Obj)} {st : St} {s : Shared} (S : Sat c φ st s) : ∀ {vs : List V} {ds : List PyData}, RDs st.hp vs ds → ∀ {vals : List Value}, All2 VR vals vs → ∃ as, ReadsAll s.heap vals ds as
  | _, _, .nil, _, r => by cases r; exact ⟨_, .nil⟩
  | _, _, .cons h hs, _, r => by
    cases r with
    | cons r rs =>
      obtain ⟨as, ha⟩ := RD.reads S h r
      obtain ⟨bs, hb⟩ := RDs.reads S hs rs
      exact ⟨_, .cons ha hb⟩
end
mutual
theorem RD.lay {hp : Hp} : ∀ {v : V} {d : PyData}, RD hp v d → d.canLay0 = true
  | _, _, .int i => by simp [PyData.canLay0]
  | _, _, .list _ hs => by simp [PyData.canLay0, RDs.lay hs]
theorem RDs.lay {hp : Hp} : ∀ {vs : List V} {ds : List PyData}, RDs hp vs ds → PyData.canLayAll0 ds = true
  | _, _, .nil => by simp [PyData.canLayAll0]
  | _, _, .cons h hs => by simp [PyData.canLayAll0, RD.lay h, RDs.lay hs]
end
theorem RDs.ints {hp : Hp} : ∀ ns : List Int, RDs hp (ns.map V.int) (ns.map PyData.int)
  | [] => .nil
  | n :: r => .cons (.int n) (RDs.ints r)
theorem RD.ints {hp : Hp} {a : Addr} {ns : List Int} (h : RL hp a (ns.map V.int)) : RD hp (.ref a) (.list (ns.map PyData.int)) := .list h (RDs.ints ns)
theorem co_eqD {x y : V} {d e : PyData} (hx : RD st.hp x d) (hy : RD st.hp y e) (h1 : d.depth ≤ 64) (h2 : e.depth ≤ 64) (q : Q (.bool (PyData.eqv d e)) st) : CO c .Eq x y st Q := fun v v' r r' => TR.leaf fun φ s S => by
  obtain ⟨as, ha⟩ := hx.reads S r
  obtain ⟨bs, hb⟩ := hy.reads S r'
  have := S.ok.units
  exact eq_dataH ha hb (by simp [SeqAt.shaped, hx.lay, h1]) (by simp [SeqAt.shaped, hy.lay, h2]) (by show c.A.units + 64 < 9900; omega) ⟨_, _, .bool _, S, q⟩
theorem co_neD {x y : V} {d e : PyData} (hx : RD st.hp x d) (hy : RD st.hp y e) (h1 : d.depth ≤ 64) (h2 : e.depth ≤ 64) (q : Q (.bool !(PyData.eqv d e)) st) : CO c .NotEq x y st Q := fun v v' r r' => TR.leaf fun φ s S => by
  obtain ⟨as, ha⟩ := hx.reads S r
  obtain ⟨bs, hb⟩ := hy.reads S r'
  have := S.ok.units
  exact ne_dataH ha hb (by simp [SeqAt.shaped, hx.lay, h1]) (by simp [SeqAt.shaped, hy.lay, h2]) (by show c.A.units + 64 < 9900; omega) ⟨_, _, .bool _, S, q⟩
theorem eqvAll_map {α : Type} [DecidableEq α] (f : α → PyData) (hf : ∀ a b, PyData.eqv (f a) (f b) = decide (a = b)) : ∀ l m : List α, PyData.eqvAll (l.map f) (m.map f) = decide (l = m)
  | [], [] => by simp [PyData.eqvAll]
  | [], _ :: _ => by simp [PyData.eqvAll]
  | _ :: _, [] => by simp [PyData.eqvAll]
  | a :: r, b :: t => by
    simp only [List.map_cons, PyData.eqvAll, hf, eqvAll_map f hf r t]
    by_cases h : a = b <;> by_cases h' : r = t <;> simp [h, h']
noncomputable abbrev dInts (ns : List Int) : PyData := .list (ns.map PyData.int)
noncomputable abbrev dRows (r : List (List Int)) : PyData := .list (r.map dInts)
theorem eqv_int (a b : Int) : PyData.eqv (.int a) (.int b) = decide (a = b) := by simp [PyData.eqv]; rfl
theorem eqv_ints (a b : List Int) : PyData.eqv (dInts a) (dInts b) = decide (a = b) := by rw [PyData.eqv, eqvAll_map _ eqv_int]
theorem eqv_rows (a b : List (List Int)) : PyData.eqv (dRows a) (dRows b) = decide (a = b) := by rw [PyData.eqv, eqvAll_map _ eqv_ints]
theorem depthAll_map {α : Type} (f : α → PyData) (k : Nat) (hf : ∀ a, (f a).depth ≤ k) : ∀ l : List α, PyData.depthAll (l.map f) ≤ k
  | [] => by simp [PyData.depthAll]
  | a :: r => by simp only [List.map_cons, PyData.depthAll]; have := hf a; have := depthAll_map f k hf r; omega
theorem depth_ints (a : List Int) : (dInts a).depth ≤ 1 := by
  rw [PyData.depth]; have := depthAll_map PyData.int 0 (fun a => by simp [PyData.depth]) a; omega
theorem depth_rows (a : List (List Int)) : (dRows a).depth ≤ 2 := by
  rw [PyData.depth]; have := depthAll_map dInts 1 depth_ints a; omega
theorem co_eqInts {a b : Addr} {ns ms : List Int} (ha : RL st.hp a (ns.map V.int)) (hb : RL st.hp b (ms.map V.int)) (q : Q (.bool (decide (ns = ms))) st) : CO c .Eq (.ref a) (.ref b) st Q :=
  co_eqD (.ints ha) (.ints hb) (Nat.le_trans (depth_ints _) (by decide)) (Nat.le_trans (depth_ints _) (by decide)) (by rw [eqv_ints]; exact q)
theorem co_neInts {a b : Addr} {ns ms : List Int} (ha : RL st.hp a (ns.map V.int)) (hb : RL st.hp b (ms.map V.int)) (q : Q (.bool !(decide (ns = ms))) st) : CO c .NotEq (.ref a) (.ref b) st Q :=
  co_neD (.ints ha) (.ints hb) (Nat.le_trans (depth_ints _) (by decide)) (Nat.le_trans (depth_ints _) (by decide)) (by rw [eqv_ints]; exact q)
/-- lists of bytes -/
theorem co_eqBL {a b : Addr} {xs ys : List (List Nat)} (ha : RL st.hp a (xs.map V.bytes)) (hb : RL st.hp b (ys.map V.bytes)) (q : Q (.bool (decide (xs = ys))) st) : CO c .Eq (.ref a) (.ref b) st Q := fun v v' r r' => by
  cases r; cases r'
  refine TR.leaf fun φ s S => ?_
  obtain ⟨its, n, hl, H, hL⟩ := S.listR ha
  obtain ⟨its2, n2, hl2, H2, hL2⟩ := S.listR hb
  have h1 := H.length
  have h2 := H2.length
  simp at h1 h2
  have hu : c.A.units < cLine := by have := S.ok.units; show c.A.units < 9900; omega
  by_cases e : xs.length = ys.length
  · have pick : ∀ (its : Array Value) (xs : List (List Nat)), All2 VR its.toList (xs.map V.bytes) → ∀ j (h : j < its.size), ∃ b t, its[j] = .bytes b t ∧ xs[j]? = some (bnat b) := by
      intro its xs H j h
      obtain ⟨x, hx, r⟩ := H.getL (i := j) (a := its[j]) (by simp [h])
      rw [List.getElem?_map] at hx
      obtain ⟨l, hl, rfl⟩ := Option.map_eq_some_iff.mp hx
      generalize its[j] = val at r
      cases r
      exact ⟨_, _, rfl, hl⟩
    refine P.eq_list (n := n) (n2 := n2) (e := fun j => decide (xs[j]? = ys[j]?)) hl hl2 (by omega) (fun j g1 g2 => ?_) hu ⟨.bool (decide (xs = ys)), st, ?_, S, q⟩
    · obtain ⟨b1, t1, e1, f1⟩ := pick its xs H j g1
      obtain ⟨b2, t2, e2, f2⟩ := pick its2 ys H2 j g2
      intro prog w A E s Q hq
      rw [e1, e2]
      refine eqBool_bytes ?_
      have : decide (b1.toList = b2.toList) = decide (xs[j]? = ys[j]?) := by
        rw [f1, f2]
        have := bytes_eq_bnat b1 b2
        rw [Bool.eq_iff_iff] at this ⊢
        simp only [beq_iff_eq, decide_eq_true_eq, Option.some.injEq] at this ⊢
        exact this
      rw [this]; exact hq
    · have : (List.range its.size).all (fun j => decide (xs[j]? = ys[j]?)) = decide (xs = ys) := by
        rw [Bool.eq_iff_iff]
        simp only [List.all_eq_true, List.mem_range, decide_eq_true_eq]
        constructor
        · intro h
          refine List.ext_getElem? fun j => ?_
          rcases Nat.lt_or_ge j its.size with hj | hj
          · exact h j hj
          · rw [List.getElem?_eq_none (by omega), List.getElem?_eq_none (by omega)]
        · intro h j _; rw [h]
      rw [this]; exact .bool _
  · refine P.eq_list_lengths (n := n) (n2 := n2) hl hl2 (by simp; omega) hu ⟨.bool (decide (xs = ys)), st, ?_, S, q⟩
    have : decide (xs = ys) = false := decide_eq_false fun h => e (by rw [h])
    rw [this]; exact .bool _
end
end Mine

set_option maxRecDepth 100000
set_option Elab.async false
set_option linter.unusedVariables false
open PySem PySem.W PyProof.Rows PySem.Calls
namespace Mine

namespace FA
theorem mro_ba : mroOf (.type "bytearray") = pure [.type "bytearray", .type "object"] := by rw [mroOf_type]; kernel_rfl
theorem look_new : typeLookup (.type "bytearray") "__new__" = pure (some (.builtin "bytearray.__new__")) := by rw [typeLookup_type, builtinLookup_eq_fast]; kernel_rfl
theorem slot_init : Slot "bytearray" "__init__" "bytearray.__init__" :=
  .of (owner := "bytearray") (n := "__init__") (by rw [typeLookup_type, builtinLookup_eq_fast]; kernel_rfl) (by decide +kernel) (by decide +kernel) (by decide +kernel)
    (by first | exact .inl (by decide +kernel) | exact .inr (by decide +kernel)) (by rw [isSubtype_type]; kernel_rfl)
theorem called : TypeCalled "bytearray" "bytearray.__new__" "bytearray.__init__" :=
  ⟨by decide +kernel, by decide +kernel, ⟨_, _, mro_ba⟩, madeBy_type mro_ba look_new (by decide +kernel), by decide +kernel, by rw [isSubtype_type]; kernel_rfl, slot_init⟩
theorem typeCall_1 (a : Value) : checkTypeCall "bytearray" ⟨[a], []⟩ = pure () := by kernel_rfl
theorem newCall_1 (a : Value) : checkBuiltinCall "bytearray.__new__" ⟨[.type "bytearray", a], []⟩ = pure () := by kernel_rfl
theorem entry_new : entryFor table "bytearray.__new__" = some Builtin.«list.__new__» :=
  entryFor_alias (id' := "list.__new__") (by kernel_rfl) (by first | rfl | decide +kernel) (by decide +kernel) (by kernel_rfl)
theorem plain_new : plainId "bytearray.__new__" = true := by decide +kernel
theorem owner_ba : Manifest.owners.lookup (String.ofList ['y', 'a', 'r', 'r', 'a', 'e', 't', 'y', 'b'].reverse) = some Manifest.sig_bytearray := by kernel_rfl
theorem entry_init : entryFor table "bytearray.__init__" = some Builtin.«bytearray.__init__» := entryFor_of_tree (by kernel_rfl)
theorem args_init_2 (a b : Value) : argsOk "bytearray.__init__" ⟨[a, b], []⟩ := by
  unfold argsOk; rw [signature?_of (id := "bytearray.__init__") (n := ['_', '_', 't', 'i', 'n', 'i', '_', '_']) (o := ['y', 'a', 'r', 'r', 'a', 'e', 't', 'y', 'b']) (by kernel_rfl) owner_ba]; kernel_rfl
theorem sub_self : isSubtype (.type "bytearray") (.type "bytearray") = pure true := by rw [isSubtype_type]; kernel_rfl
end FA
set_option maxRecDepth 1000000 in
set_option maxHeartbeats 4000000 in
theorem owner_ba_new : ("bytearray.__new__".splitOn ".__new__").headD "" = "bytearray" := by simp +decide [String.splitOn, String.splitOnAux]

section
variable {prog : Program} {w : World} {A : Around} {E : Value → Shared → Prop} {s : Shared}
theorem code_ba_new (a : Value) {Q₁ : Value → Shared → Prop}
    (h : Q₁ (.ref s.heap.objs.size) { s with heap := s.heap.push { cls := .type "bytearray", data := .bytearray #[] } }) :
    codeAny (model prog w) A (.call (.builtin "bytearray.__new__") ⟨[.type "bytearray", a], []⟩) (wants Q₁ E) s := by
  refine codeAny_of_tree ?_
  show wpAny _ A.in1 (do checkBuiltinCall "bytearray.__new__" ⟨[.type "bytearray", a], []⟩; again (.builtin "bytearray.__new__" ⟨[.type "bytearray", a], []⟩)) _ _ s
  refine wpAny_bind (wpAny_of_eq (FA.newCall_1 a) (wpAny_pure ⟨plainId_quiet FA.plain_new _, codeAny_builtin_stack FA.entry_new rfl fun p st => ?_⟩))
  rw [Around.under_plainId FA.plain_new _]
  have hsub := FA.sub_self
  have hown := owner_ba_new
  obtain ⟨hp, g, d, tk, os⟩ := s
  simp only [hown]
  wp_walk
  exact h
end

section
variable {prog : Program} {w : World} {A : Around} {E : Value → Shared → Prop} {s : Shared} {R : Result → Shared → Prop}
theorem codeN_builtin {id : String} {args : Args} {b : Builtin} (hb : entryFor table id = some b)
    (h : wpN (model prog w) (A.under (.builtin id args)) (b args)
      (fun fin s' => match fin with | .done f => R (.ok f) s' | .again c' => (c'.quiet = true ∧ held c' = false) ∧ codeN (model prog w) A c' R s') (fun e s' => R (.error e) s') s) :
    codeN (model prog w) A (.builtin id args) R s := by
  refine codeN_of_tree ?_
  show wpN _ _ (match entryFor table id with | some b => b args | none => unsupported ((withoutEnding? id "#data").getD id)) _ _ s
  rw [hb]; exact h
theorem dite_no {c : Prop} {i : Decidable c} {t : c → Bool} {e : ¬c → Bool} (hc : ¬c) (h : e hc = false) : dite c t e = false := by rw [dif_neg hc]; exact h
theorem wpN_exported {v : Value} {Q : Bool → Shared → Prop} (h : Q false s) : wpN (model prog w) A (Builtin.Bytes.exported v) Q E s := fun Γ p hΓ hN => by
  show Q (((Γ.code, p) :: Γ.below).any _) s
  have key : ∀ f : Code × Pos → Bool, (∀ x, held x.1 = false → f x = false) → ((Γ.code, p) :: Γ.below).any f = false := fun f hf => by
    rw [List.any_eq_false]
    intro x hx
    rw [hf x ?_]
    · decide
    · rcases List.mem_cons.mp hx with rfl | hx
      · exact hN.1
      · exact hN.2 x hx
  rw [key]
  · exact h
  · clear key h hΓ hN
    intro x hx
    obtain ⟨cd, p'⟩ := x
    delta Builtin.Bytes.exported.match_1
    dsimp only at hx ⊢
    cases cd with
    | builtin id args =>
      obtain ⟨pos, kw⟩ := args
      have hx : heldIds.contains id = false := hx
      have hne : ∀ k ∈ heldIds, id ≠ k := fun k hk e => by
        rw [e] at hx
        rw [List.contains_iff_mem.mpr hk] at hx
        cases hx
      have hdec : Builtin.Bytes.decodersThatHold.contains id = false := by
        cases hc : Builtin.Bytes.decodersThatHold.contains id with
        | false => rfl
        | true => exact absurd rfl (hne id (List.mem_append_left _ (List.contains_iff_mem.mp hc)))
      have c1 := hne "bytearray.__contains__" (by decide)
      have c2 := hne "bytearray.__mod__" (by decide)
      have c3 := hne "bytearray.__rmod__" (by decide)
      have c4 := hne "_struct.pack_into.held" (by decide)
      have c5 := hne "bytearray.find.held" (by decide)
      cases pos with
      | nil =>
        refine dite_no c1 ?_; refine dite_no c2 ?_; refine dite_no c3 ?_; refine dite_no c4 ?_; exact dite_no c5 rfl
      | cons y tail =>
        refine dite_no c1 ?_; refine dite_no c2 ?_; refine dite_no c3 ?_; refine dite_no c4 ?_; refine dite_no c5 ?_
        show (_ && Builtin.Bytes.decodersThatHold.contains id) = false; rw [hdec]; exact Bool.and_false _
    | _ => rfl
theorem wpN_else {α : Type} {M : Model} {c : Prop} {i : Decidable c} {a b : Sem α} {Q : α → Shared → Prop} (hc : ¬ c) (h : wpN M A b Q E s) : wpN M A (if c then a else b) Q E s := by rw [if_neg hc]; exact h
theorem wpN_of_eq {α : Type} {M : Model} {t u : Sem α} {Q : α → Shared → Prop} (e : t = u) (h : wpN M A u Q E s) : wpN M A t Q E s := e ▸ h
theorem callTypeN {T newId initId : String} {Bi : Builtin} {args : List Value} {Q Q₁ : Value → Shared → Prop} (ft : TypeCalled T newId initId)
    (hct : checkTypeCall T ⟨args, []⟩ = pure ()) (entryI : entryFor table initId = some Bi) (hkN : held (.builtin newId ⟨.type T :: args, []⟩) = false) (hkI : ∀ a, held (.builtin initId a) = false) (hpI : plainId initId = true)
    (hnew : codeAny (model prog w) A.in1 (.call (.builtin newId) ⟨.type T :: args, []⟩) (wants Q₁ E) s)
    (hnext : ∀ obj s₁, Q₁ obj s₁ → s₁.TypeIs obj T ∧ argsOk initId ⟨obj :: args, []⟩ ∧
      wpN (model prog w) A.in1.in1 (Bi ⟨obj :: args, []⟩)
        (fun fin s' => match fin with | .done f => wants (fun r s₂ => r = .none ∧ Q obj s₂) E (.ok f) s' | .again c' => (c'.quiet = true ∧ held c' = false) ∧ codeN (model prog w) A.in1 c' (wants (fun r s₂ => r = .none ∧ Q obj s₂) E) s')
        (fun e s' => wants (fun r s₂ => r = .none ∧ Q obj s₂) E (.error e) s') s₁) :
    wpN (model prog w) A (call (.type T) args) Q E s := by
  obtain ⟨c, tl, hmro⟩ := ft.mro
  have hmade := ft.made
  have hsub := ft.sub
  have h1 := ft.notType
  have h2 := ft.canCreate
  refine wpN_call (codeN_of_tree ?_)
  show wpN _ A.in1 (callAny (.type T) ⟨args, []⟩) _ _ s
  refine wpN_pure ⟨⟨Code.quiet_builtin _ (by decide +kernel), (by decide +kernel : heldIds.contains "type.__call__" = false)⟩, codeN_builtin F.entry_type_call ?_⟩
  rw [Around.under_plain (weight_type_call_type T args []) rfl]
  refine wpN_else (c := (Value.type T == Value.type "type") = true) (by rw [h1]; exact Bool.false_ne_true) ?_
  refine wpN_else (by rw [h2]; exact Bool.false_ne_true) ?_
  refine wpN_bind (m := checkTypeCall T ⟨args, []⟩) (wpN_of_eq hct (wpN_pure ?_))
  refine wpN_bind (m := mroOf (.type T)) (wpN_of_eq hmro (wpN_pure ?_))
  refine wpN_bind (m := Bind.madeBy (.type T)) (wpN_of_eq hmade (wpN_pure ?_))
  refine wpN_bind (m := pure (Value.builtin newId)) (wpN_pure ?_)
  refine wpN_bind (m := holding [Value.builtin newId] (call (.builtin newId) (.type T :: args) [])) (wpN_holding (wpN_call (codeLift (codeAny_mono (A := A.in1) hnew fun r s₁ hr => ?_))))
  cases r with
  | error e => exact hr
  | ok fl =>
    cases fl with
    | ret obj =>
      have hr : Q₁ obj s₁ := hr
      obtain ⟨hT, hok, hsi⟩ := hnext obj s₁ hr
      refine wpN_bind (lift (wpAny_isInstance hT hsub ?_))
      refine wpN_bind (wpN_holding ?_)
      refine wpN_bind (m := specialOf obj "__init__") (lift (wpAny_specialOf hT ft.init.lookup ?_))
      simp only [ft.init.bind]
      refine wpN_holding (wpN_bind (wpN_pure (wpN_bind (wpN_call (codeN_of_tree ?_)))))
      show wpN _ A.in1.in1 (do checkBuiltinCall initId ⟨obj :: args, []⟩; again (.builtin initId ⟨obj :: args, []⟩)) _ _ s₁
      refine wpN_bind (lift (ft.init.check _ _ _ _ _ _ _ _ hT hok ?_))
      refine wpN_pure ⟨⟨plainId_quiet hpI _, hkI _⟩, codeN_builtin entryI ?_⟩
      rw [Around.under_plainId hpI _]
      have fin : ∀ r s', wants (fun r s₂ => r = Value.none ∧ Q obj s₂) E r s' → (match r with
          | .ok (.ret v) => wpN (model prog w) A.in1 (PySem.Sem.pure (some v)) (fun __do_lift s' => wpN (model prog w) A.in1 (match __do_lift with
              | none => ret obj
              | some r => if (r != Value.none) = true then do
                  rule "type.call.init-returned-value"
                  let __do_lift ← PySem.typeNameOf r
                  raiseErrorMade "TypeError" (toString "__init__() should return None, not '" ++ toString __do_lift ++ toString "'")
                  ret obj
                else ret obj)
            (fun fin s' => match fin with
              | .done f => (match (Except.ok f : Result) with | .ok (.ret v) => Q v s' | .ok _ => False | .error e => E e s')
              | .again c' => (c'.quiet = true ∧ held c' = false) ∧ codeN (model prog w) A c' (fun r s' => match r with | .ok (.ret v) => Q v s' | .ok _ => False | .error e => E e s') s')
            (fun e s' => E e s') s') (fun e s' => E e s') s'
          | .ok _ => False
          | .error e => E e s') := by
        intro r s' h
        cases r with
        | error e => exact h
        | ok fl => cases fl with
          | ret v => obtain ⟨rfl, hq⟩ := h; exact wpN_pure (wpN_pure hq)
          | _ => exact h
      refine wpN_mono hsi (fun f s' h => ?_) fun e s' h => fin (.error e) s' h
      cases f with
      | done f => exact fin (.ok f) s' h
      | again c' => exact ⟨h.1, codeN_mono h.2 fin⟩
    | _ => exact hr
end

theorem typeIs_ba {s : Shared} {a : Addr} {b : Array UInt8} {n : Nat} (h : s.heap.get? a = some { cls := .type "bytearray", data := .bytearray b n }) : s.TypeIs (.ref a) "bytearray" := ⟨_, h, rfl⟩
section
variable {prog : Program} {w : World} {A : Around} {E : Value → Shared → Prop} {s : Shared} {R : Result → Shared → Prop}
theorem upd_ba {a : Addr} {b : Array UInt8} {n : Nat} {f : Array UInt8 → Array UInt8} {Q : Unit → Shared → Prop} (ho : s.heap.get? a = some { cls := .type "bytearray", data := .bytearray b n }) (hz : (f b).size ≤ sizeLine)
    (h : Q () { s with heap := s.heap.update a (Obj.mapBytearray f) }) : wpAny (model prog w) A (updateBytearray a f) Q E s := by
  unfold updateBytearray
  refine wpAny_bind (wpAny_load ho ?_)
  dsimp only
  refine wpAny_bind (wpAny_update ho ?_)
  refine wpAny_lookBehind (o := { cls := .type "bytearray", data := .bytearray (f b) n }) (Heap.get?_update_self _ ho rfl) ?_ h
  show Data.pastItsLine (.bytearray (f b) n) = none
  unfold Data.pastItsLine
  simp only
  rw [if_neg (by omega)]
theorem look_rel : typeLookup (.type "bytearray") (Str.ofString "__release_buffer__") = pure (some (.builtin "bytearray.__release_buffer__")) := by rw [typeLookup_type, builtinLookup_eq_fast]; kernel_rfl
theorem rel_ends : "bytearray.__release_buffer__".endsWith ("." ++ "__release_buffer__") = true := by decide +kernel
theorem rel_owner : "bytearray.__release_buffer__".dropRight ("__release_buffer__".length + 1) = "bytearray" := by decide +kernel
theorem own_rel {D : Addr} {Q : Bool → Shared → Prop} (hT : s.TypeIs (.ref D) "bytearray") (h : Q false s) : wpAny (model prog w) A (Builtin.Bytes.ownRelease (.ref D)) Q E s := by
  unfold Builtin.Bytes.ownRelease Builtin.Bytes.slotIsOwn
  refine wpAny_bind (wpAny_bind (wpAny_specialOf hT look_rel ?_))
  simp only [rel_ends, Bool.not_true, Bool.false_eq_true, if_false, rel_owner]
  exact wpAny_isInstance hT FA.sub_self (wpAny_pure h)
theorem bindOpt (v : Value) : Builtin.Bytes.bindOptional "bytearray.__init__" "bytearray" ["source", "encoding", "errors"] [v] [] = pure [some v, none, none] := by
  unfold Builtin.Bytes.bindOptional
  rfl
theorem bindOpt_wp (v : Value) {Q : List (Option Value) → Shared → Prop} (h : Q [some v, none, none] s) : wpN (model prog w) A (Builtin.Bytes.bindOptional "bytearray.__init__" "bytearray" ["source", "encoding", "errors"] [v] []) Q E s := by
  rw [bindOpt]; exact wpN_pure h
theorem wpAny_else {α : Type} {M : Model} {c : Prop} {i : Decidable c} {a b : Sem α} {Q : α → Shared → Prop} (hc : ¬ c) (h : wpAny M A b Q E s) : wpAny M A (if c then a else b) Q E s := by rw [if_neg hc]; exact h
theorem init_count {D : Addr} {n : Int} {t : Tok} {P : PySem.Fin → Shared → Prop} (hD : s.heap.get? D = some { cls := .type "bytearray", data := .bytearray #[] }) (h0 : 0 ≤ n) (h1 : n ≤ 16777216)
    (h : ∀ h', Heap.SameBut D s.heap h' → h'.get? D = some { cls := .type "bytearray", data := .bytearray (Array.replicate n.toNat 0) } → P (.done (.ret .none)) { s with heap := h' }) :
    wpN (model prog w) A (Builtin.«bytearray.__init__» ⟨[.ref D, .int n t], []⟩) P E s := by
  have hT := typeIs_ba hD
  have f1 := AutoSeq1.idx_int
  have g1 : Builtin.Bytes.fitsIndex n = true := by
    unfold Builtin.Bytes.fitsIndex
    rw [Bool.and_eq_true]
    exact ⟨decide_eq_true (by show (-9223372036854775808 : Int) ≤ n; omega), decide_eq_true (by show n < (9223372036854775808 : Int); omega)⟩
  have g3 : (n == 2 ^ 63 - 1) = false := by
    rw [beq_eq_false_iff_ne]
    show n ≠ (9223372036854775807 : Int)
    omega
  have g4 : Builtin.Bytes.tooLong n.toNat = false := by
    unfold Builtin.Bytes.tooLong
    exact decide_eq_false (by rw [sizeLine_eq]; omega)
  have hD2 : (s.heap.update D (Obj.mapBytearray fun _ => #[])).get? D = some { cls := .type "bytearray", data := .bytearray #[] } := Heap.get?_update_self _ hD rfl
  have hs1 : Heap.SameBut D s.heap (s.heap.update D (Obj.mapBytearray fun _ => #[])) := Heap.SameBut.update ..
  refine wpN_bind (m := Builtin.Bytes.ownRelease (.ref D)) (lift (own_rel hT ?_))
  refine wpN_bind (m := Builtin.Bytes.bindOptional "bytearray.__init__" "bytearray" ["source", "encoding", "errors"] [.int n t] []) (bindOpt_wp _ ?_)
  refine wpN_bind (m := (pure () : Sem Unit)) (wpN_pure ?_)
  refine wpN_bind (m := (pure () : Sem Unit)) (wpN_pure ?_)
  refine wpN_bind (m := Builtin.Bytes.exported (.ref D) <||> (do let k ← Builtin.Bytes.exportsOf (.ref D); pure (decide (k > 0)))) (wpN_bind (m := Builtin.Bytes.exported (.ref D)) (wpN_exported (wpN_bind (wpN_bind (lift (wpAny_load hD (wpN_pure (wpN_pure ?_))))))))
  refine lift (wpAny_bind (m := updateBytearray D fun _ => #[]) (upd_ba hD (by simp [sizeLine_eq]) ?_))
  refine wpAny_bind (m := (pure none : Sem (Option Str))) (wpAny_pure ?_)
  refine wpAny_bind (m := (pure () : Sem Unit)) (wpAny_pure ?_)
  refine wpAny_bind (m := specialOf (.int n t) "__index__") (wpAny_specialOf (typeIs_int _ n t) f1 ?_)
  refine wpAny_bind (m := (pure (.ok n) : Sem (Except Value Int))) (wpAny_pure ?_)
  refine wpAny_else (by rw [g1]; decide) (wpAny_else (by omega) (wpAny_else (by rw [g3]; decide) (wpAny_else (by rw [g4]; decide) ?_)))
  refine wpAny_bind (wpAny_rule ?_)
  show wpAny _ _ (if n > 0 then _ else _) _ _ _
  split
  · refine wpAny_bind (m := updateBytearray D fun _ => Array.replicate n.toNat 0) (upd_ba hD2 (by simp [sizeLine_eq]; omega) (wpAny_pure ?_))
    exact h _ (hs1.trans (Heap.SameBut.update ..)) (Heap.get?_update_self _ hD2 rfl)
  · refine wpAny_pure ?_
    have e : n = 0 := by omega
    subst e
    exact h _ hs1 hD2
theorem call_ba {n : Int} {t : Tok} {Q : Value → Shared → Prop} (h0 : 0 ≤ n) (h1 : n ≤ 16777216)
    (h : ∀ h', (∀ b o, s.heap.get? b = some o → h'.get? b = some o) → h'.get? s.heap.objs.size = some { cls := .type "bytearray", data := .bytearray (Array.replicate n.toNat 0) } → Q (.ref s.heap.objs.size) { s with heap := h' }) :
    wpN (model prog w) A (call (.type "bytearray") [.int n t]) Q E s := by
  refine callTypeN (Q₁ := fun obj s₁ => obj = .ref s.heap.objs.size ∧ s₁ = { s with heap := s.heap.push { cls := .type "bytearray", data := .bytearray #[] } }) FA.called (FA.typeCall_1 _) FA.entry_init rfl (fun _ => rfl) (by decide +kernel) (code_ba_new _ ⟨rfl, rfl⟩) fun obj s₁ h₁ => ?_
  obtain ⟨rfl, rfl⟩ := h₁
  have hD : (s.heap.push { cls := .type "bytearray", data := .bytearray #[] }).get? s.heap.objs.size = some { cls := .type "bytearray", data := .bytearray #[] } := Heap.get?_push_size _ rfl
  refine ⟨⟨_, hD, rfl⟩, FA.args_init_2 _ _, init_count hD h0 h1 fun h' hs ho => ⟨rfl, h h' (fun b o e => ?_) ho⟩⟩
  exact hs.extBut b o (fun e' => Nat.lt_irrefl _ (e' ▸ Heap.lt_size e)) (Heap.get?_push_of_some _ e)
end
end Mine

set_option maxRecDepth 100000
set_option Elab.async false
set_option linter.unusedVariables false
open PySem PySem.W PyProof.Rows PySem.Calls
namespace Mine
namespace FA
theorem no_bytes : typeLookup (.type "bytearray") "__bytes__" = pure none := by rw [typeLookup_type, builtinLookup_eq_fast]; kernel_rfl
theorem noIndex : typeLookup (.type "bytearray") "__index__" = pure none := by rw [typeLookup_type, builtinLookup_eq_fast]; kernel_rfl
theorem look_buffer : typeLookup (.type "bytearray") "__buffer__" = pure (some (.builtin "bytearray.__buffer__")) := by rw [typeLookup_type, builtinLookup_eq_fast]; kernel_rfl
theorem buf_ends : "bytearray.__buffer__".endsWith ("." ++ "__buffer__") = true := by decide +kernel
set_option linter.deprecated false in
theorem buf_owner : "bytearray.__buffer__".dropRight ("__buffer__".length + 1) = "bytearray" := by decide +kernel
theorem slot_set : Slot "bytearray" "__setitem__" "bytearray.__setitem__" :=
  .of (owner := "bytearray") (n := "__setitem__") (by rw [typeLookup_type, builtinLookup_eq_fast]; kernel_rfl) (by decide +kernel) (by decide +kernel) (by decide +kernel)
    (by first | exact .inl (by decide +kernel) | exact .inr (by decide +kernel)) (by rw [isSubtype_type]; kernel_rfl)
theorem entry_set : entryFor table "bytearray.__setitem__" = some Builtin.«bytearray.__setitem__» := entryFor_of_tree (by kernel_rfl)
theorem args_set_3 (a b c : Value) : argsOk "bytearray.__setitem__" ⟨[a, b, c], []⟩ := by
  unfold argsOk; rw [signature?_of (id := "bytearray.__setitem__") (n := ['_', '_', 'm', 'e', 't', 'i', 't', 'e', 's', '_', '_']) (o := ['y', 'a', 'r', 'r', 'a', 'e', 't', 'y', 'b']) (by kernel_rfl) owner_ba]; kernel_rfl
end FA
section
variable {prog : Program} {w : World} {A : Around} {E : Value → Shared → Prop} {s : Shared}
theorem new_of_ba {D : Addr} {b : Array UInt8} {Q : Value → Shared → Prop} (hD : s.heap.get? D = some { cls := .type "bytearray", data := .bytearray b }) (hz : b.size ≤ sizeLine) (hQ : ∀ t k, Q (.bytes b t) { s with toks := k }) :
    codeAny (model prog w) A (.call (.builtin "bytes.__new__") ⟨[.type "bytes", .ref D], []⟩) (wants Q E) s := by
  refine codeAny_of_tree ?_
  show wpAny _ A.in1 (do checkBuiltinCall "bytes.__new__" ⟨[.type "bytes", .ref D], []⟩; again (.builtin "bytes.__new__" ⟨[.type "bytes", .ref D], []⟩)) _ _ s
  refine wpAny_bind (wpAny_of_eq (F.bm_newCall _) (wpAny_pure ⟨plainId_quiet F.bm_plain _, codeAny_builtin F.bm_entry ?_⟩))
  rw [Around.under_plainId F.bm_plain _]
  have hT : s.TypeIs (.ref D) "bytearray" := ⟨_, hD, rfl⟩
  unfold Builtin.«bytes.__new__»
  refine wpAny_bind (wpAny_of_eq (a := true) rfl ?_)
  refine bm_if_false rfl ?_
  refine wpAny_bind (wpAny_of_eq F.bm_sub ?_)
  refine bm_if_false rfl ?_
  refine wpAny_bind (wpAny_of_eq (F.bm_bind _) ?_)
  refine wpAny_bind (wpAny_of_eq (a := ()) rfl ?_)
  refine wpAny_bind (wpAny_of_eq (a := ()) rfl ?_)
  refine bm_if_false rfl ?_
  refine wpAny_bind (wpAny_specialOf hT FA.no_bytes ?_)
  refine wpAny_bind (wpAny_bind ?_)
  show wpAny _ _ (load D >>= _) _ _ _
  refine wpAny_bind (wpAny_load hD ?_)
  refine wpAny_pure (wpAny_pure ?_)
  refine bm_if_false rfl ?_
  refine wpAny_bind (wpAny_specialOf hT FA.noIndex ?_)
  refine bm_if_true rfl ?_
  first
    | show wpAny _ _ (Builtin.Bytes.buffer? "bytes.__new__" (.ref D) true >>= _) _ _ _
    | (refine wpAny_bind ?_; show wpAny _ _ (Builtin.Bytes.buffer? "bytes.__new__" (.ref D) true >>= _) _ _ _)
  refine wpAny_bind ?_
  unfold Builtin.Bytes.buffer?
  refine wpAny_bind (wpAny_specialOf hT FA.look_buffer ?_)
  dsimp only
  refine wpAny_bind ?_
  unfold Builtin.Bytes.slotIsOwn
  refine wpAny_bind (wpAny_specialOf hT FA.look_buffer ?_)
  simp only [FA.buf_ends, Bool.not_true, Bool.false_eq_true, if_false, FA.buf_owner]
  refine wpAny_isInstance hT FA.sub_self ?_
  simp only [Bool.not_true, Bool.false_eq_true, if_false]
  refine wpAny_bind (wpAny_specialOf hT FA.look_buffer ?_)
  try dsimp only
  refine wpAny_bind (own_rel hT ?_)
  simp only [Bool.false_eq_true, if_false]
  refine wpAny_bind ?_
  unfold Builtin.Bytes.payload Builtin.Bytes.payload?
  refine wpAny_bind (wpAny_bind (wpAny_load hD ?_))
  refine wpAny_pure (wpAny_pure (wpAny_pure ?_))
  dsimp only
  refine wpAny_bind (wpAny_rule ?_)
  refine wpAny_bind (wpAny_mkBytes ?_ hz)
  show wpAny _ _ (if (Value.type "bytes" == Value.type "bytes") = true then _ else _) _ _ _
  refine bm_if_true (by decide) ?_
  first
    | exact wpAny_pure (hQ _ _)
    | exact wpAny_bind (wpAny_pure (wpAny_pure (hQ _ _)))
theorem bytes_of_ba {D : Addr} {b : Array UInt8} {Q : Value → Shared → Prop} (hD : s.heap.get? D = some { cls := .type "bytearray", data := .bytearray b }) (hz : b.size ≤ sizeLine) (hQ : ∀ t k, Q (.bytes b t) { s with toks := k }) :
    wpAny (model prog w) A (call (.type "bytes") [.ref D]) Q E s := by
  refine callType_codes (Q₁ := fun obj s₁ => s₁.TypeIs obj "bytes" ∧ Q obj s₁) F.bm_called (F.bm_typeCall _) F.entry_object_init
    (new_of_ba hD hz fun t k => ⟨PySem.W.typeIs_bytes _ _ _, hQ t k⟩) fun obj s₁ h₁ => ?_
  exact ⟨h₁.1, F.args_object_init_2 obj _, object_init_meets F.bm_called.init.lookup F.bm_called.made (by decide) prog w A.in1 _ s₁ ⟨h₁.1, rfl, h₁.2⟩⟩
theorem set_ba {D : Addr} {b : Array UInt8} {k v : Int} {t u : Tok} {Q : Unit → Shared → Prop} (hD : s.heap.get? D = some { cls := .type "bytearray", data := .bytearray b }) (hz : b.size ≤ sizeLine) (h0 : 0 ≤ k) (h1 : k < b.size) (h2 : 0 ≤ v) (h3 : v < 256)
    (hQ : ∀ h', Heap.SameBut D s.heap h' → h'.get? D = some { cls := .type "bytearray", data := .bytearray (b.setIfInBounds k.toNat v.toNat.toUInt8) } → Q () { s with heap := h' }) :
    wpAny (model prog w) A (setItem (.ref D) (.int k t) (.int v u)) Q E s := by
  have hT : s.TypeIs (.ref D) "bytearray" := ⟨_, hD, rfl⟩
  unfold setItem
  try with_reducible refine wpAny_holding ?_
  first | refine wpAny_bind (wpAny_pure ?_) | skip
  refine wpAny_bind (wpAny_sequenceKey hT (by decide) ?_)
  refine wpAny_bind (wpAny_callSpecial?_slot (name := Str.ofString "__setitem__") hT FA.slot_set
    (wpAny_call_entry FA.slot_set hT FA.entry_set ?_ (FA.args_set_3 _ _ _)))
  unfold Builtin.«bytearray.__setitem__»
  dsimp only
  refine bm_if_false rfl ?_
  have e1 : asIndex (Value.int k t) = pure k := rfl
  have e2 : asIndex (Value.int v u) = pure v := rfl
  have hsz := sizeLine_eq
  have g1 : Builtin.Bytes.fitsIndex k = true := by
    unfold Builtin.Bytes.fitsIndex
    rw [Bool.and_eq_true]
    exact ⟨decide_eq_true (by show (-9223372036854775808 : Int) ≤ k; omega), decide_eq_true (by show k < (9223372036854775808 : Int); omega)⟩
  refine wpAny_bind ?_
  unfold Builtin.Bytes.subscript?
  refine wpAny_bind (wpAny_specialOf (typeIs_int _ k t) AutoSeq1.idx_int ?_)
  refine bm_if_false rfl ?_
  rw [e1]
  refine wpAny_bind (wpAny_pure ?_)
  rw [g1]
  refine bm_if_false rfl ?_
  refine wpAny_pure ?_
  dsimp only
  refine wpAny_bind ?_
  unfold Builtin.Bytes.byteValue
  rw [e2]
  refine wpAny_bind (wpAny_pure ?_)
  refine bm_if_false (by simp only [Bool.or_eq_false_iff, decide_eq_false_iff_not]; omega) ?_
  refine wpAny_pure ?_
  refine wpAny_bind ?_
  unfold Builtin.Bytes.payload Builtin.Bytes.payload?
  refine wpAny_bind (wpAny_bind (wpAny_load hD ?_))
  refine wpAny_pure (wpAny_pure ?_)
  have hi : seqIndex? k b.size = some k.toNat := by
    unfold seqIndex?
    have : ¬ k < 0 := by omega
    simp only [this, if_false]
    rw [if_pos (by simp; omega)]
  rw [hi]
  dsimp only
  unfold Builtin.Bytes.write
  refine wpAny_bind (upd_ba hD (by simpa using hz) ?_)
  exact wpAny_pure ⟨_, rfl, wpAny_pure (hQ _ (Heap.SameBut.update ..) (Heap.get?_update_self _ hD rfl))⟩
end
section
variable {c : Fc} {st : St} {Q : V → St → Prop}
theorem ca_barr {n : Nat} (hz : n ≤ 16777216) (q : ∀ D, Q (.ref D) ⟨st.loc, (D, .barr (List.replicate n 0)) :: st.hp⟩) : CAt c "bytearray" [.int n] st Q := fun ws r => by
  cases r with
  | cons r h =>
    cases h; cases r
    intro φ s S
    refine call_ba (by omega) (by omega) fun h' hk ho => ⟨_, _, .ref _, S.add (tk := s.toks) (ao := .barr (List.replicate n 0)) (Nat.le_refl _) hk ho ⟨_, rfl, ?_⟩, q _⟩
    simp [bnat]
theorem si_barr {D : Addr} {l : List Nat} {k v : Int} {hp' : Hp} {Q : St → Prop} (u : Upd st.hp D (.barr l) (.barr (l.set k.toNat v.toNat)) hp') (hz : l.length ≤ 16777216) (h0 : 0 ≤ k) (h1 : k < l.length) (h2 : 0 ≤ v) (h3 : v < 256) (q : Q ⟨st.loc, hp'⟩) : SI c (.ref D) (.int k) (.int v) st Q := fun ov iv vv ro ri rv => by
  cases ro; cases ri; cases rv
  obtain ⟨pre, post, e1, rfl⟩ := u.split
  refine TR.leaf fun φ s S => ?_
  obtain ⟨o, ho, b, rfl, rfl⟩ := S.at (a := D) (ao := .barr l) (by rw [e1]; simp)
  have e : (bnat b).length = b.size := by simp [bnat]
  refine set_ba ho (by rw [sizeLine_eq]; omega) h0 (by omega) h2 h3 fun h' hs ho' => ⟨(), _, trivial, S.set (tk := s.toks) (ao' := .barr ((bnat b).set k.toNat v.toNat)) e1 hs.extBut ho' ⟨_, rfl, ?_⟩, q⟩
  unfold bnat
  rw [Array.toList_setIfInBounds, List.map_set]
  have : v.toNat.toUInt8.toNat = v.toNat := by rw [Nat.toUInt8, UInt8.toNat_ofNat']; omega
  rw [this]
theorem ca_bytesB {D : Addr} {l : List Nat} (hm : (D, AObj.barr l) ∈ st.hp) (hz : l.length ≤ 16777216) (q : Q (.bytes l) st) : CAt c "bytes" [.ref D] st Q := fun ws r => by
  cases r with
  | cons r h =>
    cases h; cases r
    refine TR.leaf fun φ s S => ?_
    obtain ⟨o, ho, b, rfl, rfl⟩ := S.at hm
    have e : (bnat b).length = b.size := by simp [bnat]
    exact bytes_of_ba ho (by rw [sizeLine_eq]; omega) fun t k => ⟨_, _, .bytes _ _, S.toks _, q⟩
end
end Mine

set_option maxRecDepth 100000
set_option Elab.async false
set_option linter.unusedVariables false
open PySem PySem.W PyProof.Rows PySem.Calls
namespace Mine

/-- the table of a function's inner codes, and the code that it holds -/
noncomputable def TB (P : Addr) (pos : Pos) (qual : Str) (t : Option Addr) : Hp := (P, .tab pos t) :: (match t with | none => [] | some c' => [(c', .code qual)])
theorem updF_of {P : Addr} {o : Obj} : ∀ (pre post : List (Addr × Obj)), ((pre ++ (P, o) :: post).map (·.1)).Nodup → UpdF P o (pre ++ (P, o) :: post) (fun o' => pre ++ (P, o') :: post)
  | [], post, nd => .head fun p hp e => by
    rw [List.nil_append, List.map_cons, List.nodup_cons] at nd
    exact nd.1 (List.mem_map.mpr ⟨p, hp, e⟩)
  | q :: pre, post, nd => by
    rw [List.cons_append, List.map_cons, List.nodup_cons] at nd
    exact .tail (fun e => nd.1 (List.mem_map.mpr ⟨(P, o), by simp, e.symm⟩)) (updF_of pre post nd.2)
section
variable {c : Fc} {Q : V → St → Prop} {params : Arguments} {body : PySem.Expr} {scope : Scope} {pos : Pos} {cn : Str} {cs : Scope} {L a cd P : Addr} {cl clos : List (Str × Addr)} {loc : Loc}
theorem lam_hit {hp : Hp} {c' : Addr} (he : c.env = envX cn cs L a (.ref cd) cl) (hc : codeHdIn c.g.K cd P = true) (hdef : defaultsOf params c.env = ([], [])) (hcl : closureFor scope c.env = pure clos) (hm : (P, AObj.tab pos (some c')) ∈ hp)
    (q : ∀ f, Q (.ref f) ⟨loc, (f, .lam "<lambda>" (c.env.qual ++ "<lambda>") params body scope clos c') :: hp⟩) : EV c (.Lambda params body scope pos) ⟨loc, hp⟩ Q := TR.leaf fun φ s S => by
  obtain ⟨m, F, hl⟩ := S.fr
  obtain ⟨news, φ', N, nd, H, Pr⟩ := S.nw
  obtain ⟨hh, tk, e⟩ := S.rest
  obtain ⟨⟨P', o⟩, hmem, eP, ps, eo, ht, hf⟩ := H.mem hm
  obtain rfl : P' = P := eP
  have eo : o = tabObj ps := eo
  subst eo
  refine kla_eval hdef ?_
  rw [he] at F N hcl hdef ⊢
  refine kla_hit F N S.ok.top (codeHd_of_K S.ok.kin hc) rfl (List.mem_append_left _ hmem) ht hf hcl fun f ctv h' tk F' N' hlt => ?_
  have hq : c.env.qual = (envX cn cs L a (.ref cd) cl).qual := by rw [he]
  refine ⟨.ref f, ⟨loc, (f, .lam "<lambda>" (c.env.qual ++ "<lambda>") params body scope clos c') :: hp⟩, .ref f, ⟨S.ok, ⟨m, by rw [he]; exact F', hl⟩, ⟨(f, _) :: news, φ', by rw [he]; exact N', ?_, .cons ⟨rfl, by rw [hq]; exact ⟨_, _, rfl⟩⟩ H, Pr⟩, ⟨h', tk, by rw [e]⟩, S.frm⟩, q f⟩
  rw [List.cons_append, List.map_cons, List.nodup_cons]
  refine ⟨fun hx => ?_, nd⟩
  obtain ⟨p, hp, e⟩ := List.mem_map.mp hx
  exact absurd (hlt p hp) (by rw [show p.1 = f from e]; exact Nat.lt_irrefl _)
theorem lam_new {hp0 hp1 : Hp} (he : c.env = envX cn cs L a (.ref cd) cl) (hc : codeHdIn c.g.K cd P = true) (hdef : defaultsOf params c.env = ([], [])) (hcl : closureFor scope c.env = pure clos)
    (q : ∀ f c', Q (.ref f) ⟨loc, (f, .lam "<lambda>" (c.env.qual ++ "<lambda>") params body scope clos c') :: (c', .code (c.env.qual ++ "<lambda>")) :: (hp0 ++ (P, .tab pos (some c')) :: hp1)⟩) : EV c (.Lambda params body scope pos) ⟨loc, hp0 ++ (P, .tab pos none) :: hp1⟩ Q := TR.leaf fun φ s S => by
  obtain ⟨m, F, hl⟩ := S.fr
  obtain ⟨news, φ', N, nd, H, Pr⟩ := S.nw
  obtain ⟨hh, tk, e⟩ := S.rest
  obtain ⟨n1, n2, rfl, H1, H2⟩ := H.split
  cases H2 with
  | cons r H2 =>
    rename_i x n2
    obtain ⟨P', o⟩ := x
    obtain ⟨eP, ps, eo, ht, hf⟩ := r
    obtain rfl : P' = P := eP
    have eo : o = tabObj ps := eo
    subst eo
    refine kla_eval hdef ?_
    rw [List.append_assoc, List.cons_append] at N nd
    rw [he] at F N hcl hdef ⊢
    refine kla_nest F N S.ok.top (codeHd_of_K S.ok.kin hc) rfl (updF_of n1 (n2 ++ φ') nd) ht hf hcl fun f c' oc vs t ctv h' tk F' N' hd hv hlt hlt' => ?_
    have hq : c.env.qual = (envX cn cs L a (.ref cd) cl).qual := by rw [he]
    refine ⟨.ref f, ⟨loc, (f, .lam "<lambda>" (c.env.qual ++ "<lambda>") params body scope clos c') :: (c', .code (c.env.qual ++ "<lambda>")) :: (hp0 ++ (P', .tab pos (some c')) :: hp1)⟩, .ref f, ⟨S.ok, ⟨m, by rw [he]; exact F', hl⟩, ⟨(f, _) :: (c', oc) :: (n1 ++ (P', tabObj (ps ++ #[rawInt pos.line, rawInt pos.col, .ref c'])) :: n2), φ', by rw [he]; simpa using N', ?_,
      .cons ⟨rfl, by rw [hq]; exact ⟨_, _, rfl⟩⟩ (.cons ⟨rfl, vs, t, hd, by rw [hq]; exact hv⟩ (H1.append (.cons ⟨rfl, _, rfl, ?_, ?_⟩ H2))), Pr⟩, ⟨h', tk, by rw [e]⟩, S.frm⟩, q f c'⟩
    · have nd' : ((n1 ++ (P', tabObj (ps ++ #[rawInt pos.line, rawInt pos.col, .ref c'])) :: (n2 ++ φ')).map (·.1)).Nodup := by simpa using nd
      have hlt2 : ∀ p ∈ n1 ++ (P', tabObj (ps ++ #[rawInt pos.line, rawInt pos.col, .ref c'])) :: (n2 ++ φ'), p.1 < c' := fun p hp => by
        rcases List.mem_append.mp hp with h | h
        · exact hlt p (List.mem_append_left _ h)
        · rcases List.mem_cons.mp h with rfl | h
          · exact hlt (P', tabObj ps) (List.mem_append_right _ (.head _))
          · exact hlt p (List.mem_append_right _ (.tail _ h))
      have e1 : ((f, kla_obj "<lambda>" ((envX cn cs L a (.ref cd) cl).qual ++ "<lambda>") params body scope clos ((c.g.mg "__name__").getD .none) c' ctv) :: (c', oc) :: (n1 ++ (P', tabObj (ps ++ #[rawInt pos.line, rawInt pos.col, .ref c'])) :: n2)) ++ φ' =
          (f, kla_obj "<lambda>" ((envX cn cs L a (.ref cd) cl).qual ++ "<lambda>") params body scope clos ((c.g.mg "__name__").getD .none) c' ctv) :: (c', oc) :: (n1 ++ (P', tabObj (ps ++ #[rawInt pos.line, rawInt pos.col, .ref c'])) :: (n2 ++ φ')) := by simp
      rw [e1, List.map_cons, List.map_cons, List.nodup_cons, List.nodup_cons]
      refine ⟨fun hx => ?_, fun hx => ?_, nd'⟩
      · rcases List.mem_cons.mp hx with h | h
        · exact absurd hlt' (by rw [show f = c' from h]; exact Nat.lt_irrefl _)
        · obtain ⟨p, hp, e⟩ := List.mem_map.mp h
          have := hlt2 p hp
          rw [show p.1 = f from e] at this
          exact absurd (Nat.lt_trans hlt' this) (Nat.lt_irrefl _)
      · obtain ⟨p, hp, e⟩ := List.mem_map.mp hx
        have := hlt2 p hp
        rw [show p.1 = c' from e] at this
        exact absurd this (Nat.lt_irrefl _)
    · rw [Array.toList_append]; exact TriplesOk_snoc _ _ _ _ ht
    · rw [Array.toList_append]; exact codeAmong_snoc _ ht hf
theorem ev_lam {pre post : Hp} {t : Option Addr} (he : c.env = envX cn cs L a (.ref cd) cl) (hc : codeHdIn c.g.K cd P = true) (hdef : defaultsOf params c.env = ([], [])) (hcl : closureFor scope c.env = pure clos)
    (q : ∀ f c', Q (.ref f) ⟨loc, (f, .lam "<lambda>" (c.env.qual ++ "<lambda>") params body scope clos c') :: (pre ++ (TB P pos (c.env.qual ++ "<lambda>") (some c') ++ post))⟩) : EV c (.Lambda params body scope pos) ⟨loc, pre ++ (TB P pos (c.env.qual ++ "<lambda>") t ++ post)⟩ Q := by
  cases t with
  | some c' => exact lam_hit he hc hdef hcl (List.mem_append_right _ (.head _)) fun f => q f c'
  | none =>
    refine TR.postWK (lam_new (hp0 := pre) (hp1 := post) he hc hdef hcl fun f c' => ⟨⟨loc, (f, .lam "<lambda>" (c.env.qual ++ "<lambda>") params body scope clos c') :: (pre ++ (TB P pos (c.env.qual ++ "<lambda>") (some c') ++ post))⟩, ⟨.refl _, .keep (.perm ?_ (.refl _))⟩, q f c'⟩)
    show ((c', AObj.code (c.env.qual ++ "<lambda>")) :: (pre ++ (P, AObj.tab pos (some c')) :: post)).Perm (pre ++ ((P, AObj.tab pos (some c')) :: (c', AObj.code (c.env.qual ++ "<lambda>")) :: post))
    refine List.perm_middle.symm.trans (List.Perm.append_left pre ?_)
    exact List.Perm.swap _ _ _
end
end Mine

set_option maxRecDepth 100000
set_option Elab.async false
set_option linter.unusedVariables false
open PySem PySem.W PyProof.Rows PySem.Calls
namespace Mine
open MeetsSeq MeetsSeq2 MeetsSeq3 in
theorem lt_loop1 (l b : Addr) (i j : Int) (t u : Tok) (n n2 : Nat) :
    Meets (Builtin.«list.__eq__.loop» ⟨[.ref l, .ref b, rawInt 1, rawInt 0], []⟩)
      (fun _ R s => s.heap.get? l = some { cls := .type "list", dict := none, data := .seq #[.int i t] n, slots := #[] } ∧ s.heap.get? b = some { cls := .type "list", dict := none, data := .seq #[.int j u] n2, slots := #[] } ∧
        R (.ok (.ret (.bool false))) s) := by
  intro prog w A R s h
  obtain ⟨hp, g, d, tk, os⟩ := s; obtain ⟨hl, hb, h⟩ := h
  wp_walk using AutoSeq1.wpAny_loadPart' hl, AutoSeq1.wpAny_loadPart' hb
  exact h
open MeetsSeq MeetsSeq2 MeetsSeq3 in
theorem lt_loop0 (l b : Addr) (i j : Int) (t u : Tok) (n n2 : Nat) (items items2 : Array Value) (e1 : items = #[.int i t]) (e2 : items2 = #[.int j u]) :
    Meets (Builtin.«list.__eq__.loop» ⟨[.ref l, .ref b, rawInt 0, rawInt 0], []⟩)
      (fun _ R s => s.heap.get? l = some { cls := .type "list", dict := none, data := .seq items n, slots := #[] } ∧ s.heap.get? b = some { cls := .type "list", dict := none, data := .seq items2 n2, slots := #[] } ∧
        R (.ok (.ret (.bool (decide (i < j))))) s) := by
  intro prog w A R s h
  obtain ⟨hp, g, d, tk, os⟩ := s; obtain ⟨hl, hb, h⟩ := h
  wp_walk using AutoSeq1.wpAny_loadPart' hl, AutoSeq1.wpAny_loadPart' hb
  have hi1 : items[(0 : Int).toNat]? = some (.int i t) := by rw [e1]; rfl
  have hi2 : items2[(0 : Int).toNat]? = some (.int j u) := by rw [e2]; rfl
  rw [hi1, hi2]
  refine wpAny_bind (EqGives.int i j t u prog w _ _ _ _ ?_)
  by_cases e : i = j
  · subst e
    rw [beq_self_eq_true]
    wp_walk
    have h' : R (.ok (.ret (.bool false))) ⟨hp, g, d, tk, os⟩ := by simpa using h
    subst e1 e2
    exact ⟨plainId_quiet plain_eq_loop _, codeAny_builtin entry_eq_loop (by
      rw [Around.under_plainId plain_eq_loop _]
      exact lt_loop1 l b i i t u n n2 prog w A R _ ⟨hl, hb, h'⟩)⟩
  · have : (i == j) = false := by simpa using e
    rw [this]
    wp_walk using AutoSeq1.wpAny_loadPart' hl, AutoSeq1.wpAny_loadPart' hb
    rw [hi1, hi2]
    refine wpAny_bind ?_
    show wpAny _ _ (compareOp .Lt (.int i t) (.int j u)) _ _ _
    refine lt_int ?_
    wp_walk
    exact h
open MeetsSeq MeetsSeq2 MeetsSeq3 in
theorem list_lt1 (l b : Addr) (i j : Int) (t u : Tok) (n n2 : Nat) :
    Meets (Builtin.«list.__lt__» ⟨[.ref l, .ref b], []⟩)
      (fun _ R s => s.heap.get? l = some { cls := .type "list", dict := none, data := .seq #[.int i t] n, slots := #[] } ∧ s.heap.get? b = some { cls := .type "list", dict := none, data := .seq #[.int j u] n2, slots := #[] } ∧
        R (.ok (.ret (.bool (decide (i < j))))) s) := by
  intro prog w A R s h
  obtain ⟨hp, g, d, tk, os⟩ := s; obtain ⟨hl, hb, h⟩ := h
  have f3 := AutoSeq1.sub_list_list
  wp_walk using AutoSeq1.wpAny_loadPart' hl, AutoSeq1.wpAny_loadPart' hb
  refine ⟨plainId_quiet plain_eq_loop _, codeAny_builtin entry_eq_loop ?_⟩
  rw [Around.under_plainId plain_eq_loop _]
  exact lt_loop0 l b i j t u n n2 _ _ rfl rfl prog w A R _ ⟨hl, hb, h⟩
section
variable {c : Fc} {st : St} {Q : V → St → Prop}
theorem co_ltL1 {a b : Addr} {i j : Int} (ha : RL st.hp a [.int i]) (hb : RL st.hp b [.int j]) (q : Q (.bool (decide (i < j))) st) : CO c .Lt (.ref a) (.ref b) st Q := fun v v' r r' => by
  cases r; cases r'
  refine TR.leaf fun φ s S => ?_
  obtain ⟨its, n, hl, H, hL⟩ := S.listR ha
  obtain ⟨its2, n2, hl2, H2, hL2⟩ := S.listR hb
  have hu : c.A.units < cLine := by have := S.ok.units; show c.A.units < 9900; omega
  have one : ∀ (its : Array Value) (i : Int), All2 VR its.toList [V.int i] → ∃ t, its = #[.int i t] := by
    intro its i H
    obtain ⟨l⟩ := its
    cases H with
    | cons r H => cases H; cases r; exact ⟨_, rfl⟩
  obtain ⟨t, rfl⟩ := one its i H
  obtain ⟨u, rfl⟩ := one its2 j H2
  exact richCompare_meets_room (op := .Lt) ⟨_, hl, rfl⟩ ⟨_, hl2, rfl⟩ F.slot_list_lt F.entry_list_lt (F.args_list_lt_2 _ _) (list_lt1 a b i j t u n n2)
    ⟨hl, hl2, show Value.bool (decide (i < j)) ≠ Value.notImplemented ∧ _ from ⟨(fun x => nomatch x), ⟨_, _, .bool _, S, q⟩⟩⟩ hu
end
end Mine

set_option maxRecDepth 100000
set_option Elab.async false
set_option linter.unusedVariables false
open PySem PySem.W PyProof.Rows PySem.Calls
namespace Mine

/-! ## comprehensions, walking forms -/
noncomputable def COMPG (c : Fc) (scope : Scope) (cl : List (Str × Addr)) (x : Str) (ifs : List PySem.Expr) (elt : PySem.Expr) (items : List V) (Src : Hp → Prop) (st : St) (Q : Addr → St → Prop) : Prop :=
  ∃ I : Addr → Nat → List V → Hp → Prop, items.length ≤ 16777216 ∧ (∀ L, ∃ h, Sub (cellEntries (L + 1) scope.names st.hp) h ∧ I L 0 [] h) ∧ (∀ L i ys hp, I L i ys hp → Src hp) ∧
    (∀ L g i v ys loc hp, items[i]? = some v → I L i ys hp → SN (cFc c scope cl L g) x v ⟨loc, hp⟩ fun st1 => TE (cFc c scope cl L g) ifs st1 fun b st2 => CN b (EV (cFc c scope cl L g) elt st2 fun y st3 => ∃ h, Sub st3.hp h ∧ I L (i + 1) (ys ++ [y]) h) (∃ h, Sub st2.hp h ∧ I L (i + 1) ys h)) ∧
    (∀ L D ys hp, I L items.length ys hp → Q D ⟨st.loc, (D, .list ys) :: hp⟩)
/-- a comprehension as a filter and a map -/
theorem COMPG.fm {c : Fc} {scope : Scope} {cl : List (Str × Addr)} {x : Str} {ifs : List PySem.Expr} {elt : PySem.Expr} {items : List V} {Src : Hp → Prop} {st : St} {Q : Addr → St → Prop} {ε : Type} (enc : Addr → ε → Hp) (gf : V → Option V) (e0 : ε) (hz : items.length ≤ 16777216)
    (h0 : ∀ L, Sub (cellEntries (L + 1) scope.names st.hp) (enc L e0)) (src : ∀ L e, Src (enc L e))
    (turn : ∀ (L : Addr) (g : Heap) (i : Nat) (v : V) (loc : Loc) (e : ε), items[i]? = some v → SN (cFc c scope cl L g) x v ⟨loc, enc L e⟩ fun st1 => TE (cFc c scope cl L g) ifs st1 fun b st2 => CN b (EV (cFc c scope cl L g) elt st2 fun y st3 => gf v = some y ∧ ∃ e', Sub st3.hp (enc L e')) (gf v = none ∧ ∃ e', Sub st2.hp (enc L e')))
    (done : ∀ L e D, Q D ⟨st.loc, (D, .list (items.filterMap gf)) :: enc L e⟩) : COMPG c scope cl x ifs elt items Src st Q := by
  refine ⟨fun L i ys hp => ys = (items.take i).filterMap gf ∧ ∃ e, hp = enc L e, hz, fun L => ⟨_, h0 L, rfl, e0, rfl⟩, ?_, ?_, ?_⟩
  · rintro L i ys _ ⟨_, e, rfl⟩; exact src L e
  · rintro L g i v ys loc _ hv ⟨rfl, e, rfl⟩
    intro val r
    have ht : (items.take (i + 1)).filterMap gf = (items.take i).filterMap gf ++ (match gf v with | some y => [y] | none => []) := by
      rw [List.take_add_one, hv, List.filterMap_append]
      simp only [Option.toList, List.filterMap_cons, List.filterMap_nil]
      cases gf v <;> rfl
    refine TR.mono (turn L g i v loc e hv val r) fun _ st1 h1 => TR.mono h1 fun b st2 h2 => ?_
    cases b with
    | true => exact TR.mono (show EV _ _ _ _ from h2) fun y st3 ⟨h3, e', h4⟩ => ⟨_, h4, by rw [ht, h3], e', rfl⟩
    | false => obtain ⟨h3, e', h4⟩ := h2; exact ⟨_, h4, by rw [ht, h3, List.append_nil], e', rfl⟩
  · rintro L D _ _ ⟨rfl, e, rfl⟩
    rw [List.take_length]
    exact done L e D
section
variable {c : Fc} {st : St} {elt iter : PySem.Expr} {x : Str} {px pos : Pos} {ifs : List PySem.Expr} {scope : Scope} {cl : List (Str × Addr)}
theorem comp_go {Q : V → St → Prop} {ppos : Pos} {use : Option (Value → Sem Unit)} (hclos : closureFor scope c.env = pure cl) (hkind : scope.kind = .function) (hnames : ∀ y ∈ scope.names, y.2 = .local → scope.names.lookup y.1 = some .local) (hs : ∀ x, foldedSetIterable iter c.env x = pure x)
    (h : EV c iter st fun v st1 => ITER c v st1 fun items Src st2 => COMPG c scope cl x ifs elt items Src st2 fun D st3 => USE c use D st3 Q) :
    TR c (comprehension (.ListComp elt [⟨.Name x px, iter, ifs, 0⟩] scope pos) scope c.env ppos (newList []) false (eval iter c.env) use) VR st Q := by
  refine TR.postWK (comp_tr (Q := fun v st1 => ∃ st2, WK st1 st2 ∧ Q v st2) hclos hkind hnames hs (TR.mono h fun v st1 h1 val r => TR.mono (h1 val r) fun itv st2 hx => ?_))
  obtain ⟨it, ia, items, Src, st0, e1, e2, W, hsub, I, hz, h0, hsrc, turn, done⟩ := hx
  refine ⟨it, ia, items, Src, fun L i ys hp => ∃ h, Sub hp h ∧ I L i ys h, st0, e1, e2, hz, fun L g => W _ rfl, fun D ys hp k => hsub _ _ (.drop (.refl _)) k, h0, fun L i ys hp ⟨h, k, hI⟩ => hsub _ _ k (hsrc _ _ _ _ hI), ?_, ?_⟩
  · rintro L g i v ys loc hp hv ⟨h, k, hI⟩
    intro val' r'
    refine TR.preWK (st' := ⟨loc, h⟩) ⟨.refl _, k⟩ (TR.mono (turn L g i v ys loc h hv hI val' r') fun _ st4 hx => TR.mono hx fun b st5 q => ?_)
    cases b with
    | true => exact q
    | false => exact q
  · rintro L D ys hp ⟨h, k, hI⟩
    have hd := done L D ys h hI
    have kk : WK (⟨st0.loc, (D, .list ys) :: hp⟩ : St) ⟨st0.loc, (D, .list ys) :: h⟩ := ⟨.refl _, .keep k⟩
    cases use with
    | none => exact ⟨_, kk, hd⟩
    | some u => exact TR.preWK kk (TR.mono (show TR c (u (.ref D)) UR _ _ from hd) fun _ st4 q => ⟨_, .refl _, q⟩)
theorem v_comp {Q : V → St → Prop} (h : EV c iter st fun v st1 => ITER c v st1 fun items Src st2 => COMPG c scope cl x ifs elt items Src st2 fun D st3 => Q (.ref D) st3) (hclos : closureFor scope c.env = pure cl) (hkind : scope.kind = .function) (hnames : ∀ y ∈ scope.names, y.2 = .local → scope.names.lookup y.1 = some .local) (hs : ∀ x, foldedSetIterable iter c.env x = pure x) :
    EV c (.ListComp elt [⟨.Name x px, iter, ifs, 0⟩] scope pos) st Q := ev_comp (comp_go (use := none) hclos hkind hnames hs h)
theorem s_comp {Q : AFlow → St → Prop} {spos py : Pos} {y : Str} (h : EV c iter st fun v st1 => ITER c v st1 fun items Src st2 => COMPG c scope cl x ifs elt items Src st2 fun D st3 => SN c y (.ref D) st3 fun st4 => Q .next st4) (hclos : closureFor scope c.env = pure cl) (hkind : scope.kind = .function) (hnames : ∀ y ∈ scope.names, y.2 = .local → scope.names.lookup y.1 = some .local) (hs : ∀ x, foldedSetIterable iter c.env x = pure x)
    (hsw : swapsWith (.ListComp elt [⟨.Name x px, iter, ifs, 0⟩] scope pos) (some (.Name y py)) spos.line c.env = pure true) :
    ES c (.Assign [.Name y py] (.ListComp elt [⟨.Name x px, iter, ifs, 0⟩] scope pos) spos) st Q := by
  refine es_assignComp hsw ?_
  have hh : EV c iter st fun v st1 => ITER c v st1 fun items Src st2 => COMPG c scope cl x ifs elt items Src st2 fun D st3 => USE c (some (assign (.Name y py) c.env)) D st3 (fun _ st' => Q .next st') :=
    TR.mono h fun v st1 h1 val r => TR.mono (h1 val r) fun itv st2 hx => by
      obtain ⟨it, ia, items, Src, st0, e1, e2, W, hsub, I, hz, h0, hsrc, turn, done⟩ := hx
      exact ⟨it, ia, items, Src, st0, e1, e2, W, hsub, I, hz, h0, hsrc, turn, fun L D ys hp hI => assignName_tr (.ref D) (done L D ys hp hI)⟩
  exact comp_go (use := some (assign (.Name y py) c.env)) hclos hkind hnames hs hh
theorem sn_cellU {c : Fc} {st : St} {x : Str} {v : V} {a : Addr} {old : Option V} {hp' : Hp} {Q : St → Prop} (hk : c.env.kindOf x = some .cell) (hc : c.env.cells.lookup x = some a) (u : Upd st.hp a (.cell old) (.cell (some v)) hp') (q : Q ⟨st.loc, hp'⟩) : SN c x v st Q := by
  obtain ⟨pre, post, e1, e2⟩ := u.split
  exact sn_cell hk hc e1 (e2 ▸ q)
end
end Mine

set_option maxRecDepth 100000
set_option Elab.async false
set_option linter.unusedVariables false
open PySem PySem.W PyProof.Rows PySem.Calls
namespace Mine

/-! ## exceptions under way -/
noncomputable def Exc0 (oe : Obj) : Prop := ∃ vs a0, oe.cls = .type "ValueError" ∧ oe.data = .fields vs ∧ vs[0]? = some a0 ∧ vs[1]? = some .none
noncomputable def Exc1 (oe oT : Obj) (T : Addr) : Prop := ∃ vs a0 ts, oe.cls = .type "ValueError" ∧ oe.data = .fields vs ∧ vs[0]? = some a0 ∧ vs[1]? = some (.ref T) ∧ oT.data = .fields ts ∧ ts[3]? = some .none
noncomputable def MX (b : Bool) (c : Fc) (st : St) (φ : List (Addr × Obj)) (e : Value) (s : Shared) : Prop := match b with
  | false => ∃ ea oe, e = .ref ea ∧ Sat c φ ⟨st.loc, (ea, .raw oe) :: st.hp⟩ s ∧ Exc0 oe
  | true => ∃ ea T oe oT, e = .ref ea ∧ Sat c φ ⟨st.loc, (T, .raw oT) :: (ea, .raw oe) :: st.hp⟩ s ∧ Exc1 oe oT T

theorem ER.names {news : List (Addr × Obj)} {hp : List (Addr × AObj)} (H : All2 ER news hp) : news.map (·.1) = hp.map (·.1) := by
  induction H with
  | nil => rfl
  | cons r _ ih => simp [r.1, ih]
theorem Sat.addOld {c : Fc} {φ : List (Addr × Obj)} {st : St} {s : Shared} (S : Sat c φ st s) {a : Addr} {o : Obj} {ao : AObj} (ho : s.heap.get? a = some o) (h0 : c.h₀.get? a = none) (hL : a ≠ c.env.locals) (h1 : a ∉ st.hp.map (·.1)) (h2 : a ∉ φ.map (·.1)) (r : OR o ao) : Sat c φ ⟨st.loc, (a, ao) :: st.hp⟩ s := by
  obtain ⟨news, φ', N, nd, H, P⟩ := S.nw
  refine ⟨S.ok, S.fr, ⟨(a, o) :: news, φ', ?_, ?_, .cons ⟨rfl, r⟩ H, P⟩, S.rest, S.frm⟩
  · intro p hp
    rcases List.mem_cons.mp hp with rfl | hp
    · exact ⟨ho, hL, h0⟩
    · exact N p hp
  · rw [List.cons_append, List.map_cons, List.nodup_cons]
    refine ⟨fun hm => ?_, nd⟩
    rw [List.map_append] at hm
    rcases List.mem_append.mp hm with hm | hm
    · refine h1 ?_
      rw [← ER.names H]; exact hm
    · refine h2 ?_
      rw [← All2PR.names P]; exact hm
theorem PR.redo {h' : Heap} {ψ ψ0 : List (Addr × Obj)} (P : All2 PR ψ ψ0) : (∀ p ∈ ψ, ∃ o', h'.get? p.1 = some o' ∧ FR p.2 o') → ∃ ψ', All2 PR ψ' ψ0 ∧ ψ'.map (·.1) = ψ.map (·.1) ∧ ∀ q ∈ ψ', h'.get? q.1 = some q.2 := by
  induction P with
  | nil => intro _; exact ⟨[], .nil, rfl, fun q hq => nomatch hq⟩
  | cons r _ ih =>
    rename_i a b l m _
    intro h
    obtain ⟨ψ', P', e, g⟩ := ih fun p hp => h p (.tail _ hp)
    obtain ⟨o', ho', f⟩ := h a (.head _)
    refine ⟨(a.1, o') :: ψ', .cons ⟨r.1, r.2.trans f⟩ P', by simp [e], fun q hq => ?_⟩
    rcases List.mem_cons.mp hq with rfl | hq
    · exact ho'
    · exact g q hq
/-- the addresses of the frames of a stack -/
noncomputable def frAt (l : List Env) : List Addr := l.filterMap (·.frame)
section
variable {c : Fc} {φ : List (Addr × Obj)} {loc : Loc} {ents hp : Hp} {s : Shared} {l : List Env}
theorem frAt_mem (S : Sat c φ ⟨loc, hp⟩ s) (hl : c.A.frames = some l) {a : Addr} (ha : a ∈ frAt l) : a = c.env.locals ∨ ∃ o es n, (a, o) ∈ φ ∧ o.data = .dict es n := by
  obtain ⟨e, he, hf⟩ := List.mem_filterMap.mp ha
  obtain ⟨_, L, hf', hL⟩ := S.frm l hl e he
  rw [hf] at hf'
  obtain rfl := Option.some.inj hf'
  exact hL
/-- what a step that touches only frames and the exception leaves -/
theorem Sat.step (S : Sat c φ ⟨loc, ents ++ hp⟩ s) (hl : c.A.frames = some l) {h' : Heap} (k1 : (hideAll s.heap (frAt l ++ ents.map (·.1))).StaysIn h') (k2 : ∀ b o, s.heap.get? b = some o → (∀ vs, o.data ≠ .fields vs) → ∃ sl, h'.get? b = some { o with slots := sl }) :
    Sat c φ ⟨loc, hp⟩ { s with heap := h' } ∧ (∀ T oT ts, (hideAll s.heap (frAt l ++ ents.map (·.1))).get? T = none → h'.get? T = some oT → oT.data = .fields ts → c.h₀.get? T = none ∧ T ≠ c.env.locals ∧ T ∉ hp.map (·.1) ∧ T ∉ φ.map (·.1)) := by
  obtain ⟨m, F, hlr⟩ := S.fr
  obtain ⟨news, φ', N, nd, H, P⟩ := S.nw
  obtain ⟨hh, tk, er⟩ := S.rest
  obtain ⟨n1, n2, rfl, H1, H2⟩ := All2.split H
  have e1 := ER.names H1
  have phi : ∀ {a o}, (a, o) ∈ φ → ∃ o', (a, o') ∈ φ' ∧ FR o o' := fun {a o} hm => by
    obtain ⟨⟨a', o'⟩, hp', r⟩ := All2.mem P hm
    obtain rfl : a' = a := r.1
    exact ⟨o', hp', r.2⟩
  have dict : ∀ {o o' : Obj} {es n}, FR o o' → o.data = .dict es n → o'.data = .dict es n := fun {o o' es n} r hd => by
    rcases r with rfl | ⟨_, _, _, _, rfl⟩
    · exact hd
    · exact hd
  have hid0 : ∀ b o, c.h₀.get? b = some o → b ∉ frAt l ++ ents.map (·.1) := fun b o e hm => by
    rcases List.mem_append.mp hm with hm | hm
    · rcases frAt_mem S hl hm with rfl | ⟨o2, _, _, hm, _⟩
      · exact absurd (Heap.lt_size e) (Nat.not_lt.mpr F.above)
      · obtain ⟨o3, hm, _⟩ := phi hm
        have := (N _ (List.mem_append_right _ hm)).2.2
        rw [this] at e; cases e
    · rw [← e1] at hm
      obtain ⟨p, hp', rfl⟩ := List.mem_map.mp hm
      have := (N p (List.mem_append_left _ (List.mem_append_left _ hp'))).2.2
      rw [this] at e; cases e
  have nd1 : ∀ p ∈ n2, p.1 ∉ n1.map (·.1) := fun p hp hm => by
    rw [List.append_assoc, List.map_append] at nd
    exact (List.nodup_append.mp nd).2.2 _ hm _ (by rw [List.map_append]; exact List.mem_append_left _ (List.mem_map_of_mem hp)) rfl
  have nd2 : ∀ p ∈ n2, p.1 ∉ φ'.map (·.1) := fun p hp hm => by
    rw [List.map_append] at nd
    exact (List.nodup_append.mp nd).2.2 _ (List.mem_map_of_mem (List.mem_append_right _ hp)) _ hm rfl
  have hid2 : ∀ p ∈ n2, p.1 ∉ frAt l ++ ents.map (·.1) := fun p hp hm => by
    rcases List.mem_append.mp hm with hm | hm
    · rcases frAt_mem S hl hm with h | ⟨o2, _, _, hm, _⟩
      · exact (N p (List.mem_append_left _ (List.mem_append_right _ hp))).2.1 h
      · obtain ⟨o3, hm, _⟩ := phi hm
        exact nd2 p hp (List.mem_map.mpr ⟨_, hm, rfl⟩)
    · rw [← e1] at hm
      exact nd1 p hp hm
  have hid3 : ∀ p ∈ φ', (∀ es n, p.2.data ≠ .dict es n) → p.1 ∉ frAt l ++ ents.map (·.1) := fun p hp hd hm => by
    rcases List.mem_append.mp hm with hm | hm
    · rcases frAt_mem S hl hm with h | ⟨o2, es, n, hm, hdd⟩
      · exact (N p (List.mem_append_right _ hp)).2.1 h
      · obtain ⟨o3, hm, r⟩ := phi hm
        have h1 := (N _ (List.mem_append_right _ hm)).1
        have h2 := (N p (List.mem_append_right _ hp)).1
        rw [h1] at h2
        exact hd es n (by rw [← Option.some.inj h2]; exact dict r hdd)
    · rw [← e1] at hm
      rw [List.map_append] at nd
      obtain ⟨q, hq, e⟩ := List.mem_map.mp hm
      exact (List.nodup_append.mp nd).2.2 _ (List.mem_map_of_mem (List.mem_append_left _ hq)) _ (List.mem_map_of_mem hp) e
  have step : ∀ b o, s.heap.get? b = some o → b ∉ frAt l ++ ents.map (·.1) → h'.get? b = some o := fun b o e hm => k1 b o (hideAll_get _ e hm)
  obtain ⟨φ'', P', eφ, g⟩ := PR.redo (h' := h') P fun p hp => by
    have hg := (N p (List.mem_append_right _ hp)).1
    by_cases hd : ∃ es n, p.2.data = .dict es n
    · obtain ⟨es, n, hd⟩ := hd
      obtain ⟨sl, h⟩ := k2 p.1 p.2 hg fun vs q => by rw [hd] at q; cases q
      exact ⟨_, h, .inr ⟨es, n, sl, hd, rfl⟩⟩
    · exact ⟨p.2, step _ _ hg (hid3 p hp fun es n q => hd ⟨es, n, q⟩), .refl _⟩
  constructor
  · refine ⟨S.ok, ⟨m, ⟨Heap.UpToSlots.ns k2 F.ns, fun b o e => step b o (F.keep b o e) (hid0 b o e), F.above⟩, hlr⟩, ⟨n2, φ'', ?_, ?_, H2, P'⟩, ⟨h', tk, by rw [er]⟩, S.frm⟩
    · intro p hp
      rcases List.mem_append.mp hp with hp | hp
      · have := N p (List.mem_append_left _ (List.mem_append_right _ hp))
        exact ⟨step _ _ this.1 (hid2 p hp), this.2⟩
      · have hm : p.1 ∈ φ'.map (·.1) := by rw [← eφ]; exact List.mem_map_of_mem hp
        obtain ⟨q, hq, e⟩ := List.mem_map.mp hm
        have := N q (List.mem_append_right _ hq)
        rw [e] at this
        exact ⟨g p hp, this.2⟩
    · rw [List.map_append, eφ, ← List.map_append]
      rw [List.append_assoc, List.map_append] at nd
      exact (List.nodup_append.mp nd).2.1
  · intro T oT ts hb hT hd
    refine ⟨?_, fun e => ?_, fun hm => ?_, fun hm => ?_⟩
    · cases q : c.h₀.get? T with
      | none => rfl
      | some o => rw [hideAll_get _ (F.keep _ _ q) (hid0 _ _ q)] at hb; cases hb
    · subst e
      obtain ⟨o, es, ep, ho, hod, _⟩ := F.ns
      obtain ⟨sl, h⟩ := k2 _ _ ho fun vs q => by rw [hod] at q; cases q
      rw [hT] at h
      obtain rfl := Option.some.inj h
      have hd : o.data = .fields ts := hd
      rw [hod] at hd; cases hd
    · rw [← ER.names H2] at hm
      obtain ⟨p, hp', rfl⟩ := List.mem_map.mp hm
      have := N p (List.mem_append_left _ (List.mem_append_right _ hp'))
      rw [hideAll_get _ this.1 (hid2 p hp')] at hb; cases hb
    · rw [← All2PR.names P] at hm
      obtain ⟨p, hp', rfl⟩ := List.mem_map.mp hm
      have := N p (List.mem_append_right _ hp')
      by_cases hdd : ∃ es n, p.2.data = .dict es n
      · obtain ⟨es, n, hdd⟩ := hdd
        obtain ⟨sl, h⟩ := k2 _ _ this.1 fun vs q => by rw [hdd] at q; cases q
        rw [hT] at h
        obtain rfl := Option.some.inj h
        have hd : p.2.data = .fields ts := hd
        rw [hdd] at hd; cases hd
      · rw [hideAll_get _ this.1 (hid3 p hp' fun es n q => hdd ⟨es, n, q⟩)] at hb; cases hb
theorem Sat.funFrames (S : Sat c φ ⟨loc, ents ++ hp⟩ s) (hl : c.A.frames = some l) : s.heap.FunFrames (hideAll s.heap (frAt l ++ ents.map (·.1))) l := by
  obtain ⟨m, F, hlr⟩ := S.fr
  obtain ⟨news, φ', N, nd, H, P⟩ := S.nw
  have key : ∀ e ∈ l, e.scope.kind ≠ .module ∧ ∃ L o, e.frame = some L ∧ (hideAll s.heap (frAt l ++ ents.map (·.1))).get? L = none ∧ s.heap.get? L = some o ∧ ∀ vs, o.data ≠ .fields vs := fun e he => by
    obtain ⟨k, L, hf, hL⟩ := S.frm l hl e he
    have hn : (hideAll s.heap (frAt l ++ ents.map (·.1))).get? L = none := hideAll_none _ (List.mem_append_left _ (List.mem_filterMap.mpr ⟨e, he, hf⟩))
    rcases hL with rfl | ⟨o, es, n, hm, hd⟩
    · obtain ⟨o, es, ep, ho, hod, _⟩ := F.ns
      exact ⟨k, _, o, hf, hn, ho, fun vs q => by rw [hod] at q; cases q⟩
    · obtain ⟨⟨a', o'⟩, hp', r⟩ := All2.mem P hm
      obtain rfl : a' = L := r.1
      refine ⟨k, _, o', hf, hn, (N _ (List.mem_append_right _ hp')).1, fun vs q => ?_⟩
      rcases r.2 with h | ⟨_, _, _, _, h⟩
      · rw [show o' = o from h, hd] at q; cases q
      · rw [show o' = _ from h] at q
        have q : o.data = .fields vs := q
        rw [hd] at q; cases q
  have go : ∀ l', (∀ e ∈ l', e ∈ l) → s.heap.FunFrames (hideAll s.heap (frAt l ++ ents.map (·.1))) l' := by
    intro l'
    induction l' with
    | nil => intro _; trivial
    | cons e r ih =>
      intro hh
      obtain ⟨k, h⟩ := key e (hh e (.head _))
      exact ⟨k, h, ih fun x hx => hh x (.tail _ hx)⟩
  exact go l fun _ h => h
end
end Mine

set_option maxRecDepth 100000
set_option Elab.async false
set_option linter.unusedVariables false
open PySem PySem.W PyProof.Rows PySem.Calls
namespace Mine

section
variable {c : Fc} {φ : List (Addr × Obj)} {loc : Loc} {ents hp : Hp} {s : Shared} {l : List Env} {st : St}
theorem Sat.headFresh {a : Addr} {ao : AObj} (S : Sat c φ ⟨loc, (a, ao) :: hp⟩ s) : c.h₀.get? a = none ∧ a ≠ c.env.locals ∧ a ∉ hp.map (·.1) ∧ a ∉ φ.map (·.1) := by
  obtain ⟨news, φ', N, nd, H, P⟩ := S.nw
  cases H with
  | cons r H =>
    rename_i p news
    obtain ⟨a', o⟩ := p
    obtain rfl : a' = a := r.1
    have := N (a', o) (.head _)
    rw [List.cons_append, List.map_cons, List.nodup_cons, List.map_append] at nd
    refine ⟨this.2.2, this.2.1, fun hm => ?_, fun hm => ?_⟩
    · rw [← ER.names H] at hm; exact nd.1 (List.mem_append_left _ hm)
    · rw [← All2PR.names P] at hm; exact nd.1 (List.mem_append_right _ hm)
theorem Sat.newAt {a : Addr} (S : Sat c φ st s) (ha : s.heap.get? a = none) : c.h₀.get? a = none ∧ a ≠ c.env.locals ∧ a ∉ st.hp.map (·.1) ∧ a ∉ φ.map (·.1) := by
  obtain ⟨m, F, hlr⟩ := S.fr
  obtain ⟨news, φ', N, nd, H, P⟩ := S.nw
  refine ⟨?_, fun e => ?_, fun hm => ?_, fun hm => ?_⟩
  · cases q : c.h₀.get? a with
    | none => rfl
    | some o => have := F.keep _ _ q; rw [ha] at this; cases this
  · subst e
    obtain ⟨o, _, _, ho, _⟩ := F.ns
    rw [ha] at ho; cases ho
  · rw [← ER.names H] at hm
    obtain ⟨p, hp, rfl⟩ := List.mem_map.mp hm
    have := (N p (List.mem_append_left _ hp)).1
    rw [ha] at this; cases this
  · rw [← All2PR.names P] at hm
    obtain ⟨p, hp, rfl⟩ := List.mem_map.mp hm
    have := (N p (List.mem_append_right _ hp)).1
    rw [ha] at this; cases this
theorem MX.of_traced (S : Sat c φ ⟨loc, ents ++ hp⟩ s) (hl : c.A.frames = some l) {ea : Addr} {a0 : Value} (hfe : c.h₀.get? ea = none ∧ ea ≠ c.env.locals ∧ ea ∉ hp.map (·.1) ∧ ea ∉ φ.map (·.1)) {h' : Heap}
    (k1 : (hideAll s.heap (frAt l ++ ents.map (·.1))).StaysIn h') (k3 : h'.TracedW (hideAll s.heap (frAt l ++ ents.map (·.1))) ea (.type "ValueError") a0) (k2 : s.heap.UpToSlots h') : MX true c ⟨loc, hp⟩ φ (.ref ea) { s with heap := h' } := by
  obtain ⟨S', fr⟩ := S.step hl k1 k2
  obtain ⟨oe, vs, T, oT, ts, he, ⟨hcls, h0⟩, hd, h1, hnT, hTe, hT, hdT, h3⟩ := k3
  obtain ⟨f1, f2, f3, f4⟩ := fr T oT ts hnT hT hdT
  have S1 := S'.addOld (ao := .raw oe) he hfe.1 hfe.2.1 hfe.2.2.1 hfe.2.2.2 ⟨rfl, fun es n q => by rw [hd] at q; cases q⟩
  have S2 := S1.addOld (ao := .raw oT) hT f1 f2 (fun hm => by
    rcases List.mem_cons.mp hm with h | h
    · exact hTe h
    · exact f3 h) f4 ⟨rfl, fun es n q => by rw [hdT] at q; cases q⟩
  exact ⟨ea, T, oe, oT, rfl, S2, vs, a0, ts, hcls, hd, h0, h1, hdT, h3⟩
theorem MX.flying (h : MX true c ⟨loc, hp⟩ φ (.ref ea) s) (hl : c.A.frames = some l) : ∃ a0 T oT oe, Sat c φ ⟨loc, [(T, .raw oT), (ea, .raw oe)] ++ hp⟩ s ∧ Heap.FlyingW (hideAll s.heap (frAt l ++ [T, ea])) l ea (.type "ValueError") a0 s.heap := by
  obtain ⟨ea', T, oe, oT, e, S, vs, a0, ts, hcls, hd, h0, h1, hdT, h3⟩ := h
  cases e
  obtain ⟨o1, ho1, rfl, _⟩ := S.at (a := T) (ao := .raw oT) (.head _)
  obtain ⟨o2, ho2, rfl, _⟩ := S.at (a := ea) (ao := .raw oe) (.tail _ (.head _))
  refine ⟨a0, T, o1, o2, S, fun b o q => of_hideAll _ q, hideAll_none _ (by simp), S.funFrames (ents := [(T, .raw o1), (ea, .raw o2)]) hl, ?_⟩
  exact ⟨o2, vs, T, o1, ts, ho2, ⟨hcls, h0⟩, hd, h1, hideAll_none _ (by simp), fun e => S.headFresh.2.2.1 (by rw [e]; exact .head _), ho1, hdT, h3⟩
theorem MX.eaFresh {b : Bool} {ea : Addr} (h : MX b c ⟨loc, hp⟩ φ (.ref ea) s) : c.h₀.get? ea = none ∧ ea ≠ c.env.locals ∧ ea ∉ hp.map (·.1) ∧ ea ∉ φ.map (·.1) := by
  cases b with
  | false =>
    obtain ⟨ea', oe, e, S, _⟩ := h
    cases e
    exact S.headFresh
  | true =>
    obtain ⟨ea', T, oe, oT, e, S, _⟩ := h
    cases e
    exact (S.drop (l := [_]) rfl).headFresh
theorem MX.isRef {b : Bool} {e : Value} (h : MX b c st φ e s) : ∃ ea, e = .ref ea := by
  cases b with
  | false => obtain ⟨ea, _, e, _⟩ := h; exact ⟨ea, e⟩
  | true => obtain ⟨ea, _, _, _, e, _⟩ := h; exact ⟨ea, e⟩
theorem leave_MX {b : Bool} {e : Value} {env : Env} {outer : List Env} {L : Addr} (hl : c.A.frames = some (env :: outer)) (hf : env.frame = some L) (h : MX b c ⟨loc, hp⟩ φ e s) : wpAny c.M c.A (leaving env e) (fun _ s' => MX true c ⟨loc, hp⟩ φ e s') (fun _ _ => False) s := by
  obtain ⟨ea, rfl⟩ := h.isRef
  have hfe := h.eaFresh
  cases b with
  | false =>
    obtain ⟨ea', oe, e, S, vs, a0, hcls, hd, h0, h1⟩ := h
    cases e
    obtain ⟨o2, ho2, rfl, _⟩ := S.at (a := ea) (ao := .raw oe) (.head _)
    have S' : Sat c φ ⟨loc, [(ea, .raw o2)] ++ hp⟩ s := S
    refine wpAny_leaving_firstW (base := hideAll s.heap (frAt (env :: outer) ++ [ea])) hl (S'.funFrames hl) hf ho2 (fun b o q => of_hideAll _ q) (hideAll_none _ (by simp)) hd h1 h0 fun h' hL => ?_
    obtain ⟨k1, _, k3, k4⟩ := hL
    rw [hcls] at k3
    exact MX.of_traced S' hl hfe k1 k3 k4
  | true =>
    obtain ⟨a0, T, oT, oe, S, f1, f2, f3, f4⟩ := h.flying hl
    refine wpAny_leaving_nextW (base := hideAll s.heap (frAt (env :: outer) ++ [T, ea])) hl f3 hf f4 f1 f2 fun h' hL => ?_
    obtain ⟨k1, _, k3, k4⟩ := hL
    exact MX.of_traced S hl hfe k1 k3 k4

/-! ## triples that end in an exception -/
noncomputable def TRX {α : Type} (b : Bool) (c : Fc) (t : Sem α) (st : St) (P : St → Prop) : Prop :=
  ∀ φ s, Sat c φ st s → wpN c.M c.A t (fun _ _ => False) (fun e s' => ∃ st', MX b c st' φ e s' ∧ P st') s
end
section
variable {α β γ : Type} {b : Bool} {c : Fc} {st : St} {P : St → Prop}
theorem TRX.bind {m : Sem α} {f : α → Sem β} (h : TRX b c m st P) : TRX b c (m >>= f) st P := fun φ s S => wpN_bind (wpN_mono (h φ s S) (fun _ _ x => x.elim) fun _ _ x => x)
theorem TRX.after {R : α → γ → Prop} {m : Sem α} {f : α → Sem β} (h : TR c m R st fun y st1 => ∀ a, R a y → TRX b c (f a) st1 P) : TRX b c (m >>= f) st P := fun φ s S =>
  wpN_bind (wpN_mono (h φ s S) (fun a s' ⟨y, st1, r, S', q⟩ => q a r φ s' S') fun _ _ x => x.elim)
theorem TRX.keepv {m : Sem α} {vs : List Value} (h : TRX b c m st P) : TRX b c (m.keep vs) st P := fun φ s S => wpN_keep (h φ s S)
theorem TRX.stand {pos : Pos} {f : Unit → Sem α} (h : TRX b c (f ()) st P) : TRX b c (standAt pos >>= f) st P := fun φ s S => wpN_bind (wpN_standAt (h φ s S))
theorem xx_cons {s : Stmt} {ss : List Stmt} (h : TRX b c (exec s c.env) st P) : TRX b c (execs (s :: ss) c.env) st P := TRX.bind h
theorem xx_if {t : PySem.Expr} {bd o : List Stmt} {pos : Pos} (h : EB c t st fun k st1 => CN k (TRX b c (execs bd c.env) st1 P) (TRX b c (execs o c.env) st1 P)) : TRX b c (exec (.If t bd o pos) c.env) st P :=
  TRX.stand (TRX.after (TR.mono h fun k st1 h1 k' e => by
    subst e
    cases k' with
    | true => exact h1
    | false => exact h1))
theorem xx_assign {x : Str} {px : Pos} {e : PySem.Expr} {pos : Pos} (h : TRX b c (eval e c.env) st P) (hs : swapsWithSole [.Name x px] e pos.line c.env = pure false) : TRX b c (exec (.Assign [.Name x px] e pos) c.env) st P := by
  show TRX b c (standAt pos >>= fun _ => swapsWithSole [.Name x px] e pos.line c.env >>= _) st P
  refine TRX.stand ?_
  rw [hs]
  refine TRX.after (R := fun (x y : Bool) => x = y) (TR.pure rfl ?_)
  intro a ea
  subst ea
  exact TRX.bind h
theorem xx_expr {e : PySem.Expr} {pos : Pos} (h : TRX b c (eval e c.env) st P) (hi : interactive c.env = false) (hs : swapsWith e none pos.line c.env = pure false) : TRX b c (exec (.Expr e pos) c.env) st P := by
  show TRX b c (standAt pos >>= fun _ => if interactive c.env then printExpr (eval e c.env) else _) st P
  refine TRX.stand ?_
  rw [hi, if_neg Bool.false_ne_true]
  rw [hs]
  refine TRX.after (R := fun (x y : Bool) => x = y) (TR.pure rfl ?_)
  intro a ea
  subst ea
  exact TRX.bind h
/-- a call that raises -/
noncomputable def CAX (c : Fc) (f : V) (as : List V) (kn : List Str) (ks : List V) (st : St) (P : St → Prop) : Prop :=
  ∀ fv vs kvs, VR fv f → All2 VR vs as → All2 VR kvs ks → TRX true c (call fv vs (kn.zip kvs)) st P
theorem xx_callWith {pos : Pos} {f : Value} {fa : V} {args : List PySem.Expr} {ks : List Keyword} (rf : VR f fa)
    (hk : (keywordEach ks c.env).all (·.1.isSome) = true) (hst : (starEach args c.env).all (fun x => !x.1) = true)
    (h : EL c pos args st fun as st1 => EK c pos ks st1 fun kvs st2 => Keeper c fa st2 ∧ ∀ vs kv, All2 VR vs as → All2 VR kv kvs → TRX b c (call f ([] ++ vs) (((keywordEach ks c.env).filterMap (·.1)).zip kv)) st2 P) :
    TRX b c (callWith pos f [] (backTo pos (starEach args c.env)) (backToKw pos (keywordEach ks c.env))) st P := by
  unfold callWith
  refine TRX.after (TR.holding (TR.mono (evalArgs_tr (Q := fun y st2 => Keeper c fa st2 ∧ ∀ vs kv, All2 VR vs y.1 → All2 VR kv y.2 → TRX b c (call f ([] ++ vs) (((keywordEach ks c.env).filterMap (·.1)).zip kv)) st2 P) hk hst h) ?_))
  rintro ⟨as, kvs⟩ st2 ⟨hkp, hcall⟩ x ⟨kv, ekw, r1, r2⟩
  refine TRX.stand ?_
  obtain ⟨xp, xk⟩ := x
  dsimp only at ekw r1 r2 ⊢
  subst ekw
  have hstar : ((backTo pos (starEach args c.env)).any (·.1) || (backToKw pos (keywordEach ks c.env)).any (·.1.isNone)) = false := by
    rw [Bool.or_eq_false_iff]
    constructor
    · unfold backTo; rw [List.any_map]
      rw [List.any_eq_false]
      intro y hy
      have := List.all_eq_true.mp hst y hy
      simpa using this
    · unfold backToKw; rw [List.any_map]
      rw [List.any_eq_false]
      intro y hy
      have := List.all_eq_true.mp hk y hy
      cases hn : y.1 with
      | none => rw [hn] at this; cases this
      | some z => simp [hn]
  rw [hstar]
  have body := hcall xp kv r1 r2
  cases fa with
  | ref a =>
    cases rf
    intro φ s S
    have hf : ∃ o fd, s.heap.get? a = some o ∧ o.data = .func fd := by
      rcases hkp with ⟨oc, od, fd, sl, e⟩ | ⟨n, q, p, b, sc, cl, c', e⟩
      · exact ⟨_, fd, S.kin _ _ e, rfl⟩
      · obtain ⟨o, ho, pm, ctv, rfl⟩ := S.at e
        exact ⟨_, _, ho, rfl⟩
    obtain ⟨o, fd, ho, hd⟩ := hf
    refine wpN_bind (m := keeperOf (.ref a)) (lift ?_)
    unfold keeperOf
    refine wpAny_bind (wpAny_load ho ?_)
    rw [hd]
    refine wpAny_pure ?_
    dsimp only
    split <;> first
      | exact TRX.bind body φ s S
      | exact TRX.bind (TRX.keepv body) φ s S
  | type n => cases rf; intro φ s S; exact wpN_bind (m := keeperOf (.type n)) (lift (wpAny_pure (TRX.bind body φ s S)))
  | bi n => cases rf; intro φ s S; exact wpN_bind (m := keeperOf (.builtin n)) (lift (wpAny_pure (TRX.bind body φ s S)))
  | none => exact hkp.elim
  | bool => exact hkp.elim
  | int => exact hkp.elim
  | str => exact hkp.elim
  | bytes => exact hkp.elim
theorem xx_call {n : Str} {np pos : Pos} {args : List PySem.Expr} {ks : List Keyword} (h : EV c (.Name n np) st fun f st1 => EL c pos args st1 fun as st2 => EK c pos ks st2 fun kvs st3 => Keeper c f st3 ∧ CAX c f as (kwNames ks) kvs st3 P)
    (hk : (keywordEach ks c.env).all (·.1.isSome) = true) (hst : (starEach args c.env).all (fun x => !x.1) = true) (hn : (keywordEach ks c.env).filterMap (·.1) = kwNames ks) : TRX true c (eval (.Call (.Name n np) args ks pos) c.env) st P := by
  show TRX true c (eval (.Name n np) c.env >>= fun f => callWith pos f [] (backTo pos (starEach args c.env)) (backToKw pos (keywordEach ks c.env))) st P
  refine TRX.after (TR.mono h fun f st1 h1 fv rf => xx_callWith rf hk hst ?_)
  refine TR.mono h1 fun as st2 h2 => TR.mono h2 fun kvs st3 h3 => ⟨h3.1, fun vs kv r1 r2 => ?_⟩
  rw [hn]
  exact h3.2 fv vs kv rf r1 r2
/-- raise ValueError('..') -/
theorem xx_raise {x : Str} {k : Nat} {np p cpos pos : Pos} (hk : c.env.kindOf "ValueError" = some .globalImplicit) (hn : nsIn c.g.K mainGlobals "ValueError" = some none) (hd : c.hd = false) (q : P st) :
    TRX false c (exec (.Raise (some (.Call (.Name "ValueError" np) [.Constant (.str x) k p] [] cpos)) none pos) c.env) st P := fun φ s S => by
  refine lift (Raise_madeB PySem.F.excCall_ValueError PySem.F.excRaise_ValueError (S.ok.hand hd) ?_)
  refine Name_function_global S.ok.kind hk (loadGlobal_builtin (mg := c.g.mg) (mb := c.g.mb) (by rw [S.ok.glob]; exact S.top.g) (mg_none_of S.kin S.top.g hn) (by rw [S.ok.blt]; exact S.top.b) ((S.top.builtins "ValueError" (by decide)).trans PyProof.Rows.Boot.«ValueError») ⟨rfl, ?_⟩)
  refine wpAny_bind (wpAny_bind (wpAny_fresh (wpAny_pure ?_)))
  show wpAny _ _ (pure [Value.str x s.toks] >>= _) _ _ _
  refine wpAny_bind (wpAny_pure (wpAny_bind (wpAny_holding ?_)))
  show wpAny _ _ (pure []) _ _ _
  refine wpAny_pure (wpAny_pure ⟨by show 1 ≤ sizeLine; rw [sizeLine_eq]; decide, fun h' e hx => ⟨st, ?_, q⟩⟩)
  obtain ⟨t, he, htn, ht⟩ := hx.there
  obtain ⟨f1, f2, f3, f4⟩ := S.newAt hx.new
  exact ⟨e, _, rfl, ((S.keeps (tk := s.toks + 1) hx.keeps).addOld (ao := .raw _) he f1 f2 f3 f4 ⟨rfl, fun es n q => by cases q⟩), _, .ref t, rfl, rfl, rfl, rfl⟩
end
end Mine

set_option maxRecDepth 100000
set_option Elab.async false
set_option linter.unusedVariables false
open PySem PySem.W PyProof.Rows PySem.Calls
namespace Mine

section
variable {prog : Program} {w : World} {A : Around} {R : Result → Shared → Prop} {s : Shared}
theorem codeN_funcX {body : List Stmt} {env : Env} (h : wpN (model prog w) (A.deeper env) (execs body env) (fun _ _ => False) (fun e s' => wpN (model prog w) (A.deeper env) (leaving env e) (fun _ s'' => R (.error e) s'') (fun _ _ => False) s') s) : codeN (model prog w) A (.func body env) R s := by
  refine codeN_of_tree ?_
  show wpN _ (A.deeper env) (do point; match ← (execs body env).onRaise (leaving env) with | .ret v => ret v | _ => ret .none) _ _ s
  exact wpN_bind (wpN_point (wpN_bind (wpN_onRaise (wpN_mono h (fun _ _ h' => h'.elim) fun e s' h' => wpN_mono h' (fun _ _ x => x) fun _ _ x => x.elim))))
end
theorem ca_defX {b : Bool} {c : Fc} {st : St} {P : St → Prop} {f : Addr} {oc : Value} {od : Option Addr} {osl : Array (Option Value)} {name qual : Str} {params : Arguments} {body : List Stmt} {scope : Scope} {dV kV doc pm cdv ct : Value} {an : Option Addr}
    {as : List V} {kn : List Str} {ks : List V} {ab : List (Str × V)} {l0 : List Env}
    (hK : c.g.K.lookup f = some ⟨oc, od, .func (fnX name qual params body scope [] dV kV doc pm an cdv ct), osl⟩) (hcd : codeIn c.g.K cdv qual = true) (hroom : 0 < c.room) (hl : c.A.frames = some l0)
    (hb : BN c.g.K (fnX name qual params body scope [] dV kV doc pm an cdv ct) as kn ks ab)
    (h : ∀ L g A, BI ⟨c.g, A, envX qual scope L f cdv (cellsFrom (L + 1) scope.names []), g, c.s₀, c.room - 1, false⟩ ab ⟨[], cellEntries (L + 1) scope.names st.hp⟩ fun st1 => ∀ A', A'.frames = some (envX qual scope L f cdv (cellsFrom (L + 1) scope.names []) :: l0) →
      TRX b ⟨c.g, A', envX qual scope L f cdv (cellsFrom (L + 1) scope.names []), g, c.s₀, c.room - 1, false⟩ (execs body (envX qual scope L f cdv (cellsFrom (L + 1) scope.names []))) st1 fun st2 => P ⟨st.loc, st2.hp⟩)
    (hco : scope.isCoroutine = false) (hgen : scope.isGenerator = false) (hk : scope.kind = .function) : CAX c (.ref f) as kn ks st P := by
  intro fv vs kvs rf r1 r2 φ s S
  cases rf
  obtain ⟨binds, hbind, rb⟩ := hb s S.kin vs kvs r1 r2
  refine wpN_call (codeN_callFn (fd := fnX name qual params body scope [] dV kV doc pm an cdv ct) ?_ (S.kin _ _ hK) rfl hco hgen rfl (codeRec_of S.kin hcd) (lift (hbind _ _ _ _ ?_)))
  · have := S.ok.depth; have : c.A.depth < 1000 := by omega
    exact this
  have ok := fun L cl => S.ok.sub (env := newEnv scope L mainGlobals cl (qual ++ ".<locals>.") (some f) cdv none builtinsNs) rfl rfl hk hroom
  refine wpN_mono (newEnv_wp S (A := c.A.in1) (r := c.room - 1) (hd := false) (scope := scope) (closure := []) (qual := qual ++ ".<locals>.") (func := some f) (code := cdv) (around := none)
    (Q := fun L g st1 => ∀ A', A'.frames = some (envX qual scope L f cdv (cellsFrom (L + 1) scope.names []) :: l0) → TRX b ⟨c.g, A', envX qual scope L f cdv (cellsFrom (L + 1) scope.names []), g, c.s₀, c.room - 1, false⟩ (execs body (envX qual scope L f cdv (cellsFrom (L + 1) scope.names []))) st1 fun st2 => P ⟨st.loc, st2.hp⟩) (fun L cl => (ok L cl).1) rfl rb h) ?_ fun _ _ x => x.elim
  rintro env s1 ⟨L, g, st1, ψ, rfl, S1, hx, hout⟩
  have hfr : (c.A.deeper (envX qual scope L f cdv (cellsFrom (L + 1) scope.names []))).frames = some (envX qual scope L f cdv (cellsFrom (L + 1) scope.names []) :: l0) := by
    show c.A.frames.map _ = _
    rw [hl]; rfl
  refine ⟨S1.top.nolimit, codeN_funcX (wpN_mono (hx (c.A.deeper _) hfr ψ s1 (S1.reA (ok L _).2 (frames_deep hk rfl))) (fun _ _ x => x) ?_)⟩
  rintro e s2 ⟨st2, mx, q⟩
  obtain ⟨ea, rfl⟩ := mx.isRef
  refine wpN_post (lift (leave_MX (c := ⟨c.g, c.A.deeper _, _, g, c.s₀, c.room - 1, false⟩) (L := L) hfr rfl mx)) fun _ s3 m3 => ?_
  obtain ⟨ea', T, oe, oT, e, S3, hx3⟩ := m3
  cases e
  obtain ⟨_, _, _, _, hS⟩ := hout _ _ _ (by rfl) (by rfl) S3
  exact ⟨⟨st.loc, st2.hp⟩, ⟨ea, T, oe, oT, rfl, hS.unFrame S.frm, hx3⟩, q⟩

/-! ## try -/
theorem wpN_runOwnH {M : Model} {A : Around} {E : Value → Shared → Prop} {s : Shared} {c : Code} {env : Env} {e : Value} {Q : Flow → Shared → Prop} (hc : codeN M (A.mark (some e)) c (fun r s' => match r with | .ok f => Q f s' | .error _ => False) s) (hk : held c = false) (hnb : e ≠ byPass) : wpN M A (runOwn c env (some e)) Q E s := by
  unfold runOwn
  refine wpN_onRaise (wpN_run (h := some e) ?_ hk (fun x => hnb (Option.some.inj x)))
  refine codeN_mono hc fun r s' hr => ?_
  cases r with
  | ok f => exact hr
  | error e => exact hr.elim
theorem under_hand {A : Around} {e : Value} {hs : List ExceptHandler} {env : Env} : A.under (.handlers e hs env) = A := Around.under_of_weight rfl rfl
theorem wpN_handleBy {prog : Program} {w : World} {A : Around} {E : Value → Shared → Prop} {s : Shared} {env : Env} {ea : Addr} {t : PySem.Expr} {b₀ : Stmt} {suite : List Stmt} {pos : Pos} {rest : List ExceptHandler} {Q : Flow → Shared → Prop}
    (h : wpN (model prog w) (A.mark (some (.ref ea))) (eval t env) (fun c s₁ => c = .type "ValueError" ∧ s₁.TypeIs (.ref ea) "ValueError" ∧
      wpN (model prog w) (A.mark (some (.ref ea))) (setFlight (.ref ea) none) (fun _ s₂ => wpN (model prog w) (A.mark (some (.ref ea))) (execs (b₀ :: suite) env) Q (fun _ _ => False) s₂) (fun _ _ => False) s₁) (fun _ _ => False) s) :
    wpN (model prog w) A (handleBy (.ref ea) env (.ExceptHandler (some t) none (b₀ :: suite) pos :: rest)) Q E s := by
  rw [handleBy]
  have step2 : ∀ s₁, wpN (model prog w) (A.mark (some (.ref ea))) (setFlight (.ref ea) none) (fun _ s₂ => wpN (model prog w) (A.mark (some (.ref ea))) (execs (b₀ :: suite) env) Q (fun _ _ => False) s₂) (fun _ _ => False) s₁ →
      codeN (model prog w) (A.mark (some (.ref ea))) (.handlers (.ref ea) [.ExceptHandler none none (b₀ :: suite) pos] env) (fun r s' => match r with | .ok f => Q f s' | .error _ => False) s₁ := fun s₁ h₁ => by
    refine codeN_of_tree ?_
    rw [under_hand]
    show wpN _ _ (do return Fin.done (← (handleWith (.ref ea) env [.ExceptHandler none none (b₀ :: suite) pos]).onRaise (fun x => do noteFrame x env; theTreesLotGoes x))) _ _ s₁
    refine wpN_bind (wpN_onRaise (wpN_mono (E := fun _ _ => False) ?_ (fun _ _ x => x) fun _ _ x => x.elim))
    unfold handleWith
    exact wpN_bind (wpN_standAt (wpN_bind (wpN_mono h₁ (fun _ s₂ h₂ => wpN_mono h₂ (fun f s₃ h₃ => wpN_pure h₃) fun _ _ x => x) fun _ _ x => x)))
  have step1 : codeN (model prog w) (A.mark (some (.ref ea))) (.handlers (.ref ea) [.ExceptHandler (some t) none [] pos] env) (fun r s' => match r with
      | .ok f => f = .brk ∧ wpN (model prog w) (A.mark (some (.ref ea))) (setFlight (.ref ea) none) (fun _ s₂ => wpN (model prog w) (A.mark (some (.ref ea))) (execs (b₀ :: suite) env) Q (fun _ _ => False) s₂) (fun _ _ => False) s'
      | .error _ => False) s := by
    refine codeN_of_tree ?_
    rw [under_hand]
    show wpN _ _ (do return Fin.done (← (handleWith (.ref ea) env [.ExceptHandler (some t) none [] pos]).onRaise (fun x => do noteFrame x env; theTreesLotGoes x))) _ _ s
    refine wpN_bind (wpN_onRaise (wpN_mono (E := fun _ _ => False) ?_ (fun _ _ x => x) fun _ _ x => x.elim))
    unfold handleWith
    refine wpN_bind (wpN_standAt (wpN_bind (wpN_post h fun cv s₁ h₁ => wpN_bind (wpN_standAt (wpN_bind ?_)))))
    obtain ⟨rfl, hX, hk⟩ := h₁
    exact lift (wpAny_excMatches_type (b := true) hX PySem.F.isExc_ValueError PySem.F.notTuple_ValueError PySem.F.self_ValueError (wpN_pure (wpN_pure ⟨rfl, hk⟩)))
  refine wpN_bind (wpN_holding (wpN_runOwnH (codeN_mono step1 fun r s₁ h₁ => ?_) rfl (by intro q; cases q)))
  cases r with
  | error x => exact h₁
  | ok f =>
    obtain ⟨rfl, hk⟩ := h₁
    refine wpN_bind (wpN_pure ?_)
    simp only [Bool.not_true, Bool.false_eq_true, if_false]
    refine wpN_bind (wpN_holding (wpN_runOwnH (codeN_mono (step2 _ hk) fun r s₂ h₂ => ?_) rfl (by intro q; cases q)))
    cases r with
    | error x => exact h₂
    | ok f => exact wpN_pure h₂
noncomputable abbrev mkFc (c : Fc) (e : Value) : Fc := ⟨c.g, c.A.mark (some e), c.env, c.h₀, c.s₀, 0, true⟩
theorem Sat.mark {c : Fc} {φ : List (Addr × Obj)} {st : St} {s : Shared} (S : Sat c φ st s) (e : Value) : Sat (mkFc c e) φ st s :=
  ⟨⟨S.ok.top, S.ok.kin, S.ok.glob, S.ok.blt, S.ok.kind, fun q => by (cases q), fun _ => rfl, by have := S.ok.depth; show c.A.depth + 0 ≤ 400; omega, by have := S.ok.units; show c.A.units + 10 * 0 ≤ 1000; omega⟩, S.fr, S.nw, S.rest, S.frm⟩
theorem Sat.unmark {c : Fc} {φ : List (Addr × Obj)} {st : St} {s : Shared} (ok : FcOk c) {e : Value} (S : Sat (mkFc c e) φ st s) : Sat c φ st s := ⟨ok, S.fr, S.nw, S.rest, S.frm⟩
theorem es_try {c : Fc} {st : St} {P : St → Prop} {Q : AFlow → St → Prop} {body suite : List Stmt} {b₀ : Stmt} {np hpos pos : Pos} {outer : List Env} {L : Addr} (hl : c.A.frames = some (c.env :: outer)) (hf : c.env.frame = some L) (hk : c.env.kindOf "ValueError" = some .globalImplicit) (hn : nsIn c.g.K mainGlobals "ValueError" = some none)
    (hb : TRX true c (execs body c.env) st P) (hh : ∀ st1 e, P st1 → EX (mkFc c e) (b₀ :: suite) st1 Q) : ES c (.Try body [.ExceptHandler (some (.Name "ValueError" np)) none (b₀ :: suite) hpos] [] [] pos) st Q := by
  intro φ s S
  rw [arm_exec_Try]
  refine wpN_bind (wpN_standAt ?_)
  unfold tryStmt
  simp only [List.isEmpty_nil, if_true, List.isEmpty_cons, Bool.false_and, Bool.false_eq_true, if_false]
  refine wpN_bind (wpN_attempt (wpN_mono (hb φ s S) (fun _ _ x => x.elim) ?_))
  intro e s1 hcp2
  refine cps fun Pcp kcp => ?_
  obtain ⟨⟨loc, hp⟩, mx, p⟩ := hcp2
  refine kcp ?_
  clear kcp Pcp
  obtain ⟨ea, rfl⟩ := mx.isRef
  have hfe := mx.eaFresh
  have ok : FcOk c := S.ok
  refine cps fun Pcp kcp => ?_
  obtain ⟨a0, T, oT, oe, S1, fl⟩ := mx.flying hl
  refine kcp ?_
  clear kcp Pcp
  refine wpN_bind (m := noteFrame (.ref ea) c.env) (wpN_post (lift (wpAny_looks_onW (base := hideAll s1.heap (frAt (c.env :: outer) ++ [T, ea])) (Q := fun _ s' => ∃ h', s' = { s1 with heap := h' } ∧ Heap.HeldW (hideAll s1.heap (frAt (c.env :: outer) ++ [T, ea])) (c.env :: outer) ea (.type "ValueError") a0 L h' ∧ s1.heap.UpToSlots h') hl hf fl fun h' x1 x2 => ⟨h', rfl, x1, x2⟩)) ?_)
  intro _ _ hcp2
  refine cps fun Pcp kcp => ?_
  obtain ⟨h2, rfl, held2, sm2⟩ := hcp2
  refine kcp ?_
  clear kcp Pcp
  refine wpN_bind (m := setFlight (.ref ea) none) (wpN_post (lift (wpAny_landsW (base := hideAll s1.heap (frAt (c.env :: outer) ++ [T, ea])) (Q := fun _ s' => ∃ h', s' = { s1 with heap := h' } ∧ Heap.FlyingW (hideAll s1.heap (frAt (c.env :: outer) ++ [T, ea])) (c.env :: outer) ea (.type "ValueError") a0 h' ∧ h2.UpToSlots h') held2 fun h' x1 x2 => ⟨h', rfl, x1, x2⟩)) ?_)
  intro _ _ hcp2
  refine cps fun Pcp kcp => ?_
  obtain ⟨h3, rfl, fl3, sm3⟩ := hcp2
  refine kcp ?_
  clear kcp Pcp
  have mx3 : MX true c ⟨loc, hp⟩ φ (.ref ea) { s1 with heap := h3 } := MX.of_traced S1 hl hfe fl3.1 fl3.2.2.2 (sm2.trans sm3)
  refine cps fun Pcp kcp => ?_
  obtain ⟨ea', T1, oe1, oT1, e3, S3, hx3⟩ := mx3
  refine kcp ?_
  clear kcp Pcp
  cases e3
  refine wpN_handleBy ?_
  have hname := ev_bi (c := mkFc c (.ref ea)) (st := ⟨loc, (T1, .raw oT1) :: (ea, .raw oe1) :: hp⟩) (x := "ValueError") (pos := np) (Q := fun v st' => v = .type "ValueError" ∧ st' = ⟨loc, (T1, .raw oT1) :: (ea, .raw oe1) :: hp⟩) hk hn PyProof.Rows.Boot.«ValueError» (by decide) (.type _) ⟨rfl, rfl⟩ (by decide)
  refine wpN_post (hname φ _ (S3.mark _)) ?_
  intro cv s4 hcp2
  refine cps fun Pcp kcp => ?_
  obtain ⟨_, _, rv, S4, rfl, rfl⟩ := hcp2
  refine kcp ?_
  clear kcp Pcp
  cases rv
  have S4' : Sat c φ ⟨loc, (T1, .raw oT1) :: (ea, .raw oe1) :: hp⟩ s4 := S4.unmark ok
  have mx4 : MX true c ⟨loc, hp⟩ φ (.ref ea) s4 := ⟨ea, T1, oe1, oT1, rfl, S4', hx3⟩
  have hfe4 := mx4.eaFresh
  refine cps fun Pcp kcp => ?_
  obtain ⟨a2, T2, oT2, oe2, S5, fl5⟩ := mx4.flying hl
  refine kcp ?_
  clear kcp Pcp
  refine ⟨rfl, fl5.there, ?_⟩
  refine wpN_post (lift (lands_againW (base := hideAll s4.heap (frAt (c.env :: outer) ++ [T2, ea])) (Q := fun _ s' => ∃ h', s' = { s4 with heap := h' } ∧ Heap.FlyingW (hideAll s4.heap (frAt (c.env :: outer) ++ [T2, ea])) (c.env :: outer) ea (.type "ValueError") a2 h' ∧ s4.heap.UpToSlots h') fl5 fun h' x1 x2 => ⟨h', rfl, x1, x2⟩)) ?_
  intro _ _ hcp2
  refine cps fun Pcp kcp => ?_
  obtain ⟨h6, rfl, fl6, sm6⟩ := hcp2
  refine kcp ?_
  clear kcp Pcp
  have mx6 : MX true c ⟨loc, hp⟩ φ (.ref ea) { s4 with heap := h6 } := MX.of_traced S5 hl hfe4 fl6.1 fl6.2.2.2 sm6
  refine cps fun Pcp kcp => ?_
  obtain ⟨ea'', T3, oe3, oT3, e6, S6, _⟩ := mx6
  refine kcp ?_
  clear kcp Pcp
  cases e6
  have S7 : Sat c φ ⟨loc, hp⟩ { s4 with heap := h6 } := S6.drop (l := [_, _]) rfl
  refine wpN_post (hh ⟨loc, hp⟩ (.ref ea) p φ _ (S7.mark _)) ?_
  intro f s8 hcp2
  refine cps fun Pcp kcp => ?_
  obtain ⟨f', st8, rf, S8, q⟩ := hcp2
  refine kcp ?_
  clear kcp Pcp
  exact ⟨f', st8, rf, S8.unmark ok, q⟩
end Mine

set_option maxRecDepth 100000
set_option Elab.async false
set_option linter.unusedVariables false
namespace Mine
open PySem PySem.W PyProof.Rows PySem.Calls

/-! ## a head of my own: the call is weighed at the one context from which it is made -/
theorem caller_none : NoHold (⟨.builtin "claim.caller" {}, none, none, [], none⟩ : Ctx) := ⟨by decide, fun _ h => nomatch h⟩
noncomputable abbrev WalkMine (q : Program) (loose : List Str) (XP : (Str → Option Value) → Heap → Prop) (YP : World → Heap → Prop) (r : RowW) (d : DefRec) (kwd : List (Str × PySem.Expr)) : Prop :=
  ∀ (w : World) (s₀ s₁ : Shared) (mg mb : Str → Option Value), Ground q loose r.records XP w s₀ mg mb s₁.heap → YP w s₁.heap → ∀ (a : Addr) (o : Obj) (pm cd doc dV kV : Value), s₁.heap.get? a = some o →
    o.data = .func { docDef d.name d.params d.body d.scope pm cd doc with defaults := dV, kwdefaults := kV } → s₁.heap.CodeRec cd d.name → Dflts mg s₁.heap d.params kwd dV kV → mg d.name = some (.ref a) → s₁.gens = #[] →
    ∀ (args : List WData) (vals : List Value) (as : List Addr), r.claim.pre args = true → WData.layableAll args = true → ReadsAllW r.records (classAt s₀.heap) s₁.heap vals args as → WellAll w.params s₁.heap vals args → (∀ a ∈ as, (a == sysModules) = false) →
      wpN (model r.prog w) callerA (PySem.call (.ref a) vals) (fun v s' => GoodWG r.claim (classAt s₀.heap) (ExcName.means s₀.heap) args s₁ (.ok (.ret v)) s')
        (fun e s' => GoodWG r.claim (classAt s₀.heap) (ExcName.means s₀.heap) args s₁ (.error e) s') s₁

theorem ends_one {prog : Program} {w : World} {t : Sem Fin} {s : Shared} {R : Result → Shared → Prop} (hreg : s.asleep)
    (h : wpN (model prog w) callerA t (fun fin s' => ∃ f, fin = .done f ∧ (R (.ok f) s' ∧ leftWithCleanup s'.gens = false)) (fun e s' => R (.error e) s' ∧ leftWithCleanup s'.gens = false) s) :
    ∃ n r s' s'', runN (denote table) prog w n s ⟨t, .builtin "claim.caller" {}, default, []⟩ = .halted (outcomeOf r) s' ∧
      schedN (denote table) prog w n (.single s ⟨t, .builtin "claim.caller" {}, default, []⟩) = .halted (outcomeOf r) s' ∧ s'.forget = s''.forget ∧ R r s'' := by
  have h1 := h _ default caller_in caller_none
  have h2 : Sem.wp (model prog w) ⟨.builtin "claim.caller" {}, none, none, [], none⟩ t (Sem.finPost (model prog w) ⟨.builtin "claim.caller" {}, none, none, [], none⟩ fun r s' => R r s' ∧ leftWithCleanup s'.gens = false)
      (fun e _ s' => R (.error e) s' ∧ leftWithCleanup s'.gens = false) default s :=
    Sem.wp_mono _ _ t (fun fin p s' ⟨f, e, k⟩ => by subst e; exact k) (fun _ _ _ k => k) _ _ h1
  obtain ⟨n, r, s1, s2, hs, hn, hf, hR⟩ := wp_halts_full (M := model prog w) (R := R) hreg h2
  exact ⟨n, r, s2, s1, hn, hs, hf, hR⟩

/-- what stands when the top has been run: the ground, with and without the records -/
theorem opened {r : OpenRow} {q : Program} {loose : List Str} {Xt : Shared → Bool} {XP : (Str → Option Value) → Heap → Prop} {α : Type} {Yf : Shared → α} {Ya : World → α} {N : Nat} (left : LeftO r.prog q loose Xt Yf Ya N)
    (hX : ∀ s, Xt s = true → XP (s.heap.nsMap mainGlobals) s.heap) (hRf : ∀ s, Xt s = true → RecFacts r.records s.heap) (hch : chainsOk q = true) {w : World} {e : Shared} (he : AfterRun (opening r.prog) w e) :
    ∃ f, fenceModules? r.prog e = some f ∧ f.gens = #[] ∧ ∃ s, TopRan r.prog w f s ∧ s.asleep ∧ s.gens = #[] ∧ s.heap.isNs mainGlobals = true ∧ Yf s = Ya w ∧ RecFacts r.records s.heap ∧ Ground q loose [] XP w s (s.heap.nsMap mainGlobals) (s.heap.nsMap builtinsNs) s.heap :=
  match (left.behind (XP := fun mg h => XP mg h ∧ RecFacts r.records h) (fun s x => And.intro (hX s x) (hRf s x)) hch w).2 e he with
  | ⟨f, a, b, s, c, z, g, n, G, y⟩ => ⟨f, a, b, s, c, z, Array.eq_empty_of_size_eq_zero (beq_iff_eq.mp g), n, y, G.X.2, { G with X := G.X.1 }⟩
/-- what was laid for the call -/
theorem laid_down {r : OpenRow} {q : Program} {loose : List Str} {XP : (Str → Option Value) → Heap → Prop} {w : World} {s : Shared} {mg mb : Str → Option Value} (G : Ground q loose r.toRowW.records XP w s mg mb s.heap) (hg : s.gens = #[]) {args : List WData} (hpre : r.toRowW.claim.pre args = true) (hlay : WData.layableAll args = true)
    {ord : List DictEntry → List DictEntry} (ho : ∀ l, (ord l).Perm l) : ∃ vs s₁ as, layAllW r.toRowW.records (classAt s.heap) w.params ord args s = some (vs, s₁) ∧ (∀ b o, s.heap.get? b = some o → s₁.heap.get? b = some o) ∧ Laid r.toRowW.records w s s₁ args vs as := by
  have x := layAllW_isSome (P := w.params) (ord := ord) G.has args r.toRowW.args s (pre_splitW hpre).1
  cases e : layAllW r.toRowW.records (classAt s.heap) w.params ord args s with
  | none => rw [e] at x; cases x
  | some p =>
    have rest := layAllW_rest _ _ _ e
    have kept := layAllW_keeps _ _ _ e
    exact match reads_layAllW ho _ _ _ e hlay p.2.heap fun _ _ k => k with
      | ⟨as, rd, new, old⟩ => ⟨p.1, p.2, as, rfl, kept, ⟨⟨ord, ho, e⟩, rd, new, old, kept, rest.1.trans hg, rest.2.2.1⟩⟩
theorem PySem.W.holds_open {r : OpenRow} {q : Program} {loose : List Str} {Xt : Shared → Bool} {XP : (Str → Option Value) → Heap → Prop} {α : Type} {Yf : Shared → α} {Ya : World → α} {YP : World → Heap → Prop} {d : DefRec} {kwd : List (Str × PySem.Expr)} {N : Nat}
    (left : LeftO r.prog q loose Xt Yf Ya N) (hY : ∀ w s, Yf s = Ya w → YP w s.heap) (hYk : ∀ w h h', YP w h → (∀ b o, h.get? b = some o → h'.get? b = some o) → YP w h')
    (hX : ∀ s, Xt s = true → XP (s.heap.nsMap mainGlobals) s.heap) (hXk : ∀ mg h h', XP mg h → (∀ b o, h.get? b = some o → h'.get? b = some o) → XP mg h')
    (hdef : defOf q r.name = some (d, kwd)) (hp : r.prog.theDef r.name = some (d.params, d.body, d.scope)) (hk : kwWritten? d.params.kwonlyargs d.params.kw_defaults = some kwd) (hRf : ∀ s, Xt s = true → RecFacts r.records s.heap) (hwr : (!r.writes || r.records.isEmpty) = true)
    (k1 : r.wellSaid = true) (ok : (chainsOk q && opensWell r.prog && (frees r.toRowW && r.within.isEmpty)) = true) (hb : r.prog.bare) (hw : r.toRowW.promised)
    (call : WalkMine q loose XP YP r.toRowW d kwd) : r.Holds := by
  have ok1 := (Bool.and_eq_true_iff.mp ok).1
  have ok2 := (Bool.and_eq_true_iff.mp ok).2
  have hch := (Bool.and_eq_true_iff.mp ok1).1
  obtain ⟨hsame, hu, ha, hap, hmk⟩ := frees_parts (Bool.and_eq_true_iff.mp ok2).1
  have hwi : r.toRowW.claim.within = [] := List.isEmpty_iff.mp (Bool.and_eq_true_iff.mp ok2).2
  have hid := ident_freeW hu ha hap
  refine ⟨k1, hw, ⟨hb, (Bool.and_eq_true_iff.mp ok1).2, by show r.toRowW.makers.map _ = []; rw [hmk]; rfl⟩, hw.witness, fun w => ⟨(left.behind hX hch w).1, fun e he => ?_⟩⟩
  refine cps fun P kP => ?_
  obtain ⟨f, hf, hf0, s, hT, hz, hs0, hm, y, RF, G0⟩ := opened left hX hRf hch he
  refine kP ?_
  clear kP
  have G := RF.ground G0
  refine ⟨f, hf, hf0, s, hT, fun n hn => ?_, RF.1, RF.2.1, fun args hpre hlay ord ho => ?_⟩
  · have e : n = r.name := by split at hn <;> simp_all
    exact e ▸ pinned_of_view hm G0 hdef hp hk
  refine cps fun P kP => ?_
  obtain ⟨vs, s₁, as, hlaid, keeps, L⟩ := laid_down G hs0 hpre hlay ho
  have G₁ := G.keeps hXk keeps
  obtain ⟨a, o, pm, cd, doc, dV, kV, h1, h2, h3, h4, h5⟩ := G₁.fn hdef
  have lives := (layAllW_rest _ _ _ hlaid).2.2.2
  have run := ends_one (prog := r.prog) (w := w) (s := s₁) (t := nsGet mainNs r.name >>= fun
      | some g => PySem.call g vs >>= fun v => ret v
      | none => unsupported "claim.caller:no-such-global")
    (R := fun x s' => r.toRowW.claim.Ends s args vs s₁ x s' ∧ s'.os = s.os ∧ (r.writes = true → namesKept r.prog r.keeps s.heap s'.heap ∧ ∀ x ∈ r.toRowW.records, ∀ a, classAt s.heap x.1 = some a → recordClass s'.heap a x.1 (x.2.map (·.1)) = true))
    (Shared.asleep_of_life lives hz) (by
      have good : ∀ x s', GoodWG r.toRowW.claim (classAt s.heap) (ExcName.means s.heap) args s₁ x s' → (r.toRowW.claim.Ends s args vs s₁ x s' ∧ s'.os = s.os ∧ (r.writes = true → namesKept r.prog r.keeps s.heap s'.heap ∧ ∀ x ∈ r.toRowW.records, ∀ a, classAt s.heap x.1 = some a → recordClass s'.heap a x.1 (x.2.map (·.1)) = true)) ∧ leftWithCleanup s'.gens = false := fun x s' g =>
        have z := g.laid (c := r.toRowW.claim) hsame hwi hid L
        ⟨⟨z.1, z.2.1, fun q => ⟨namesKept_of hT hm _ keeps g.2.1.old, noTable hwr q⟩⟩, leftWithCleanup_false_of_bare z.2.2⟩
      refine wpN_bind (lift (wpAny_nsGet G₁.T.g ?_))
      rw [h1]
      exact wpN_bind (wpN_mono (call w s s₁ _ _ G₁ (hYk _ _ _ (hY w s y) keeps) a o pm cd doc dV kV h2 h3 h4 h5 (defOf_name hdef ▸ h1) L.gens args vs as hpre hlay L.reads L.well (L.low G.low)) (fun v s' g => wpN_pure ⟨_, rfl, good _ _ g⟩) fun e s' g => good _ _ g))
  obtain ⟨k, x, s2, s3, hrun, hsched, hfo, hends, hos, hkp⟩ := run
  have eo := Shared.forget_eq hfo
  refine kP ⟨vs, s₁, hlaid, k, _, s2, hsched, ?_, fun _ i x hx => ?_, ?_, ?_, ?_⟩
  · cases hends.congr eo.1 with
    | inl z =>
      obtain ⟨v, b1, b2, b3, b4, b5, b6⟩ := z
      exact .inl ⟨v, congrArg outcomeOf b1, b2, b3, b4, fun b o y _ => b5 b o y, b6⟩
    | inr z =>
      obtain ⟨e, ob, c, b1, b2, b3, b4, b5, b6⟩ := z
      exact .inr ⟨e, ob, c, congrArg outcomeOf b1, b2, b3, b4, b5, fun b o y _ => b6 b o y⟩
  · rw [hs0] at hx; simp at hx
  · rw [eo.1]; exact hkp
  · rw [(runN_life _ _ _ hrun).trans lives]
  · exact Shared.rest_eq (eo.2.2.2.1.trans hos)
end Mine

set_option maxRecDepth 100000
set_option maxHeartbeats 4000000
set_option linter.unusedVariables false
open PySem PySem.W PyProof.Rows PySem.Calls
namespace Mine
local macro_rules | `(tactic| walk_at "mem") => `(tactic| (repeat (first | exact List.Mem.head _ | assumption | apply List.Mem.tail)))
local macro_rules | `(tactic| walk_at "upd") => `(tactic| (repeat (first | exact Upd.here | assumption | apply Upd.there)))
local macro_rules | `(tactic| walk_at "m_nm") => `(tactic| first
  | ((with_reducible refine' ev_local ?a1 ?a2 ?_ ?a3); (case a1 => kernel_rfl); (case a2 => rfl); (case a3 => kernel_rfl))
  | ((with_reducible refine' ev_cell ?a1 ?a2 ?a3 ?_ ?a4); (case a2 => rfl); (case a1 => kernel_rfl); (case a3 => walk_at "mem"); (case a4 => kernel_rfl))
  | ((with_reducible refine' ev_glob ?a1 ?a2 ?a3 ?_ ?a4); (case a1 => kernel_rfl); (case a2 => assumption); (case a3 => exact VR.ref _); (case a4 => kernel_rfl))
  | ((with_reducible refine' ev_bi ?a1 ?a2 ?a3 ?a5 ?a6 ?_ ?a4); (case a1 => kernel_rfl); (case a2 => assumption); (case a3 => rfl); (case a5 => decide); (case a6 => first | exact VR.bi _ | exact VR.type _); (case a4 => kernel_rfl)))
local macro_rules | `(tactic| walk_at "m1") => `(tactic| first
  | (with_reducible first | refine x_cons ?_ | refine nx_ret ?_ | refine ex_nil ?_ | refine s_if ?_ | refine es_return ?_ | refine ev_int ?_ | refine ev_none ?_ | refine ev_binop ?_ | refine ev_unop ?_ | refine ev_sub ?_ | refine ev_list ?_ | refine ev_slice ?_ | refine ov_none ?_ | refine ov_some ?_ | refine el_nil ?_ | refine ek_nil ?_ | refine ek_cons ?_ | refine te_nil ?_ | refine CN.t (Eq.refl true) ?_ | refine CN.f (Eq.refl false) ?_ | refine te_one ?_ | refine b_and ?_ | refine b_or ?_ | refine an_one ?_ | refine an_cons ?_ | refine on_one ?_ | refine on_cons ?_ | refine eb_not ?_ | refine co_lt ?_ | refine co_le ?_ | refine co_eq ?_ | refine co_ne ?_ | refine tt_bool ?_ | refine co_isNone ?_ | refine bo_add ?_ | refine bo_sub ?_ | refine uo_neg ?_ | refine io_add ?_)
  | ((with_reducible refine es_assign ?_ ?a1); (case a1 => rfl))
  | ((with_reducible refine es_setitem ?_ ?a1); (case a1 => rfl))
  | ((with_reducible refine es_aug ?_ ?a1); (case a1 => kernel_rfl))
  | walk_at "m_nm"
  | ((with_reducible refine ev_call ?_ ?a1 ?a2 ?a3); (case a1 => rfl); (case a2 => rfl); (case a3 => rfl))
  | ((with_reducible refine el_cons ?_ ?a1); (case a1 => rfl))
  | ((with_reducible refine eb_cmp1 ?_ ?a1); (case a1 => intro t; rfl))
  | ((with_reducible refine ev_cmp1 ?_ ?a1); (case a1 => intro t; rfl))
  | ((with_reducible refine b_cmp2 ?_ ?a1); (case a1 => intro t t'; rfl))
  | ((with_reducible refine' sn_cellU ?a1 ?a2 ?a3 ?_); (case a2 => rfl); (case a3 => walk_at "upd"); (case a1 => kernel_rfl))
  | ((with_reducible refine sn_local ?a1 ?_); (case a1 => kernel_rfl)))
local macro_rules | `(tactic| walk_at "ms") => `(tactic| repeat (walk_at "m1"))
local macro_rules | `(tactic| walk_at "m") => `(tactic| repeat (first | with_reducible refine nx_next ?_ | walk_at "m1"))
local macro_rules | `(tactic| walk_at "loc") => `(tactic| (repeat (first | exact LocLe.nil _ | (refine LocLe.cons rfl ?_))))

noncomputable def fdB (l : List Stmt) (i : Nat) : List Stmt := match l[i]? with
  | some (.FunctionDef _ _ b _ _ _ _ _ _ _) => b
  | _ => []
noncomputable def fdS (l : List Stmt) (i : Nat) : Scope := match l[i]? with
  | some (.FunctionDef _ _ _ _ _ _ s _ _ _) => s
  | _ => default
noncomputable def fdA (l : List Stmt) (i : Nat) : Arguments := match l[i]? with
  | some (.FunctionDef _ a _ _ _ _ _ _ _ _) => a
  | _ => default
noncomputable abbrev PB : List Stmt := PySem.Challenge.pw_pk0058_01.main.body
noncomputable abbrev FcX (G : Gl) (A : Around) (qual : Str) (scope : Scope) (L f : Addr) (cdv : Value) (cells : List (Str × Addr)) (h : Heap) (s₀ : Shared) (r : Nat) : Fc := ⟨G, A, envX qual scope L f cdv cells, h, s₀, r, false⟩

/-! ## binary search, plain -/
noncomputable def bs (p : Nat → Bool) : Nat → Nat → Nat → Nat
  | 0, lo, _ => lo
  | f + 1, lo, hi => if lo < hi then (if p ((lo + hi) / 2) then bs p f ((lo + hi) / 2 + 1) hi else bs p f lo ((lo + hi) / 2)) else lo
theorem mid_le {lo hi : Nat} (h : lo < hi) : lo ≤ (lo + hi) / 2 ∧ (lo + hi) / 2 < hi := ⟨by omega, by omega⟩
theorem mid_dec1 {lo hi m : Nat} (h1 : lo ≤ m) (h2 : m < hi) : hi - (m + 1) < hi - lo := by omega
theorem mid_dec2 {lo hi m : Nat} (h1 : lo ≤ m) (h2 : m < hi) : m - lo < hi - lo := by omega
theorem mid_f1 {lo hi m f : Nat} (h1 : lo ≤ m) (h2 : m < hi) (h : hi - lo ≤ f + 1) : hi - (m + 1) ≤ f := by omega
theorem mid_f2 {lo hi m f : Nat} (h1 : lo ≤ m) (h2 : m < hi) (h : hi - lo ≤ f + 1) : m - lo ≤ f := by omega
theorem nat_small {k : Nat} (h : k ≤ 16777216) : (k : Int) < 2 ^ 63 := Int.lt_of_le_of_lt (Int.ofNat_le.mpr h) (by decide)
theorem bs_fuel (p : Nat → Bool) : ∀ f f' lo hi, hi - lo ≤ f → hi - lo ≤ f' → bs p f lo hi = bs p f' lo hi := by
  intro f
  induction f with
  | zero =>
    intro f' lo hi h h'
    cases f' with
    | zero => rfl
    | succ f' => simp only [bs]; rw [if_neg (by omega)]
  | succ f ih =>
    intro f' lo hi h h'
    cases f' with
    | zero => simp only [bs]; rw [if_neg (by omega)]
    | succ f' =>
      simp only [bs]
      split
      · rename_i hlt
        obtain ⟨m1, m2⟩ := mid_le hlt
        split
        · exact ih _ _ _ (mid_f1 m1 m2 h) (mid_f1 m1 m2 h')
        · exact ih _ _ _ (mid_f2 m1 m2 h) (mid_f2 m1 m2 h')
      · rfl
noncomputable def bsr (p : Nat → Bool) (lo hi : Nat) : Nat := bs p (hi - lo) lo hi
theorem bsr_done {p : Nat → Bool} {lo hi : Nat} (h : ¬ lo < hi) : bsr p lo hi = lo := by unfold bsr; rw [show hi - lo = 0 by omega]; rfl
theorem bsr_right {p : Nat → Bool} {lo hi : Nat} (h : lo < hi) (hp : p ((lo + hi) / 2) = true) : bsr p lo hi = bsr p ((lo + hi) / 2 + 1) hi := by
  unfold bsr
  rw [bs_fuel p (hi - lo) (hi - lo - 1 + 1) lo hi (Nat.le_refl _) (by omega)]
  show (if lo < hi then _ else _) = _
  rw [if_pos h, hp, if_pos rfl]
  exact bs_fuel p _ _ _ _ (mid_f1 (mid_le h).1 (mid_le h).2 (by omega)) (Nat.le_refl _)
theorem bsr_left {p : Nat → Bool} {lo hi : Nat} (h : lo < hi) (hp : p ((lo + hi) / 2) = false) : bsr p lo hi = bsr p lo ((lo + hi) / 2) := by
  unfold bsr
  rw [bs_fuel p (hi - lo) (hi - lo - 1 + 1) lo hi (Nat.le_refl _) (by omega)]
  show (if lo < hi then _ else _) = _
  rw [if_pos h, hp, if_neg (by decide)]
  exact bs_fuel p _ _ _ _ (mid_f2 (mid_le h).1 (mid_le h).2 (by omega)) (Nat.le_refl _)

theorem bo_half {c : Fc} {st : St} {Q : V → St → Prop} {lo hi : Nat} (h1 : lo ≤ 16777216) (h2 : hi ≤ 16777216) (q : Q (.int ((lo + hi) / 2 : Nat)) st) : BO c .FloorDiv (.int ((lo : Int) + hi)) (.int 2) st Q := by
  refine bo_fdiv (by decide) ?_ ?_
  · unfold Builtin.divisionGoesByPylong
    have : decide ((if ((2 : Int) == 0) = true then 0 else (2 : Int).natAbs.log2 / 30 + 1) > 300) = false := by decide
    simp only [this, Bool.false_and]
  · have : ((lo : Int) + hi).fdiv 2 = (((lo + hi) / 2 : Nat) : Int) := by
      rw [Int.fdiv_eq_ediv_of_nonneg _ (by decide)]; omega
    rw [this]; exact q

section
variable {G : Gl} {A : Around} {L f : Addr} {cdv : Value} {h : Heap} {s₀ : Shared} {r : Nat} {a : Addr} {vs ws : List V} {k : Addr} {x : V} {lo hi : Nat} {hp : Hp} {p : Nat → Bool} {Q : AFlow → St → Prop} {hiV : V}
noncomputable def nL (key x : V) (a : Addr) (lo hi : Nat) : Loc := [("key", key), ("hi", .int hi), ("lo", .int lo), ("x", x), ("a", .ref a)]
theorem bisL0 (hl : nsIn G.K mainGlobals "len" = some none) (hm : RL hp a vs) (hsz : vs.length ≤ 16777216) (hlo : lo ≤ 16777216) (hhi : hi ≤ vs.length) (hV : hiV = .int hi ∨ (hiV = .none ∧ hi = vs.length))
    (hcmp : ∀ loc (i : Nat) v Qc, vs[i]? = some v → Qc (.bool (p i)) ⟨loc, hp⟩ → CO (FcX G A "bisect_left" (fdS PB 4) L f cdv [] h s₀ r) .Lt v x ⟨loc, hp⟩ Qc) (q : ∀ loc, Q (.ret (.int (bsr p lo hi))) ⟨loc, hp⟩) :
    EX (FcX G A "bisect_left" (fdS PB 4) L f cdv [] h s₀ r) (fdB PB 4) ⟨[("key", .none), ("hi", hiV), ("lo", .int lo), ("x", x), ("a", .ref a)], hp⟩ Q := by
  have tail : EX (FcX G A "bisect_left" (fdS PB 4) L f cdv [] h s₀ r) ((fdB PB 4).drop 2) ⟨nL .none x a lo hi, hp⟩ Q := by
    conv => arg 2; whnf
    unfold nL
    walk_at "m"
    refine CN.t rfl ?_
    refine x_cons ?_
    refine s_while (fun n st => ∃ lo' hi', n = hi' - lo' ∧ lo' ≤ 16777216 ∧ hi' ≤ vs.length ∧ bsr p lo' hi' = bsr p lo hi ∧ st = ⟨nL .none x a lo' hi', hp⟩) (hi - lo) _ (WK.refl _) ⟨lo, hi, rfl, hlo, hhi, rfl, rfl⟩ ?_
    rintro n _ ⟨lo', hi', rfl, h1, h2, h3, rfl⟩
    unfold nL
    walk_at "m"
    refine CN.by (fun e => ?_) (fun e => ?_)
    · have e := of_decide_eq_true e
      have hlt : lo' < hi' := Int.ofNat_lt.mp e
      obtain ⟨m1, m2⟩ := mid_le hlt
      have hmid : (lo' + hi') / 2 < vs.length := Nat.lt_of_lt_of_le m2 h2
      walk_at "m"
      refine bo_half h1 (Nat.le_trans h2 hsz) ?_
      walk_at "m"
      refine sb_listN hm (List.getElem?_eq_getElem hmid) (nat_small (Nat.le_trans (Nat.le_of_lt hmid) hsz)) ?_
      walk_at "m"
      refine hcmp _ _ _ _ (List.getElem?_eq_getElem hmid) ?_
      walk_at "m"
      refine CN.by (fun e2 => ?_) (fun e2 => ?_)
      · walk_at "m"
        refine ⟨hi' - ((lo' + hi') / 2 + 1), ⟨nL .none x a ((lo' + hi') / 2 + 1) hi', hp⟩, mid_dec1 m1 m2, ⟨?_, .refl _⟩, _, hi', rfl, Nat.le_trans m2 (Nat.le_trans h2 hsz), h2, ?_, rfl⟩
        · unfold nL; walk_at "loc"
        · rw [← bsr_right hlt (by simpa using e2)]; exact h3
      · walk_at "m"
        refine ⟨(lo' + hi') / 2 - lo', ⟨nL .none x a lo' ((lo' + hi') / 2), hp⟩, mid_dec2 m1 m2, ⟨?_, .refl _⟩, lo', _, rfl, h1, Nat.le_of_lt hmid, ?_, rfl⟩
        · unfold nL; walk_at "loc"
        · rw [← bsr_left hlt (by simpa using e2)]; exact h3
    · have e := of_decide_eq_false e
      walk_at "m"
      rw [← h3, bsr_done (by omega)] at q
      exact q _
  conv => arg 2; whnf
  walk_at "m"
  refine CN.f (decide_eq_false (by omega)) ?_
  walk_at "m"
  rcases hV with rfl | ⟨rfl, e⟩
  · refine CN.f rfl ?_
    refine ex_nil (nx_next ?_)
    refine TR.preWK (st' := ⟨nL .none x a lo hi, hp⟩) ⟨?_, .refl _⟩ tail
    unfold nL; walk_at "loc"
  · refine CN.t rfl ?_
    walk_at "ms"
    refine ⟨trivial, ca_bi (len_listR hm hsz ?_)⟩
    walk_at "ms"
    rw [← e]
    refine nx_next (ex_nil (nx_next ?_))
    refine TR.preWK (st' := ⟨nL .none x a lo hi, hp⟩) ⟨?_, .refl _⟩ tail
    unfold nL; walk_at "loc"
theorem bisL1 (hl : nsIn G.K mainGlobals "len" = some none) (hm : RL hp a vs) (hsz : vs.length ≤ 16777216) (hlo : lo ≤ 16777216) (hhi : hi ≤ vs.length) (hV : hiV = .int hi ∨ (hiV = .none ∧ hi = vs.length))
    (hkey : ∀ loc (i : Nat) v Qc, vs[i]? = some v → (∀ w, ws[i]? = some w → Qc w ⟨loc, hp⟩) → Keeper (FcX G A "bisect_left" (fdS PB 4) L f cdv [] h s₀ r) (.ref k) ⟨loc, hp⟩ ∧ CA (FcX G A "bisect_left" (fdS PB 4) L f cdv [] h s₀ r) (.ref k) [v] [] [] ⟨loc, hp⟩ Qc) (hws : ws.length = vs.length)
    (hcmp : ∀ loc (i : Nat) w Qc, ws[i]? = some w → Qc (.bool (p i)) ⟨loc, hp⟩ → CO (FcX G A "bisect_left" (fdS PB 4) L f cdv [] h s₀ r) .Lt w x ⟨loc, hp⟩ Qc) (q : ∀ loc, Q (.ret (.int (bsr p lo hi))) ⟨loc, hp⟩) :
    EX (FcX G A "bisect_left" (fdS PB 4) L f cdv [] h s₀ r) (fdB PB 4) ⟨[("key", (.ref k)), ("hi", hiV), ("lo", .int lo), ("x", x), ("a", .ref a)], hp⟩ Q := by
  have tail : EX (FcX G A "bisect_left" (fdS PB 4) L f cdv [] h s₀ r) ((fdB PB 4).drop 2) ⟨nL (.ref k) x a lo hi, hp⟩ Q := by
    conv => arg 2; whnf
    unfold nL
    walk_at "m"
    refine CN.f rfl ?_
    refine x_cons ?_
    refine s_while (fun n st => ∃ lo' hi', n = hi' - lo' ∧ lo' ≤ 16777216 ∧ hi' ≤ vs.length ∧ bsr p lo' hi' = bsr p lo hi ∧ st = ⟨nL (.ref k) x a lo' hi', hp⟩) (hi - lo) _ (WK.refl _) ⟨lo, hi, rfl, hlo, hhi, rfl, rfl⟩ ?_
    rintro n _ ⟨lo', hi', rfl, h1, h2, h3, rfl⟩
    unfold nL
    walk_at "m"
    refine CN.by (fun e => ?_) (fun e => ?_)
    · have e := of_decide_eq_true e
      have hlt : lo' < hi' := Int.ofNat_lt.mp e
      obtain ⟨m1, m2⟩ := mid_le hlt
      have hmid : (lo' + hi') / 2 < vs.length := Nat.lt_of_lt_of_le m2 h2
      walk_at "m"
      refine bo_half h1 (Nat.le_trans h2 hsz) ?_
      walk_at "m"
      refine sb_listN hm (List.getElem?_eq_getElem hmid) (nat_small (Nat.le_trans (Nat.le_of_lt hmid) hsz)) ?_
      walk_at "m"
      refine hkey _ _ _ _ (List.getElem?_eq_getElem hmid) fun w hw => ?_
      walk_at "m"
      refine hcmp _ _ _ _ hw ?_
      walk_at "m"
      refine CN.by (fun e2 => ?_) (fun e2 => ?_)
      · walk_at "m"
        refine ⟨hi' - ((lo' + hi') / 2 + 1), ⟨nL (.ref k) x a ((lo' + hi') / 2 + 1) hi', hp⟩, mid_dec1 m1 m2, ⟨?_, .refl _⟩, _, hi', rfl, Nat.le_trans m2 (Nat.le_trans h2 hsz), h2, ?_, rfl⟩
        · unfold nL; walk_at "loc"
        · rw [← bsr_right hlt (by simpa using e2)]; exact h3
      · walk_at "m"
        refine ⟨(lo' + hi') / 2 - lo', ⟨nL (.ref k) x a lo' ((lo' + hi') / 2), hp⟩, mid_dec2 m1 m2, ⟨?_, .refl _⟩, lo', _, rfl, h1, Nat.le_of_lt hmid, ?_, rfl⟩
        · unfold nL; walk_at "loc"
        · rw [← bsr_left hlt (by simpa using e2)]; exact h3
    · have e := of_decide_eq_false e
      walk_at "m"
      rw [← h3, bsr_done (by omega)] at q
      exact q _
  conv => arg 2; whnf
  walk_at "m"
  refine CN.f (decide_eq_false (by omega)) ?_
  walk_at "m"
  rcases hV with rfl | ⟨rfl, e⟩
  · refine CN.f rfl ?_
    refine ex_nil (nx_next ?_)
    refine TR.preWK (st' := ⟨nL (.ref k) x a lo hi, hp⟩) ⟨?_, .refl _⟩ tail
    unfold nL; walk_at "loc"
  · refine CN.t rfl ?_
    walk_at "ms"
    refine ⟨trivial, ca_bi (len_listR hm hsz ?_)⟩
    walk_at "ms"
    rw [← e]
    refine nx_next (ex_nil (nx_next ?_))
    refine TR.preWK (st' := ⟨nL (.ref k) x a lo hi, hp⟩) ⟨?_, .refl _⟩ tail
    unfold nL; walk_at "loc"
theorem bisR0 (hl : nsIn G.K mainGlobals "len" = some none) (hm : RL hp a vs) (hsz : vs.length ≤ 16777216) (hlo : lo ≤ 16777216) (hhi : hi ≤ vs.length) (hV : hiV = .int hi ∨ (hiV = .none ∧ hi = vs.length))
    (hcmp : ∀ loc (i : Nat) v Qc, vs[i]? = some v → Qc (.bool !(p i)) ⟨loc, hp⟩ → CO (FcX G A "bisect_right" (fdS PB 2) L f cdv [] h s₀ r) .Lt x v ⟨loc, hp⟩ Qc) (q : ∀ loc, Q (.ret (.int (bsr p lo hi))) ⟨loc, hp⟩) :
    EX (FcX G A "bisect_right" (fdS PB 2) L f cdv [] h s₀ r) (fdB PB 2) ⟨[("key", .none), ("hi", hiV), ("lo", .int lo), ("x", x), ("a", .ref a)], hp⟩ Q := by
  have tail : EX (FcX G A "bisect_right" (fdS PB 2) L f cdv [] h s₀ r) ((fdB PB 2).drop 2) ⟨nL .none x a lo hi, hp⟩ Q := by
    conv => arg 2; whnf
    unfold nL
    walk_at "m"
    refine CN.t rfl ?_
    refine x_cons ?_
    refine s_while (fun n st => ∃ lo' hi', n = hi' - lo' ∧ lo' ≤ 16777216 ∧ hi' ≤ vs.length ∧ bsr p lo' hi' = bsr p lo hi ∧ st = ⟨nL .none x a lo' hi', hp⟩) (hi - lo) _ (WK.refl _) ⟨lo, hi, rfl, hlo, hhi, rfl, rfl⟩ ?_
    rintro n _ ⟨lo', hi', rfl, h1, h2, h3, rfl⟩
    unfold nL
    walk_at "m"
    refine CN.by (fun e => ?_) (fun e => ?_)
    · have e := of_decide_eq_true e
      have hlt : lo' < hi' := Int.ofNat_lt.mp e
      obtain ⟨m1, m2⟩ := mid_le hlt
      have hmid : (lo' + hi') / 2 < vs.length := Nat.lt_of_lt_of_le m2 h2
      walk_at "m"
      refine bo_half h1 (Nat.le_trans h2 hsz) ?_
      walk_at "m"
      refine sb_listN hm (List.getElem?_eq_getElem hmid) (nat_small (Nat.le_trans (Nat.le_of_lt hmid) hsz)) ?_
      walk_at "m"
      refine hcmp _ _ _ _ (List.getElem?_eq_getElem hmid) ?_
      walk_at "m"
      refine CN.by (fun e2 => ?_) (fun e2 => ?_)
      · walk_at "m"
        refine ⟨(lo' + hi') / 2 - lo', ⟨nL .none x a lo' ((lo' + hi') / 2), hp⟩, mid_dec2 m1 m2, ⟨?_, .refl _⟩, lo', _, rfl, h1, Nat.le_of_lt hmid, ?_, rfl⟩
        · unfold nL; walk_at "loc"
        · rw [← bsr_left hlt (by simpa using e2)]; exact h3
      · walk_at "m"
        refine ⟨hi' - ((lo' + hi') / 2 + 1), ⟨nL .none x a ((lo' + hi') / 2 + 1) hi', hp⟩, mid_dec1 m1 m2, ⟨?_, .refl _⟩, _, hi', rfl, Nat.le_trans m2 (Nat.le_trans h2 hsz), h2, ?_, rfl⟩
        · unfold nL; walk_at "loc"
        · rw [← bsr_right hlt (by simpa using e2)]; exact h3
    · have e := of_decide_eq_false e
      walk_at "m"
      rw [← h3, bsr_done (by omega)] at q
      exact q _
  conv => arg 2; whnf
  walk_at "m"
  refine CN.f (decide_eq_false (by omega)) ?_
  walk_at "m"
  rcases hV with rfl | ⟨rfl, e⟩
  · refine CN.f rfl ?_
    refine ex_nil (nx_next ?_)
    refine TR.preWK (st' := ⟨nL .none x a lo hi, hp⟩) ⟨?_, .refl _⟩ tail
    unfold nL; walk_at "loc"
  · refine CN.t rfl ?_
    walk_at "ms"
    refine ⟨trivial, ca_bi (len_listR hm hsz ?_)⟩
    walk_at "ms"
    rw [← e]
    refine nx_next (ex_nil (nx_next ?_))
    refine TR.preWK (st' := ⟨nL .none x a lo hi, hp⟩) ⟨?_, .refl _⟩ tail
    unfold nL; walk_at "loc"
theorem bisR1 (hl : nsIn G.K mainGlobals "len" = some none) (hm : RL hp a vs) (hsz : vs.length ≤ 16777216) (hlo : lo ≤ 16777216) (hhi : hi ≤ vs.length) (hV : hiV = .int hi ∨ (hiV = .none ∧ hi = vs.length))
    (hkey : ∀ loc (i : Nat) v Qc, vs[i]? = some v → (∀ w, ws[i]? = some w → Qc w ⟨loc, hp⟩) → Keeper (FcX G A "bisect_right" (fdS PB 2) L f cdv [] h s₀ r) (.ref k) ⟨loc, hp⟩ ∧ CA (FcX G A "bisect_right" (fdS PB 2) L f cdv [] h s₀ r) (.ref k) [v] [] [] ⟨loc, hp⟩ Qc) (hws : ws.length = vs.length)
    (hcmp : ∀ loc (i : Nat) w Qc, ws[i]? = some w → Qc (.bool !(p i)) ⟨loc, hp⟩ → CO (FcX G A "bisect_right" (fdS PB 2) L f cdv [] h s₀ r) .Lt x w ⟨loc, hp⟩ Qc) (q : ∀ loc, Q (.ret (.int (bsr p lo hi))) ⟨loc, hp⟩) :
    EX (FcX G A "bisect_right" (fdS PB 2) L f cdv [] h s₀ r) (fdB PB 2) ⟨[("key", (.ref k)), ("hi", hiV), ("lo", .int lo), ("x", x), ("a", .ref a)], hp⟩ Q := by
  have tail : EX (FcX G A "bisect_right" (fdS PB 2) L f cdv [] h s₀ r) ((fdB PB 2).drop 2) ⟨nL (.ref k) x a lo hi, hp⟩ Q := by
    conv => arg 2; whnf
    unfold nL
    walk_at "m"
    refine CN.f rfl ?_
    refine x_cons ?_
    refine s_while (fun n st => ∃ lo' hi', n = hi' - lo' ∧ lo' ≤ 16777216 ∧ hi' ≤ vs.length ∧ bsr p lo' hi' = bsr p lo hi ∧ st = ⟨nL (.ref k) x a lo' hi', hp⟩) (hi - lo) _ (WK.refl _) ⟨lo, hi, rfl, hlo, hhi, rfl, rfl⟩ ?_
    rintro n _ ⟨lo', hi', rfl, h1, h2, h3, rfl⟩
    unfold nL
    walk_at "m"
    refine CN.by (fun e => ?_) (fun e => ?_)
    · have e := of_decide_eq_true e
      have hlt : lo' < hi' := Int.ofNat_lt.mp e
      obtain ⟨m1, m2⟩ := mid_le hlt
      have hmid : (lo' + hi') / 2 < vs.length := Nat.lt_of_lt_of_le m2 h2
      walk_at "m"
      refine bo_half h1 (Nat.le_trans h2 hsz) ?_
      walk_at "m"
      refine sb_listN hm (List.getElem?_eq_getElem hmid) (nat_small (Nat.le_trans (Nat.le_of_lt hmid) hsz)) ?_
      walk_at "m"
      refine hkey _ _ _ _ (List.getElem?_eq_getElem hmid) fun w hw => ?_
      walk_at "m"
      refine hcmp _ _ _ _ hw ?_
      walk_at "m"
      refine CN.by (fun e2 => ?_) (fun e2 => ?_)
      · walk_at "m"
        refine ⟨(lo' + hi') / 2 - lo', ⟨nL (.ref k) x a lo' ((lo' + hi') / 2), hp⟩, mid_dec2 m1 m2, ⟨?_, .refl _⟩, lo', _, rfl, h1, Nat.le_of_lt hmid, ?_, rfl⟩
        · unfold nL; walk_at "loc"
        · rw [← bsr_left hlt (by simpa using e2)]; exact h3
      · walk_at "m"
        refine ⟨hi' - ((lo' + hi') / 2 + 1), ⟨nL (.ref k) x a ((lo' + hi') / 2 + 1) hi', hp⟩, mid_dec1 m1 m2, ⟨?_, .refl _⟩, _, hi', rfl, Nat.le_trans m2 (Nat.le_trans h2 hsz), h2, ?_, rfl⟩
        · unfold nL; walk_at "loc"
        · rw [← bsr_right hlt (by simpa using e2)]; exact h3
    · have e := of_decide_eq_false e
      walk_at "m"
      rw [← h3, bsr_done (by omega)] at q
      exact q _
  conv => arg 2; whnf
  walk_at "m"
  refine CN.f (decide_eq_false (by omega)) ?_
  walk_at "m"
  rcases hV with rfl | ⟨rfl, e⟩
  · refine CN.f rfl ?_
    refine ex_nil (nx_next ?_)
    refine TR.preWK (st' := ⟨nL (.ref k) x a lo hi, hp⟩) ⟨?_, .refl _⟩ tail
    unfold nL; walk_at "loc"
  · refine CN.t rfl ?_
    walk_at "ms"
    refine ⟨trivial, ca_bi (len_listR hm hsz ?_)⟩
    walk_at "ms"
    rw [← e]
    refine nx_next (ex_nil (nx_next ?_))
    refine TR.preWK (st' := ⟨nL (.ref k) x a lo hi, hp⟩) ⟨?_, .refl _⟩ tail
    unfold nL; walk_at "loc"
end

noncomputable def DFk (K : Frag) (dV kV : Value) : Prop := ∃ T o t n D o' hh t' n', dV = .ref T ∧ K.lookup T = some o ∧ o.data = .seq #[.int 0 t, .none] n ∧ kV = .ref D ∧ K.lookup D = some o' ∧ o'.data = .dict #[⟨hh, .str "key" t', .none⟩] n'
theorem all2_1 {α β : Type} {R : α → β → Prop} {vs : List α} {b0 : β} (h : All2 R vs [b0]) : ∃ v0, vs = [v0] ∧ R v0 b0 := match vs, h with
  | _, .cons r0 .nil => ⟨_, rfl, r0⟩
theorem all2_2 {α β : Type} {R : α → β → Prop} {vs : List α} {b0 b1 : β} (h : All2 R vs [b0, b1]) : ∃ v0 v1, vs = [v0, v1] ∧ R v0 b0 ∧ R v1 b1 := match vs, h with
  | _, .cons r0 h => let ⟨_, e, r1⟩ := all2_1 h; ⟨_, _, congrArg _ e, r0, r1⟩
theorem all2_3 {α β : Type} {R : α → β → Prop} {vs : List α} {b0 b1 b2 : β} (h : All2 R vs [b0, b1, b2]) : ∃ v0 v1 v2, vs = [v0, v1, v2] ∧ R v0 b0 ∧ R v1 b1 ∧ R v2 b2 := match vs, h with
  | _, .cons r0 h => let ⟨_, _, e, r1, r2⟩ := all2_2 h; ⟨_, _, _, congrArg _ e, r0, r1, r2⟩
theorem all2_4 {α β : Type} {R : α → β → Prop} {vs : List α} {b0 b1 b2 b3 : β} (h : All2 R vs [b0, b1, b2, b3]) : ∃ v0 v1 v2 v3, vs = [v0, v1, v2, v3] ∧ R v0 b0 ∧ R v1 b1 ∧ R v2 b2 ∧ R v3 b3 := match vs, h with
  | _, .cons r0 h => let ⟨_, _, _, e, r1, r2, r3⟩ := all2_3 h; ⟨_, _, _, _, congrArg _ e, r0, r1, r2, r3⟩
theorem bn_same {i : Nat} (hi : i = 1 ∨ i = 2 ∨ i = 3 ∨ i = 4) {x : Str} {dV kV doc pm ct cdv : Value} {an : Option Addr} {as : Args} : bindArgs (fnX x x (fdA PB i) (fdB PB i) (fdS PB i) [] dV kV doc pm an cdv ct) as = bindArgs (fnX x x (fdA PB 1) (fdB PB 1) (fdS PB 1) [] dV kV doc pm an cdv ct) as := by
  rcases hi with rfl | rfl | rfl | rfl <;> kernel_rfl
theorem BN.one {K : Frag} {i : Nat} (hi : i = 1 ∨ i = 2 ∨ i = 3 ∨ i = 4) {x : Str} {dV kV doc pm ct cdv : Value} {an : Option Addr} (hd : DFk K dV kV) {as : List V} {kn : List Str} {ks : List V} {ab : List (Str × V)}
    (h : ∀ (s : Shared) (vs kvs : List Value) (T : Addr) (t : Tok) (D : Addr) (o : Obj), (∃ oc od hh t' n' sl, o = ⟨oc, od, .dict #[⟨hh, .str "key" t', .none⟩] n', sl⟩) → All2 VR vs as → All2 VR kvs ks → ∃ binds, (∀ (M : Model) (A : Around) (E : Value → Shared → Prop) (Q : List (Str × Value) → Shared → Prop),
      (∀ {R : Option (Array Value) → Shared → Prop}, R (some #[.int 0 t, .none]) s → wpAny M A (seqItems? (Value.ref T)) R E s) → (∀ {R : Obj → Shared → Prop}, R o s → wpAny M A (loadPart D (some (.str "key" 0))) R E s) → Q binds s →
      wpAny M A (bindArgs (fnX x x (fdA PB 1) (fdB PB 1) (fdS PB 1) [] (.ref T) (.ref D) doc pm an cdv ct) ⟨vs, kn.zip kvs⟩) Q E s) ∧ All2 (fun p q => p.1 = q.1 ∧ VR p.2 q.2) binds ab) :
    BN K (fnX x x (fdA PB i) (fdB PB i) (fdS PB i) [] dV kV doc pm an cdv ct) as kn ks ab := by
  obtain ⟨T, o, t, n, D, o', hh, t', n', rfl, hT, ho, rfl, hD, ho'⟩ := hd
  intro s X vs kvs r1 r2
  obtain ⟨b, B, R⟩ := h s vs kvs T t D o' (by obtain ⟨oc, od, dt, sl⟩ := o'; exact ⟨oc, od, hh, t', n', sl, by rw [show dt = _ from ho']⟩) r1 r2
  refine ⟨b, fun M A E Q hQ => ?_, R⟩
  rw [bn_same hi]
  exact B M A E Q (fun h => wpAny_seqItems (X _ _ hT) ho h) (fun h => wpAny_loadPart (X _ _ hD) h) hQ
theorem bn21 {K : Frag} {i : Nat} (hi : i = 1 ∨ i = 2 ∨ i = 3 ∨ i = 4) {x : Str} {dV kV doc pm ct cdv : Value} {an : Option Addr} (hd : DFk K dV kV) {a b w : V} :
    BN K (fnX x x (fdA PB i) (fdB PB i) (fdS PB i) [] dV kV doc pm an cdv ct) [a, b] ["key"] [w] [("a", a), ("x", b), ("lo", .int 0), ("hi", .none), ("key", w)] := by
  refine BN.one hi hd fun s vs kvs T t D o ⟨oc, od, hh, t', n', sl, e⟩ r1 r2 => ?_
  obtain ⟨v0, v1, rfl, h0, h1⟩ := all2_2 r1
  obtain ⟨vw, rfl, rw⟩ := all2_1 r2
  refine ⟨[("a", v0), ("x", v1), ("lo", (.int 0 t)), ("hi", .none), ("key", vw)], fun M A E Q h1 h2 hQ => ?_, .cons ⟨rfl, h0⟩ (.cons ⟨rfl, h1⟩ (.cons ⟨rfl, .int _ _⟩ (.cons ⟨rfl, .none⟩ (.cons ⟨rfl, rw⟩ .nil))))⟩
  refine wpAny_bind (m := seqItems? (Value.ref T)) (h1 ?_)
  conv => arg 3; whnf
  exact wpAny_pure hQ
theorem bn30 {K : Frag} {i : Nat} (hi : i = 1 ∨ i = 2 ∨ i = 3 ∨ i = 4) {x : Str} {dV kV doc pm ct cdv : Value} {an : Option Addr} (hd : DFk K dV kV) {a b l : V} :
    BN K (fnX x x (fdA PB i) (fdB PB i) (fdS PB i) [] dV kV doc pm an cdv ct) [a, b, l] [] [] [("a", a), ("x", b), ("lo", l), ("hi", .none), ("key", .none)] := by
  refine BN.one hi hd fun s vs kvs T t D o ⟨oc, od, hh, t', n', sl, e⟩ r1 r2 => ?_
  obtain ⟨v0, v1, v2, rfl, h0, h1, h2⟩ := all2_3 r1
  cases r2
  refine ⟨[("a", v0), ("x", v1), ("lo", v2), ("hi", .none), ("key", .none)], fun M A E Q h1 h2 hQ => ?_, .cons ⟨rfl, h0⟩ (.cons ⟨rfl, h1⟩ (.cons ⟨rfl, h2⟩ (.cons ⟨rfl, .none⟩ (.cons ⟨rfl, .none⟩ .nil))))⟩
  refine wpAny_bind (m := seqItems? (Value.ref T)) (h1 ?_)
  conv => arg 3; whnf
  subst e
  refine wpAny_bind (m := loadPart D (some (.str "key" 0))) (h2 ?_)
  conv => arg 3; whnf
  exact wpAny_pure hQ
theorem bn31 {K : Frag} {i : Nat} (hi : i = 1 ∨ i = 2 ∨ i = 3 ∨ i = 4) {x : Str} {dV kV doc pm ct cdv : Value} {an : Option Addr} (hd : DFk K dV kV) {a b l w : V} :
    BN K (fnX x x (fdA PB i) (fdB PB i) (fdS PB i) [] dV kV doc pm an cdv ct) [a, b, l] ["key"] [w] [("a", a), ("x", b), ("lo", l), ("hi", .none), ("key", w)] := by
  refine BN.one hi hd fun s vs kvs T t D o ⟨oc, od, hh, t', n', sl, e⟩ r1 r2 => ?_
  obtain ⟨v0, v1, v2, rfl, h0, h1, h2⟩ := all2_3 r1
  obtain ⟨vw, rfl, rw⟩ := all2_1 r2
  refine ⟨[("a", v0), ("x", v1), ("lo", v2), ("hi", .none), ("key", vw)], fun M A E Q h1 h2 hQ => ?_, .cons ⟨rfl, h0⟩ (.cons ⟨rfl, h1⟩ (.cons ⟨rfl, h2⟩ (.cons ⟨rfl, .none⟩ (.cons ⟨rfl, rw⟩ .nil))))⟩
  refine wpAny_bind (m := seqItems? (Value.ref T)) (h1 ?_)
  conv => arg 3; whnf
  exact wpAny_pure hQ
theorem bn40 {K : Frag} {i : Nat} (hi : i = 1 ∨ i = 2 ∨ i = 3 ∨ i = 4) {x : Str} {dV kV doc pm ct cdv : Value} {an : Option Addr} (hd : DFk K dV kV) {a b l u : V} :
    BN K (fnX x x (fdA PB i) (fdB PB i) (fdS PB i) [] dV kV doc pm an cdv ct) [a, b, l, u] [] [] [("a", a), ("x", b), ("lo", l), ("hi", u), ("key", .none)] := by
  refine BN.one hi hd fun s vs kvs T t D o ⟨oc, od, hh, t', n', sl, e⟩ r1 r2 => ?_
  obtain ⟨v0, v1, v2, v3, rfl, h0, h1, h2, h3⟩ := all2_4 r1
  cases r2
  refine ⟨[("a", v0), ("x", v1), ("lo", v2), ("hi", v3), ("key", .none)], fun M A E Q h1 h2 hQ => ?_, .cons ⟨rfl, h0⟩ (.cons ⟨rfl, h1⟩ (.cons ⟨rfl, h2⟩ (.cons ⟨rfl, h3⟩ (.cons ⟨rfl, .none⟩ .nil))))⟩
  refine wpAny_bind (m := seqItems? (Value.ref T)) (h1 ?_)
  conv => arg 3; whnf
  subst e
  refine wpAny_bind (m := loadPart D (some (.str "key" 0))) (h2 ?_)
  conv => arg 3; whnf
  exact wpAny_pure hQ
theorem bn41 {K : Frag} {i : Nat} (hi : i = 1 ∨ i = 2 ∨ i = 3 ∨ i = 4) {x : Str} {dV kV doc pm ct cdv : Value} {an : Option Addr} (hd : DFk K dV kV) {a b l u w : V} :
    BN K (fnX x x (fdA PB i) (fdB PB i) (fdS PB i) [] dV kV doc pm an cdv ct) [a, b, l, u] ["key"] [w] [("a", a), ("x", b), ("lo", l), ("hi", u), ("key", w)] := by
  refine BN.one hi hd fun s vs kvs T t D o ⟨oc, od, hh, t', n', sl, e⟩ r1 r2 => ?_
  obtain ⟨v0, v1, v2, v3, rfl, h0, h1, h2, h3⟩ := all2_4 r1
  obtain ⟨vw, rfl, rw⟩ := all2_1 r2
  refine ⟨[("a", v0), ("x", v1), ("lo", v2), ("hi", v3), ("key", vw)], fun M A E Q h1 h2 hQ => ?_, .cons ⟨rfl, h0⟩ (.cons ⟨rfl, h1⟩ (.cons ⟨rfl, h2⟩ (.cons ⟨rfl, h3⟩ (.cons ⟨rfl, rw⟩ .nil))))⟩
  refine wpAny_bind (m := seqItems? (Value.ref T)) (h1 ?_)
  conv => arg 3; whnf
  exact wpAny_pure hQ


theorem typ_insert : typeOf (.builtin "list.insert") = pure (.type "method_descriptor") := by show builtinType _ = _; rw [builtinType_eq_fast]; kernel_rfl
noncomputable def BNk (K : Frag) (i : Nat) (as : List V) (kn : List Str) (ks : List V) (ab : List (Str × V)) : Prop := ∀ x dV kV doc pm an cdv ct, DFk K dV kV → BN K (fnX x x (fdA PB i) (fdB PB i) (fdS PB i) [] dV kV doc pm an cdv ct) as kn ks ab
/-- a function of the text that has the defaults of bisect -/
noncomputable def FnB (G : Gl) (x : Str) (i : Nat) (f : Addr) : Prop := nsIn G.K mainGlobals x = some (some (.ref f)) ∧ ∃ oc od osl dV kV doc pm an cd ct, G.K.lookup f = some ⟨oc, od, .func (fnX x x (fdA PB i) (fdB PB i) (fdS PB i) [] dV kV doc pm an (.ref cd) ct), osl⟩ ∧ codeIn G.K (.ref cd) x = true ∧ DFk G.K dV kV
theorem FnB.keeper {c : Fc} {x : Str} {i : Nat} {f : Addr} {st : St} (F : FnB c.g x i f) : Keeper c (.ref f) st := by
  obtain ⟨_, oc, od, osl, dV, kV, doc, pm, an, cd, ct, hK, _⟩ := F
  exact .inl ⟨_, _, _, _, hK⟩
noncomputable def KeyOk (G : Gl) (m : Nat) (k : Addr) (vs ws : List V) (hp : Hp) : Prop := ∀ c' : Fc, c'.g = G → m ≤ c'.room → ∀ loc (i : Nat) v Qc, vs[i]? = some v → (∀ w, ws[i]? = some w → Qc w ⟨loc, hp⟩) → Keeper c' (.ref k) ⟨loc, hp⟩ ∧ CA c' (.ref k) [v] [] [] ⟨loc, hp⟩ Qc
noncomputable def KeyAt (G : Gl) (m : Nat) (k : Addr) (v w : V) (hp : Hp) : Prop := ∀ c' : Fc, c'.g = G → m ≤ c'.room → ∀ loc Qc, Qc w ⟨loc, hp⟩ → Keeper c' (.ref k) ⟨loc, hp⟩ ∧ CA c' (.ref k) [v] [] [] ⟨loc, hp⟩ Qc
noncomputable def LtL (G : Gl) (x : V) (vs : List V) (p : Nat → Bool) (hp : Hp) : Prop := ∀ c' : Fc, c'.g = G → ∀ loc (i : Nat) v Qc, vs[i]? = some v → Qc (.bool (p i)) ⟨loc, hp⟩ → CO c' .Lt v x ⟨loc, hp⟩ Qc
noncomputable def LtR (G : Gl) (x : V) (vs : List V) (p : Nat → Bool) (hp : Hp) : Prop := ∀ c' : Fc, c'.g = G → ∀ loc (i : Nat) v Qc, vs[i]? = some v → Qc (.bool !(p i)) ⟨loc, hp⟩ → CO c' .Lt x v ⟨loc, hp⟩ Qc
theorem bs_le {p : Nat → Bool} : ∀ f lo hi, lo ≤ hi → bs p f lo hi ≤ hi := by
  intro f
  induction f with
  | zero => intro lo hi h; exact h
  | succ f ih =>
    intro lo hi h
    simp only [bs]
    split
    · split
      · exact ih _ _ (by omega)
      · exact Nat.le_trans (ih _ _ (by omega)) (by omega)
    · exact h
theorem bsr_le {p : Nat → Bool} {lo hi : Nat} (h : lo ≤ hi) : bsr p lo hi ≤ hi := bs_le _ _ _ h

section
variable {c : Fc} {f fb a k : Addr} {as ks vs ws : List V} {kn : List Str} {x kx hiV : V} {lo hi m : Nat} {hp hp' : Hp} {loc : Loc} {p : Nat → Bool} {Q : V → St → Prop}
theorem ca_bisL0 (F : FnB c.g "bisect_left" 4 f) (hl : nsIn c.g.K mainGlobals "len" = some none) (hr : 0 < c.room) (hb : BNk c.g.K 4 as kn ks [("a", .ref a), ("x", x), ("lo", .int lo), ("hi", hiV), ("key", .none)])
    (ha : RL hp a vs) (hsz : vs.length ≤ 16777216) (hlo : lo ≤ 16777216) (hhi : hi ≤ vs.length) (hV : hiV = .int hi ∨ (hiV = .none ∧ hi = vs.length)) (hc : LtL c.g x vs p hp) (q : Q (.int (bsr p lo hi)) ⟨loc, hp⟩) : CA c (.ref f) as kn ks ⟨loc, hp⟩ Q := by
  obtain ⟨_, oc, od, osl, dV, kV, doc, pm, an, cd, ct, hK, hcd, hD⟩ := F
  refine ca_def hK hcd hr (hb _ _ _ _ _ _ _ _ hD) (fun L g A => bi_locals ?_ fun A' _ => ?_) (by kernel_rfl) (by kernel_rfl) (by kernel_rfl)
  · intro y hy
    simp only [List.mem_cons, List.not_mem_nil, or_false] at hy
    rcases hy with rfl | rfl | rfl | rfl | rfl <;> kernel_rfl
  · exact bisL0 (G := c.g) (A := A') (L := L) (f := f) (cdv := .ref cd) (h := g) (s₀ := c.s₀) (r := c.room - 1) (hp := hp) hl ha hsz hlo hhi hV (fun loc i v Qc h1 h2 => hc (FcX c.g A' "bisect_left" (fdS PB 4) L f (.ref cd) [] g c.s₀ (c.room - 1)) rfl loc i v Qc h1 h2) fun _ => q
theorem ca_bisL1 (F : FnB c.g "bisect_left" 4 f) (hl : nsIn c.g.K mainGlobals "len" = some none) (hr : 0 < c.room) (hb : BNk c.g.K 4 as kn ks [("a", .ref a), ("x", x), ("lo", .int lo), ("hi", hiV), ("key", (.ref k))])
    (ha : RL hp a vs) (hsz : vs.length ≤ 16777216) (hlo : lo ≤ 16777216) (hhi : hi ≤ vs.length) (hV : hiV = .int hi ∨ (hiV = .none ∧ hi = vs.length)) (hkey : KeyOk c.g m k vs ws hp) (hws : ws.length = vs.length) (hm : m + 1 ≤ c.room) (hc : LtL c.g x ws p hp) (q : Q (.int (bsr p lo hi)) ⟨loc, hp⟩) : CA c (.ref f) as kn ks ⟨loc, hp⟩ Q := by
  obtain ⟨_, oc, od, osl, dV, kV, doc, pm, an, cd, ct, hK, hcd, hD⟩ := F
  refine ca_def hK hcd hr (hb _ _ _ _ _ _ _ _ hD) (fun L g A => bi_locals ?_ fun A' _ => ?_) (by kernel_rfl) (by kernel_rfl) (by kernel_rfl)
  · intro y hy
    simp only [List.mem_cons, List.not_mem_nil, or_false] at hy
    rcases hy with rfl | rfl | rfl | rfl | rfl <;> kernel_rfl
  · exact bisL1 (G := c.g) (A := A') (L := L) (f := f) (cdv := .ref cd) (h := g) (s₀ := c.s₀) (r := c.room - 1) (hp := hp) hl ha hsz hlo hhi hV (fun loc i v Qc h1 h2 => hkey (FcX c.g A' "bisect_left" (fdS PB 4) L f (.ref cd) [] g c.s₀ (c.room - 1)) rfl (by show m ≤ c.room - 1; omega) loc i v Qc h1 h2) hws (fun loc i v Qc h1 h2 => hc (FcX c.g A' "bisect_left" (fdS PB 4) L f (.ref cd) [] g c.s₀ (c.room - 1)) rfl loc i v Qc h1 h2) fun _ => q
theorem ca_bisR0 (F : FnB c.g "bisect_right" 2 f) (hl : nsIn c.g.K mainGlobals "len" = some none) (hr : 0 < c.room) (hb : BNk c.g.K 2 as kn ks [("a", .ref a), ("x", x), ("lo", .int lo), ("hi", hiV), ("key", .none)])
    (ha : RL hp a vs) (hsz : vs.length ≤ 16777216) (hlo : lo ≤ 16777216) (hhi : hi ≤ vs.length) (hV : hiV = .int hi ∨ (hiV = .none ∧ hi = vs.length)) (hc : LtR c.g x vs p hp) (q : Q (.int (bsr p lo hi)) ⟨loc, hp⟩) : CA c (.ref f) as kn ks ⟨loc, hp⟩ Q := by
  obtain ⟨_, oc, od, osl, dV, kV, doc, pm, an, cd, ct, hK, hcd, hD⟩ := F
  refine ca_def hK hcd hr (hb _ _ _ _ _ _ _ _ hD) (fun L g A => bi_locals ?_ fun A' _ => ?_) (by kernel_rfl) (by kernel_rfl) (by kernel_rfl)
  · intro y hy
    simp only [List.mem_cons, List.not_mem_nil, or_false] at hy
    rcases hy with rfl | rfl | rfl | rfl | rfl <;> kernel_rfl
  · exact bisR0 (G := c.g) (A := A') (L := L) (f := f) (cdv := .ref cd) (h := g) (s₀ := c.s₀) (r := c.room - 1) (hp := hp) hl ha hsz hlo hhi hV (fun loc i v Qc h1 h2 => hc (FcX c.g A' "bisect_right" (fdS PB 2) L f (.ref cd) [] g c.s₀ (c.room - 1)) rfl loc i v Qc h1 h2) fun _ => q
theorem ca_bisR1 (F : FnB c.g "bisect_right" 2 f) (hl : nsIn c.g.K mainGlobals "len" = some none) (hr : 0 < c.room) (hb : BNk c.g.K 2 as kn ks [("a", .ref a), ("x", x), ("lo", .int lo), ("hi", hiV), ("key", (.ref k))])
    (ha : RL hp a vs) (hsz : vs.length ≤ 16777216) (hlo : lo ≤ 16777216) (hhi : hi ≤ vs.length) (hV : hiV = .int hi ∨ (hiV = .none ∧ hi = vs.length)) (hkey : KeyOk c.g m k vs ws hp) (hws : ws.length = vs.length) (hm : m + 1 ≤ c.room) (hc : LtR c.g x ws p hp) (q : Q (.int (bsr p lo hi)) ⟨loc, hp⟩) : CA c (.ref f) as kn ks ⟨loc, hp⟩ Q := by
  obtain ⟨_, oc, od, osl, dV, kV, doc, pm, an, cd, ct, hK, hcd, hD⟩ := F
  refine ca_def hK hcd hr (hb _ _ _ _ _ _ _ _ hD) (fun L g A => bi_locals ?_ fun A' _ => ?_) (by kernel_rfl) (by kernel_rfl) (by kernel_rfl)
  · intro y hy
    simp only [List.mem_cons, List.not_mem_nil, or_false] at hy
    rcases hy with rfl | rfl | rfl | rfl | rfl <;> kernel_rfl
  · exact bisR1 (G := c.g) (A := A') (L := L) (f := f) (cdv := .ref cd) (h := g) (s₀ := c.s₀) (r := c.room - 1) (hp := hp) hl ha hsz hlo hhi hV (fun loc i v Qc h1 h2 => hkey (FcX c.g A' "bisect_right" (fdS PB 2) L f (.ref cd) [] g c.s₀ (c.room - 1)) rfl (by show m ≤ c.room - 1; omega) loc i v Qc h1 h2) hws (fun loc i v Qc h1 h2 => hc (FcX c.g A' "bisect_right" (fdS PB 2) L f (.ref cd) [] g c.s₀ (c.room - 1)) rfl loc i v Qc h1 h2) fun _ => q

theorem ca_insL0 (F : FnB c.g "insort_left" 3 f) (FB : FnB c.g "bisect_left" 4 fb) (hl : nsIn c.g.K mainGlobals "len" = some none) (hb : BNk c.g.K 3 as kn ks [("a", .ref a), ("x", x), ("lo", .int lo), ("hi", hiV), ("key", .none)])
    (ha : Upd hp a (.list vs) (.list (vs.take (bsr p lo hi) ++ x :: vs.drop (bsr p lo hi))) hp') (hsz : vs.length ≤ 16777216) (hlo : lo ≤ hi) (hhi : hi ≤ vs.length) (hV : hiV = .int hi ∨ (hiV = .none ∧ hi = vs.length)) (hr2 : 2 ≤ c.room) (hc : LtL c.g x vs p hp) (q : Q .none ⟨loc, hp'⟩) : CA c (.ref f) as kn ks ⟨loc, hp⟩ Q := by
  obtain ⟨_, oc, od, osl, dV, kV, doc, pm, an, cd, ct, hK, hcd, hD⟩ := F
  refine ca_def hK hcd (by omega) (hb _ _ _ _ _ _ _ _ hD) (fun L g A => bi_locals ?_ fun A' _ => ?_) (by kernel_rfl) (by kernel_rfl) (by kernel_rfl)
  · intro y hy
    simp only [List.mem_cons, List.not_mem_nil, or_false] at hy
    rcases hy with rfl | rfl | rfl | rfl | rfl <;> kernel_rfl
  have hn := FB.1
  have hle := bsr_le (p := p) hlo
  have fin : EX (FcX c.g A' "insort_left" (fdS PB 3) L f (.ref cd) [] g c.s₀ (c.room - 1)) ((fdB PB 3).drop 1) ⟨[("lo", .int (bsr p lo hi)), ("x", x), ("a", .ref a)], hp⟩ fun fl st2 => Q (retOf fl) ⟨loc, st2.hp⟩ := by
    conv => arg 2; whnf
    refine x_cons (es_expr (ev_methL ?_ PySem.F.slot_list_insert typ_insert (by rfl) (by rfl) (by decide) (by rfl)) (by rfl) (by rfl))
    walk_at "ms"
    refine ⟨a, vs, rfl, .inl ha.mem, ?_⟩
    walk_at "ms"
    refine m_insert ha (by omega) hsz ⟨rfl, ?_⟩
    walk_at "m"
    exact q
  show EX (FcX c.g A' "insort_left" (fdS PB 3) L f (.ref cd) [] g c.s₀ (c.room - 1)) (fdB PB 3) ⟨[("key", .none), ("hi", hiV), ("lo", .int lo), ("x", x), ("a", .ref a)], hp⟩ _
  conv => arg 2; whnf
  walk_at "m"
  refine CN.t rfl ?_
  walk_at "ms"
  refine ⟨FB.keeper, ca_bisL0 (c := FcX c.g A' "insort_left" (fdS PB 3) L f (.ref cd) [] g c.s₀ (c.room - 1)) (hp := hp) FB hl (by show 0 < c.room - 1; omega) (fun _ _ _ _ _ _ _ _ h => bn40 (by decide) h) (.inl ha.mem) hsz (by omega) hhi hV hc ?_⟩
  walk_at "ms"
  refine nx_next (ex_nil (nx_next ?_))
  refine TR.preWK (st' := ⟨[("lo", .int (bsr p lo hi)), ("x", x), ("a", .ref a)], hp⟩) ⟨?_, .refl _⟩ fin
  walk_at "loc"
theorem ca_insL1 (F : FnB c.g "insort_left" 3 f) (FB : FnB c.g "bisect_left" 4 fb) (hl : nsIn c.g.K mainGlobals "len" = some none) (hb : BNk c.g.K 3 as kn ks [("a", .ref a), ("x", x), ("lo", .int lo), ("hi", hiV), ("key", (.ref k))])
    (ha : Upd hp a (.list vs) (.list (vs.take (bsr p lo hi) ++ x :: vs.drop (bsr p lo hi))) hp') (hsz : vs.length ≤ 16777216) (hlo : lo ≤ hi) (hhi : hi ≤ vs.length) (hV : hiV = .int hi ∨ (hiV = .none ∧ hi = vs.length)) (hkey : KeyOk c.g m k vs ws hp) (hkx : KeyAt c.g m k x kx hp) (hws : ws.length = vs.length) (hm : m + 2 ≤ c.room) (hm1 : 1 ≤ m) (hc : LtL c.g kx ws p hp) (q : Q .none ⟨loc, hp'⟩) : CA c (.ref f) as kn ks ⟨loc, hp⟩ Q := by
  obtain ⟨_, oc, od, osl, dV, kV, doc, pm, an, cd, ct, hK, hcd, hD⟩ := F
  refine ca_def hK hcd (by omega) (hb _ _ _ _ _ _ _ _ hD) (fun L g A => bi_locals ?_ fun A' _ => ?_) (by kernel_rfl) (by kernel_rfl) (by kernel_rfl)
  · intro y hy
    simp only [List.mem_cons, List.not_mem_nil, or_false] at hy
    rcases hy with rfl | rfl | rfl | rfl | rfl <;> kernel_rfl
  have hn := FB.1
  have hle := bsr_le (p := p) hlo
  have fin : EX (FcX c.g A' "insort_left" (fdS PB 3) L f (.ref cd) [] g c.s₀ (c.room - 1)) ((fdB PB 3).drop 1) ⟨[("lo", .int (bsr p lo hi)), ("x", x), ("a", .ref a)], hp⟩ fun fl st2 => Q (retOf fl) ⟨loc, st2.hp⟩ := by
    conv => arg 2; whnf
    refine x_cons (es_expr (ev_methL ?_ PySem.F.slot_list_insert typ_insert (by rfl) (by rfl) (by decide) (by rfl)) (by rfl) (by rfl))
    walk_at "ms"
    refine ⟨a, vs, rfl, .inl ha.mem, ?_⟩
    walk_at "ms"
    refine m_insert ha (by omega) hsz ⟨rfl, ?_⟩
    walk_at "m"
    exact q
  show EX (FcX c.g A' "insort_left" (fdS PB 3) L f (.ref cd) [] g c.s₀ (c.room - 1)) (fdB PB 3) ⟨[("key", (.ref k)), ("hi", hiV), ("lo", .int lo), ("x", x), ("a", .ref a)], hp⟩ _
  conv => arg 2; whnf
  walk_at "m"
  refine CN.f rfl ?_
  walk_at "ms"
  refine hkx (FcX c.g A' "insort_left" (fdS PB 3) L f (.ref cd) [] g c.s₀ (c.room - 1)) rfl (by show m ≤ c.room - 1; omega) _ _ ?_
  walk_at "ms"
  refine ⟨FB.keeper, ca_bisL1 (c := FcX c.g A' "insort_left" (fdS PB 3) L f (.ref cd) [] g c.s₀ (c.room - 1)) (hp := hp) FB hl (by show 0 < c.room - 1; omega) (fun _ _ _ _ _ _ _ _ h => bn41 (by decide) h) (.inl ha.mem) hsz (by omega) hhi hV hkey hws (by show m + 1 ≤ c.room - 1; omega) hc ?_⟩
  walk_at "ms"
  refine nx_next (ex_nil (nx_next ?_))
  refine TR.preWK (st' := ⟨[("lo", .int (bsr p lo hi)), ("x", x), ("a", .ref a)], hp⟩) ⟨?_, .refl _⟩ fin
  walk_at "loc"
theorem ca_insR1 (F : FnB c.g "insort_right" 1 f) (FB : FnB c.g "bisect_right" 2 fb) (hl : nsIn c.g.K mainGlobals "len" = some none) (hb : BNk c.g.K 1 as kn ks [("a", .ref a), ("x", x), ("lo", .int lo), ("hi", hiV), ("key", (.ref k))])
    (ha : Upd hp a (.list vs) (.list (vs.take (bsr p lo hi) ++ x :: vs.drop (bsr p lo hi))) hp') (hsz : vs.length ≤ 16777216) (hlo : lo ≤ hi) (hhi : hi ≤ vs.length) (hV : hiV = .int hi ∨ (hiV = .none ∧ hi = vs.length)) (hkey : KeyOk c.g m k vs ws hp) (hkx : KeyAt c.g m k x kx hp) (hws : ws.length = vs.length) (hm : m + 2 ≤ c.room) (hm1 : 1 ≤ m) (hc : LtR c.g kx ws p hp) (q : Q .none ⟨loc, hp'⟩) : CA c (.ref f) as kn ks ⟨loc, hp⟩ Q := by
  obtain ⟨_, oc, od, osl, dV, kV, doc, pm, an, cd, ct, hK, hcd, hD⟩ := F
  refine ca_def hK hcd (by omega) (hb _ _ _ _ _ _ _ _ hD) (fun L g A => bi_locals ?_ fun A' _ => ?_) (by kernel_rfl) (by kernel_rfl) (by kernel_rfl)
  · intro y hy
    simp only [List.mem_cons, List.not_mem_nil, or_false] at hy
    rcases hy with rfl | rfl | rfl | rfl | rfl <;> kernel_rfl
  have hn := FB.1
  have hle := bsr_le (p := p) hlo
  have fin : EX (FcX c.g A' "insort_right" (fdS PB 1) L f (.ref cd) [] g c.s₀ (c.room - 1)) ((fdB PB 1).drop 1) ⟨[("lo", .int (bsr p lo hi)), ("x", x), ("a", .ref a)], hp⟩ fun fl st2 => Q (retOf fl) ⟨loc, st2.hp⟩ := by
    conv => arg 2; whnf
    refine x_cons (es_expr (ev_methL ?_ PySem.F.slot_list_insert typ_insert (by rfl) (by rfl) (by decide) (by rfl)) (by rfl) (by rfl))
    walk_at "ms"
    refine ⟨a, vs, rfl, .inl ha.mem, ?_⟩
    walk_at "ms"
    refine m_insert ha (by omega) hsz ⟨rfl, ?_⟩
    walk_at "m"
    exact q
  show EX (FcX c.g A' "insort_right" (fdS PB 1) L f (.ref cd) [] g c.s₀ (c.room - 1)) (fdB PB 1) ⟨[("key", (.ref k)), ("hi", hiV), ("lo", .int lo), ("x", x), ("a", .ref a)], hp⟩ _
  conv => arg 2; whnf
  walk_at "m"
  refine CN.f rfl ?_
  walk_at "ms"
  refine hkx (FcX c.g A' "insort_right" (fdS PB 1) L f (.ref cd) [] g c.s₀ (c.room - 1)) rfl (by show m ≤ c.room - 1; omega) _ _ ?_
  walk_at "ms"
  refine ⟨FB.keeper, ca_bisR1 (c := FcX c.g A' "insort_right" (fdS PB 1) L f (.ref cd) [] g c.s₀ (c.room - 1)) (hp := hp) FB hl (by show 0 < c.room - 1; omega) (fun _ _ _ _ _ _ _ _ h => bn41 (by decide) h) (.inl ha.mem) hsz (by omega) hhi hV hkey hws (by show m + 1 ≤ c.room - 1; omega) hc ?_⟩
  walk_at "ms"
  refine nx_next (ex_nil (nx_next ?_))
  refine TR.preWK (st' := ⟨[("lo", .int (bsr p lo hi)), ("x", x), ("a", .ref a)], hp⟩) ⟨?_, .refl _⟩ fin
  walk_at "loc"

end

/-! ## functions without defaults -/
noncomputable def Fn (G : Gl) (x : Str) (i : Nat) (f cd : Addr) : Prop := nsIn G.K mainGlobals x = some (some (.ref f)) ∧ ∃ oc od osl doc pm an ct, G.K.lookup f = some ⟨oc, od, .func (fnX x x (fdA PB i) (fdB PB i) (fdS PB i) [] .none .none doc pm an (.ref cd) ct), osl⟩ ∧ codeIn G.K (.ref cd) x = true
theorem Fn.keeper {c : Fc} {x : Str} {i : Nat} {f cd : Addr} {st : St} (F : Fn c.g x i f cd) : Keeper c (.ref f) st := by
  obtain ⟨_, oc, od, osl, doc, pm, an, ct, hK, _⟩ := F
  exact .inl ⟨_, _, _, _, hK⟩
theorem bn_eq {K : Frag} {fd : FuncData} {as : List V} {ab : List (Str × V)} (h : ∀ vs, All2 VR vs as → ∃ binds, bindArgs fd ⟨vs, []⟩ = pure binds ∧ All2 (fun p q => p.1 = q.1 ∧ VR p.2 q.2) binds ab) : BN K fd as [] [] ab := fun s X vs kvs r1 r2 => by
  cases r2
  obtain ⟨b, e, r⟩ := h vs r1
  exact ⟨b, BindsTo.of_eq e, r⟩
theorem CA.wk {c : Fc} {f : V} {as : List V} {kn : List Str} {ks : List V} {st : St} {Q : V → St → Prop} (h : CA c f as kn ks st fun v st1 => ∃ st2, WK st1 st2 ∧ Q v st2) : CA c f as kn ks st Q := fun fv vs kvs r1 r2 r3 => TR.postWK (h fv vs kvs r1 r2 r3)
/-- a loop as a fold, with a part of the state that is not told -/
theorem FOR.foldE {c : Fc} {st : St} {Q : AFlow → St → Prop} {x : Str} {body : List Stmt} {items : List V} {Src : Hp → Prop} {σ ε : Type} (enc : ε → σ → St) (step : σ → V → σ) (s0 : σ) (e0 : ε) (J : Nat → σ → Prop) (h0 : WK st (enc e0 s0)) (j0 : J 0 s0) (src : ∀ e s, Src (enc e s).hp)
    (turn : ∀ i v e s, items[i]? = some v → J i s → SN c x v (enc e s) fun st1 => EX c body st1 (TU (fun _ st => J (i + 1) (step s v) ∧ ∃ e', st = enc e' (step s v)) 0 Q))
    (done : ∀ e, J items.length (items.foldl step s0) → Q .next (enc e (items.foldl step s0))) : FOR c x body items Src st Q := by
  refine ⟨fun i st => i ≤ items.length ∧ J i ((items.take i).foldl step s0) ∧ ∃ e, st = enc e ((items.take i).foldl step s0), ⟨enc e0 s0, h0, Nat.zero_le _, by simpa using j0, e0, by simp⟩, fun i st ⟨_, _, e, h⟩ => h ▸ src _ _, ?_, ?_⟩
  · rintro i v st hv ⟨hi, hj, ep, rfl⟩
    have hlt : i < items.length := by
      rcases Nat.lt_or_ge i items.length with h | h
      · exact h
      · rw [List.getElem?_eq_none h] at hv; cases hv
    intro val r
    refine TR.mono (turn i v ep _ hv hj val r) fun _ st4 hx => TR.mono hx fun f st5 q => ?_
    have e : (items.take (i + 1)).foldl step s0 = step ((items.take i).foldl step s0) v := by
      rw [List.take_add_one, hv, List.foldl_append]; rfl
    cases f with
    | next => obtain ⟨st6, k, j, e', e6⟩ := q; exact ⟨st6, k, hlt, by rw [e]; exact j, e', by rw [e]; exact e6⟩
    | cont => obtain ⟨st6, k, j, e', e6⟩ := q; exact ⟨st6, k, hlt, by rw [e]; exact j, e', by rw [e]; exact e6⟩
    | brk => exact q
    | ret v => exact q
  · rintro st ⟨_, hj, ep, rfl⟩
    rw [List.take_length] at hj ⊢
    exact done ep hj
theorem rItems_foldl {σ : Type} (step : σ → V → σ) (g : σ → Nat → σ) (a : Int) (n : Nat) (d : Int) (h : ∀ s (i : Nat), step s (.int (a + i * d)) = g s i) (s0 : σ) : (rItems a n d).foldl step s0 = (List.range n).foldl g s0 := by
  unfold rItems
  rw [List.foldl_map]
  congr 1
  funext s i
  exact h s i

/-! ## _byteswap -/
noncomputable def vnat : V → Nat
  | .int i => i.toNat
  | _ => 0
noncomputable def bswI (l : List Nat) (w i : Nat) (s : List Nat) : List Nat := (List.range w).foldl (fun s j => s.set (i + w - 1 - j) (l.getD (i + j) 0)) s
noncomputable def bswF (l : List Nat) (w nb : Nat) : List Nat := (List.range nb).foldl (fun s b => bswI l w (b * w) s) (List.replicate l.length 0)
theorem bswI_len (l : List Nat) (w i : Nat) : ∀ s, (bswI l w i s).length = s.length := by
  unfold bswI
  generalize List.range w = r
  intro s
  induction r generalizing s with
  | nil => rfl
  | cons j r ih => rw [List.foldl_cons, ih]; simp
theorem bswF_len (l : List Nat) (w nb : Nat) : (bswF l w nb).length = l.length := by
  unfold bswF
  have : ∀ (r : List Nat) (s : List Nat), (r.foldl (fun s b => bswI l w (b * w) s) s).length = s.length := by
    intro r
    induction r with
    | nil => intro s; rfl
    | cons j r ih => intro s; rw [List.foldl_cons, ih, bswI_len]
  rw [this]; simp
theorem size_blocks {w nb : Nat} (hw : 0 < w) : Builtin.Range.rangeSize 0 ((w * nb : Nat) : Int) w = nb := by
  unfold Builtin.Range.rangeSize
  rw [if_pos (by omega)]
  cases nb with
  | zero => simp
  | succ n =>
    have h1 : 0 < w * (n + 1) := Nat.mul_pos hw (Nat.succ_pos n)
    rw [if_pos (by omega)]
    have e : ((w * (n + 1) : Nat) : Int) - 0 - 1 = (w - 1 : Int) + w * n := by rw [Nat.mul_add]; push_cast; omega
    rw [e, Int.add_mul_ediv_left _ _ (by omega), Int.ediv_eq_zero_of_lt (by omega) (by omega)]
    push_cast; omega
theorem noPylong {x y : Int} (h : y.natAbs < 2 ^ 64) : Builtin.divisionGoesByPylong x y = false := by
  unfold Builtin.divisionGoesByPylong
  have : (if (y == 0) = true then 0 else y.natAbs.log2 / 30 + 1) ≤ 300 := by
    split
    · omega
    · have : y.natAbs.log2 < 64 := by
        by_cases h0 : y.natAbs = 0
        · rw [h0]; decide
        · exact (Nat.log2_lt h0).mpr h
      omega
  have hd : decide ((if (y == 0) = true then 0 else y.natAbs.log2 / 30 + 1) > 300) = false := decide_eq_false (by omega)
  simp only [hd, Bool.false_and]
section
variable {c : Fc} {f cd : Addr} {l : List Nat} {w nb : Nat} {hp : Hp} {loc : Loc} {Q : V → St → Prop}
theorem ca_swap (F : Fn c.g "_byteswap" 6 f cd) (hr : 0 < c.room) (h1 : nsIn c.g.K mainGlobals "len" = some none) (h2 : nsIn c.g.K mainGlobals "range" = some none) (h3 : nsIn c.g.K mainGlobals "bytearray" = some none) (h4 : nsIn c.g.K mainGlobals "bytes" = some none)
    (hw : 0 < w) (hw' : w ≤ 16777216) (hlen : l.length = w * nb) (hz : l.length ≤ 16777216) (hb : ∀ x ∈ l, x < 256) (q : Q (.bytes (bswF l w nb)) ⟨loc, hp⟩) : CA c (.ref f) [.bytes l, .int w] [] [] ⟨loc, hp⟩ Q := by
  obtain ⟨_, oc, od, osl, doc, pm, an, ct, hK, hcd⟩ := F
  refine CA.wk ?_
  refine ca_def (ab := [("data", .bytes l), ("width", .int w)]) hK hcd hr (bn_eq fun vs r => ?_) (fun L g A => bi_locals ?_ fun A' _ => ?_) (by kernel_rfl) (by kernel_rfl) (by kernel_rfl)
  · obtain ⟨v0, v1, rfl, r0, r1⟩ := all2_2 r
    exact ⟨[("data", v0), ("width", v1)], by kernel_rfl, .cons ⟨rfl, r0⟩ (.cons ⟨rfl, r1⟩ .nil)⟩
  · intro y hy
    simp only [List.mem_cons, List.not_mem_nil, or_false] at hy
    rcases hy with rfl | rfl <;> kernel_rfl
  have hA : True := trivial
  show EX (FcX c.g A' "_byteswap" (fdS PB 6) L f (.ref cd) [] g c.s₀ (c.room - 1)) (fdB PB 6) ⟨[("width", .int w), ("data", .bytes l)], hp⟩ _
  conv => arg 2; whnf
  walk_at "ms"
  refine ⟨trivial, ca_bi (len_bytes' hz ?_)⟩
  walk_at "ms"
  refine ⟨trivial, ca_ty (ca_barr (by omega) fun D => ?_)⟩
  walk_at "ms"
  refine nx_next (x_cons (s_for ?_))
  walk_at "ms"
  refine ⟨trivial, ca_bi (len_bytes' hz ?_)⟩
  walk_at "ms"
  have hmul : ∀ i, i < nb → i * w + w ≤ l.length := fun i hi => by
    rw [hlen, Nat.mul_comm w nb]
    calc i * w + w = (i + 1) * w := by rw [Nat.add_mul, Nat.one_mul]
      _ ≤ nb * w := Nat.mul_le_mul_right w hi
  refine ⟨trivial, ca_ty (ca_range3 (by omega) (noPylong (by omega)) fun R => it_range (small_of (by decide) (by decide) (by omega) (by omega) (by omega) (by omega)) (n := nb) (by rw [hlen]; exact size_blocks hw) ?_)⟩
  refine FOR.fold (fun s : List Nat => ⟨[("swapped_data", .ref D), ("width", .int w), ("data", .bytes l)], (D, .barr s) :: hp⟩) (fun s v => bswI l w (vnat v) s) (List.replicate l.length 0) (fun _ s => s.length = l.length) ⟨by walk_at "loc", .refl _⟩ (by simp) (fun _ => trivial) ?_ ?_
  · intro i v s hv hJ
    obtain ⟨hi, rfl⟩ := rItems_get hv
    have hbl := hmul i hi
    walk_at "ms"
    refine s_for ?_
    walk_at "ms"
    refine ⟨trivial, ca_ty (ca_range1 fun R => it_range (small_of (by decide) (by decide) (by omega) (by omega) (by decide) (by decide)) (n := w) (by rw [size_step1]; omega) ?_)⟩
    refine FOR.fold (fun s : List Nat => ⟨[("i", .int (0 + (i : Int) * w)), ("swapped_data", .ref D), ("width", .int w), ("data", .bytes l)], (D, .barr s) :: hp⟩) (fun s v => s.set (i * w + w - 1 - vnat v) (l.getD (i * w + vnat v) 0)) s (fun _ s => s.length = l.length) ⟨by walk_at "loc", .refl _⟩ hJ (fun _ => trivial) ?_ ?_
    · intro j v s hv hJ
      obtain ⟨hj, rfl⟩ := rItems_get hv
      walk_at "ms"
      have hx : l[(0 + (i : Int) * w + (0 + j * 1)).toNat]? = some (l.getD (i * w + j) 0) := by
        have e : (0 + (i : Int) * w + (0 + j * 1)).toNat = i * w + j := by
          have : (i : Int) * w = ((i * w : Nat) : Int) := by push_cast; rfl
          omega
        rw [e, List.getD_eq_getElem?_getD]
        have : i * w + j < l.length := by omega
        simp [this]
      have hnn : (0 : Int) ≤ (i : Int) * w := by exact Int.mul_nonneg (by omega) (by omega)
      have hlt : l.getD (i * w + j) 0 < 256 := hb _ (List.mem_of_getElem? hx)
      refine sb_bytesI (fun _ _ _ e => by cases e) (by omega) hx hz ?_
      walk_at "ms"
      have hcast : (i : Int) * w = ((i * w : Nat) : Int) := by push_cast; rfl
      have e1 : (0 + (i : Int) * w + w - 1 - (0 + j * 1)).toNat = i * w + w - 1 - j := by omega
      have e2 : vnat (V.int (0 + (j : Int) * 1)) = j := by show (0 + (j : Int) * 1).toNat = j; omega
      refine si_barr (hp' := (D, .barr (s.set (i * w + w - 1 - j) (l.getD (i * w + j) 0))) :: hp) (by rw [e1, Int.toNat_natCast]; exact .here) (by omega) (by omega) (by rw [hJ]; omega) (by omega) (by omega) ?_
      walk_at "m"
      refine tu_next ⟨[("i", .int (0 + (i : Int) * w)), ("swapped_data", .ref D), ("width", .int w), ("data", .bytes l)], (D, .barr (s.set (i * w + w - 1 - j) (l.getD (i * w + j) 0))) :: hp⟩ ⟨by walk_at "loc", .refl _⟩ ⟨?_, ?_⟩
      · simp [hJ]
      · rw [e2]
    · intro hJ2
      have e3 : (rItems 0 w 1).foldl (fun s v => s.set (i * w + w - 1 - vnat v) (l.getD (i * w + vnat v) 0)) s = bswI l w (i * w) s := by
        unfold bswI
        refine rItems_foldl _ _ _ _ _ (fun s j => ?_) s
        have e2 : vnat (V.int (0 + (j : Int) * 1)) = j := by show (0 + (j : Int) * 1).toNat = j; omega
        simp only [e2]
      have e4 : vnat (V.int (0 + (i : Int) * w)) = i * w := by
        show (0 + (i : Int) * w).toNat = i * w
        have hcast : (i : Int) * w = ((i * w : Nat) : Int) := by push_cast; rfl
        omega
      rw [e3]
      walk_at "m"
      refine tu_next ⟨[("swapped_data", .ref D), ("width", .int w), ("data", .bytes l)], (D, .barr (bswI l w (i * w) s)) :: hp⟩ ⟨by walk_at "loc", .refl _⟩ ⟨?_, ?_⟩
      · rw [e4, bswI_len]; exact hJ
      · rw [e4]
  · intro hJ
    have e5 : (rItems 0 nb w).foldl (fun s v => bswI l w (vnat v) s) (List.replicate l.length 0) = bswF l w nb := by
      unfold bswF
      refine rItems_foldl _ _ _ _ _ (fun s j => ?_) _
      have e4 : vnat (V.int (0 + (j : Int) * w)) = j * w := by
        show (0 + (j : Int) * w).toNat = j * w
        have hcast : (j : Int) * w = ((j * w : Nat) : Int) := by push_cast; rfl
        omega
      simp only [e4]
    rw [e5]
    walk_at "m"
    refine ⟨trivial, ca_ty (ca_bytesB (.head _) (by rw [bswF_len]; exact hz) ?_)⟩
    walk_at "m"
    exact ⟨⟨loc, hp⟩, ⟨.refl _, .drop (.refl _)⟩, q⟩
end

section
variable {c : Fc} {st : St}
theorem v_ifexpV {Q : V → St → Prop} {t b o : PySem.Expr} {pos : Pos} (h : EB c t st fun k st1 => ∃ v, CN k (EV c b st1 fun w st3 => w = v ∧ st3 = st1) (EV c o st1 fun w st3 => w = v ∧ st3 = st1) ∧ Q v st1) : EV c (.IfExp t b o pos) st Q :=
  v_ifexp (TR.mono h fun k st1 ⟨v, hk, q⟩ => by
    cases k with
    | true => exact TR.mono (show EV c b st1 fun w st3 => w = v ∧ st3 = st1 from hk) fun w st3 ⟨e1, e2⟩ => by subst e1 e2; exact q
    | false => exact TR.mono (show EV c o st1 fun w st3 => w = v ∧ st3 = st1 from hk) fun w st3 ⟨e1, e2⟩ => by subst e1 e2; exact q)
theorem typ_append : typeOf (.builtin "list.append") = pure (.type "method_descriptor") := by show builtinType _ = _; rw [builtinType_eq_fast]; kernel_rfl
theorem s_append {Q : AFlow → St → Prop} {o e : PySem.Expr} {apos pos spos : Pos} (h : EV c o st fun ov st1 => ∃ a vs, ov = .ref a ∧ RL st1.hp a vs ∧ EV c e st1 fun v st2 => ∃ hp', Upd st2.hp a (.list vs) (.list (vs ++ [v])) hp' ∧ vs.length ≤ 16777216 ∧ Q .next ⟨st2.loc, hp'⟩)
    (hbase : attributeBase o "append" c.env (eval o c.env) = eval o c.env) (hst : starEach [e] c.env = [(false, eval e c.env)]) (hline : (apos.endLine == pos.line) = true) (hi : interactive c.env = false)
    (hs : swapsWith (.Call (.Attribute o "append" apos) [e] [] pos) none spos.line c.env = pure false) : ES c (.Expr (.Call (.Attribute o "append" apos) [e] [] pos) spos) st Q := by
  refine es_expr (ev_methL (id := "list.append") ?_ slot_list_append typ_append hbase (by rw [hst]; rfl) (by show 1 < 29; decide) hline) hi hs
  refine TR.mono h fun ov st1 ⟨a, vs, e1, hm, h1⟩ => ⟨a, vs, e1, hm, ?_⟩
  refine el_cons ?_ hst
  refine TR.mono h1 fun v st2 ⟨hp', u, hz, q⟩ => el_nil ?_
  exact m_append u hz ⟨rfl, q⟩
end
local macro_rules | `(tactic| walk_at "app") => `(tactic| ((with_reducible refine s_append ?_ ?a1 ?a2 ?a3 ?a4 ?a5); (case a1 => rfl); (case a2 => rfl); (case a3 => rfl); (case a4 => rfl); (case a5 => rfl)))
local macro_rules | `(tactic| walk_at "rl") => `(tactic| (repeat (first | exact RL.here | assumption | apply RL.there)))
local macro_rules | `(tactic| walk_at "sub") => `(tactic| (repeat (first | exact Sub.refl _ | apply Sub.keep | apply Sub.drop)))
local macro_rules | `(tactic| walk_at "for") => `(tactic| ((with_reducible refine s_for ?_ ?a1); (case a1 => intro x; rfl)))
local macro_rules | `(tactic| walk_at "ifv") => `(tactic| with_reducible refine v_ifexpV ?_)
local macro_rules | `(tactic| walk_at "comp") => `(tactic| ((with_reducible refine' v_comp ?_ ?a1 ?a2 ?a3 ?a4); (case a1 => rfl); (case a2 => rfl); (case a3 => decide +kernel); (case a4 => intro x; rfl)))
local macro_rules | `(tactic| walk_at "scomp") => `(tactic| ((with_reducible refine' s_comp ?_ ?a1 ?a2 ?a3 ?a4 ?a5); (case a1 => rfl); (case a2 => rfl); (case a3 => decide +kernel); (case a4 => intro x; rfl); (case a5 => rfl)))
local macro_rules | `(tactic| walk_at "scomp0") => `(tactic| ((with_reducible refine' s_comp0 ?_ ?a1 ?a2 ?a3 ?a4 ?a5); (case a1 => rfl); (case a2 => rfl); (case a3 => decide +kernel); (case a4 => intro x; rfl); (case a5 => rfl)))
local macro_rules | `(tactic| walk_at "d") => `(tactic| (try dsimp only [List.cons_append, List.nil_append]))
/-! ## _law_drawn -/
noncomputable def ownD : List Int := [1, 1, 0, 1, 1, 0, 0, 1, 1, 0]
noncomputable def drawNum (ns : List Int) (k : Nat) : Int := if k < ns.length then ns.getD k 0 else ownD.getD k 0
noncomputable def drawStep (ns : List Int) (s : List Int × Int) (k : Nat) : List Int × Int :=
  let mark := if s.2 = 0 then 1 else (drawNum ns k).fmod 2
  (s.1 ++ [mark], s.2 + (2 * mark - 1))
noncomputable def drawnF (ns : List Int) : List Int := let s := (List.range 10).foldl (drawStep ns) ([], 0); s.1 ++ List.replicate s.2.toNat 0
theorem fmod2 (x : Int) : x.fmod 2 = 0 ∨ x.fmod 2 = 1 := by
  rw [Int.fmod_eq_emod_of_nonneg _ (by decide)]; omega
section
variable {c : Fc} {f cd sc : Addr} {ns : List Int} {hp : Hp} {loc : Loc} {Q : V → St → Prop}
theorem ca_drawn (F : Fn c.g "_law_drawn" 8 f cd) (hr : 0 < c.room) (h1 : nsIn c.g.K mainGlobals "len" = some none) (h2 : nsIn c.g.K mainGlobals "range" = some none)
    (hm : RL hp sc (ns.map V.int)) (hz : ns.length ≤ 63) (q : ∀ D, Q (.ref D) ⟨loc, (D, .list ((drawnF ns).map V.int)) :: hp⟩) : CA c (.ref f) [.ref sc] [] [] ⟨loc, hp⟩ Q := by
  obtain ⟨_, oc, od, osl, doc, pm, an, ct, hK, hcd⟩ := F
  refine CA.wk ?_
  refine ca_def (ab := [("script", .ref sc)]) hK hcd hr (bn_eq fun vs r => ?_) (fun L g A => bi_locals ?_ fun A' _ => ?_) (by kernel_rfl) (by kernel_rfl) (by kernel_rfl)
  · obtain ⟨v0, rfl, r0⟩ := all2_1 r
    exact ⟨[("script", v0)], by kernel_rfl, .cons ⟨rfl, r0⟩ .nil⟩
  · intro y hy
    simp only [List.mem_cons, List.not_mem_nil, or_false] at hy
    rcases hy with rfl <;> kernel_rfl
  show EX (FcX c.g A' "_law_drawn" (fdS PB 8) L f (.ref cd) [] g c.s₀ (c.room - 1)) (fdB PB 8) ⟨[("script", .ref sc)], hp⟩ _
  conv => arg 2; whnf
  walk_at "ms"
  refine ⟨by decide, fun O => ?_⟩
  walk_at "m"
  refine ⟨by decide, fun M => ?_⟩
  walk_at "m"
  walk_at "for"
  walk_at "ms"
  refine ⟨trivial, ca_bi (len_listR (vs := ownD.map V.int) (.there .here) (by decide) ?_)⟩
  walk_at "ms"
  refine ⟨trivial, ca_ty (ca_range1 fun R => it_range (n := 10) (by decide +kernel) (by decide +kernel) ?_)⟩
  refine FOR.fold (fun s : List Int × Int => ⟨[("height", .int s.2), ("marks", .ref M), ("own", .ref O), ("script", .ref sc)], (M, .list (s.1.map V.int)) :: (O, .list (ownD.map V.int)) :: hp⟩) (fun s v => drawStep ns s (vnat v)) ([], 0) (fun i s => 0 ≤ s.2 ∧ s.2 ≤ i ∧ s.1.length = i)
    ⟨by walk_at "loc", .refl _⟩ ⟨by decide, by decide, rfl⟩ (fun _ => trivial) ?_ ?_
  · rintro i v ⟨m, ht⟩ hv ⟨hj1, hj2, hj3⟩
    obtain ⟨hi, rfl⟩ := rItems_get hv
    dsimp only at hj1 hj2 hj3
    have e2 : vnat (V.int (0 + (i : Int) * 1)) = i := by show (0 + (i : Int) * 1).toNat = i; omega
    have e3 : (0 + (i : Int) * 1).toNat = i := by omega
    walk_at "ms"
    walk_at "ifv"
    walk_at "ms"
    refine ⟨trivial, ca_bi (len_listR (vs := ns.map V.int) (.there (.there hm)) (by simp; omega) ?_)⟩
    walk_at "ms"
    refine ⟨.int (drawNum ns i), ?_, ?_⟩
    · refine CN.by (fun e => ?_) (fun e => ?_)
      · have e := of_decide_eq_true e
        simp only [List.length_map] at e
        have hlt : i < ns.length := by omega
        walk_at "ms"
        refine sb_listI (v := .int (drawNum ns i)) (.there (.there hm)) (by omega) ?_ (by omega) ⟨rfl, rfl⟩
        rw [e3, List.getElem?_map, drawNum, if_pos hlt, List.getD_eq_getElem?_getD, List.getElem?_eq_getElem hlt]; rfl
      · have e := of_decide_eq_false e
        simp only [List.length_map] at e
        have hlt : ¬ i < ns.length := by omega
        walk_at "ms"
        refine sb_listI (v := .int (drawNum ns i)) (.there .here) (by omega) ?_ (by omega) ⟨rfl, rfl⟩
        have hl : i < ownD.length := hi
        rw [e3, List.getElem?_map, drawNum, if_neg hlt, List.getD_eq_getElem?_getD, List.getElem?_eq_getElem hl]; rfl
    walk_at "m"
    walk_at "ifv"
    walk_at "ms"
    have hmk : (if ht = 0 then (1 : Int) else (drawNum ns i).fmod 2) = 0 ∨ (if ht = 0 then (1 : Int) else (drawNum ns i).fmod 2) = 1 := by
      split
      · exact .inr rfl
      · exact fmod2 _
    have hmk0 : ht = 0 → (if ht = 0 then (1 : Int) else (drawNum ns i).fmod 2) = 1 := fun e => if_pos e
    refine ⟨.int (if ht = 0 then 1 else (drawNum ns i).fmod 2), ?_, ?_⟩
    · refine CN.by (fun e => ?_) (fun e => ?_)
      · have e : ht = 0 := by simpa using e
        walk_at "ms"
        exact ⟨by rw [if_pos e], rfl⟩
      · have e : ¬ ht = 0 := by simpa using e
        walk_at "ms"
        exact bo_mod (by decide) ⟨by rw [if_neg e], rfl⟩
    have hst : drawStep ns (m, ht) i = (m ++ [if ht = 0 then 1 else (drawNum ns i).fmod 2], ht + (2 * (if ht = 0 then 1 else (drawNum ns i).fmod 2) - 1)) := rfl
    rw [e2, hst]
    generalize (if ht = 0 then (1 : Int) else (drawNum ns i).fmod 2) = mk at hmk hmk0 ⊢
    walk_at "m"
    walk_at "app"
    walk_at "ms"
    refine ⟨M, m.map V.int, rfl, .here, ?_⟩
    walk_at "ms"
    refine ⟨_, Upd.here, by simp; omega, ?_⟩
    walk_at "m"
    refine bo_mul (IntMulOk.of_left (by decide +kernel)) ?_
    walk_at "m"
    try refine io_add ?_
    walk_at "m"
    refine tu_next ⟨[("height", .int (ht + (2 * mk - 1))), ("marks", .ref M), ("own", .ref O), ("script", .ref sc)], (M, .list ((m ++ [mk]).map V.int)) :: (O, .list (ownD.map V.int)) :: hp⟩ ⟨by walk_at "loc", ?_⟩ ⟨⟨?_, ?_, ?_⟩, rfl⟩
    · rw [List.map_append]; exact .refl _
    · dsimp only; omega
    · dsimp only; omega
    · simp [hj3]
  · rintro ⟨hj1, hj2, hj3⟩
    have e5 : (rItems 0 10 1).foldl (fun s v => drawStep ns s (vnat v)) (([], 0) : List Int × Int) = (List.range 10).foldl (drawStep ns) ([], 0) := by
      refine rItems_foldl _ _ _ _ _ (fun s j => ?_) _
      have e2 : vnat (V.int (0 + (j : Int) * 1)) = j := by show (0 + (j : Int) * 1).toNat = j; omega
      simp only [e2]
    rw [rItems_length] at hj2 hj3
    rw [e5] at hj1 hj2 hj3 ⊢
    have hD : drawnF ns = ((List.range 10).foldl (drawStep ns) (([], 0) : List Int × Int)).1 ++ List.replicate ((List.range 10).foldl (drawStep ns) (([], 0) : List Int × Int)).2.toNat 0 := rfl
    generalize (List.range 10).foldl (drawStep ns) (([], 0) : List Int × Int) = s at hj1 hj2 hj3 hD ⊢
    obtain ⟨m, ht⟩ := s
    dsimp only at hj1 hj2 hj3 hD ⊢
    walk_at "m"
    refine ⟨by decide, fun Z => ?_⟩
    walk_at "m"
    refine bo_mulL (.head _) (by simp) hj1 (by omega) (by simp; omega) fun Y => ?_
    refine bo_addL (vs := m.map V.int) (ws := (List.replicate ht.toNat [V.int 0]).flatten) (.there (.there .here)) .here (by simp; omega) fun D => ?_
    walk_at "m"
    refine ⟨⟨loc, (D, .list ((drawnF ns).map V.int)) :: hp⟩, ⟨.refl _, ?_⟩, q D⟩
    rw [hD]
    have e6 : (List.replicate ht.toNat [V.int 0]).flatten = (List.replicate ht.toNat (0 : Int)).map V.int := by
      induction ht.toNat with
      | zero => rfl
      | succ n ih => rw [List.replicate_succ, List.flatten_cons, ih, List.replicate_succ]; rfl
    rw [e6, List.map_append]
    walk_at "sub"
end

/-! ## _law_heights -/
noncomputable def vint : V → Int
  | .int i => i
  | _ => 0
noncomputable def htStep (s : List Int × Int) (m : Int) : List Int × Int := (s.1 ++ [s.2], s.2 + 2 * m - 1)
noncomputable def htF (ms : List Int) : List Int := let s := ms.foldl htStep ([], 0); s.1 ++ [s.2]
theorem ints_foldl {σ : Type} (g : σ → Int → σ) : ∀ (ns : List Int) (s : σ), (ns.map V.int).foldl (fun s v => g s (vint v)) s = ns.foldl g s
  | [], _ => rfl
  | n :: r, s => by rw [List.map_cons, List.foldl_cons, List.foldl_cons]; exact ints_foldl g r _
theorem ints_get {ns : List Int} {i : Nat} {v : V} (h : (ns.map V.int)[i]? = some v) : ∃ n, ns[i]? = some n ∧ v = .int n := by
  rw [List.getElem?_map] at h
  obtain ⟨n, hn, rfl⟩ := Option.map_eq_some_iff.mp h
  exact ⟨n, hn, rfl⟩
section
variable {c : Fc} {f cd a : Addr} {ns : List Int} {hp : Hp} {loc : Loc} {Q : V → St → Prop}
theorem ca_heights (F : Fn c.g "_law_heights" 9 f cd) (hr : 0 < c.room) (hm : RL hp a (ns.map V.int)) (hz : ns.length ≤ 1000000) (q : ∀ D, Q (.ref D) ⟨loc, (D, .list ((htF ns).map V.int)) :: hp⟩) : CA c (.ref f) [.ref a] [] [] ⟨loc, hp⟩ Q := by
  obtain ⟨_, oc, od, osl, doc, pm, an, ct, hK, hcd⟩ := F
  refine CA.wk ?_
  refine ca_def (ab := [("marks", .ref a)]) hK hcd hr (bn_eq fun vs r => ?_) (fun L g A => bi_locals ?_ fun A' _ => ?_) (by kernel_rfl) (by kernel_rfl) (by kernel_rfl)
  · obtain ⟨v0, rfl, r0⟩ := all2_1 r
    exact ⟨[("marks", v0)], by kernel_rfl, .cons ⟨rfl, r0⟩ .nil⟩
  · intro y hy
    simp only [List.mem_cons, List.not_mem_nil, or_false] at hy
    rcases hy with rfl <;> kernel_rfl
  show EX (FcX c.g A' "_law_heights" (fdS PB 9) L f (.ref cd) [] g c.s₀ (c.room - 1)) (fdB PB 9) ⟨[("marks", .ref a)], hp⟩ _
  conv => arg 2; whnf
  walk_at "ms"
  refine ⟨by decide, fun H => ?_⟩
  walk_at "m"
  walk_at "for"
  walk_at "ms"
  refine it_list (.there hm) ?_
  refine FOR.fold (fun s : List Int × Int => ⟨[("heights", .ref H), ("marks", .ref a)], (H, .list (s.1.map V.int ++ [V.int s.2])) :: hp⟩) (fun s v => htStep s (vint v)) ([], 0) (fun i s => s.1.length = i)
    ⟨by walk_at "loc", .refl _⟩ rfl (fun _ => .there hm) ?_ ?_
  · rintro i v ⟨m, ht⟩ hv hj
    obtain ⟨n, hn, rfl⟩ := ints_get hv
    have hi : i < ns.length := by
      rcases Nat.lt_or_ge i ns.length with h | h
      · exact h
      · rw [List.getElem?_eq_none h] at hn; cases hn
    dsimp only at hj
    walk_at "ms"
    walk_at "app"
    walk_at "ms"
    refine ⟨H, m.map V.int ++ [V.int ht], rfl, .here, ?_⟩
    walk_at "ms"
    refine sb_last .here ?_
    walk_at "ms"
    refine bo_mul (IntMulOk.of_left (by decide +kernel)) ?_
    walk_at "ms"
    refine ⟨_, Upd.here, by simp; omega, ?_⟩
    walk_at "m"
    refine tu_next ⟨[("heights", .ref H), ("marks", .ref a)], (H, .list ((m ++ [ht]).map V.int ++ [V.int (ht + 2 * n - 1)])) :: hp⟩ ⟨by walk_at "loc", ?_⟩ ⟨?_, rfl⟩
    · rw [List.map_append]; exact .refl _
    · simp [htStep, hj]
  · intro hj
    rw [ints_foldl htStep]
    have hD : htF ns = (ns.foldl htStep ([], 0)).1 ++ [(ns.foldl htStep ([], 0)).2] := rfl
    generalize ns.foldl htStep ([], 0) = s at hD ⊢
    obtain ⟨m, ht⟩ := s
    dsimp only at hD ⊢
    walk_at "m"
    refine ⟨⟨loc, (H, .list ((htF ns).map V.int)) :: hp⟩, ⟨.refl _, ?_⟩, q H⟩
    rw [hD, List.map_append]
    exact .refl _
end

/-! ## _law_text -/
noncomputable def txtI (ms : List Int) : List Int := (List.range ms.length).foldl (fun s k => s ++ [(htF ms).getD k 0, ms.getD k 0]) []
noncomputable def txtF (ms : List Int) : List Nat := (txtI ms).map Int.toNat
theorem ht_len : ∀ (ms : List Int) (s : List Int × Int), (ms.foldl htStep s).1.length = s.1.length + ms.length
  | [], s => rfl
  | m :: r, s => by rw [List.foldl_cons, ht_len r]; simp [htStep]; omega
theorem htF_len (ms : List Int) : (htF ms).length = ms.length + 1 := by
  unfold htF
  simp [ht_len]
theorem gi {l : List Int} {k : Nat} (h : k < l.length) : (l.map V.int)[k]? = some (.int (l.getD k 0)) := by
  rw [List.getElem?_map, List.getD_eq_getElem?_getD, List.getElem?_eq_getElem h]; rfl
theorem rangeN {n : Nat} (h : n ≤ 16777216) : Builtin.Range.small 0 (n : Int) 1 = true := small_of (by decide) (by decide) (by omega) (by omega) (by decide) (by decide)
theorem sizeN {n : Nat} : Builtin.Range.rangeSize 0 (n : Int) 1 = n := by rw [size_step1]; omega
section
variable {c : Fc} {f cd a fh ch : Addr} {ns : List Int} {hp : Hp} {loc : Loc} {Q : V → St → Prop}
theorem ca_text (F : Fn c.g "_law_text" 10 f cd) (FH : Fn c.g "_law_heights" 9 fh ch) (hr : 2 ≤ c.room) (h1 : nsIn c.g.K mainGlobals "len" = some none) (h2 : nsIn c.g.K mainGlobals "range" = some none) (h3 : nsIn c.g.K mainGlobals "bytes" = some none) (hm : RL hp a (ns.map V.int)) (hz : ns.length ≤ 1000) (hin : ∀ n ∈ txtI ns, 0 ≤ n ∧ n < 256) (q : Q (.bytes (txtF ns)) ⟨loc, hp⟩) : CA c (.ref f) [.ref a] [] [] ⟨loc, hp⟩ Q := by
  obtain ⟨_, oc, od, osl, doc, pm, an, ct, hK, hcd⟩ := F
  refine CA.wk ?_
  refine ca_def (ab := [("marks", .ref a)]) hK hcd (by omega) (bn_eq fun vs r => ?_) (fun L g A => bi_locals ?_ fun A' _ => ?_) (by kernel_rfl) (by kernel_rfl) (by kernel_rfl)
  · obtain ⟨v0, rfl, r0⟩ := all2_1 r
    exact ⟨[("marks", v0)], by kernel_rfl, .cons ⟨rfl, r0⟩ .nil⟩
  · intro y hy
    simp only [List.mem_cons, List.not_mem_nil, or_false] at hy
    rcases hy with rfl <;> kernel_rfl
  have hn := FH.1
  show EX (FcX c.g A' "_law_text" (fdS PB 10) L f (.ref cd) [] g c.s₀ (c.room - 1)) (fdB PB 10) ⟨[("marks", .ref a)], hp⟩ _
  conv => arg 2; whnf
  walk_at "ms"
  refine ⟨FH.keeper, ca_heights (c := FcX c.g A' "_law_text" (fdS PB 10) L f (.ref cd) [] g c.s₀ (c.room - 1)) FH (by show 0 < c.room - 1; omega) hm (by omega) fun H => ?_⟩
  walk_at "m"
  refine ⟨by decide, fun O => ?_⟩
  walk_at "m"
  walk_at "for"
  walk_at "ms"
  refine ⟨trivial, ca_bi (len_listR (vs := ns.map V.int) (.there (.there hm)) (by simp; omega) ?_)⟩
  walk_at "ms"
  rw [List.length_map]
  refine ⟨trivial, ca_ty (ca_range1 fun R => it_range (n := ns.length) (rangeN (by omega)) sizeN ?_)⟩
  refine FOR.fold (fun s : List Int => ⟨[("octets", .ref O), ("heights", .ref H), ("marks", .ref a)], (O, .list (s.map V.int)) :: (H, .list ((htF ns).map V.int)) :: hp⟩) (fun s v => s ++ [(htF ns).getD (vnat v) 0, ns.getD (vnat v) 0]) [] (fun i s => s.length = 2 * i)
    ⟨by walk_at "loc", .refl _⟩ rfl (fun _ => trivial) ?_ ?_
  · intro i v s hv hj
    obtain ⟨hi, rfl⟩ := rItems_get hv
    have e2 : vnat (V.int (0 + (i : Int) * 1)) = i := by show (0 + (i : Int) * 1).toNat = i; omega
    have e3 : (0 + (i : Int) * 1).toNat = i := by omega
    have hH := htF_len ns
    walk_at "ms"
    refine sb_listI (v := .int ((htF ns).getD i 0)) (.there .here) (by omega) (by rw [e3]; exact gi (by omega)) (by omega) ?_
    walk_at "ms"
    refine sb_listI (v := .int (ns.getD i 0)) (.there (.there hm)) (by omega) (by rw [e3]; exact gi hi) (by omega) ?_
    walk_at "ms"
    refine ⟨by show 2 ≤ 16777216; decide, fun T => ?_⟩
    refine io_addL (.there .here) .here (by simp; omega) ?_
    walk_at "m"
    refine tu_next ⟨[("octets", .ref O), ("heights", .ref H), ("marks", .ref a)], (O, .list ((s ++ [(htF ns).getD i 0, ns.getD i 0]).map V.int)) :: (H, .list ((htF ns).map V.int)) :: hp⟩ ⟨by walk_at "loc", ?_⟩ ⟨?_, ?_⟩
    · rw [List.map_append]; exact .drop (.refl _)
    · simp [hj]; omega
    · rw [e2]
  · intro hj
    have e5 : (rItems 0 ns.length 1).foldl (fun s v => s ++ [(htF ns).getD (vnat v) 0, ns.getD (vnat v) 0]) [] = txtI ns := by
      refine rItems_foldl _ _ _ _ _ (fun s j => ?_) _
      have e2 : vnat (V.int (0 + (j : Int) * 1)) = j := by show (0 + (j : Int) * 1).toNat = j; omega
      simp only [e2]
    rw [rItems_length] at hj
    rw [e5] at hj ⊢
    walk_at "m"
    refine ⟨trivial, ca_ty (ca_bytesL (ns := txtI ns) .here hin (by omega) ?_)⟩
    walk_at "m"
    exact ⟨⟨loc, hp⟩, ⟨.refl _, by walk_at "sub"⟩, q⟩
end

/-! ## _law_swept -/
theorem slc_two {α : Type} {l : List α} {a b : Nat} (h : a ≤ b) (hb : b ≤ l.length) : slc l (some (a : Int)) (some (b : Int)) = (l.drop a).take (b - a) := by
  have h1 : kms_lo (some (a : Int)) l.length = a := by show (if (a : Int) < 0 then l.length - (-(a : Int)).toNat else min (a : Int).toNat l.length) = a; rw [if_neg (by omega)]; omega
  have h2 : kms_hi (some (b : Int)) l.length = b := by show (if (b : Int) < 0 then l.length - (-(b : Int)).toNat else min (b : Int).toNat l.length) = b; rw [if_neg (by omega)]; omega
  unfold slc
  rw [h1, h2]
noncomputable def bkey (b : List Nat) : Nat := b.getD 0 0
noncomputable def swStepL (row : List (List Nat)) (x : List Nat) : List (List Nat) :=
  let j := bsr (fun i => decide (bkey (row.getD i []) < bkey x)) 1 (row.length - 1)
  row.take j ++ x :: row.drop j
noncomputable def sweptF (l : List Nat) (nb : Nat) : List (List Nat) := (List.range nb).foldl (fun row b => swStepL row (slc l (some (2 * b : Nat)) (some (2 * b + 2 : Nat)))) [[255, 2], [0, 2]]
theorem key_first {c' : Fc} {hp1 : Hp} {lf c1 : Addr} {n q : Str} {params : Arguments} {scope : Scope} {p1 p2 p3 : Pos} {k : Nat} {loc' : Loc} {b : List Nat} {Qc : V → St → Prop} (hm : (lf, AObj.lam n q params (.Subscript (.Name "step" p1) (.Constant (.int 0) k p2) p3) scope [] c1) ∈ hp1) (hcd : (c1, AObj.code q) ∈ hp1)
    (hb : ∀ pm ctv v, bindArgs (kla_fn n q params (.Subscript (.Name "step" p1) (.Constant (.int 0) k p2) p3) scope [] pm (.ref c1) ctv) ⟨[v], []⟩ = pure [(("step" : Str), v)]) (hs : scope.names = [(("step" : Str), NameKind.local)]) (hco : scope.isCoroutine = false) (hgen : scope.isGenerator = false) (hk : scope.kind = .function)
    (hr : 1 ≤ c'.room) (hb1 : 0 < b.length) (hb2 : b.length ≤ 1000) (hq : Qc (V.int (bkey b)) ⟨loc', hp1⟩) : Keeper c' (.ref lf) ⟨loc', hp1⟩ ∧ CA c' (.ref lf) [.bytes b] [] [] ⟨loc', hp1⟩ Qc := by
  refine ⟨.inr ⟨_, _, _, _, _, _, _, hm⟩, ca_lam hm hcd hr (ab := [("step", .bytes b)]) (fun pm ctv vs r => ?_) (fun L g A => ?_) hco hgen hk⟩
  · obtain ⟨v0, rfl, r0⟩ := all2_1 r
    exact ⟨[("step", v0)], hb pm ctv v0, .cons ⟨rfl, r0⟩ .nil⟩
  have hkd : ∀ cl, (envX q scope L lf (.ref c1) cl).kindOf "step" = some .local := fun cl => by show scope.names.lookup ("step" : Str) = _; rw [hs]; kernel_rfl
  refine bi_locals (fun y hy => ?_) fun A' => ?_
  · simp only [List.mem_cons, List.not_mem_nil, or_false] at hy
    subst hy
    exact hkd _
  · rw [show cellEntries (L + 1) scope.names hp1 = hp1 by rw [hs]; rfl]
    refine ev_sub (ev_local (hkd _) rfl (ev_int ?_) (by kernel_rfl))
    refine sb_bytesI (n := bkey b) (fun _ _ _ e => by cases e) (by decide) ?_ (by omega) hq
    show b[0]? = some (b.getD 0 0)
    rw [List.getD_eq_getElem?_getD, List.getElem?_eq_getElem hb1]; rfl
noncomputable def qSw : Str := (("_law_swept" : Str) ++ ".<locals>.") ++ "<lambda>"
section
variable {c : Fc} {f cd fi fb P : Addr} {l : List Nat} {nb : Nat} {t : Option Addr} {hp : Hp} {loc : Loc} {Q : V → St → Prop}
theorem ca_swept (F : Fn c.g "_law_swept" 12 f cd) (FI : FnB c.g "insort_left" 3 fi) (FB : FnB c.g "bisect_left" 4 fb) (hr : 6 ≤ c.room) (h1 : nsIn c.g.K mainGlobals "len" = some none) (h2 : nsIn c.g.K mainGlobals "range" = some none) (h3 : nsIn c.g.K mainGlobals "bytes" = some none)
    (hP : codeHdIn c.g.K cd P = true) (hlen : l.length = 2 * nb) (hz : l.length ≤ 1000)
    (q : ∀ D t', Q (.ref D) ⟨loc, (D, .list ((sweptF l nb).map V.bytes)) :: (TB P ⟨92, 64, 92, 84⟩ qSw t' ++ hp)⟩) : CA c (.ref f) [.bytes l] [] [] ⟨loc, TB P ⟨92, 64, 92, 84⟩ qSw t ++ hp⟩ Q := by
  obtain ⟨_, oc, od, osl, doc, pm, an, ct, hK, hcd⟩ := F
  refine CA.wk ?_
  refine ca_def (ab := [("text", .bytes l)]) hK hcd (by omega) (bn_eq fun vs r => ?_) (fun L g A => bi_locals ?_ fun A' _ => ?_) (by kernel_rfl) (by kernel_rfl) (by kernel_rfl)
  · obtain ⟨v0, rfl, r0⟩ := all2_1 r
    exact ⟨[("text", v0)], by kernel_rfl, .cons ⟨rfl, r0⟩ .nil⟩
  · intro y hy
    simp only [List.mem_cons, List.not_mem_nil, or_false] at hy
    rcases hy with rfl <;> kernel_rfl
  have hn := FI.1
  show EX (FcX c.g A' "_law_swept" (fdS PB 12) L f (.ref cd) [] g c.s₀ (c.room - 1)) (fdB PB 12) ⟨[("text", .bytes l)], TB P ⟨92, 64, 92, 84⟩ qSw t ++ hp⟩ _
  conv => arg 2; whnf
  walk_at "ms"
  refine ⟨by decide, fun B1 => ?_⟩
  walk_at "ms"
  refine ⟨trivial, ca_ty (ca_bytesL (ns := [255, 2]) .here (by decide) (by decide) ?_)⟩
  walk_at "ms"
  refine ⟨by decide, fun B2 => ?_⟩
  walk_at "ms"
  refine ⟨trivial, ca_ty (ca_bytesL (ns := [0, 2]) .here (by decide) (by decide) ?_)⟩
  walk_at "ms"
  refine ⟨by decide, fun R => ?_⟩
  walk_at "m"
  walk_at "for"
  walk_at "ms"
  refine ⟨trivial, ca_bi (len_bytes' (by omega) ?_)⟩
  walk_at "ms"
  refine ⟨trivial, ca_ty (ca_range3 (by decide) (noPylong (by decide)) fun Rg => it_range (small_of (by decide) (by decide) (by omega) (by omega) (by decide) (by decide)) (n := nb) (by have := size_blocks (w := 2) (nb := nb) (by decide); rw [hlen]; exact this) ?_)⟩
  refine FOR.foldE (fun (t : Option Addr) (s : List (List Nat)) => ⟨[("row", .ref R), ("text", .bytes l)], (R, .list (s.map V.bytes)) :: (TB P ⟨92, 64, 92, 84⟩ qSw t ++ hp)⟩) (fun s v => swStepL s (slc l (some (vnat v : Nat)) (some (vnat v + 2 : Nat)))) [[255, 2], [0, 2]] t (fun i s => s.length = i + 2 ∧ ∀ b ∈ s, b.length = 2)
    ⟨by walk_at "loc", by walk_at "sub"⟩ ⟨rfl, by decide⟩ (fun _ _ => trivial) ?_ ?_
  · rintro i v t s hv ⟨hj1, hj2⟩
    obtain ⟨hi, rfl⟩ := rItems_get hv
    walk_at "ms"
    intro sl
    refine sb_bytesS (.int _) (.int _) (by omega) ?_
    have e2 : vnat (V.int (0 + (i : Int) * 2)) = 2 * i := by show (0 + (i : Int) * 2).toNat = 2 * i; omega
    have ex : slc l (some (0 + (i : Int) * 2)) (some (0 + (i : Int) * 2 + 2)) = slc l (some ((2 * i : Nat) : Int)) (some ((2 * i + 2 : Nat) : Int)) := by
      congr 2 <;> omega
    rw [ex, e2]
    have hx : (slc l (some ((2 * i : Nat) : Int)) (some ((2 * i + 2 : Nat) : Int))).length = 2 := by
      rw [slc_two (by omega) (by omega)]
      simp
      omega
    generalize slc l (some ((2 * i : Nat) : Int)) (some ((2 * i + 2 : Nat) : Int)) = x at hx ⊢
    walk_at "ms"
    refine ⟨trivial, ca_bi (len_listR (vs := s.map V.bytes) .here (by simp; omega) ?_)⟩
    walk_at "ms"
    refine ev_lam (pre := [(R, .list (s.map V.bytes))]) (post := hp) (t := t) (P := P) rfl hP rfl rfl fun lf c' => ?_
    walk_at "ms"
    have hx1 : 0 < x.length := by omega
    refine ⟨FI.keeper, ca_insL1 (c := FcX c.g A' "_law_swept" (fdS PB 12) L f (.ref cd) [] g c.s₀ (c.room - 1)) (m := 1) (vs := s.map V.bytes) (ws := s.map fun b => V.int (bkey b)) (kx := .int (bkey x)) (lo := 1) (hi := s.length - 1) (p := fun i => decide (bkey (s.getD i []) < bkey x)) FI FB h1 (fun _ _ _ _ _ _ _ _ h => bn41 (by decide) h) (.there .here) (by simp; omega) (by omega) (by simp) (.inl ?_) ?_ ?_ (by simp) (by show 3 ≤ c.room - 1; omega) (by omega) ?_ ?_⟩
    · rw [List.length_map]; congr 1; omega
    · intro c2 hg hroom loc' j v Qc hv hq
      rw [List.getElem?_map] at hv
      obtain ⟨b, hb, rfl⟩ := Option.map_eq_some_iff.mp hv
      have hbl := hj2 b (List.mem_of_getElem? hb)
      exact key_first (.head _) (.tail _ (.tail _ (.tail _ (.head _)))) (fun _ _ _ => rfl) rfl rfl rfl rfl hroom (by omega) (by omega) (hq _ (by rw [List.getElem?_map, hb]; rfl))
    · intro c2 hg hroom loc' Qc hq
      exact key_first (.head _) (.tail _ (.tail _ (.tail _ (.head _)))) (fun _ _ _ => rfl) rfl rfl rfl rfl hroom (by omega) (by omega) hq
    · intro c2 hg loc' j v Qc hv hq
      rw [List.getElem?_map] at hv
      obtain ⟨b, hb, rfl⟩ := Option.map_eq_some_iff.mp hv
      refine co_lt ?_
      have e : decide ((bkey b : Int) < (bkey x : Int)) = decide (bkey (s.getD j []) < bkey x) := by
        rw [List.getD_eq_getElem?_getD, hb]
        simp
      rw [e]; exact hq
    · walk_at "ms"
      refine co_isNotNone (fun n e => by cases e) ?_
      walk_at "ms"
      refine CN.f rfl ?_
      walk_at "m"
      refine tu_next ⟨[("row", .ref R), ("text", .bytes l)], (R, .list ((swStepL s x).map V.bytes)) :: (TB P ⟨92, 64, 92, 84⟩ qSw (some c') ++ hp)⟩ ⟨by walk_at "loc", ?_⟩ ⟨⟨?_, ?_⟩, some c', rfl⟩
      · have e : (swStepL s x).map V.bytes = (s.map V.bytes).take (bsr (fun i => decide (bkey (s.getD i []) < bkey x)) 1 (s.length - 1)) ++ V.bytes x :: (s.map V.bytes).drop (bsr (fun i => decide (bkey (s.getD i []) < bkey x)) 1 (s.length - 1)) := by
          simp [swStepL, List.map_take, List.map_drop]
        rw [e]
        exact .drop (.refl _)
      · simp [swStepL]; omega
      · intro b hb
        unfold swStepL at hb
        rcases List.mem_append.mp hb with h | h
        · exact hj2 b (List.mem_of_mem_take h)
        · rcases List.mem_cons.mp h with rfl | h
          · exact hx
          · exact hj2 b (List.mem_of_mem_drop h)
  · intro t' hj
    have e5 : (rItems 0 nb 2).foldl (fun s v => swStepL s (slc l (some (vnat v : Nat)) (some (vnat v + 2 : Nat)))) [[255, 2], [0, 2]] = sweptF l nb := by
      refine rItems_foldl _ _ _ _ _ (fun s j => ?_) _
      have e2 : vnat (V.int (0 + (j : Int) * 2)) = 2 * j := by show (0 + (j : Int) * 2).toNat = 2 * j; omega
      simp only [e2]
    rw [e5]
    walk_at "m"
    exact ⟨_, .refl _, q R t'⟩
end

/-! ## _law_order -/
noncomputable def maxF (l : List Int) : Int := l.foldl max 0
theorem foldl_max_ge : ∀ (l : List Int) (a : Int), a ≤ l.foldl max a ∧ (∀ x ∈ l, x ≤ l.foldl max a) ∧ (l.foldl max a = a ∨ l.foldl max a ∈ l)
  | [], a => ⟨Int.le_refl _, (by simp), .inl rfl⟩
  | b :: l, a => by
    obtain ⟨h1, h2, h3⟩ := foldl_max_ge l (max a b)
    rw [List.foldl_cons]
    refine ⟨by omega, fun x hx => ?_, ?_⟩
    · rcases List.mem_cons.mp hx with rfl | hx
      · omega
      · exact h2 x hx
    · rcases h3 with h3 | h3
      · rcases Int.le_total a b with h | h
        · right; rw [h3, Int.max_eq_right h]; exact .head _
        · left; rw [h3]; exact Int.max_eq_left h
      · right; exact .tail _ h3
theorem max_of {l : List Int} (h0 : 0 ∈ l) {m : Int} (hm : m ∈ l) (hx : ∀ x ∈ l, x ≤ m) : m = maxF l := by
  obtain ⟨h1, h2, h3⟩ := foldl_max_ge l 0
  have := h2 m hm
  unfold maxF
  rcases h3 with h3 | h3
  · have := hx 0 h0; omega
  · have := hx _ h3; omega
theorem htF_zero (ms : List Int) : 0 ∈ htF ms := by
  have : ∀ (l : List Int) (s : List Int × Int), (0 ∈ s.1 ∨ s.2 = 0) → 0 ∈ (l.foldl htStep s).1 ++ [(l.foldl htStep s).2] := by
    intro l
    induction l with
    | nil =>
      intro s h
      rcases h with h | h
      · simp [h]
      · simp [h]
    | cons b l ih =>
      intro s h
      rw [List.foldl_cons]
      refine ih _ (.inl ?_)
      rcases h with h | h
      · simp [htStep, h]
      · simp [htStep, h]
  exact this ms ([], 0) (.inr rfl)
noncomputable def ordRow (hs : List Int) (n : Nat) (h : Int) : List Int := (((List.range n).filter fun k => hs.getD k 0 == h).map fun k : Nat => (k : Int)).reverse
noncomputable def orderF (ms : List Int) : List Int := (List.range (maxF (htF ms)).toNat.succ).foldl (fun s h => s ++ ordRow (htF ms) ms.length (h : Nat)) []
theorem rItems_filterMap (n : Nat) (p : Nat → Bool) (gf : V → Option V) (h : ∀ k : Nat, k < n → gf (.int (0 + (k : Int) * 1)) = if p k then some (.int k) else none) : (rItems 0 n 1).filterMap gf = (((List.range n).filter p).map fun k : Nat => (k : Int)).map V.int := by
  unfold rItems
  rw [List.filterMap_map, List.map_map]
  have : ∀ l : List Nat, (∀ k ∈ l, k < n) → l.filterMap (gf ∘ fun i : Nat => V.int (0 + (i : Int) * 1)) = (l.filter p).map (V.int ∘ fun k : Nat => (k : Int)) := by
    intro l
    induction l with
    | nil => intro _; rfl
    | cons a l ih =>
      intro hl
      have h1 := h a (hl a (.head _))
      have h2 := ih fun k hk => hl k (.tail _ hk)
      rw [List.filterMap_cons]
      rw [Function.comp_apply, h1, h2, List.filter_cons]
      cases p a <;> simp
  exact this _ fun k hk => List.mem_range.mp hk
section
variable {c : Fc} {f cd a fh ch : Addr} {ns : List Int} {hp : Hp} {loc : Loc} {Q : V → St → Prop}
theorem ca_order (F : Fn c.g "_law_order" 11 f cd) (FH : Fn c.g "_law_heights" 9 fh ch) (hr : 2 ≤ c.room) (h1 : nsIn c.g.K mainGlobals "len" = some none) (h2 : nsIn c.g.K mainGlobals "range" = some none) (h3 : nsIn c.g.K mainGlobals "max" = some none) (hm : RL hp a (ns.map V.int)) (hz : ns.length ≤ 1000)
    (hM : 0 ≤ maxF (htF ns)) (hM' : maxF (htF ns) ≤ 1000) (q : ∀ D, Q (.ref D) ⟨loc, (D, .list ((orderF ns).map V.int)) :: hp⟩) : CA c (.ref f) [.ref a] [] [] ⟨loc, hp⟩ Q := by
  obtain ⟨_, oc, od, osl, doc, pm, an, ct, hK, hcd⟩ := F
  refine CA.wk ?_
  refine ca_def (ab := [("marks", .ref a)]) hK hcd (by omega) (bn_eq fun vs r => ?_) (fun L g A => bi_locals ?_ fun A' _ => ?_) (by kernel_rfl) (by kernel_rfl) (by kernel_rfl)
  · obtain ⟨v0, rfl, r0⟩ := all2_1 r
    exact ⟨[("marks", v0)], by kernel_rfl, .cons ⟨rfl, r0⟩ .nil⟩
  · intro y hy
    simp only [List.mem_cons, List.not_mem_nil, or_false] at hy
    rcases hy with rfl <;> kernel_rfl
  have hn := FH.1
  show EX (FcX c.g A' "_law_order" (fdS PB 11) L f (.ref cd) (cellsFrom (L + 1) (fdS PB 11).names []) g c.s₀ (c.room - 1)) (fdB PB 11) ⟨[("marks", .ref a)], (L + 1 + 1, .cell none) :: (L + 1, .cell none) :: hp⟩ _
  conv => arg 2; whnf
  walk_at "ms"
  refine ⟨FH.keeper, ca_heights (c := FcX c.g A' "_law_order" (fdS PB 11) L f (.ref cd) (cellsFrom (L + 1) (fdS PB 11).names []) g c.s₀ (c.room - 1)) FH (by show 0 < c.room - 1; omega) (.there (.there hm)) (by omega) fun H => ?_⟩
  walk_at "m"
  refine ⟨by decide, fun O => ?_⟩
  walk_at "m"
  walk_at "for"
  walk_at "ms"
  refine ⟨trivial, ca_bi (ca_max (ns := htF ns) (by walk_at "rl") (by intro e; have := htF_len ns; rw [e] at this; cases this) fun M hM1 hM2 => ?_)⟩
  have eM := max_of (htF_zero ns) hM1 hM2
  subst eM
  walk_at "ms"
  refine ⟨trivial, ca_ty (ca_range1 fun R => it_range (n := (maxF (htF ns)).toNat.succ) (small_of (by decide) (by decide) (by omega) (by omega) (by decide) (by decide)) (by rw [size_step1]; omega) ?_)⟩
  refine FOR.foldE (fun (e : Option V) (s : List Int) => ⟨[("order", .ref O), ("marks", .ref a)], (O, .list (s.map V.int)) :: (H, .list ((htF ns).map V.int)) :: (L + 1 + 1, .cell e) :: (L + 1, .cell (some (.ref H))) :: hp⟩) (fun s v => s ++ ordRow (htF ns) ns.length (vnat v : Nat)) [] none (fun i s => s.length ≤ 1000 * i)
    ⟨by walk_at "loc", .refl _⟩ (by simp) (fun _ _ => trivial) ?_ ?_
  · intro i v e s hv hj
    obtain ⟨hi, rfl⟩ := rItems_get hv
    have e2 : vnat (V.int (0 + (i : Int) * 1)) = i := by show (0 + (i : Int) * 1).toNat = i; omega
    walk_at "ms"
    walk_at "comp"
    walk_at "ms"
    refine ⟨trivial, ca_bi (len_listR (vs := ns.map V.int) (by walk_at "rl") (by simp; omega) ?_)⟩
    walk_at "ms"
    rw [List.length_map]
    refine ⟨trivial, ca_ty (ca_range1 fun R2 => it_range (n := ns.length) (rangeN (by omega)) sizeN ?_)⟩
    have hH := htF_len ns
    refine COMPG.fm (ε := Unit) (fun _ _ => (O, .list (s.map V.int)) :: (H, .list ((htF ns).map V.int)) :: (L + 1 + 1, .cell (some (.int (0 + (i : Int) * 1)))) :: (L + 1, .cell (some (.ref H))) :: hp)
      (fun v => if ((htF ns).getD (vnat v) 0 == (0 + (i : Int) * 1)) then some (.int (vnat v)) else none) () (by rw [rItems_length]; omega) (fun _ => Sub.refl _) (fun _ _ => trivial) ?_ ?_
    · intro L2 g2 k v loc2 _ hv2
      obtain ⟨hk, rfl⟩ := rItems_get hv2
      have e4 : (0 + (k : Int) * 1).toNat = k := by omega
      have e5 : vnat (V.int (0 + (k : Int) * 1)) = k := e4
      have e6 : (0 + (k : Int) * 1) = (k : Int) := by omega
      walk_at "ms"
      refine sb_listI (v := .int ((htF ns).getD k 0)) (by walk_at "rl") (by omega) (by rw [e4]; exact gi (by omega)) (by omega) ?_
      walk_at "ms"
      refine CN.by (fun e => ?_) (fun e => ?_)
      · walk_at "ms"
        rw [e5, if_pos e, e6]
        exact ⟨rfl, (), .refl _⟩
      · rw [e5, if_neg (by rw [e]; decide)]
        exact ⟨rfl, (), .refl _⟩
    · intro L2 _ D
      have eI : (rItems 0 ns.length 1).filterMap (fun v => if ((htF ns).getD (vnat v) 0 == (0 + (i : Int) * 1)) then some (V.int (vnat v)) else none) = (((List.range ns.length).filter fun k => (htF ns).getD k 0 == (i : Int)).map fun k : Nat => (k : Int)).map V.int := by
        refine rItems_filterMap _ _ _ fun k hk => ?_
        have e5 : vnat (V.int (0 + (k : Int) * 1)) = k := by show (0 + (k : Int) * 1).toNat = k; omega
        have e6 : (0 + (i : Int) * 1) = (i : Int) := by omega
        rw [e5, e6]
      rw [eI]
      have hr : (((List.range ns.length).filter fun k => (htF ns).getD k 0 == (i : Int)).map fun k : Nat => (k : Int)).length ≤ 1000 := by
        rw [List.length_map]
        exact Nat.le_trans (List.length_filter_le _ _) (by simpa using hz)
      walk_at "ms"
      intro sl
      refine sb_listRev (by walk_at "rl") (by rw [List.length_map]; omega) fun D2 => ?_
      rw [← List.map_reverse]
      refine io_addL (.there (.there .here)) (ws := (ordRow (htF ns) ns.length (i : Int)).map V.int) .here (by unfold ordRow; simp only [List.length_map, List.length_reverse] at hr ⊢; omega) ?_
      walk_at "m"
      refine tu_next ⟨[("order", .ref O), ("marks", .ref a)], (O, .list ((s ++ ordRow (htF ns) ns.length (i : Int)).map V.int)) :: (H, .list ((htF ns).map V.int)) :: (L + 1 + 1, .cell (some (.int (0 + (i : Int) * 1)))) :: (L + 1, .cell (some (.ref H))) :: hp⟩ ⟨by walk_at "loc", ?_⟩ ⟨?_, some (.int (0 + (i : Int) * 1)), ?_⟩
      · rw [List.map_append]; exact .drop (.drop (.refl _))
      · rw [e2]
        simp only [List.length_append]
        unfold ordRow
        rw [List.length_reverse]
        omega
      · rw [e2]
  · intro e hj
    have e5 : (rItems 0 (maxF (htF ns)).toNat.succ 1).foldl (fun s v => s ++ ordRow (htF ns) ns.length (vnat v : Nat)) [] = orderF ns := by
      refine rItems_foldl _ _ _ _ _ (fun s j => ?_) _
      have e2 : vnat (V.int (0 + (j : Int) * 1)) = j := by show (0 + (j : Int) * 1).toNat = j; omega
      simp only [e2]
    rw [e5]
    walk_at "m"
    exact ⟨⟨loc, (O, .list ((orderF ns).map V.int)) :: hp⟩, ⟨.refl _, by walk_at "sub"⟩, q O⟩
end

/-! ## _law_swept_from_the_end -/
noncomputable def swStepR (row : List (List Nat)) (x : List Nat) : List (List Nat) :=
  let j := bsr (fun i => !(decide (bkey x < bkey (row.getD i [])))) 1 (row.length - 1)
  row.take j ++ x :: row.drop j
noncomputable def sweptRF (l : List Nat) (nb : Nat) : List (List Nat) := (List.range nb).foldl (fun row b => swStepR row (slc l (some (2 * b : Nat)) (some (2 * b + 2 : Nat)))) [[255, 2], [0, 2]]
noncomputable def qSe : Str := (("_law_swept_from_the_end" : Str) ++ ".<locals>.") ++ "<lambda>"
theorem bswI_lt {l : List Nat} (hl : ∀ x ∈ l, x < 256) (w i : Nat) : ∀ s : List Nat, (∀ x ∈ s, x < 256) → ∀ x ∈ bswI l w i s, x < 256 := by
  unfold bswI
  generalize List.range w = r
  induction r with
  | nil => intro s h; exact h
  | cons j r ih =>
    intro s h
    rw [List.foldl_cons]
    refine ih _ fun x hx => ?_
    rcases List.mem_or_eq_of_mem_set hx with hx | rfl
    · exact h x hx
    · rw [List.getD_eq_getElem?_getD]
      cases q : l[i + j]? with
      | none => simp
      | some y => exact hl y (List.mem_of_getElem? q)
theorem bswF_lt {l : List Nat} (hl : ∀ x ∈ l, x < 256) (w nb : Nat) : ∀ x ∈ bswF l w nb, x < 256 := by
  unfold bswF
  have : ∀ (r : List Nat) (s : List Nat), (∀ x ∈ s, x < 256) → ∀ x ∈ r.foldl (fun s b => bswI l w (b * w) s) s, x < 256 := by
    intro r
    induction r with
    | nil => intro s h; exact h
    | cons j r ih => intro s h; rw [List.foldl_cons]; exact ih _ (bswI_lt hl _ _ _ h)
  refine this _ _ fun x hx => ?_
  rw [List.mem_replicate] at hx
  omega
section
variable {c : Fc} {f cd fi fb fw cw P : Addr} {l : List Nat} {nb : Nat} {t : Option Addr} {hp : Hp} {loc : Loc} {Q : V → St → Prop}
theorem ca_sweptE (F : Fn c.g "_law_swept_from_the_end" 13 f cd) (FI : FnB c.g "insort_right" 1 fi) (FB : FnB c.g "bisect_right" 2 fb) (hr : 6 ≤ c.room) (h1 : nsIn c.g.K mainGlobals "len" = some none) (h2 : nsIn c.g.K mainGlobals "range" = some none) (h3 : nsIn c.g.K mainGlobals "bytes" = some none)
    (h4 : nsIn c.g.K mainGlobals "bytearray" = some none) (h5 : nsIn c.g.K mainGlobals "isinstance" = some none) (FW : Fn c.g "_byteswap" 6 fw cw) (hP : codeHdIn c.g.K cd P = true) (hlen : l.length = 2 * nb) (hz : l.length ≤ 1000) (h0 : 0 < nb) (hlt : ∀ x ∈ l, x < 256)
    (q : ∀ D t', Q (.ref D) ⟨loc, (D, .list ((sweptRF (bswF (bswF l l.length 1) 2 nb) nb).map V.bytes)) :: (TB P ⟨99, 67, 99, 87⟩ qSe t' ++ hp)⟩) : CA c (.ref f) [.bytes l] [] [] ⟨loc, TB P ⟨99, 67, 99, 87⟩ qSe t ++ hp⟩ Q := by
  obtain ⟨_, oc, od, osl, doc, pm, an, ct, hK, hcd⟩ := F
  refine CA.wk ?_
  refine ca_def (ab := [("text", .bytes l)]) hK hcd (by omega) (bn_eq fun vs r => ?_) (fun L g A => bi_locals ?_ fun A' _ => ?_) (by kernel_rfl) (by kernel_rfl) (by kernel_rfl)
  · obtain ⟨v0, rfl, r0⟩ := all2_1 r
    exact ⟨[("text", v0)], by kernel_rfl, .cons ⟨rfl, r0⟩ .nil⟩
  · intro y hy
    simp only [List.mem_cons, List.not_mem_nil, or_false] at hy
    rcases hy with rfl <;> kernel_rfl
  have hn := FI.1
  have hnw := FW.1
  show EX (FcX c.g A' "_law_swept_from_the_end" (fdS PB 13) L f (.ref cd) [] g c.s₀ (c.room - 1)) (fdB PB 13) ⟨[("text", .bytes l)], TB P ⟨99, 67, 99, 87⟩ qSe t ++ hp⟩ _
  conv => arg 2; whnf
  walk_at "ms"
  refine ⟨trivial, ca_bi (len_bytes' (by omega) ?_)⟩
  walk_at "ms"
  refine ⟨FW.keeper, ca_swap (c := FcX c.g A' "_law_swept_from_the_end" (fdS PB 13) L f (.ref cd) [] g c.s₀ (c.room - 1)) (w := l.length) (nb := 1) FW (by show 0 < c.room - 1; omega) h1 h2 h4 h3 (by omega) (by omega) (by omega) (by omega) hlt ?_⟩
  walk_at "ms"
  have hl1 := bswF_len l l.length 1
  have hlt1 := bswF_lt hlt l.length 1
  generalize bswF l l.length 1 = l1 at q hl1 hlt1 ⊢
  refine ⟨FW.keeper, ca_swap (c := FcX c.g A' "_law_swept_from_the_end" (fdS PB 13) L f (.ref cd) [] g c.s₀ (c.room - 1)) (w := 2) (nb := nb) FW (by show 0 < c.room - 1; omega) h1 h2 h4 h3 (by omega) (by omega) (by omega) (by omega) hlt1 ?_⟩
  walk_at "m"
  have hl2 := bswF_len l1 2 nb
  have hlt2 := bswF_lt hlt1 2 nb
  generalize bswF l1 2 nb = l2 at q hl2 hlt2 ⊢
  rw [hl1] at hl2
  refine ⟨by decide, fun B1 => ?_⟩
  walk_at "ms"
  refine ⟨trivial, ca_ty (ca_bytesL (ns := [255, 2]) .here (by decide) (by decide) ?_)⟩
  walk_at "ms"
  refine ⟨by decide, fun B2 => ?_⟩
  walk_at "ms"
  refine ⟨trivial, ca_ty (ca_bytesL (ns := [0, 2]) .here (by decide) (by decide) ?_)⟩
  walk_at "ms"
  refine ⟨by decide, fun R => ?_⟩
  walk_at "m"
  walk_at "for"
  walk_at "ms"
  refine ⟨trivial, ca_bi (len_bytes' (by omega) ?_)⟩
  walk_at "ms"
  refine ⟨trivial, ca_ty (ca_range3 (by decide) (noPylong (by decide)) fun Rg => it_range (small_of (by decide) (by decide) (by omega) (by omega) (by decide) (by decide)) (n := nb) (by have := size_blocks (w := 2) (nb := nb) (by decide); rw [hl2, hlen]; exact this) ?_)⟩
  refine FOR.foldE (fun (t : Option Addr) (s : List (List Nat)) => ⟨[("row", .ref R), ("turned", .bytes l2)], (R, .list (s.map V.bytes)) :: (TB P ⟨99, 67, 99, 87⟩ qSe t ++ hp)⟩) (fun s v => swStepR s (slc l2 (some (vnat v : Nat)) (some (vnat v + 2 : Nat)))) [[255, 2], [0, 2]] t (fun i s => s.length = i + 2 ∧ ∀ b ∈ s, b.length = 2)
    ⟨by walk_at "loc", by walk_at "sub"⟩ ⟨rfl, by decide⟩ (fun _ _ => trivial) ?_ ?_
  · rintro i v t s hv ⟨hj1, hj2⟩
    obtain ⟨hi, rfl⟩ := rItems_get hv
    walk_at "ms"
    intro sl
    refine sb_bytesS (.int _) (.int _) (by omega) ?_
    have e2 : vnat (V.int (0 + (i : Int) * 2)) = 2 * i := by show (0 + (i : Int) * 2).toNat = 2 * i; omega
    have ex : slc l2 (some (0 + (i : Int) * 2)) (some (0 + (i : Int) * 2 + 2)) = slc l2 (some ((2 * i : Nat) : Int)) (some ((2 * i + 2 : Nat) : Int)) := by
      congr 2 <;> omega
    rw [ex, e2]
    have hx : (slc l2 (some ((2 * i : Nat) : Int)) (some ((2 * i + 2 : Nat) : Int))).length = 2 := by
      rw [slc_two (by omega) (by omega)]
      simp
      omega
    generalize slc l2 (some ((2 * i : Nat) : Int)) (some ((2 * i + 2 : Nat) : Int)) = x at hx ⊢
    walk_at "ms"
    refine ⟨trivial, ca_bi (len_listR (vs := s.map V.bytes) .here (by simp; omega) ?_)⟩
    walk_at "ms"
    refine ev_lam (pre := [(R, .list (s.map V.bytes))]) (post := hp) (t := t) (P := P) rfl hP rfl rfl fun lf c' => ?_
    walk_at "ms"
    have hx1 : 0 < x.length := by omega
    refine ⟨FI.keeper, ca_insR1 (c := FcX c.g A' "_law_swept_from_the_end" (fdS PB 13) L f (.ref cd) [] g c.s₀ (c.room - 1)) (m := 1) (vs := s.map V.bytes) (ws := s.map fun b => V.int (bkey b)) (kx := .int (bkey x)) (lo := 1) (hi := s.length - 1) (p := fun i => !(decide (bkey x < bkey (s.getD i [])))) FI FB h1 (fun _ _ _ _ _ _ _ _ h => bn41 (by decide) h) (.there .here) (by simp; omega) (by omega) (by simp) (.inl ?_) ?_ ?_ (by simp) (by show 3 ≤ c.room - 1; omega) (by omega) ?_ ?_⟩
    · rw [List.length_map]; congr 1; omega
    · intro c2 hg hroom loc' j v Qc hv hq
      rw [List.getElem?_map] at hv
      obtain ⟨b, hb, rfl⟩ := Option.map_eq_some_iff.mp hv
      have hbl := hj2 b (List.mem_of_getElem? hb)
      exact key_first (.head _) (.tail _ (.tail _ (.tail _ (.head _)))) (fun _ _ _ => rfl) rfl rfl rfl rfl hroom (by omega) (by omega) (hq _ (by rw [List.getElem?_map, hb]; rfl))
    · intro c2 hg hroom loc' Qc hq
      exact key_first (.head _) (.tail _ (.tail _ (.tail _ (.head _)))) (fun _ _ _ => rfl) rfl rfl rfl rfl hroom (by omega) (by omega) hq
    · intro c2 hg loc' j v Qc hv hq
      rw [List.getElem?_map] at hv
      obtain ⟨b, hb, rfl⟩ := Option.map_eq_some_iff.mp hv
      refine co_lt ?_
      have e : decide ((bkey x : Int) < (bkey b : Int)) = !(!(decide (bkey x < bkey (s.getD j [])))) := by
        rw [List.getD_eq_getElem?_getD, hb]
        simp
      rw [e]; exact hq
    · walk_at "ms"
      refine co_isNotNone (fun n e => by cases e) ?_
      walk_at "ms"
      refine CN.f rfl ?_
      walk_at "ms"
      with_reducible refine eb_plain ?_ rfl
      walk_at "ms"
      refine ⟨trivial, ca_bi (ca_isBytes ?_)⟩
      walk_at "ms"
      refine CN.f rfl ?_
      walk_at "m"
      refine tu_next ⟨[("row", .ref R), ("turned", .bytes l2)], (R, .list ((swStepR s x).map V.bytes)) :: (TB P ⟨99, 67, 99, 87⟩ qSe (some c') ++ hp)⟩ ⟨by walk_at "loc", ?_⟩ ⟨⟨?_, ?_⟩, some c', rfl⟩
      · have e : (swStepR s x).map V.bytes = (s.map V.bytes).take (bsr (fun i => !(decide (bkey x < bkey (s.getD i [])))) 1 (s.length - 1)) ++ V.bytes x :: (s.map V.bytes).drop (bsr (fun i => !(decide (bkey x < bkey (s.getD i [])))) 1 (s.length - 1)) := by
          simp [swStepR, List.map_take, List.map_drop]
        rw [e]
        exact .drop (.refl _)
      · simp [swStepR]; omega
      · intro b hb
        unfold swStepR at hb
        rcases List.mem_append.mp hb with h | h
        · exact hj2 b (List.mem_of_mem_take h)
        · rcases List.mem_cons.mp h with rfl | h
          · exact hx
          · exact hj2 b (List.mem_of_mem_drop h)
  · intro t' hj
    have e5 : (rItems 0 nb 2).foldl (fun s v => swStepR s (slc l2 (some (vnat v : Nat)) (some (vnat v + 2 : Nat)))) [[255, 2], [0, 2]] = sweptRF l2 nb := by
      refine rItems_foldl _ _ _ _ _ (fun s j => ?_) _
      have e2 : vnat (V.int (0 + (j : Int) * 2)) = 2 * j := by show (0 + (j : Int) * 2).toNat = 2 * j; omega
      simp only [e2]
    rw [e5]
    walk_at "m"
    exact ⟨_, .refl _, q R t'⟩
end

/-! ## _law_bare -/
noncomputable def ents (h : Nat → List V) : Nat → List Addr → Hp
  | _, [] => []
  | k, D :: r => (D, .list (h k)) :: ents h (k + 1) r
theorem ents_snoc (h : Nat → List V) (D : Addr) : ∀ (k : Nat) (Ds : List Addr), ents h k (Ds ++ [D]) = ents h k Ds ++ [(D, .list (h (k + Ds.length)))]
  | k, [] => rfl
  | k, E :: r => by
    rw [List.cons_append, ents, ents_snoc h D (k + 1) r, ents, List.cons_append, List.length_cons, show k + 1 + r.length = k + (r.length + 1) by omega]
theorem ents_mem (h : Nat → List V) : ∀ (k : Nat) (Ds : List Addr) (i : Nat) (D : Addr), Ds[i]? = some D → (D, AObj.list (h (k + i))) ∈ ents h k Ds
  | k, [], i, D, e => by simp at e
  | k, E :: r, 0, D, e => by simp at e; subst e; exact .head _
  | k, E :: r, i + 1, D, e => by
    have := ents_mem h (k + 1) r i D (by simpa using e)
    rw [show k + 1 + i = k + (i + 1) by omega] at this
    exact .tail _ this
theorem ents_congr {h h' : Nat → List V} : ∀ (k : Nat) (Ds : List Addr), (∀ j, k ≤ j → j < k + Ds.length → h j = h' j) → ents h k Ds = ents h' k Ds
  | k, [], _ => rfl
  | k, E :: r, e => by
    rw [ents, ents, e k (Nat.le_refl _) (by simp), ents_congr (k + 1) r fun j h1 h2 => e j (by omega) (by rw [List.length_cons]; omega)]
theorem ents_upd {h h' : Nat → List V} {r : Hp} : ∀ (k : Nat) (Ds : List Addr) (i : Nat) (D : Addr), Ds[i]? = some D → (∀ j, j ≠ k + i → h j = h' j) → Upd (ents h k Ds ++ r) D (.list (h (k + i))) (.list (h' (k + i))) (ents h' k Ds ++ r)
  | k, [], i, D, e, _ => by simp at e
  | k, E :: t, 0, D, e, hh => by
    simp at e; subst e
    rw [ents, ents, ents_congr (h := h) (h' := h') (k + 1) t fun j h1 h2 => hh j (by omega)]
    exact .here
  | k, E :: t, i + 1, D, e, hh => by
    have := ents_upd (h := h) (h' := h') (r := r) (k + 1) t i D (by simpa using e) fun j hj => hh j (by omega)
    rw [show k + 1 + i = k + (i + 1) by omega] at this
    rw [ents, ents, hh k (by omega)]
    exact .there this
mutual
theorem RD.mono {hp hp' : Hp} (m : ∀ a vs, RL hp a vs → RL hp' a vs) : ∀ {v : V} {d : PyData}, RD hp v d → RD hp' v d
  | _, _, .int i => .int i
  | _, _, .list h hs => .list (m _ _ h) (RDs.mono m hs)
theorem RDs.mono {hp hp' : Hp} (m : ∀ a vs, RL hp a vs → RL hp' a vs) : ∀ {vs : List V} {ds : List PyData}, RDs hp vs ds → RDs hp' vs ds
  | _, _, .nil => .nil
  | _, _, .cons h hs => .cons (RD.mono m h) (RDs.mono m hs)
end
theorem RDs.of {α : Type} {hp : Hp} (f : α → V) (g : α → PyData) : ∀ l : List α, (∀ a ∈ l, RD hp (f a) (g a)) → RDs hp (l.map f) (l.map g)
  | [], _ => .nil
  | a :: r, h => .cons (h a (.head _)) (RDs.of f g r fun b hb => h b (.tail _ hb))
theorem foldl_const {α β σ : Type} (g : σ → σ) : ∀ (l : List α) (m : List β) (s : σ), l.length = m.length → l.foldl (fun s _ => g s) s = m.foldl (fun s _ => g s) s
  | [], [], s, _ => rfl
  | a :: l, b :: m, s, h => by rw [List.foldl_cons, List.foldl_cons]; exact foldl_const g l m _ (by simpa using h)
theorem tu_f {st e : St} {P : Prop} {i : Nat} {Q : AFlow → St → Prop} (k : WK st e) (j : P) : TU (fun _ st => P ∧ st = e) i Q .next st := ⟨e, k, j, rfl⟩
noncomputable def hOf (hs : List Int) (n : Nat) (e1 e2 : Int) (k : Nat) : Int := if k < n then hs.getD k 0 else if k = n then e1 else e2
noncomputable def bareStep (hs : List Int) (n : Nat) (s : List Nat) : List Nat :=
  let j := bsr (fun i => decide (hOf hs n 255 (-1) (s.getD i 0) < hs.getD (s.length - 2) 0)) 1 (s.length - 1)
  s.take j ++ (s.length - 2) :: s.drop j
noncomputable def bareI (hs : List Int) (n : Nat) : List Nat := (List.range n).foldl (fun s _ => bareStep hs n s) [n, n + 1]
noncomputable def bareD (hs : List Int) (n : Nat) (e1 e2 : Int) (k : Nat) : List Int := if k < n then [hs.getD k 0, k] else if k = n then [e1] else [e2]
section
variable {c : Fc} {f cd a fh ch fi fb : Addr} {ns : List Int} {hp : Hp} {loc : Loc} {Q : V → St → Prop}
theorem ca_bare (F : Fn c.g "_law_bare" 14 f cd) (FH : Fn c.g "_law_heights" 9 fh ch) (FI : FnB c.g "insort_left" 3 fi) (FB : FnB c.g "bisect_left" 4 fb) (hr : 5 ≤ c.room) (h1 : nsIn c.g.K mainGlobals "len" = some none) (h2 : nsIn c.g.K mainGlobals "range" = some none) (hm : RL hp a (ns.map V.int)) (hz : ns.length ≤ 1000)
    (q : ∀ R E vs, RDs E vs ((bareI (htF ns) ns.length).map fun k => dInts (bareD (htF ns) ns.length 255 (-1) k)) → Q (.ref R) ⟨loc, (R, .list vs) :: (E ++ hp)⟩) : CA c (.ref f) [.ref a] [] [] ⟨loc, hp⟩ Q := by
  obtain ⟨_, oc, od, osl, doc, pm, an, ct, hK, hcd⟩ := F
  refine CA.wk ?_
  refine ca_def (ab := [("marks", .ref a)]) hK hcd (by omega) (bn_eq fun vs r => ?_) (fun L g A => bi_locals ?_ fun A' _ => ?_) (by kernel_rfl) (by kernel_rfl) (by kernel_rfl)
  · obtain ⟨v0, rfl, r0⟩ := all2_1 r
    exact ⟨[("marks", v0)], by kernel_rfl, .cons ⟨rfl, r0⟩ .nil⟩
  · intro y hy
    simp only [List.mem_cons, List.not_mem_nil, or_false] at hy
    rcases hy with rfl <;> kernel_rfl
  have hn := FH.1
  have hni := FI.1
  show EX (FcX c.g A' "_law_bare" (fdS PB 14) L f (.ref cd) (cellsFrom (L + 1) (fdS PB 14).names []) g c.s₀ (c.room - 1)) (fdB PB 14) ⟨[("marks", .ref a)], (L + 1, .cell none) :: hp⟩ _
  conv => arg 2; whnf
  walk_at "ms"
  refine ⟨FH.keeper, ca_heights (c := FcX c.g A' "_law_bare" (fdS PB 14) L f (.ref cd) (cellsFrom (L + 1) (fdS PB 14).names []) g c.s₀ (c.room - 1)) FH (by show 0 < c.room - 1; omega) (.there hm) (by omega) fun H => ?_⟩
  have hH := htF_len ns
  generalize htF ns = hs at q hH ⊢
  walk_at "ms"
  refine nx_next (x_cons ?_)
  walk_at "scomp"
  walk_at "ms"
  refine ⟨trivial, ca_bi (len_listR (vs := ns.map V.int) (by walk_at "rl") (by simp; omega) ?_)⟩
  walk_at "ms"
  rw [List.length_map]
  refine ⟨trivial, ca_ty (ca_range1 fun R2 => it_range (n := ns.length) (rangeN (by omega)) sizeN ?_)⟩
  generalize ns.length = n at hH hz q ⊢
  refine ⟨fun L2 i ys hp' => ∃ Ds : List Addr, Ds.length = i ∧ ys = Ds.map V.ref ∧ hp' = (H, .list (hs.map V.int)) :: (L + 1, .cell (some (.ref H))) :: (ents (fun k => [.int (hs.getD k 0)]) 0 Ds ++ hp), by rw [rItems_length]; omega, fun L2 => ⟨_, Sub.refl _, [], rfl, rfl, rfl⟩, fun _ _ _ _ _ => trivial, ?_, ?_⟩
  · rintro L2 g2 k v _ loc2 _ hv2 ⟨Ds, rfl, rfl, rfl⟩
    obtain ⟨hk, rfl⟩ := rItems_get hv2
    have e4 : (0 + (Ds.length : Int) * 1).toNat = Ds.length := by omega
    walk_at "ms"
    refine sb_listI (v := .int (hs.getD Ds.length 0)) (by walk_at "rl") (by omega) (by rw [e4]; exact gi (by omega)) (by omega) ?_
    walk_at "ms"
    refine ⟨by show 1 ≤ 16777216; decide, fun D => ?_⟩
    refine ⟨(H, .list (hs.map V.int)) :: (L + 1, .cell (some (.ref H))) :: (ents (fun k => [.int (hs.getD k 0)]) 0 Ds ++ (D, .list [.int (hs.getD Ds.length 0)]) :: hp), Sub.perm ((List.perm_middle (l₁ := (H, .list (hs.map V.int)) :: (L + 1, .cell (some (.ref H))) :: ents (fun k => [.int (hs.getD k 0)]) 0 Ds)).symm) (.refl _), Ds ++ [D], by simp, by simp, ?_⟩
    rw [ents_snoc, List.append_assoc, Nat.zero_add]; rfl
  · rintro L2 M _ _ ⟨Ds, hDl, rfl, rfl⟩
    rw [rItems_length] at hDl
    walk_at "ms"
    refine nx_next (x_cons ?_)
    walk_at "ms"
    refine ⟨by show 1 ≤ 16777216; decide, fun A1 => ?_⟩
    walk_at "ms"
    refine ⟨by show 1 ≤ 16777216; decide, fun A2 => ?_⟩
    walk_at "ms"
    refine ⟨by show 2 ≤ 16777216; decide, fun R => ?_⟩
    walk_at "m"
    walk_at "for"
    walk_at "ms"
    refine it_list (vs := Ds.map V.ref) (by walk_at "rl") ?_
    have hadr : ∀ r : Nat, r ≤ n + 1 → ∀ (x y : Hp), RL (x ++ (A2, .list [.int (-1)]) :: (A1, .list [.int 255]) :: (M, .list (Ds.map V.ref)) :: (H, .list (hs.map V.int)) :: (L + 1, .cell (some (.ref H))) :: (ents (fun k => [.int (hs.getD k 0)]) 0 Ds ++ y)) ((Ds ++ [A1, A2]).getD r 0) [.int (hOf hs n 255 (-1) r)] := by
      intro r hr x y
      refine .inl (List.mem_append_right _ ?_)
      rw [List.getD_eq_getElem?_getD]
      unfold hOf
      by_cases h3 : r < n
      · rw [if_pos h3, List.getElem?_append_left (by omega)]
        have e := List.getElem?_eq_getElem (l := Ds) (i := r) (by omega)
        rw [e]
        have := ents_mem (fun k => [.int (hs.getD k 0)]) 0 Ds r _ e
        rw [Nat.zero_add] at this
        exact .tail _ (.tail _ (.tail _ (.tail _ (.tail _ (List.mem_append_left _ this)))))
      · rw [if_neg h3, List.getElem?_append_right (by omega)]
        by_cases h4 : r = n
        · rw [if_pos h4, show r - Ds.length = 0 by omega]; exact .tail _ (.head _)
        · rw [if_neg h4, show r - Ds.length = 1 by omega]; exact .head _
    refine FOR.fold (fun s : List Nat => ⟨[("row", .ref R), ("made", .ref M)], (R, .list (s.map fun r => V.ref ((Ds ++ [A1, A2]).getD r 0))) :: (A2, .list [.int (-1)]) :: (A1, .list [.int 255]) :: (M, .list (Ds.map V.ref)) :: (H, .list (hs.map V.int)) :: (L + 1, .cell (some (.ref H))) :: (ents (fun k => [.int (hs.getD k 0)]) 0 Ds ++ hp)⟩)
      (fun s _ => bareStep hs n s) [n, n + 1] (fun i s => s.length = i + 2 ∧ ∀ r ∈ s, r ≤ n + 1) ⟨by walk_at "loc", ?_⟩ ⟨rfl, by simp⟩ (fun _ => by walk_at "rl") ?_ ?_
    · have e1 : (Ds ++ [A1, A2]).getD n 0 = A1 := by rw [List.getD_eq_getElem?_getD, List.getElem?_append_right (by omega), hDl, Nat.sub_self]; rfl
      have e2 : (Ds ++ [A1, A2]).getD (n + 1) 0 = A2 := by rw [List.getD_eq_getElem?_getD, List.getElem?_append_right (by omega), hDl, show n + 1 - n = 1 by omega]; rfl
      rw [List.map_cons, List.map_cons, e1, e2]
      exact .refl _
    · rintro i v s hv ⟨hj1, hj2⟩
      rw [List.getElem?_map] at hv
      obtain ⟨D, hD, rfl⟩ := Option.map_eq_some_iff.mp hv
      have hi : i < n := by
        rcases Nat.lt_or_ge i Ds.length with h | h
        · omega
        · rw [List.getElem?_eq_none h] at hD; cases hD
      have hDa : (Ds ++ [A1, A2]).getD i 0 = D := by rw [List.getD_eq_getElem?_getD, List.getElem?_append_left (by omega), hD]; rfl
      have hO : hOf hs n 255 (-1) i = hs.getD i 0 := by unfold hOf; rw [if_pos hi]
      have hDr : ∀ x y, RL (x ++ (A2, .list [.int (-1)]) :: (A1, .list [.int 255]) :: (M, .list (Ds.map V.ref)) :: (H, .list (hs.map V.int)) :: (L + 1, .cell (some (.ref H))) :: (ents (fun k => [.int (hs.getD k 0)]) 0 Ds ++ y)) D [.int (hs.getD i 0)] := fun x y => by
        have := hadr i (by omega) x y
        rw [hDa, hO] at this; exact this
      walk_at "ms"
      refine ⟨trivial, ca_bi (len_listR (vs := s.map fun r => V.ref ((Ds ++ [A1, A2]).getD r 0)) .here (by simp; omega) ?_)⟩
      walk_at "ms"
      refine ⟨FI.keeper, ca_insL0 (c := FcX c.g A' "_law_bare" (fdS PB 14) L f (.ref cd) (cellsFrom (L + 1) (fdS PB 14).names []) g c.s₀ (c.room - 1)) (vs := s.map fun r => V.ref ((Ds ++ [A1, A2]).getD r 0)) (lo := 1) (hi := s.length - 1) (p := fun i => decide (hOf hs n 255 (-1) (s.getD i 0) < hs.getD (s.length - 2) 0)) FI FB h1 (fun _ _ _ _ _ _ _ _ h => bn40 (by decide) h) .here (by simp; omega) (by omega) (by simp) (.inl ?_) (by show 2 ≤ c.room - 1; omega) ?_ ?_⟩
      · rw [List.length_map]; congr 1; omega
      · intro c2 hg loc' j v Qc hv hq
        rw [List.getElem?_map] at hv
        obtain ⟨r, hr2, rfl⟩ := Option.map_eq_some_iff.mp hv
        refine co_ltL1 (hadr r (hj2 r (List.mem_of_getElem? hr2)) [_] _) (hDr [_] _) ?_
        have e : decide (hOf hs n 255 (-1) r < hs.getD i 0) = decide (hOf hs n 255 (-1) (s.getD j 0) < hs.getD (s.length - 2) 0) := by
          rw [List.getD_eq_getElem?_getD (l := s), hr2, hj1, show i + 2 - 2 = i by omega]
          rfl
        rw [e]; exact hq
      · walk_at "ms"
        refine co_isNotNone (fun n e => by cases e) ?_
        walk_at "ms"
        refine CN.f rfl ?_
        walk_at "m"
        refine tu_next ⟨[("row", .ref R), ("made", .ref M)], (R, .list ((bareStep hs n s).map fun r => V.ref ((Ds ++ [A1, A2]).getD r 0))) :: (A2, .list [.int (-1)]) :: (A1, .list [.int 255]) :: (M, .list (Ds.map V.ref)) :: (H, .list (hs.map V.int)) :: (L + 1, .cell (some (.ref H))) :: (ents (fun k => [.int (hs.getD k 0)]) 0 Ds ++ hp)⟩ ⟨by walk_at "loc", ?_⟩ ⟨⟨?_, ?_⟩, rfl⟩
        · have e : ((bareStep hs n s).map fun r => V.ref ((Ds ++ [A1, A2]).getD r 0)) = (s.map fun r => V.ref ((Ds ++ [A1, A2]).getD r 0)).take (bsr (fun i => decide (hOf hs n 255 (-1) (s.getD i 0) < hs.getD (s.length - 2) 0)) 1 (s.length - 1)) ++ V.ref D :: (s.map fun r => V.ref ((Ds ++ [A1, A2]).getD r 0)).drop (bsr (fun i => decide (hOf hs n 255 (-1) (s.getD i 0) < hs.getD (s.length - 2) 0)) 1 (s.length - 1)) := by
            rw [← hDa]
            simp [bareStep, List.map_take, List.map_drop, hj1]
          rw [e]; exact .refl _
        · simp [bareStep]; omega
        · intro b hb
          unfold bareStep at hb
          rcases List.mem_append.mp hb with h | h
          · exact hj2 b (List.mem_of_mem_take h)
          · rcases List.mem_cons.mp h with rfl | h
            · omega
            · exact hj2 b (List.mem_of_mem_drop h)
    · intro hj
      have e5 : (Ds.map V.ref).foldl (fun s _ => bareStep hs n s) [n, n + 1] = bareI hs n := foldl_const _ _ _ _ (by simp [hDl])
      rw [e5] at hj ⊢
      obtain ⟨_, hj2⟩ := hj
      generalize bareI hs n = s at q hj2 ⊢
      walk_at "m"
      walk_at "for"
      walk_at "ms"
      refine ⟨trivial, ca_bi (len_listR (vs := Ds.map V.ref) (by walk_at "rl") (by simp; omega) ?_)⟩
      walk_at "ms"
      rw [List.length_map, hDl]
      refine ⟨trivial, ca_ty (ca_range1 fun R3 => it_range (n := n) (rangeN (by omega)) sizeN ?_)⟩
      refine FOR.fold (fun m : Nat => ⟨[("row", .ref R), ("made", .ref M)], (R, .list (s.map fun r => V.ref ((Ds ++ [A1, A2]).getD r 0))) :: (A2, .list [.int (-1)]) :: (A1, .list [.int 255]) :: (M, .list (Ds.map V.ref)) :: (ents (fun k => if k < m then [.int (hs.getD k 0), .int k] else [.int (hs.getD k 0)]) 0 Ds ++ hp)⟩)
        (fun m _ => m + 1) 0 (fun i m => m = i) ⟨by walk_at "loc", ?_⟩ rfl (fun _ => trivial) ?_ ?_
      · simp only [Nat.not_lt_zero, if_false]
        exact .keep (.keep (.keep (.keep (.drop (.drop (.refl _))))))
      · rintro i v m hv rfl
        obtain ⟨hi, rfl⟩ := rItems_get hv
        have e4 : (0 + (m : Int) * 1).toNat = m := by omega
        have e6 : (0 + (m : Int) * 1) = (m : Int) := by omega
        have hD := List.getElem?_eq_getElem (l := Ds) (i := m) (by omega)
        have u := ents_upd (h := fun k => if k < m then [.int (hs.getD k 0), .int k] else [.int (hs.getD k 0)]) (h' := fun k => if k < m + 1 then [.int (hs.getD k 0), .int k] else [.int (hs.getD k 0)]) (r := hp) 0 Ds m _ hD (fun j hj => by
          by_cases h : j < m
          · rw [if_pos h, if_pos (by omega)]
          · rw [if_neg h, if_neg (by omega)])
        rw [Nat.zero_add, if_neg (Nat.lt_irrefl m), if_pos (Nat.lt_succ_self m)] at u
        walk_at "ms"
        walk_at "app"
        walk_at "ms"
        refine sb_listI (v := .ref Ds[m]) (by walk_at "rl") (by omega) (by rw [e4, List.getElem?_map, hD]; rfl) (by omega) ?_
        refine ⟨Ds[m], [.int (hs.getD m 0)], rfl, .inl (.tail _ (.tail _ (.tail _ (.tail _ u.mem)))), ?_⟩
        walk_at "ms"
        rw [e6]
        refine ⟨_, .there (.there (.there (.there u))), by show 1 ≤ 16777216; decide, ?_⟩
        walk_at "m"
        exact tu_f ⟨by walk_at "loc", .refl _⟩ rfl
      · rw [rItems_length]
        intro hj3
        rw [hj3]
        walk_at "m"
        refine ⟨⟨loc, (R, .list (s.map fun r => V.ref ((Ds ++ [A1, A2]).getD r 0))) :: (((A2, .list [.int (-1)]) :: (A1, .list [.int 255]) :: ents (fun k => if k < n then [.int (hs.getD k 0), .int k] else [.int (hs.getD k 0)]) 0 Ds) ++ hp)⟩, ⟨.refl _, .keep (.keep (.keep (.drop (.refl _))))⟩, q _ _ _ ?_⟩
        refine RDs.of _ _ _ fun r hr => RD.ints (.inl ?_)
        have hr := hj2 r hr
        rw [List.getD_eq_getElem?_getD]
        unfold bareD
        by_cases h3 : r < n
        · rw [if_pos h3, List.getElem?_append_left (by omega)]
          have e := List.getElem?_eq_getElem (l := Ds) (i := r) (by omega)
          rw [e]
          have := ents_mem (fun k => if k < n then [.int (hs.getD k 0), .int k] else [.int (hs.getD k 0)]) 0 Ds r _ e
          rw [Nat.zero_add, if_pos h3] at this
          exact .tail _ (.tail _ this)
        · rw [if_neg h3, List.getElem?_append_right (by omega)]
          by_cases h4 : r = n
          · rw [if_pos h4, show r - Ds.length = 0 by omega]; exact .tail _ (.head _)
          · rw [if_neg h4, show r - Ds.length = 1 by omega]; exact .head _
end

/-! ## _law_back -/
theorem gi_listI {c : Fc} {st : St} {Q : V → St → Prop} {a : Addr} {vs : List V} {k : Int} {v : V} (hm : RL st.hp a vs) (h0 : 0 ≤ k) (hv : vs[k.toNat]? = some v) (hk : k < 2 ^ 63) (q : Q v st) : GI c (.ref a) (.int k) st Q := fun ov iv ro ri => by
  cases ro; cases ri
  refine TR.leaf fun φ s S => ?_
  obtain ⟨its, n, ho, H, hl⟩ := S.listR hm
  obtain ⟨x, hx, r⟩ := H.get hv
  exact wpAny_getItem_list (x := x) hl h0 hk (by simpa using hx) ⟨v, st, r, S, q⟩
noncomputable def ahStep (s : List Int × Int) (m : Int) : List Int × Int := (s.1 ++ [s.2], s.2 + 1 - m)
noncomputable def ahF (ms : List Int) : List Int := let s := ms.foldl ahStep ([], 0); s.1 ++ [s.2]
theorem ah_len : ∀ (ms : List Int) (s : List Int × Int), (ms.foldl ahStep s).1.length = s.1.length + ms.length
  | [], s => rfl
  | m :: r, s => by rw [List.foldl_cons, ah_len r]; simp [ahStep]; omega
theorem ahF_len (ms : List Int) : (ahF ms).length = ms.length + 1 := by
  unfold ahF
  simp [ah_len]
noncomputable def bkEnd (A : List Int) (start : Nat) : Nat := bsr (fun i => !decide ((start : Int) - A.getD start 0 < A.getD i 0)) start A.length
noncomputable def bkOk (A : List Int) (start : Nat) : Bool := decide (start + 1 < bkEnd A start) && (bsr (fun i => decide (A.getD i 0 < (start : Int) - A.getD start 0 + 1)) start A.length == bkEnd A start) && (bsr (fun i => !decide (-1 < A.getD i 0)) start A.length == start)
noncomputable def bkPart (ms : List Int) (start e : Nat) : List Nat := bswF (((ms.drop start).take (e - 1 - start)).map Int.toNat) (e - 1 - start) 1
noncomputable def partsF (ms A : List Int) : Nat → Nat → List (List Nat) → Option (List (List Nat))
  | 0, start, ps => if start < ms.length then none else some ps
  | f + 1, start, ps => if start < ms.length then (if bkOk A start = true then partsF ms A f (bkEnd A start - 1) (ps ++ [bkPart ms start (bkEnd A start)]) else none) else some ps
noncomputable def bkB (ps : List (List Nat)) (h : Int) (tk : List Nat) : Nat := (ps.getD h.toNat []).getD (tk.getD h.toNat 0) 0
noncomputable def walkF (ps : List (List Nat)) : Nat → List Int → Int → List Nat → Option (List Int)
  | 0, _, _, _ => none
  | f + 1, path, h, tk => if 0 ≤ h ∧ h < ps.length ∧ tk.getD h.toNat 0 < (ps.getD h.toNat []).length then
      walkF ps f (path ++ [((bkB ps h tk : Nat) : Int)]) (h + (2 * ((bkB ps h tk : Nat) : Int) - 1)) (tk.set h.toNat (tk.getD h.toNat 0 + 1)) else some path
noncomputable def backF (ms : List Int) : Option (List Int) := match partsF ms (ahF ms) 1000 0 [] with
  | some ps => walkF ps 1000 [] 0 (List.replicate ps.length 0)
  | none => none
theorem slc_map {α β : Type} (g : α → β) (l : List α) (lo hi : Option Int) : slc (l.map g) lo hi = (slc l lo hi).map g := by
  unfold slc
  rw [List.length_map, ← List.map_drop, ← List.map_take]
theorem ltR_ints (G : Gl) (x : Int) (As : List Int) (hp : Hp) : LtR G (.int x) (As.map V.int) (fun i => !decide (x < As.getD i 0)) hp := by
  intro c2 hg loc' j v Qc hv hq
  obtain ⟨w, hw, rfl⟩ := ints_get hv
  refine co_lt ?_
  simp only [List.getD_eq_getElem?_getD, hw, Bool.not_not] at hq
  exact hq
theorem ltL_ints (G : Gl) (x : Int) (As : List Int) (hp : Hp) : LtL G (.int x) (As.map V.int) (fun i => decide (As.getD i 0 < x)) hp := by
  intro c2 hg loc' j v Qc hv hq
  obtain ⟨w, hw, rfl⟩ := ints_get hv
  refine co_lt ?_
  simp only [List.getD_eq_getElem?_getD, hw] at hq
  exact hq
section
variable {c : Fc} {f cd a fl fr fw cw : Addr} {ns res : List Int} {hp : Hp} {loc : Loc} {Q : V → St → Prop}
theorem ca_back (F : Fn c.g "_law_back" 16 f cd) (FR : FnB c.g "bisect_right" 2 fr) (FL : FnB c.g "bisect_left" 4 fl) (FW : Fn c.g "_byteswap" 6 fw cw) (hr : 4 ≤ c.room) (h1 : nsIn c.g.K mainGlobals "len" = some none) (h2 : nsIn c.g.K mainGlobals "range" = some none) (h3 : nsIn c.g.K mainGlobals "bytes" = some none)
    (h4 : nsIn c.g.K mainGlobals "bytearray" = some none) (hm : RL hp a (ns.map V.int)) (hz : ns.length ≤ 500) (hin : ∀ n ∈ ns, 0 ≤ n ∧ n < 256) (hres : backF ns = some res) (q : ∀ D, Q (.ref D) ⟨loc, (D, .list (res.map V.int)) :: hp⟩) : CA c (.ref f) [.ref a] [] [] ⟨loc, hp⟩ Q := by
  obtain ⟨_, oc, od, osl, doc, pm, an, ct, hK, hcd⟩ := F
  refine CA.wk ?_
  refine ca_def (ab := [("marks", .ref a)]) hK hcd (by omega) (bn_eq fun vs r => ?_) (fun L g A => bi_locals ?_ fun A' _ => ?_) (by kernel_rfl) (by kernel_rfl) (by kernel_rfl)
  · obtain ⟨v0, rfl, r0⟩ := all2_1 r
    exact ⟨[("marks", v0)], by kernel_rfl, .cons ⟨rfl, r0⟩ .nil⟩
  · intro y hy
    simp only [List.mem_cons, List.not_mem_nil, or_false] at hy
    rcases hy with rfl <;> kernel_rfl
  have hnr := FR.1
  have hnl := FL.1
  have hnw := FW.1
  show EX (FcX c.g A' "_law_back" (fdS PB 16) L f (.ref cd) [] g c.s₀ (c.room - 1)) (fdB PB 16) ⟨[("marks", .ref a)], hp⟩ _
  conv => arg 2; whnf
  walk_at "ms"
  refine ⟨by decide, fun H => ?_⟩
  walk_at "m"
  walk_at "for"
  walk_at "ms"
  refine it_list (.there hm) ?_
  refine FOR.fold (fun s : List Int × Int => ⟨[("ahead", .ref H), ("marks", .ref a)], (H, .list (s.1.map V.int ++ [V.int s.2])) :: hp⟩) (fun s v => ahStep s (vint v)) ([], 0) (fun i s => s.1.length = i)
    ⟨by walk_at "loc", .refl _⟩ rfl (fun _ => .there hm) ?_ ?_
  · rintro i v ⟨m, ht⟩ hv hj
    obtain ⟨n, hn, rfl⟩ := ints_get hv
    have hi : i < ns.length := by
      rcases Nat.lt_or_ge i ns.length with h | h
      · exact h
      · rw [List.getElem?_eq_none h] at hn; cases hn
    dsimp only at hj
    walk_at "ms"
    walk_at "app"
    walk_at "ms"
    refine ⟨H, m.map V.int ++ [V.int ht], rfl, .here, ?_⟩
    walk_at "ms"
    refine sb_last .here ?_
    walk_at "ms"
    refine ⟨_, Upd.here, by simp; omega, ?_⟩
    walk_at "m"
    refine tu_next ⟨[("ahead", .ref H), ("marks", .ref a)], (H, .list ((m ++ [ht]).map V.int ++ [V.int (ht + 1 - n)])) :: hp⟩ ⟨by walk_at "loc", ?_⟩ ⟨?_, rfl⟩
    · rw [List.map_append]; exact .refl _
    · simp [ahStep, hj]
  intro hj
  rw [ints_foldl ahStep]
  have hD : (ns.foldl ahStep ([], 0)).1.map V.int ++ [V.int (ns.foldl ahStep ([], 0)).2] = (ahF ns).map V.int := by unfold ahF; rw [List.map_append]; rfl
  rw [hD]
  have hAl := ahF_len ns
  clear hD hj
  unfold backF at hres
  generalize ahF ns = As at hAl hres ⊢
  walk_at "m"
  refine ⟨by decide, fun Ps => ?_⟩
  walk_at "m"
  cases hP : partsF ns As 1000 0 [] with
  | none => rw [hP] at hres; cases hres
  | some ps =>
    rw [hP] at hres
    replace hres : walkF ps 1000 [] 0 (List.replicate ps.length 0) = some res := hres
    refine s_while (fun n st => ∃ (start : Nat) (qs : List (List Nat)), start ≤ ns.length ∧ qs.length ≤ start ∧ (∀ b ∈ qs, b.length ≤ 1000) ∧ partsF ns As n start qs = some ps ∧ st = ⟨[("start", .int start), ("parts", .ref Ps), ("ahead", .ref H), ("marks", .ref a)], (Ps, .list (qs.map V.bytes)) :: (H, .list (As.map V.int)) :: hp⟩) 1000 ⟨[("start", .int (0 : Nat)), ("parts", .ref Ps), ("ahead", .ref H), ("marks", .ref a)], (Ps, .list []) :: (H, .list (As.map V.int)) :: hp⟩ ⟨by walk_at "loc", .refl _⟩ ⟨0, [], by omega, by simp, by simp, hP, rfl⟩ ?_
    rintro n _ ⟨start, qs, hst, hql, hqb, hpf, rfl⟩
    walk_at "ms"
    refine ⟨trivial, ca_bi (len_listR (vs := ns.map V.int) (by walk_at "rl") (by simp; omega) ?_)⟩
    walk_at "ms"
    rw [List.length_map]
    refine CN.by (fun e => ?_) (fun e => ?_)
    · have e : start < ns.length := by have := of_decide_eq_true e; omega
      obtain ⟨n, rfl⟩ : ∃ k, n = k + 1 := by
        cases n with
        | zero => unfold partsF at hpf; rw [if_pos e] at hpf; cases hpf
        | succ k => exact ⟨k, rfl⟩
      unfold partsF at hpf
      rw [if_pos e] at hpf
      by_cases hok : bkOk As start = true
      · rw [if_pos hok] at hpf
        unfold bkOk at hok
        simp only [Bool.and_eq_true, decide_eq_true_eq, beq_iff_eq] at hok
        obtain ⟨⟨ho1, ho2⟩, ho3⟩ := hok
        walk_at "m"
        refine sb_listN (vs := As.map V.int) (v := .int (As.getD start 0)) (by walk_at "rl") (gi (by omega)) (by omega) ?_
        walk_at "m"
        refine ⟨FR.keeper, ca_bisR0 (c := FcX c.g A' "_law_back" (fdS PB 16) L f (.ref cd) [] g c.s₀ (c.room - 1)) (vs := As.map V.int) (lo := start) (hi := As.length) (p := fun i => !decide ((start : Int) - As.getD start 0 < As.getD i 0)) FR h1 (by show 0 < c.room - 1; omega) (fun _ _ _ _ _ _ _ _ h => bn30 (by decide) h) (by walk_at "rl") (by simp; omega) (by omega) (by simp) (.inr ⟨rfl, by simp⟩) (ltR_ints _ _ _ _) ?_⟩
        have hE : bsr (fun i => !decide ((start : Int) - As.getD start 0 < As.getD i 0)) start As.length = bkEnd As start := rfl
        have hEl : bkEnd As start ≤ As.length := bsr_le (by omega)
        rw [hE]
        generalize bkEnd As start = E at ho1 ho2 hpf hEl ⊢
        obtain ⟨E, rfl⟩ : ∃ k, E = k + 1 := ⟨E - 1, by omega⟩
        walk_at "ms"
        rw [show ((E + 1 : Nat) : Int) - 1 = (E : Int) by omega]
        walk_at "m"
        refine CN.f (decide_eq_false (by omega)) ?_
        walk_at "ms"
        refine ⟨trivial, ca_bi (len_listR (vs := As.map V.int) (by walk_at "rl") (by simp; omega) ?_)⟩
        walk_at "ms"
        refine ⟨FL.keeper, ca_bisL0 (c := FcX c.g A' "_law_back" (fdS PB 16) L f (.ref cd) [] g c.s₀ (c.room - 1)) (vs := As.map V.int) (lo := start) (hi := As.length) (p := fun i => decide (As.getD i 0 < (start : Int) - As.getD start 0 + 1)) FL h1 (by show 0 < c.room - 1; omega) (fun _ _ _ _ _ _ _ _ h => bn40 (by decide) h) (by walk_at "rl") (by simp; omega) (by omega) (by simp) (.inl (by rw [List.length_map])) (ltL_ints _ _ _ _) ?_⟩
        rw [ho2]
        walk_at "ms"
        refine CN.f (by rw [show ((E + 1 : Nat) : Int) = (E : Int) + 1 by omega]; simp) ?_
        walk_at "ms"
        refine ⟨FR.keeper, ca_bisR0 (c := FcX c.g A' "_law_back" (fdS PB 16) L f (.ref cd) [] g c.s₀ (c.room - 1)) (vs := As.map V.int) (lo := start) (hi := As.length) (p := fun i => !decide (-1 < As.getD i 0)) FR h1 (by show 0 < c.room - 1; omega) (fun _ _ _ _ _ _ _ _ h => bn30 (by decide) h) (by walk_at "rl") (by simp; omega) (by omega) (by simp) (.inr ⟨rfl, by simp⟩) (ltR_ints _ _ _ _) ?_⟩
        rw [ho3]
        walk_at "ms"
        refine CN.f (by simp) ?_
        walk_at "m"
        walk_at "app"
        walk_at "ms"
        refine ⟨Ps, qs.map V.bytes, rfl, by walk_at "rl", ?_⟩
        walk_at "ms"
        intro sl
        refine sb_listS (vs := ns.map V.int) (by walk_at "rl") (.int _) (.int _) (by simp; omega) fun D => ?_
        rw [slc_map, slc_two (by omega) (by omega)]
        have hsl : ((ns.drop start).take (E - start)).length = E - start := by simp; omega
        have hsin : ∀ n ∈ (ns.drop start).take (E - start), 0 ≤ n ∧ n < 256 := fun n hn => hin n (List.mem_of_mem_drop (List.mem_of_mem_take hn))
        have hpart : bkPart ns start (E + 1) = bswF (((ns.drop start).take (E - start)).map Int.toNat) (E - start) 1 := rfl
        rw [hpart] at hpf
        generalize (ns.drop start).take (E - start) = sg at hsl hsin hpf ⊢
        walk_at "ms"
        refine ⟨trivial, ca_ty (ca_bytesL (ns := sg) .here hsin (by omega) ?_)⟩
        walk_at "ms"
        rw [show (E : Int) - start = ((E - start : Nat) : Int) by omega]
        refine ⟨FW.keeper, ca_swap (c := FcX c.g A' "_law_back" (fdS PB 16) L f (.ref cd) [] g c.s₀ (c.room - 1)) (w := E - start) (nb := 1) FW (by show 0 < c.room - 1; omega) h1 h2 h4 h3 (by omega) (by omega) (by simp [hsl]) (by simp; omega) (fun x hx => ?_) ?_⟩
        · obtain ⟨n, hn, rfl⟩ := List.mem_map.mp hx
          have := hsin n hn
          omega
        walk_at "ms"
        refine ⟨_, .there .here, by simp; omega, ?_⟩
        walk_at "m"
        refine ⟨n, ⟨[("start", .int E), ("parts", .ref Ps), ("ahead", .ref H), ("marks", .ref a)], (Ps, .list ((qs ++ [bswF (sg.map Int.toNat) (E - start) 1]).map V.bytes)) :: (H, .list (As.map V.int)) :: hp⟩, by omega, ⟨by walk_at "loc", ?_⟩, E, _, by omega, ?_, ?_, hpf, rfl⟩
        · rw [List.map_append]; exact .drop (.refl _)
        · simp; omega
        · intro b hb
          rcases List.mem_append.mp hb with hb | hb
          · exact hqb b hb
          · rw [List.mem_singleton.mp hb, bswF_len, List.length_map]; omega
      · rw [if_neg hok] at hpf; cases hpf
    · have e : ¬ start < ns.length := by have := of_decide_eq_false e; omega
      have hpe : qs = ps := by
        cases n with
        | zero => unfold partsF at hpf; rw [if_neg e] at hpf; exact Option.some.inj hpf
        | succ k => unfold partsF at hpf; rw [if_neg e] at hpf; exact Option.some.inj hpf
      subst hpe
      walk_at "m"
      refine ⟨by decide, fun W => ?_⟩
      walk_at "m"
      refine ⟨by decide, fun T0 => ?_⟩
      walk_at "ms"
      refine ⟨trivial, ca_bi (len_listR (vs := qs.map V.bytes) (by walk_at "rl") (by simp; omega) ?_)⟩
      walk_at "ms"
      rw [List.length_map]
      refine bo_mulL (vs := [.int 0]) (by walk_at "mem") (by simp) (by omega) (by omega) (by simp; omega) fun T => ?_
      have eT : (List.replicate ((qs.length : Int)).toNat [V.int 0]).flatten = (List.replicate qs.length 0).map fun t : Nat => V.int t := by
        rw [Int.toNat_natCast, List.map_replicate]
        induction qs.length with
        | zero => rfl
        | succ k ih => rw [List.replicate_succ, List.flatten_cons, ih, List.replicate_succ]; rfl
      rw [eT]
      walk_at "m"
      refine s_while (fun n st => ∃ (path : List Int) (h : Int) (tk : List Nat), tk.length = qs.length ∧ walkF qs n path h tk = some res ∧ path.length + n ≤ 1000 ∧ st = ⟨[("height", .int h), ("taken", .ref T), ("path", .ref W), ("parts", .ref Ps)], (T, .list (tk.map fun t : Nat => V.int t)) :: (W, .list (path.map V.int)) :: (Ps, .list (qs.map V.bytes)) :: hp⟩) 1000 ⟨[("height", .int 0), ("taken", .ref T), ("path", .ref W), ("parts", .ref Ps)], (T, .list ((List.replicate qs.length 0).map fun t : Nat => V.int t)) :: (W, .list []) :: (Ps, .list (qs.map V.bytes)) :: hp⟩ ⟨by walk_at "loc", by walk_at "sub"⟩ ⟨[], 0, _, by simp, hres, by simp, rfl⟩ ?_
      rintro n _ ⟨path, h, tk, htl, hwf, hpl, rfl⟩
      refine TR.mono (Q := fun k st1 => k = decide (0 ≤ h ∧ h < qs.length ∧ tk.getD h.toNat 0 < (qs.getD h.toNat []).length) ∧ st1 = ⟨[("height", .int h), ("taken", .ref T), ("path", .ref W), ("parts", .ref Ps)], (T, .list (tk.map fun t : Nat => V.int t)) :: (W, .list (path.map V.int)) :: (Ps, .list (qs.map V.bytes)) :: hp⟩) ?_ ?_
      · walk_at "ms"
        refine CN.by (fun e0 => ?_) (fun e0 => ?_)
        · have e0 := of_decide_eq_true e0
          walk_at "ms"
          refine ⟨trivial, ca_bi (len_listR (vs := qs.map V.bytes) (by walk_at "rl") (by simp; omega) ?_)⟩
          walk_at "ms"
          rw [List.length_map]
          refine CN.by (fun e1 => ?_) (fun e1 => ?_)
          · have e1 := of_decide_eq_true e1
            have hq2 := List.getElem?_eq_getElem (l := qs) (i := h.toNat) (by omega)
            have ht2 := List.getElem?_eq_getElem (l := tk) (i := h.toNat) (by omega)
            have hb := hqb _ (List.mem_of_getElem? hq2)
            walk_at "ms"
            refine sb_listI (vs := tk.map fun t : Nat => V.int t) (v := .int tk[h.toNat]) (by walk_at "rl") e0 (by rw [List.getElem?_map, ht2]; rfl) (by omega) ?_
            walk_at "ms"
            refine sb_listI (vs := qs.map V.bytes) (v := .bytes qs[h.toNat]) (by walk_at "rl") e0 (by rw [List.getElem?_map, hq2]; rfl) (by omega) ?_
            walk_at "ms"
            refine ⟨trivial, ca_bi (len_bytes' (by omega) ?_)⟩
            walk_at "ms"
            refine ⟨?_, rfl⟩
            rw [List.getD_eq_getElem?_getD, List.getD_eq_getElem?_getD, hq2, ht2, decide_eq_decide]
            simp only [Option.getD_some]
            omega
          · have e1 := of_decide_eq_false e1
            exact ⟨(decide_eq_false (by omega)).symm, rfl⟩
        · have e0 := of_decide_eq_false e0
          exact ⟨(decide_eq_false (by omega)).symm, rfl⟩
      · rintro k _ ⟨rfl, rfl⟩
        refine CN.by (fun e => ?_) (fun e => ?_)
        · have e := of_decide_eq_true e
          obtain ⟨e0, e1, e2⟩ := e
          obtain ⟨n, rfl⟩ : ∃ k, n = k + 1 := by
            cases n with
            | zero => cases hwf
            | succ k => exact ⟨k, rfl⟩
          unfold walkF at hwf
          rw [if_pos ⟨e0, e1, e2⟩] at hwf
          have hq2 := List.getElem?_eq_getElem (l := qs) (i := h.toNat) (by omega)
          have ht2 := List.getElem?_eq_getElem (l := tk) (i := h.toNat) (by omega)
          have hb := hqb _ (List.mem_of_getElem? hq2)
          have eB : bkB qs h tk = qs[h.toNat].getD tk[h.toNat] 0 := by
            unfold bkB
            rw [List.getD_eq_getElem?_getD (l := qs), List.getD_eq_getElem?_getD (l := tk), hq2, ht2]; rfl
          rw [List.getD_eq_getElem?_getD (l := qs), List.getD_eq_getElem?_getD (l := tk), hq2, ht2] at e2
          simp only [Option.getD_some] at e2
          have eT2 : tk.getD h.toNat 0 = tk[h.toNat] := by rw [List.getD_eq_getElem?_getD, ht2]; rfl
          rw [eB, eT2] at hwf
          generalize hqv : qs[h.toNat] = qv at hq2 hb eB e2 hwf
          generalize htv : tk[h.toNat] = tv at ht2 eB eT2 e2 hwf
          have hbv := List.getElem?_eq_getElem (l := qv) (i := tv) e2
          have hbd : qv.getD tv 0 = qv[tv] := by rw [List.getD_eq_getElem?_getD, hbv]; rfl
          rw [hbd] at hwf
          generalize qv[tv] = bv at hbv hwf
          walk_at "ms"
          walk_at "app"
          walk_at "ms"
          refine ⟨W, path.map V.int, rfl, by walk_at "rl", ?_⟩
          walk_at "ms"
          refine sb_listI (vs := qs.map V.bytes) (v := .bytes qv) (by walk_at "rl") e0 (by rw [List.getElem?_map, hq2]; rfl) (by omega) ?_
          walk_at "ms"
          refine sb_listI (vs := tk.map fun t : Nat => V.int t) (v := .int tv) (by walk_at "rl") e0 (by rw [List.getElem?_map, ht2]; rfl) (by omega) ?_
          refine sb_bytesN (fun _ _ _ e => by cases e) hbv (by omega) ?_
          refine ⟨_, .there .here, by simp; omega, ?_⟩
          walk_at "m"
          refine es_augitem ?_
          walk_at "ms"
          refine gi_listI (vs := tk.map fun t : Nat => V.int t) (v := .int tv) (by walk_at "rl") e0 (by rw [List.getElem?_map, ht2]; rfl) (by omega) ?_
          walk_at "ms"
          refine si_list .here e0 (by simp; omega) (by simp; omega) ?_
          walk_at "m"
          refine sb_last (vs := path.map V.int) (v := .int bv) (by walk_at "rl") ?_
          walk_at "ms"
          refine bo_mul (IntMulOk.of_left (by decide +kernel)) ?_
          walk_at "m"
          refine ⟨n, ⟨[("height", .int (h + (2 * (bv : Int) - 1))), ("taken", .ref T), ("path", .ref W), ("parts", .ref Ps)], (T, .list ((tk.set h.toNat (tv + 1)).map fun t : Nat => V.int t)) :: (W, .list ((path ++ [(bv : Int)]).map V.int)) :: (Ps, .list (qs.map V.bytes)) :: hp⟩, by omega, ⟨by walk_at "loc", ?_⟩, _, _, _, ?_, hwf, ?_, rfl⟩
          · rw [List.map_append, List.map_set]; exact .refl _
          · simp [htl]
          · simp; omega
        · have e := of_decide_eq_false e
          have er : path = res := by
            cases n with
            | zero => cases hwf
            | succ k => unfold walkF at hwf; rw [if_neg e] at hwf; exact Option.some.inj hwf
          subst er
          walk_at "m"
          exact ⟨⟨loc, (W, .list (path.map V.int)) :: hp⟩, ⟨.refl _, by walk_at "sub"⟩, q W⟩
end

/-! ## raising: a bound below nought -/
noncomputable def KeyId (G : Gl) (K : V) (hp : Hp) : Prop := K = .none ∨ ∃ k, K = .ref k ∧ ∀ c' : Fc, c'.g = G → 1 ≤ c'.room → ∀ loc v Qc, Qc v ⟨loc, hp⟩ → Keeper c' (.ref k) ⟨loc, hp⟩ ∧ CA c' (.ref k) [v] [] [] ⟨loc, hp⟩ Qc
section
variable {c : Fc} {f fb a k : Addr} {as ks : List V} {kn : List Str} {x K hiV : V} {xi : Int} {l : List Int} {lo hi : Nat} {hp hp' : Hp} {loc : Loc} {P : St → Prop} {Q : V → St → Prop} {l0 : List Env}
theorem ca_bisX (F : FnB c.g "bisect_left" 4 f) (hE : nsIn c.g.K mainGlobals "ValueError" = some none) (hr : 0 < c.room) (hl : c.A.frames = some l0) (hb : BNk c.g.K 4 as kn ks [("a", .ref a), ("x", x), ("lo", .int (-1)), ("hi", hiV), ("key", K)]) (p : P ⟨loc, hp⟩) : CAX c (.ref f) as kn ks ⟨loc, hp⟩ P := by
  obtain ⟨_, oc, od, osl, dV, kV, doc, pm, an, cd, ct, hK, hcd, hD⟩ := F
  refine ca_defX (b := false) hK hcd hr hl (hb _ _ _ _ _ _ _ _ hD) (fun L g A => bi_locals ?_ fun A' _ => ?_) (by kernel_rfl) (by kernel_rfl) (by kernel_rfl)
  · intro y hy
    simp only [List.mem_cons, List.not_mem_nil, or_false] at hy
    rcases hy with rfl | rfl | rfl | rfl | rfl <;> kernel_rfl
  show TRX false (FcX c.g A' "bisect_left" (fdS PB 4) L f (.ref cd) [] g c.s₀ (c.room - 1)) (execs (fdB PB 4) (FcX c.g A' "bisect_left" (fdS PB 4) L f (.ref cd) [] g c.s₀ (c.room - 1)).env) ⟨[("key", K), ("hi", hiV), ("lo", .int (-1)), ("x", x), ("a", .ref a)], hp⟩ _
  have e : ∀ env, execs (fdB PB 4) env = execs ((fdB PB 4).head! :: (fdB PB 4).tail) env := fun env => rfl
  rw [e]
  conv => arg 3; arg 1; arg 1; whnf
  refine xx_cons (xx_if ?_)
  walk_at "ms"
  refine CN.t (by decide) ?_
  exact xx_cons (xx_raise (by kernel_rfl) hE rfl p)
theorem ca_insX (F : FnB c.g "insort_left" 3 f) (FB : FnB c.g "bisect_left" 4 fb) (hE : nsIn c.g.K mainGlobals "ValueError" = some none) (hr : 2 ≤ c.room) (hl : c.A.frames = some l0) (hk : KeyId c.g K hp) (hb : BNk c.g.K 3 as kn ks [("a", .ref a), ("x", x), ("lo", .int (-1)), ("hi", hiV), ("key", K)]) (p : P ⟨loc, hp⟩) : CAX c (.ref f) as kn ks ⟨loc, hp⟩ P := by
  obtain ⟨_, oc, od, osl, dV, kV, doc, pm, an, cd, ct, hK, hcd, hD⟩ := F
  have hn := FB.1
  refine ca_defX (b := true) hK hcd (by omega) hl (hb _ _ _ _ _ _ _ _ hD) (fun L g A => bi_locals ?_ fun A' hfr => ?_) (by kernel_rfl) (by kernel_rfl) (by kernel_rfl)
  · intro y hy
    simp only [List.mem_cons, List.not_mem_nil, or_false] at hy
    rcases hy with rfl | rfl | rfl | rfl | rfl <;> kernel_rfl
  show TRX true (FcX c.g A' "insort_left" (fdS PB 3) L f (.ref cd) [] g c.s₀ (c.room - 1)) (execs (fdB PB 3) (FcX c.g A' "insort_left" (fdS PB 3) L f (.ref cd) [] g c.s₀ (c.room - 1)).env) ⟨[("key", K), ("hi", hiV), ("lo", .int (-1)), ("x", x), ("a", .ref a)], hp⟩ _
  have e : ∀ env, execs (fdB PB 3) env = execs ((fdB PB 3).head! :: (fdB PB 3).tail) env := fun env => rfl
  rw [e]
  conv => arg 3; arg 1; arg 1; whnf
  refine xx_cons (xx_if ?_)
  rcases hk with rfl | ⟨k, rfl, hk⟩
  · walk_at "ms"
    refine CN.t rfl ?_
    refine xx_cons (xx_assign (xx_call ?_ rfl rfl rfl) rfl)
    walk_at "ms"
    exact ⟨FB.keeper, ca_bisX (c := FcX c.g A' "insort_left" (fdS PB 3) L f (.ref cd) [] g c.s₀ (c.room - 1)) FB hE (by show 0 < c.room - 1; omega) hfr (fun _ _ _ _ _ _ _ _ h => bn40 (by decide) h) p⟩
  · walk_at "ms"
    refine CN.f rfl ?_
    refine xx_cons (xx_assign (xx_call ?_ rfl rfl rfl) rfl)
    walk_at "ms"
    refine hk (FcX c.g A' "insort_left" (fdS PB 3) L f (.ref cd) [] g c.s₀ (c.room - 1)) rfl (by show 1 ≤ c.room - 1; omega) _ _ _ ?_
    walk_at "ms"
    exact ⟨FB.keeper, ca_bisX (c := FcX c.g A' "insort_left" (fdS PB 3) L f (.ref cd) [] g c.s₀ (c.room - 1)) FB hE (by show 0 < c.room - 1; omega) hfr (fun _ _ _ _ _ _ _ _ h => bn41 (by decide) h) p⟩
/-- an int laid in a list of ints, with no key or the key that changes nothing -/
theorem ca_insK (F : FnB c.g "insort_left" 3 f) (FB : FnB c.g "bisect_left" 4 fb) (hl : nsIn c.g.K mainGlobals "len" = some none) (hk : KeyId c.g K hp) (hb : BNk c.g.K 3 as kn ks [("a", .ref a), ("x", .int xi), ("lo", .int lo), ("hi", hiV), ("key", K)]) {l' : List Int}
    (ha : Upd hp a (.list (l.map V.int)) (.list (l'.map V.int)) hp') (e : l' = l.take (bsr (fun i => decide (l.getD i 0 < xi)) lo hi) ++ xi :: l.drop (bsr (fun i => decide (l.getD i 0 < xi)) lo hi)) (hsz : l.length ≤ 16777216) (hlo : lo ≤ hi) (hhi : hi ≤ l.length) (hV : hiV = .int hi ∨ (hiV = .none ∧ hi = l.length)) (hr : 3 ≤ c.room) (q : Q .none ⟨loc, hp'⟩) : CA c (.ref f) as kn ks ⟨loc, hp⟩ Q := by
  have e2 : l'.map V.int = (l.map V.int).take (bsr (fun i => decide (l.getD i 0 < xi)) lo hi) ++ V.int xi :: (l.map V.int).drop (bsr (fun i => decide (l.getD i 0 < xi)) lo hi) := by
    rw [e]; simp [List.map_take, List.map_drop]
  rw [e2] at ha
  rcases hk with rfl | ⟨k, rfl, hk⟩
  · exact ca_insL0 F FB hl hb ha (by simpa using hsz) hlo (by simpa using hhi) (by simpa using hV) (by omega) (ltL_ints _ _ _ _) q
  · exact ca_insL1 (m := 1) (ws := l.map V.int) F FB hl hb ha (by simpa using hsz) hlo (by simpa using hhi) (by simpa using hV) (fun c' hg hroom loc i v Qc hv hq => hk c' hg hroom loc v Qc (hq v hv)) (fun c' hg hroom loc Qc hq => hk c' hg hroom loc _ Qc hq) rfl (by omega) (by omega) (ltL_ints _ _ _ _) q
end


/-! ## _law_bounds -/
noncomputable def qBd : Str := (("_law_bounds" : Str) ++ ".<locals>.") ++ "<lambda>"
noncomputable def bdD (rd : List PyData) (i : Nat) : List PyData := (List.replicate i [dInts [7, 1, 4, 6, 9], .list rd]).flatten
theorem Sub.rl {h h' : Hp} (k : Sub h h') : ∀ a vs, RL h' a vs → RL h a vs := fun a vs r => r.sub k
theorem RDs.append {hp : Hp} : ∀ {vs ws : List V} {ds es : List PyData}, RDs hp vs ds → RDs hp ws es → RDs hp (vs ++ ws) (ds ++ es)
  | _, _, _, _, .nil, h => h
  | _, _, _, _, .cons r h, k => .cons r (RDs.append h k)
theorem key_id {c' : Fc} {hp1 : Hp} {lf c1 : Addr} {n q : Str} {params : Arguments} {scope : Scope} {p1 : Pos} {loc' : Loc} {b : V} {Qc : V → St → Prop} (hm : (lf, AObj.lam n q params (.Name "one" p1) scope [] c1) ∈ hp1) (hcd : (c1, AObj.code q) ∈ hp1)
    (hb : ∀ pm ctv v, bindArgs (kla_fn n q params (.Name "one" p1) scope [] pm (.ref c1) ctv) ⟨[v], []⟩ = pure [(("one" : Str), v)]) (hs : scope.names = [(("one" : Str), NameKind.local)]) (hco : scope.isCoroutine = false) (hgen : scope.isGenerator = false) (hk : scope.kind = .function)
    (hr : 1 ≤ c'.room) (hq : Qc b ⟨loc', hp1⟩) : Keeper c' (.ref lf) ⟨loc', hp1⟩ ∧ CA c' (.ref lf) [b] [] [] ⟨loc', hp1⟩ Qc := by
  refine ⟨.inr ⟨_, _, _, _, _, _, _, hm⟩, ca_lam hm hcd hr (ab := [("one", b)]) (fun pm ctv vs r => ?_) (fun L g A => ?_) hco hgen hk⟩
  · obtain ⟨v0, rfl, r0⟩ := all2_1 r
    exact ⟨[("one", v0)], hb pm ctv v0, .cons ⟨rfl, r0⟩ .nil⟩
  have hkd : ∀ cl, (envX q scope L lf (.ref c1) cl).kindOf "one" = some .local := fun cl => by show scope.names.lookup ("one" : Str) = _; rw [hs]; kernel_rfl
  refine bi_locals (fun y hy => ?_) fun A' => ?_
  · simp only [List.mem_cons, List.not_mem_nil, or_false] at hy
    subst hy
    exact hkd _
  · rw [show cellEntries (L + 1) scope.names hp1 = hp1 by rw [hs]; rfl]
    exact ev_local (hkd _) rfl hq (by kernel_rfl)
theorem ev_lamK {c : Fc} {Q : V → St → Prop} {params : Arguments} {p1 pos : Pos} {scope : Scope} {cn : Str} {cs : Scope} {L a cd P : Addr} {loc : Loc} {cl : List (Str × Addr)} {pre post : Hp} {t : Option Addr} (he : c.env = envX cn cs L a (.ref cd) cl) (hc : codeHdIn c.g.K cd P = true) (hdef : defaultsOf params c.env = ([], [])) (hcl : closureFor scope c.env = pure [])
    (hb : ∀ n q c1 pm ctv v, bindArgs (kla_fn n q params (.Name "one" p1) scope [] pm (.ref c1) ctv) ⟨[v], []⟩ = pure [(("one" : Str), v)]) (hs : scope.names = [(("one" : Str), NameKind.local)]) (hco : scope.isCoroutine = false) (hgen : scope.isGenerator = false) (hk : scope.kind = .function)
    (q : ∀ f c' e, (∀ X : Hp, (f, e) ∈ X → (c', AObj.code (c.env.qual ++ "<lambda>")) ∈ X → KeyId c.g (.ref f) X) → Q (.ref f) ⟨loc, (f, e) :: (pre ++ (TB P pos (c.env.qual ++ "<lambda>") (some c') ++ post))⟩) : EV c (.Lambda params (.Name "one" p1) scope pos) ⟨loc, pre ++ (TB P pos (c.env.qual ++ "<lambda>") t ++ post)⟩ Q :=
  ev_lam he hc hdef hcl fun f c' => q f c' _ fun X h1 h2 => .inr ⟨f, rfl, fun c2 hg hr loc v Qc hq => key_id h1 h2 (hb _ _ _) hs hco hgen hk hr hq⟩
section
variable {c : Fc} {f cd fi fb P R : Addr} {t : Option Addr} {hp : Hp} {loc : Loc} {Q : V → St → Prop} {l0 : List Env} {rvs : List V} {rd : List PyData}
theorem ca_bounds (F : Fn c.g "_law_bounds" 15 f cd) (FI : FnB c.g "insort_left" 3 fi) (FB : FnB c.g "bisect_left" 4 fb) (hr : 5 ≤ c.room) (h1 : nsIn c.g.K mainGlobals "len" = some none) (h2 : nsIn c.g.K mainGlobals "list" = some none) (hE : nsIn c.g.K mainGlobals "ValueError" = some none) (hl : c.A.frames = some l0)
    (hP : codeHdIn c.g.K cd P = true) (hm : RL hp R rvs) (hrd : RDs hp rvs rd) (hz : rvs.length ≤ 1000) (hdp : PyData.depthAll rd ≤ 10) (hrefl : PyData.eqv (.list rd) (.list rd) = true)
    (q : ∀ t', Q (.bool true) ⟨loc, TB P ⟨115, 23, 115, 38⟩ qBd t' ++ hp⟩) : CA c (.ref f) [.ref R] [] [] ⟨loc, TB P ⟨115, 23, 115, 38⟩ qBd t ++ hp⟩ Q := by
  obtain ⟨_, oc, od, osl, doc, pm, an, ct, hK, hcd⟩ := F
  refine CA.wk ?_
  refine ca_def (ab := [("row", .ref R)]) hK hcd (by omega) (bn_eq fun vs r => ?_) (fun L g A => bi_locals ?_ fun A' hfr => ?_) (by kernel_rfl) (by kernel_rfl) (by kernel_rfl)
  · obtain ⟨v0, rfl, r0⟩ := all2_1 r
    exact ⟨[("row", v0)], by kernel_rfl, .cons ⟨rfl, r0⟩ .nil⟩
  · intro y hy
    simp only [List.mem_cons, List.not_mem_nil, or_false] at hy
    rcases hy with rfl <;> kernel_rfl
  have hn := FI.1
  rw [hl] at hfr
  show EX (FcX c.g A' "_law_bounds" (fdS PB 15) L f (.ref cd) [] g c.s₀ (c.room - 1)) (fdB PB 15) ⟨[("row", .ref R)], TB P ⟨115, 23, 115, 38⟩ qBd t ++ hp⟩ _
  conv => arg 2; whnf
  have hTB : ∀ t, Sub (TB P ⟨115, 23, 115, 38⟩ qBd t ++ hp) hp := fun t => .app _ (.refl _)
  walk_at "ms"
  refine ⟨trivial, ca_ty (ca_listL (vs := rvs) (hm.sub (hTB _)) (by omega) fun Kp => ?_)⟩
  walk_at "m"
  refine ⟨by decide, fun T => ?_⟩
  walk_at "m"
  walk_at "for"
  walk_at "ms"
  refine ev_lamK (pre := [(T, .list []), (Kp, .list rvs)]) (post := hp) (t := t) (P := P) rfl hP rfl rfl (fun _ _ _ _ _ _ => rfl) rfl rfl rfl rfl fun lf c1 le hle => ?_
  walk_at "ms"
  refine ⟨by show 2 ≤ 16777216; decide, fun Ks => ?_⟩
  refine it_list (vs := [.none, .ref lf]) .here ?_
  have hRb : ∀ X : Hp, RL (X ++ ((Ks, .list [.none, .ref lf]) :: (lf, le) :: (Kp, .list rvs) :: (TB P ⟨115, 23, 115, 38⟩ qBd (some c1) ++ hp))) R rvs := fun X => hm.sub (.app _ (.drop (.drop (.drop (hTB _)))))
  have hrdb : ∀ X : Hp, RDs (X ++ ((Ks, .list [.none, .ref lf]) :: (lf, le) :: (Kp, .list rvs) :: (TB P ⟨115, 23, 115, 38⟩ qBd (some c1) ++ hp))) rvs rd := fun X => hrd.mono (Sub.rl (.app _ (.drop (.drop (.drop (hTB _))))))
  have hKy : ∀ X : Hp, KeyId c.g (.ref lf) (X ++ ((Ks, .list [.none, .ref lf]) :: (lf, le) :: (Kp, .list rvs) :: (TB P ⟨115, 23, 115, 38⟩ qBd (some c1) ++ hp))) := fun X => hle _ (List.mem_append_right _ (.tail _ (.head _))) (List.mem_append_right _ (.tail _ (.tail _ (.tail _ (List.mem_append_left _ (.tail _ (.head _)))))))
  refine ⟨fun i st => ∃ ts E, ts.length = 2 * i ∧ i ≤ 2 ∧ RDs (E ++ ((Ks, .list [.none, .ref lf]) :: (lf, le) :: (Kp, .list rvs) :: (TB P ⟨115, 23, 115, 38⟩ qBd (some c1) ++ hp))) ts (bdD rd i) ∧ st = ⟨[("told", .ref T), ("kept", .ref Kp), ("row", .ref R)], (T, .list ts) :: (E ++ ((Ks, .list [.none, .ref lf]) :: (lf, le) :: (Kp, .list rvs) :: (TB P ⟨115, 23, 115, 38⟩ qBd (some c1) ++ hp)))⟩,
    ⟨_, ⟨by walk_at "loc", ?_⟩, [], [], rfl, by decide, .nil, rfl⟩, ?_, ?_, ?_⟩
  · exact .perm (List.perm_middle (l₁ := [_, _])) (.refl _)
  · rintro i _ ⟨ts, E, _, _, _, rfl⟩
    exact .inl (.tail _ (List.mem_append_right _ (.head _)))
  · rintro i v _ hv ⟨ts, E, htl, hi2, hts, rfl⟩
    have hi : i < 2 := by
      rcases Nat.lt_or_ge i 2 with h | h
      · exact h
      · rw [List.getElem?_eq_none h] at hv; cases hv
    have hK : ∀ X : Hp, KeyId c.g v (X ++ ((Ks, .list [.none, .ref lf]) :: (lf, le) :: (Kp, .list rvs) :: (TB P ⟨115, 23, 115, 38⟩ qBd (some c1) ++ hp))) := fun X => by
      rcases i with _ | _ | i
      · obtain rfl : V.none = v := by simpa using hv
        exact .inl rfl
      · obtain rfl : V.ref lf = v := by simpa using hv
        exact hKy X
      · omega
    clear hv
    generalize hB : ((Ks, AObj.list [.none, .ref lf]) :: (lf, le) :: (Kp, .list rvs) :: (TB P ⟨115, 23, 115, 38⟩ qBd (some c1) ++ hp)) = B at hRb hrdb hK hts ⊢
    walk_at "ms"
    refine ⟨by decide, fun D => ?_⟩
    walk_at "m"
    refine es_expr ?_ (by rfl) (by rfl)
    walk_at "ms"
    refine ⟨FI.keeper, ca_insK (c := FcX c.g A' "_law_bounds" (fdS PB 15) L f (.ref cd) [] g c.s₀ (c.room - 1)) (l := [4, 6]) (l' := [4, 6, 9]) (lo := 0) (hi := 2) FI FB h1 (hK ([_, _] ++ E)) (fun _ _ _ _ _ _ _ _ h => bn21 (by decide) h) .here (by decide +kernel) (by decide) (by decide) (by decide) (.inr ⟨rfl, rfl⟩) (by show 3 ≤ c.room - 1; omega) ⟨rfl, ?_⟩⟩
    walk_at "m"
    refine es_expr ?_ (by rfl) (by rfl)
    walk_at "ms"
    refine ⟨FI.keeper, ca_insK (c := FcX c.g A' "_law_bounds" (fdS PB 15) L f (.ref cd) [] g c.s₀ (c.room - 1)) (l := [4, 6, 9]) (l' := [1, 4, 6, 9]) (lo := 0) (hi := 3) FI FB h1 (hK ([_, _] ++ E)) (fun _ _ _ _ _ _ _ _ h => bn21 (by decide) h) .here (by decide +kernel) (by decide) (by decide) (by decide) (.inr ⟨rfl, rfl⟩) (by show 3 ≤ c.room - 1; omega) ⟨rfl, ?_⟩⟩
    walk_at "m"
    refine es_expr ?_ (by rfl) (by rfl)
    walk_at "ms"
    refine ⟨FI.keeper, ca_insK (c := FcX c.g A' "_law_bounds" (fdS PB 15) L f (.ref cd) [] g c.s₀ (c.room - 1)) (l := [1, 4, 6, 9]) (l' := [7, 1, 4, 6, 9]) (lo := 0) (hi := 0) FI FB h1 (hK ([_, _] ++ E)) (fun _ _ _ _ _ _ _ _ h => bn41 (by decide) h) .here (by decide +kernel) (by decide) (by decide) (by decide) (.inl rfl) (by show 3 ≤ c.room - 1; omega) ⟨rfl, ?_⟩⟩
    walk_at "m"
    walk_at "app"
    walk_at "ms"
    refine ⟨T, ts, rfl, .there .here, ?_⟩
    walk_at "ms"
    refine ⟨_, .there .here, by omega, ?_⟩
    walk_at "m"
    have hRD : RL ((D, .list ([7, 1, 4, 6, 9].map V.int)) :: (T, .list (ts ++ [.ref D])) :: (E ++ B)) R rvs := hRb ([_, _] ++ E)
    refine es_try (L := L) hfr rfl (by kernel_rfl) hE (P := fun st => ∃ XX, st = ⟨[("few", .ref D), ("kind", v), ("told", .ref T), ("kept", .ref Kp), ("row", .ref R)], XX ++ (D, .list ([7, 1, 4, 6, 9].map V.int)) :: (T, .list (ts ++ [.ref D])) :: (E ++ B)⟩) ?_ ?_
    · refine xx_cons (xx_expr (xx_call ?_ rfl rfl rfl) rfl rfl)
      walk_at "ms"
      refine ⟨by show 1 ≤ 16777216; decide, fun D0 => ?_⟩
      walk_at "ms"
      exact ⟨FI.keeper, ca_insX (c := FcX c.g A' "_law_bounds" (fdS PB 15) L f (.ref cd) [] g c.s₀ (c.room - 1)) FI FB hE (by show 2 ≤ c.room - 1; omega) hfr (hK ([_, _, _] ++ E)) (fun _ _ _ _ _ _ _ _ h => bn31 (by decide) h) ⟨[_], rfl⟩⟩
    · rintro _ e ⟨XX, rfl⟩
      walk_at "ms"
      walk_at "app"
      walk_at "ms"
      refine ⟨T, ts ++ [.ref D], rfl, .inl (List.mem_append_right _ (.tail _ (.head _))), ?_⟩
      walk_at "ms"
      refine ⟨trivial, ca_ty (ca_listL (vs := rvs) (hRD.sub (.app _ (.refl _))) (by omega) fun RC => ?_)⟩
      walk_at "ms"
      refine ⟨(RC, .list rvs) :: (XX ++ (D, .list ([7, 1, 4, 6, 9].map V.int)) :: (T, .list ((ts ++ [.ref D]) ++ [.ref RC])) :: (E ++ B)), ?_, by simp; omega, ?_⟩
      · refine .there ?_
        have : ∀ Y : Hp, Upd (Y ++ (D, .list ([7, 1, 4, 6, 9].map V.int)) :: (T, .list (ts ++ [.ref D])) :: (E ++ B)) T (.list (ts ++ [.ref D])) (.list ((ts ++ [.ref D]) ++ [.ref RC])) (Y ++ (D, .list ([7, 1, 4, 6, 9].map V.int)) :: (T, .list ((ts ++ [.ref D]) ++ [.ref RC])) :: (E ++ B)) := by
          intro Y
          induction Y with
          | nil => exact .there .here
          | cons y Y ih => exact .there ih
        exact this XX
      · walk_at "m"
        refine ⟨⟨[("told", .ref T), ("kept", .ref Kp), ("row", .ref R)], (T, .list ((ts ++ [.ref D]) ++ [.ref RC])) :: (((RC, .list rvs) :: (D, .list ([7, 1, 4, 6, 9].map V.int)) :: E) ++ B)⟩, ⟨by walk_at "loc", ?_⟩, (ts ++ [.ref D]) ++ [.ref RC], (RC, .list rvs) :: (D, .list ([7, 1, 4, 6, 9].map V.int)) :: E, by simp; omega, by omega, ?_, rfl⟩
        · refine .perm (List.perm_middle (l₁ := (RC, .list rvs) :: (XX ++ [(D, .list ([7, 1, 4, 6, 9].map V.int))])) (l₂ := E ++ B) |> fun p => (by simpa using p)) (.keep (.keep (.app XX (.refl _))))
        · have e1 : bdD rd (i + 1) = (bdD rd i ++ [dInts [7, 1, 4, 6, 9]]) ++ [.list rd] := by
            unfold bdD
            rw [List.replicate_succ', List.flatten_append]
            simp
          rw [e1]
          have sb : Sub (((RC, AObj.list rvs) :: (D, .list ([7, 1, 4, 6, 9].map V.int)) :: E) ++ B) (E ++ B) := .drop (.drop (.refl _))
          refine ((hts.mono (Sub.rl sb)).append (.cons (.list (.inl (.tail _ (.head _))) (RDs.ints _)) .nil)).append (.cons (.list .here ?_) .nil)
          exact (hrdb ([_, _] ++ E))
  · rintro _ ⟨ts, E, htl, _, hts, rfl⟩
    have hKp : ∀ X : Hp, RL (X ++ ((Ks, .list [.none, .ref lf]) :: (lf, le) :: (Kp, .list rvs) :: (TB P ⟨115, 23, 115, 38⟩ qBd (some c1) ++ hp))) Kp rvs := fun X => .inl (List.mem_append_right _ (.tail _ (.tail _ (.head _))))
    have hsub : ∀ X : Hp, Sub (X ++ ((Ks, .list [.none, .ref lf]) :: (lf, le) :: (Kp, .list rvs) :: (TB P ⟨115, 23, 115, 38⟩ qBd (some c1) ++ hp))) (TB P ⟨115, 23, 115, 38⟩ qBd (some c1) ++ hp) := fun X => .app _ (.drop (.drop (.drop (.refl _))))
    generalize ((Ks, AObj.list [.none, .ref lf]) :: (lf, le) :: (Kp, .list rvs) :: (TB P ⟨115, 23, 115, 38⟩ qBd (some c1) ++ hp)) = B at hKp hrdb hts hsub ⊢
    walk_at "m"
    refine ⟨by show 5 ≤ 16777216; decide, fun F1 => ?_⟩
    walk_at "ms"
    refine ⟨by show 5 ≤ 16777216; decide, fun F2 => ?_⟩
    walk_at "ms"
    refine ⟨by show 4 ≤ 16777216; decide, fun W => ?_⟩
    have hd1 : (PyData.list rd).depth ≤ 11 := by rw [PyData.depth]; omega
    have hd2 : (PyData.list (bdD rd 2)).depth ≤ 64 := by
      have h1 := depth_ints [7, 1, 4, 6, 9]
      show (PyData.list [dInts [7, 1, 4, 6, 9], .list rd, dInts [7, 1, 4, 6, 9], .list rd]).depth ≤ 64
      rw [PyData.depth]
      simp only [PyData.depthAll]
      omega
    have hev : PyData.eqv (.list (bdD rd 2)) (.list (bdD rd 2)) = true := by
      have h1 : PyData.eqv (dInts [7, 1, 4, 6, 9]) (dInts [7, 1, 4, 6, 9]) = true := by rw [eqv_ints]; decide
      show PyData.eqv (.list [dInts [7, 1, 4, 6, 9], .list rd, dInts [7, 1, 4, 6, 9], .list rd]) (.list [dInts [7, 1, 4, 6, 9], .list rd, dInts [7, 1, 4, 6, 9], .list rd]) = true
      rw [PyData.eqv]
      simp only [PyData.eqvAll, h1, hrefl, Bool.and_self]
    refine co_eqD (d := .list (bdD rd 2)) (e := .list (bdD rd 2)) (.list (vs := ts) (.there (.there (.there .here))) (hts.mono (Sub.rl (.app [_, _, _, _] (.refl _))))) (.list (vs := [.ref F1, .ref Kp, .ref F2, .ref Kp]) .here ?_) hd2 hd2 ?_
    · have r1 : RD ((W, .list [.ref F1, .ref Kp, .ref F2, .ref Kp]) :: (F2, .list [.int 7, .int 1, .int 4, .int 6, .int 9]) :: (F1, .list [.int 7, .int 1, .int 4, .int 6, .int 9]) :: (T, .list ts) :: (E ++ B)) (.ref F1) (dInts [7, 1, 4, 6, 9]) := RD.ints (.inl (.tail _ (.tail _ (.head _))))
      have r2 : RD ((W, .list [.ref F1, .ref Kp, .ref F2, .ref Kp]) :: (F2, .list [.int 7, .int 1, .int 4, .int 6, .int 9]) :: (F1, .list [.int 7, .int 1, .int 4, .int 6, .int 9]) :: (T, .list ts) :: (E ++ B)) (.ref F2) (dInts [7, 1, 4, 6, 9]) := RD.ints (.inl (.tail _ (.head _)))
      have r3 : RD ((W, .list [.ref F1, .ref Kp, .ref F2, .ref Kp]) :: (F2, .list [.int 7, .int 1, .int 4, .int 6, .int 9]) :: (F1, .list [.int 7, .int 1, .int 4, .int 6, .int 9]) :: (T, .list ts) :: (E ++ B)) (.ref Kp) (.list rd) := .list (hKp ([_, _, _, _] ++ E)) (hrdb ([_, _, _, _] ++ E))
      exact .cons r1 (.cons r3 (.cons r2 (.cons r3 .nil)))
    · rw [hev]
      walk_at "m"
      exact ⟨⟨loc, TB P ⟨115, 23, 115, 38⟩ qBd (some c1) ++ hp⟩, ⟨.refl _, hsub ([_, _, _, _] ++ E)⟩, q _⟩
end


/-! ## law -/
theorem CA.preWK {c : Fc} {f : V} {as : List V} {kn : List Str} {ks : List V} {st st' : St} {Q : V → St → Prop} (k : WK st st') (h : CA c f as kn ks st' Q) : CA c f as kn ks st Q := fun fv vs kvs r1 r2 r3 => TR.preWK k (h fv vs kvs r1 r2 r3)
theorem Sub.swap3 (X T R : Hp) : Sub (X ++ (T ++ R)) (T ++ (X ++ R)) := .perm (List.perm_append_comm_assoc X T R) (.refl _)
theorem rItems_fm (n : Nat) (p : Nat → Bool) (h : Nat → V) (gf : V → Option V) (hg : ∀ k : Nat, k < n → gf (.int (0 + (k : Int) * 1)) = if p k then some (h k) else none) : (rItems 0 n 1).filterMap gf = ((List.range n).filter p).map h := by
  unfold rItems
  rw [List.filterMap_map]
  have : ∀ l : List Nat, (∀ k ∈ l, k < n) → l.filterMap (gf ∘ fun i : Nat => V.int (0 + (i : Int) * 1)) = (l.filter p).map h := by
    intro l
    induction l with
    | nil => intro _; rfl
    | cons a l ih =>
      intro hl
      have h1 := hg a (hl a (.head _))
      have h2 := ih fun k hk => hl k (.tail _ hk)
      rw [List.filterMap_cons]
      rw [Function.comp_apply, h1, h2, List.filter_cons]
      cases p a <;> simp
  exact this _ fun k hk => List.mem_range.mp hk
theorem COMPG.fm0 {c : Fc} {scope : Scope} {cl : List (Str × Addr)} {x : Str} {ifs : List PySem.Expr} {elt : PySem.Expr} {items : List V} {Src : Hp → Prop} {st : St} {Q : Addr → St → Prop} (gf : V → Option V) (hz : items.length ≤ 16777216)
    (h0 : ∀ L, cellEntries (L + 1) scope.names st.hp = st.hp) (src : Src st.hp)
    (turn : ∀ (L : Addr) (g : Heap) (i : Nat) (v : V) (loc : Loc), items[i]? = some v → SN (cFc c scope cl L g) x v ⟨loc, st.hp⟩ fun st1 => TE (cFc c scope cl L g) ifs st1 fun b st2 => CN b (EV (cFc c scope cl L g) elt st2 fun y st3 => gf v = some y ∧ Sub st3.hp st.hp) (gf v = none ∧ Sub st2.hp st.hp))
    (done : ∀ D, Q D ⟨st.loc, (D, .list (items.filterMap gf)) :: st.hp⟩) : COMPG c scope cl x ifs elt items Src st Q :=
  COMPG.fm (ε := Unit) (fun _ _ => st.hp) gf () hz (fun L => by rw [h0 L]; exact .refl _) (fun _ _ => src)
    (fun L g i v loc _ hv val r => TR.mono (turn L g i v loc hv val r) fun _ st1 h1 => TR.mono h1 fun b st2 h2 => by
      cases b with
      | true => exact TR.mono (show EV _ _ _ _ from h2) fun y st3 ⟨h3, h4⟩ => ⟨h3, (), h4⟩
      | false => exact ⟨h2.1, (), h2.2⟩) fun _ _ D => done D
theorem COMPG.fm1 {c : Fc} {scope : Scope} {cl : List (Str × Addr)} {x : Str} {ifs : List PySem.Expr} {elt : PySem.Expr} {items : List V} {Src : Hp → Prop} {st : St} {Q : Addr → St → Prop} (gf : V → Option V) (hz : items.length ≤ 16777216)
    (h0 : ∀ L, cellEntries (L + 1) scope.names st.hp = (L + 1, .cell none) :: st.hp) (src : ∀ e, Src (e :: st.hp))
    (turn : ∀ (L : Addr) (g : Heap) (i : Nat) (v : V) (loc : Loc) (e : Option V), items[i]? = some v → SN (cFc c scope cl L g) x v ⟨loc, (L + 1, .cell e) :: st.hp⟩ fun st1 => TE (cFc c scope cl L g) ifs st1 fun b st2 => CN b (EV (cFc c scope cl L g) elt st2 fun y st3 => gf v = some y ∧ ∃ e', Sub st3.hp ((L + 1, .cell e') :: st.hp)) (gf v = none ∧ ∃ e', Sub st2.hp ((L + 1, .cell e') :: st.hp)))
    (done : ∀ L e D, Q D ⟨st.loc, (D, .list (items.filterMap gf)) :: (L + 1, .cell e) :: st.hp⟩) : COMPG c scope cl x ifs elt items Src st Q :=
  COMPG.fm (ε := Option V) (fun L e => (L + 1, .cell e) :: st.hp) gf none hz (fun L => by rw [h0 L]; exact .refl _) (fun _ _ => src _) turn done
noncomputable def toldF (sw : List (List Nat)) : List Int := (slc sw (some 1) (some (-1))).map fun b => ((b.getD 1 0 : Nat) : Int)
noncomputable def areaF (g told : List Int) : Int := (((List.range told.length).filter fun k => told.getD k 0 == 1).map fun k => g.getD k 0).sum
noncomputable def cntF (lv : List Int) (k : Nat) : Int := (((List.range k).filter fun j => lv.getD j 0 == lv.getD k 0).length : Int)
noncomputable def visF (lv p : List Int) : Int := (((List.range p.length).filter fun k => p.getD k 0 == 1).map fun k => cntF lv k).sum
noncomputable def dueF (lv p : List Int) (order : List Int) : List (List Nat) := [[255, 2]] ++ (order.map fun k => [(lv.getD k.toNat 0).toNat, (p.getD k.toNat 0).toNat]) ++ [[0, 2]]
noncomputable def bareDue (lv : List Int) (order : List Int) : List (List Int) := [[255]] ++ (order.map fun k => [lv.getD k.toNat 0, k]) ++ [[-1]]
noncomputable def inB (l : List Int) : Bool := l.all fun n => decide (0 ≤ n) && decide (n < 256)
theorem inB.of {l : List Int} (h : inB l = true) : ∀ n ∈ l, 0 ≤ n ∧ n < 256 := fun n hn => by
  have := List.all_eq_true.mp h n hn
  simpa using this
structure LawOk (p bp : List Int) : Prop where
  n0 : 0 < p.length
  n1 : p.length ≤ 500
  m0 : bp.length ≤ 500
  tx : inB (txtI p) = true
  bx : inB (txtI bp) = true
  sw2 : ∀ b ∈ slc (sweptF (txtF p) p.length) (some 1) (some (-1)), b.length = 2
  ag2 : ∀ b ∈ slc (sweptF (txtF bp) bp.length) (some 1) (some (-1)), b.length = 2
  swl : (sweptF (txtF p) p.length).length ≤ 1000
  agl : (sweptF (txtF bp) bp.length).length ≤ 1000
  tl : (toldF (sweptF (txtF p) p.length)).length ≤ 500
  tb : inB (toldF (sweptF (txtF p) p.length)) = true
  gr : ∀ g ∈ htF (toldF (sweptF (txtF p) p.length)), 0 ≤ g
  g0 : ((toldF (sweptF (txtF p) p.length)).foldl htStep ([], 0)).2 = 0
  av : areaF (htF (toldF (sweptF (txtF p) p.length))) (toldF (sweptF (txtF p) p.length)) = visF (htF p) p
  bk : backF (toldF (sweptF (txtF p) p.length)) = some p
  bkp : backF p = some bp
  mx0 : 0 ≤ maxF (htF p)
  mx1 : maxF (htF p) ≤ 1000
  oin : ∀ k ∈ orderF p, 0 ≤ k ∧ k < p.length
  lvb : inB (htF p) = true
  pb : inB p = true
  due : sweptF (txtF p) p.length = dueF (htF p) p (orderF p)
  dueE : sweptRF (bswF (bswF (txtF p) (txtF p).length 1) 2 p.length) p.length = dueF (htF p) p (orderF p)
  bare : (bareI (htF p) p.length).map (bareD (htF p) p.length 255 (-1)) = bareDue (htF p) (orderF p)
  ol : (orderF p).length ≤ 500
  ag : toldF (sweptF (txtF bp) bp.length) = p
theorem txtI_len (ms : List Int) : (txtI ms).length = 2 * ms.length := by
  unfold txtI
  have : ∀ (l : List Nat) (s : List Int), (l.foldl (fun s k => s ++ [(htF ms).getD k 0, ms.getD k 0]) s).length = s.length + 2 * l.length := by
    intro l
    induction l with
    | nil => intro s; rfl
    | cons a l ih => intro s; rw [List.foldl_cons, ih]; simp; omega
  rw [this]; simp
theorem txtF_len (ms : List Int) : (txtF ms).length = 2 * ms.length := by unfold txtF; rw [List.length_map, txtI_len]
section
variable {c : Fc} {f cd fi fb fw cw P : Addr} {l : List Nat} {nb : Nat} {t : Option Addr} {X R : Hp} {loc : Loc} {Q : V → St → Prop}
theorem ca_swept' (F : Fn c.g "_law_swept" 12 f cd) (FI : FnB c.g "insort_left" 3 fi) (FB : FnB c.g "bisect_left" 4 fb) (hr : 6 ≤ c.room) (h1 : nsIn c.g.K mainGlobals "len" = some none) (h2 : nsIn c.g.K mainGlobals "range" = some none) (h3 : nsIn c.g.K mainGlobals "bytes" = some none)
    (hP : codeHdIn c.g.K cd P = true) (hlen : l.length = 2 * nb) (hz : l.length ≤ 1000)
    (q : ∀ D t', Q (.ref D) ⟨loc, (D, .list ((sweptF l nb).map V.bytes)) :: (X ++ (TB P ⟨92, 64, 92, 84⟩ qSw t' ++ R))⟩) : CA c (.ref f) [.bytes l] [] [] ⟨loc, X ++ (TB P ⟨92, 64, 92, 84⟩ qSw t ++ R)⟩ Q :=
  CA.wk (CA.preWK (st' := ⟨loc, TB P ⟨92, 64, 92, 84⟩ qSw t ++ (X ++ R)⟩) ⟨.refl _, Sub.swap3 _ _ _⟩ (ca_swept (t := t) (hp := X ++ R) F FI FB hr h1 h2 h3 hP hlen hz fun D t' => ⟨⟨loc, (D, .list ((sweptF l nb).map V.bytes)) :: (X ++ (TB P ⟨92, 64, 92, 84⟩ qSw t' ++ R))⟩, ⟨.refl _, .keep (Sub.swap3 _ _ _)⟩, q D t'⟩))
theorem ca_sweptE' (F : Fn c.g "_law_swept_from_the_end" 13 f cd) (FI : FnB c.g "insort_right" 1 fi) (FB : FnB c.g "bisect_right" 2 fb) (hr : 6 ≤ c.room) (h1 : nsIn c.g.K mainGlobals "len" = some none) (h2 : nsIn c.g.K mainGlobals "range" = some none) (h3 : nsIn c.g.K mainGlobals "bytes" = some none)
    (h4 : nsIn c.g.K mainGlobals "bytearray" = some none) (h5 : nsIn c.g.K mainGlobals "isinstance" = some none) (FW : Fn c.g "_byteswap" 6 fw cw) (hP : codeHdIn c.g.K cd P = true) (hlen : l.length = 2 * nb) (hz : l.length ≤ 1000) (h0 : 0 < nb) (hlt : ∀ x ∈ l, x < 256)
    (q : ∀ D t', Q (.ref D) ⟨loc, (D, .list ((sweptRF (bswF (bswF l l.length 1) 2 nb) nb).map V.bytes)) :: (X ++ (TB P ⟨99, 67, 99, 87⟩ qSe t' ++ R))⟩) : CA c (.ref f) [.bytes l] [] [] ⟨loc, X ++ (TB P ⟨99, 67, 99, 87⟩ qSe t ++ R)⟩ Q :=
  CA.wk (CA.preWK (st' := ⟨loc, TB P ⟨99, 67, 99, 87⟩ qSe t ++ (X ++ R)⟩) ⟨.refl _, Sub.swap3 _ _ _⟩ (ca_sweptE (t := t) (hp := X ++ R) F FI FB hr h1 h2 h3 h4 h5 FW hP hlen hz h0 hlt fun D t' => ⟨⟨loc, (D, .list ((sweptRF (bswF (bswF l l.length 1) 2 nb) nb).map V.bytes)) :: (X ++ (TB P ⟨99, 67, 99, 87⟩ qSe t' ++ R))⟩, ⟨.refl _, .keep (Sub.swap3 _ _ _)⟩, q D t'⟩))
theorem ca_bounds' {l0 : List Env} {rvs : List V} {rd : List PyData} {A : Addr} (F : Fn c.g "_law_bounds" 15 f cd) (FI : FnB c.g "insort_left" 3 fi) (FB : FnB c.g "bisect_left" 4 fb) (hr : 5 ≤ c.room) (h1 : nsIn c.g.K mainGlobals "len" = some none) (h2 : nsIn c.g.K mainGlobals "list" = some none) (hE : nsIn c.g.K mainGlobals "ValueError" = some none) (hl : c.A.frames = some l0)
    (hP : codeHdIn c.g.K cd P = true) (hm : RL (X ++ R) A rvs) (hrd : RDs (X ++ R) rvs rd) (hz : rvs.length ≤ 1000) (hdp : PyData.depthAll rd ≤ 10) (hrefl : PyData.eqv (.list rd) (.list rd) = true)
    (q : ∀ t', Q (.bool true) ⟨loc, X ++ (TB P ⟨115, 23, 115, 38⟩ qBd t' ++ R)⟩) : CA c (.ref f) [.ref A] [] [] ⟨loc, X ++ (TB P ⟨115, 23, 115, 38⟩ qBd t ++ R)⟩ Q :=
  CA.wk (CA.preWK (st' := ⟨loc, TB P ⟨115, 23, 115, 38⟩ qBd t ++ (X ++ R)⟩) ⟨.refl _, Sub.swap3 _ _ _⟩ (ca_bounds (t := t) (hp := X ++ R) F FI FB hr h1 h2 hE hl hP hm hrd hz hdp hrefl fun t' => ⟨⟨loc, X ++ (TB P ⟨115, 23, 115, 38⟩ qBd t' ++ R)⟩, ⟨.refl _, Sub.swap3 _ _ _⟩, q t'⟩))
end
structure Fns (G : Gl) where
  fins : Addr
  fbl : Addr
  finr : Addr
  fbr : Addr
  fw : Addr
  fd : Addr
  fh : Addr
  ft : Addr
  fo : Addr
  fs : Addr
  fe : Addr
  fba : Addr
  fbo : Addr
  fbk : Addr
  cw : Addr
  cdr : Addr
  ch : Addr
  ct : Addr
  co : Addr
  cs : Addr
  ce : Addr
  cba : Addr
  cbo : Addr
  cbk : Addr
  INS : FnB G "insort_left" 3 fins
  BL : FnB G "bisect_left" 4 fbl
  INR : FnB G "insort_right" 1 finr
  BR : FnB G "bisect_right" 2 fbr
  W : Fn G "_byteswap" 6 fw cw
  D : Fn G "_law_drawn" 8 fd cdr
  H : Fn G "_law_heights" 9 fh ch
  T : Fn G "_law_text" 10 ft ct
  O : Fn G "_law_order" 11 fo co
  S : Fn G "_law_swept" 12 fs cs
  E : Fn G "_law_swept_from_the_end" 13 fe ce
  BA : Fn G "_law_bare" 14 fba cba
  BO : Fn G "_law_bounds" 15 fbo cbo
  BK : Fn G "_law_back" 16 fbk cbk
  blen : nsIn G.K mainGlobals "len" = some none
  brange : nsIn G.K mainGlobals "range" = some none
  bbytes : nsIn G.K mainGlobals "bytes" = some none
  bba : nsIn G.K mainGlobals "bytearray" = some none
  bis : nsIn G.K mainGlobals "isinstance" = some none
  blist : nsIn G.K mainGlobals "list" = some none
  bmax : nsIn G.K mainGlobals "max" = some none
  bmin : nsIn G.K mainGlobals "min" = some none
  bsum : nsIn G.K mainGlobals "sum" = some none
  bve : nsIn G.K mainGlobals "ValueError" = some none

theorem Sub.left (a b : Hp) : Sub (a ++ b) a := .perm List.perm_append_comm (.app b (.refl a))
theorem ents_rds {hp : Hp} {h : Nat → List V} {dd : Nat → List Int} (hh : ∀ k, h k = (dd k).map V.int) : ∀ (k : Nat) (Ds : List Addr), (∀ e ∈ ents h k Ds, e ∈ hp) → RDs hp (Ds.map V.ref) ((List.range' k Ds.length).map fun i => dInts (dd i))
  | k, [], _ => .nil
  | k, D :: r, hm => by
    rw [List.map_cons, List.length_cons, List.range'_succ, List.map_cons]
    refine .cons (RD.ints (.inl (hm _ ?_))) (ents_rds hh (k + 1) r fun e he => hm e (.tail _ he))
    rw [ents, hh]; exact .head _
theorem range_map_getD {β : Type} (F : Int → β) (l : List Int) : (List.range' 0 l.length).map (fun i => F (l.getD i 0)) = l.map F := by
  refine List.ext_getElem (by simp) fun i h1 h2 => ?_
  simp at h1 h2
  simp [h2]
section
variable {sc P1 P2 P3 L0 f LV GR TL D S AG OR : Addr} {p bp lv ord : List Int} {sw ag : List (List Nat)} {t1 t2 t3 : Option Addr} {R0 : Hp} {cdv : Value} {g : Heap} {s₀ : Shared} {r : Nat} {A : Around} {G : Gl} {l0 : List Env}
noncomputable abbrev FcL (G : Gl) (A : Around) (L f : Addr) (cdv : Value) (g : Heap) (s₀ : Shared) (r : Nat) : Fc := FcX G A "law" (fdS PB 17) L f cdv (cellsFrom (L + 1) (fdS PB 17).names []) g s₀ r
theorem ex_law2 (F : Fns G) (hr : 10 ≤ r) (hl : A.frames = some l0) (hP2 : codeHdIn G.K F.ce P2 = true) (hP3 : codeHdIn G.K F.cbo P3 = true)
    (hn0 : 0 < p.length) (hn1 : p.length ≤ 500) (hlv : lv.length = p.length + 1) (hoin : ∀ k ∈ ord, 0 ≤ k ∧ k < p.length) (hol : ord.length ≤ 500) (hlvb : inB lv = true) (hpb : inB p = true) (hlve : lv = htF p)
    (hdue : sw = dueF lv p ord) (hdueE : sweptRF (bswF (bswF (txtF p) (txtF p).length 1) 2 p.length) p.length = dueF lv p ord) (hbare : (bareI lv p.length).map (bareD lv p.length 255 (-1)) = bareDue lv ord) (hag2 : ∀ b ∈ slc ag (some 1) (some (-1)), b.length = 2) (hagl : ag.length ≤ 1000) (hag : toldF ag = p) (htx : inB (txtI p) = true) :
    EX (FcL G A L0 f cdv g s₀ r) ((fdB PB 17).drop 11) ⟨[("order", .ref OR), ("again", .ref AG), ("swept", .ref S), ("text", .bytes (txtF p))], (OR, .list (ord.map V.int)) :: (AG, .list (ag.map V.bytes)) :: (LV, .list (lv.map V.int)) :: (S, .list (sw.map V.bytes)) :: (D, .list (p.map V.int)) :: (L0 + 1 + 1 + 1 + 1, .cell (some (.ref LV))) :: (L0 + 1 + 1 + 1, .cell (some (.ref GR))) :: (L0 + 1 + 1, .cell (some (.ref TL))) :: (L0 + 1, .cell (some (.ref D))) :: (TB P1 ⟨92, 64, 92, 84⟩ qSw t1 ++ (TB P2 ⟨99, 67, 99, 87⟩ qSe t2 ++ (TB P3 ⟨115, 23, 115, 38⟩ qBd t3 ++ R0)))⟩
      fun fl st => ∃ t1 t2 t3, fl = .ret (.bool true) ∧ Sub st.hp (TB P1 ⟨92, 64, 92, 84⟩ qSw t1 ++ (TB P2 ⟨99, 67, 99, 87⟩ qSe t2 ++ (TB P3 ⟨115, 23, 115, 38⟩ qBd t3 ++ R0))) := by
  have d6 := F.E.1; have d7 := F.BA.1; have d8 := F.BO.1
  have b1 := F.blen; have b2 := F.brange; have b3 := F.bbytes; have b4 := F.bba; have b5 := F.bis; have b6 := F.blist
  have htxt := txtF_len p
  conv => arg 2; whnf
  walk_at "ms"
  refine ⟨by show 2 ≤ 16777216; decide, fun B1 => ?_⟩
  walk_at "ms"
  refine ⟨trivial, ca_ty (ca_bytesL (ns := [255, 2]) .here (by decide) (by decide) ?_)⟩
  walk_at "ms"
  refine ⟨by show 1 ≤ 16777216; decide, fun W1 => ?_⟩
  walk_at "d"
  walk_at "comp"
  walk_at "ms"
  refine it_list (vs := ord.map V.int) (by walk_at "rl") ?_
  refine COMPG.fm0 (fun v => some (.bytes [(lv.getD (vnat v) 0).toNat, (p.getD (vnat v) 0).toNat])) (by simp; omega) (fun _ => rfl) (by walk_at "rl") ?_ ?_
  · intro L2 g2 k v loc2 hv2
    obtain ⟨m, hm, rfl⟩ := ints_get hv2
    have hmo := hoin m (List.mem_of_getElem? hm)
    have e5 : vnat (V.int m) = m.toNat := rfl
    walk_at "d"
    walk_at "ms"
    refine sb_listI (v := .int (lv.getD m.toNat 0)) (by walk_at "rl") (by omega) (gi (by omega)) (by omega) ?_
    walk_at "ms"
    refine sb_listI (v := .int (p.getD m.toNat 0)) (by walk_at "rl") (by omega) (gi (by omega)) (by omega) ?_
    walk_at "ms"
    refine ⟨by show 2 ≤ 16777216; decide, fun B => ?_⟩
    walk_at "ms"
    have in1 : ∀ (l : List Int) (k : Nat), inB l = true → 0 ≤ l.getD k 0 ∧ l.getD k 0 < 256 := fun l k h => by
      rw [List.getD_eq_getElem?_getD]
      cases q : l[k]? with
      | none => simp
      | some y => exact inB.of h y (List.mem_of_getElem? q)
    refine ⟨trivial, ca_ty (ca_bytesL (ns := [lv.getD m.toNat 0, p.getD m.toNat 0]) .here (fun n hn => by
      simp only [List.mem_cons, List.not_mem_nil, or_false] at hn
      rcases hn with rfl | rfl
      · exact in1 _ _ hlvb
      · exact in1 _ _ hpb) (by show 2 ≤ 16777216; decide) ⟨rfl, .drop (.refl _)⟩)⟩
  intro CL
  rw [show (ord.map V.int).filterMap (fun v => some (V.bytes [(lv.getD (vnat v) 0).toNat, (p.getD (vnat v) 0).toNat])) = (ord.map fun k => V.bytes [(lv.getD k.toNat 0).toNat, (p.getD k.toNat 0).toNat]) by rw [List.filterMap_map]; rw [← List.filterMap_eq_map]; rfl]
  walk_at "d"
  refine bo_addL (.there .here) .here (by simp; omega) fun W2 => ?_
  walk_at "ms"
  refine ⟨by show 2 ≤ 16777216; decide, fun B2 => ?_⟩
  walk_at "ms"
  refine ⟨trivial, ca_ty (ca_bytesL (ns := [0, 2]) .here (by decide) (by decide) ?_)⟩
  walk_at "ms"
  refine ⟨by show 1 ≤ 16777216; decide, fun W3 => ?_⟩
  walk_at "d"
  refine bo_addL (.there (.there .here)) .here (by simp; omega) fun DU => ?_
  have eD : (V.bytes (List.map Int.toNat [255, 2]) :: List.map (fun k => V.bytes [(lv.getD k.toNat 0).toNat, (p.getD k.toNat 0).toNat]) ord) ++ [V.bytes (List.map Int.toNat [0, 2])] = sw.map V.bytes := by
    rw [hdue]
    unfold dueF
    rw [List.map_append, List.map_append, List.map_map]; rfl
  rw [eD]
  walk_at "ms"
  refine nx_next (TR.preWK (st' := ⟨[("due", .ref DU), ("order", .ref OR), ("again", .ref AG), ("swept", .ref S), ("text", .bytes (txtF p))], (DU, .list (sw.map V.bytes)) :: (OR, .list (ord.map V.int)) :: (AG, .list (ag.map V.bytes)) :: (LV, .list (lv.map V.int)) :: (S, .list (sw.map V.bytes)) :: (D, .list (p.map V.int)) :: (L0 + 1 + 1 + 1 + 1, .cell (some (.ref LV))) :: (L0 + 1 + 1 + 1, .cell (some (.ref GR))) :: (L0 + 1 + 1, .cell (some (.ref TL))) :: (L0 + 1, .cell (some (.ref D))) :: (TB P1 ⟨92, 64, 92, 84⟩ qSw t1 ++ (TB P2 ⟨99, 67, 99, 87⟩ qSe t2 ++ (TB P3 ⟨115, 23, 115, 38⟩ qBd t3 ++ R0)))⟩) ⟨by walk_at "loc", by walk_at "sub"⟩ ?_)
  walk_at "m"
  refine ⟨F.BA.keeper, ca_bare (c := FcL G A L0 f cdv g s₀ r) F.BA F.H F.INS F.BL (by show 5 ≤ r; omega) b1 b2 (by walk_at "rl") (by omega) fun BR E rvs hrd => ?_⟩
  rw [← hlve] at hrd
  have hlen : (bareI lv p.length).length ≤ 502 := by
    have := congrArg List.length hbare
    rw [List.length_map] at this
    rw [this]
    simp [bareDue]; omega
  have hrl : rvs.length ≤ 502 := by
    have : ∀ {hp : Hp} {vs : List V} {ds : List PyData}, RDs hp vs ds → vs.length = ds.length := by
      intro hp vs
      induction vs with
      | nil => intro ds h; cases h; rfl
      | cons v vs ih => intro ds h; cases h with | cons _ h => simp [ih h]
    rw [this hrd]; simpa using hlen
  have hrd2 : RDs E rvs ((bareDue lv ord).map dInts) := by
    rw [← hbare, List.map_map]; exact hrd
  clear hrd
  walk_at "ms"
  refine nx_next (TR.preWK (st' := ⟨[("bare", .ref BR), ("due", .ref DU), ("order", .ref OR), ("again", .ref AG), ("swept", .ref S), ("text", .bytes (txtF p))], (BR, .list rvs) :: (DU, .list (sw.map V.bytes)) :: (OR, .list (ord.map V.int)) :: (AG, .list (ag.map V.bytes)) :: (LV, .list (lv.map V.int)) :: (S, .list (sw.map V.bytes)) :: (D, .list (p.map V.int)) :: (L0 + 1 + 1 + 1 + 1, .cell (some (.ref LV))) :: (L0 + 1 + 1 + 1, .cell (some (.ref GR))) :: (L0 + 1 + 1, .cell (some (.ref TL))) :: (L0 + 1, .cell (some (.ref D))) :: (E ++ (TB P1 ⟨92, 64, 92, 84⟩ qSw t1 ++ (TB P2 ⟨99, 67, 99, 87⟩ qSe t2 ++ (TB P3 ⟨115, 23, 115, 38⟩ qBd t3 ++ R0))))⟩) ⟨by walk_at "loc", .keep (Sub.swap3 E [_, _, _, _, _, _, _, _, _, _] _)⟩ ?_)
  walk_at "m"
  refine ⟨by show 1 ≤ 16777216; decide, fun Q1 => ?_⟩
  walk_at "ms"
  refine ⟨by show 1 ≤ 16777216; decide, fun W4 => ?_⟩
  walk_at "d"
  walk_at "comp"
  walk_at "ms"
  refine it_list (vs := ord.map V.int) (by walk_at "rl") ?_
  walk_at "d"
  refine ⟨fun L2 i ys hp' => ∃ Ds : List Addr, Ds.length = i ∧ ys = Ds.map V.ref ∧ hp' = (W4, .list [.ref Q1]) :: (Q1, .list [.int 255]) :: (BR, .list rvs) :: (DU, .list (sw.map V.bytes)) :: (OR, .list (ord.map V.int)) :: (AG, .list (ag.map V.bytes)) :: (LV, .list (lv.map V.int)) :: (S, .list (sw.map V.bytes)) :: (D, .list (p.map V.int)) :: (L0 + 1 + 1 + 1 + 1, .cell (some (.ref LV))) :: (L0 + 1 + 1 + 1, .cell (some (.ref GR))) :: (L0 + 1 + 1, .cell (some (.ref TL))) :: (L0 + 1, .cell (some (.ref D))) :: (ents (fun i => [V.int (lv.getD (ord.getD i 0).toNat 0), V.int (ord.getD i 0)]) 0 Ds ++ (E ++ (TB P1 ⟨92, 64, 92, 84⟩ qSw t1 ++ (TB P2 ⟨99, 67, 99, 87⟩ qSe t2 ++ (TB P3 ⟨115, 23, 115, 38⟩ qBd t3 ++ R0))))), by simp; omega, fun L2 => ⟨_, Sub.refl _, [], rfl, rfl, rfl⟩, ?_, ?_, ?_⟩
  · rintro L2 i ys _ ⟨Ds, _, _, rfl⟩
    walk_at "rl"
  · rintro L2 g2 i v ys loc2 _ hv2 ⟨Ds, rfl, rfl, rfl⟩
    obtain ⟨m, hm, rfl⟩ := ints_get hv2
    have hmo := hoin m (List.mem_of_getElem? hm)
    have hmd : ord.getD Ds.length 0 = m := by rw [List.getD_eq_getElem?_getD, hm]; rfl
    walk_at "ms"
    refine sb_listI (v := .int (lv.getD m.toNat 0)) (by walk_at "rl") (by omega) (gi (by omega)) (by omega) ?_
    walk_at "ms"
    refine ⟨by show 2 ≤ 16777216; decide, fun N => ?_⟩
    refine ⟨_, Sub.perm ((List.perm_middle (l₁ := (W4, .list [.ref Q1]) :: (Q1, .list [.int 255]) :: (BR, .list rvs) :: (DU, .list (sw.map V.bytes)) :: (OR, .list (ord.map V.int)) :: (AG, .list (ag.map V.bytes)) :: (LV, .list (lv.map V.int)) :: (S, .list (sw.map V.bytes)) :: (D, .list (p.map V.int)) :: (L0 + 1 + 1 + 1 + 1, .cell (some (.ref LV))) :: (L0 + 1 + 1 + 1, .cell (some (.ref GR))) :: (L0 + 1 + 1, .cell (some (.ref TL))) :: (L0 + 1, .cell (some (.ref D))) :: ents (fun i => [V.int (lv.getD (ord.getD i 0).toNat 0), V.int (ord.getD i 0)]) 0 Ds) (l₂ := E ++ (TB P1 ⟨92, 64, 92, 84⟩ qSw t1 ++ (TB P2 ⟨99, 67, 99, 87⟩ qSe t2 ++ (TB P3 ⟨115, 23, 115, 38⟩ qBd t3 ++ R0))))).symm) (.refl _), Ds ++ [N], by simp, by simp, ?_⟩
    rw [ents_snoc, List.append_assoc, Nat.zero_add, hmd]; rfl
  rintro L2 CL _ _ ⟨Ds, hDl, rfl, rfl⟩
  rw [List.length_map] at hDl
  refine bo_addL (.there .here) .here (by simp; omega) fun W5 => ?_
  walk_at "ms"
  refine ⟨by show 1 ≤ 16777216; decide, fun Q2 => ?_⟩
  walk_at "ms"
  refine ⟨by show 1 ≤ 16777216; decide, fun W6 => ?_⟩
  walk_at "d"
  refine bo_addL (.there (.there .here)) .here (by simp; omega) fun W7 => ?_
  walk_at "d"
  have hdd : (bareDue lv ord).map dInts = ([dInts [255]] ++ (List.range' 0 Ds.length).map (fun i => dInts [lv.getD (ord.getD i 0).toNat 0, ord.getD i 0])) ++ [dInts [-1]] := by
    rw [hDl, range_map_getD (fun k => dInts [lv.getD k.toNat 0, k])]
    unfold bareDue
    rw [List.map_append, List.map_append, List.map_map]; rfl
  refine co_neD (x := .ref BR) (y := .ref W7) (d := dRows (bareDue lv ord)) (e := dRows (bareDue lv ord)) (.list (vs := rvs) (by walk_at "rl") (hrd2.mono (Sub.rl ?_))) (.list .here ?_) (Nat.le_trans (depth_rows _) (by decide)) (Nat.le_trans (depth_rows _) (by decide)) ?_
  · repeat (first | exact Sub.app _ (Sub.left _ _) | apply Sub.drop)
  · rw [hdd]
    refine .append (.append (.cons (RD.ints (.inl (by walk_at "mem"))) .nil) (ents_rds (h := fun i => [V.int (lv.getD (ord.getD i 0).toNat 0), V.int (ord.getD i 0)]) (dd := fun i => [lv.getD (ord.getD i 0).toNat 0, ord.getD i 0]) (fun _ => rfl) 0 Ds fun e he => ?_)) (.cons (RD.ints (.inl (by walk_at "mem"))) .nil)
    repeat (first | exact List.mem_append_left _ he | apply List.Mem.tail)
  rw [eqv_rows, decide_eq_true rfl]
  walk_at "ms"
  refine CN.f rfl ?_
  walk_at "ms"
  refine TR.preWK (st' := ⟨[("bare", .ref BR), ("due", .ref DU), ("again", .ref AG), ("swept", .ref S), ("text", .bytes (txtF p))], ((BR, .list rvs) :: (DU, .list (sw.map V.bytes)) :: (AG, .list (ag.map V.bytes)) :: (S, .list (sw.map V.bytes)) :: (D, .list (p.map V.int)) :: (L0 + 1 + 1 + 1 + 1, .cell (some (.ref LV))) :: (L0 + 1 + 1 + 1, .cell (some (.ref GR))) :: (L0 + 1 + 1, .cell (some (.ref TL))) :: (L0 + 1, .cell (some (.ref D))) :: (E ++ (TB P1 ⟨92, 64, 92, 84⟩ qSw t1 ++ TB P2 ⟨99, 67, 99, 87⟩ qSe t2))) ++ (TB P3 ⟨115, 23, 115, 38⟩ qBd t3 ++ R0)⟩) ⟨by walk_at "loc", ?_⟩ ?_
  · simp only [List.cons_append, List.append_assoc]
    refine .app [_, _, _, _, _, _, _] (.keep (.keep (.drop (.keep (.drop (.keep (.keep (.keep (.keep (.keep (.keep (.app _ (.refl _)))))))))))))
  with_reducible refine eb_plain ?_ rfl
  have hRr : RL (((BR, .list rvs) :: (DU, .list (sw.map V.bytes)) :: (AG, .list (ag.map V.bytes)) :: (S, .list (sw.map V.bytes)) :: (D, .list (p.map V.int)) :: (L0 + 1 + 1 + 1 + 1, .cell (some (.ref LV))) :: (L0 + 1 + 1 + 1, .cell (some (.ref GR))) :: (L0 + 1 + 1, .cell (some (.ref TL))) :: (L0 + 1, .cell (some (.ref D))) :: (E ++ (TB P1 ⟨92, 64, 92, 84⟩ qSw t1 ++ TB P2 ⟨99, 67, 99, 87⟩ qSe t2))) ++ R0) BR rvs := .inl (.head _)
  have hRd : RDs (((BR, .list rvs) :: (DU, .list (sw.map V.bytes)) :: (AG, .list (ag.map V.bytes)) :: (S, .list (sw.map V.bytes)) :: (D, .list (p.map V.int)) :: (L0 + 1 + 1 + 1 + 1, .cell (some (.ref LV))) :: (L0 + 1 + 1 + 1, .cell (some (.ref GR))) :: (L0 + 1 + 1, .cell (some (.ref TL))) :: (L0 + 1, .cell (some (.ref D))) :: (E ++ (TB P1 ⟨92, 64, 92, 84⟩ qSw t1 ++ TB P2 ⟨99, 67, 99, 87⟩ qSe t2))) ++ R0) rvs ((bareDue lv ord).map dInts) := hrd2.mono (Sub.rl (by
    rw [List.cons_append]
    simp only [List.cons_append, List.append_assoc]
    repeat (first | exact Sub.left _ _ | apply Sub.drop)))
  walk_at "ms"
  refine ⟨F.BO.keeper, ca_bounds' (c := FcL G A L0 f cdv g s₀ r) (A := BR) (rvs := rvs) (rd := (bareDue lv ord).map dInts) F.BO F.INS F.BL (by show 5 ≤ r; omega) b1 b6 F.bve hl hP3 hRr hRd (by omega) (depthAll_map dInts 10 (fun a => Nat.le_trans (depth_ints a) (by decide)) _) (by rw [eqv_rows]; exact decide_eq_true rfl) fun t3 => ?_⟩
  walk_at "ms"
  refine CN.f rfl ?_
  refine ex_nil (nx_next ?_)
  refine TR.preWK (st' := ⟨[("due", .ref DU), ("again", .ref AG), ("swept", .ref S), ("text", .bytes (txtF p))], ((DU, .list (sw.map V.bytes)) :: (AG, .list (ag.map V.bytes)) :: (S, .list (sw.map V.bytes)) :: (D, .list (p.map V.int)) :: (L0 + 1 + 1 + 1 + 1, .cell (some (.ref LV))) :: (L0 + 1 + 1 + 1, .cell (some (.ref GR))) :: (L0 + 1 + 1, .cell (some (.ref TL))) :: (L0 + 1, .cell (some (.ref D))) :: TB P1 ⟨92, 64, 92, 84⟩ qSw t1) ++ (TB P2 ⟨99, 67, 99, 87⟩ qSe t2 ++ (TB P3 ⟨115, 23, 115, 38⟩ qBd t3 ++ R0))⟩) ⟨by walk_at "loc", ?_⟩ ?_
  · simp only [List.cons_append, List.append_assoc]
    exact .drop (.keep (.keep (.keep (.keep (.keep (.keep (.keep (.keep (.app _ (.refl _))))))))))
  walk_at "d"
  walk_at "m"
  refine v_and3 ?_
  walk_at "ms"
  refine co_eqBL (xs := sw) (ys := sw) (by walk_at "rl") (by walk_at "rl") ?_
  walk_at "ms"
  refine CN.t (decide_eq_true rfl) ?_
  refine v_and2 ?_
  walk_at "ms"
  have hlt : ∀ x ∈ txtF p, x < 256 := fun x hx => by
    unfold txtF at hx
    obtain ⟨n, hn, rfl⟩ := List.mem_map.mp hx
    have := inB.of htx n hn
    omega
  refine ⟨F.E.keeper, ca_sweptE' (c := FcL G A L0 f cdv g s₀ r) (X := (DU, .list (sw.map V.bytes)) :: (AG, .list (ag.map V.bytes)) :: (S, .list (sw.map V.bytes)) :: (D, .list (p.map V.int)) :: (L0 + 1 + 1 + 1 + 1, .cell (some (.ref LV))) :: (L0 + 1 + 1 + 1, .cell (some (.ref GR))) :: (L0 + 1 + 1, .cell (some (.ref TL))) :: (L0 + 1, .cell (some (.ref D))) :: TB P1 ⟨92, 64, 92, 84⟩ qSw t1) (nb := p.length) F.E F.INR F.BR (by show 6 ≤ r; omega) b1 b2 b3 b4 b5 F.W hP2 htxt (by omega) hn0 hlt fun EL t2 => ?_⟩
  rw [hdueE, ← hdue]
  walk_at "d"
  walk_at "ms"
  refine co_eqBL (xs := sw) (ys := sw) .here (by walk_at "rl") ?_
  walk_at "ms"
  refine CN.t (decide_eq_true rfl) ?_
  walk_at "ms"
  walk_at "comp"
  walk_at "ms"
  intro sl
  refine sb_listS (vs := ag.map V.bytes) (by walk_at "rl") (.int _) (.int _) (by simp; omega) fun D2 => ?_
  rw [slc_map]
  refine it_list .here ?_
  refine COMPG.fm0 (fun v => match v with | .bytes b => some (.int (b.getD 1 0 : Nat)) | _ => none) (by have := slc_length ag (some 1) (some (-1)); simp; omega) (fun _ => rfl) .here ?_ ?_
  · intro L2 g2 k v loc2 hv2
    rw [List.getElem?_map] at hv2
    obtain ⟨b, hb, rfl⟩ := Option.map_eq_some_iff.mp hv2
    have hbl := hag2 b (List.mem_of_getElem? hb)
    walk_at "ms"
    refine sb_bytesI (n := b.getD 1 0) (fun _ _ _ e => by cases e) (by decide) ?_ (by omega) ⟨rfl, .refl _⟩
    show b[1]? = some (b.getD 1 0)
    rw [List.getD_eq_getElem?_getD, List.getElem?_eq_getElem (by omega)]; rfl
  intro TL2
  have eT : ((slc ag (some 1) (some (-1))).map V.bytes).filterMap (fun v => match v with | .bytes b => some (V.int (b.getD 1 0 : Nat)) | _ => none) = p.map V.int := by
    rw [← hag]
    unfold toldF
    rw [List.filterMap_map, List.map_map, ← List.filterMap_eq_map]
    rfl
  rw [eT]
  walk_at "d"
  walk_at "ms"
  refine co_eqInts .here (by walk_at "rl") ?_
  rw [decide_eq_true rfl]
  walk_at "ms"
  refine ⟨t1, t2, t3, rfl, ?_⟩
  walk_at "d"
  repeat (first | exact Sub.refl _ | apply Sub.drop)
end

section
variable {c : Fc} {sc P1 P2 P3 L0 f : Addr} {ns bp : List Int} {t1 t2 t3 : Option Addr} {R0 : Hp} {cdv : Value} {g : Heap} {s₀ : Shared} {r : Nat} {A : Around} {G : Gl} {l0 : List Env}
--abbrev FcL (G : Gl) (A : Around) (L f : Addr) (cdv : Value) (g : Heap) (s₀ : Shared) (r : Nat) : Fc := FcX G A "law" (fdS PB 17) L f cdv (cellsFrom (L + 1) (fdS PB 17).names []) g s₀ r
theorem ex_law (F : Fns G) (hr : 10 ≤ r) (hl : A.frames = some l0) (hP1 : codeHdIn G.K F.cs P1 = true) (hP2 : codeHdIn G.K F.ce P2 = true) (hP3 : codeHdIn G.K F.cbo P3 = true)
    (hm : RL R0 sc (ns.map V.int)) (hz : ns.length ≤ 63) (ok : LawOk (drawnF ns) bp) :
    EX (FcL G A L0 f cdv g s₀ r) (fdB PB 17) ⟨[("script", .ref sc)], (L0 + 1 + 1 + 1 + 1, .cell none) :: (L0 + 1 + 1 + 1, .cell none) :: (L0 + 1 + 1, .cell none) :: (L0 + 1, .cell none) :: (TB P1 ⟨92, 64, 92, 84⟩ qSw t1 ++ (TB P2 ⟨99, 67, 99, 87⟩ qSe t2 ++ (TB P3 ⟨115, 23, 115, 38⟩ qBd t3 ++ R0)))⟩
      fun fl st => ∃ t1 t2 t3, fl = .ret (.bool true) ∧ Sub st.hp (TB P1 ⟨92, 64, 92, 84⟩ qSw t1 ++ (TB P2 ⟨99, 67, 99, 87⟩ qSe t2 ++ (TB P3 ⟨115, 23, 115, 38⟩ qBd t3 ++ R0))) := by
  have d1 := F.D.1; have d2 := F.T.1; have d3 := F.S.1; have d4 := F.H.1; have d5 := F.O.1; have d6 := F.E.1; have d7 := F.BA.1; have d8 := F.BO.1; have d9 := F.BK.1
  have b1 := F.blen; have b2 := F.brange; have b3 := F.bbytes; have b4 := F.bba; have b5 := F.bis; have b6 := F.blist; have b7 := F.bmax; have b8 := F.bmin; have b9 := F.bsum; have b10 := F.bve
  have hmR : ∀ X t1 t2 t3, RL (X ++ (TB P1 ⟨92, 64, 92, 84⟩ qSw t1 ++ (TB P2 ⟨99, 67, 99, 87⟩ qSe t2 ++ (TB P3 ⟨115, 23, 115, 38⟩ qBd t3 ++ R0)))) sc (ns.map V.int) := fun X t1 t2 t3 => hm.sub (.app _ (.app _ (.app _ (.app _ (.refl _)))))
  conv => arg 2; whnf
  walk_at "ms"
  refine ⟨F.D.keeper, ca_drawn (c := FcL G A L0 f cdv g s₀ r) (cd := F.cdr) F.D (by show 0 < r; omega) b1 b2 (hmR [_, _, _, _] _ _ _) hz fun D => ?_⟩
  generalize drawnF ns = p at ok ⊢
  have htxt := txtF_len p
  have hn1 := ok.n1
  walk_at "m"
  refine ⟨F.T.keeper, ca_text (c := FcL G A L0 f cdv g s₀ r) F.T F.H (by show 2 ≤ r; omega) b1 b2 b3 .here (by omega) (inB.of ok.tx) ?_⟩
  walk_at "m"
  refine ⟨F.S.keeper, ca_swept' (c := FcL G A L0 f cdv g s₀ r) (X := [_, _, _, _, _]) (nb := p.length) F.S F.INS F.BL (by show 6 ≤ r; omega) b1 b2 b3 hP1 htxt (by omega) fun S t1 => ?_⟩
  have hsw2 := ok.sw2
  have hswl := ok.swl
  have hdue := ok.due
  have hdueE := ok.dueE
  have htl := ok.tl
  have htb := ok.tb
  have hgr := ok.gr
  have hg0 := ok.g0
  have hav := ok.av
  have hbk := ok.bk
  generalize sweptF (txtF p) p.length = sw at hsw2 hswl hdue htl htb hgr hg0 hav hbk ⊢
  dsimp only [List.cons_append, List.nil_append]
  walk_at "m"
  walk_at "comp"
  walk_at "ms"
  intro sl
  refine sb_listS (vs := sw.map V.bytes) (by walk_at "rl") (.int _) (.int _) (by simp; omega) fun D2 => ?_
  rw [slc_map]
  refine it_list .here ?_
  refine COMPG.fm0 (fun v => match v with | .bytes b => some (.int (b.getD 1 0 : Nat)) | _ => none) (by have := slc_length sw (some 1) (some (-1)); simp; omega) (fun _ => rfl) .here ?_ ?_
  · intro L2 g2 k v loc2 hv2
    rw [List.getElem?_map] at hv2
    obtain ⟨b, hb, rfl⟩ := Option.map_eq_some_iff.mp hv2
    have hbl := hsw2 b (List.mem_of_getElem? hb)
    walk_at "ms"
    refine sb_bytesI (n := b.getD 1 0) (fun _ _ _ e => by cases e) (by decide) ?_ (by omega) ⟨rfl, .refl _⟩
    show b[1]? = some (b.getD 1 0)
    rw [List.getD_eq_getElem?_getD, List.getElem?_eq_getElem (by omega)]; rfl
  intro TL
  have eT : ((slc sw (some 1) (some (-1))).map V.bytes).filterMap (fun v => match v with | .bytes b => some (V.int (b.getD 1 0 : Nat)) | _ => none) = (toldF sw).map V.int := by
    unfold toldF
    rw [List.filterMap_map, List.map_map, ← List.filterMap_eq_map]
    rfl
  rw [eT]
  generalize toldF sw = told at htl htb hgr hg0 hav hbk ⊢
  walk_at "d"
  walk_at "m"
  refine ⟨F.H.keeper, ca_heights (c := FcL G A L0 f cdv g s₀ r) F.H (by show 0 < r; omega) .here (by omega) fun GR => ?_⟩
  have hGl := htF_len told
  have hLl := htF_len p
  walk_at "d"
  walk_at "m"
  refine ⟨F.H.keeper, ca_heights (c := FcL G A L0 f cdv g s₀ r) F.H (by show 0 < r; omega) (by walk_at "rl") (by omega) fun LV => ?_⟩
  walk_at "d"
  walk_at "m"
  walk_at "comp"
  walk_at "ms"
  refine ⟨trivial, ca_bi (len_listR (vs := told.map V.int) (by walk_at "rl") (by simp; omega) ?_)⟩
  walk_at "ms"
  rw [List.length_map]
  refine ⟨trivial, ca_ty (ca_range1 fun R2 => it_range (n := told.length) (rangeN (by omega)) sizeN ?_)⟩
  refine COMPG.fm0 (fun v => if told.getD (vnat v) 0 == 1 then some (.int ((htF told).getD (vnat v) 0)) else none) (by rw [rItems_length]; omega) (fun _ => rfl) trivial ?_ ?_
  · intro L2 g2 k v loc2 hv2
    obtain ⟨hk, rfl⟩ := rItems_get hv2
    have e4 : (0 + (k : Int) * 1).toNat = k := by omega
    have e5 : vnat (V.int (0 + (k : Int) * 1)) = k := e4
    walk_at "d"
    walk_at "ms"
    refine sb_listI (v := .int (told.getD k 0)) (by walk_at "rl") (by omega) (by rw [e4]; exact gi hk) (by omega) ?_
    walk_at "ms"
    refine CN.by (fun e => ?_) (fun e => ?_)
    · walk_at "ms"
      refine sb_listI (v := .int ((htF told).getD k 0)) (by walk_at "rl") (by omega) (by rw [e4]; exact gi (by omega)) (by omega) ?_
      rw [e5, if_pos e]
      exact ⟨rfl, .refl _⟩
    · rw [e5, if_neg (by rw [e]; decide)]
      exact ⟨rfl, .refl _⟩
  intro AL
  rw [rItems_fm told.length (fun k => told.getD k 0 == 1) (fun k => .int ((htF told).getD k 0)) _ (fun k hk => by
    have e5 : vnat (V.int (0 + (k : Int) * 1)) = k := by show (0 + (k : Int) * 1).toNat = k; omega
    rw [e5])]
  rw [show (((List.range told.length).filter fun k => told.getD k 0 == 1).map fun k => V.int ((htF told).getD k 0)) = ((((List.range told.length).filter fun k => told.getD k 0 == 1).map fun k => (htF told).getD k 0)).map V.int by rw [List.map_map]; rfl]
  walk_at "d"
  walk_at "ms"
  refine ⟨trivial, ca_bi (ca_sum .here ?_)⟩
  walk_at "d"
  walk_at "m"
  walk_at "comp"
  walk_at "ms"
  refine ⟨trivial, ca_bi (len_listR (vs := p.map V.int) (by walk_at "rl") (by simp; omega) ?_)⟩
  walk_at "ms"
  rw [List.length_map]
  refine ⟨trivial, ca_ty (ca_range1 fun R2 => it_range (n := p.length) (rangeN (by omega)) sizeN ?_)⟩
  refine COMPG.fm1 (fun v => if p.getD (vnat v) 0 == 1 then some (.int (cntF (htF p) (vnat v))) else none) (by rw [rItems_length]; omega) (fun _ => rfl) (fun _ => trivial) ?_ ?_
  · intro L2 g2 k v loc2 e2 hv2
    obtain ⟨hk, rfl⟩ := rItems_get hv2
    have e4 : (0 + (k : Int) * 1).toNat = k := by omega
    have e5 : vnat (V.int (0 + (k : Int) * 1)) = k := e4
    have e6 : (0 + (k : Int) * 1) = (k : Int) := by omega
    walk_at "d"
    walk_at "ms"
    refine sb_listI (v := .int (p.getD k 0)) (by walk_at "rl") (by omega) (by rw [e4]; exact gi hk) (by omega) ?_
    walk_at "ms"
    refine CN.by (fun e => ?_) (fun e => ?_)
    · walk_at "ms"
      walk_at "comp"
      walk_at "ms"
      rw [e6]
      refine ⟨trivial, ca_ty (ca_range1 fun R2 => it_range (n := k) (rangeN (by omega)) sizeN ?_)⟩
      refine COMPG.fm0 (fun v => if (htF p).getD (vnat v) 0 == (htF p).getD k 0 then some v else none) (by rw [rItems_length]; omega) (fun _ => rfl) trivial ?_ ?_
      · intro L3 g3 j v loc3 hv3
        obtain ⟨hj, rfl⟩ := rItems_get hv3
        have e4 : (0 + (j : Int) * 1).toNat = j := by omega
        have e5 : vnat (V.int (0 + (j : Int) * 1)) = j := e4
        walk_at "d"
        walk_at "ms"
        refine sb_listI (v := .int ((htF p).getD j 0)) (by walk_at "rl") (by omega) (by rw [e4]; exact gi (by omega)) (by omega) ?_
        walk_at "ms"
        refine sb_listN (v := .int ((htF p).getD k 0)) (by walk_at "rl") (gi (by omega)) (by omega) ?_
        walk_at "ms"
        refine CN.by (fun e => ?_) (fun e => ?_)
        · walk_at "ms"
          rw [e5, if_pos e]
          exact ⟨rfl, .refl _⟩
        · rw [e5, if_neg (by rw [e]; decide)]
          exact ⟨rfl, .refl _⟩
      intro JL
      rw [rItems_fm k (fun j => (htF p).getD j 0 == (htF p).getD k 0) (fun j => .int (0 + (j : Int) * 1)) _ (fun j hj => by
        have e5 : vnat (V.int (0 + (j : Int) * 1)) = j := by show (0 + (j : Int) * 1).toNat = j; omega
        rw [e5])]
      walk_at "d"
      walk_at "ms"
      refine ⟨trivial, ca_bi (len_listR .here (by simp; exact Nat.le_trans (List.length_filter_le _ _) (by simp; omega)) ?_)⟩
      rw [show vnat (V.int (k : Int)) = k from Int.toNat_natCast k, if_pos e, List.length_map]
      exact ⟨rfl, _, .drop (.refl _)⟩
    · rw [e5, if_neg (by rw [e]; decide)]
      exact ⟨rfl, _, .refl _⟩
  intro L2 ce VL
  rw [rItems_fm p.length (fun k => p.getD k 0 == 1) (fun k => .int (cntF (htF p) k)) _ (fun k hk => by
    have e5 : vnat (V.int (0 + (k : Int) * 1)) = k := by show (0 + (k : Int) * 1).toNat = k; omega
    rw [e5])]
  rw [show (((List.range p.length).filter fun k => p.getD k 0 == 1).map fun k => V.int (cntF (htF p) k)) = ((((List.range p.length).filter fun k => p.getD k 0 == 1).map fun k => cntF (htF p) k)).map V.int by rw [List.map_map]; rfl]
  walk_at "d"
  walk_at "ms"
  refine ⟨trivial, ca_bi (ca_sum .here ?_)⟩
  walk_at "d"
  walk_at "m"
  refine ⟨trivial, ca_bi (ca_min (ns := htF told) (by walk_at "rl") (by intro e; rw [e] at hGl; cases hGl) fun M hM1 hM2 => ?_)⟩
  walk_at "ms"
  refine CN.f (decide_eq_false (by have := hgr _ hM1; omega)) ?_
  walk_at "ms"
  have hgl : (htF told).map V.int = (told.foldl htStep ([], 0)).1.map V.int ++ [V.int 0] := by
    unfold htF; rw [List.map_append]
    show _ ++ [V.int (told.foldl htStep ([], 0)).2] = _
    rw [hg0]
  refine sb_last (vs := (told.foldl htStep ([], 0)).1.map V.int) (v := .int 0) (by rw [← hgl]; walk_at "rl") ?_
  walk_at "ms"
  refine CN.f (by decide) ?_
  walk_at "ms"
  refine CN.f (by
    have : areaF (htF told) told = visF (htF p) p := hav
    unfold areaF visF at this
    rw [this]; simp) ?_
  walk_at "ms"
  refine ⟨F.BK.keeper, ca_back (c := FcL G A L0 f cdv g s₀ r) F.BK F.BR F.BL F.W (by show 4 ≤ r; omega) b1 b2 b3 b4 (by walk_at "rl") htl (inB.of htb) hbk fun BKL => ?_⟩
  walk_at "d"
  walk_at "ms"
  refine co_neInts .here (by walk_at "rl") ?_
  walk_at "ms"
  refine CN.f (by simp) ?_
  walk_at "d"
  refine ex_nil (nx_next ?_)
  refine TR.preWK (st' := ⟨[("swept", .ref S), ("text", .bytes (txtF p))], (LV, .list ((htF p).map V.int)) :: (S, .list (sw.map V.bytes)) :: (D, .list (p.map V.int)) :: (L0 + 1 + 1 + 1 + 1, .cell (some (.ref LV))) :: (L0 + 1 + 1 + 1, .cell (some (.ref GR))) :: (L0 + 1 + 1, .cell (some (.ref TL))) :: (L0 + 1, .cell (some (.ref D))) :: (TB P1 ⟨92, 64, 92, 84⟩ qSw t1 ++ (TB P2 ⟨99, 67, 99, 87⟩ qSe t2 ++ (TB P3 ⟨115, 23, 115, 38⟩ qBd t3 ++ R0)))⟩) ⟨by walk_at "loc", by walk_at "sub"⟩ ?_
  walk_at "m"
  refine ⟨F.BK.keeper, ca_back (c := FcL G A L0 f cdv g s₀ r) F.BK F.BR F.BL F.W (by show 4 ≤ r; omega) b1 b2 b3 b4 (by walk_at "rl") hn1 (inB.of ok.pb) ok.bkp fun BP => ?_⟩
  walk_at "d"
  walk_at "ms"
  have hb1 := ok.m0
  refine ⟨F.T.keeper, ca_text (c := FcL G A L0 f cdv g s₀ r) F.T F.H (by show 2 ≤ r; omega) b1 b2 b3 .here (by omega) (inB.of ok.bx) ?_⟩
  have hbtx := txtF_len bp
  walk_at "ms"
  refine ⟨F.S.keeper, ca_swept' (c := FcL G A L0 f cdv g s₀ r) (X := [_, _, _, _, _, _, _, _]) (nb := bp.length) F.S F.INS F.BL (by show 6 ≤ r; omega) b1 b2 b3 hP1 hbtx (by omega) fun AG t1 => ?_⟩
  have hag2 := ok.ag2
  have hagl := ok.agl
  have hag := ok.ag
  generalize sweptF (txtF bp) bp.length = ag at hag2 hagl hag ⊢
  walk_at "d"
  walk_at "m"
  refine ⟨F.O.keeper, ca_order (c := FcL G A L0 f cdv g s₀ r) F.O F.H (by show 2 ≤ r; omega) b1 b2 b7 (by walk_at "rl") (by omega) ok.mx0 ok.mx1 fun OR => ?_⟩
  have hoin := ok.oin
  have hol := ok.ol
  have hbare := ok.bare
  generalize orderF p = ord at hdue hdueE hoin hol hbare ⊢
  walk_at "d"
  walk_at "ms"
  refine nx_next (TR.preWK (st' := ⟨[("order", .ref OR), ("again", .ref AG), ("swept", .ref S), ("text", .bytes (txtF p))], (OR, .list (ord.map V.int)) :: (AG, .list (ag.map V.bytes)) :: (LV, .list ((htF p).map V.int)) :: (S, .list (sw.map V.bytes)) :: (D, .list (p.map V.int)) :: (L0 + 1 + 1 + 1 + 1, .cell (some (.ref LV))) :: (L0 + 1 + 1 + 1, .cell (some (.ref GR))) :: (L0 + 1 + 1, .cell (some (.ref TL))) :: (L0 + 1, .cell (some (.ref D))) :: (TB P1 ⟨92, 64, 92, 84⟩ qSw t1 ++ (TB P2 ⟨99, 67, 99, 87⟩ qSe t2 ++ (TB P3 ⟨115, 23, 115, 38⟩ qBd t3 ++ R0)))⟩) ⟨by walk_at "loc", by walk_at "sub"⟩ ?_)
  exact ex_law2 F hr hl hP2 hP3 ok.n0 hn1 hLl hoin hol ok.lvb ok.pb rfl hdue hdueE hbare hag2 hagl hag ok.tx
end

/-! ## the plain law -/
noncomputable def lawB (p : List Int) : Bool :=
  match backF p with
  | none => false
  | some bp =>
    let n := p.length
    let hp := htF p
    let tx := txtF p
    let sw := sweptF tx n
    let ag := sweptF (txtF bp) bp.length
    let told := toldF sw
    let g := htF told
    let ord := orderF p
    let due := dueF hp p ord
    decide (0 < n) && decide (n ≤ 500) && decide (bp.length ≤ 500) && inB (txtI p) && inB (txtI bp) && ((slc sw (some 1) (some (-1))).all fun b => b.length == 2) && ((slc ag (some 1) (some (-1))).all fun b => b.length == 2)
    && decide (sw.length ≤ 1000) && decide (ag.length ≤ 1000) && decide (told.length ≤ 500) && inB told && (g.all fun x => decide (0 ≤ x)) && decide ((told.foldl htStep ([], 0)).2 = 0) && decide (areaF g told = visF hp p) && decide (backF told = some p)
    && decide (0 ≤ maxF hp) && decide (maxF hp ≤ 1000) && (ord.all fun k => decide (0 ≤ k) && decide (k < n)) && inB hp && inB p && decide (sw = due) && decide (sweptRF (bswF (bswF tx tx.length 1) 2 n) n = due) && decide ((bareI hp n).map (bareD hp n 255 (-1)) = bareDue hp ord) && decide (ord.length ≤ 500) && decide (toldF ag = p)
theorem lawB_ok {p : List Int} (h : lawB p = true) : ∃ bp, LawOk p bp := by
  unfold lawB at h
  cases hb : backF p with
  | none => rw [hb] at h; cases h
  | some bp =>
    rw [hb] at h
    simp only [Bool.and_eq_true, decide_eq_true_eq, List.all_eq_true, beq_iff_eq] at h
    obtain ⟨⟨⟨⟨⟨⟨⟨⟨⟨⟨⟨⟨⟨⟨⟨⟨⟨⟨⟨⟨⟨⟨⟨⟨a1, a2⟩, a3⟩, a4⟩, a5⟩, a6⟩, a7⟩, a8⟩, a9⟩, a10⟩, a11⟩, a12⟩, a13⟩, a14⟩, a15⟩, a16⟩, a17⟩, a18⟩, a19⟩, a20⟩, a21⟩, a22⟩, a23⟩, a24⟩, a25⟩ := h
    exact ⟨bp, a1, a2, a3, a4, a5, a6, a7, a8, a9, a10, a11, a12, a13, a14, a15, hb, a16, a17, a18, a19, a20, a21, a22, a23, a24, a25⟩
noncomputable def updP (s : List Int × Int) (m : Int) : List Int × Int := (s.1 ++ [m], s.2 + (2 * m - 1))
noncomputable def genP : Nat → List Int × Int → List (List Int)
  | 0, s => [s.1 ++ List.replicate s.2.toNat 0]
  | n + 1, s => if s.2 = 0 then genP n (updP s 1) else genP n (updP s 0) ++ genP n (updP s 1)
theorem drawn_gen (ns : List Int) : ∀ (l : List Nat) (s : List Int × Int), (l.foldl (drawStep ns) s).1 ++ List.replicate (l.foldl (drawStep ns) s).2.toNat 0 ∈ genP l.length s
  | [], s => by simp [genP]
  | k :: l, s => by
    rw [List.foldl_cons, List.length_cons, genP]
    have ih := drawn_gen ns l (drawStep ns s k)
    by_cases h : s.2 = 0
    · rw [if_pos h]
      have e : drawStep ns s k = updP s 1 := by unfold drawStep updP; rw [if_pos h]
      rw [e] at ih ⊢; exact ih
    · rw [if_neg h]
      have e : drawStep ns s k = updP s ((drawNum ns k).fmod 2) := by unfold drawStep updP; rw [if_neg h]
      rw [e] at ih ⊢
      rcases fmod2 (drawNum ns k) with h2 | h2
      · rw [h2] at ih ⊢; exact List.mem_append_left _ ih
      · rw [h2] at ih ⊢; exact List.mem_append_right _ ih
theorem drawnF_mem (ns : List Int) : drawnF ns ∈ genP 10 ([], 0) := drawn_gen ns (List.range 10) ([], 0)

noncomputable def stP : Nat → List Int × Int → List (List Int × Int)
  | 0, s => [s]
  | n + 1, s => if s.2 = 0 then stP n (updP s 1) else stP n (updP s 0) ++ stP n (updP s 1)
theorem genP_split (m : Nat) : ∀ (n : Nat) (s : List Int × Int), ∀ p ∈ genP (n + m) s, ∃ t ∈ stP n s, p ∈ genP m t
  | 0, s, p, h => ⟨s, .head _, by rwa [Nat.zero_add] at h⟩
  | n + 1, s, p, h => by
    rw [show n + 1 + m = (n + m) + 1 by omega, genP] at h
    rw [stP]
    by_cases h0 : s.2 = 0
    · rw [if_pos h0] at h ⊢
      exact genP_split m n _ p h
    · rw [if_neg h0] at h ⊢
      rcases List.mem_append.mp h with h | h
      · obtain ⟨t, ht, hp⟩ := genP_split m n _ p h
        exact ⟨t, List.mem_append_left _ ht, hp⟩
      · obtain ⟨t, ht, hp⟩ := genP_split m n _ p h
        exact ⟨t, List.mem_append_right _ ht, hp⟩
theorem stP_is : stP 6 ([], 0) = [([1, 0, 1, 0, 1, 0], 0), ([1, 0, 1, 0, 1, 1], 2), ([1, 0, 1, 1, 0, 0], 0), ([1, 0, 1, 1, 0, 1], 2), ([1, 0, 1, 1, 1, 0], 2), ([1, 0, 1, 1, 1, 1], 4), ([1, 1, 0, 0, 1, 0], 0), ([1, 1, 0, 0, 1, 1], 2), ([1, 1, 0, 1, 0, 0], 0), ([1, 1, 0, 1, 0, 1], 2), ([1, 1, 0, 1, 1, 0], 2), ([1, 1, 0, 1, 1, 1], 4), ([1, 1, 1, 0, 0, 0], 0), ([1, 1, 1, 0, 0, 1], 2), ([1, 1, 1, 0, 1, 0], 2), ([1, 1, 1, 0, 1, 1], 4), ([1, 1, 1, 1, 0, 0], 2), ([1, 1, 1, 1, 0, 1], 4), ([1, 1, 1, 1, 1, 0], 4), ([1, 1, 1, 1, 1, 1], 6)] := by decide +kernel
theorem law_c0 : ((genP 4 ([1, 0, 1, 0, 1, 0], 0)).all lawB) = true := by decide +kernel
theorem law_c1 : ((genP 4 ([1, 0, 1, 0, 1, 1], 2)).all lawB) = true := by decide +kernel
theorem law_c2 : ((genP 4 ([1, 0, 1, 1, 0, 0], 0)).all lawB) = true := by decide +kernel
theorem law_c3 : ((genP 4 ([1, 0, 1, 1, 0, 1], 2)).all lawB) = true := by decide +kernel
theorem law_c4 : ((genP 4 ([1, 0, 1, 1, 1, 0], 2)).all lawB) = true := by decide +kernel
theorem law_c5 : ((genP 4 ([1, 0, 1, 1, 1, 1], 4)).all lawB) = true := by decide +kernel
theorem law_c6 : ((genP 4 ([1, 1, 0, 0, 1, 0], 0)).all lawB) = true := by decide +kernel
theorem law_c7 : ((genP 4 ([1, 1, 0, 0, 1, 1], 2)).all lawB) = true := by decide +kernel
theorem law_c8 : ((genP 4 ([1, 1, 0, 1, 0, 0], 0)).all lawB) = true := by decide +kernel
theorem law_c9 : ((genP 4 ([1, 1, 0, 1, 0, 1], 2)).all lawB) = true := by decide +kernel
theorem law_c10 : ((genP 4 ([1, 1, 0, 1, 1, 0], 2)).all lawB) = true := by decide +kernel
theorem law_c11 : ((genP 4 ([1, 1, 0, 1, 1, 1], 4)).all lawB) = true := by decide +kernel
theorem law_c12 : ((genP 4 ([1, 1, 1, 0, 0, 0], 0)).all lawB) = true := by decide +kernel
theorem law_c13 : ((genP 4 ([1, 1, 1, 0, 0, 1], 2)).all lawB) = true := by decide +kernel
theorem law_c14 : ((genP 4 ([1, 1, 1, 0, 1, 0], 2)).all lawB) = true := by decide +kernel
theorem law_c15 : ((genP 4 ([1, 1, 1, 0, 1, 1], 4)).all lawB) = true := by decide +kernel
theorem law_c16 : ((genP 4 ([1, 1, 1, 1, 0, 0], 2)).all lawB) = true := by decide +kernel
theorem law_c17 : ((genP 4 ([1, 1, 1, 1, 0, 1], 4)).all lawB) = true := by decide +kernel
theorem law_c18 : ((genP 4 ([1, 1, 1, 1, 1, 0], 4)).all lawB) = true := by decide +kernel
theorem law_c19 : ((genP 4 ([1, 1, 1, 1, 1, 1], 6)).all lawB) = true := by decide +kernel
theorem lawB_all (ns : List Int) : lawB (drawnF ns) = true := by
  obtain ⟨t, ht, hp⟩ := genP_split 4 6 ([], 0) _ (drawnF_mem ns)
  rw [stP_is] at ht
  have key : ((genP 4 t).all lawB) = true := by
    simp only [List.mem_cons, List.not_mem_nil, or_false] at ht
    rcases ht with rfl | rfl | rfl | rfl | rfl | rfl | rfl | rfl | rfl | rfl | rfl | rfl | rfl | rfl | rfl | rfl | rfl | rfl | rfl | rfl
    · exact law_c0
    · exact law_c1
    · exact law_c2
    · exact law_c3
    · exact law_c4
    · exact law_c5
    · exact law_c6
    · exact law_c7
    · exact law_c8
    · exact law_c9
    · exact law_c10
    · exact law_c11
    · exact law_c12
    · exact law_c13
    · exact law_c14
    · exact law_c15
    · exact law_c16
    · exact law_c17
    · exact law_c18
    · exact law_c19
  exact List.all_eq_true.mp key _ hp
theorem law_ok (ns : List Int) : ∃ bp, LawOk (drawnF ns) bp := lawB_ok (lawB_all ns)

/-! ## from the head to the first state -/
section
variable {h₁ : Heap} {as : List Addr} {p : Program} {loose : List Str} {mean : ExcName → Option Value} {mg mb : Str → Option Value} {K : Frag}
noncomputable def HidOk (h₁ : Heap) (as : List Addr) : Prop := ∀ a ∈ as, ∀ o, h₁.get? a = some o → (∀ es n, o.data ≠ .dict es n) ∧ o.cls ≠ .type "module"
theorem hid_get {b : Addr} {o : Obj} (hh : HidOk h₁ as) (e : h₁.get? b = some o) (hn : (∃ es n, o.data = .dict es n) ∨ o.cls = .type "module") : (hideAll h₁ as).get? b = some o :=
  hideAll_get _ e fun hm => by
    obtain ⟨h1, h2⟩ := hh b hm o e
    rcases hn with ⟨es, n, hd⟩ | hc
    · exact h1 es n hd
    · exact h2 hc
theorem hid_ns {a : Addr} {mm : Str → Option Value} (hh : HidOk h₁ as) (x : h₁.Ns a mm) : (hideAll h₁ as).Ns a mm :=
  let ⟨o, es, ep, e, hd, r⟩ := x; ⟨o, es, ep, hid_get hh e (.inl ⟨es, ep, hd⟩), hd, r⟩
noncomputable abbrev looseT (p : Program) (loose : List Str) : List Str := loose ++ (recsOf p).map (·.name) ++ (litsOf p).map (·.1) ++ (clssOf p loose).map (·.name)
theorem not_loose {x : Str} (h : x ∉ looseT p loose) : x ∉ loose ∧ x ∉ (recsOf p).map (·.name) ∧ x ∉ (litsOf p).map (·.1) ∧ x ∉ (clssOf p loose).map (·.name) := by
  simp only [looseT, List.mem_append, not_or] at h
  exact ⟨h.1.1.1, h.1.1.2, h.1.2, h.2⟩
theorem hid_top (hh : HidOk h₁ as) (T : Top p loose mean mg mb h₁) : Top topProg (looseT p loose) mean mg mb (hideAll h₁ as) := by
  refine { g := hid_ns hh T.g, b := hid_ns hh T.b, builtins := T.builtins, nolimit := ?_, nodigits := ?_, fn := ?_, own := ?_, const := ?_, free := ?_, tab := ?_, bmain := ?_, seer := ?_ }
  · exact T.nolimit.imp fun _ x => ⟨hid_ns hh x.1, x.2⟩
  · exact T.nodigits.imp fun _ x => ⟨hid_ns hh x.1, x.2⟩
  · intro d hd; exact (nomatch (show d ∈ ([] : List DefRec) from hd))
  · intro o ho; exact (nomatch (show o ∈ ([] : List OwnSpec) from ho))
  · intro x d e; exact (nomatch (show (none : Option PyData) = some d from e))
  · intro x h1 h2 _ _ _
    have n := not_loose h2
    exact T.free x h1 n.1 n.2.1 n.2.2.1 n.2.2.2
  · intro d hd; exact (nomatch (show d ∈ ([] : List DefRec) from hd))
  · obtain ⟨bm, ob, m⟩ := T.bmain
    exact ⟨bm, ob, m.1, m.2.1, hid_get hh m.2.2.1 (.inr m.2.2.2.1), m.2.2.2⟩
  · intro e; exact Bool.noConfusion (show false = true from e)
theorem hid_K (X : K.In h₁) (hk : ∀ a ∈ as, K.lookup a = none) : K.In (hideAll h₁ as) := fun a o e => hideAll_get _ (X a o e) fun hm => by rw [hk a hm] at e; cases e
end
theorem start_call {G : Gl} {s₁ : Shared} {as : List Addr} {news : List (Addr × Obj)} {hp : Hp} {r : Nat} {f : Addr} {oc : Value} {od : Option Addr} {osl : Array (Option Value)} {name qual : Str} {params : Arguments} {body : List Stmt} {scope : Scope} {doc pm cdv ct : Value} {an : Option Addr}
    {vals : List Value} {ab : List (Str × V)} {Q : Value → Shared → Prop} {E : Value → Shared → Prop} {Qf : AFlow → St → Prop}
    (top : Top G.p G.loose G.mean G.mg G.mb (hideAll s₁.heap as)) (kin : G.K.In (hideAll s₁.heap as)) (N : ∀ q ∈ news, s₁.heap.get? q.1 = some q.2 ∧ q.1 ∈ as) (nd : (news.map (·.1)).Nodup) (H : All2 ER news hp)
    (hK : G.K.lookup f = some ⟨oc, od, .func (fnX name qual params body scope [] .none .none doc pm an cdv ct), osl⟩) (hcd : codeIn G.K cdv qual = true) (hr : r ≤ 90)
    (hb : ∃ binds, bindArgs (fnX name qual params body scope [] .none .none doc pm an cdv ct) ⟨vals, []⟩ = pure binds ∧ All2 (fun p q => p.1 = q.1 ∧ VR p.2 q.2) binds ab) (hloc : ∀ y ∈ ab, scope.names.lookup y.1 = some .local)
    (hco : scope.isCoroutine = false) (hgen : scope.isGenerator = false) (hk : scope.kind = .function)
    (h : ∀ L A', A'.frames = some [envX qual scope L f cdv (cellsFrom (L + 1) scope.names [])] → EX ⟨G, A', envX qual scope L f cdv (cellsFrom (L + 1) scope.names []), hideAll s₁.heap as, s₁, r, false⟩ body ⟨ab.reverse ++ [], cellEntries (L + 1) scope.names hp⟩ Qf)
    (hQ : ∀ c fl v st s', c.h₀ = hideAll s₁.heap as → c.s₀ = s₁ → Sat c [] st s' → Qf fl st → VR v (retOf fl) → Q v s') : wpN (model G.prog G.w) callerA (call (.ref f) vals) Q E s₁ := by
  have kin₁ : G.K.In s₁.heap := kin.keeps fun b o e => of_hideAll _ e
  obtain ⟨binds, hbind, rb⟩ := hb
  refine wpN_call (codeN_callFn (fd := fnX name qual params body scope [] .none .none doc pm an cdv ct) (by decide) (kin₁ _ _ hK) rfl hco hgen rfl (codeRec_of kin₁ hcd) ?_)
  rw [hbind]
  refine wpN_pure ?_
  have st0 : ∀ b o, (hideAll s₁.heap as).get? b = some o → s₁.heap.get? b = some o := fun b o e => of_hideAll _ e
  have hsz : ∀ o : Obj, ({ s₁ with heap := s₁.heap.push o } : Shared).heap.objs.size = s₁.heap.objs.size + 1 := fun o => Heap.size_push ..
  have S1 : Sat ⟨G, callerA.in1, envX qual scope s₁.heap.objs.size f cdv (cellsFrom (s₁.heap.objs.size + 1) scope.names []), hideAll s₁.heap as, s₁, r, false⟩ [] ⟨[], hp⟩ { s₁ with heap := s₁.heap.push { cls := .type "frame", data := .dict #[] } } := by
    refine ⟨⟨top, kin, rfl, rfl, hk, fun _ => rfl, fun q => by (cases q), ?_, ?_⟩, ⟨fun _ => none, ⟨Heap.Ns.new _ _, fun b o e => Heap.get?_push_of_some _ (st0 _ _ e), ?_⟩, fun x v h => by simp at h⟩, ⟨news, [], ?_, ?_, H, .nil⟩, ⟨_, _, rfl⟩, ?_⟩
    · show callerA.depth + r ≤ 400
      have : callerA.depth ≤ 301 := by decide
      omega
    · show callerA.units + 1 + 10 * r ≤ 1000
      have : callerA.units = 4 := rfl
      omega
    · exact Nat.le_of_eq (hideAll_size _ _)
    · intro q hq
      rw [List.append_nil] at hq
      obtain ⟨h1, h2⟩ := N q hq
      exact ⟨Heap.get?_push_of_some _ h1, Nat.ne_of_lt (Heap.lt_size h1), hideAll_none _ h2⟩
    · rw [List.append_nil]; exact nd
    · intro l hl
      have : l = [] := (Option.some.inj hl).symm
      subst this
      intro e he
      cases he
  have S2 := Sat.cells scope.names S1
  rw [hsz] at S2
  have fin : ∀ (g : Str × Value → PUnit → Sem (ForInStep PUnit)), (∀ n v u, g (n, v) u = (do storeName (envX qual scope s₁.heap.objs.size f cdv (cellsFrom (s₁.heap.objs.size + 1) scope.names [])) n v; pure (.yield ⟨⟩))) → _ := fun g hg =>
    binds_wp (c := ⟨G, callerA.in1, envX qual scope s₁.heap.objs.size f cdv (cellsFrom (s₁.heap.objs.size + 1) scope.names []), hideAll s₁.heap as, s₁, r, false⟩) g hg rb (Q := fun st' => st' = ⟨ab.reverse ++ [], cellEntries (s₁.heap.objs.size + 1) scope.names hp⟩) (bi_locals hloc rfl) S2
  show wpN _ callerA.in1 (newFunctionEnv scope mainGlobals [] binds (qual ++ ".<locals>.") (some f) cdv none builtinsNs) _ _ s₁
  unfold newFunctionEnv
  refine wpN_bind (lift (wpAny_alloc ?_))
  refine wpN_bind (lift (wpAny_layCells _ (fun name kind cells => by cases hkc : kind == NameKind.cell <;> simp [hkc]) _ _ _ _ ?_))
  rw [hsz]
  refine wpN_bind (wpN_mono (fin _ fun _ _ _ => rfl) ?_ fun _ _ x => x.elim)
  rintro _ s' ⟨st', S', rfl⟩
  refine wpN_pure ⟨S'.top.nolimit, codeN_func ?_⟩
  have okd : SubOk (envX qual scope s₁.heap.objs.size f cdv (cellsFrom (s₁.heap.objs.size + 1) scope.names [])) (callerA.deeper (envX qual scope s₁.heap.objs.size f cdv (cellsFrom (s₁.heap.objs.size + 1) scope.names []))) r false := by
    refine ⟨rfl, rfl, hk, fun _ => rfl, fun q => by (cases q), ?_, ?_⟩
    · show callerA.depth + 1 + r ≤ 400
      have : callerA.depth ≤ 301 := by decide
      omega
    · show callerA.units + 3 + 10 * r ≤ 1000
      have : callerA.units = 4 := rfl
      omega
  have S3 := S'.reA okd (frames_deep (A := callerA) hk rfl)
  refine wpN_mono (h s₁.heap.objs.size (callerA.deeper _) rfl [] s' S3) ?_ fun _ _ x => x.elim
  rintro fl s2 ⟨fl', st2, rf, S4, q⟩
  refine hQ _ fl' _ st2 s2 (by rfl) (by rfl) S4 q ?_
  cases rf with
  | ret rv => exact rv
  | next => exact .none
  | brk => exact .none
  | cont => exact .none
theorem good_end {c : ClaimW} {cl : Str → Option Addr} {mean : ExcName → Option Value} {args : List WData} {s₁ s' : Shared} {cc : Fc} {st : St} {tabs : List (Addr × Addr)} {sc : Addr} {o : Obj} (hT : TabsAt tabs s₁.heap) (hr : ∀ cls, c.raises args cls = false) (hp : c.post args (.bool true) args = true)
    (S : Sat cc [] st s') (h0 : cc.h₀ = hideAll s₁.heap (tabs.map (·.2) ++ [sc])) (hs0 : cc.s₀ = s₁) (ht : ∀ q ∈ tabs, ∃ pos t, (q.2, AObj.tab pos t) ∈ st.hp) (hsc : (sc, AObj.raw o) ∈ st.hp) (ho : s₁.heap.get? sc = some o) (hg : s₁.gens = #[]) {v : Value} (hv : v = .bool true) : GoodWG c cl mean args s₁ (.ok (.ret v)) s' := by
  subst hv
  obtain ⟨h', tk, e⟩ := S.rest
  have keep : ∀ b o, b ∉ tabs.map (·.2) ++ [sc] → s₁.heap.get? b = some o → s'.heap.get? b = some o := fun b o hb e => S.keep₀ b o (by rw [h0]; exact hideAll_get _ e hb)
  have grown : ∀ q ∈ tabs, isCodeTable s₁.heap q.2 ∧ s₁.heap.get? q.2 = some (tabObj #[]) ∧ ∃ ps, s'.heap.get? q.2 = some (tabObj ps) := fun q hq => by
    obtain ⟨pos, t, hm⟩ := ht q hq
    obtain ⟨_, hb, ps, rfl, _⟩ := S.at hm
    exact ⟨((hT q hq).1.tab (hT q hq).2).isCodeTable, (hT q hq).2, ps, hb⟩
  have scr : s'.heap.get? sc = some o := by
    obtain ⟨o', ho', rfl, _⟩ := S.at hsc
    exact ho'
  refine ⟨.inl ⟨_, _, [], rfl, hr, ReadsW.bool true, hp, fun _ => ⟨List.nodup_nil, fun _ hm => (nomatch hm)⟩⟩, ⟨fun b o' e => ?_, fun b o' e => ?_⟩, ?_, ?_⟩
  · by_cases hb : b ∈ tabs.map (·.2)
    · obtain ⟨q, hq, rfl⟩ := List.mem_map.mp hb
      obtain ⟨ht', hb0, ps, hP⟩ := grown q hq
      obtain rfl : tabObj #[] = o' := Option.some.inj (hb0.symm.trans e)
      exact .inr (.inl ⟨ht', rfl, #[], ps, rfl, by rw [Array.empty_append]; exact hP⟩)
    · by_cases hb2 : b = sc
      · subst hb2
        rw [ho] at e
        cases e
        exact .inl scr
      · exact .inl (keep b o' (by simp [hb2]; simpa using hb) e)
  · by_cases hb : b ∈ tabs.map (·.2)
    · obtain ⟨q, hq, rfl⟩ := List.mem_map.mp hb
      obtain ⟨_, _, ps, hP⟩ := grown q hq
      exact ⟨_, hP⟩
    · by_cases hb2 : b = sc
      · subst hb2; exact ⟨_, scr⟩
      · exact ⟨o', keep b o' (by simp [hb2]; simpa using hb) e⟩
  · rw [e, hs0]
  · rw [e, hs0]; exact .of_eq hg

theorem Fn.of {G : Gl} {x : Str} {i : Nat} {f cd : Addr} {oc : Value} {od : Option Addr} {osl : Array (Option Value)} {doc pm ct : Value} {an : Option Addr} (h1 : nsIn G.K mainGlobals x = some (some (.ref f)))
    (h2 : G.K.lookup f = some ⟨oc, od, .func (fnX x x (fdA PB i) (fdB PB i) (fdS PB i) [] .none .none doc pm an (.ref cd) ct), osl⟩) (h3 : codeIn G.K (.ref cd) x = true) : Fn G x i f cd := ⟨h1, _, _, _, _, _, _, _, h2, h3⟩
theorem FnB.of {G : Gl} {x : Str} {i : Nat} {f : Addr} {oc : Value} {od : Option Addr} {osl : Array (Option Value)} {doc pm ct : Value} {an : Option Addr} {T D cd : Addr} {o o' : Obj} {t t' : Tok} {n n' : Nat} {hh : Int} (h1 : nsIn G.K mainGlobals x = some (some (.ref f)))
    (h2 : G.K.lookup f = some ⟨oc, od, .func (fnX x x (fdA PB i) (fdB PB i) (fdS PB i) [] (.ref T) (.ref D) doc pm an (.ref cd) ct), osl⟩) (h3 : codeIn G.K (.ref cd) x = true) (h4 : G.K.lookup T = some o) (h5 : o.data = .seq #[.int 0 t, .none] n)
    (h6 : G.K.lookup D = some o') (h7 : o'.data = .dict #[⟨hh, .str "key" t', .none⟩] n') : FnB G x i f := ⟨h1, _, _, _, _, _, _, _, _, _, _, h2, h3, _, _, _, _, _, _, _, _, _, rfl, h4, h5, rfl, h6, h7⟩
theorem well_list {P : Params} {h : Heap} {sc : Addr} {ns : List Int} {vals : List Value} (w1 : Well P h (.ref sc) (ofPy (.list (ns.map PyData.int)))) (hL : h.IsList sc vals.toArray) : h.get? sc = some (W.listOf vals.toArray 0) := by
  unfold ofPy at w1
  cases w1 with
  | list hget _ =>
    obtain ⟨ol, hol, _, nl, hdl⟩ := hL
    rw [hget] at hol
    cases hol
    cases hdl
    exact hget
theorem finish01 {prog : Program} {w : World} {K : Frag} {p : Program} {loose : List Str} {mean : ExcName → Option Value} {mg mb : Str → Option Value} {s₁ : Shared} {sc fl cl P1 P2 P3 : Addr} {vals : List Value} {ns : List Int} {c : ClaimW} {cla : Str → Option Addr} {mean' : ExcName → Option Value} {args : List WData}
    (T : Top p loose mean mg mb s₁.heap) (KX : K.In s₁.heap) (F : Fns ⟨prog, w, K, topProg, looseT p loose, mean, mg, mb⟩) (hT : TabsAt [(F.cbo, P3), (F.ce, P2), (F.cs, P1)] s₁.heap) (hP1 : codeHdIn K F.cs P1 = true) (hP2 : codeHdIn K F.ce P2 = true) (hP3 : codeHdIn K F.cbo P3 = true)
    (nd : [P3, P2, P1].Nodup) (hk : ∀ a ∈ [P3, P2, P1], K.lookup a = none) (hnl : K.all (fun q => !(q.2.cls == .type "list")) = true)
    (hlaw : ∃ oc od osl doc pm an ct, K.lookup fl = some ⟨oc, od, .func (fnX "law" "law" (fdA PB 17) (fdB PB 17) (fdS PB 17) [] .none .none doc pm an (.ref cl) ct), osl⟩) (hlcd : codeIn K (.ref cl) "law" = true)
    (hg : s₁.gens = #[]) (hget : s₁.heap.get? sc = some (W.listOf vals.toArray 0)) (hI : IntsAre vals ns) (hz : ns.length ≤ 63) (hr : ∀ cls, c.raises args cls = false) (hp : c.post args (.bool true) args = true) :
    wpN (model prog w) callerA (call (.ref fl) [.ref sc]) (fun v s' => GoodWG c cla mean' args s₁ (.ok (.ret v)) s') (fun e s' => GoodWG c cla mean' args s₁ (.error e) s') s₁ := by
  obtain ⟨bp, ok⟩ := law_ok ns
  obtain ⟨oc, od, osl, doc, pm, an, ct, hlk⟩ := hlaw
  have g1 : s₁.heap.get? P1 = some (tabObj #[]) := (hT (F.cs, P1) (by simp)).2
  have g2 : s₁.heap.get? P2 = some (tabObj #[]) := (hT (F.ce, P2) (by simp)).2
  have g3 : s₁.heap.get? P3 = some (tabObj #[]) := (hT (F.cbo, P3) (by simp)).2
  have hne : ∀ a ∈ [P3, P2, P1], a ≠ sc := fun a ha e => by
    subst e
    have ht : s₁.heap.get? a = some (tabObj #[]) := by
      simp only [List.mem_cons, List.not_mem_nil, or_false] at ha
      rcases ha with rfl | rfl | rfl <;> assumption
    rw [hget] at ht
    cases ht
  have hksc : K.lookup sc = none := by
    cases q : K.lookup sc with
    | none => rfl
    | some o =>
      have h1 := KX _ _ q
      rw [hget] at h1
      cases h1
      have := List.all_eq_true.mp hnl _ (mem_of_lookupK q)
      simp at this
  have hid : HidOk s₁.heap ([P3, P2, P1] ++ [sc]) := fun a ha o ho => by
    simp only [List.cons_append, List.nil_append, List.mem_cons, List.not_mem_nil, or_false] at ha
    rcases ha with rfl | rfl | rfl | rfl
    · rw [g3] at ho; cases ho; exact ⟨fun es n q => by (cases q), by intro q; cases q⟩
    · rw [g2] at ho; cases ho; exact ⟨fun es n q => by (cases q), by intro q; cases q⟩
    · rw [g1] at ho; cases ho; exact ⟨fun es n q => by (cases q), by intro q; cases q⟩
    · rw [hget] at ho; cases ho; exact ⟨fun es n q => by (cases q), by intro q; simp at q⟩
  have top := hid_top hid T
  have kin := hid_K (as := [P3, P2, P1] ++ [sc]) KX fun a ha => by
    rcases List.mem_append.mp ha with h | h
    · exact hk a h
    · rw [List.mem_singleton.mp h]; exact hksc
  refine start_call (G := ⟨prog, w, K, topProg, looseT p loose, mean, mg, mb⟩) (as := [P3, P2, P1] ++ [sc]) (news := [(P1, tabObj #[]), (P2, tabObj #[]), (P3, tabObj #[]), (sc, W.listOf vals.toArray 0)]) (r := 20) (ab := [("script", .ref sc)])
    (hp := TB P1 ⟨92, 64, 92, 84⟩ qSw none ++ (TB P2 ⟨99, 67, 99, 87⟩ qSe none ++ (TB P3 ⟨115, 23, 115, 38⟩ qBd none ++ [(sc, .raw (W.listOf vals.toArray 0))])))
    top kin ?_ ?_ ?_ hlk hlcd (by decide) ⟨[("script", .ref sc)], by kernel_rfl, .cons ⟨rfl, .ref _⟩ .nil⟩ ?_ (by kernel_rfl) (by kernel_rfl) (by kernel_rfl)
    (Qf := fun fl st => ∃ t1 t2 t3, fl = .ret (.bool true) ∧ Sub st.hp (TB P1 ⟨92, 64, 92, 84⟩ qSw t1 ++ (TB P2 ⟨99, 67, 99, 87⟩ qSe t2 ++ (TB P3 ⟨115, 23, 115, 38⟩ qBd t3 ++ [(sc, .raw (W.listOf vals.toArray 0))])))) (fun L A' hfr => ?_) ?_
  · intro q hq
    simp only [List.mem_cons, List.not_mem_nil, or_false] at hq
    rcases hq with rfl | rfl | rfl | rfl
    · exact ⟨g1, by simp⟩
    · exact ⟨g2, by simp⟩
    · exact ⟨g3, by simp⟩
    · exact ⟨hget, by simp⟩
  · have h1 := hne P1 (by simp)
    have h2 := hne P2 (by simp)
    have h3 := hne P3 (by simp)
    simp only [List.nodup_cons, List.mem_cons, List.not_mem_nil, or_false, not_or, List.nodup_nil, and_true, not_false_eq_true] at nd
    simp only [List.map_cons, List.map_nil, List.nodup_cons, List.mem_cons, List.not_mem_nil, or_false, not_or, List.nodup_nil, and_true, not_false_eq_true]
    exact ⟨⟨fun e => nd.2 e.symm, fun e => nd.1.2 e.symm, h1⟩, ⟨fun e => nd.1.1 e.symm, h2⟩, h3⟩
  · have tb : ∀ pos, OR (tabObj #[]) (.tab pos none) := fun pos => ⟨#[], rfl, by exact trivial, by rfl⟩
    exact .cons ⟨rfl, tb _⟩ (.cons ⟨rfl, tb _⟩ (.cons ⟨rfl, tb _⟩ (.cons ⟨rfl, rfl, fun es n q => by cases q⟩ .nil)))
  · intro y hy
    rw [List.mem_singleton.mp hy]
    kernel_rfl
  · exact ex_law (L0 := L) (f := fl) (cdv := .ref cl) (g := hideAll s₁.heap ([P3, P2, P1] ++ [sc])) (s₀ := s₁) (r := 20) F (by decide) hfr hP1 hP2 hP3 (R0 := [(sc, .raw (W.listOf vals.toArray 0))]) (.inr ⟨_, _, .head _, by simpa using IntsAre.all2 hI⟩) hz ok
  · rintro cc flw v st s' hh0 hs0 S ⟨t1, t2, t3, rfl, sub⟩ rv
    have hv : v = .bool true := by
      have rv : VR v (.bool true) := rv
      cases rv; rfl
    refine good_end (tabs := [(F.cbo, P3), (F.ce, P2), (F.cs, P1)]) (sc := sc) hT hr hp S hh0 hs0 ?_ (sub.mem (List.mem_append_right _ (List.mem_append_right _ (List.mem_append_right _ (.head _))))) hget hg hv
    intro q hq
    simp only [List.mem_cons, List.not_mem_nil, or_false] at hq
    rcases hq with rfl | rfl | rfl
    · exact ⟨_, _, sub.mem (List.mem_append_right _ (List.mem_append_right _ (List.mem_append_left _ (.head _))))⟩
    · exact ⟨_, _, sub.mem (List.mem_append_right _ (List.mem_append_left _ (.head _)))⟩
    · exact ⟨_, _, sub.mem (List.mem_append_left _ (.head _))⟩

/-! the head writes no second copy of what bears such a name -/
theorem main01.tw18233082814391891746 : True := trivial
theorem main01.tw4488994837219228477 : True := trivial
theorem main01.tw13595024361958051112 : True := trivial
theorem main01.tw4325266607256246655 : True := trivial
theorem main01.tw16087434267706355865 : True := trivial
theorem main01.tw2533168835225749951 : True := trivial
theorem main01.tw9242491697690432799 : True := trivial
theorem main01.tw2716835002151975385 : True := trivial
theorem main01.tw5259286702588779444 : True := trivial
theorem main01.tw6249414001032912929 : True := trivial
theorem main01.tw18168509742188827840 : True := trivial
theorem main01.tw16513429232300905757 : True := trivial
theorem main01.tw7207346979410555822 : True := trivial
theorem main01.tw1729088889918361323 : True := trivial
theorem main01.tw6209809345502898131 : True := trivial
theorem main01.tw7901562108644940878 : True := trivial
theorem main01.tw1454121218353810668 : True := trivial
theorem main01.tw16472950128243025393 : True := trivial
theorem main01.tw6259956637719052586 : True := trivial
theorem main01.tw13910350324350680375 : True := trivial
theorem main01.tw6872511544483188135 : True := trivial
theorem main01.tw358715030498478199 : True := trivial
theorem main01.tw9779151709247648820 : True := trivial
theorem main01.tw18344715246703644162 : True := trivial
theorem main01.tw17554935655917357246 : True := trivial
theorem main01.tw15065617280364658963 : True := trivial
theorem main01.tw7480828455386233316 : True := trivial
theorem main01.tw12246012976471345544 : True := trivial
theorem main01.tw8663543101377846213 : True := trivial
theorem main01.tw13115883694044245794 : True := trivial
theorem main01.tw18022979511478073982 : True := trivial
theorem main01.tw7599258405377606776 : True := trivial
theorem main01.tw12625543507640951600 : True := trivial
theorem main01.tw14532297469135948650 : True := trivial
theorem main01.tw17451258336955840929 : True := trivial
theorem main01.tw3348919867826519073 : True := trivial
theorem main01.tw6969613453450706632 : True := trivial
theorem main01.tw5386678346188948172 : True := trivial
theorem main01.tw1149768825576676967 : True := trivial
theorem main01.tw4339325353860128167 : True := trivial
theorem main01.tw11228865702371869606 : True := trivial
theorem main01.tw12362559665820626047 : True := trivial
theorem main01.tw8283058489355621761 : True := trivial
theorem main01.tw9382969585906507331 : True := trivial
theorem main01.tw7196764832779054566 : True := trivial
theorem main01.tw7096210785244609057 : True := trivial
theorem main01.tw18164417041307180198 : True := trivial
theorem main01.tw6104187129298095753 : True := trivial
theorem main01.tw11174631537463592783 : True := trivial
theorem main01.tw4209056643810285425 : True := trivial
theorem main01.tw6769997217932446127 : True := trivial
theorem main01.tw3293497709489620147 : True := trivial
theorem main01.tw14758873784712730472 : True := trivial
theorem main01.tw4642404019828801062 : True := trivial
theorem main01.tw4897582464118503146 : True := trivial
theorem main01.tw14728179433875160012 : True := trivial
theorem main01.tw5488945086694593729 : True := trivial
theorem main01.tw14004788247220049044 : True := trivial
theorem main01.tw11361419286978765765 : True := trivial
theorem main01.tw1716355858920273328 : True := trivial
theorem main01.tw359022512691894643 : True := trivial
theorem main01.tw776136212338229393 : True := trivial
theorem main01.tw6925656283294985913 : True := trivial
theorem main01.tw12281638967327748214 : True := trivial
theorem main01.tw12626827041111968834 : True := trivial
theorem main01.tw15701495872740640074 : True := trivial
theorem main01.tw1400941998914335165 : True := trivial
theorem main01.tw5731449248022444840 : True := trivial
theorem main01.tw4095733036152163221 : True := trivial
theorem main01.tw7920653241458495066 : True := trivial
theorem main01.tw8506163661960577139 : True := trivial
theorem main01.tw9594602407426621409 : True := trivial
theorem main01.tw10095884404692782742 : True := trivial
theorem main01.tw16195282793713333267 : True := trivial
theorem main01.tw3994756522961426660 : True := trivial
theorem main01.tw2756559704684814929 : True := trivial
theorem main01.tw13656241960668536986 : True := trivial
theorem main01.tw8020345464324320720 : True := trivial
theorem main01.tw10422480074392392859 : True := trivial
theorem main01.tw2235422393015034458 : True := trivial
theorem main01.tw9692842063179152046 : True := trivial
theorem main01.tw4253349749670532112 : True := trivial
theorem main01.tw4417602591509234537 : True := trivial
theorem main01.tw2567472023900499943 : True := trivial
theorem main01.tw11300256792641121908 : True := trivial
theorem main01.tw16426552358439578399 : True := trivial
theorem main01.tw15302365629704510623 : True := trivial
theorem main01.tw6462729226119519845 : True := trivial
theorem main01.tw6126670664278076603 : True := trivial
theorem main01.tw17046990592410961469 : True := trivial
theorem main01.tw5401819759558662496 : True := trivial
theorem main01.tw15498639937978993775 : True := trivial
theorem main01.tw4143436432753433550 : True := trivial
theorem main01.tw15999997346233147280 : True := trivial
theorem main01.tw1706778834541656027 : True := trivial
theorem main01.tw9063718058440686990 : True := trivial
theorem main01.tw13488130814509514507 : True := trivial
theorem main01.tw16955937274866289963 : True := trivial
theorem main01.tw4459676540141600572 : True := trivial
theorem main01.tw8943196529112712607 : True := trivial
theorem main01.tw11387559534736211170 : True := trivial
theorem main01.tw11809910602957427961 : True := trivial
theorem main01.tw769966122753416512 : True := trivial
theorem main01.tw3398659480268371864 : True := trivial
theorem main01.tw806560867515405591 : True := trivial
theorem main01.tw3711254110375485616 : True := trivial
theorem main01.tw5979420223215964301 : True := trivial
theorem main01.tw2345873869200929159 : True := trivial
theorem main01.tw6091962767719285098 : True := trivial
set_option Elab.async true
theorem main01 : PySem.Challenge.rw_pk0058_01.Holds := by
  w_on; o_law; k_head; (case hw => w_witness2)
  k_fill
  intro w s₀ s₁ mg mb G Y fa o pm cd doc dV kV ho hd hcd hD hmg hg args vals as hpre hlay hrd hwl hlo
  have KX := km_in_of Y
  km_tabs Y
  refine Ground.open G ?_
  intro T B D TE TW
  km_lay T hmg ho hd cd
  wrow_args hpre hlay hrd hwl hlo
  rename Well _ _ _ _ => w1
  rename IntsAre _ _ => hI
  rename Heap.IsList _ _ _ => hL
  rename TabsAt _ _ => hT
  rename ¬ _ => hlen
  have e0 := (mg_of KX T.g (show nsIn (main01.heap_1_39 w.params) mainGlobals "law" = some (some (.ref 121)) by kernel_rfl)).symm.trans hmg
  injection e0 with e0
  injection e0 with e0
  subst e0
  refine finish01 (cl := 120) (P1 := 85) (P2 := 92) (P3 := 104) T KX {
    D := Fn.of (by kernel_rfl) rfl (by kernel_rfl)
    H := Fn.of (by kernel_rfl) rfl (by kernel_rfl)
    T := Fn.of (by kernel_rfl) rfl (by kernel_rfl)
    O := Fn.of (by kernel_rfl) rfl (by kernel_rfl)
    S := Fn.of (by kernel_rfl) rfl (by kernel_rfl)
    E := Fn.of (by kernel_rfl) rfl (by kernel_rfl)
    BA := Fn.of (by kernel_rfl) rfl (by kernel_rfl)
    BO := Fn.of (by kernel_rfl) rfl (by kernel_rfl)
    BK := Fn.of (by kernel_rfl) rfl (by kernel_rfl)
    W := Fn.of (by kernel_rfl) rfl (by kernel_rfl)
    INS := FnB.of (T := 33) (D := 34) (cd := 40) (by kernel_rfl) rfl (by kernel_rfl) rfl rfl rfl rfl
    BL := FnB.of (T := 42) (D := 43) (cd := 49) (by kernel_rfl) rfl (by kernel_rfl) rfl rfl rfl rfl
    INR := FnB.of (T := 15) (D := 16) (cd := 22) (by kernel_rfl) rfl (by kernel_rfl) rfl rfl rfl rfl
    BR := FnB.of (T := 24) (D := 25) (cd := 31) (by kernel_rfl) rfl (by kernel_rfl) rfl rfl rfl rfl
    blen := by kernel_rfl
    brange := by kernel_rfl
    bbytes := by kernel_rfl
    bba := by kernel_rfl
    bis := by kernel_rfl
    blist := by kernel_rfl
    bmax := by kernel_rfl
    bmin := by kernel_rfl
    bsum := by kernel_rfl
    bve := by kernel_rfl
    fins := 41
    fbl := 50
    finr := 23
    fbr := 32
    fw := 57
    fd := 64
    fh := 71
    ft := 78
    fo := 83
    fs := 90
    fe := 97
    fba := 102
    fbo := 109
    fbk := 116
    cw := 56
    cdr := 63
    ch := 70
    ct := 77
    co := 82
    cs := 89
    ce := 96
    cba := 101
    cbo := 108
    cbk := 115 } hT (by kernel_rfl) (by kernel_rfl) (by kernel_rfl) (by decide) ?_ (by kernel_rfl) ⟨_, _, _, _, _, _, _, rfl⟩ (by kernel_rfl) hg (well_list w1 hL) hI (by omega) (fun _ => rfl) (by first | rfl | wrow_post)
  intro a ha
  simp only [List.mem_cons, List.not_mem_nil, or_false] at ha
  rcases ha with rfl | rfl | rfl <;> kernel_rfl

end Mine
theorem PySem.Challenge.cw_pk0058_01_holds : PySem.Challenge.rw_pk0058_01.Holds := by
  exact Mine.main01
