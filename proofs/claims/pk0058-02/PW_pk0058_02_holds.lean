import PyProof.Rows.All
import Wide.All
import OpenK.AllK
import Wide.FinOn
import Lean
import PySem.Challenge.RW_pk0058_02
set_option Elab.async false
set_option compiler.extract_closed false
set_option genSizeOf false
set_option genSizeOfSpec false
set_option genInjectivity false
set_option maxRecDepth 100000
namespace Mine
theorem rm_le {a b r k : Nat} (h : a ≤ r) (d : b + k ≤ a) : b ≤ r - k := Nat.le_sub_of_add_le (Nat.le_trans d h)
theorem rm_lt {a b r k : Nat} (h : a ≤ r) (d : b + 1 + k ≤ a) : b < r - k := Nat.le_sub_of_add_le (Nat.le_trans d h)
end Mine
local macro_rules | `(tactic| omega) => `(tactic| first | (with_reducible first | assumption | exact Nat.le_trans (by assumption) (by decide) | exact Mine.rm_le (by assumption) (by decide) | exact Mine.rm_lt (by assumption) (by decide)) | lia | omega (splitDisjunctions := true))
set_option maxRecDepth 100000
set_option Elab.async false
set_option linter.unusedVariables false
namespace Mine
open PySem PySem.W PyProof.Rows PySem.Calls

/-- the goal by a name, so that what is taken apart does not write it out each time -/
theorem cps {G : Prop} (h : ∀ P : Prop, (G → P) → P) : G := h G id
/-! ## contexts without a built-in that holds a bytearray -/
noncomputable def heldIds : List String := Builtin.Bytes.decodersThatHold ++ ["bytearray.__contains__", "bytearray.__mod__", "bytearray.__rmod__", "_struct.pack_into.held", "bytearray.find.held"]
noncomputable def held : Code → Bool
  | .builtin id _ => heldIds.contains id
  | _ => false
noncomputable def NoHold (Γ : Ctx) : Prop := held Γ.code = false ∧ ∀ x ∈ Γ.below, held x.1 = false
theorem NoHold.enter {Γ : Ctx} (h : NoHold Γ) {c : Code} (hc : held c = false) (hd : Option Value) (p : Pos) : NoHold (Γ.enter c hd p) :=
  ⟨hc, fun x hx => by
    have hx' : x ∈ (Γ.code, p) :: Γ.below := hx
    rcases List.mem_cons.mp hx' with rfl | hx'
    · exact h.1
    · exact h.2 x hx'⟩
theorem NoHold.goto {Γ : Ctx} (h : NoHold Γ) {c : Code} (hc : held c = false) : NoHold (Γ.goto c) := ⟨hc, h.2⟩

noncomputable def wpN {α : Type} (M : Model) (A : Around) (t : Sem α) (Q : α → Shared → Prop) (E : Value → Shared → Prop) (s : Shared) : Prop :=
  ∀ Γ p, Γ.In A → NoHold Γ → Sem.wp M Γ t (fun a _ s' => Q a s') (fun e _ s' => E e s') p s
noncomputable def codeN (M : Model) (A : Around) (c : Code) (R : Result → Shared → Prop) (s : Shared) : Prop :=
  ∀ Γ p, Γ.code = c → Γ.Below A → NoHold Γ → wpCode M Γ R p s

section
variable {α β : Type} {M : Model} {A : Around} {E : Value → Shared → Prop} {s : Shared}
theorem lift {t : Sem α} {Q : α → Shared → Prop} (h : wpAny M A t Q E s) : wpN M A t Q E s := fun Γ p hΓ _ => h Γ p hΓ
theorem codeLift {c : Code} {R : Result → Shared → Prop} (h : codeAny M A c R s) : codeN M A c R s := fun Γ p hc hΓ _ => h Γ p hc hΓ
theorem wpN_pure {a : α} {Q : α → Shared → Prop} (h : Q a s) : wpN M A (pure a) Q E s := fun _ _ _ _ => h
theorem wpN_mono {t : Sem α} {Q Q' : α → Shared → Prop} {E' : Value → Shared → Prop} (h : wpN M A t Q E s) (hQ : ∀ a s, Q a s → Q' a s) (hE : ∀ e s, E e s → E' e s) : wpN M A t Q' E' s :=
  fun Γ p hΓ hN => Sem.wp_mono M Γ t (fun a _ s => hQ a s) (fun e _ s => hE e s) p s (h Γ p hΓ hN)
theorem wpN_post {t : Sem α} {Q Q' : α → Shared → Prop} (h : wpN M A t Q E s) (hQ : ∀ a s, Q a s → Q' a s) : wpN M A t Q' E s := wpN_mono h hQ fun _ _ x => x
theorem wpN_bind {m : Sem α} {f : α → Sem β} {Q : β → Shared → Prop} (h : wpN M A m (fun a s' => wpN M A (f a) Q E s') E s) : wpN M A (m >>= f) Q E s := fun Γ p hΓ hN => by
  rw [Sem.wp_bind']
  exact Sem.wp_mono M Γ m (fun a p' s' h' => h' Γ p' hΓ hN) (fun _ _ _ h' => h') p s (h Γ p hΓ hN)
theorem wpN_onRaise {m : Sem α} {k : Value → Sem Unit} {Q : α → Shared → Prop} (h : wpN M A m Q (fun e s' => wpN M A (k e) (fun _ s'' => E e s'') E s') s) : wpN M A (m.onRaise k) Q E s := fun Γ p hΓ hN => by
  rw [Sem.wp_onRaise]
  exact Sem.wp_mono M Γ m (fun _ _ _ h' => h') (fun e p' s' h' => h' Γ p' hΓ hN) p s (h Γ p hΓ hN)
theorem wpN_attempt {m : Sem α} {Q : Except Value α → Shared → Prop} (h : wpN M A m (fun a => Q (.ok a)) (fun e => Q (.error e)) s) : wpN M A m.attempt Q E s := fun Γ p hΓ hN => by
  rw [Sem.wp_attempt]; exact h Γ p hΓ hN
theorem wpN_holding {vs : List Value} {m : Sem α} {Q : α → Shared → Prop} (h : wpN M A m Q E s) : wpN M A (holding vs m) Q E s := fun Γ p hΓ hN => by
  rw [Sem.wp_holding]; exact h Γ p hΓ hN
theorem wpN_keep {vs : List Value} {m : Sem α} {Q : α → Shared → Prop} (h : wpN M A m Q E s) : wpN M A (m.keep vs) Q E s := fun Γ p hΓ hN => by
  rw [Sem.wp_keep]; exact h Γ p hΓ hN
theorem wpN_standAt {pos : Pos} {Q : Unit → Shared → Prop} (h : Q () s) : wpN M A (standAt pos) Q E s := fun _ _ _ _ => h
theorem wpN_point {Q : Unit → Shared → Prop} (h : Q () s) : wpN M A point Q E s := fun _ _ _ _ => h
theorem wpN_rule {tag : String} {Q : Unit → Shared → Prop} (h : Q () s) : wpN M A (rule tag) Q E s := fun _ _ _ _ => h
theorem wpN_ite {c : Prop} [Decidable c] {a b : Sem α} {Q : α → Shared → Prop} (h : if c then wpN M A a Q E s else wpN M A b Q E s) : wpN M A (if c then a else b) Q E s := by split <;> simp_all

theorem codeN_mono {c : Code} {R R' : Result → Shared → Prop} (h : codeN M A c R s) (hR : ∀ r s, R r s → R' r s) : codeN M A c R' s :=
  fun Γ p hc hΓ hN => wpCode_mono hR (h Γ p hc hΓ hN)
theorem wpN_run {c : Code} {h : Option Value} {Q : Flow → Shared → Prop} (hc : codeN M (A.mark h) c (fun r s' => match r with | .ok f => Q f s' | .error e => E e s') s) (hk : held c = false)
    (hnb : h ≠ some byPass := by intro x; cases x) : wpN M A (run c h) Q E s :=
  fun Γ p hΓ hN => by rw [Sem.wp_run]; exact hc _ p rfl (hΓ.enter c h p hnb) (hN.enter hk _ _)
theorem wpN_runValue {c : Code} {Q : Value → Shared → Prop} (hc : codeN M A c (fun r s' => match r with | .ok (.ret v) => Q v s' | .ok _ => False | .error e => E e s') s) (hk : held c = false) :
    wpN M A (runValue c) Q E s := fun Γ p hΓ hN => by
  rw [Sem.wp_runValue]; exact hc _ p rfl (hΓ.enter c none p (by intro x; cases x)) (hN.enter hk _ _)
theorem wpN_call {f : Value} {pos : List Value} {kw : List (Str × Value)} {Q : Value → Shared → Prop} (hc : codeN M A (.call f ⟨pos, kw⟩) (fun r s' => match r with | .ok (.ret v) => Q v s' | .ok _ => False | .error e => E e s') s) :
    wpN M A (call f pos kw) Q E s := wpN_runValue hc rfl
theorem codeN_of_tree {c : Code} {R : Result → Shared → Prop} (h : wpN M (A.under c) (M.den c) (fun fin s' => match fin with | .done f => R (.ok f) s' | .again c' => (c'.quiet = true ∧ held c' = false) ∧ codeN M A c' R s')
      (fun e s' => R (.error e) s') s) : codeN M A c R s := fun Γ p hc hΓ hN => by
  rw [wpCode_iff_wp, hc]
  refine Sem.wp_mono M Γ _ (fun fin p' s' h' => ?_) (fun _ _ _ h' => h') p s (h Γ p (hc ▸ hΓ.in) hN)
  cases fin with
  | done f => exact h'
  | again c' => exact ⟨h'.1.1, h'.2 (Γ.goto c') p' rfl (hΓ.goto c') (hN.goto h'.1.2)⟩
theorem codeN_loop {c : Code} {R : Result → Shared → Prop} (hq : c.quiet = true) (hk : held c = false) (I : Nat → Shared → Prop)
    (turn : ∀ n s, I n s → wpN M (A.under c) (M.den c) (fun fin s' => match fin with | .done f => R (.ok f) s' | .again c' => (c' = c ∧ ∃ m, m < n ∧ I m s') ∨ ((c'.quiet = true ∧ held c' = false) ∧ codeN M A c' R s')) (fun e s' => R (.error e) s') s)
    (n : Nat) (h : I n s) : codeN M A c R s := by
  induction n using Nat.strongRecOn generalizing s with
  | ind n ih =>
    refine codeN_of_tree (wpN_mono (turn n s h) (fun fin s' hf => ?_) fun _ _ h' => h')
    cases fin with
    | done f => exact hf
    | again c' =>
      rcases hf with ⟨rfl, m, hm, hI⟩ | hf
      · exact ⟨⟨hq, hk⟩, ih m hm hI⟩
      · exact hf
theorem wpN_runOwn {c : Code} {env : Env} {Q : Flow → Shared → Prop} (hc : codeN M A c (fun r s' => match r with | .ok f => Q f s' | .error _ => False) s) (hk : held c = false) : wpN M A (runOwn c env) Q E s := by
  unfold runOwn
  refine wpN_onRaise (wpN_run (h := none) ?_ hk)
  refine codeN_mono (A := A) hc fun r s' hr => ?_
  cases r with
  | ok f => exact hr
  | error e => exact hr.elim
theorem wpN_operate {vs : List Value} {m : Sem Value} {Q : Value → Shared → Prop} (h : wpN M A m Q E s) : wpN M A (operate vs m) Q E s := by
  unfold operate
  refine wpN_bind (wpN_holding (wpN_post h fun r s' hr => ?_))
  refine wpN_bind ?_
  unfold release
  generalize (vs.filter fun | .ref _ => true | _ => false) = l
  induction l with
  | nil => exact wpN_pure (wpN_pure hr)
  | cons a r' ih =>
    cases r' with
    | nil => exact wpN_pure (wpN_pure hr)
    | cons b r'' => exact wpN_bind (wpN_holding (wpN_point ih))
end
end Mine

set_option maxRecDepth 100000
set_option Elab.async false
set_option linter.unusedVariables false
namespace Mine
open PySem PySem.W PyProof.Rows PySem.Calls

inductive All2 {α β : Type} (R : α → β → Prop) : List α → List β → Prop
  | nil : All2 R [] []
  | cons {a b l m} : R a b → All2 R l m → All2 R (a :: l) (b :: m)
namespace All2
variable {α β : Type} {R : α → β → Prop}
theorem length {l : List α} {m : List β} (h : All2 R l m) : l.length = m.length := by
  induction h with
  | nil => rfl
  | cons _ _ ih => simp [ih]
theorem append {l l' : List α} {m m' : List β} (h : All2 R l m) (h' : All2 R l' m') : All2 R (l ++ l') (m ++ m') := by
  induction h with
  | nil => exact h'
  | cons r _ ih => exact .cons r ih
theorem split {m m' : List β} : ∀ {l : List α}, All2 R l (m ++ m') → ∃ l1 l2, l = l1 ++ l2 ∧ All2 R l1 m ∧ All2 R l2 m' := by
  induction m with
  | nil => intro l h; exact ⟨[], l, rfl, .nil, h⟩
  | cons b m ih =>
    intro l h
    cases h with
    | cons r h => obtain ⟨l1, l2, rfl, h1, h2⟩ := ih h; exact ⟨_ :: l1, l2, rfl, .cons r h1, h2⟩
theorem mem {l : List α} {m : List β} (h : All2 R l m) {b : β} (hb : b ∈ m) : ∃ a ∈ l, R a b := by
  induction h with
  | nil => cases hb
  | cons r _ ih =>
    rcases List.mem_cons.mp hb with rfl | hb
    · exact ⟨_, .head _, r⟩
    · obtain ⟨a, ha, hr⟩ := ih hb; exact ⟨a, .tail _ ha, hr⟩
theorem get {l : List α} {m : List β} (h : All2 R l m) : ∀ {i : Nat} {b : β}, m[i]? = some b → ∃ a, l[i]? = some a ∧ R a b := by
  induction h with
  | nil => intro i b e; simp at e
  | cons r _ ih =>
    intro i b e
    cases i with
    | zero => simp at e; subst e; exact ⟨_, rfl, r⟩
    | succ i => simp at e; simpa using ih e
theorem getL {l : List α} {m : List β} (h : All2 R l m) : ∀ {i : Nat} {a : α}, l[i]? = some a → ∃ b, m[i]? = some b ∧ R a b := by
  induction h with
  | nil => intro i b e; simp at e
  | cons r _ ih =>
    intro i b e
    cases i with
    | zero => simp at e; subst e; exact ⟨_, rfl, r⟩
    | succ i => simp at e; simpa using ih e
theorem take {l : List α} {m : List β} (h : All2 R l m) (n : Nat) : All2 R (l.take n) (m.take n) := by
  induction h generalizing n with
  | nil => simp; exact .nil
  | cons r _ ih => cases n with
    | zero => exact .nil
    | succ n => simp; exact .cons r (ih n)
theorem drop {l : List α} {m : List β} (h : All2 R l m) (n : Nat) : All2 R (l.drop n) (m.drop n) := by
  induction h generalizing n with
  | nil => simp; exact .nil
  | cons r h ih => cases n with
    | zero => exact .cons r h
    | succ n => simp; exact ih n
theorem reverse {l : List α} {m : List β} (h : All2 R l m) : All2 R l.reverse m.reverse := by
  induction h with
  | nil => exact .nil
  | cons r _ ih => simp; exact ih.append (.cons r .nil)
end All2

/-! ## abstract values and objects -/
inductive V where
  | none | bool (b : Bool) | int (i : Int) | str (x : Str) | bytes (l : List Nat) | ref (a : Addr) | type (n : String) | bi (n : String)
noncomputable abbrev bnat (b : Array UInt8) : List Nat := b.toList.map (·.toNat)
inductive VR : Value → V → Prop
  | none : VR .none .none
  | bool (b) : VR (.bool b) (.bool b)
  | int (i t) : VR (.int i t) (.int i)
  | str (x t) : VR (.str x t) (.str x)
  | bytes (b t) : VR (.bytes b t) (.bytes (bnat b))
  | ref (a) : VR (.ref a) (.ref a)
  | type (n) : VR (.type n) (.type n)
  | bi (n) : VR (.builtin n) (.bi n)
inductive AObj where
  | list (vs : List V)
  | barr (l : List Nat)
  | cell (v : Option V)
  | code (qual : Str)
  | tab (pos : Pos) (t : Option Addr)
  | lam (name qual : Str) (params : Arguments) (body : PySem.Expr) (scope : Scope) (cl : List (Str × Addr)) (c' : Addr)
  | slice (l u s : V)
  | liter (l : Addr) (i : Nat)
  | riter (x left step : Int)
  | biter (b : List Nat) (i : Nat)
  | range (a b c : Int)
  | raw (o : Obj)
noncomputable def OR (o : Obj) : AObj → Prop
  | .list vs => ∃ its n, o = listOf its n ∧ All2 VR its.toList vs
  | .barr l => ∃ b, o = { cls := .type "bytearray", data := .bytearray b } ∧ l = bnat b
  | .cell none => o.data = .cell none
  | .cell (some x) => ∃ v, o.data = .cell (some v) ∧ VR v x
  | .code qual => ∃ vs t, o.data = .fields vs ∧ vs[1]? = some (.str qual t)
  | .tab pos t => ∃ ps, o = tabObj ps ∧ TriplesOk ps.toList ∧ codeAmong pos ps.toList = t.map Value.ref
  | .lam name qual params body scope cl c' => ∃ pm ctv, o = kla_obj name qual params body scope cl pm c' ctv
  | .slice l u s => ∃ lv uv sv, o = { cls := .type "slice", data := .fields #[lv, uv, sv] } ∧ VR lv l ∧ VR uv u ∧ VR sv s
  | .liter l i => o.cls = .type "list_iterator" ∧ o.data = .fields #[.ref l, .int i 0]
  | .riter x left step => o = { cls := .type "range_iterator", dict := none, data := .fields #[rawInt x, rawInt left, rawInt step], slots := #[] }
  | .biter l i => ∃ b t, o.cls = .type "bytes_iterator" ∧ o.data = .fields #[.bytes b t, .int i 0] ∧ l = bnat b
  | .range a b c => ∃ t u v, o = { cls := .type "range", dict := none, data := .fields #[.int a t, .int b u, .int c v], slots := #[] }
  | .raw o' => o = o' ∧ ∀ es n, o.data ≠ .dict es n
/-! ## the state -/
structure Gl where
  prog : Program
  w : World
  K : Frag
  p : Program
  loose : List Str
  mean : ExcName → Option Value
  mg : Str → Option Value
  mb : Str → Option Value
structure Fc where
  g : Gl
  A : Around
  env : Env
  h₀ : Heap
  s₀ : Shared
  room : Nat
  hd : Bool
noncomputable abbrev Fc.M (c : Fc) : Model := model c.g.prog c.g.w
structure FcOk (c : Fc) : Prop where
  top : Top c.g.p c.g.loose c.g.mean c.g.mg c.g.mb c.h₀
  kin : c.g.K.In c.h₀
  glob : c.env.globals = mainGlobals
  blt : c.env.builtins = builtinsNs
  kind : c.env.scope.kind = .function
  hand : c.hd = false → c.A.handled = none
  hdr : c.hd = true → c.room = 0
  depth : c.A.depth + c.room ≤ 400
  units : c.A.units + 10 * c.room ≤ 1000
noncomputable abbrev Loc := List (Str × V)
structure St where
  loc : Loc
  hp : List (Addr × AObj)
noncomputable def LocRel (m : Str → Option Value) (l : Loc) : Prop := ∀ x v, l.lookup x = some v → ∃ v', m x = some v' ∧ VR v' v
noncomputable def ER (p : Addr × Obj) (q : Addr × AObj) : Prop := p.1 = q.1 ∧ OR p.2 q.2
/-- the same object, but for the slots of a frame -/
noncomputable def FR (o o' : Obj) : Prop := o' = o ∨ ∃ es n sl, o.data = .dict es n ∧ o' = { o with slots := sl }
noncomputable def PR (p' p : Addr × Obj) : Prop := p'.1 = p.1 ∧ FR p.2 p'.2
theorem FR.refl (o : Obj) : FR o o := .inl rfl
theorem FR.trans {a b c : Obj} (h : FR a b) (k : FR b c) : FR a c := by
  rcases h with rfl | ⟨es, n, sl, d, rfl⟩
  · exact k
  · rcases k with rfl | ⟨es', n', sl', d', rfl⟩
    · exact .inr ⟨es, n, sl, d, rfl⟩
    · exact .inr ⟨es, n, sl', d, rfl⟩
theorem PR.refl (l : List (Addr × Obj)) : All2 PR l l := by
  induction l with
  | nil => exact .nil
  | cons a l ih => exact .cons ⟨rfl, .refl _⟩ ih
theorem All2PR.names : ∀ {a b : List (Addr × Obj)}, All2 PR b a → b.map (·.1) = a.map (·.1)
  | _, _, .nil => rfl
  | _, _, .cons r h => by simp [r.1, All2PR.names h]
theorem FR.data {o o' : Obj} (h : FR o o') (hd : ∀ es n, o.data ≠ .dict es n) : o' = o := by
  rcases h with h | ⟨es, n, _, d, _⟩
  · exact h
  · exact absurd d (hd es n)
theorem OR.nodict {o : Obj} {ao : AObj} (h : OR o ao) : ∀ es n, o.data ≠ .dict es n := by
  intro es n hd
  cases ao with
  | list vs => obtain ⟨_, _, rfl, _⟩ := h; cases hd
  | barr l => obtain ⟨_, rfl, _⟩ := h; cases hd
  | cell v => cases v with
    | none => rw [show o.data = _ from h] at hd; cases hd
    | some x => obtain ⟨_, e, _⟩ := h; rw [e] at hd; cases hd
  | code q => obtain ⟨_, _, e, _⟩ := h; rw [e] at hd; cases hd
  | tab p t => obtain ⟨_, rfl, _⟩ := h; cases hd
  | lam => obtain ⟨_, _, rfl⟩ := h; cases hd
  | slice => obtain ⟨_, _, _, rfl, _⟩ := h; cases hd
  | liter => rw [h.2] at hd; cases hd
  | riter => rw [show o = _ from h] at hd; cases hd
  | biter => obtain ⟨_, _, _, e, _⟩ := h; rw [e] at hd; cases hd
  | range => obtain ⟨_, _, _, rfl⟩ := h; cases hd
  | raw o' => exact h.2 es n hd
/-- every frame of the stack is the running one or one that is kept -/
noncomputable def FrOk (c : Fc) (φ : List (Addr × Obj)) : Prop := ∀ l, c.A.frames = some l → ∀ e ∈ l, e.scope.kind ≠ .module ∧ ∃ L, e.frame = some L ∧ (L = c.env.locals ∨ ∃ o es n, (L, o) ∈ φ ∧ o.data = .dict es n)
structure Sat (c : Fc) (φ : List (Addr × Obj)) (st : St) (s : Shared) : Prop where
  ok : FcOk c
  fr : ∃ m, Fr c.h₀ c.env.locals s.heap m ∧ LocRel m st.loc
  nw : ∃ news φ', News c.h₀ c.env.locals s.heap (news ++ φ') ∧ ((news ++ φ').map (·.1)).Nodup ∧ All2 ER news st.hp ∧ All2 PR φ' φ
  rest : ∃ h tk, s = { c.s₀ with heap := h, toks := tk }
  frm : FrOk c φ

section
variable {c : Fc} {φ : List (Addr × Obj)} {st : St} {s : Shared}
theorem Sat.keep₀ (S : Sat c φ st s) : ∀ b o, c.h₀.get? b = some o → s.heap.get? b = some o := let ⟨_, F, _⟩ := S.fr; F.keep
theorem Sat.top (S : Sat c φ st s) : Top c.g.p c.g.loose c.g.mean c.g.mg c.g.mb s.heap := S.ok.top.keeps S.keep₀
theorem Sat.kin (S : Sat c φ st s) : c.g.K.In s.heap := S.ok.kin.keeps S.keep₀
theorem Sat.at (S : Sat c φ st s) {a : Addr} {ao : AObj} (hm : (a, ao) ∈ st.hp) : ∃ o, s.heap.get? a = some o ∧ OR o ao := by
  obtain ⟨news, φ', N, _, H, _⟩ := S.nw
  obtain ⟨⟨a', o⟩, hp, e, ho⟩ := H.mem hm
  cases e
  exact ⟨o, (N _ (List.mem_append_left _ hp)).1, ho⟩
theorem Sat.list (S : Sat c φ st s) {a : Addr} {vs : List V} (hm : (a, AObj.list vs) ∈ st.hp) : ∃ its n, s.heap.get? a = some (listOf its n) ∧ All2 VR its.toList vs ∧ s.heap.IsList a its := by
  obtain ⟨o, ho, its, n, rfl, h⟩ := S.at hm
  exact ⟨its, n, ho, h, ⟨_, ho, rfl, n, rfl⟩⟩

/-- a heap that keeps every object -/
theorem Sat.keeps (S : Sat c φ st s) {h' : Heap} {tk : Tok} (hk : ∀ b o, s.heap.get? b = some o → h'.get? b = some o) : Sat c φ st { s with heap := h', toks := tk } := by
  obtain ⟨m, F, hl⟩ := S.fr
  obtain ⟨news, φ', N, nd, H, P⟩ := S.nw
  obtain ⟨h, t, e⟩ := S.rest
  exact ⟨S.ok, ⟨m, ⟨F.ns.keeps hk, fun b o e => hk _ _ (F.keep b o e), F.above⟩, hl⟩, ⟨news, φ', fun p hp => ⟨hk _ _ (N p hp).1, (N p hp).2⟩, nd, H, P⟩, ⟨h', tk, by rw [e]⟩, S.frm⟩
theorem Sat.toks (S : Sat c φ st s) (tk : Tok) : Sat c φ st { s with toks := tk } := S.keeps (h' := s.heap) fun _ _ e => e
/-- forget entries and names -/
theorem Sat.weaken {loc' : Loc} (S : Sat c φ st s) (hl : ∀ x v, loc'.lookup x = some v → st.loc.lookup x = some v) : Sat c φ ⟨loc', st.hp⟩ s :=
  ⟨S.ok, let ⟨m, F, h⟩ := S.fr; ⟨m, F, fun x v e => h x v (hl x v e)⟩, S.nw, S.rest, S.frm⟩
theorem Sat.perm (S : Sat c φ st s) {hp' : List (Addr × AObj)} (h : st.hp.Perm hp') : Sat c φ ⟨st.loc, hp'⟩ s := by
  refine ⟨S.ok, S.fr, ?_, S.rest, S.frm⟩
  obtain ⟨news, φ', N, nd, H, P⟩ := S.nw
  have : ∃ news', news.Perm news' ∧ All2 ER news' hp' := by
    clear N nd S P
    generalize st.hp = hp₀ at h H
    induction h generalizing news with
    | nil => cases H; exact ⟨[], .nil, .nil⟩
    | cons x _ ih => cases H with | cons r H => obtain ⟨n', p', H'⟩ := ih _ H; exact ⟨_ :: n', p'.cons _, .cons r H'⟩
    | swap x y l => cases H with | cons r H => cases H with | cons r' H => exact ⟨_, .swap _ _ _, .cons r' (.cons r H)⟩
    | trans _ _ ih1 ih2 => obtain ⟨n1, p1, H1⟩ := ih1 _ H; obtain ⟨n2, p2, H2⟩ := ih2 _ H1; exact ⟨n2, p1.trans p2, H2⟩
  obtain ⟨news', p', H'⟩ := this
  have pa : (news ++ φ').Perm (news' ++ φ') := p'.append_right φ'
  exact ⟨news', φ', fun q hq => N q (pa.mem_iff.mpr hq), (pa.map _).nodup_iff.mp nd, H', P⟩
theorem Sat.drop (S : Sat c φ st s) {l r : List (Addr × AObj)} (h : st.hp = l ++ r) : Sat c φ ⟨st.loc, r⟩ s := by
  refine ⟨S.ok, S.fr, ?_, S.rest, S.frm⟩
  obtain ⟨news, φ', N, nd, H, P⟩ := S.nw
  rw [h] at H
  obtain ⟨n1, n2, rfl, _, H2⟩ := H.split
  refine ⟨n2, φ', fun q hq => N q ?_, ?_, H2, P⟩
  · rw [List.append_assoc]; exact List.mem_append_right _ hq
  · rw [List.append_assoc, List.map_append] at nd; exact (List.nodup_append.mp nd).2.1

theorem Sat.fresh (S : Sat c φ st s) {a : Addr} (ha : s.heap.objs.size ≤ a) : c.h₀.get? a = none ∧ a ≠ c.env.locals := by
  obtain ⟨m, F, _⟩ := S.fr
  refine ⟨?_, fun e => ?_⟩
  · cases q : c.h₀.get? a with
    | none => rfl
    | some o => exact absurd (Heap.lt_size (F.keep _ _ q)) (Nat.not_lt.mpr ha)
  · exact absurd F.ns.lt (e ▸ Nat.not_lt.mpr ha)

/-- an object added to the ledger -/
theorem Sat.add (S : Sat c φ st s) {h' : Heap} {tk : Tok} {a : Addr} {o : Obj} {ao : AObj} (ha : s.heap.objs.size ≤ a) (hk : ∀ b o, s.heap.get? b = some o → h'.get? b = some o) (ho : h'.get? a = some o) (r : OR o ao) :
    Sat c φ ⟨st.loc, (a, ao) :: st.hp⟩ { s with heap := h', toks := tk } := by
  have S' := S.keeps (tk := tk) hk
  obtain ⟨news₀, φ', N₀, nd₀, H₀, P⟩ := S.nw
  refine ⟨S'.ok, S'.fr, ⟨(a, o) :: news₀, φ', ?_, ?_, .cons ⟨rfl, r⟩ H₀, P⟩, S'.rest, S.frm⟩
  · intro p hp
    rcases List.mem_cons.mp hp with rfl | hp
    · exact ⟨ho, (S.fresh ha).2, (S.fresh ha).1⟩
    · exact ⟨hk _ _ (N₀ p hp).1, (N₀ p hp).2⟩
  · simp only [List.cons_append, List.map_cons, List.nodup_cons]
    refine ⟨fun hm => ?_, nd₀⟩
    obtain ⟨p, hp, e⟩ := List.mem_map.mp hm
    exact absurd (Heap.lt_size (N₀ p hp).1) (e ▸ Nat.not_lt.mpr ha)
theorem Sat.alloc (S : Sat c φ st s) {o : Obj} {ao : AObj} (hf : o.isFreed = false) (r : OR o ao) : Sat c φ ⟨st.loc, (s.heap.objs.size, ao) :: st.hp⟩ { s with heap := s.heap.push o } :=
  S.add (tk := s.toks) (Nat.le_refl _) (fun _ _ e => Heap.get?_push_of_some _ e) (Heap.get?_push_size _ hf) r

/-- an object of the ledger changed -/
theorem Sat.set (S : Sat c φ st s) {pre post : List (Addr × AObj)} {a : Addr} {ao ao' : AObj} (h : st.hp = pre ++ (a, ao) :: post) {h' : Heap} {tk : Tok} {o' : Obj}
    (hk : Heap.ExtBut a s.heap h') (ho : h'.get? a = some o') (r : OR o' ao') : Sat c φ ⟨st.loc, pre ++ (a, ao') :: post⟩ { s with heap := h', toks := tk } := by
  obtain ⟨m, F, hl⟩ := S.fr
  obtain ⟨news, φ', N, nd, H, P⟩ := S.nw
  obtain ⟨hh, t, e⟩ := S.rest
  rw [h] at H
  obtain ⟨n1, n2, rfl, H1, H2⟩ := H.split
  cases H2 with
  | cons r2 H2 =>
    rename_i p n2
    obtain ⟨a', o⟩ := p
    obtain ⟨rfl, _⟩ := r2
    have hm : (a', o) ∈ (n1 ++ (a', o) :: n2) ++ φ' := List.mem_append_left _ (List.mem_append_right _ (.head _))
    have hL : c.env.locals ≠ a' := fun q => (N _ hm).2.1 q.symm
    have h0 : ∀ b o, c.h₀.get? b = some o → b ≠ a' := fun b o e q => by have := (N _ hm).2.2; rw [q] at e; rw [this] at e; cases e
    refine ⟨S.ok, ⟨m, ⟨F.ns.extBut hk hL, fun b o e => hk b o (h0 b o e) (F.keep b o e), F.above⟩, hl⟩, ⟨n1 ++ (a', o') :: n2, φ', ?_, ?_, H1.append (.cons ⟨rfl, r⟩ H2), P⟩, ⟨h', tk, by rw [e]⟩, S.frm⟩
    · have ne : ∀ q ∈ (n1 ++ n2) ++ φ', q.1 ≠ a' := by
        intro q hq e
        have nd' : ((a', o) :: ((n1 ++ n2) ++ φ')).map (·.1) |>.Nodup := by
          refine List.Perm.nodup_iff (List.Perm.map _ ?_) |>.mp nd
          refine (List.Perm.append_right φ' List.perm_middle)
        rw [List.map_cons, List.nodup_cons] at nd'
        exact nd'.1 (List.mem_map.mpr ⟨q, hq, e⟩)
      intro q hq
      have hq' : q = (a', o') ∨ q ∈ (n1 ++ n2) ++ φ' := by
        simp only [List.mem_append, List.mem_cons] at hq ⊢
        rcases hq with (h | h | h) | h
        · exact .inr (.inl (.inl h))
        · exact .inl h
        · exact .inr (.inl (.inr h))
        · exact .inr (.inr h)
      rcases hq' with rfl | hq'
      · exact ⟨ho, (N _ hm).2⟩
      · have hq2 : q ∈ (n1 ++ (a', o) :: n2) ++ φ' := by
          simp only [List.mem_append, List.mem_cons] at hq' ⊢
          rcases hq' with (h | h) | h
          · exact .inl (.inl h)
          · exact .inl (.inr (.inr h))
          · exact .inr h
        exact ⟨hk _ _ (ne q hq') (N q hq2).1, (N q hq2).2⟩
    · simpa using nd
/-- a local name stored -/
theorem Sat.store (S : Sat c φ st s) {x : Str} {v : Value} {v' : V} (hv : VR v v') {h' : Heap} {tk : Tok} (hs : Heap.SameBut c.env.locals s.heap h')
    (hn : ∀ m, s.heap.Ns c.env.locals m → h'.Ns c.env.locals (fun y => if y = x then some v else m y)) : Sat c φ ⟨(x, v') :: st.loc, st.hp⟩ { s with heap := h', toks := tk } := by
  obtain ⟨m, F, hl⟩ := S.fr
  obtain ⟨news, φ', N, nd, H, P⟩ := S.nw
  obtain ⟨hh, t, e⟩ := S.rest
  refine ⟨S.ok, ⟨_, F.set (hn m F.ns) hs, fun y u hu => ?_⟩, ⟨news, φ', N.set hs, nd, H, P⟩, ⟨h', tk, by rw [e]⟩, S.frm⟩
  rw [List.lookup_cons] at hu
  by_cases hy : y = x
  · subst hy; simp at hu; subst hu; exact ⟨v, by simp, hv⟩
  · have : (y == x) = false := beq_eq_false_iff_ne.mpr hy
    rw [this] at hu
    obtain ⟨v2, e2, r2⟩ := hl y u hu
    exact ⟨v2, by simp [hy, e2], r2⟩
end
end Mine

set_option maxRecDepth 100000
set_option Elab.async false
set_option linter.unusedVariables false
namespace Mine
open PySem PySem.W PyProof.Rows PySem.Calls

noncomputable def TR {α β : Type} (c : Fc) (t : Sem α) (R : α → β → Prop) (st : St) (Q : β → St → Prop) : Prop :=
  ∀ φ s, Sat c φ st s → wpN c.M c.A t (fun a s' => ∃ b st', R a b ∧ Sat c φ st' s' ∧ Q b st') (fun _ _ => False) s
noncomputable abbrev UR : Unit → Unit → Prop := fun _ _ => True
inductive AFlow where
  | next | brk | cont | ret (v : V)
inductive FRel : Flow → AFlow → Prop
  | next : FRel .next .next
  | brk : FRel .brk .brk
  | cont : FRel .cont .cont
  | ret {v x} : VR v x → FRel (.ret v) (.ret x)
noncomputable abbrev EV (c : Fc) (e : PySem.Expr) (st : St) (Q : V → St → Prop) : Prop := TR c (eval e c.env) VR st Q
noncomputable abbrev EB (c : Fc) (e : PySem.Expr) (st : St) (Q : Bool → St → Prop) : Prop := TR c (isTrue e c.env (eval e c.env)) Eq st Q
noncomputable abbrev EX (c : Fc) (ss : List Stmt) (st : St) (Q : AFlow → St → Prop) : Prop := TR c (execs ss c.env) FRel st Q
noncomputable abbrev ES (c : Fc) (s : Stmt) (st : St) (Q : AFlow → St → Prop) : Prop := TR c (exec s c.env) FRel st Q

section
variable {α β γ δ : Type} {c : Fc} {st : St} {R : α → β → Prop} {Q : β → St → Prop}
theorem TR.mono {t : Sem α} {Q' : β → St → Prop} (h : TR c t R st Q) (k : ∀ b st', Q b st' → Q' b st') : TR c t R st Q' :=
  fun φ s S => wpN_post (h φ s S) fun a s' ⟨b, st', r, S', q⟩ => ⟨b, st', r, S', k _ _ q⟩
theorem TR.pure {a : α} {b : β} (r : R a b) (q : Q b st) : TR c (pure a) R st Q := fun φ s S => wpN_pure ⟨b, st, r, S, q⟩
theorem TR.bind {m : Sem α} {f : α → Sem γ} {R' : γ → δ → Prop} {Q' : δ → St → Prop} (h : TR c m R st (fun b st' => ∀ a, R a b → TR c (f a) R' st' Q')) : TR c (m >>= f) R' st Q' :=
  fun φ s S => wpN_bind (wpN_post (h φ s S) fun a s' ⟨b, st', r, S', q⟩ => q a r φ s' S')
theorem TR.pre {t : Sem α} {st' : St} (h : TR c t R st' Q) (k : ∀ φ s, Sat c φ st s → Sat c φ st' s) : TR c t R st Q := fun φ s S => h φ s (k φ s S)
theorem TR.holding {t : Sem α} {vs : List Value} (h : TR c t R st Q) : TR c (holding vs t) R st Q := fun φ s S => wpN_holding (h φ s S)
theorem TR.keepv {t : Sem α} {vs : List Value} (h : TR c t R st Q) : TR c (t.keep vs) R st Q := fun φ s S => wpN_keep (h φ s S)
theorem TR.operate {t : Sem Value} {vs : List Value} {Q : V → St → Prop} (h : TR c t VR st Q) : TR c (operate vs t) VR st Q := fun φ s S => wpN_operate (h φ s S)
theorem TR.stand {pos : Pos} {f : Unit → Sem α} (h : TR c (f ()) R st Q) : TR c (standAt pos >>= f) R st Q := fun φ s S => wpN_bind (wpN_standAt (h φ s S))
theorem TR.hpoint {vs : List Value} {f : Unit → Sem α} (h : TR c (f ()) R st Q) : TR c (PySem.holding vs PySem.point >>= f) R st Q := fun φ s S => wpN_bind (wpN_holding (wpN_point (h φ s S)))
theorem TR.ofEq {t t' : Sem α} (e : t = t') (h : TR c t' R st Q) : TR c t R st Q := e ▸ h
/-- a leaf by the library -/
theorem TR.leaf {t : Sem α} (h : ∀ φ s, Sat c φ st s → wpAny c.M c.A t (fun a s' => ∃ b st', R a b ∧ Sat c φ st' s' ∧ Q b st') (fun _ _ => False) s) : TR c t R st Q := fun φ s S => lift (h φ s S)
end

section
variable {c : Fc} {st : St} {Q : V → St → Prop}
/-! ### names -/
theorem ev_local {x : Str} {pos : Pos} {v : V} (hk : c.env.kindOf x = some .local) (hl : st.loc.lookup x = some v) (q : Q v st) (hd : (x == ("__debug__" : Str)) = false) : EV c (.Name x pos) st Q :=
  TR.leaf fun φ s S => by
    obtain ⟨m, F, hm⟩ := S.fr
    obtain ⟨v', e, r⟩ := hm x v hl
    exact wpAny_Name (wpAny_loadName_local S.ok.kind hk F.ns e ⟨v, st, r, S, q⟩) hd
theorem ev_cell {x : Str} {pos : Pos} {a : Addr} {v : V} (hk : c.env.kindOf x = some .cell) (hc : c.env.cells.lookup x = some a) (hm : (a, AObj.cell (some v)) ∈ st.hp) (q : Q v st) (hd : (x == ("__debug__" : Str)) = false) : EV c (.Name x pos) st Q :=
  TR.leaf fun φ s S => by
    obtain ⟨o, ho, v', hd', r⟩ := S.at hm
    exact wpAny_Name (wpAny_loadName_cell S.ok.kind hk hc ⟨o, ho, hd'⟩ ⟨v, st, r, S, q⟩) hd
theorem ev_free {x : Str} {pos : Pos} {a : Addr} {v : V} (hk : c.env.kindOf x = some .free) (hc : c.env.cells.lookup x = some a) (hm : (a, AObj.cell (some v)) ∈ st.hp) (q : Q v st) (hd : (x == ("__debug__" : Str)) = false)
    (hn : (x == ("__classdict__" : Str)) = false) : EV c (.Name x pos) st Q :=
  TR.leaf fun φ s S => by
    obtain ⟨o, ho, v', hd', r⟩ := S.at hm
    exact wpAny_Name (wpAny_loadName_free S.ok.kind hk hc ⟨o, ho, hd'⟩ ⟨v, st, r, S, q⟩ hn) hd
theorem ev_glob {x : Str} {pos : Pos} {v : Value} {v' : V} (hk : c.env.kindOf x = some .globalImplicit) (hn : nsIn c.g.K mainGlobals x = some (some v)) (r : VR v v') (q : Q v' st) (hd : (x == ("__debug__" : Str)) = false) : EV c (.Name x pos) st Q :=
  TR.leaf fun φ s S => Name_function_global S.ok.kind hk (loadGlobal_global (mg := c.g.mg) (by rw [S.ok.glob]; exact S.top.g) (mg_of S.kin S.top.g hn) ⟨v', st, r, S, q⟩) hd
theorem ev_bi {x : Str} {pos : Pos} {v : Value} {v' : V} (hk : c.env.kindOf x = some .globalImplicit) (hn : nsIn c.g.K mainGlobals x = some none) (hb : bootBuiltins x = some v) (hx : x ≠ "__name__") (r : VR v v') (q : Q v' st)
    (hd : (x == ("__debug__" : Str)) = false) : EV c (.Name x pos) st Q :=
  TR.leaf fun φ s S => Name_function_global S.ok.kind hk (loadGlobal_builtin (mg := c.g.mg) (mb := c.g.mb) (by rw [S.ok.glob]; exact S.top.g) (mg_none_of S.kin S.top.g hn) (by rw [S.ok.blt]; exact S.top.b) ((S.top.builtins x hx).trans hb) ⟨v', st, r, S, q⟩) hd
/-! ### constants -/
theorem ev_int {i : Int} {k : Nat} {pos : Pos} (q : Q (.int i) st) : EV c (.Constant (.int i) k pos) st Q :=
  TR.leaf fun φ s S => wpAny_mkInt ⟨_, st, .int i _, S.toks _, q⟩
theorem ev_none {k : Nat} {pos : Pos} (q : Q .none st) : EV c (.Constant .none k pos) st Q := TR.pure .none q
theorem ev_cbool {b : Bool} {k : Nat} {pos : Pos} (q : Q (.bool b) st) : EV c (.Constant (.bool b) k pos) st Q := TR.pure (.bool b) q
theorem ev_cbytes {b : List UInt8} {k : Nat} {pos : Pos} (q : Q (.bytes (b.map (·.toNat))) st) : EV c (.Constant (.bytes b) k pos) st Q :=
  TR.leaf fun φ s S => by
    show wpAny _ _ (do return Value.bytes b.toArray (← fresh)) _ _ s
    refine wpAny_bind (wpAny_fresh (wpAny_pure ⟨_, st, .bytes b.toArray _, S.toks _, ?_⟩))
    simpa [bnat] using q
/-! ### operators -/
noncomputable def BO (c : Fc) (op : Operator) (a b : V) (st : St) (Q : V → St → Prop) : Prop := ∀ v v', VR v a → VR v' b → TR c (binaryOp op v v') VR st Q
noncomputable def IO (c : Fc) (op : Operator) (a b : V) (st : St) (Q : V → St → Prop) : Prop := ∀ v v', VR v a → VR v' b → TR c (inplaceOp op v v') VR st Q
noncomputable def CO (c : Fc) (op : CmpOp) (a b : V) (st : St) (Q : V → St → Prop) : Prop := ∀ v v', VR v a → VR v' b → TR c (compareOp op v v') VR st Q
noncomputable def UO (c : Fc) (op : UnaryOp) (a : V) (st : St) (Q : V → St → Prop) : Prop := ∀ v, VR v a → TR c (unaryOp op v) VR st Q
noncomputable def TT (c : Fc) (a : V) (st : St) (Q : Bool → St → Prop) : Prop := ∀ v, VR v a → TR c (truthy v) Eq st Q
theorem ev_binop {l r : PySem.Expr} {op : Operator} {pos : Pos} (h : EV c l st fun a st1 => EV c r st1 fun b st2 => BO c op a b st2 Q) : EV c (.BinOp l op r pos) st Q :=
  TR.bind (TR.mono h fun a st1 h1 v r1 => TR.bind (TR.holding (TR.mono h1 fun b st2 h2 v' r2 => TR.stand (TR.operate (h2 v v' r1 r2)))))
theorem ev_unop {x : PySem.Expr} {op : UnaryOp} {pos : Pos} (h : EV c x st fun a st1 => UO c op a st1 Q) : EV c (.UnaryOp op x pos) st Q :=
  TR.bind (TR.mono h fun a st1 h1 v r1 => TR.stand (TR.holding (h1 v r1)))
theorem ev_ifexp {t b o : PySem.Expr} {pos : Pos} (h : EB c t st fun k st1 => if k then EV c b st1 Q else EV c o st1 Q) : EV c (.IfExp t b o pos) st Q :=
  TR.bind (TR.mono h fun k st1 h1 k' e => by subst e; cases k' <;> exact h1)
theorem ev_cmp1 {l r : PySem.Expr} {op : CmpOp} {pos : Pos} (h : EV c l st fun a st1 => EV c r st1 fun b st2 => CO c op a b st2 Q) (hm : ∀ t, markedEach [op] [r] [t] = [t] := by intro t; rfl) : EV c (.Compare l [op] [r] pos) st Q :=
  TR.bind (TR.mono h fun a st1 h1 v r1 => by
    show TR c (compareChain pos v [op] (markedEach [op] [r] [eval r c.env])) VR st1 Q
    rw [hm]
    exact TR.bind (TR.holding (TR.mono h1 fun b st2 h2 v' r2 => TR.stand (TR.operate (h2 v v' r1 r2)))))
/-! ### tests -/
variable {Qb : Bool → St → Prop}
theorem eb_not {x : PySem.Expr} {pos : Pos} (h : EB c x st fun k st1 => Qb (!k) st1) : EB c (.UnaryOp .Not x pos) st Qb :=
  TR.bind (TR.mono h fun k st1 h1 k' e => by subst e; exact TR.pure rfl h1)
theorem eb_and1 {x : PySem.Expr} {pos : Pos} (h : EB c x st Qb) : TR c (allTrue .And [x] c.env) Eq st Qb :=
  TR.bind (TR.mono h fun k st1 h1 k' e => by subst e; cases k' <;> exact TR.pure rfl h1)
theorem eb_andc {x y : PySem.Expr} {r : List PySem.Expr} (h : EB c x st fun k st1 => if k then TR c (allTrue .And (y :: r) c.env) Eq st1 Qb else Qb false st1) : TR c (allTrue .And (x :: y :: r) c.env) Eq st Qb :=
  TR.bind (TR.mono h fun k st1 h1 k' e => by
    subst e
    cases k' with
    | true => exact h1
    | false => exact TR.pure rfl h1)
theorem eb_or1 {x : PySem.Expr} {pos : Pos} (h : EB c x st Qb) : TR c (allTrue .Or [x] c.env) Eq st Qb :=
  TR.bind (TR.mono h fun k st1 h1 k' e => by subst e; cases k' <;> exact TR.pure rfl h1)
theorem eb_orc {x y : PySem.Expr} {r : List PySem.Expr} (h : EB c x st fun k st1 => if k then Qb true st1 else TR c (allTrue .Or (y :: r) c.env) Eq st1 Qb) : TR c (allTrue .Or (x :: y :: r) c.env) Eq st Qb :=
  TR.bind (TR.mono h fun k st1 h1 k' e => by
    subst e
    cases k' with
    | true => exact TR.pure rfl h1
    | false => exact h1)
theorem eb_cmp1 {l r : PySem.Expr} {op : CmpOp} {pos : Pos} (h : EV c l st fun a st1 => EV c r st1 fun b st2 => CO c op a b st2 fun k st3 => TT c k st3 Qb) (hm : ∀ t, markedEach [op] [r] [t] = [t] := by intro t; rfl) : EB c (.Compare l [op] [r] pos) st Qb :=
  TR.bind (TR.mono h fun a st1 h1 v r1 => by
    show TR c (testChain pos v [op] (markedEach [op] [r] [eval r c.env])) Eq st1 Qb
    rw [hm]
    exact TR.bind (TR.holding (TR.mono h1 fun b st2 h2 v' r2 => TR.stand (TR.bind (TR.operate (TR.mono (h2 v v' r1 r2) fun k st3 h3 kv r3 => TR.holding (h3 kv r3)))))))
theorem eb_plain {e : PySem.Expr} (h : EV c e st fun a st1 => TT c a st1 Qb) (he : isTrue e c.env (eval e c.env) = (do let v ← eval e c.env; standAt e.pos; holding [v] (truthy v)) := by rfl) : EB c e st Qb :=
  TR.ofEq he (TR.bind (TR.mono h fun a st1 h1 v r1 => TR.stand (TR.holding (h1 v r1))))
theorem tt_bool {b : Bool} (q : Qb b st) : TT c (.bool b) st Qb := fun v r => by cases r; exact TR.leaf fun φ s S => wpAny_truthy_bool ⟨b, st, rfl, S, q⟩
/-! ### and, or as values -/
theorem ev_and2 {x y : PySem.Expr} {pos : Pos} (h : EV c x st fun a st1 => TT c a st1 fun t st2 => if t then EV c y st2 Q else Q a st2) : EV c (.BoolOp .And [x, y] pos) st Q :=
  TR.bind (TR.mono h fun a st1 h1 v r1 => TR.stand (TR.bind (TR.holding (TR.mono (h1 v r1) fun t st2 h2 t' e => by
    subst e
    cases t' with
    | true => exact h2
    | false => exact TR.pure r1 h2))))
theorem ev_and3 {x y z : PySem.Expr} {pos : Pos} (h : EV c x st fun a st1 => TT c a st1 fun t st2 => if t then EV c (.BoolOp .And [y, z] pos) st2 Q else Q a st2) : EV c (.BoolOp .And [x, y, z] pos) st Q :=
  TR.bind (TR.mono h fun a st1 h1 v r1 => TR.stand (TR.bind (TR.holding (TR.mono (h1 v r1) fun t st2 h2 t' e => by
    subst e
    cases t' with
    | true => exact h2
    | false => exact TR.pure r1 h2))))
/-! ### lists of expressions, calls -/
noncomputable def EL (c : Fc) (pos : Pos) (es : List PySem.Expr) (st : St) (Q : List V → St → Prop) : Prop := TR c (spliced (backTo pos (starEach es c.env))) (All2 VR) st Q
noncomputable def EK (c : Fc) (pos : Pos) (ks : List Keyword) (st : St) (Q : List V → St → Prop) : Prop := TR c (evalAll ((backToKw pos (keywordEach ks c.env)).map (·.2))) (All2 VR) st Q
theorem el_nil {pos : Pos} {Q : List V → St → Prop} (q : Q [] st) : EL c pos [] st Q := TR.pure .nil q
theorem el_cons {pos : Pos} {e : PySem.Expr} {es : List PySem.Expr} {Q : List V → St → Prop} (h : EV c e st fun a st1 => EL c pos es st1 fun as st2 => Q (a :: as) st2)
    (hs : starEach (e :: es) c.env = (false, eval e c.env) :: starEach es c.env := by rfl) : EL c pos (e :: es) st Q := by
  unfold EL
  rw [hs]
  show TR c (spliced ((false, eval e c.env) :: backTo pos (starEach es c.env))) (All2 VR) st Q
  exact TR.bind (TR.mono h fun a st1 h1 v r1 => TR.bind (TR.pure (R := fun (x : List Value) (y : List Value) => x = y) rfl fun a' e' => by
    subst e'
    exact TR.bind (TR.holding (TR.mono h1 fun as st2 h2 vs r2 => TR.pure (All2.cons r1 r2) h2))))
theorem ek_nil {pos : Pos} {Q : List V → St → Prop} (q : Q [] st) : EK c pos [] st Q := TR.pure .nil q
theorem ek_cons {pos : Pos} {k : Keyword} {ks : List Keyword} {Q : List V → St → Prop} (h : EV c k.value st fun a st1 => EK c pos ks st1 fun as st2 => Q (a :: as) st2) : EK c pos (k :: ks) st Q := by
  unfold EK
  obtain ⟨n, e, p⟩ := k
  show TR c (evalAll ((do let v ← eval e c.env; standAt pos; pure v) :: ((backToKw pos (keywordEach ks c.env)).map (·.2)))) (All2 VR) st Q
  refine TR.bind (TR.bind (TR.mono h fun a st1 h1 v r1 => TR.stand (TR.pure r1 ?_)))
  intro v' r1'
  exact TR.bind (TR.holding (TR.mono h1 fun as st2 h2 vs r2 => TR.pure (All2.cons r1' r2) h2))
noncomputable def kwNames (ks : List Keyword) : List Str := ks.filterMap (·.arg)
/-- a call of a value by place and keyword -/
noncomputable def CA (c : Fc) (f : V) (as : List V) (kn : List Str) (ks : List V) (st : St) (Q : V → St → Prop) : Prop :=
  ∀ fv vs kvs, VR fv f → All2 VR vs as → All2 VR kvs ks → TR c (call fv vs (kn.zip kvs)) VR st Q
noncomputable def Keeper (c : Fc) (f : V) (st : St) : Prop := match f with
  | .ref a => (∃ oc od fd sl, c.g.K.lookup a = some ⟨oc, od, .func fd, sl⟩) ∨ (∃ n q p b sc cl c', (a, AObj.lam n q p b sc cl c') ∈ st.hp)
  | .type _ | .bi _ => True
  | _ => False
theorem evalArgs_tr {pos : Pos} {f : Value} {args : List PySem.Expr} {ks : List Keyword} {Q : List V × List V → St → Prop} (hk : (keywordEach ks c.env).all (·.1.isSome) = true) (hst : (starEach args c.env).all (fun x => !x.1) = true)
    (h : EL c pos args st fun as st1 => EK c pos ks st1 fun kvs st2 => Q (as, kvs) st2) :
    TR c (evalArgs f true (backTo pos (starEach args c.env)) (backToKw pos (keywordEach ks c.env))) (fun x y => ∃ kvs, x.kw = ((keywordEach ks c.env).filterMap (·.1)).zip kvs ∧ All2 VR x.pos y.1 ∧ All2 VR kvs y.2) st Q := by
  have hall : (backToKw pos (keywordEach ks c.env)).all (·.1.isSome) = true := by
    unfold backToKw; rw [List.all_map]; exact hk
  have hfm : (backToKw pos (keywordEach ks c.env)).filterMap (·.1) = (keywordEach ks c.env).filterMap (·.1) := by
    unfold backToKw; rw [List.filterMap_map]; rfl
  unfold evalArgs
  have fin : ∀ (vs : List Value) (as : List V) (st1 : St), All2 VR vs as → (EK c pos ks st1 fun kvs st2 => Q (as, kvs) st2) →
      TR c (evalAll ((backToKw pos (keywordEach ks c.env)).map (·.2)) >>= fun l => PySem.Sem.pure (⟨vs, ((backToKw pos (keywordEach ks c.env)).filterMap (·.1)).zip l⟩ : Args))
        (fun x y => ∃ kvs, x.kw = ((keywordEach ks c.env).filterMap (·.1)).zip kvs ∧ All2 VR x.pos y.1 ∧ All2 VR kvs y.2) st1 Q :=
    fun vs as st1 r1 h1 => TR.bind (TR.mono h1 fun kvs st2 h2 kv r2 => TR.pure (b := (as, kvs)) ⟨kv, by rw [hfm], r1, r2⟩ h2)
  cases hse : starEach args c.env with
  | nil =>
    unfold EL at h
    rw [hse] at h
    show TR c (spliced [] >>= _) _ st Q
    refine TR.bind (TR.mono h fun as st1 h1 vs r1 => ?_)
    show TR c (holding _ _) _ st1 Q
    refine TR.holding ?_
    simp only [hall, if_true]
    exact fin vs as st1 r1 h1
  | cons x xs =>
    rw [hse] at hst
    obtain ⟨b, t⟩ := x
    have hb : b = false := by simp at hst; exact hst.1
    subst hb
    unfold EL at h
    rw [hse] at h
    show TR c (spliced (backTo pos ((false, t) :: xs)) >>= _) _ st Q
    refine TR.bind (TR.mono h fun as st1 h1 vs r1 => ?_)
    show TR c (holding _ _) _ st1 Q
    refine TR.holding ?_
    simp only [hall, if_true]
    exact fin vs as st1 r1 h1
theorem callWith_tr {pos : Pos} {f : Value} {fa : V} {first : List Value} {args : List PySem.Expr} {ks : List Keyword} {Q : V → St → Prop} {R1 : List Value → List V → Prop} (rf : VR f fa)
    (hk : (keywordEach ks c.env).all (·.1.isSome) = true) (hst : (starEach args c.env).all (fun x => !x.1) = true)
    (h : EL c pos args st fun as st1 => EK c pos ks st1 fun kvs st2 => Keeper c fa st2 ∧ ∀ vs kv, All2 VR vs as → All2 VR kv kvs → TR c (call f (first ++ vs) (((keywordEach ks c.env).filterMap (·.1)).zip kv)) VR st2 Q) :
    TR c (callWith pos f first (backTo pos (starEach args c.env)) (backToKw pos (keywordEach ks c.env))) VR st Q := by
  unfold callWith
  refine TR.bind (TR.holding (TR.mono (evalArgs_tr (Q := fun y st2 => Keeper c fa st2 ∧ ∀ vs kv, All2 VR vs y.1 → All2 VR kv y.2 → TR c (call f (first ++ vs) (((keywordEach ks c.env).filterMap (·.1)).zip kv)) VR st2 Q) hk hst h) ?_))
  rintro ⟨as, kvs⟩ st2 ⟨hkp, hcall⟩ x ⟨kv, ekw, r1, r2⟩
  refine TR.stand ?_
  obtain ⟨xp, xk⟩ := x
  dsimp only at ekw r1 r2 ⊢
  subst ekw
  have hstar : ((backTo pos (starEach args c.env)).any (·.1) || (backToKw pos (keywordEach ks c.env)).any (·.1.isNone)) = false := by
    rw [Bool.or_eq_false_iff]
    constructor
    · unfold backTo; rw [List.any_map]
      rw [List.any_eq_false]
      intro y hy
      have := List.all_eq_true.mp hst y hy
      simpa using this
    · unfold backToKw; rw [List.any_map]
      rw [List.any_eq_false]
      intro y hy
      have := List.all_eq_true.mp hk y hy
      cases hn : y.1 with
      | none => rw [hn] at this; cases this
      | some z => simp [hn]
  rw [hstar]
  have body := hcall xp kv r1 r2
  have tail : ∀ t : Sem Value, TR c t VR st2 Q → TR c (t >>= fun r => holding [r] point >>= fun _ => pure r) VR st2 Q := fun t ht => TR.bind (TR.mono ht fun v st3 q r rr => TR.hpoint (TR.pure rr q))
  cases fa with
  | ref a =>
    cases rf
    intro φ s S
    have hf : ∃ o fd, s.heap.get? a = some o ∧ o.data = .func fd := by
      rcases hkp with ⟨oc, od, fd, sl, e⟩ | ⟨n, q, p, b, sc, cl, c', e⟩
      · exact ⟨_, fd, S.kin _ _ e, rfl⟩
      · obtain ⟨o, ho, pm, ctv, rfl⟩ := S.at e
        exact ⟨_, _, ho, rfl⟩
    obtain ⟨o, fd, ho, hd⟩ := hf
    refine wpN_bind (m := keeperOf (.ref a)) (lift ?_)
    unfold keeperOf
    refine wpAny_bind (wpAny_load ho ?_)
    rw [hd]
    refine wpAny_pure ?_
    dsimp only
    split <;> first
      | exact tail _ body φ s S
      | exact tail _ (TR.keepv body) φ s S
  | type n => cases rf; intro φ s S; exact wpN_bind (m := keeperOf (.type n)) (lift (wpAny_pure (tail _ body φ s S)))
  | bi n => cases rf; intro φ s S; exact wpN_bind (m := keeperOf (.builtin n)) (lift (wpAny_pure (tail _ body φ s S)))
  | none => exact hkp.elim
  | bool => exact hkp.elim
  | int => exact hkp.elim
  | str => exact hkp.elim
  | bytes => exact hkp.elim
theorem ev_call {n : Str} {np pos : Pos} {args : List PySem.Expr} {ks : List Keyword} (h : EV c (.Name n np) st fun f st1 => EL c pos args st1 fun as st2 => EK c pos ks st2 fun kvs st3 => Keeper c f st3 ∧ CA c f as (kwNames ks) kvs st3 Q)
    (hk : (keywordEach ks c.env).all (·.1.isSome) = true) (hst : (starEach args c.env).all (fun x => !x.1) = true) (hn : (keywordEach ks c.env).filterMap (·.1) = kwNames ks) : EV c (.Call (.Name n np) args ks pos) st Q := by
  show TR c (eval (.Name n np) c.env >>= fun f => callWith pos f [] (backTo pos (starEach args c.env)) (backToKw pos (keywordEach ks c.env))) VR st Q
  refine TR.bind (TR.mono h fun f st1 h1 fv rf => callWith_tr (R1 := All2 VR) rf hk hst ?_)
  refine TR.mono h1 fun as st2 h2 => TR.mono h2 fun kvs st3 h3 => ⟨h3.1, fun vs kv r1 r2 => ?_⟩
  rw [hn]
  exact h3.2 fv vs kv rf r1 r2
end
end Mine

set_option maxRecDepth 100000
set_option Elab.async false
set_option linter.unusedVariables false
namespace Mine
open PySem PySem.W PyProof.Rows PySem.Calls

section
variable {α β : Type} {c : Fc} {R : α → β → Prop}
theorem Sat.inFrame {φ : List (Addr × Obj)} {loc : Loc} {fr hp : List (Addr × AObj)} {s : Shared} (S : Sat c φ ⟨loc, fr ++ hp⟩ s) : ∃ n1, All2 ER n1 fr ∧ Sat c (n1 ++ φ) ⟨loc, hp⟩ s := by
  obtain ⟨news, φ', N, nd, H, P⟩ := S.nw
  obtain ⟨n1, n2, rfl, H1, H2⟩ := All2.split H
  have p : ((n1 ++ n2) ++ φ').Perm (n2 ++ (n1 ++ φ')) := by
    rw [← List.append_assoc]
    exact List.Perm.append_right φ' List.perm_append_comm
  refine ⟨n1, H1, S.ok, S.fr, ⟨n2, n1 ++ φ', fun q hq => N q (p.mem_iff.mpr hq), (p.map _).nodup_iff.mp nd, H2, (PR.refl n1).append P⟩, S.rest, fun l hl e he => ?_⟩
  obtain ⟨k, L, hf, hL⟩ := S.frm l hl e he
  refine ⟨k, L, hf, hL.imp id fun ⟨o, es, n, hm, hd⟩ => ⟨o, es, n, List.mem_append_right _ hm, hd⟩⟩
theorem ER.after : ∀ {n1 n1' : List (Addr × Obj)} {fr : List (Addr × AObj)}, All2 ER n1 fr → All2 PR n1' n1 → All2 ER n1' fr
  | _, _, _, .nil, h => by cases h; exact .nil
  | _, _, _, .cons r h, k => by
    cases k with
    | cons r' k => exact .cons ⟨r'.1.trans r.1, by rw [r'.2.data r.2.nodict]; exact r.2⟩ (ER.after h k)
theorem Sat.outFrame {φ n1 : List (Addr × Obj)} {st : St} {fr : List (Addr × AObj)} {s : Shared} (H1 : All2 ER n1 fr) (S : Sat c (n1 ++ φ) st s) : Sat c φ ⟨st.loc, fr ++ st.hp⟩ s := by
  obtain ⟨n2, ψ, N, nd, H2, P⟩ := S.nw
  obtain ⟨n1', φ', rfl, P1, P2⟩ := P.split
  have p : (n2 ++ (n1' ++ φ')).Perm ((n1' ++ n2) ++ φ') := by
    rw [← List.append_assoc]
    exact List.Perm.append_right φ' List.perm_append_comm
  refine ⟨S.ok, S.fr, ⟨n1' ++ n2, φ', fun q hq => N q (p.mem_iff.mpr hq), (p.map _).nodup_iff.mp nd, (ER.after H1 P1).append H2, P2⟩, S.rest, fun l hl e he => ?_⟩
  obtain ⟨k, L, hf, hL⟩ := S.frm l hl e he
  refine ⟨k, L, hf, hL.imp id fun ⟨o, es, n, hm, hd⟩ => ?_⟩
  rcases List.mem_append.mp hm with hm | hm
  · obtain ⟨i, hi⟩ := List.mem_iff_getElem?.mp hm
    obtain ⟨q, _, r⟩ := All2.getL (R := ER) H1 hi
    exact absurd hd (r.2.nodict es n)
  · exact ⟨o, es, n, hm, hd⟩
theorem TR.frame {t : Sem α} {loc : Loc} {fr hp : List (Addr × AObj)} {Q Q' : β → St → Prop} (h : TR c t R ⟨loc, hp⟩ Q) (k : ∀ b st', Q b st' → Q' b ⟨st'.loc, fr ++ st'.hp⟩) : TR c t R ⟨loc, fr ++ hp⟩ Q' := fun φ s S => by
  obtain ⟨n1, H1, S'⟩ := S.inFrame
  exact wpN_post (h _ s S') fun a s' ⟨b, st', r, S'', q⟩ => ⟨b, _, r, S''.outFrame H1, k _ _ q⟩
end

section
variable {c : Fc} {st : St}
theorem TR.releaseEnd {vs ks : List Value} {Q : Unit → St → Prop} (q : Q () st) : TR c (PySem.release vs ks) UR st Q := fun φ s S => by
  unfold PySem.release
  generalize (vs.filter fun | .ref _ => true | _ => false) = l
  induction l with
  | nil => exact wpN_pure ⟨(), st, trivial, S, q⟩
  | cons a r' ih =>
    cases r' with
    | nil => exact wpN_pure ⟨(), st, trivial, S, q⟩
    | cons b r'' => exact wpN_bind (wpN_holding (wpN_point ih))
/-! ### stores -/
noncomputable def SN (c : Fc) (x : Str) (v : V) (st : St) (Q : St → Prop) : Prop := ∀ val, VR val v → TR c (storeName c.env x val) UR st (fun _ st' => Q st')
theorem sn_local {x : Str} {v : V} {Q : St → Prop} (hk : c.env.kindOf x = some .local) (q : Q ⟨(x, v) :: st.loc, st.hp⟩) : SN c x v st Q := fun val r => TR.leaf fun φ s S => by
  obtain ⟨m, F, hl⟩ := S.fr
  have hp : (c.env.scope.kind == .class || (c.env.scope.kind == .module && c.env.locals != c.env.globals)) = false := by rw [S.ok.kind]; rfl
  refine wpAny_storeName_local hk F.ns (fun h' hn hs => ⟨(), _, trivial, S.store r hs fun m' hm' => ?_, q⟩) hp
  have : m' = m := funext fun y => hm'.agree F.ns y
  rw [this]; exact hn
theorem sn_cell {x : Str} {v : V} {a : Addr} {old : Option V} {pre post : List (Addr × AObj)} {Q : St → Prop} (hk : c.env.kindOf x = some .cell) (hc : c.env.cells.lookup x = some a) (hp : st.hp = pre ++ (a, .cell old) :: post)
    (q : Q ⟨st.loc, pre ++ (a, .cell (some v)) :: post⟩) : SN c x v st Q := fun val r => TR.leaf fun φ s S => by
  obtain ⟨o, ho, hor⟩ := S.at (a := a) (ao := .cell old) (by rw [hp]; simp)
  have hd : ∃ v₀, o.data = .cell v₀ := by
    cases old with
    | none => exact ⟨_, hor⟩
    | some y => obtain ⟨v₀, e, _⟩ := hor; exact ⟨_, e⟩
  obtain ⟨v₀, hd⟩ := hd
  refine wpAny_storeName_cell S.ok.kind hk hc ⟨o, ho, hd⟩ fun h' hv hs => ?_
  obtain ⟨o', ho', hd'⟩ := hv
  exact ⟨(), _, trivial, S.set (ao' := .cell (some v)) (tk := s.toks) hp hs.extBut ho' ⟨val, hd', r⟩, q⟩
theorem bind_tr {x : Str} {v : V} {val : Value} {Q : St → Prop} (r : VR val v) (h : SN c x v st Q) : TR c (bindName c.env x val) UR st (fun _ st' => Q st') := by
  unfold bindName
  refine TR.hpoint (TR.bind (TR.mono (h val r) fun _ st' q _ _ => ?_))
  intro φ s S
  exact wpN_point ⟨(), st', trivial, S, q⟩
theorem assignName_tr {x : Str} {pos : Pos} {v : V} {val : Value} {Q : St → Prop} (r : VR val v) (h : SN c x v st Q) : TR c (assign (.Name x pos) c.env val) UR st (fun _ st' => Q st') :=
  TR.stand (bind_tr r h)

/-! ### statements -/
variable {Q : AFlow → St → Prop}
theorem ex_nil (q : Q .next st) : EX c [] st Q := TR.pure .next q
theorem ex_cons {s : Stmt} {ss : List Stmt} (h : ES c s st fun f st1 => match f with | .next => EX c ss st1 Q | f => Q f st1) : EX c (s :: ss) st Q :=
  TR.bind (TR.mono h fun f st1 h1 fv r => by
    cases r with
    | next => exact h1
    | brk => exact TR.pure .brk h1
    | cont => exact TR.pure .cont h1
    | ret rv => exact TR.pure (.ret rv) h1)
theorem es_assign {x : Str} {px : Pos} {e : PySem.Expr} {pos : Pos} (h : EV c e st fun v st1 => SN c x v st1 fun st2 => Q .next st2) (hs : swapsWithSole [.Name x px] e pos.line c.env = pure false) : ES c (.Assign [.Name x px] e pos) st Q := by
  show TR c (standAt pos >>= fun _ => swapsWithSole [.Name x px] e pos.line c.env >>= _) FRel st Q
  refine TR.stand ?_
  rw [hs]
  refine TR.bind (TR.pure (R := fun (x y : Bool) => x = y) rfl ?_)
  intro a ea
  subst ea
  refine TR.bind (TR.mono h fun v st1 h1 val r => ?_)
  show TR c (swappedStores [.Name x px] e c.env >>= fun sw => assignStores c.env val sw [assign (.Name x px) c.env]) FRel st1 Q
  have hsw : swappedStores [.Name x px] e c.env = pure none := rfl
  rw [hsw]
  refine TR.bind (TR.pure (R := fun (x y : Option (List Str)) => x = y) rfl ?_)
  intro a ea
  subst ea
  exact TR.bind (TR.mono (assignName_tr r h1) fun _ st2 q _ _ => TR.pure .next q)
theorem es_expr {e : PySem.Expr} {pos : Pos} (h : EV c e st fun v st1 => v = .none ∧ Q .next st1) (hi : interactive c.env = false) (hs : swapsWith e none pos.line c.env = pure false) : ES c (.Expr e pos) st Q := by
  show TR c (standAt pos >>= fun _ => if interactive c.env then printExpr (eval e c.env) else _) FRel st Q
  refine TR.stand ?_
  rw [hi, if_neg Bool.false_ne_true]
  rw [hs]
  refine TR.bind (TR.pure (R := fun (x y : Bool) => x = y) rfl ?_)
  intro a ea
  subst ea
  refine TR.bind (TR.mono h fun v st1 h1 val r => ?_)
  obtain ⟨rfl, q⟩ := h1
  cases r
  unfold dropValue
  cases e <;> exact TR.pure .next q
theorem es_return {e : PySem.Expr} {pos : Pos} (h : EV c e st fun v st1 => Q (.ret v) st1) : ES c (.Return (some e) pos) st Q :=
  TR.stand (TR.bind (TR.mono h fun v st1 q val r => TR.pure (.ret r) q))
theorem es_if {t : PySem.Expr} {b o : List Stmt} {pos : Pos} (h : EB c t st fun k st1 => if k then EX c b st1 Q else EX c o st1 Q) : ES c (.If t b o pos) st Q :=
  TR.stand (TR.bind (TR.mono h fun k st1 h1 k' e => by subst e; cases k' <;> exact h1))
theorem es_aug {x : Str} {np pos : Pos} {op : Operator} {e : PySem.Expr} (h : EV c (.Name x np) st fun a st1 => EV c e st1 fun b st2 => IO c op a b st2 fun v st3 => SN c x v st3 fun st4 => Q .next st4) (hd : (x == ("__debug__" : Str)) = false) :
    ES c (.AugAssign (.Name x np) op e pos) st Q := by
  have h0 : TR c (standAt np >>= fun _ => loadName c.env x) VR st fun a st1 => EV c e st1 fun b st2 => IO c op a b st2 fun v st3 => SN c x v st3 fun st4 => Q .next st4 := by
    have := h
    unfold EV at this
    rw [arm_eval_Name, hd] at this
    exact this
  show TR c (standAt np >>= fun _ => loadName c.env x >>= _) FRel st Q
  have e1 : (standAt np >>= fun _ => loadName c.env x >>= fun old => (do let v ← holding [old] (eval e c.env); standAt pos; let new ← operate [old, v] (inplaceOp op old v); standAt np; bindName c.env x new; pure Flow.next)) =
      ((standAt np >>= fun _ => loadName c.env x) >>= fun old => (do let v ← holding [old] (eval e c.env); standAt pos; let new ← operate [old, v] (inplaceOp op old v); standAt np; bindName c.env x new; pure Flow.next)) := rfl
  rw [e1]
  refine TR.bind (TR.mono h0 fun a st1 h1 av ra => ?_)
  refine TR.bind (TR.holding (TR.mono h1 fun b st2 h2 bv rb => TR.stand (TR.bind (TR.operate (TR.mono (h2 av bv ra rb) fun v st3 h3 vv rv => TR.stand (TR.bind (TR.mono (bind_tr rv h3) fun _ st4 q _ _ => TR.pure .next q)))))))
/-- a store into an item -/
noncomputable def SI (c : Fc) (o i v : V) (st : St) (Q : St → Prop) : Prop := ∀ ov iv vv, VR ov o → VR iv i → VR vv v → TR c (setItem ov iv vv) UR st (fun _ st' => Q st')
theorem es_setitem {o i e : PySem.Expr} {sp pos : Pos} (h : EV c e st fun v st1 => EV c o st1 fun ov st2 => EV c i st2 fun iv st3 => SI c ov iv v st3 fun st4 => Q .next st4)
    (hs : swapsWithSole [.Subscript o i sp] e pos.line c.env = pure false) : ES c (.Assign [.Subscript o i sp] e pos) st Q := by
  show TR c (standAt pos >>= fun _ => swapsWithSole [.Subscript o i sp] e pos.line c.env >>= _) FRel st Q
  refine TR.stand ?_
  rw [hs]
  refine TR.bind (TR.pure (R := fun (x y : Bool) => x = y) rfl ?_)
  intro a ea
  subst ea
  refine TR.bind (TR.mono h fun v st1 h1 val r => ?_)
  show TR c (swappedStores [.Subscript o i sp] e c.env >>= fun sw => assignStores c.env val sw [assign (.Subscript o i sp) c.env]) FRel st1 Q
  have hsw : swappedStores [.Subscript o i sp] e c.env = pure none := rfl
  rw [hsw]
  refine TR.bind (TR.pure (R := fun (x y : Option (List Str)) => x = y) rfl ?_)
  intro a ea
  subst ea
  refine TR.bind (R := UR) (β := Unit) ?_
  refine TR.bind (TR.holding (TR.mono h1 fun ov st2 h2 ovv ro => TR.bind (TR.holding (TR.mono h2 fun iv st3 h3 ivv ri => TR.stand (TR.bind (TR.holding (TR.mono (h3 ovv ivv val ro ri r) fun _ st4 q _ _ => ?_)))))))
  exact TR.releaseEnd fun _ _ => TR.pure .next q
/-! ### while -/
theorem under_while {A : Around} {t : PySem.Expr} {b o : List Stmt} {env : Env} : A.under (.whileLoop t b o env) = A := Around.under_of_weight rfl rfl
theorem es_while {t : PySem.Expr} {b o : List Stmt} {pos : Pos} (I : Nat → St → Prop)
    (turn : ∀ n st, I n st → EB c t st fun k st1 => if k then EX c b st1 (fun f st2 => match f with | .next | .cont => ∃ m, m < n ∧ I m st2 | .brk => Q .next st2 | .ret v => Q (.ret v) st2) else EX c o st1 Q)
    (n : Nat) (h : I n st) : ES c (.While t b o pos) st Q := by
  refine TR.stand fun φ s S => wpN_runOwn ?_ rfl
  refine codeN_loop (I := fun n s => ∃ st, I n st ∧ Sat c φ st s) rfl rfl (fun n s ⟨st, hI, S⟩ => ?_) n ⟨st, h, S⟩
  rw [under_while]
  show wpN _ _ ((whileTurn t b o c.env).onRaise _) _ _ s
  refine wpN_onRaise (wpN_mono (E := fun _ _ => False) ?_ (fun _ _ x => x) fun _ _ x => x.elim)
  unfold whileTurn
  refine wpN_bind (wpN_post (turn n st hI φ s S) ?_)
  rintro k' s1 ⟨k, st1, rfl, S1, h1⟩
  cases k' with
  | false =>
    rw [if_neg Bool.false_ne_true] at h1 ⊢
    refine wpN_bind (wpN_post (h1 φ s1 S1) ?_)
    rintro f s2 ⟨f', st2, r, S2, q⟩
    exact wpN_pure ⟨f', st2, r, S2, q⟩
  | true =>
    rw [if_pos rfl] at h1 ⊢
    refine wpN_bind (wpN_post (h1 φ s1 S1) ?_)
    rintro f s2 ⟨f', st2, r, S2, q⟩
    cases r with
    | next => obtain ⟨m, hm, hI'⟩ := q; exact wpN_pure (.inl ⟨rfl, m, hm, st2, hI', S2⟩)
    | cont => obtain ⟨m, hm, hI'⟩ := q; exact wpN_pure (.inl ⟨rfl, m, hm, st2, hI', S2⟩)
    | brk => exact wpN_pure ⟨_, st2, .next, S2, q⟩
    | ret rv => exact wpN_pure ⟨_, st2, .ret rv, S2, q⟩
/-! ### iterators, for -/
inductive OptR : Option Value → Option V → Prop
  | none : OptR none none
  | some {v x} : VR v x → OptR (some v) (some x)
structure Iter (c : Fc) (it : Addr) (ia : Nat → AObj) (items : List V) (Src : List (Addr × AObj) → Prop) : Prop where
  nxt : ∀ i v loc hp, items[i]? = some v → Src hp → TR c (pyNext (.ref it)) OptR ⟨loc, (it, ia i) :: hp⟩ (fun o st' => o = some v ∧ st' = ⟨loc, (it, ia (i + 1)) :: hp⟩)
  fin : ∀ loc hp, Src hp → TR c (pyNext (.ref it)) OptR ⟨loc, (it, ia items.length) :: hp⟩ (fun o st' => o = none ∧ st' = ⟨loc, hp⟩)
  self : ∀ i loc hp, Src hp → TR c (pyIter (.ref it)) VR ⟨loc, (it, ia i) :: hp⟩ (fun v st' => v = .ref it ∧ st' = ⟨loc, (it, ia i) :: hp⟩)
theorem under_for {A : Around} {t : PySem.Expr} {it : Value} {b o : List Stmt} {env : Env} : A.under (.forLoop t it b o env) = A := Around.under_of_weight rfl rfl
theorem under_block {A : Around} {o : List Stmt} {env : Env} : A.under (.block o env) = A := Around.under_of_weight rfl rfl
theorem for_core {x : Str} {px : Pos} {body : List Stmt} {it : Addr} {ia : Nat → AObj} {items : List V} {Src : List (Addr × AObj) → Prop} (W : Iter c it ia items Src) (I : Nat → St → Prop) (hsrc : ∀ i st, I i st → Src st.hp)
    (turn : ∀ i v st, items[i]? = some v → I i st → SN c x v st fun st1 => EX c body st1 fun f st2 => match f with | .next | .cont => I (i + 1) st2 | .brk => False | .ret v => Q (.ret v) st2)
    (hret : ∀ v loc hp e, Q (.ret v) ⟨loc, hp⟩ → Q (.ret v) ⟨loc, e :: hp⟩)
    (done : ∀ st, I items.length st → Q .next st) {φ : List (Addr × Obj)} {s : Shared} (S : Sat c φ ⟨st.loc, (it, ia 0) :: st.hp⟩ s) (h0 : I 0 st) :
    codeN c.M c.A (.forLoop (.Name x px) (.ref it) body [] c.env) (fun r s' => match r with | .ok f => ∃ b st', FRel f b ∧ Sat c φ st' s' ∧ Q b st' | .error _ => False) s := by
  refine codeN_loop (I := fun n s => ∃ i st, n = items.length + 1 - i ∧ i ≤ items.length ∧ I i st ∧ Sat c φ ⟨st.loc, (it, ia i) :: st.hp⟩ s) rfl rfl ?_ (items.length + 1) ⟨0, st, by omega, by omega, h0, S⟩
  intro n s hcp2
  refine cps fun Pcp kcp => ?_
  obtain ⟨i, st, rfl, hi, hI, S⟩ := hcp2
  refine kcp ?_
  clear kcp Pcp
  rw [under_for]
  show wpN _ _ ((forTurn (.Name x px) (.ref it) body [] c.env).onRaise _) _ _ s
  refine wpN_onRaise (wpN_mono (E := fun _ _ => False) ?_ (fun _ _ x => x) fun _ _ x => x.elim)
  unfold forTurn
  refine wpN_bind (wpN_standAt (wpN_bind (wpN_onRaise ?_)))
  by_cases hlt : i < items.length
  · have hv : items[i]? = some items[i] := by simp [hlt]
    refine wpN_mono (W.nxt i _ st.loc st.hp hv (hsrc i st hI) φ s S) ?_ fun _ _ x => x.elim
    intro o s1 hcp2
    refine cps fun Pcp kcp => ?_
    obtain ⟨o', st1, r, S1, rfl, rfl⟩ := hcp2
    refine kcp ?_
    clear kcp Pcp
    cases r with
    | some r =>
      rename_i v
      refine wpN_bind (wpN_pure (wpN_bind ?_))
      have ha := TR.frame (fr := [(it, ia (i + 1))]) (Q' := fun (_ : Unit) st1' => ∃ st', st1' = ⟨st'.loc, (it, ia (i + 1)) :: st'.hp⟩ ∧ EX c body st' fun f st2 => match f with | .next | .cont => I (i + 1) st2 | .brk => False | .ret v => Q (.ret v) st2)
        (assignName_tr (pos := px) r (turn i _ st hv hI)) (fun _ st' q => ⟨st', rfl, q⟩)
      refine wpN_post (ha φ s1 S1) ?_
      intro _ s2 hcp2
      refine cps fun Pcp kcp => ?_
      obtain ⟨_, _, _, S2, st', rfl, hb⟩ := hcp2
      refine kcp ?_
      clear kcp Pcp
      have hb := TR.frame (fr := [(it, ia (i + 1))]) (Q' := fun f st2 => match f with | .next | .cont => ∃ st3, st2 = ⟨st3.loc, (it, ia (i + 1)) :: st3.hp⟩ ∧ I (i + 1) st3 | .brk => False | .ret v => Q (.ret v) st2) hb (fun f st2 q => by
        cases f with
        | next => exact ⟨st2, rfl, q⟩
        | cont => exact ⟨st2, rfl, q⟩
        | brk => exact q
        | ret v => exact hret v _ _ _ q)
      refine wpN_bind (wpN_post (hb φ s2 S2) ?_)
      intro f s3 hcp2
      refine cps fun Pcp kcp => ?_
      obtain ⟨f', st2, rf, S3, q⟩ := hcp2
      refine kcp ?_
      clear kcp Pcp
      cases rf with
      | next => obtain ⟨st3, rfl, hI'⟩ := q; exact wpN_pure (.inl ⟨rfl, _, by omega, i + 1, st3, rfl, by omega, hI', S3⟩)
      | cont => obtain ⟨st3, rfl, hI'⟩ := q; exact wpN_pure (.inl ⟨rfl, _, by omega, i + 1, st3, rfl, by omega, hI', S3⟩)
      | brk => exact q.elim
      | ret rv => exact wpN_pure ⟨_, st2, .ret rv, S3, q⟩
  · have hin : i = items.length := by omega
    subst hin
    refine wpN_mono (W.fin st.loc st.hp (hsrc _ st hI) φ s S) ?_ fun _ _ x => x.elim
    intro o s1 hcp2
    refine cps fun Pcp kcp => ?_
    obtain ⟨o', st1, r, S1, rfl, rfl⟩ := hcp2
    refine kcp ?_
    clear kcp Pcp
    cases r
    refine wpN_pure (.inr ⟨⟨rfl, rfl⟩, codeN_of_tree ?_⟩)
    rw [under_block]
    show wpN _ _ (do return Fin.done (← (execs [] c.env).onRaise _)) _ _ s1
    exact wpN_bind (wpN_onRaise (wpN_pure (wpN_pure ⟨.next, _, .next, S1, done st hI⟩)))
theorem es_for {x : Str} {px pos : Pos} {e : PySem.Expr} {body : List Stmt}
    (h : EV c e st fun v st1 => ∀ val, VR val v → TR c (pyIter val) VR st1 fun itv st2 => ∃ (it : Addr) (ia : Nat → AObj) (items : List V) (Src : List (Addr × AObj) → Prop) (I : Nat → St → Prop) (st0 : St), itv = .ref it ∧ st2 = ⟨st0.loc, (it, ia 0) :: st0.hp⟩ ∧ Iter c it ia items Src ∧ I 0 st0 ∧ (∀ i st, I i st → Src st.hp) ∧
      (∀ i v st, items[i]? = some v → I i st → SN c x v st fun st1 => EX c body st1 fun f st2 => match f with | .next | .cont => I (i + 1) st2 | .brk => False | .ret v => Q (.ret v) st2) ∧ (∀ st, I items.length st → Q .next st))
    (hret : ∀ v loc hp e, Q (.ret v) ⟨loc, hp⟩ → Q (.ret v) ⟨loc, e :: hp⟩)
    (hs : ∀ x, foldedSetIterable e c.env x = pure x := by intro _; rfl) : ES c (.For (.Name x px) e body [] pos) st Q := by
  refine TR.stand (TR.bind (TR.mono h fun v st1 h1 val r => ?_))
  rw [hs]
  refine TR.bind (TR.pure (R := fun (x y : Value) => x = y) rfl ?_)
  intro a ea
  subst ea
  refine TR.stand (TR.bind (TR.holding (TR.mono (h1 _ r) fun itv st2 h2 itval rit => ?_)))
  obtain ⟨it, ia, items, Src, I, st0, rfl, rfl, W, h0, hsrc, turn, done⟩ := h2
  cases rit
  exact fun φ s S => wpN_runOwn (for_core W I hsrc turn hret done S h0) rfl
end
end Mine

set_option maxRecDepth 100000
set_option Elab.async false
set_option linter.unusedVariables false
namespace Mine
open PySem PySem.W PyProof.Rows PySem.Calls

structure SubOk (env' : Env) (A' : Around) (r : Nat) (hd : Bool) : Prop where
  glob : env'.globals = mainGlobals
  blt : env'.builtins = builtinsNs
  kind : env'.scope.kind = .function
  hand : hd = false → A'.handled = none
  hdr : hd = true → r = 0
  depth : A'.depth + r ≤ 400
  units : A'.units + 10 * r ≤ 1000

theorem Sat.dropFrame {c : Fc} {φ : List (Addr × Obj)} {st : St} {s : Shared} {C : Addr} {oC : Obj} (S : Sat c ((C, oC) :: φ) st s) (hfr : FrOk c φ) {h' : Heap} {tk : Tok} (hs : Heap.ExtBut C s.heap h') : Sat c φ st { s with heap := h', toks := tk } := by
  obtain ⟨m, F, hl⟩ := S.fr
  obtain ⟨news, ψ, N, nd, H, P⟩ := S.nw
  obtain ⟨hh, t, e⟩ := S.rest
  cases P with
  | cons r P =>
    rename_i x φ'
    obtain ⟨C', oC'⟩ := x
    obtain rfl : C' = C := r.1
    have hm : (C', oC') ∈ news ++ (C', oC') :: φ' := by simp
    have hL : c.env.locals ≠ C' := fun q => (N _ hm).2.1 q.symm
    have h0 : ∀ b o, c.h₀.get? b = some o → b ≠ C' := fun b o e q => by have := (N _ hm).2.2; rw [q] at e; rw [this] at e; cases e
    have nd' : ((C', oC') :: (news ++ φ')).map (·.1) |>.Nodup := (List.Perm.map _ List.perm_middle).nodup_iff.mp nd
    rw [List.map_cons, List.nodup_cons] at nd'
    refine ⟨S.ok, ⟨m, ⟨F.ns.extBut hs hL, fun b o e => hs b o (h0 b o e) (F.keep b o e), F.above⟩, hl⟩, ⟨news, φ', fun q hq => ?_, nd'.2, H, P⟩, ⟨h', tk, by rw [e]⟩, hfr⟩
    have hq' : q ∈ news ++ (C', oC') :: φ' := by
      simp only [List.mem_append, List.mem_cons] at hq ⊢
      rcases hq with h | h
      · exact .inl h
      · exact .inr (.inr h)
    exact ⟨hs _ _ (fun e => nd'.1 (List.mem_map.mpr ⟨q, hq, e⟩)) (N q hq').1, (N q hq').2⟩
theorem FR.ns {o o' : Obj} {h h' : Heap} {a : Addr} {m : Str → Option Value} (r : FR o o') (ho : h.get? a = some o) (ho' : h'.get? a = some o') (n : h.Ns a m) : h'.Ns a m := by
  obtain ⟨oL, es, ep, hL, hLd, hLk, hLf⟩ := n
  rw [ho] at hL
  obtain rfl := Option.some.inj hL
  rcases r with rfl | ⟨_, _, sl, _, rfl⟩
  · exact ⟨_, es, ep, ho', hLd, hLk, hLf⟩
  · exact ⟨_, es, ep, ho', hLd, hLk, hLf⟩

theorem Sat.sub {c : Fc} {φ : List (Addr × Obj)} {st : St} {s : Shared} (S : Sat c φ st s) : ∃ (g : Heap) (oL : Obj),
    (∀ env' A' r hd cls, SubOk env' A' r hd → env'.locals = s.heap.objs.size → (∀ l, A'.frames = some l → ∃ l', c.A.frames = some l' ∧ ∀ e ∈ l, e ∈ l' ∨ (e.scope.kind ≠ .module ∧ e.frame = some env'.locals)) →
      Sat ⟨c.g, A', env', g, c.s₀, r, hd⟩ ((c.env.locals, oL) :: φ) ⟨[], st.hp⟩ { s with heap := s.heap.push { cls := cls, data := .dict #[] } }) ∧
    (∀ c' st' s', c'.h₀ = g → c'.s₀ = c.s₀ → Sat c' ((c.env.locals, oL) :: φ) st' s' → ∃ oC m, s'.heap.get? c'.env.locals = some oC ∧ s'.heap.Ns c'.env.locals m ∧ Sat c ((c'.env.locals, oC) :: φ) ⟨st.loc, st'.hp⟩ s') := by
  refine cps fun Pcp kcp => ?_
  obtain ⟨m, F, hl⟩ := S.fr
  refine kcp ?_
  clear kcp Pcp
  refine cps fun Pcp kcp => ?_
  obtain ⟨news, φ', N, nd, H, P⟩ := S.nw
  refine kcp ?_
  clear kcp Pcp
  refine cps fun Pcp kcp => ?_
  obtain ⟨hh, t, e⟩ := S.rest
  refine kcp ?_
  clear kcp Pcp
  refine cps fun Pcp kcp => ?_
  obtain ⟨oL, es, ep, hL, hLd, hLk, hLf⟩ := id F.ns
  refine kcp ?_
  clear kcp Pcp
  have nL : c.env.locals ∉ (news ++ φ').map (·.1) := fun q => by
    refine cps fun Pcp kcp => ?_
    obtain ⟨p, hp, e⟩ := List.mem_map.mp q
    refine kcp ?_
    clear kcp Pcp
    exact (N p hp).2.1 e
  have nm : ∀ b o, c.h₀.get? b = some o → b ∉ c.env.locals :: (news ++ φ').map (·.1) := fun b o e q => by
    rcases List.mem_cons.mp q with rfl | q
    · exact absurd (Heap.lt_size e) (Nat.not_lt.mpr F.above)
    · refine cps fun Pcp kcp => ?_
      obtain ⟨p, hp, rfl⟩ := List.mem_map.mp q
      refine kcp ?_
      clear kcp Pcp
      rw [(N p hp).2.2] at e; cases e
  have st0 : ∀ b o, c.h₀.get? b = some o → (hideAll s.heap (c.env.locals :: (news ++ φ').map (·.1))).get? b = some o := fun b o e => hideAll_get _ (F.keep b o e) (nm b o e)
  refine ⟨hideAll s.heap (c.env.locals :: (news ++ φ').map (·.1)), oL, ?_, ?_⟩
  · intro env' A' r hd cls ok hloc hfr
    have nd2 : ((news ++ (c.env.locals, oL) :: φ').map (·.1)).Nodup := by
      refine ((List.Perm.map _ List.perm_middle).nodup_iff).mpr ?_
      rw [List.map_cons, List.nodup_cons]
      exact ⟨nL, nd⟩
    refine ⟨⟨S.ok.top.keeps st0, S.ok.kin.keeps st0, ok.glob, ok.blt, ok.kind, ok.hand, ok.hdr, ok.depth, ok.units⟩, ⟨fun _ => none, ⟨?_, fun b o e => Heap.get?_push_of_some _ (of_hideAll _ e), ?_⟩, fun x v h => by simp at h⟩, ⟨news, (c.env.locals, oL) :: φ', ?_, nd2, H, .cons ⟨rfl, .refl _⟩ P⟩, ⟨_, _, by rw [e]⟩, ?_⟩
    · show Heap.Ns _ env'.locals _
      rw [hloc]; exact Heap.Ns.new _ _
    · show _ ≤ env'.locals
      rw [hloc]; exact Nat.le_of_eq (hideAll_size _ _)
    · intro p hp
      have hp' : p = (c.env.locals, oL) ∨ p ∈ news ++ φ' := by
        simp only [List.mem_append, List.mem_cons] at hp ⊢
        rcases hp with h | h | h
        · exact .inr (.inl h)
        · exact .inl h
        · exact .inr (.inr h)
      have hg : s.heap.get? p.1 = some p.2 := by
        rcases hp' with rfl | hp'
        · exact hL
        · exact (N p hp').1
      refine ⟨Heap.get?_push_of_some _ hg, ?_, hideAll_none _ ?_⟩
      · show p.1 ≠ env'.locals
        rw [hloc]; exact Nat.ne_of_lt (Heap.lt_size hg)
      · rcases hp' with rfl | hp'
        · exact .head _
        · exact .tail _ (List.mem_map_of_mem hp')
    · intro l hl e he
      refine cps fun Pcp kcp => ?_
      obtain ⟨l', hl', hin⟩ := hfr l hl
      refine kcp ?_
      clear kcp Pcp
      rcases hin e he with h | ⟨k, hf⟩
      · refine cps fun Pcp kcp => ?_
        obtain ⟨k, L, hf, hL'⟩ := S.frm l' hl' e h
        refine kcp ?_
        clear kcp Pcp
        refine ⟨k, L, hf, .inr ?_⟩
        rcases hL' with rfl | ⟨o, es', n', hm, hd⟩
        · exact ⟨oL, es, _, .head _, hLd⟩
        · exact ⟨o, es', n', .tail _ hm, hd⟩
      · exact ⟨k, _, hf, .inl rfl⟩
  · intro c' st' s' hg hs S'
    refine cps fun Pcp kcp => ?_
    obtain ⟨m', F', hl'⟩ := S'.fr
    refine kcp ?_
    clear kcp Pcp
    refine cps fun Pcp kcp => ?_
    obtain ⟨news', ψ, N', nd', H', P'⟩ := S'.nw
    refine kcp ?_
    clear kcp Pcp
    refine cps fun Pcp kcp => ?_
    obtain ⟨hh', t', e'⟩ := S'.rest
    refine kcp ?_
    clear kcp Pcp
    cases P' with
    | cons r P' =>
      rename_i x φ''
      obtain ⟨L', oL'⟩ := x
      obtain rfl : L' = c.env.locals := r.1
      rw [hg] at F' N'
      refine cps fun Pcp kcp => ?_
      obtain ⟨oC, esC, epC, hC, rC⟩ := id F'.ns
      refine kcp ?_
      clear kcp Pcp
      have gC : (hideAll s.heap (c.env.locals :: (news ++ φ').map (·.1))).get? c'.env.locals = none := by
        cases q : (hideAll s.heap (c.env.locals :: (news ++ φ').map (·.1))).get? c'.env.locals with
        | none => rfl
        | some o => exact absurd (Nat.lt_of_lt_of_le (Heap.lt_size q) F'.above) (Nat.lt_irrefl _)
      have cond : ∀ a, a ≠ c.env.locals → (hideAll s.heap (c.env.locals :: (news ++ φ').map (·.1))).get? a = none → c.h₀.get? a = none := fun a _ ha => by
        cases q : c.h₀.get? a with
        | none => rfl
        | some o => rw [st0 _ _ q] at ha; cases ha
      have hmL : (c.env.locals, oL') ∈ news' ++ (c.env.locals, oL') :: φ'' := by simp
      have nC : c'.env.locals ≠ c.env.locals := fun q => (N' _ hmL).2.1 q.symm
      have nd2 : ((c.env.locals, oL') :: (news' ++ φ'')).map (·.1) |>.Nodup := (List.Perm.map _ List.perm_middle).nodup_iff.mp nd'
      rw [List.map_cons, List.nodup_cons] at nd2
      have nsL : s'.heap.Ns c.env.locals m := r.2.ns hL (N' _ hmL).1 F.ns
      refine ⟨oC, m', hC, F'.ns, S.ok, ⟨m, ⟨nsL, fun b o e => F'.keep _ _ (st0 b o e), F.above⟩, hl⟩, ⟨news', (c'.env.locals, oC) :: φ'', fun p hp => ?_, ?_, H', .cons ⟨rfl, .refl _⟩ P'⟩, ⟨hh', t', by rw [e', hs]⟩, fun l hl e he => ?_⟩
      · have hp' : p = (c'.env.locals, oC) ∨ p ∈ news' ++ φ'' := by
          simp only [List.mem_append, List.mem_cons] at hp ⊢
          rcases hp with h | h | h
          · exact .inr (.inl h)
          · exact .inl h
          · exact .inr (.inr h)
        rcases hp' with rfl | hp'
        · exact ⟨hC, nC, cond _ nC gC⟩
        · have hin : p ∈ news' ++ (c.env.locals, oL') :: φ'' := by
            simp only [List.mem_append, List.mem_cons] at hp' ⊢
            rcases hp' with h | h
            · exact .inl h
            · exact .inr (.inr h)
          have ne : p.1 ≠ c.env.locals := fun q => nd2.1 (List.mem_map.mpr ⟨p, hp', q⟩)
          exact ⟨(N' p hin).1, ne, cond _ ne (N' p hin).2.2⟩
      · refine ((List.Perm.map _ List.perm_middle).nodup_iff).mpr ?_
        rw [List.map_cons, List.nodup_cons]
        refine ⟨fun hm => ?_, nd2.2⟩
        refine cps fun Pcp kcp => ?_
        obtain ⟨p, hp, e⟩ := List.mem_map.mp hm
        refine kcp ?_
        clear kcp Pcp
        have hin : p ∈ news' ++ (c.env.locals, oL') :: φ'' := by
          simp only [List.mem_append, List.mem_cons] at hp ⊢
          rcases hp with h | h
          · exact .inl h
          · exact .inr (.inr h)
        exact (N' p hin).2.1 e
      · refine cps fun Pcp kcp => ?_
        obtain ⟨k, L, hf, hL'⟩ := S.frm l hl e he
        refine kcp ?_
        clear kcp Pcp
        exact ⟨k, L, hf, hL'.imp id fun ⟨o, es, n, hm, hd⟩ => ⟨o, es, n, .tail _ hm, hd⟩⟩
theorem Sat.unFrame {c : Fc} {φ : List (Addr × Obj)} {st : St} {s : Shared} {C : Addr} {oC : Obj} (S : Sat c ((C, oC) :: φ) st s) (hfr : FrOk c φ) : Sat c φ st s := S.dropFrame hfr (h' := s.heap) (tk := s.toks) fun _ _ _ e => e

noncomputable def cellEntries (n : Nat) : List (Str × NameKind) → List (Addr × AObj) → List (Addr × AObj)
  | [], acc => acc
  | (_, kind) :: r, acc => if kind == .cell then cellEntries (n + 1) r ((n, .cell none) :: acc) else cellEntries n r acc
theorem Sat.cells {c : Fc} {φ : List (Addr × Obj)} : ∀ (names : List (Str × NameKind)) {st : St} {s : Shared}, Sat c φ st s → Sat c φ ⟨st.loc, cellEntries s.heap.objs.size names st.hp⟩ { s with heap := pushCells s.heap names }
  | [], st, s, S => S
  | (n, kind) :: r, st, s, S => by
    unfold cellEntries pushCells
    split
    · have S1 := S.alloc (o := { cls := .type "cell", data := .cell none }) (ao := .cell none) rfl rfl
      have := Sat.cells r S1
      rw [show ({ s with heap := s.heap.push { cls := .type "cell", data := .cell none } } : Shared).heap.objs.size = s.heap.objs.size + 1 from Heap.size_push ..] at this
      exact this
    · exact Sat.cells r S
noncomputable def BI (c : Fc) : List (Str × V) → St → (St → Prop) → Prop
  | [], st, Q => Q st
  | (x, v) :: r, st, Q => SN c x v st fun st' => BI c r st' Q
theorem Sat.reA {c : Fc} {φ : List (Addr × Obj)} {st : St} {s : Shared} (S : Sat c φ st s) {A' : Around} {r : Nat} {hd : Bool} (ok : SubOk c.env A' r hd) (hfr : ∀ l, A'.frames = some l → ∃ l', c.A.frames = some l' ∧ ∀ e ∈ l, e ∈ l' ∨ (e.scope.kind ≠ .module ∧ e.frame = some c.env.locals)) : Sat ⟨c.g, A', c.env, c.h₀, c.s₀, r, hd⟩ φ st s :=
  ⟨⟨S.ok.top, S.ok.kin, ok.glob, ok.blt, ok.kind, ok.hand, ok.hdr, ok.depth, ok.units⟩, S.fr, S.nw, S.rest, fun l hl e he => by
    obtain ⟨l', hl', hin⟩ := hfr l hl
    rcases hin e he with h | ⟨k, hf⟩
    · exact S.frm l' hl' e h
    · exact ⟨k, _, hf, .inl rfl⟩⟩
theorem frames_same {A : Around} {L : Addr} : ∀ l, A.frames = some l → ∃ l', A.frames = some l' ∧ ∀ e ∈ l, e ∈ l' ∨ (e.scope.kind ≠ .module ∧ e.frame = some L) := fun l hl => ⟨l, hl, fun e he => .inl he⟩
theorem frames_deep {A : Around} {env : Env} (hk : env.scope.kind = .function) (hf : env.frame = some env.locals) : ∀ l, (A.deeper env).frames = some l → ∃ l', A.in1.frames = some l' ∧ ∀ e ∈ l, e ∈ l' ∨ (e.scope.kind ≠ .module ∧ e.frame = some env.locals) := fun l hl => by
  have hl : A.frames.map (env :: ·) = some l := hl
  cases q : A.frames with
  | none => rw [q] at hl; cases hl
  | some l' =>
    rw [q] at hl
    obtain rfl : env :: l' = l := Option.some.inj hl
    refine ⟨l', rfl, fun e he => ?_⟩
    rcases List.mem_cons.mp he with rfl | he
    · exact .inr ⟨by rw [hk]; decide, hf⟩
    · exact .inl he
theorem binds_wp {c : Fc} {φ : List (Addr × Obj)} (f : Str × Value → PUnit → Sem (ForInStep PUnit)) (hf : ∀ n v u, f (n, v) u = (do storeName c.env n v; pure (.yield ⟨⟩))) {binds : List (Str × Value)} {ab : List (Str × V)} {Q : St → Prop}
    (rb : All2 (fun p q => p.1 = q.1 ∧ VR p.2 q.2) binds ab) : ∀ {st : St} {s : Shared}, BI c ab st Q → Sat c φ st s → wpN c.M c.A (forIn binds ⟨⟩ f) (fun _ s' => ∃ st', Sat c φ st' s' ∧ Q st') (fun _ _ => False) s := by
  induction rb with
  | nil => intro st s h S; rw [List.forIn_nil]; exact wpN_pure ⟨st, S, h⟩
  | cons r H ih =>
    rename_i a b l m
    intro st s h S
    obtain ⟨n, v⟩ := a
    obtain ⟨n', v'⟩ := b
    obtain ⟨e, rv⟩ := r
    obtain rfl : n = n' := e
    rw [List.forIn_cons, hf]
    refine wpN_bind (wpN_bind (wpN_post (h v rv φ s S) ?_))
    rintro _ s1 ⟨_, st1, _, S1, q⟩
    exact wpN_pure (ih q S1)
theorem bi_locals {c : Fc} : ∀ {ab : List (Str × V)} {st : St} {Q : St → Prop}, (∀ y ∈ ab, c.env.kindOf y.1 = some .local) → Q ⟨ab.reverse ++ st.loc, st.hp⟩ → BI c ab st Q
  | [], st, Q, _, q => q
  | (x, v) :: r, st, Q, h, q => sn_local (h (x, v) (.head _)) (bi_locals (fun y hy => h y (.tail _ hy)) (by simpa using q))

theorem newEnv_wp {c : Fc} {φ : List (Addr × Obj)} {st : St} {s : Shared} (S : Sat c φ st s) {scope : Scope} {closure : List (Str × Addr)} {binds : List (Str × Value)} {ab : List (Str × V)} {qual : Str} {func : Option Addr} {code : Value} {around : Option Env} {A : Around}
    {r : Nat} {hd : Bool} {Q : Addr → Heap → St → Prop}
    (ok : ∀ L cl, SubOk (newEnv scope L mainGlobals cl qual func code around builtinsNs) A r hd) (hfr : A.frames = c.A.frames)
    (rb : All2 (fun p q => p.1 = q.1 ∧ VR p.2 q.2) binds ab)
    (hb : ∀ L g A, BI ⟨c.g, A, newEnv scope L mainGlobals (cellsFrom (L + 1) scope.names closure) qual func code around builtinsNs, g, c.s₀, r, hd⟩ ab ⟨[], cellEntries (L + 1) scope.names st.hp⟩ (Q L g)) :
    wpN c.M A (newFunctionEnv scope mainGlobals closure binds qual func code around builtinsNs) (fun env s' => ∃ L g st' ψ, env = newEnv scope L mainGlobals (cellsFrom (L + 1) scope.names closure) qual func code around builtinsNs ∧
      Sat ⟨c.g, A, env, g, c.s₀, r, hd⟩ ψ st' s' ∧ Q L g st' ∧ (∀ c' st' s', c'.h₀ = g → c'.s₀ = c.s₀ → Sat c' ψ st' s' → ∃ oC m, s'.heap.get? c'.env.locals = some oC ∧ s'.heap.Ns c'.env.locals m ∧ Sat c ((c'.env.locals, oC) :: φ) ⟨st.loc, st'.hp⟩ s')) (fun _ _ => False) s := by
  obtain ⟨g, oL, hin, hout⟩ := S.sub
  have hloc : ∀ L cl, (newEnv scope L mainGlobals cl qual func code around builtinsNs).locals = L := fun L cl => by cases around <;> rfl
  have S1 := hin _ A r hd (.type (if around.isSome then "dict" else "frame")) (ok s.heap.objs.size (cellsFrom (s.heap.objs.size + 1) scope.names closure)) (hloc _ _) (by rw [hfr]; exact frames_same)
  have S2 := Sat.cells scope.names S1
  rw [show ({ s with heap := s.heap.push { cls := .type (if around.isSome then "dict" else "frame"), data := .dict #[] } } : Shared).heap.objs.size = s.heap.objs.size + 1 from Heap.size_push ..] at S2
  have fin : ∀ (f : Str × Value → PUnit → Sem (ForInStep PUnit)), (∀ n v u, f (n, v) u = (do storeName (newEnv scope s.heap.objs.size mainGlobals (cellsFrom (s.heap.objs.size + 1) scope.names closure) qual func code around builtinsNs) n v; pure (.yield ⟨⟩))) →
      wpN c.M A (forIn binds ⟨⟩ f) (fun _ s' => ∃ st', Sat ⟨c.g, A, newEnv scope s.heap.objs.size mainGlobals (cellsFrom (s.heap.objs.size + 1) scope.names closure) qual func code around builtinsNs, g, c.s₀, r, hd⟩ ((c.env.locals, oL) :: φ) st' s' ∧ Q s.heap.objs.size g st') (fun _ _ => False)
        { s with heap := pushCells (s.heap.push { cls := .type (if around.isSome then "dict" else "frame"), data := .dict #[] }) scope.names } := fun f hf => binds_wp f hf rb (hb _ g A) S2
  have hsz : ∀ o : Obj, ({ s with heap := s.heap.push o } : Shared).heap.objs.size = s.heap.objs.size + 1 := fun o => Heap.size_push ..
  cases around with
  | none =>
    unfold newFunctionEnv
    refine wpN_bind (lift (wpAny_alloc ?_))
    refine wpN_bind (lift (wpAny_layCells _ (fun name kind cells => by cases hkc : kind == NameKind.cell <;> simp [hkc]) _ _ _ _ ?_))
    rw [hsz]
    refine wpN_bind (wpN_post (fin _ fun _ _ _ => rfl) ?_)
    rintro _ s' ⟨st', S', q⟩
    exact wpN_pure ⟨_, g, st', _, rfl, S', q, hout⟩
  | some outer =>
    unfold newFunctionEnv
    refine wpN_bind (lift (wpAny_alloc ?_))
    refine wpN_bind (lift (wpAny_layCells _ (fun name kind cells => by cases hkc : kind == NameKind.cell <;> simp [hkc]) _ _ _ _ ?_))
    rw [hsz]
    refine wpN_bind (wpN_post (fin _ fun _ _ _ => rfl) ?_)
    rintro _ s' ⟨st', S', q⟩
    exact wpN_pure ⟨_, g, st', _, rfl, S', q, hout⟩

section
variable {prog : Program} {w : World} {A : Around} {R : Result → Shared → Prop} {s : Shared}
theorem codeN_func {body : List Stmt} {env : Env} (h : wpN (model prog w) (A.deeper env) (execs body env) (fun f s' => R (.ok (.ret (match f with | .ret v => v | _ => .none))) s') (fun _ _ => False) s) : codeN (model prog w) A (.func body env) R s := by
  refine codeN_of_tree ?_
  show wpN _ (A.deeper env) (do point; match ← (execs body env).onRaise (leaving env) with | .ret v => ret v | _ => ret .none) _ _ s
  refine wpN_bind (wpN_point (wpN_bind (wpN_onRaise (wpN_mono h (fun f s' h' => ?_) fun _ _ h' => h'.elim))))
  cases f <;> exact wpN_pure h'
theorem codeN_expr {e : PySem.Expr} {env : Env} (h : wpN (model prog w) (A.deeper env) (eval e env) (fun v s' => R (.ok (.ret v)) s') (fun _ _ => False) s) : codeN (model prog w) A (.expr e env) R s := by
  refine codeN_of_tree ?_
  show wpN _ (A.deeper env) (do point; ret (← (eval e env).onRaise (leaving env))) _ _ s
  exact wpN_bind (wpN_point (wpN_bind (wpN_onRaise (wpN_mono h (fun v s' h' => wpN_pure h') fun _ _ h' => h'.elim))))
theorem codeN_callFn {a : Addr} {args : Args} {o : Obj} {fd : FuncData} {body : List Stmt} (hroom : A.depth < recursionLimit) (ho : s.heap.get? a = some o)
    (hd' : o.data = .func fd) (hco : fd.scope.isCoroutine = false) (hgen : fd.scope.isGenerator = false) (hbody : fd.body = .stmts body) (hcd : s.heap.CodeRec fd.code fd.qualname)
    (h : wpN (model prog w) A.in1 (bindArgs fd args) (fun binds s₁ =>
      wpN (model prog w) A.in1 (newFunctionEnv fd.scope fd.globals fd.closure binds (fd.qualname ++ ".<locals>.") (some a) fd.code none fd.builtins)
        (fun env s₂ => s₂.heap.NoLimit ∧ codeN (model prog w) A (.func body env) R s₂) (fun e s' => R (.error e) s') s₁) (fun e s' => R (.error e) s') s) :
    codeN (model prog w) A (.call (.ref a) args) R s := by
  refine codeN_of_tree ?_
  show wpN _ A.in1 (callAny (.ref a) args) _ _ s
  simp only [callAny]
  refine wpN_bind (lift (wpAny_load ho ?_))
  refine cps fun Pcp kcp => ?_
  obtain ⟨c, oc, vs, tq, hc, hoc, hdc, hq⟩ := hcd
  refine kcp ?_
  clear kcp Pcp
  simp only [hd', callFunction, hco, hgen, hbody, hc]
  rw [hc] at h
  refine wpN_bind (m := field (.ref c) 1) (lift (wpAny_field hoc hdc hq (wpN_bind (wpN_pure ?_))))
  exact wpN_bind (wpN_mono h (fun binds s₁ h₁ => wpN_bind (wpN_mono h₁ (fun env s₂ h₂ => wpN_bind (lift (wpAny_enterFrame h₂.1 hroom
    (wpN_pure (And.intro ⟨rfl, rfl⟩ h₂.2))))) fun _ _ h' => h')) fun _ _ h' => h')
theorem codeN_callFnE {a : Addr} {args : Args} {o : Obj} {fd : FuncData} {body : PySem.Expr} (hroom : A.depth < recursionLimit) (ho : s.heap.get? a = some o)
    (hd' : o.data = .func fd) (hco : fd.scope.isCoroutine = false) (hgen : fd.scope.isGenerator = false) (hbody : fd.body = .expr body) (hcd : s.heap.CodeRec fd.code fd.qualname)
    (h : wpN (model prog w) A.in1 (bindArgs fd args) (fun binds s₁ =>
      wpN (model prog w) A.in1 (newFunctionEnv fd.scope fd.globals fd.closure binds (fd.qualname ++ ".<locals>.") (some a) fd.code none fd.builtins)
        (fun env s₂ => s₂.heap.NoLimit ∧ codeN (model prog w) A (.expr body env) R s₂) (fun e s' => R (.error e) s') s₁) (fun e s' => R (.error e) s') s) :
    codeN (model prog w) A (.call (.ref a) args) R s := by
  refine codeN_of_tree ?_
  show wpN _ A.in1 (callAny (.ref a) args) _ _ s
  simp only [callAny]
  refine wpN_bind (lift (wpAny_load ho ?_))
  obtain ⟨c, oc, vs, tq, hc, hoc, hdc, hq⟩ := hcd
  simp only [hd', callFunction, hco, hgen, hbody, hc]
  rw [hc] at h
  refine wpN_bind (m := field (.ref c) 1) (lift (wpAny_field hoc hdc hq (wpN_bind (wpN_pure ?_))))
  exact wpN_bind (wpN_mono h (fun binds s₁ h₁ => wpN_bind (wpN_mono h₁ (fun env s₂ h₂ => wpN_bind (lift (wpAny_enterFrame h₂.1 hroom
    (wpN_pure (And.intro ⟨rfl, rfl⟩ h₂.2))))) fun _ _ h' => h')) fun _ _ h' => h')
end

noncomputable def retOf : AFlow → V
  | .ret v => v
  | _ => .none
/-- arguments bound -/
noncomputable def BN (K : Frag) (fd : FuncData) (as : List V) (kn : List Str) (ks : List V) (ab : List (Str × V)) : Prop :=
  ∀ s : Shared, K.In s.heap → ∀ vs kvs, All2 VR vs as → All2 VR kvs ks → ∃ binds, BindsTo s fd ⟨vs, kn.zip kvs⟩ binds ∧ All2 (fun p q => p.1 = q.1 ∧ VR p.2 q.2) binds ab
theorem FcOk.sub {c : Fc} (ok : FcOk c) {env : Env} (h1 : env.globals = mainGlobals) (h2 : env.builtins = builtinsNs) (h3 : env.scope.kind = .function) (hr : 0 < c.room) : SubOk env c.A.in1 (c.room - 1) false ∧ SubOk env (c.A.deeper env) (c.room - 1) false := by
  have d := ok.depth
  have u := ok.units
  have hh : c.A.handled = none := ok.hand (by cases q : c.hd with | false => rfl | true => have := ok.hdr q; omega)
  refine ⟨⟨h1, h2, h3, fun _ => hh, fun q => by (cases q), ?_, ?_⟩, ⟨h1, h2, h3, fun _ => hh, fun q => by (cases q), ?_, ?_⟩⟩
  · show c.A.depth + (c.room - 1) ≤ 400; omega
  · show c.A.units + 1 + 10 * (c.room - 1) ≤ 1000; omega
  · show c.A.depth + 1 + (c.room - 1) ≤ 400; omega
  · show c.A.units + 3 + 10 * (c.room - 1) ≤ 1000; omega
theorem ca_def {c : Fc} {st : St} {Q : V → St → Prop} {f : Addr} {oc : Value} {od : Option Addr} {osl : Array (Option Value)} {name qual : Str} {params : Arguments} {body : List Stmt} {scope : Scope} {dV kV doc pm cdv ct : Value} {an : Option Addr}
    {as : List V} {kn : List Str} {ks : List V} {ab : List (Str × V)}
    (hK : c.g.K.lookup f = some ⟨oc, od, .func (fnX name qual params body scope [] dV kV doc pm an cdv ct), osl⟩) (hcd : codeIn c.g.K cdv qual = true) (hroom : 0 < c.room)
    (hb : BN c.g.K (fnX name qual params body scope [] dV kV doc pm an cdv ct) as kn ks ab)
    (h : ∀ L g A, BI ⟨c.g, A, envX qual scope L f cdv (cellsFrom (L + 1) scope.names []), g, c.s₀, c.room - 1, false⟩ ab ⟨[], cellEntries (L + 1) scope.names st.hp⟩ fun st1 => ∀ A', A'.frames = c.A.frames.map (envX qual scope L f cdv (cellsFrom (L + 1) scope.names []) :: ·) →
      EX ⟨c.g, A', envX qual scope L f cdv (cellsFrom (L + 1) scope.names []), g, c.s₀, c.room - 1, false⟩ body st1 fun fl st2 => Q (retOf fl) ⟨st.loc, st2.hp⟩)
    (hco : scope.isCoroutine = false) (hgen : scope.isGenerator = false) (hk : scope.kind = .function) : CA c (.ref f) as kn ks st Q := by
  intro fv vs kvs rf r1 r2 φ s S
  cases rf
  obtain ⟨binds, hbind, rb⟩ := hb s S.kin vs kvs r1 r2
  refine wpN_call (codeN_callFn (fd := fnX name qual params body scope [] dV kV doc pm an cdv ct) ?_ (S.kin _ _ hK) rfl hco hgen rfl (codeRec_of S.kin hcd) (lift (hbind _ _ _ _ ?_)))
  · have := S.ok.depth; have : c.A.depth < 1000 := by omega
    exact this
  have ok := fun L cl => S.ok.sub (env := newEnv scope L mainGlobals cl (qual ++ ".<locals>.") (some f) cdv none builtinsNs) rfl rfl hk hroom
  refine wpN_mono (newEnv_wp S (A := c.A.in1) (r := c.room - 1) (hd := false) (scope := scope) (closure := []) (qual := qual ++ ".<locals>.") (func := some f) (code := cdv) (around := none)
    (Q := fun L g st1 => ∀ A', A'.frames = c.A.frames.map (envX qual scope L f cdv (cellsFrom (L + 1) scope.names []) :: ·) → EX ⟨c.g, A', envX qual scope L f cdv (cellsFrom (L + 1) scope.names []), g, c.s₀, c.room - 1, false⟩ body st1 fun fl st2 => Q (retOf fl) ⟨st.loc, st2.hp⟩) (fun L cl => (ok L cl).1) rfl rb h) ?_ fun _ _ x => x.elim
  rintro env s1 ⟨L, g, st1, ψ, rfl, S1, hx, hout⟩
  refine ⟨S1.top.nolimit, codeN_func (wpN_mono (hx (c.A.deeper _) rfl ψ s1 (S1.reA (ok L _).2 (frames_deep hk rfl))) ?_ fun _ _ x => x.elim)⟩
  rintro fl s2 ⟨fl', st2, rfl', S2, q⟩
  obtain ⟨_, _, _, _, hS⟩ := hout _ _ _ (by rfl) (by rfl) S2
  replace hS := hS.unFrame S.frm
  cases rfl' with
  | ret rv => exact ⟨_, _, rv, hS, q⟩
  | next => exact ⟨_, _, .none, hS, q⟩
  | brk => exact ⟨_, _, .none, hS, q⟩
  | cont => exact ⟨_, _, .none, hS, q⟩
/-- a lambda called -/
theorem ca_lam {c : Fc} {st : St} {Q : V → St → Prop} {f c' : Addr} {name qual : Str} {params : Arguments} {body : PySem.Expr} {scope : Scope} {cl : List (Str × Addr)} {as : List V} {ab : List (Str × V)}
    (hm : (f, AObj.lam name qual params body scope cl c') ∈ st.hp) (hcd : (c', AObj.code qual) ∈ st.hp) (hroom : 0 < c.room)
    (hb : ∀ pm ctv vs, All2 VR vs as → ∃ binds, bindArgs (kla_fn name qual params body scope cl pm (.ref c') ctv) ⟨vs, []⟩ = pure binds ∧ All2 (fun p q => p.1 = q.1 ∧ VR p.2 q.2) binds ab)
    (h : ∀ L g A, BI ⟨c.g, A, envX qual scope L f (.ref c') (cellsFrom (L + 1) scope.names cl), g, c.s₀, c.room - 1, false⟩ ab ⟨[], cellEntries (L + 1) scope.names st.hp⟩ fun st1 => ∀ A',
      EV ⟨c.g, A', envX qual scope L f (.ref c') (cellsFrom (L + 1) scope.names cl), g, c.s₀, c.room - 1, false⟩ body st1 fun v st2 => Q v ⟨st.loc, st2.hp⟩)
    (hco : scope.isCoroutine = false) (hgen : scope.isGenerator = false) (hk : scope.kind = .function) : CA c (.ref f) as [] [] st Q := by
  intro fv vs kvs rf r1 r2 φ s S
  cases rf
  cases r2
  obtain ⟨o, ho, pm, ctv, rfl⟩ := S.at hm
  obtain ⟨oc, hoc, vsc, tq, hdc, hq⟩ := S.at hcd
  obtain ⟨binds, hbind, rb⟩ := hb pm ctv vs r1
  refine wpN_call (codeN_callFnE (fd := kla_fn name qual params body scope cl pm (.ref c') ctv) ?_ ho rfl hco hgen rfl ⟨c', oc, vsc, tq, rfl, hoc, hdc, hq⟩ ?_)
  · have := S.ok.depth; have : c.A.depth < 1000 := by omega
    exact this
  show wpN _ _ (bindArgs _ ⟨vs, []⟩) _ _ s
  rw [hbind]
  refine wpN_pure ?_
  have ok := fun L cl => S.ok.sub (env := newEnv scope L mainGlobals cl (qual ++ ".<locals>.") (some f) (.ref c') none builtinsNs) rfl rfl hk hroom
  refine wpN_mono (newEnv_wp S (A := c.A.in1) (r := c.room - 1) (hd := false) (scope := scope) (closure := cl) (qual := qual ++ ".<locals>.") (func := some f) (code := .ref c') (around := none)
    (Q := fun L g st1 => ∀ A', EV ⟨c.g, A', envX qual scope L f (.ref c') (cellsFrom (L + 1) scope.names cl), g, c.s₀, c.room - 1, false⟩ body st1 fun v st2 => Q v ⟨st.loc, st2.hp⟩) (fun L cl => (ok L cl).1) rfl rb h) ?_ fun _ _ x => x.elim
  rintro env s1 ⟨L, g, st1, ψ, rfl, S1, hx, hout⟩
  refine ⟨S1.top.nolimit, codeN_expr (wpN_mono (hx (c.A.deeper _) ψ s1 (S1.reA (ok L _).2 (frames_deep hk rfl))) ?_ fun _ _ x => x.elim)⟩
  rintro v s2 ⟨v', st2, rv, S2, q⟩
  obtain ⟨_, _, _, _, hS⟩ := hout _ _ _ (by rfl) (by rfl) S2
  exact ⟨_, _, rv, hS.unFrame S.frm, q⟩
end Mine

set_option maxRecDepth 100000
set_option Elab.async false
set_option linter.unusedVariables false
namespace Mine
open PySem PySem.W PyProof.Rows PySem.Calls

section
variable {c : Fc} {st : St} {Q : V → St → Prop}
theorem append_tr {pre post : List (Addr × AObj)} {a : Addr} {vs : List V} {x : Value} {v : V} (hp : st.hp = pre ++ (a, .list vs) :: post) (r : VR x v) (hsz : vs.length ≤ 16777216) (q : Q .none ⟨st.loc, pre ++ (a, .list (vs ++ [v])) :: post⟩) :
    TR c (call (.builtin "list.append") [.ref a, x]) VR st Q := TR.leaf fun φ s S => by
  obtain ⟨its, n, ho, H, _⟩ := S.list (a := a) (vs := vs) (by rw [hp]; simp)
  refine append_at (its := its) (n := n) ho (fun h' hs ho' => ⟨_, _, .none, S.set (tk := s.toks) (ao' := .list (vs ++ [v])) hp hs.extBut ho' ⟨_, _, rfl, ?_⟩, q⟩) ?_
  · simpa using H.append (.cons r .nil)
  · rw [sizeLine_eq]; have := H.length; simp at this; omega
theorem newList_tr {vs : List Value} {as : List V} (r : All2 VR vs as) (hsz : as.length ≤ 16777216) (q : ∀ a, Q (.ref a) ⟨st.loc, (a, .list as) :: st.hp⟩) : TR c (newList vs) VR st Q := TR.leaf fun φ s S =>
  wpAny_newObj_type ⟨_, _, .ref _, S.alloc (o := listOf vs.toArray 0) (ao := .list as) rfl ⟨_, _, rfl, by simpa using r⟩, q _⟩ (by
    show vs.toArray.size ≤ sizeLine
    rw [List.size_toArray, sizeLine_eq, r.length]; exact hsz)
theorem ev_list {es : List PySem.Expr} {pos : Pos} (h : EL c pos es st fun as st1 => as.length ≤ 16777216 ∧ ∀ a, Q (.ref a) ⟨st1.loc, (a, .list as) :: st1.hp⟩) : EV c (.List es pos) st Q :=
  TR.stand (TR.bind (TR.mono h fun as st1 h1 vs r => newList_tr r h1.1 h1.2))
end


/-! ## comprehensions -/
noncomputable def TE (c : Fc) (ifs : List PySem.Expr) (st : St) (Q : Bool → St → Prop) : Prop :=
  TR c (forIn ifs true fun t r => if r = true then do let ok ← PySem.isTrue t c.env (eval t c.env); pure (ForInStep.yield ok) else pure (ForInStep.yield r)) Eq st Q
theorem te_nil {c : Fc} {st : St} {Q : Bool → St → Prop} (q : Q true st) : TE c [] st Q := TR.pure rfl q
theorem te_one {c : Fc} {t : PySem.Expr} {st : St} {Q : Bool → St → Prop} (h : EB c t st Q) : TE c [t] st Q := by
  unfold TE
  rw [List.forIn_cons]
  simp only [if_true]
  refine TR.bind (TR.bind (TR.mono h fun k st1 q k' e => TR.pure (R := fun (x y : ForInStep Bool) => x = y) rfl ?_))
  intro a ea
  subst ea
  exact TR.pure e q
theorem under_comp {A : Around} {elt : PySem.Expr} {gs : List Comprehension} {scope : Scope} {pos : Pos} {n : Nat} {it acc : Value} {env : Env} : A.under (.compLoop (.ListComp elt gs scope pos) n it acc env) = A := Around.under_of_weight rfl rfl
theorem under_compS {A : Around} {elt : PySem.Expr} {gs : List Comprehension} {scope : Scope} {pos : Pos} {n : Nat} {it acc : Value} {env : Env} : A.under (.compStart (.ListComp elt gs scope pos) n it acc env) = A := Around.under_of_weight rfl rfl
theorem comp_loop {c : Fc} {x : Str} {px pos : Pos} {elt iter : PySem.Expr} {ifs : List PySem.Expr} {scope : Scope} {it D : Addr} {ia : Nat → AObj} {items : List V} {Src : List (Addr × AObj) → Prop} (W : Iter c it ia items Src)
    (I : Nat → List V → List (Addr × AObj) → Prop) (hsrc : ∀ i ys hp, I i ys hp → Src hp) (hlen : items.length ≤ 16777216)
    (turn : ∀ i v ys loc hp, items[i]? = some v → I i ys hp → SN c x v ⟨loc, hp⟩ fun st1 => TE c ifs st1 fun b st2 => if b then EV c elt st2 (fun y st3 => I (i + 1) (ys ++ [y]) st3.hp) else I (i + 1) ys st2.hp)
    {φ : List (Addr × Obj)} {s : Shared} {loc : Loc} {ys : List V} {hp : List (Addr × AObj)} {i : Nat} (hi : i ≤ items.length) (hys : ys.length ≤ i) (S : Sat c φ ⟨loc, (it, ia i) :: (D, .list ys) :: hp⟩ s) (h0 : I i ys hp)
    (hsrcD : ∀ D ys hp, Src hp → Src ((D, .list ys) :: hp)) :
    codeN c.M c.A (.compLoop (.ListComp elt [⟨.Name x px, iter, ifs, 0⟩] scope pos) 0 (.ref it) (.ref D) c.env) (fun r s' => match r with | .ok f => ∃ loc ys hp, Sat c φ ⟨loc, (D, .list ys) :: hp⟩ s' ∧ I items.length ys hp | .error _ => False) s := by
  refine codeN_loop (I := fun n s => ∃ i loc ys hp, n = items.length + 1 - i ∧ i ≤ items.length ∧ ys.length ≤ i ∧ I i ys hp ∧ Sat c φ ⟨loc, (it, ia i) :: (D, .list ys) :: hp⟩ s) rfl rfl ?_ _ ⟨i, loc, ys, hp, rfl, hi, hys, h0, S⟩
  clear S h0 hi hys hp ys loc i s
  intro n s hcp2
  refine cps fun Pcp kcp => ?_
  obtain ⟨i, loc, ys, hp, rfl, hi, hys, hI, S⟩ := hcp2
  refine kcp ?_
  clear kcp Pcp
  rw [under_comp]
  show wpN _ _ ((compTurn (.ListComp elt [⟨.Name x px, iter, ifs, 0⟩] scope pos) 0 (.ref it) (.ref D) c.env).onRaise _) _ _ s
  refine wpN_onRaise (wpN_mono (E := fun _ _ => False) ?_ (fun _ _ x => x) fun _ _ x => x.elim)
  rw [compTurn_list]
  refine wpN_bind (wpN_standAt (wpN_bind ?_))
  by_cases hlt : i < items.length
  · have hv : items[i]? = some items[i] := by simp [hlt]
    refine wpN_post (W.nxt i _ loc ((D, .list ys) :: hp) hv (hsrcD _ _ _ (hsrc i ys hp hI)) φ s S) ?_
    intro o s1 hcp2
    refine cps fun Pcp kcp => ?_
    obtain ⟨o', st1, r, S1, rfl, rfl⟩ := hcp2
    refine kcp ?_
    clear kcp Pcp
    cases r with
    | some r =>
      rename_i v
      refine wpN_bind (wpN_pure (wpN_bind ?_))
      have ha := TR.frame (fr := [(it, ia (i + 1)), (D, .list ys)]) (Q' := fun (_ : Unit) st1' => ∃ st', st1' = ⟨st'.loc, (it, ia (i + 1)) :: (D, .list ys) :: st'.hp⟩ ∧ TE c ifs st' fun b st2 => if b then EV c elt st2 (fun y st3 => I (i + 1) (ys ++ [y]) st3.hp) else I (i + 1) ys st2.hp)
        (assignName_tr (pos := px) r (turn i _ ys loc hp hv hI)) (fun _ st' q => ⟨st', rfl, q⟩)
      refine wpN_post (ha φ s1 S1) ?_
      intro _ s2 hcp2
      refine cps fun Pcp kcp => ?_
      obtain ⟨_, _, _, S2, st', rfl, hb⟩ := hcp2
      refine kcp ?_
      clear kcp Pcp
      have hb := TR.frame (fr := [(it, ia (i + 1)), (D, .list ys)]) (Q' := fun b st2' => ∃ st2, st2' = ⟨st2.loc, (it, ia (i + 1)) :: (D, .list ys) :: st2.hp⟩ ∧ if b then EV c elt st2 (fun y st3 => I (i + 1) (ys ++ [y]) st3.hp) else I (i + 1) ys st2.hp)
        hb (fun b st2 q => ⟨st2, rfl, q⟩)
      refine wpN_bind (wpN_post (hb φ s2 S2) ?_)
      intro k s3 hcp2
      refine cps fun Pcp kcp => ?_
      obtain ⟨k', _, rfl, S3, st2, rfl, q⟩ := hcp2
      refine kcp ?_
      clear kcp Pcp
      cases k with
      | false =>
        rw [if_neg Bool.false_ne_true] at q
        exact wpN_pure (.inl ⟨rfl, _, by omega, i + 1, _, ys, _, rfl, by omega, by omega, q, S3⟩)
      | true =>
        rw [if_pos rfl] at q
        have hq := TR.frame (fr := [(it, ia (i + 1)), (D, .list ys)]) (Q' := fun y st3' => ∃ st3, st3' = ⟨st3.loc, (it, ia (i + 1)) :: (D, .list ys) :: st3.hp⟩ ∧ I (i + 1) (ys ++ [y]) st3.hp) q (fun b st2 q => ⟨st2, rfl, q⟩)
        refine wpN_bind (wpN_bind (wpN_post (hq φ s3 S3) ?_))
        intro y s4 hcp2
        refine cps fun Pcp kcp => ?_
        obtain ⟨y', _, ry, S4, st3, rfl, q⟩ := hcp2
        refine kcp ?_
        clear kcp Pcp
        have happ := append_tr (c := c) (st := ⟨st3.loc, (it, ia (i + 1)) :: (D, .list ys) :: st3.hp⟩) (pre := [(it, ia (i + 1))]) (post := st3.hp) (a := D) (vs := ys) (x := y) (v := y') (Q := fun _ st4 => st4 = ⟨st3.loc, (it, ia (i + 1)) :: (D, .list (ys ++ [y'])) :: st3.hp⟩) rfl ry (by omega) rfl
        refine wpN_bind (wpN_post (happ φ s4 S4) ?_)
        intro _ s5 hcp2
        refine cps fun Pcp kcp => ?_
        obtain ⟨_, _, _, S5, rfl⟩ := hcp2
        refine kcp ?_
        clear kcp Pcp
        exact wpN_pure (wpN_pure (.inl ⟨rfl, _, by omega, i + 1, _, _, _, rfl, by omega, by simp; omega, q, S5⟩))
  · have hin : i = items.length := by omega
    subst hin
    refine wpN_post (W.fin loc ((D, .list ys) :: hp) (hsrcD _ _ _ (hsrc _ ys hp hI)) φ s S) ?_
    intro o s1 hcp2
    refine cps fun Pcp kcp => ?_
    obtain ⟨o', st1, r, S1, rfl, rfl⟩ := hcp2
    refine kcp ?_
    clear kcp Pcp
    cases r
    exact wpN_pure ⟨loc, ys, hp, S1, hI⟩
theorem comp_start {c : Fc} {elt target iter : PySem.Expr} {ifs : List PySem.Expr} {rest : List Comprehension} {scope : Scope} {pos : Pos} {it : Addr} {acc : Value} {R : Result → Shared → Prop} {s : Shared}
    (h0 : codeN c.M c.A (.compLoop (.ListComp elt (⟨target, iter, ifs, 0⟩ :: rest) scope pos) 0 (.ref it) acc c.env) R s)
    (h : wpN c.M c.A (pyIter (.ref it)) (fun it' s' => codeN c.M c.A (.compLoop (.ListComp elt (⟨target, iter, ifs, 0⟩ :: rest) scope pos) 0 it' acc c.env) R s') (fun _ _ => False) s) :
    codeN c.M c.A (.compStart (.ListComp elt (⟨target, iter, ifs, 0⟩ :: rest) scope pos) 0 (.ref it) acc c.env) R s := by
  refine codeN_of_tree ?_
  rw [under_compS]
  show wpN _ _ ((compStart (.ListComp elt (⟨target, iter, ifs, 0⟩ :: rest) scope pos) 0 (.ref it) acc c.env).onRaise _) _ _ s
  refine wpN_onRaise (wpN_mono (E := fun _ _ => False) ?_ (fun _ _ x => x) fun _ _ x => x.elim)
  unfold compStart
  show wpN _ _ (ask >>= _) _ _ s
  refine wpN_bind (lift (wpAny_askSetting ?_))
  refine wpN_ite ?_
  split
  · first
      | exact wpN_bind (wpN_pure (wpN_pure (And.intro ⟨rfl, rfl⟩ h0)))
      | exact wpN_pure (And.intro ⟨rfl, rfl⟩ h0)
  · first
      | exact wpN_bind (wpN_rule (wpN_bind (wpN_standAt (wpN_bind (wpN_mono h (fun it' s' h' => wpN_pure (And.intro ⟨rfl, rfl⟩ h')) fun _ _ x => x.elim)))))
      | (refine wpN_bind (wpN_rule ?_); show wpN _ _ (standAt iter.pos >>= _) _ _ s; exact wpN_bind (wpN_standAt (wpN_bind (wpN_mono h (fun it' s' h' => wpN_pure (And.intro ⟨rfl, rfl⟩ h')) fun _ _ x => x.elim))))
end Mine

set_option maxRecDepth 100000
set_option Elab.async false
set_option linter.unusedVariables false
namespace Mine
open PySem PySem.W PyProof.Rows PySem.Calls

theorem cellEntries_append : ∀ (names : List (Str × NameKind)) (n : Nat) (acc acc' : List (Addr × AObj)), cellEntries n names (acc ++ acc') = cellEntries n names acc ++ acc'
  | [], _, _, _ => rfl
  | (x, k) :: r, n, acc, acc' => by
    unfold cellEntries
    split
    · exact cellEntries_append r (n + 1) ((n, .cell none) :: acc) acc'
    · exact cellEntries_append r n acc acc'
theorem cellEntries_nil (names : List (Str × NameKind)) (n : Nat) (acc : List (Addr × AObj)) : cellEntries n names acc = cellEntries n names [] ++ acc := cellEntries_append names n [] acc
theorem All2PR.head {ψ : List (Addr × Obj)} {q : Addr × Obj} {l : List (Addr × Obj)} (h : All2 PR ψ (q :: l)) : ∃ p ψ', ψ = p :: ψ' ∧ PR p q ∧ All2 PR ψ' l := by
  cases h with
  | cons r h => exact ⟨_, _, rfl, r, h⟩
theorem Sat.reEnv {c : Fc} {φ : List (Addr × Obj)} {st : St} {s : Shared} (S : Sat c φ st s) {env' : Env} (hl : env'.locals = c.env.locals) (ok : SubOk env' c.A c.room c.hd) : Sat ⟨c.g, c.A, env', c.h₀, c.s₀, c.room, c.hd⟩ φ st s := by
  obtain ⟨m, F, h⟩ := S.fr
  obtain ⟨news, φ', N, nd, H, P⟩ := S.nw
  refine ⟨⟨S.ok.top, S.ok.kin, ok.glob, ok.blt, ok.kind, ok.hand, ok.hdr, ok.depth, ok.units⟩, ⟨m, by show Fr _ env'.locals _ _; rw [hl]; exact F, h⟩, ⟨news, φ', by show News _ env'.locals _ _; rw [hl]; exact N, nd, H, P⟩, S.rest, fun l hl' e he => ?_⟩
  obtain ⟨k, L, hf, hL⟩ := S.frm l hl' e he
  exact ⟨k, L, hf, hL.imp (fun q => q.trans hl.symm) id⟩
noncomputable abbrev cFc (c : Fc) (scope : Scope) (cl : List (Str × Addr)) (L : Addr) (g : Heap) : Fc := ⟨c.g, c.A, compEnvC scope (cellsFrom (L + 1) scope.names cl) L c.env, g, c.s₀, c.room, c.hd⟩
noncomputable def USE (c : Fc) (use : Option (Value → Sem Unit)) (D : Addr) (st : St) (Q : V → St → Prop) : Prop := match use with
  | none => Q (.ref D) st
  | some u => TR c (u (.ref D)) UR st (fun _ st' => Q .none st')
theorem comp_tr {c : Fc} {st : St} {Q : V → St → Prop} {scope : Scope} {cl : List (Str × Addr)} {x : Str} {px pos ppos : Pos} {elt iter : PySem.Expr} {ifs : List PySem.Expr} {use : Option (Value → Sem Unit)}
    (hclos : closureFor scope c.env = pure cl) (hkind : scope.kind = .function) (hnames : ∀ y ∈ scope.names, y.2 = .local → scope.names.lookup y.1 = some .local) (hs : ∀ x, foldedSetIterable iter c.env x = pure x)
    (h : EV c iter st fun v st1 => ∀ val, VR val v → TR c (pyIter val) VR st1 fun itv st2 => ∃ (it : Addr) (ia : Nat → AObj) (items : List V) (Src : List (Addr × AObj) → Prop) (I : Addr → Nat → List V → List (Addr × AObj) → Prop) (st0 : St),
      itv = .ref it ∧ st2 = ⟨st0.loc, (it, ia 0) :: st0.hp⟩ ∧ items.length ≤ 16777216 ∧ (∀ L g, Iter (cFc c scope cl L g) it ia items Src) ∧ (∀ D ys hp, Src hp → Src ((D, .list ys) :: hp)) ∧
      (∀ L, I L 0 [] (cellEntries (L + 1) scope.names st0.hp)) ∧ (∀ L i ys hp, I L i ys hp → Src hp) ∧
      (∀ L g i v ys loc hp, items[i]? = some v → I L i ys hp → SN (cFc c scope cl L g) x v ⟨loc, hp⟩ fun st1 => TE (cFc c scope cl L g) ifs st1 fun b st2 => if b then EV (cFc c scope cl L g) elt st2 (fun y st3 => I L (i + 1) (ys ++ [y]) st3.hp) else I L (i + 1) ys st2.hp) ∧
      (∀ L D ys hp, I L items.length ys hp → USE c use D ⟨st0.loc, (D, .list ys) :: hp⟩ Q)) :
    TR c (comprehension (.ListComp elt [⟨.Name x px, iter, ifs, 0⟩] scope pos) scope c.env ppos (newList []) false (eval iter c.env) use) VR st Q := by
  unfold comprehension
  rw [hclos]
  refine TR.bind (TR.mono h fun v st1 h1 val r => TR.stand ?_)
  show TR c (foldedSetIterable iter c.env val >>= _) VR st1 Q
  rw [hs]
  refine TR.bind (TR.pure (R := fun (x y : Value) => x = y) rfl ?_)
  intro a ea
  subst ea
  refine TR.bind (TR.holding (TR.mono (h1 _ r) fun itv st2 h2 itval rit => ?_))
  refine cps fun Pcp kcp => ?_
  obtain ⟨it, ia, items, Src, I, st0, rfl, rfl, hlen, W, hsrcD, h0, hsrc, turn, done⟩ := h2
  refine kcp ?_
  clear kcp Pcp
  cases rit
  have standIf : ∀ {b : Prop} [Decidable b] {p : Pos} {k : PUnit → Sem Value}, TR c (k ()) VR ⟨st0.loc, (it, ia 0) :: st0.hp⟩ Q → TR c (if b then standAt p >>= k else k ()) VR ⟨st0.loc, (it, ia 0) :: st0.hp⟩ Q := by
    intro b _ p k hk
    split
    · exact TR.stand hk
    · exact hk
  refine standIf ?_
  refine TR.bind (newList_tr .nil (by simp) fun D => ?_)
  intro accv racc
  cases racc
  refine TR.bind (TR.pure (R := fun (x y : List (Str × Addr)) => x = y) rfl ?_)
  intro a ea
  subst ea
  intro φ s S
  rw [S.ok.glob]
  have ok0 := S.ok
  have okn : ∀ L cl, SubOk (newEnv scope L mainGlobals cl c.env.qual none .none (some c.env) builtinsNs) c.A c.room c.hd := fun L cl => ⟨rfl, ok0.blt, hkind, ok0.hand, ok0.hdr, ok0.depth, ok0.units⟩
  have okc : ∀ L cl, SubOk (compEnvC scope cl L c.env) c.A c.room c.hd := fun L cl => ⟨ok0.glob, ok0.blt, hkind, ok0.hand, ok0.hdr, ok0.depth, ok0.units⟩
  refine wpN_bind (wpN_post (newEnv_wp S (A := c.A) (r := c.room) (hd := c.hd) (scope := scope) (closure := a) (qual := c.env.qual) (func := none) (code := .none) (around := some c.env) (binds := []) (ab := [])
    (Q := fun L g st1 => st1 = ⟨[], cellEntries (L + 1) scope.names ((D, .list []) :: (it, ia 0) :: st0.hp)⟩) okn rfl .nil (fun L g A => rfl)) ?_)
  intro cenv s1 hcp2
  refine cps fun Pcp kcp => ?_
  obtain ⟨L, g, st1, ψ, rfl, S1, rfl, hout⟩ := hcp2
  refine kcp ?_
  clear kcp Pcp
  have e1 : ({ newEnv scope L mainGlobals (cellsFrom (L + 1) scope.names a) c.env.qual none .none (some c.env) builtinsNs with scope := relabel scope c.env } : Env) = compEnvC scope (cellsFrom (L + 1) scope.names a) L c.env := by
    unfold newEnv compEnvC; rw [ok0.glob]
  have S2 : Sat (cFc c scope a L g) ψ ⟨[], (it, ia 0) :: (D, .list []) :: cellEntries (L + 1) scope.names st0.hp⟩ s1 := by
    refine (S1.reEnv (env' := compEnvC scope (cellsFrom (L + 1) scope.names a) L c.env) rfl (okc _ _)).perm ?_
    rw [cellEntries_nil _ _ ((D, .list []) :: (it, ia 0) :: st0.hp), cellEntries_nil _ _ st0.hp]
    refine List.perm_middle.trans ?_
    refine (List.Perm.cons _ List.perm_middle).trans ?_
    exact List.Perm.swap _ _ _
  have loop : ∀ s1, Sat (cFc c scope a L g) ψ ⟨[], (it, ia 0) :: (D, .list []) :: cellEntries (L + 1) scope.names st0.hp⟩ s1 → _ := fun s1 S2 =>
    comp_loop (c := cFc c scope a L g) (px := px) (pos := pos) (iter := iter) (scope := scope) (W L g) (I L) (hsrc L) hlen (turn L g) (Nat.zero_le _) (Nat.le_refl _) S2 (h0 L) hsrcD
  have start := comp_start (c := cFc c scope a L g) (loop s1 S2) (wpN_post ((W L g).self 0 [] ((D, .list []) :: cellEntries (L + 1) scope.names st0.hp) (hsrcD _ _ _ (hsrc L 0 _ _ (h0 L))) ψ s1 S2) (by
    intro itv s2 hcp2
    refine cps fun Pcp kcp => ?_
    obtain ⟨_, _, r, S3, rfl, rfl⟩ := hcp2
    refine kcp ?_
    clear kcp Pcp
    cases r
    exact loop s2 S3))
  have hv : ∀ x ∈ (scope.names.filter fun x => (x.2 == .local || x.2 == .cell) && x.1 != (".0" : Str)).reverse, x.2 = .local →
      Env.kindOf ({ newEnv scope L mainGlobals (cellsFrom (L + 1) scope.names a) c.env.qual none .none (some c.env) builtinsNs with scope := relabel scope c.env } : Env) x.1 = some .local := fun x hx hl => lookup_relabel_local (hnames x (List.mem_filter.mp (List.mem_reverse.mp hx)).1 hl)
  have hv' : ∀ x ∈ (scope.names.filter fun x => (x.2 == .local || x.2 == .cell) && x.1 != (".0" : Str)).reverse.drop 1 ++ (scope.names.filter fun x => (x.2 == .local || x.2 == .cell) && x.1 != (".0" : Str)).reverse.take 1,
      x.2 = .local → Env.kindOf ({ newEnv scope L mainGlobals (cellsFrom (L + 1) scope.names a) c.env.qual none .none (some c.env) builtinsNs with scope := relabel scope c.env } : Env) x.1 = some .local := fun x hx hl => by
    rcases List.mem_append.mp hx with h1 | h1
    · exact hv x (List.mem_of_mem_drop h1) hl
    · exact hv x (List.mem_of_mem_take h1) hl
  have start2 : codeN c.M c.A (.compStart (.ListComp elt [⟨.Name x px, iter, ifs, 0⟩] scope pos) 0 (.ref it) (.ref D) ({ newEnv scope L mainGlobals (cellsFrom (L + 1) scope.names a) c.env.qual none .none (some c.env) builtinsNs with scope := relabel scope c.env } : Env))
      (fun r s' => match r with | .ok f => ∃ loc ys hp, Sat (cFc c scope a L g) ψ ⟨loc, (D, .list ys) :: hp⟩ s' ∧ I L items.length ys hp | .error _ => False) s1 := by rw [e1]; exact start
  dsimp only
  refine wpN_holding (wpN_bind (wpN_attempt (wpN_holding (wpN_run (h := none) (A := c.A) (codeN_mono (A := c.A) start2 ?_) rfl))))
  intro r s2 hr
  cases r with
  | error e => exact hr.elim
  | ok f =>
    refine cps fun Pcp kcp => ?_
    obtain ⟨loc, ys, hp, S3, hI⟩ := hr
    refine kcp ?_
    clear kcp Pcp
    refine cps fun Pcp kcp => ?_
    obtain ⟨oC, m, hC, hn, S4⟩ := hout (cFc c scope a L g) _ _ rfl rfl S3
    refine kcp ?_
    clear kcp Pcp
    have hd := done L D ys hp hI
    cases use with
    | none =>
      refine wpN_bind (wpN_holding (lift (wpAny_comp_letGo (cenv := ({ newEnv scope L mainGlobals (cellsFrom (L + 1) scope.names a) c.env.qual none .none (some c.env) builtinsNs with scope := relabel scope c.env } : Env)) hkind _ s2 m hv hn fun h' m' _ hs' => ?_)))
      exact wpN_pure ⟨_, _, .ref D, S4.dropFrame S.frm (tk := s2.toks) hs'.extBut, hd⟩
    | some u =>
      refine wpN_bind (wpN_rule (wpN_bind (wpN_holding (wpN_post (hd _ s2 S4) ?_))))
      intro _ s3 hcp2
      refine cps fun Pcp kcp => ?_
      obtain ⟨_, st5, _, S5, q⟩ := hcp2
      refine kcp ?_
      clear kcp Pcp
      refine cps fun Pcp kcp => ?_
      obtain ⟨news5, φ5, N5, _, _, P5⟩ := S5.nw
      refine kcp ?_
      clear kcp Pcp
      have hn5 : s3.heap.Ns L m := by
        refine cps fun Pcp kcp => ?_
        obtain ⟨p, ψ5, rfl, r, _⟩ := All2PR.head P5
        refine kcp ?_
        clear kcp Pcp
        have h1 := (N5 p (List.mem_append_right _ (.head _))).1
        rw [show p.1 = L from r.1] at h1
        exact r.2.ns hC h1 hn
      refine wpN_bind (lift (wpAny_comp_letGo (cenv := ({ newEnv scope L mainGlobals (cellsFrom (L + 1) scope.names a) c.env.qual none .none (some c.env) builtinsNs with scope := relabel scope c.env } : Env)) hkind _ s3 m hv' hn5 fun h' m' _ hs' => ?_))
      exact wpN_pure ⟨_, _, .none, S5.dropFrame S.frm (tk := s3.toks) hs'.extBut, q⟩
theorem ev_comp {c : Fc} {st : St} {Q : V → St → Prop} {elt : PySem.Expr} {gs : List Comprehension} {scope : Scope} {pos : Pos}
    (h : TR c (comprehension (.ListComp elt gs scope pos) scope c.env (firstIterPos gs pos) (newList []) (firstAsync gs) (firstIter gs c.env) none) VR st Q) : EV c (.ListComp elt gs scope pos) st Q := h
theorem es_assignComp {c : Fc} {st : St} {Q : AFlow → St → Prop} {elt : PySem.Expr} {gs : List Comprehension} {scope : Scope} {pos spos py : Pos} {y : Str}
    (hsw : swapsWith (.ListComp elt gs scope pos) (some (.Name y py)) spos.line c.env = pure true)
    (h : TR c (comprehension (.ListComp elt gs scope pos) scope c.env (firstIterPos gs pos) (newList []) (firstAsync gs) (firstIter gs c.env) (some (assign (.Name y py) c.env))) VR st (fun _ st' => Q .next st')) :
    ES c (.Assign [.Name y py] (.ListComp elt gs scope pos) spos) st Q := by
  unfold ES
  rw [exec_Assign_Name_used _ _ _ _ hsw]
  refine TR.stand (TR.bind (R := UR) (β := Unit) ?_)
  refine TR.bind (TR.mono h fun v st1 q val r => TR.pure (b := ()) trivial fun _ _ => TR.pure .next q)
end Mine

set_option maxRecDepth 100000
set_option Elab.async false
set_option linter.unusedVariables false
namespace Mine
open PySem PySem.W PyProof.Rows PySem.Calls

theorem Sat.lib {c : Fc} {φ : List (Addr × Obj)} {st : St} {s : Shared} (S : Sat c φ st s) : ∃ m news, Fr c.h₀ c.env.locals s.heap m ∧ News c.h₀ c.env.locals s.heap news ∧
    (∀ h' tk D o ao, s.heap.objs.size ≤ D ∨ (∀ p ∈ news, p.1 < D) → Fr c.h₀ c.env.locals h' m → News c.h₀ c.env.locals h' ((D, o) :: news) → OR o ao → Sat c φ ⟨st.loc, (D, ao) :: st.hp⟩ { s with heap := h', toks := tk }) ∧
    (∀ h' tk, Fr c.h₀ c.env.locals h' m → News c.h₀ c.env.locals h' news → Sat c φ st { s with heap := h', toks := tk }) := by
  obtain ⟨m, F, hl⟩ := S.fr
  obtain ⟨news, φ', N, nd, H, P⟩ := S.nw
  obtain ⟨hh, t, e⟩ := S.rest
  refine ⟨m, news ++ φ', F, N, fun h' tk D o ao hD F' N' r => ⟨S.ok, ⟨m, F', hl⟩, ⟨(D, o) :: news, φ', N', ?_, .cons ⟨rfl, r⟩ H, P⟩, ⟨h', tk, by rw [e]⟩, S.frm⟩, fun h' tk F' N' => ⟨S.ok, ⟨m, F', hl⟩, ⟨news, φ', N', nd, H, P⟩, ⟨h', tk, by rw [e]⟩, S.frm⟩⟩
  simp only [List.cons_append, List.map_cons, List.nodup_cons]
  refine ⟨fun hm => ?_, nd⟩
  obtain ⟨p, hp, e⟩ := List.mem_map.mp hm
  rcases hD with hD | hD
  · exact absurd (Heap.lt_size (N p hp).1) (e ▸ Nat.not_lt.mpr hD)
  · exact absurd (hD p hp) (e ▸ Nat.lt_irrefl _)
theorem intsAre {vs : List Value} {ns : List Int} (h : All2 VR vs (ns.map V.int)) : IntsAre vs ns := by
  induction ns generalizing vs with
  | nil => cases h; exact .nil
  | cons n ns ih =>
    cases h with
    | cons r h => cases r; exact .cons _ _ (ih h)
theorem IntsAre.all2 {vs : List Value} {ns : List Int} (h : IntsAre vs ns) : All2 VR vs (ns.map V.int) := by
  induction h with
  | nil => exact .nil
  | cons n t _ ih => exact .cons (.int _ _) ih

section
variable {c : Fc} {st : St} {Q : V → St → Prop}
/-! ### ints -/
theorem bo_add {i j : Int} (q : Q (.int (i + j)) st) : BO c .Add (.int i) (.int j) st Q := fun v v' r r' => by cases r; cases r'; exact TR.leaf fun φ s S => add_int ⟨_, st, .int _ _, S.toks _, q⟩
theorem bo_sub {i j : Int} (q : Q (.int (i - j)) st) : BO c .Sub (.int i) (.int j) st Q := fun v v' r r' => by cases r; cases r'; exact TR.leaf fun φ s S => sub_int ⟨_, st, .int _ _, S.toks _, q⟩
theorem bo_mod {i j : Int} (hj : j ≠ 0) (q : Q (.int (i.fmod j)) st) : BO c .Mod (.int i) (.int j) st Q := fun v v' r r' => by cases r; cases r'; exact TR.leaf fun φ s S => mod_int' hj ⟨_, st, .int _ _, S.toks _, q⟩
theorem bo_fdiv {i j : Int} (hj : j ≠ 0) (hp : Builtin.divisionGoesByPylong i j = false) (q : Q (.int (i.fdiv j)) st) : BO c .FloorDiv (.int i) (.int j) st Q := fun v v' r r' => by cases r; cases r'; exact TR.leaf fun φ s S => floordiv_int hj ⟨_, st, .int _ _, S.toks _, q⟩ (.inl hp)
theorem uo_neg {i : Int} (q : Q (.int (-i)) st) : UO c .USub (.int i) st Q := fun v r => by cases r; exact TR.leaf fun φ s S => neg_int ⟨_, st, .int _ _, S.toks _, q⟩
theorem co_lt {i j : Int} (q : Q (.bool (decide (i < j))) st) : CO c .Lt (.int i) (.int j) st Q := fun v v' r r' => by cases r; cases r'; exact TR.leaf fun φ s S => lt_int ⟨_, st, .bool _, S, q⟩
theorem co_gt {i j : Int} (q : Q (.bool (decide (j < i))) st) : CO c .Gt (.int i) (.int j) st Q := fun v v' r r' => by cases r; cases r'; exact TR.leaf fun φ s S => gt_int ⟨_, st, .bool _, S, q⟩
theorem co_eq {i j : Int} (q : Q (.bool (i == j)) st) : CO c .Eq (.int i) (.int j) st Q := fun v v' r r' => by cases r; cases r'; exact TR.leaf fun φ s S => eq_int ⟨_, st, .bool _, S, q⟩
theorem co_ne {i j : Int} (q : Q (.bool (i != j)) st) : CO c .NotEq (.int i) (.int j) st Q := fun v v' r r' => by cases r; cases r'; exact TR.leaf fun φ s S => ne_int ⟨_, st, .bool _, S, q⟩
theorem co_eqBool {i j : Bool} (q : Q (.bool (i == j)) st) : CO c .Eq (.bool i) (.bool j) st Q := fun v v' r r' => by cases r; cases r'; exact TR.leaf fun φ s S => eq_bool ⟨_, st, .bool _, S, q⟩
noncomputable def isNone : V → Bool
  | .none => true
  | _ => false
theorem co_isNone {a : V} (q : Q (.bool (isNone a)) st) : CO c .Is a .none st Q := fun v v' r r' => by
  cases r'
  refine TR.leaf fun φ s S => is_none ⟨.bool (isNone a), st, ?_, S, q⟩
  cases r <;> exact .bool _
theorem co_isNotNone {a : V} (ha : ∀ n, a ≠ .bi n) (q : Q (.bool !(isNone a)) st) : CO c .IsNot a .none st Q := fun v v' r r' => by
  cases r'
  have hp : plainIs v .none = true := by cases r <;> first | rfl | exact absurd rfl (ha _)
  refine TR.leaf fun φ s S => wpAny_isNot_plain hp ⟨.bool !(isNone a), st, ?_, S, q⟩
  cases r <;> exact .bool _
theorem bytes_eq_bnat (b b' : Array UInt8) : (b.toList == b'.toList) = (bnat b == bnat b') := by
  rw [Bool.eq_iff_iff]
  simp only [beq_iff_eq, bnat]
  refine ⟨fun h => by rw [h], fun h => ?_⟩
  exact List.map_inj_right (fun x y h => UInt8.toNat_inj.mp h) |>.mp h
theorem co_eqBytes {i j : List Nat} (q : Q (.bool (i == j)) st) : CO c .Eq (.bytes i) (.bytes j) st Q := fun v v' r r' => by
  cases r; cases r'
  exact TR.leaf fun φ s S => eq_bytes ⟨_, st, by rw [bytes_eq_bnat]; exact .bool _, S, q⟩

/-! ### lists -/
noncomputable def CAn (c : Fc) (f : String) (as : List V) (st : St) (Q : V → St → Prop) : Prop := ∀ vs, All2 VR vs as → TR c (call (.builtin f) vs) VR st Q
theorem ca_bi {f : String} {as : List V} (h : CAn c f as st Q) : CA c (.bi f) as [] [] st Q := fun fv vs kvs rf r1 r2 => by cases rf; cases r2; exact h vs r1
noncomputable def CAt (c : Fc) (f : String) (as : List V) (st : St) (Q : V → St → Prop) : Prop := ∀ vs, All2 VR vs as → TR c (call (.type f) vs) VR st Q
theorem ca_ty {f : String} {as : List V} (h : CAt c f as st Q) : CA c (.type f) as [] [] st Q := fun fv vs kvs rf r1 r2 => by cases rf; cases r2; exact h vs r1
theorem len_bytes' {l : List Nat} (hsz : l.length ≤ 16777216) (q : Q (.int l.length) st) : CAn c "len" [.bytes l] st Q := fun ws r => by
  cases r with
  | cons r h =>
    cases h; cases r
    rename_i b t
    refine TR.leaf fun φ s S => ?_
    have e : b.size = (bnat b).length := by simp [bnat]
    refine len_bytes (by rw [e]; omega) ⟨_, st, .int _ _, S.toks _, ?_⟩
    rw [e]; exact q
end
end Mine

set_option maxRecDepth 100000
set_option Elab.async false
set_option linter.unusedVariables false
open PySem PySem.W PyProof.Rows PySem.Calls
namespace Mine

/-! ## weaker states -/
noncomputable abbrev Hp := List (Addr × AObj)
noncomputable def LocLe (l l' : Loc) : Prop := ∀ x v, l'.lookup x = some v → l.lookup x = some v
theorem LocLe.refl (l : Loc) : LocLe l l := fun _ _ e => e
theorem LocLe.nil (l : Loc) : LocLe l [] := fun _ _ e => by simp at e
theorem LocLe.cons {l r : Loc} {x : Str} {v : V} (e : l.lookup x = some v) (h : LocLe l r) : LocLe l ((x, v) :: r) := fun y u hu => by
  rw [List.lookup_cons] at hu
  by_cases hy : y = x
  · subst hy; simp at hu; subst hu; exact e
  · have : (y == x) = false := beq_eq_false_iff_ne.mpr hy
    rw [this] at hu
    exact h y u hu
inductive Sub : Hp → Hp → Prop
  | refl (h : Hp) : Sub h h
  | drop {h h' : Hp} {e : Addr × AObj} : Sub h h' → Sub (e :: h) h'
  | keep {h h' : Hp} {e : Addr × AObj} : Sub h h' → Sub (e :: h) (e :: h')
  | perm {a b c : Hp} : a.Perm b → Sub b c → Sub a c
theorem Sub.sat {h h' : Hp} (k : Sub h h') : ∃ l, h.Perm (l ++ h') := by
  induction k with
  | refl h => exact ⟨[], .refl _⟩
  | drop _ ih => obtain ⟨l, p⟩ := ih; exact ⟨_ :: l, p.cons _⟩
  | keep _ ih => obtain ⟨l, p⟩ := ih; exact ⟨l, (p.cons _).trans List.perm_middle.symm⟩
  | perm q _ ih => obtain ⟨l, p⟩ := ih; exact ⟨l, q.trans p⟩
theorem Sub.app (l : Hp) {a b : Hp} (h : Sub a b) : Sub (l ++ a) b := by
  induction l with
  | nil => exact h
  | cons e l ih => exact .drop ih
structure WK (st st' : St) : Prop where
  loc : LocLe st.loc st'.loc
  hp : Sub st.hp st'.hp
theorem WK.refl (st : St) : WK st st := ⟨.refl _, .refl _⟩
theorem WK.sat {c : Fc} {φ : List (Addr × Obj)} {st st' : St} {s : Shared} (k : WK st st') (S : Sat c φ st s) : Sat c φ st' s := by
  obtain ⟨l, p⟩ := k.hp.sat
  exact ((S.perm p).drop rfl).weaken k.loc
section
variable {α β : Type} {c : Fc} {R : α → β → Prop} {st st' : St} {t : Sem α} {Q : β → St → Prop}
theorem TR.preWK (k : WK st st') (h : TR c t R st' Q) : TR c t R st Q := TR.pre h fun _ _ S => k.sat S
theorem TR.postWK (h : TR c t R st fun b st1 => ∃ st2, WK st1 st2 ∧ Q b st2) : TR c t R st Q := fun φ s S =>
  wpN_post (h φ s S) fun a s' ⟨b, st1, r, S1, st2, k, q⟩ => ⟨b, st2, r, k.sat S1, q⟩
end

/-! ## walking forms -/
noncomputable def CN (k : Bool) (A B : Prop) : Prop := if k = true then A else B
theorem CN.t {k : Bool} {A B : Prop} (hk : k = true) (a : A) : CN k A B := by subst hk; exact a
theorem CN.f {k : Bool} {A B : Prop} (hk : k = false) (b : B) : CN k A B := by subst hk; exact b
theorem CN.by {k : Bool} {A B : Prop} (a : k = true → A) (b : k = false → B) : CN k A B := by cases k with | true => exact a rfl | false => exact b rfl
noncomputable def NX (c : Fc) (ss : List Stmt) (Q : AFlow → St → Prop) : AFlow → St → Prop := fun f st => match f with
  | .next => EX c ss st Q
  | f => Q f st
section
variable {c : Fc} {st : St} {Q : AFlow → St → Prop}
theorem x_cons {s : Stmt} {ss : List Stmt} (h : ES c s st (NX c ss Q)) : EX c (s :: ss) st Q := ex_cons (TR.mono h fun f st1 k => by cases f <;> exact k)
theorem nx_next {ss : List Stmt} (h : EX c ss st Q) : NX c ss Q .next st := h
theorem nx_ret {ss : List Stmt} {v : V} (h : Q (.ret v) st) : NX c ss Q (.ret v) st := h
theorem s_if {t : PySem.Expr} {b o : List Stmt} {pos : Pos} (h : EB c t st fun k st1 => CN k (EX c b st1 Q) (EX c o st1 Q)) : ES c (.If t b o pos) st Q := es_if (TR.mono h fun k st1 x => x)
noncomputable def AN (c : Fc) (l : List PySem.Expr) (st : St) (Qb : Bool → St → Prop) : Prop := TR c (allTrue .And l c.env) Eq st Qb
noncomputable def ON (c : Fc) (l : List PySem.Expr) (st : St) (Qb : Bool → St → Prop) : Prop := TR c (allTrue .Or l c.env) Eq st Qb
variable {Qb : Bool → St → Prop} {Qv : V → St → Prop}
theorem b_and {vs : List PySem.Expr} {pos : Pos} (h : AN c vs st Qb) : EB c (.BoolOp .And vs pos) st Qb := h
theorem b_or {vs : List PySem.Expr} {pos : Pos} (h : ON c vs st Qb) : EB c (.BoolOp .Or vs pos) st Qb := h
theorem an_one {x : PySem.Expr} (h : EB c x st Qb) : AN c [x] st Qb := eb_and1 (pos := default) h
theorem an_cons {x y : PySem.Expr} {r : List PySem.Expr} (h : EB c x st fun k st1 => CN k (AN c (y :: r) st1 Qb) (Qb false st1)) : AN c (x :: y :: r) st Qb := eb_andc (TR.mono h fun _ _ x => x)
theorem on_one {x : PySem.Expr} (h : EB c x st Qb) : ON c [x] st Qb := eb_or1 (pos := default) h
theorem on_cons {x y : PySem.Expr} {r : List PySem.Expr} (h : EB c x st fun k st1 => CN k (Qb true st1) (ON c (y :: r) st1 Qb)) : ON c (x :: y :: r) st Qb := eb_orc (TR.mono h fun _ _ x => x)
theorem v_ifexp {t b o : PySem.Expr} {pos : Pos} (h : EB c t st fun k st1 => CN k (EV c b st1 Qv) (EV c o st1 Qv)) : EV c (.IfExp t b o pos) st Qv := ev_ifexp (TR.mono h fun _ _ x => x)
theorem v_and2 {x y : PySem.Expr} {pos : Pos} (h : EV c x st fun a st1 => TT c a st1 fun t st2 => CN t (EV c y st2 Qv) (Qv a st2)) : EV c (.BoolOp .And [x, y] pos) st Qv := ev_and2 h
theorem v_and3 {x y z : PySem.Expr} {pos : Pos} (h : EV c x st fun a st1 => TT c a st1 fun t st2 => CN t (EV c (.BoolOp .And [y, z] pos) st2 Qv) (Qv a st2)) : EV c (.BoolOp .And [x, y, z] pos) st Qv := ev_and3 h

/-! ### while, for -/
theorem s_while {t : PySem.Expr} {b o : List Stmt} {pos : Pos} (I : Nat → St → Prop) (n : Nat) (st0 : St) (h0 : WK st st0) (h : I n st0)
    (turn : ∀ n st, I n st → EB c t st fun k st1 => CN k (EX c b st1 (fun f st2 => match f with | .next | .cont => ∃ m st3, m < n ∧ WK st2 st3 ∧ I m st3 | .brk => Q .next st2 | .ret v => Q (.ret v) st2)) (EX c o st1 Q)) : ES c (.While t b o pos) st Q := by
  refine es_while (I := fun n st => ∃ st0, WK st st0 ∧ I n st0) (fun n st ⟨st0, k, hI⟩ => ?_) n ⟨st0, h0, h⟩
  refine TR.preWK k (TR.mono (turn n st0 hI) fun kk st1 hh => ?_)
  cases kk with
  | false => exact hh
  | true =>
    refine TR.mono hh fun f st2 q => ?_
    cases f with
    | next => obtain ⟨m, st3, h1, h2, h3⟩ := q; exact ⟨m, h1, st3, h2, h3⟩
    | cont => obtain ⟨m, st3, h1, h2, h3⟩ := q; exact ⟨m, h1, st3, h2, h3⟩
    | brk => exact q
    | ret v => exact q
/-- what a loop's turn has to give -/
noncomputable def TU (I : Nat → St → Prop) (i : Nat) (Q : AFlow → St → Prop) : AFlow → St → Prop := fun f st2 => match f with
  | .next | .cont => ∃ st3, WK st2 st3 ∧ I i st3
  | .brk => False
  | .ret v => Q (.ret v) st2
structure FOR (c : Fc) (x : Str) (body : List Stmt) (items : List V) (Src : Hp → Prop) (st : St) (Q : AFlow → St → Prop) : Prop where
  ex : ∃ I : Nat → St → Prop, (∃ st3, WK st st3 ∧ I 0 st3) ∧ (∀ i st, I i st → Src st.hp) ∧
    (∀ i v st, items[i]? = some v → I i st → SN c x v st fun st1 => EX c body st1 (TU I (i + 1) Q)) ∧ (∀ st, I items.length st → Q .next st)
noncomputable def ITER (c : Fc) (v : V) (st : St) (P : List V → (Hp → Prop) → St → Prop) : Prop :=
  ∀ val, VR val v → TR c (pyIter val) VR st fun itv st2 => ∃ (it : Addr) (ia : Nat → AObj) (items : List V) (Src : Hp → Prop) (st0 : St), itv = .ref it ∧ st2 = ⟨st0.loc, (it, ia 0) :: st0.hp⟩ ∧ (∀ c' : Fc, c'.A = c.A → Iter c' it ia items Src) ∧ (∀ h h', Sub h h' → Src h' → Src h) ∧ P items Src st0
theorem s_for {x : Str} {px pos : Pos} {e : PySem.Expr} {body : List Stmt} (h : EV c e st fun v st1 => ITER c v st1 fun items Src st2 => FOR c x body items Src st2 Q)
    (hs : ∀ x, foldedSetIterable e c.env x = pure x := by intro _; rfl) : ES c (.For (.Name x px) e body [] pos) st Q := by
  refine TR.postWK (es_for (Q := fun f st1 => ∃ st2, WK st1 st2 ∧ Q f st2) (TR.mono h fun v st1 h1 val r => ?_) (fun v loc hp e ⟨st2, k, q⟩ => ⟨st2, ⟨k.loc, .drop k.hp⟩, q⟩) hs)
  refine TR.mono (h1 val r) fun itv st2 hx => ?_
  obtain ⟨it, ia, items, Src, st0, e1, e2, W, hsub, ⟨I, ⟨st3, k3, h0⟩, hsrc, turn, done⟩⟩ := hx
  refine ⟨it, ia, items, Src, fun i st => ∃ st3, WK st st3 ∧ I i st3, st0, e1, e2, W c rfl, ⟨st3, k3, h0⟩, fun i st ⟨st3, k, hI⟩ => hsub _ _ k.hp (hsrc _ _ hI), fun i v st hv ⟨st3, k, hI⟩ => ?_, fun st ⟨st3, k, hI⟩ => ⟨st3, k, done _ hI⟩⟩
  intro val' r'
  refine TR.preWK k (TR.mono (turn i v st3 hv hI val' r') fun _ st4 hx => ?_)
  refine TR.mono hx fun f st5 q => ?_
  cases f with
  | next => exact q
  | cont => exact q
  | brk => exact q
  | ret v => exact ⟨st5, .refl _, q⟩
/-- a loop as a fold -/
theorem FOR.fold {x : Str} {body : List Stmt} {items : List V} {Src : Hp → Prop} {σ : Type} (enc : σ → St) (step : σ → V → σ) (s0 : σ) (J : Nat → σ → Prop) (h0 : WK st (enc s0)) (j0 : J 0 s0) (src : ∀ s, Src (enc s).hp)
    (turn : ∀ i v s, items[i]? = some v → J i s → SN c x v (enc s) fun st1 => EX c body st1 (TU (fun _ st => J (i + 1) (step s v) ∧ st = enc (step s v)) 0 Q))
    (done : J items.length (items.foldl step s0) → Q .next (enc (items.foldl step s0))) : FOR c x body items Src st Q := by
  refine ⟨fun i st => i ≤ items.length ∧ J i ((items.take i).foldl step s0) ∧ st = enc ((items.take i).foldl step s0), ⟨enc s0, h0, Nat.zero_le _, by simpa using j0, by simp⟩, fun i st ⟨_, _, e⟩ => e ▸ src _, ?_, ?_⟩
  · rintro i v st hv ⟨hi, hj, rfl⟩
    have hlt : i < items.length := by
      rcases Nat.lt_or_ge i items.length with h | h
      · exact h
      · rw [List.getElem?_eq_none h] at hv; cases hv
    intro val r
    refine TR.mono (turn i v _ hv hj val r) fun _ st4 hx => TR.mono hx fun f st5 q => ?_
    have e : (items.take (i + 1)).foldl step s0 = step ((items.take i).foldl step s0) v := by
      rw [List.take_add_one, hv, List.foldl_append]; rfl
    cases f with
    | next => obtain ⟨st6, k, j, e6⟩ := q; exact ⟨st6, k, hlt, by rw [e]; exact j, by rw [e]; exact e6⟩
    | cont => obtain ⟨st6, k, j, e6⟩ := q; exact ⟨st6, k, hlt, by rw [e]; exact j, by rw [e]; exact e6⟩
    | brk => exact q
    | ret v => exact q
  · rintro st ⟨_, hj, rfl⟩
    rw [List.take_length] at hj ⊢
    exact done hj
theorem tu_next {I : Nat → St → Prop} {i : Nat} (st3 : St) (k : WK st st3) (h : I i st3) : TU I i Q .next st := ⟨st3, k, h⟩
end
end Mine

set_option maxRecDepth 100000
set_option Elab.async false
set_option linter.unusedVariables false
open PySem PySem.W PyProof.Rows PySem.Calls
namespace Mine

inductive Upd : Hp → Addr → AObj → AObj → Hp → Prop
  | here {r : Hp} {a : Addr} {o o' : AObj} : Upd ((a, o) :: r) a o o' ((a, o') :: r)
  | there {e : Addr × AObj} {r r' : Hp} {a : Addr} {o o' : AObj} : Upd r a o o' r' → Upd (e :: r) a o o' (e :: r')
theorem Upd.split {h h' : Hp} {a : Addr} {o o' : AObj} (u : Upd h a o o' h') : ∃ pre post, h = pre ++ (a, o) :: post ∧ h' = pre ++ (a, o') :: post := by
  induction u with
  | here => exact ⟨[], _, rfl, rfl⟩
  | there _ ih => obtain ⟨pre, post, e1, e2⟩ := ih; exact ⟨_ :: pre, post, by rw [e1]; rfl, by rw [e2]; rfl⟩
theorem Upd.mem {h h' : Hp} {a : Addr} {o o' : AObj} (u : Upd h a o o' h') : (a, o) ∈ h := by obtain ⟨pre, post, rfl, _⟩ := u.split; simp
noncomputable def RL (hp : Hp) (a : Addr) (vs : List V) : Prop := (a, AObj.list vs) ∈ hp ∨ ∃ its n, (a, AObj.raw (W.listOf its n)) ∈ hp ∧ All2 VR its.toList vs
theorem RL.here {hp : Hp} {a : Addr} {vs : List V} : RL ((a, .list vs) :: hp) a vs := .inl (.head _)
theorem RL.there {hp : Hp} {a : Addr} {vs : List V} {e : Addr × AObj} (h : RL hp a vs) : RL (e :: hp) a vs := h.imp (.tail _) fun ⟨its, n, m, r⟩ => ⟨its, n, .tail _ m, r⟩
theorem Sub.mem {h h' : Hp} (k : Sub h h') {e : Addr × AObj} (m : e ∈ h') : e ∈ h := by
  induction k with
  | refl h => exact m
  | drop _ ih => exact .tail _ (ih m)
  | keep _ ih => rcases List.mem_cons.mp m with rfl | m
                 · exact .head _
                 · exact .tail _ (ih m)
  | perm p _ ih => exact p.mem_iff.mpr (ih m)
theorem RL.sub {h h' : Hp} (k : Sub h h') {a : Addr} {vs : List V} (r : RL h' a vs) : RL h a vs := r.imp (fun m => k.mem m) fun ⟨its, n, m, r⟩ => ⟨its, n, k.mem m, r⟩
theorem Sat.listR {c : Fc} {φ : List (Addr × Obj)} {st : St} {s : Shared} (S : Sat c φ st s) {a : Addr} {vs : List V} (h : RL st.hp a vs) : ∃ its n, s.heap.get? a = some (W.listOf its n) ∧ All2 VR its.toList vs ∧ s.heap.IsList a its := by
  rcases h with h | ⟨its, n, h, r⟩
  · exact S.list h
  · obtain ⟨o, ho, rfl, _⟩ := S.at h
    exact ⟨its, n, ho, r, ⟨_, ho, rfl, n, rfl⟩⟩

section
variable {c : Fc} {st : St} {Q : V → St → Prop}
theorem len_listR {a : Addr} {vs : List V} (hm : RL st.hp a vs) (hsz : vs.length ≤ 16777216) (q : Q (.int vs.length) st) : CAn c "len" [.ref a] st Q := fun ws r => by
  cases r with
  | cons r h =>
    cases h; cases r
    refine TR.leaf fun φ s S => ?_
    obtain ⟨its, n, ho, H, hl⟩ := S.listR hm
    have e : its.size = vs.length := by simpa using H.length
    refine len_list hl (by rw [e]; omega) ⟨_, st, .int _ _, S.toks _, ?_⟩
    rw [e]; exact q
/-! ### subscripts -/
noncomputable def SB (c : Fc) (value slice : PySem.Expr) (o i : V) (st : St) (Q : V → St → Prop) : Prop := ∀ ov iv, VR ov o → VR iv i → TR c (subscriptTail value slice ov iv) VR st Q
theorem ev_sub {o i : PySem.Expr} {pos : Pos} (h : EV c o st fun ov st1 => EV c i st1 fun iv st2 => SB c o i ov iv st2 Q) : EV c (.Subscript o i pos) st Q :=
  TR.bind (TR.mono h fun ov st1 h1 v r1 => TR.bind (TR.holding (TR.mono h1 fun iv st2 h2 v' r2 => TR.stand (h2 v v' r1 r2))))
theorem subscripted_false (slice : PySem.Expr) (o i : Value) : ∃ ops, subscripted slice false o i = operate ops (getItem o i) := by
  unfold subscripted
  split <;> first | exact ⟨_, rfl⟩ | contradiction
theorem sb_list {value slice : PySem.Expr} {a : Addr} {vs : List V} {i : V} (hm : RL st.hp a vs) (h : ∀ φ s, Sat c φ st s → ∀ its n, s.heap.get? a = some (W.listOf its n) → All2 VR its.toList vs → s.heap.IsList a its → ∀ iv, VR iv i →
    wpAny c.M c.A (getItem (.ref a) iv) (fun v s' => ∃ x st', VR v x ∧ Sat c φ st' s' ∧ Q x st') (fun _ _ => False) s) : SB c value slice (.ref a) i st Q := fun ov iv ro ri => by
  cases ro
  refine TR.leaf fun φ s S => ?_
  obtain ⟨its, n, ho, H, hl⟩ := S.listR hm
  obtain ⟨ops, e⟩ := subscripted_false slice (.ref a) iv
  exact tail_any hl.typeIs slot_list_getitem.lookup (h φ s S its n ho H hl iv ri) e
theorem sb_listN {value slice : PySem.Expr} {a : Addr} {vs : List V} {k : Nat} {v : V} (hm : RL st.hp a vs) (hv : vs[k]? = some v) (hk : (k : Int) < 2 ^ 63) (q : Q v st) : SB c value slice (.ref a) (.int k) st Q :=
  sb_list hm fun φ s S its n ho H hl iv ri => by
    cases ri
    obtain ⟨x, hx, r⟩ := H.get hv
    exact wpAny_getItem_list (x := x) hl (by omega) hk (by simpa using hx) ⟨v, st, r, S, q⟩
theorem sb_listI {value slice : PySem.Expr} {a : Addr} {vs : List V} {k : Int} {v : V} (hm : RL st.hp a vs) (h0 : 0 ≤ k) (hv : vs[k.toNat]? = some v) (hk : k < 2 ^ 63) (q : Q v st) : SB c value slice (.ref a) (.int k) st Q :=
  sb_list hm fun φ s S its n ho H hl iv ri => by
    cases ri
    obtain ⟨x, hx, r⟩ := H.get hv
    exact wpAny_getItem_list (x := x) hl h0 hk (by simpa using hx) ⟨v, st, r, S, q⟩
/-! ### slices -/
noncomputable def OV (c : Fc) (e : Option PySem.Expr) (st : St) (Q : V → St → Prop) : Prop := TR c (valueOrNone (evalOpt e c.env)) VR st Q
theorem ov_none (q : Q .none st) : OV c none st Q := TR.pure .none q
theorem ov_some {e : PySem.Expr} (h : EV c e st Q) : OV c (some e) st Q := h
theorem ev_slice {l u s : Option PySem.Expr} {pos : Pos} (h : OV c l st fun lv st1 => OV c u st1 fun uv st2 => OV c s st2 fun sv st3 => ∀ a, Q (.ref a) ⟨st3.loc, (a, .slice lv uv sv) :: st3.hp⟩) : EV c (.Slice l u s pos) st Q := by
  refine TR.bind (TR.mono h fun lv st1 h1 lvv rl => TR.bind (TR.holding (TR.mono h1 fun uv st2 h2 uvv ru => TR.bind (TR.holding (TR.mono h2 fun sv st3 h3 svv rs => ?_)))))
  refine TR.leaf fun φ s S => ?_
  show wpAny _ _ (newObj (.type "slice") (.fields #[lvv, uvv, svv])) _ _ s
  exact wpAny_newObj_type ⟨_, _, .ref _, S.alloc (ao := .slice lv uv sv) rfl ⟨lvv, uvv, svv, rfl, rl, ru, rs⟩, h3 _⟩
inductive Part : V → Option Int → Prop
  | none : Part .none none
  | int (i) : Part (.int i) (some i)
theorem Part.is {v : Value} {x : V} {o : Option Int} (p : Part x o) (r : VR v x) : IsPart v o := by
  cases p <;> cases r
  · exact .none
  · exact .int _ _
noncomputable def slc {α : Type} (l : List α) (lo hi : Option Int) : List α := (l.drop (kms_lo lo l.length)).take (kms_hi hi l.length - kms_lo lo l.length)
theorem kms_pick_slc (l : List Value) (lo hi : Option Int) : kms_pick l lo hi = slc l lo hi := rfl
theorem All2.slc {α β : Type} {R : α → β → Prop} {l : List α} {m : List β} (h : All2 R l m) (lo hi : Option Int) : All2 R (slc l lo hi) (Mine.slc m lo hi) := by
  unfold Mine.slc
  rw [h.length]
  exact (h.drop _).take _
theorem slc_length {α : Type} (l : List α) (lo hi : Option Int) : (slc l lo hi).length ≤ l.length := by
  unfold slc; simp; omega
theorem sb_listS {value : PySem.Expr} {slice : PySem.Expr} {a sl : Addr} {vs : List V} {lv uv : V} {lo hi : Option Int} {loc : Loc} {hp : Hp} (hm : RL hp a vs) (pl : Part lv lo) (pu : Part uv hi) (hsz : vs.length ≤ 16777216)
    (q : ∀ D, Q (.ref D) ⟨loc, (D, .list (slc vs lo hi)) :: hp⟩) : SB c value slice (.ref a) (.ref sl) ⟨loc, (sl, .slice lv uv .none) :: hp⟩ Q :=
  sb_list (st := ⟨loc, (sl, .slice lv uv .none) :: hp⟩) (RL.there hm) fun φ s S its n ho H hl iv ri => by
    cases ri
    obtain ⟨o, hsl, lvv, uvv, svv, rfl, rl, ru, rs⟩ := S.at (a := sl) (ao := .slice lv uv .none) (.head _)
    cases rs
    have hL := H.length
    simp at hL
    refine wpAny_getItem_list_slice hl ⟨_, hsl, rfl, rfl⟩ (pl.is rl) (pu.is ru) .none (by decide) ⟨_, _, .ref _, ?_, q _⟩ (by rw [sizeLine_eq]; omega)
    rw [kms_pick_eq, kms_pick_slc]
    exact (S.drop (l := [_]) rfl).alloc (o := W.listOf (slc its.toList lo hi).toArray 0) (ao := .list (slc vs lo hi)) rfl ⟨_, _, rfl, by simpa using H.slc lo hi⟩
theorem sb_listRev {value : PySem.Expr} {slice : PySem.Expr} {a sl : Addr} {vs : List V} {loc : Loc} {hp : Hp} (hm : RL hp a vs) (hsz : vs.length ≤ 16777216)
    (q : ∀ D, Q (.ref D) ⟨loc, (D, .list vs.reverse) :: hp⟩) : SB c value slice (.ref a) (.ref sl) ⟨loc, (sl, .slice .none .none (.int (-1))) :: hp⟩ Q :=
  sb_list (st := ⟨loc, (sl, .slice .none .none (.int (-1))) :: hp⟩) (RL.there hm) fun φ s S its n ho H hl iv ri => by
    cases ri
    obtain ⟨o, hsl, lvv, uvv, svv, rfl, rl, ru, rs⟩ := S.at (a := sl) (ao := .slice .none .none (.int (-1))) (.head _)
    cases rs; cases rl; cases ru
    have hL := H.length
    simp at hL
    refine wpAny_getItem_list_slice hl ⟨_, hsl, rfl, rfl⟩ .none .none (.int _ _) (by decide) ⟨_, _, .ref _, ?_, q _⟩ (by rw [sizeLine_eq]; omega)
    rw [krv_pick]
    exact (S.drop (l := [_]) rfl).alloc (o := W.listOf its.toList.reverse.toArray 0) (ao := .list vs.reverse) rfl ⟨_, _, rfl, by simpa using H.reverse⟩
/-! ### bytes -/
theorem bInts_bnat (b : Array UInt8) : KBw.bInts b = (bnat b).map (fun n : Nat => (n : Int)) := by
  simp [KBw.bInts, bnat]
theorem letGo_bytes (value : PySem.Expr) (b : Array UInt8) (t : Tok) (r : Value) : letTemporaryGo value (.bytes b t) r = pure () := by
  cases value <;> rfl
theorem subscripted_int (slice : PySem.Expr) (hs : ∀ l u p, slice ≠ .Slice l u none p) (o i : Value) : subscripted slice false o i = operate [o, i] (getItem o i) := by
  unfold subscripted
  split
  · exact absurd rfl (hs _ _ _)
  · rename_i h; cases h
  · rfl
theorem sb_bytesI {value slice : PySem.Expr} {l : List Nat} {k : Int} {n : Nat} (hs : ∀ l u p, slice ≠ .Slice l u none p) (h0 : 0 ≤ k) (hv : l[k.toNat]? = some n) (hsz : l.length ≤ 16777216) (q : Q (.int n) st) : SB c value slice (.bytes l) (.int k) st Q := fun ov iv ro ri => by
  cases ro; cases ri
  rename_i b t t'
  have hlt : k.toNat < (bnat b).length := by
    rcases Nat.lt_or_ge k.toNat (bnat b).length with h | h
    · exact h
    · rw [List.getElem?_eq_none h] at hv; cases hv
  refine TR.leaf fun φ s S => KBw.item_K (bInts_bnat b) (by simp only [List.length_map] at *; omega) h0 (by simp only [List.length_map] at *; omega) (fun t' k' _ _ => ⟨.int n, st, ?_, S.toks _, q⟩) (subscripted_int slice hs _ _) (letGo_bytes _ _ _)
  have : ((bnat b).map (fun n : Nat => (n : Int))).getD k.toNat 0 = (n : Int) := by
    rw [List.getD_eq_getElem?_getD, List.getElem?_map, hv]; rfl
  rw [this]; exact .int _ _
theorem sb_bytesN {value slice : PySem.Expr} {l : List Nat} {k : Nat} {n : Nat} (hs : ∀ l u p, slice ≠ .Slice l u none p) (hv : l[k]? = some n) (hsz : l.length ≤ 16777216) (q : Q (.int n) st) : SB c value slice (.bytes l) (.int k) st Q := sb_bytesI hs (by omega) (by simpa using hv) hsz q
end
end Mine

set_option maxRecDepth 100000
set_option Elab.async false
set_option linter.unusedVariables false
open PySem PySem.W PyProof.Rows PySem.Calls
namespace Mine

section
variable {c : Fc} {st : St} {Q : V → St → Prop}
/-! ### a slice of bytes -/
theorem clip_at (n : Nat) (x : Int) : clipAt n x = if x < 0 then n - (-x).toNat else min x.toNat n := by
  unfold clipAt
  cases x with
  | ofNat k =>
    have h0 : ¬ Int.ofNat k < 0 := Int.not_lt.mpr (Int.natCast_nonneg k)
    rw [if_neg h0, if_neg h0]
    show (max 0 (min (k : Int) (n : Int))).toNat = min k n
    rcases Nat.le_total k n with h | h
    · rw [Int.min_eq_left (Int.ofNat_le.mpr h), Int.max_eq_right (Int.natCast_nonneg k), Nat.min_eq_left h]; rfl
    · rw [Int.min_eq_right (Int.ofNat_le.mpr h), Int.max_eq_right (Int.natCast_nonneg n), Nat.min_eq_right h]; rfl
  | negSucc k =>
    have h0 : Int.negSucc k < 0 := Int.negSucc_lt_zero k
    rw [if_pos h0, if_pos h0]
    have e : Int.negSucc k + n = (n : Int) - ((k + 1 : Nat) : Int) := by rw [Int.sub_eq_add_neg, Int.add_comm]; rfl
    rw [e, Int.min_eq_left (Int.sub_le_self _ (Int.natCast_nonneg _))]
    show _ = n - (k + 1)
    have t := Int.toNat_sub n (k + 1)
    rcases Int.le_total 0 ((n : Int) - ((k + 1 : Nat) : Int)) with h | h
    · rw [Int.max_eq_right h]; exact t
    · rw [Int.max_eq_left h]; rw [Int.toNat_of_nonpos h] at t; exact t
theorem clip_lo (lo : Option Int) (n : Nat) : lo.elim 0 (clipAt n) = kms_lo lo n := by
  cases lo with
  | none => rfl
  | some x => exact clip_at n x
theorem clip_hi (hi : Option Int) (n : Nat) : hi.elim n (clipAt n) = kms_hi hi n := by
  cases hi with
  | none => rfl
  | some x => exact clip_at n x
theorem bnat_of_ints {b : Array UInt8} {l : List Nat} (h : KBw.bInts b = l.map (fun n : Nat => (n : Int))) : bnat b = l := by
  rw [bInts_bnat] at h
  exact List.map_inj_right (fun x y h => Int.ofNat.inj h) |>.mp h
theorem bnat_picked (b : Array UInt8) (lo hi : Option Int) : bnat (KBy.picked b lo hi) = slc (bnat b) lo hi := by
  refine bnat_of_ints ?_
  rw [KBc.ints_picked (bInts_bnat b) lo hi]
  unfold slc
  simp only [List.length_map, clip_lo, clip_hi, List.map_take, List.map_drop]
theorem getItem_bytes_slice {prog : Program} {w : World} {A : Around} {E : Value → Shared → Prop} {s : Shared} {b : Array UInt8} {t : Tok} {a : Addr} {l u : Value} {lo hi : Option Int} {Q : Value → Shared → Prop} (hs : s.heap.IsSliceOf a l u .none) (pl : IsPart l lo) (pu : IsPart u hi)
    (hz : (KBy.picked b lo hi).size ≤ sizeLine) (h : ∀ t' k, Q (.bytes (KBy.picked b lo hi) t') { s with toks := k }) : wpAny (model prog w) A (getItem (.bytes b t) (.ref a)) Q E s :=
  getItem_meets (T := "bytes") (id := "bytes.__getitem__") rfl (by decide) FB.slot_bytes_getitem FB.entry_bytes_getitem (FB.args_bytes_getitem_2 _ _) (KBc.meets_slice2 b t a pl pu) ⟨hs, hz, h⟩
theorem sb_bytesS {value slice : PySem.Expr} {l : List Nat} {sl : Addr} {lv uv : V} {lo hi : Option Int} {loc : Loc} {hp : Hp} (pl : Part lv lo) (pu : Part uv hi) (hsz : l.length ≤ 16777216)
    (q : Q (.bytes (slc l lo hi)) ⟨loc, hp⟩) : SB c value slice (.bytes l) (.ref sl) ⟨loc, (sl, .slice lv uv .none) :: hp⟩ Q := fun ov iv ro ri => by
  cases ro; cases ri
  rename_i b t
  refine TR.leaf fun φ s S => ?_
  obtain ⟨o, hsl, lvv, uvv, svv, rfl, rl, ru, rs⟩ := S.at (a := sl) (ao := .slice lv uv .none) (.head _)
  cases rs
  obtain ⟨ops, e⟩ := subscripted_false slice (.bytes b t) (.ref sl)
  refine tail_any (T := "bytes") rfl FB.slot_bytes_getitem.lookup (getItem_bytes_slice ⟨_, hsl, rfl, rfl⟩ (pl.is rl) (pu.is ru) ?_ fun t' k => ⟨.bytes (slc (bnat b) lo hi), _, ?_, (S.drop (l := [_]) rfl).toks _, q⟩) e
  · have h1 : (KBy.picked b lo hi).size = (slc (bnat b) lo hi).length := by rw [← bnat_picked]; simp [bnat]
    have h2 := slc_length (bnat b) lo hi
    rw [sizeLine_eq]; omega
  · rw [← bnat_picked]; exact .bytes _ _
/-! ### methods of lists -/
theorem ev_methL {o : PySem.Expr} {name : Str} {apos pos : Pos} {args : List PySem.Expr} {id : String}
    (h : EV c o st fun ov st1 => ∃ a vs, ov = .ref a ∧ RL st1.hp a vs ∧ EL c pos args st1 fun as st2 => CAn c id (.ref a :: as) st2 Q)
    (slot : Slot "list" name id) (hty : typeOf (.builtin id) = pure (.type "method_descriptor"))
    (hbase : attributeBase o name c.env (eval o c.env) = eval o c.env)
    (hst : (starEach args c.env).all (fun x => !x.1) = true) (hlen : args.length < 29)
    (hline : (apos.endLine == pos.line) = true) : EV c (.Call (.Attribute o name apos) args [] pos) st Q := by
  show TR c (attributeBase o name c.env (eval o c.env) >>= fun ov => standAt apos.atName >>= fun _ => methodCall o name apos pos c.env ov (args.length + 0) (backTo pos (starEach args c.env)) (backToKw pos (keywordEach [] c.env))) VR st Q
  rw [hbase]
  refine TR.bind (TR.mono h fun ov st1 ⟨a, vs, e, hm, h1⟩ ovv ro => TR.stand ?_)
  subst e
  cases ro
  have hform : methodCallForm (args.length + 0) (backTo pos (starEach args c.env)) (backToKw pos (keywordEach [] c.env)) = true := by
    unfold methodCallForm backTo
    rw [List.all_map]
    have : (starEach args c.env).all ((fun x : Bool × Sem Value => !x.1) ∘ fun (x : Bool × Sem Value) => (x.1, do let v ← x.2; standAt pos; pure v)) = true := hst
    simp only [Bool.and_eq_true]
    refine ⟨⟨hst, rfl⟩, ?_⟩
    rw [show keywordEach [] c.env = [] from rfl]
    simp [backToKw]; omega
  have hpos : methodCallPos true o c.env apos pos = pure pos := by unfold methodCallPos; simp [hline]
  unfold methodCall
  rw [hform]
  intro φ s S
  obtain ⟨its, n, ho, H, hl⟩ := S.listR hm
  refine wpN_bind (wpN_holding (lift (getMethod_builtin hl.typeIs F.plainAttrs_list slot hty (fun a' e => by cases e; exact ⟨_, ho, rfl⟩) ?_)))
  rw [hpos]
  refine wpN_bind (wpN_pure ?_)
  refine callWith_tr (R1 := All2 VR) (fa := .bi id) (.bi id) rfl hst (ks := []) (TR.mono h1 fun as st2 h2 => ek_nil ⟨trivial, fun vs kv r1 r2 => ?_⟩) φ s S
  cases r2
  exact h2 _ (.cons (.ref a) r1)
theorem m_append {a : Addr} {vs : List V} {v : V} {hp' : Hp} (u : Upd st.hp a (.list vs) (.list (vs ++ [v])) hp') (hsz : vs.length ≤ 16777216) (q : Q .none ⟨st.loc, hp'⟩) : CAn c "list.append" [.ref a, v] st Q := fun ws r => by
  obtain ⟨pre, post, e1, rfl⟩ := u.split
  cases r with
  | cons r h => cases h with
    | cons r' h => cases h; cases r; exact append_tr e1 r' hsz q
theorem ins_eq {α : Type} (xs : Array α) (k : Nat) (y : α) (hk : k ≤ xs.size) : ((xs.extract 0 k).push y ++ xs.extract k).toList = xs.toList.take k ++ y :: xs.toList.drop k := by
  simp [List.take_of_length_le]
theorem fits_not {i : Int} (h : (-9223372036854775808 : Int) ≤ i) (h' : i < 9223372036854775808) : ¬ (!Builtin.List.listFitsIndex i) = true := by
  unfold Builtin.List.listFitsIndex
  have e1 : decide ((-2 ^ 63 : Int) ≤ i) = true := decide_eq_true (by exact h)
  have e2 : decide (i < (2 ^ 63 : Int)) = true := decide_eq_true (by exact h')
  rw [e1, e2]
  decide
theorem m_insert {a : Addr} {vs : List V} {v : V} {i : Nat} {hp' : Hp} (u : Upd st.hp a (.list vs) (.list (vs.take i ++ v :: vs.drop i)) hp') (hi : i ≤ vs.length) (hsz : vs.length ≤ 16777216) (q : Q .none ⟨st.loc, hp'⟩) : CAn c "list.insert" [.ref a, .int i, v] st Q := fun ws r => by
  obtain ⟨pre, post, e1, rfl⟩ := u.split
  cases r with
  | cons r h => cases h with
    | cons r2 h => cases h with
      | cons r3 h =>
        cases h; cases r; cases r2
        rename_i y t
        refine TR.leaf fun φ s S => ?_
        obtain ⟨its, n, ho, H, hl⟩ := S.list (a := a) (vs := vs) (by rw [e1]; simp)
        have hL := H.length
        simp at hL
        obtain ⟨z, ez⟩ : ∃ z : Int, (i : Int) = z := ⟨_, rfl⟩
        rw [ez]
        have hf : ¬ (!Builtin.List.listFitsIndex z) = true := fits_not (by omega) (by omega)
        have hz : its.size ≤ sizeLine := by rw [sizeLine_eq]; omega
        refine call_meets F.slot_list_insert ⟨_, ho, rfl⟩ F.entry_list_insert (F.args_list_insert_3 _ _ _) (PySem.AutoSeq1.list_insert_list_int_val_1 a its n z t y hf hz) ⟨ho, ?_⟩
        have hm : ∀ (f : Array Value → Array Value), Obj.mapSeq f (W.listOf its n) = W.listOf (f its) (if (f its).size == its.size then n else n + 1) := fun f => rfl
        refine ⟨_, _, .none, S.set (tk := s.toks) (ao' := .list (vs.take i ++ v :: vs.drop i)) e1 (Heap.SameBut.update ..).extBut (Heap.get?_update_self _ ho (by rw [hm]; rfl)) ?_, q⟩
        rw [hm]
        refine ⟨_, _, rfl, ?_⟩
        have h0 : ¬ (z < 0) := by omega
        simp only [if_neg h0]
        have e : min z.toNat its.size = i := by omega
        rw [e, ins_eq its i y (by omega)]
        exact (H.take i).append (.cons r3 (H.drop i))
end
end Mine

set_option maxRecDepth 100000
set_option Elab.async false
set_option linter.unusedVariables false
open PySem PySem.W PyProof.Rows PySem.Calls
namespace Mine

section
variable {c : Fc} {st : St} {Q : V → St → Prop}
/-! ### operations on lists -/
theorem bo_addL {a b : Addr} {vs ws : List V} (ha : RL st.hp a vs) (hb : RL st.hp b ws) (hz : vs.length + ws.length ≤ 16777216) (q : ∀ D, Q (.ref D) ⟨st.loc, (D, .list (vs ++ ws)) :: st.hp⟩) : BO c .Add (.ref a) (.ref b) st Q := fun v v' r r' => by
  cases r; cases r'
  refine TR.leaf fun φ s S => ?_
  obtain ⟨its, n, ho, H, hl⟩ := S.listR ha
  obtain ⟨its2, n2, ho2, H2, hl2⟩ := S.listR hb
  obtain ⟨m, news, F, N, mk, _⟩ := S.lib
  have h1 := H.length
  have h2 := H2.length
  simp at h1 h2
  exact add_arrays F N hl hl2 (fun h' F' N' => ⟨_, _, .ref _, mk h' s.toks _ _ (.list (vs ++ ws)) (.inl (Nat.le_refl _)) F' N' ⟨(its.toList ++ its2.toList).toArray, 0, rfl, by simpa using H.append H2⟩, q _⟩) (by rw [sizeLine_eq]; omega)
theorem noInplace_list : fillsInplaceSlot (.type "list") "add" (Operator.Add == Operator.Add) = pure false := by
  unfold fillsInplaceSlot
  have h := F.slot_list_iadd.lookup
  simp only [h, pure_bind]
  have : isSeqSlot (some (Value.builtin "list.__iadd__")) = true := by decide +kernel
  simp [this]
theorem seq_list_iadd : seqSlot? (.type "list") (dunderI "add") = pure (some (.builtin "list.__iadd__")) := PySem.seqSlot_of F.slot_list_iadd.lookup (by decide +kernel)
theorem io_addL {a b : Addr} {vs ws : List V} {hp' : Hp} (u : Upd st.hp a (.list vs) (.list (vs ++ ws)) hp') (hb : RL st.hp b ws) (hz : vs.length + ws.length ≤ 16777216) (q : Q (.ref a) ⟨st.loc, hp'⟩) : IO c .Add (.ref a) (.ref b) st Q := fun v v' r r' => by
  cases r; cases r'
  obtain ⟨pre, post, e1, rfl⟩ := u.split
  refine TR.leaf fun φ s S => ?_
  obtain ⟨its, n, ho, H, hl⟩ := S.list (a := a) (vs := vs) (by rw [e1]; simp)
  obtain ⟨its2, n2, ho2, H2, hl2⟩ := S.listR hb
  have h1 := H.length
  have h2 := H2.length
  simp at h1 h2
  unfold inplaceOp
  refine wpAny_holding ?_
  dsimp only
  refine wpAny_bind (wpAny_typeOf hl.typeIs ?_)
  show wpAny _ _ (fillsInplaceSlot (.type "list") "add" (Operator.Add == Operator.Add) >>= _) _ _ s
  rw [noInplace_list]
  refine wpAny_bind (wpAny_pure ?_)
  show wpAny _ _ (binaryOp1 "add" (.ref a) (.ref b) >>= _) _ _ s
  refine wpAny_bind (binaryOp1_none hl.typeIs hl2.typeIs noFill_list_add ?_)
  show wpAny _ _ (seqSlot? (.type "list") (dunderI "add") >>= _) _ _ s
  rw [seq_list_iadd]
  refine wpAny_bind (wpAny_pure ?_)
  refine wpAny_bind (wpAny_rule ?_)
  have hm : ∀ (f : Array Value → Array Value), Obj.mapSeq f (W.listOf its n) = W.listOf (f its) (if (f its).size == its.size then n else n + 1) := fun f => rfl
  have hs : its.size ≤ sizeLine := by rw [sizeLine_eq]; omega
  have hs2 : its.size + its2.size ≤ sizeLine + 1 := by rw [sizeLine_eq]; omega
  have hs3 : ¬ (!its.isEmpty && Builtin.List.listTooLong (its.size + its2.size)) = true := by
    have : Builtin.List.listTooLong (its.size + its2.size) = false := by unfold Builtin.List.listTooLong; exact decide_eq_false (by rw [sizeLine_eq]; omega)
    rw [this]; simp
  refine wpAny_mono (call_meets F.slot_list_iadd hl.typeIs F.entry_list_iadd (F.args_list_iadd_2 _ _) (AutoSeq1.list___iadd___list_list_0 a its n b its2 n2 hs3 hs hs2) ⟨ho, ho2, (?_ : (fun v s' => ∃ x st', VR v x ∧ Sat c φ st' s' ∧ Q x st') (Value.ref a) _)⟩) (fun _ _ x => x) (fun _ _ x => x)
  refine ⟨_, _, .ref a, S.set (tk := s.toks) (ao' := .list (vs ++ ws)) e1 (Heap.SameBut.update ..).extBut (Heap.get?_update_self _ ho (by rw [hm]; rfl)) ?_, q⟩
  rw [hm]
  exact ⟨_, _, rfl, by simpa using H.append H2⟩
/-! ### ranges -/
theorem ca_range1 {n : Int} (q : ∀ r, Q (.ref r) ⟨st.loc, (r, .range 0 n 1) :: st.hp⟩) : CAt c "range" [.int n] st Q := fun ws r => by
  cases r with
  | cons r h => cases h; cases r; exact TR.leaf fun φ s S => call_range_1 ⟨_, _, .ref _, (S.toks (s.toks + 1 + 1)).alloc (ao := .range 0 n 1) rfl ⟨_, _, _, rfl⟩, q _⟩
theorem ca_range2 {a b : Int} (q : ∀ r, Q (.ref r) ⟨st.loc, (r, .range a b 1) :: st.hp⟩) : CAt c "range" [.int a, .int b] st Q := fun ws r => by
  cases r with
  | cons r h => cases h with
    | cons r' h => cases h; cases r; cases r'; exact TR.leaf fun φ s S => call_range_2 ⟨_, _, .ref _, (S.toks (s.toks + 1)).alloc (ao := .range a b 1) rfl ⟨_, _, _, rfl⟩, q _⟩
theorem ca_range3 {a b d : Int} (hd : d ≠ 0) (hp : Builtin.divisionGoesByPylong (b - a) d = false) (q : ∀ r, Q (.ref r) ⟨st.loc, (r, .range a b d) :: st.hp⟩) : CAt c "range" [.int a, .int b, .int d] st Q := fun ws r => by
  cases r with
  | cons r h => cases h with
    | cons r' h => cases h with
      | cons r'' h => cases h; cases r; cases r'; cases r''; exact TR.leaf fun φ s S => call_range_3 hd ⟨_, _, .ref _, (S.toks s.toks).alloc (ao := .range a b d) rfl ⟨_, _, _, rfl⟩, q _⟩ (.inl hp)
noncomputable def rItems (a : Int) (n : Nat) (d : Int) : List V := (List.range n).map fun i : Nat => V.int (a + i * d)
theorem rItems_get {a : Int} {n : Nat} {d : Int} {i : Nat} {v : V} (h : (rItems a n d)[i]? = some v) : i < n ∧ v = .int (a + i * d) := by
  unfold rItems at h
  rw [List.getElem?_map] at h
  rcases Nat.lt_or_ge i n with hi | hi
  · rw [List.getElem?_range hi] at h; exact ⟨hi, (Option.some.inj h).symm⟩
  · rw [List.getElem?_eq_none (by simpa using hi)] at h; cases h
theorem rItems_length (a : Int) (n : Nat) (d : Int) : (rItems a n d).length = n := by simp [rItems]
theorem iter_range {c : Fc} (hA : c.A.handled = none) (it : Addr) (a d : Int) (n : Nat) : Iter c it (fun i => .riter (a + i * d) (n - i) d) (rItems a n d) (fun _ => True) where
  nxt := fun i v loc hp hv _ => TR.leaf fun φ s S => by
    obtain ⟨hi, rfl⟩ := rItems_get hv
    obtain ⟨o, ho, hor⟩ := S.at (a := it) (ao := .riter (a + i * d) (n - i) d) (.head _)
    have hor : o = _ := hor
    subst hor
    refine wpAny_pyNext_range_item ho (by omega) fun h' hi' hs => ⟨_, _, .some (.int _ _), S.set (pre := []) (post := hp) (tk := _) (ao' := .riter (a + (i + 1 : Nat) * d) (n - (i + 1 : Nat)) d) rfl hs.extBut hi' ?_, rfl, rfl⟩
    show _ = _
    have e1 : a + (i : Int) * d + d = a + ((i + 1 : Nat) : Int) * d := by rw [Int.natCast_succ, Int.add_mul]; omega
    have e2 : (n : Int) - i - 1 = n - ((i + 1 : Nat) : Int) := by omega
    rw [e1, e2]
  fin := fun loc hp _ => TR.leaf fun φ s S => by
    rw [rItems_length] at S
    obtain ⟨o, ho, hor⟩ := S.at (a := it) (ao := .riter (a + n * d) (n - n) d) (.head _)
    have hor : o = _ := hor
    subst hor
    exact wpAny_pyNext_range_end hA ho (by omega) fun h' hs => ⟨_, _, .none, (by
      obtain ⟨n1, H1, S'⟩ := Sat.inFrame (fr := [_]) S
      cases H1 with
      | cons r H1 =>
        cases H1
        rename_i p
        obtain ⟨a', o'⟩ := p
        obtain ⟨e, _⟩ := r
        have e : a' = it := e
        subst e
        exact Sat.dropFrame (tk := s.toks) S' S.frm hs), rfl, rfl⟩
  self := fun i loc hp _ => TR.leaf fun φ s S => by
    obtain ⟨o, ho, hor⟩ := S.at (a := it) (ao := .riter (a + i * d) (n - i) d) (.head _)
    have hor : o = _ := hor
    subst hor
    exact wpAny_pyIter_rangeiter ho ⟨_, _, .ref _, S, rfl, rfl⟩
theorem it_range {r : Addr} {a b d : Int} {n : Nat} {loc : Loc} {hp : Hp} {P : List V → (Hp → Prop) → St → Prop} (hs : Builtin.Range.small a b d = true) (hn : Builtin.Range.rangeSize a b d = n)
    (q : P (rItems a n d) (fun _ => True) ⟨loc, hp⟩) (hd : c.hd = false := by rfl) : ITER c (.ref r) ⟨loc, (r, .range a b d) :: hp⟩ P := fun val rv => by
  cases rv
  intro φ s S
  have hA := S.ok.hand hd
  refine lift ?_
  obtain ⟨o, ho, t, u, v, rfl⟩ := S.at (a := r) (ao := .range a b d) (.head _)
  refine wpAny_pyIter_range ho hs ⟨_, _, .ref _, ((S.drop (l := [_]) rfl).alloc (ao := .riter a n d) rfl (by rw [hn]; rfl)), ?_⟩
  refine ⟨s.heap.objs.size, _, _, _, ⟨loc, hp⟩, rfl, ?_, fun c' e => iter_range (by rw [e]; exact hA) s.heap.objs.size a d n, fun _ _ _ _ => trivial, q⟩
  simp
theorem small_of {a b d : Int} (ha : -2305843009213693952 ≤ a) (ha' : a ≤ 2305843009213693952) (hb : -2305843009213693952 ≤ b) (hb' : b ≤ 2305843009213693952) (hd : 0 < d) (hd' : d ≤ 2305843009213693952) : Builtin.Range.small a b d = true := by
  have hsz : 0 ≤ Builtin.Range.rangeSize a b d ∧ Builtin.Range.rangeSize a b d ≤ 9223372036854775807 := by
    unfold Builtin.Range.rangeSize
    rw [if_pos hd]
    split
    · have h1 : 0 ≤ (b - a - 1) / d := Int.ediv_nonneg (by omega) (by omega)
      have h2 : (b - a - 1) / d ≤ b - a - 1 := Int.ediv_le_self _ (by omega)
      omega
    · omega
  unfold Builtin.Range.small
  have f : ∀ x : Int, -9223372036854775808 ≤ x → x ≤ 9223372036854775807 → Builtin.Range.rangeFitsLong x = true := fun x h h' => by
    unfold Builtin.Range.rangeFitsLong
    simp only [Bool.and_eq_true, decide_eq_true_eq]
    exact ⟨by exact h, by show x < 9223372036854775808; omega⟩
  rw [f a (by omega) (by omega), f b (by omega) (by omega), f d (by omega) (by omega), f _ (by omega) hsz.2, if_pos hd, f (b + (d - 1)) (by omega) (by omega)]
  simp
theorem size_step1 {a b : Int} : Builtin.Range.rangeSize a b 1 = ((b - a).toNat : Int) := by
  unfold Builtin.Range.rangeSize
  rw [if_pos (by decide)]
  split
  · rw [Int.ediv_one]; omega
  · omega
end
end Mine

set_option maxRecDepth 100000
set_option Elab.async false
set_option linter.unusedVariables false
open PySem PySem.W PyProof.Rows PySem.Calls
namespace Mine

section
variable {c : Fc} {st : St} {Q : V → St → Prop}
/-! ### iteration over lists and bytes -/
theorem Sat.dropHead {c : Fc} {φ : List (Addr × Obj)} {loc : Loc} {it : Addr} {ao : AObj} {hp : Hp} {s : Shared} (S : Sat c φ ⟨loc, (it, ao) :: hp⟩ s) {h' : Heap} {tk : Tok} (hs : Heap.ExtBut it s.heap h') : Sat c φ ⟨loc, hp⟩ { s with heap := h', toks := tk } := by
  obtain ⟨n1, H1, S'⟩ := Sat.inFrame (fr := [_]) S
  cases H1 with
  | cons r H1 =>
    cases H1
    rename_i p
    obtain ⟨a', o'⟩ := p
    obtain ⟨e, _⟩ := r
    have e : a' = it := e
    subst e
    exact Sat.dropFrame (tk := tk) S' S.frm hs
theorem iter_list {c : Fc} (hA : c.A.handled = none) (it l : Addr) (vs : List V) : Iter c it (fun i => .liter l i) vs (fun hp => RL hp l vs) where
  nxt := fun i v loc hp hv hsrc => TR.leaf fun φ s S => by
    obtain ⟨o, ho, hor⟩ := S.at (a := it) (ao := .liter l i) (.head _)
    obtain ⟨its, n, hl, H, hL⟩ := S.listR (RL.there hsrc)
    obtain ⟨x, hx, r⟩ := H.get hv
    refine wpAny_pyNext_list_item (x := x) ⟨o, ho, hor⟩ hL (by simpa using hx) fun h' hi' hs => ?_
    obtain ⟨o', ho', hor'⟩ := hi'
    exact ⟨_, _, .some r, S.set (pre := []) (post := hp) (tk := s.toks) (ao' := .liter l (i + 1)) rfl hs.extBut ho' hor', rfl, rfl⟩
  fin := fun loc hp hsrc => TR.leaf fun φ s S => by
    obtain ⟨o, ho, hor⟩ := S.at (a := it) (ao := .liter l vs.length) (.head _)
    obtain ⟨its, n, hl, H, hL⟩ := S.listR (RL.there hsrc)
    have e := H.length
    simp at e
    exact wpAny_pyNext_list_end hA ⟨o, ho, hor⟩ hL (by rw [Array.getElem?_eq_none]; omega) fun h' hs => ⟨_, _, .none, S.dropHead (tk := s.toks) hs, rfl, rfl⟩
  self := fun i loc hp hsrc => TR.leaf fun φ s S => by
    obtain ⟨o, ho, hor⟩ := S.at (a := it) (ao := .liter l i) (.head _)
    exact wpAny_pyIter_listiter ⟨o, ho, hor⟩ ⟨_, _, .ref _, S, rfl, rfl⟩
theorem it_list {l : Addr} {vs : List V} {P : List V → (Hp → Prop) → St → Prop} (hm : RL st.hp l vs) (q : P vs (fun hp => RL hp l vs) st) (hd : c.hd = false := by rfl) : ITER c (.ref l) st P := fun val rv => by
  cases rv
  intro φ s S
  have hA := S.ok.hand hd
  refine lift ?_
  obtain ⟨its, n, hl, H, hL⟩ := S.listR hm
  exact wpAny_pyIter_list hL ⟨_, _, .ref _, S.alloc (ao := .liter l 0) rfl ⟨rfl, rfl⟩, ⟨s.heap.objs.size, _, _, _, st, rfl, rfl, fun c' e => iter_list (by rw [e]; exact hA) s.heap.objs.size l vs, fun _ _ k r => r.sub k, q⟩⟩
theorem iter_bytes {c : Fc} (hA : c.A.handled = none) (it : Addr) (l : List Nat) : Iter c it (fun i => .biter l i) (l.map fun n : Nat => V.int n) (fun _ => True) where
  nxt := fun i v loc hp hv _ => TR.leaf fun φ s S => by
    obtain ⟨o, ho, b, t, hc, hd, rfl⟩ := S.at (a := it) (ao := .biter l i) (.head _)
    rw [List.getElem?_map] at hv
    obtain ⟨n, hn, rfl⟩ := Option.map_eq_some_iff.mp hv
    unfold bnat at hn
    rw [List.getElem?_map] at hn
    obtain ⟨u, hu, rfl⟩ := Option.map_eq_some_iff.mp hn
    refine KBw.next_item (c := u) ⟨o, ho, hc, hd⟩ (by simpa using hu) fun h' hi' hs => ?_
    obtain ⟨o', ho', hc', hd'⟩ := hi'
    exact ⟨_, _, .some (.int _ _), S.set (pre := []) (post := hp) (tk := s.toks + 1) (ao' := .biter (bnat b) (i + 1)) rfl hs.extBut ho' ⟨b, t, hc', hd', rfl⟩, rfl, rfl⟩
  fin := fun loc hp _ => TR.leaf fun φ s S => by
    rw [List.length_map] at S
    obtain ⟨o, ho, b, t, hc, hd, e⟩ := S.at (a := it) (ao := .biter l l.length) (.head _)
    have e' : l.length = b.size := by rw [e]; simp [bnat]
    exact KBw.next_end hA ⟨o, ho, hc, hd⟩ (by rw [Array.getElem?_eq_none]; omega) fun h' hs => ⟨_, _, .none, S.dropHead (tk := s.toks) hs, rfl, rfl⟩
  self := fun i loc hp _ => TR.leaf fun φ s S => by
    obtain ⟨o, ho, b, t, hc, hd, e⟩ := S.at (a := it) (ao := .biter l i) (.head _)
    exact KBw.pyIter_self ⟨o, ho, hc, hd⟩ ⟨_, _, .ref _, S, rfl, rfl⟩
theorem it_bytes {l : List Nat} {P : List V → (Hp → Prop) → St → Prop} (q : P (l.map fun n : Nat => V.int n) (fun _ => True) st) (hd : c.hd = false := by rfl) : ITER c (.bytes l) st P := fun val rv => by
  cases rv
  rename_i b t
  intro φ s S
  have hA := S.ok.hand hd
  refine lift ?_
  exact KBw.pyIter_bytes ⟨_, _, .ref _, S.alloc (ao := .biter (bnat b) 0) rfl ⟨b, t, rfl, rfl, rfl⟩, ⟨s.heap.objs.size, _, _, _, st, rfl, rfl, fun c' e => iter_bytes (by rw [e]; exact hA) s.heap.objs.size (bnat b), fun _ _ _ _ => trivial, q⟩⟩
/-! ### calls of built-ins -/
theorem bnat_byteArr {ns : List Int} (h : ∀ n ∈ ns, 0 ≤ n ∧ n < 256) : bnat (byteArr ns) = ns.map Int.toNat := by
  unfold bnat byteArr
  rw [List.map_map]
  refine List.map_congr_left fun n hn => ?_
  have := h n hn
  show n.toNat.toUInt8.toNat = n.toNat
  rw [Nat.toUInt8, UInt8.toNat_ofNat']
  omega
theorem ca_bytesL {a : Addr} {ns : List Int} (hm : RL st.hp a (ns.map V.int)) (hin : ∀ n ∈ ns, 0 ≤ n ∧ n < 256) (hz : ns.length ≤ 16777216) (q : Q (.bytes (ns.map Int.toNat)) st) (hd : c.hd = false := by rfl) : CAt c "bytes" [.ref a] st Q := fun ws r => by
  cases r with
  | cons r h =>
    cases h; cases r
    refine TR.leaf fun φ s S => ?_
    obtain ⟨its, n, hl, H, hL⟩ := S.listR hm
    obtain ⟨m, news, F, N, _, mk⟩ := S.lib
    refine KBa.make_K F N (S.ok.hand hd) (vs := its.toList) (by simpa using hL) (intsAre H) hin hz fun h' t' k F' N' _ => ⟨.bytes (ns.map Int.toNat), _, ?_, mk h' k F' N', q⟩
    rw [← bnat_byteArr hin]; exact .bytes _ _
theorem ca_listL {a : Addr} {vs : List V} (hm : RL st.hp a vs) (hz : vs.length ≤ 16777216) (q : ∀ D, Q (.ref D) ⟨st.loc, (D, .list vs) :: st.hp⟩) : CAt c "list" [.ref a] st Q := fun ws r => by
  cases r with
  | cons r h =>
    cases h; cases r
    refine TR.leaf fun φ s S => ?_
    obtain ⟨its, n, hl, H, hL⟩ := S.listR hm
    obtain ⟨m, news, F, N, mk, _⟩ := S.lib
    have e := H.length
    simp at e
    exact list_copyK F N hL (fun D k h' F' N' hD => ⟨_, _, .ref _, mk h' s.toks D _ (.list vs) (.inr hD) F' N' ⟨_, _, rfl, H⟩, q D⟩) (by rw [sizeLine_eq]; omega)
theorem ca_isBytes {l : List Nat} (q : Q (.bool true) st) : CAn c "isinstance" [.bytes l, .type "bytes"] st Q := fun ws r => by
  cases r with
  | cons r h => cases h with
    | cons r' h => cases h; cases r; cases r'; exact TR.leaf fun φ s S => call_isinstance (isinstance_true (Tx := "bytes") F.isi_meta_bytes PySem.F.sub_bytes_bytes) ⟨rfl, ⟨_, _, .bool _, S, q⟩⟩
/-! ### equality -/
mutual
inductive RD (hp : Hp) : V → PyData → Prop
  | int (i : Int) : RD hp (.int i) (.int i)
  | list {a : Addr} {vs : List V} {ds : List PyData} : RL hp a vs → RDs hp vs ds → RD hp (.ref a) (.list ds)
inductive RDs (hp : Hp) : List V → List PyData → Prop
  | nil : RDs hp [] []
  | cons {v : V} {d : PyData} {vs : List V} {ds : List PyData} : RD hp v d → RDs hp vs ds → RDs hp (v :: vs) (d :: ds)
end
mutual
theorem RD.reads {c : Fc} {φ : List (Addr × Obj)} {st : St} {s : Shared} (S : Sat c φ st s) : ∀ {v : V} {d : PyData}, RD st.hp v d → ∀ {val : Value}, VR val v → ∃ as, Reads s.heap val d as
  | _, _, .int i, _, r => by cases r; exact ⟨_, .int _ _⟩
  | _, _, .list (a := a) (vs := vs) hm hs, _, r => by
    cases r
    obtain ⟨its, n, hl, H, hL⟩ := S.listR hm
    obtain ⟨as, ha⟩ := RDs.reads S hs H
    exact ⟨_, .list hl rfl rfl ha⟩
theorem RDs.reads {c : Fc} {φ : List (Addr × Obj)} {st : St} {s : Shared} (S : Sat c φ st s) : ∀ {vs : List V} {ds : List PyData}, RDs st.hp vs ds → ∀ {vals : List Value}, All2 VR vals vs → ∃ as, ReadsAll s.heap vals ds as
  | _, _, .nil, _, r => by cases r; exact ⟨_, .nil⟩
  | _, _, .cons h hs, _, r => by
    cases r with
    | cons r rs =>
      obtain ⟨as, ha⟩ := RD.reads S h r
      obtain ⟨bs, hb⟩ := RDs.reads S hs rs
      exact ⟨_, .cons ha hb⟩
end
mutual
theorem RD.lay {hp : Hp} : ∀ {v : V} {d : PyData}, RD hp v d → d.canLay0 = true
  | _, _, .int i => by simp [PyData.canLay0]
  | _, _, .list _ hs => by simp [PyData.canLay0, RDs.lay hs]
theorem RDs.lay {hp : Hp} : ∀ {vs : List V} {ds : List PyData}, RDs hp vs ds → PyData.canLayAll0 ds = true
  | _, _, .nil => by simp [PyData.canLayAll0]
  | _, _, .cons h hs => by simp [PyData.canLayAll0, RD.lay h, RDs.lay hs]
end
theorem RDs.ints {hp : Hp} : ∀ ns : List Int, RDs hp (ns.map V.int) (ns.map PyData.int)
  | [] => .nil
  | n :: r => .cons (.int n) (RDs.ints r)
theorem RD.ints {hp : Hp} {a : Addr} {ns : List Int} (h : RL hp a (ns.map V.int)) : RD hp (.ref a) (.list (ns.map PyData.int)) := .list h (RDs.ints ns)
theorem co_eqD {x y : V} {d e : PyData} (hx : RD st.hp x d) (hy : RD st.hp y e) (h1 : d.depth ≤ 64) (h2 : e.depth ≤ 64) (q : Q (.bool (PyData.eqv d e)) st) : CO c .Eq x y st Q := fun v v' r r' => TR.leaf fun φ s S => by
  obtain ⟨as, ha⟩ := hx.reads S r
  obtain ⟨bs, hb⟩ := hy.reads S r'
  have := S.ok.units
  exact eq_dataH ha hb (by simp [SeqAt.shaped, hx.lay, h1]) (by simp [SeqAt.shaped, hy.lay, h2]) (by show c.A.units + 64 < 9900; omega) ⟨_, _, .bool _, S, q⟩
theorem co_neD {x y : V} {d e : PyData} (hx : RD st.hp x d) (hy : RD st.hp y e) (h1 : d.depth ≤ 64) (h2 : e.depth ≤ 64) (q : Q (.bool !(PyData.eqv d e)) st) : CO c .NotEq x y st Q := fun v v' r r' => TR.leaf fun φ s S => by
  obtain ⟨as, ha⟩ := hx.reads S r
  obtain ⟨bs, hb⟩ := hy.reads S r'
  have := S.ok.units
  exact ne_dataH ha hb (by simp [SeqAt.shaped, hx.lay, h1]) (by simp [SeqAt.shaped, hy.lay, h2]) (by show c.A.units + 64 < 9900; omega) ⟨_, _, .bool _, S, q⟩
theorem eqvAll_map {α : Type} [DecidableEq α] (f : α → PyData) (hf : ∀ a b, PyData.eqv (f a) (f b) = decide (a = b)) : ∀ l m : List α, PyData.eqvAll (l.map f) (m.map f) = decide (l = m)
  | [], [] => by simp [PyData.eqvAll]
  | [], _ :: _ => by simp [PyData.eqvAll]
  | _ :: _, [] => by simp [PyData.eqvAll]
  | a :: r, b :: t => by
    simp only [List.map_cons, PyData.eqvAll, hf, eqvAll_map f hf r t]
    by_cases h : a = b <;> by_cases h' : r = t <;> simp [h, h']
noncomputable abbrev dInts (ns : List Int) : PyData := .list (ns.map PyData.int)
noncomputable abbrev dRows (r : List (List Int)) : PyData := .list (r.map dInts)
theorem eqv_int (a b : Int) : PyData.eqv (.int a) (.int b) = decide (a = b) := by simp [PyData.eqv]; rfl
theorem eqv_ints (a b : List Int) : PyData.eqv (dInts a) (dInts b) = decide (a = b) := by rw [PyData.eqv, eqvAll_map _ eqv_int]
theorem eqv_rows (a b : List (List Int)) : PyData.eqv (dRows a) (dRows b) = decide (a = b) := by rw [PyData.eqv, eqvAll_map _ eqv_ints]
theorem depthAll_map {α : Type} (f : α → PyData) (k : Nat) (hf : ∀ a, (f a).depth ≤ k) : ∀ l : List α, PyData.depthAll (l.map f) ≤ k
  | [] => by simp [PyData.depthAll]
  | a :: r => by simp only [List.map_cons, PyData.depthAll]; have := hf a; have := depthAll_map f k hf r; omega
theorem depth_ints (a : List Int) : (dInts a).depth ≤ 1 := by
  rw [PyData.depth]; have := depthAll_map PyData.int 0 (fun a => by simp [PyData.depth]) a; omega
theorem depth_rows (a : List (List Int)) : (dRows a).depth ≤ 2 := by
  rw [PyData.depth]; have := depthAll_map dInts 1 depth_ints a; omega
theorem co_eqInts {a b : Addr} {ns ms : List Int} (ha : RL st.hp a (ns.map V.int)) (hb : RL st.hp b (ms.map V.int)) (q : Q (.bool (decide (ns = ms))) st) : CO c .Eq (.ref a) (.ref b) st Q :=
  co_eqD (.ints ha) (.ints hb) (Nat.le_trans (depth_ints _) (by decide)) (Nat.le_trans (depth_ints _) (by decide)) (by rw [eqv_ints]; exact q)
theorem co_neInts {a b : Addr} {ns ms : List Int} (ha : RL st.hp a (ns.map V.int)) (hb : RL st.hp b (ms.map V.int)) (q : Q (.bool !(decide (ns = ms))) st) : CO c .NotEq (.ref a) (.ref b) st Q :=
  co_neD (.ints ha) (.ints hb) (Nat.le_trans (depth_ints _) (by decide)) (Nat.le_trans (depth_ints _) (by decide)) (by rw [eqv_ints]; exact q)
end
end Mine

set_option maxRecDepth 100000
set_option Elab.async false
set_option linter.unusedVariables false
open PySem PySem.W PyProof.Rows PySem.Calls
namespace Mine

namespace FA
theorem mro_ba : mroOf (.type "bytearray") = pure [.type "bytearray", .type "object"] := by rw [mroOf_type]; kernel_rfl
theorem look_new : typeLookup (.type "bytearray") "__new__" = pure (some (.builtin "bytearray.__new__")) := by rw [typeLookup_type, builtinLookup_eq_fast]; kernel_rfl
theorem slot_init : Slot "bytearray" "__init__" "bytearray.__init__" :=
  .of (owner := "bytearray") (n := "__init__") (by rw [typeLookup_type, builtinLookup_eq_fast]; kernel_rfl) (by decide +kernel) (by decide +kernel) (by decide +kernel)
    (by first | exact .inl (by decide +kernel) | exact .inr (by decide +kernel)) (by rw [isSubtype_type]; kernel_rfl)
theorem called : TypeCalled "bytearray" "bytearray.__new__" "bytearray.__init__" :=
  ⟨by decide +kernel, by decide +kernel, ⟨_, _, mro_ba⟩, madeBy_type mro_ba look_new (by decide +kernel), by decide +kernel, by rw [isSubtype_type]; kernel_rfl, slot_init⟩
theorem typeCall_1 (a : Value) : checkTypeCall "bytearray" ⟨[a], []⟩ = pure () := by kernel_rfl
theorem newCall_1 (a : Value) : checkBuiltinCall "bytearray.__new__" ⟨[.type "bytearray", a], []⟩ = pure () := by kernel_rfl
theorem entry_new : entryFor table "bytearray.__new__" = some Builtin.«list.__new__» :=
  entryFor_alias (id' := "list.__new__") (by kernel_rfl) (by first | rfl | decide +kernel) (by decide +kernel) (by kernel_rfl)
theorem plain_new : plainId "bytearray.__new__" = true := by decide +kernel
theorem owner_ba : Manifest.owners.lookup (String.ofList ['y', 'a', 'r', 'r', 'a', 'e', 't', 'y', 'b'].reverse) = some Manifest.sig_bytearray := by kernel_rfl
theorem entry_init : entryFor table "bytearray.__init__" = some Builtin.«bytearray.__init__» := entryFor_of_tree (by kernel_rfl)
theorem args_init_2 (a b : Value) : argsOk "bytearray.__init__" ⟨[a, b], []⟩ := by
  unfold argsOk; rw [signature?_of (id := "bytearray.__init__") (n := ['_', '_', 't', 'i', 'n', 'i', '_', '_']) (o := ['y', 'a', 'r', 'r', 'a', 'e', 't', 'y', 'b']) (by kernel_rfl) owner_ba]; kernel_rfl
theorem sub_self : isSubtype (.type "bytearray") (.type "bytearray") = pure true := by rw [isSubtype_type]; kernel_rfl
end FA
set_option maxRecDepth 1000000 in
set_option maxHeartbeats 4000000 in
theorem owner_ba_new : ("bytearray.__new__".splitOn ".__new__").headD "" = "bytearray" := by simp +decide [String.splitOn, String.splitOnAux]

section
variable {prog : Program} {w : World} {A : Around} {E : Value → Shared → Prop} {s : Shared}
theorem code_ba_new (a : Value) {Q₁ : Value → Shared → Prop}
    (h : Q₁ (.ref s.heap.objs.size) { s with heap := s.heap.push { cls := .type "bytearray", data := .bytearray #[] } }) :
    codeAny (model prog w) A (.call (.builtin "bytearray.__new__") ⟨[.type "bytearray", a], []⟩) (wants Q₁ E) s := by
  refine codeAny_of_tree ?_
  show wpAny _ A.in1 (do checkBuiltinCall "bytearray.__new__" ⟨[.type "bytearray", a], []⟩; again (.builtin "bytearray.__new__" ⟨[.type "bytearray", a], []⟩)) _ _ s
  refine wpAny_bind (wpAny_of_eq (FA.newCall_1 a) (wpAny_pure ⟨plainId_quiet FA.plain_new _, codeAny_builtin_stack FA.entry_new rfl fun p st => ?_⟩))
  rw [Around.under_plainId FA.plain_new _]
  have hsub := FA.sub_self
  have hown := owner_ba_new
  obtain ⟨hp, g, d, tk, os⟩ := s
  simp only [hown]
  wp_walk
  exact h
end

section
variable {prog : Program} {w : World} {A : Around} {E : Value → Shared → Prop} {s : Shared} {R : Result → Shared → Prop}
theorem codeN_builtin {id : String} {args : Args} {b : Builtin} (hb : entryFor table id = some b)
    (h : wpN (model prog w) (A.under (.builtin id args)) (b args)
      (fun fin s' => match fin with | .done f => R (.ok f) s' | .again c' => (c'.quiet = true ∧ held c' = false) ∧ codeN (model prog w) A c' R s') (fun e s' => R (.error e) s') s) :
    codeN (model prog w) A (.builtin id args) R s := by
  refine codeN_of_tree ?_
  show wpN _ _ (match entryFor table id with | some b => b args | none => unsupported ((withoutEnding? id "#data").getD id)) _ _ s
  rw [hb]; exact h
theorem dite_no {c : Prop} {i : Decidable c} {t : c → Bool} {e : ¬c → Bool} (hc : ¬c) (h : e hc = false) : dite c t e = false := by rw [dif_neg hc]; exact h
theorem wpN_exported {v : Value} {Q : Bool → Shared → Prop} (h : Q false s) : wpN (model prog w) A (Builtin.Bytes.exported v) Q E s := fun Γ p hΓ hN => by
  show Q (((Γ.code, p) :: Γ.below).any _) s
  have key : ∀ f : Code × Pos → Bool, (∀ x, held x.1 = false → f x = false) → ((Γ.code, p) :: Γ.below).any f = false := fun f hf => by
    rw [List.any_eq_false]
    intro x hx
    rw [hf x ?_]
    · decide
    · rcases List.mem_cons.mp hx with rfl | hx
      · exact hN.1
      · exact hN.2 x hx
  rw [key]
  · exact h
  · clear key h hΓ hN
    intro x hx
    obtain ⟨cd, p'⟩ := x
    delta Builtin.Bytes.exported.match_1
    dsimp only at hx ⊢
    cases cd with
    | builtin id args =>
      obtain ⟨pos, kw⟩ := args
      have hx : heldIds.contains id = false := hx
      have hne : ∀ k ∈ heldIds, id ≠ k := fun k hk e => by
        rw [e] at hx
        rw [List.contains_iff_mem.mpr hk] at hx
        cases hx
      have hdec : Builtin.Bytes.decodersThatHold.contains id = false := by
        cases hc : Builtin.Bytes.decodersThatHold.contains id with
        | false => rfl
        | true => exact absurd rfl (hne id (List.mem_append_left _ (List.contains_iff_mem.mp hc)))
      have c1 := hne "bytearray.__contains__" (by decide)
      have c2 := hne "bytearray.__mod__" (by decide)
      have c3 := hne "bytearray.__rmod__" (by decide)
      have c4 := hne "_struct.pack_into.held" (by decide)
      have c5 := hne "bytearray.find.held" (by decide)
      cases pos with
      | nil =>
        refine dite_no c1 ?_; refine dite_no c2 ?_; refine dite_no c3 ?_; refine dite_no c4 ?_; exact dite_no c5 rfl
      | cons y tail =>
        refine dite_no c1 ?_; refine dite_no c2 ?_; refine dite_no c3 ?_; refine dite_no c4 ?_; refine dite_no c5 ?_
        show (_ && Builtin.Bytes.decodersThatHold.contains id) = false; rw [hdec]; exact Bool.and_false _
    | _ => rfl
theorem wpN_else {α : Type} {M : Model} {c : Prop} {i : Decidable c} {a b : Sem α} {Q : α → Shared → Prop} (hc : ¬ c) (h : wpN M A b Q E s) : wpN M A (if c then a else b) Q E s := by rw [if_neg hc]; exact h
theorem wpN_of_eq {α : Type} {M : Model} {t u : Sem α} {Q : α → Shared → Prop} (e : t = u) (h : wpN M A u Q E s) : wpN M A t Q E s := e ▸ h
theorem callTypeN {T newId initId : String} {Bi : Builtin} {args : List Value} {Q Q₁ : Value → Shared → Prop} (ft : TypeCalled T newId initId)
    (hct : checkTypeCall T ⟨args, []⟩ = pure ()) (entryI : entryFor table initId = some Bi) (hkN : held (.builtin newId ⟨.type T :: args, []⟩) = false) (hkI : ∀ a, held (.builtin initId a) = false) (hpI : plainId initId = true)
    (hnew : codeAny (model prog w) A.in1 (.call (.builtin newId) ⟨.type T :: args, []⟩) (wants Q₁ E) s)
    (hnext : ∀ obj s₁, Q₁ obj s₁ → s₁.TypeIs obj T ∧ argsOk initId ⟨obj :: args, []⟩ ∧
      wpN (model prog w) A.in1.in1 (Bi ⟨obj :: args, []⟩)
        (fun fin s' => match fin with | .done f => wants (fun r s₂ => r = .none ∧ Q obj s₂) E (.ok f) s' | .again c' => (c'.quiet = true ∧ held c' = false) ∧ codeN (model prog w) A.in1 c' (wants (fun r s₂ => r = .none ∧ Q obj s₂) E) s')
        (fun e s' => wants (fun r s₂ => r = .none ∧ Q obj s₂) E (.error e) s') s₁) :
    wpN (model prog w) A (call (.type T) args) Q E s := by
  obtain ⟨c, tl, hmro⟩ := ft.mro
  have hmade := ft.made
  have hsub := ft.sub
  have h1 := ft.notType
  have h2 := ft.canCreate
  refine wpN_call (codeN_of_tree ?_)
  show wpN _ A.in1 (callAny (.type T) ⟨args, []⟩) _ _ s
  refine wpN_pure ⟨⟨Code.quiet_builtin _ (by decide +kernel), (by decide +kernel : heldIds.contains "type.__call__" = false)⟩, codeN_builtin F.entry_type_call ?_⟩
  rw [Around.under_plain (weight_type_call_type T args []) rfl]
  refine wpN_else (c := (Value.type T == Value.type "type") = true) (by rw [h1]; exact Bool.false_ne_true) ?_
  refine wpN_else (by rw [h2]; exact Bool.false_ne_true) ?_
  refine wpN_bind (m := checkTypeCall T ⟨args, []⟩) (wpN_of_eq hct (wpN_pure ?_))
  refine wpN_bind (m := mroOf (.type T)) (wpN_of_eq hmro (wpN_pure ?_))
  refine wpN_bind (m := Bind.madeBy (.type T)) (wpN_of_eq hmade (wpN_pure ?_))
  refine wpN_bind (m := pure (Value.builtin newId)) (wpN_pure ?_)
  refine wpN_bind (m := holding [Value.builtin newId] (call (.builtin newId) (.type T :: args) [])) (wpN_holding (wpN_call (codeLift (codeAny_mono (A := A.in1) hnew fun r s₁ hr => ?_))))
  cases r with
  | error e => exact hr
  | ok fl =>
    cases fl with
    | ret obj =>
      have hr : Q₁ obj s₁ := hr
      obtain ⟨hT, hok, hsi⟩ := hnext obj s₁ hr
      refine wpN_bind (lift (wpAny_isInstance hT hsub ?_))
      refine wpN_bind (wpN_holding ?_)
      refine wpN_bind (m := specialOf obj "__init__") (lift (wpAny_specialOf hT ft.init.lookup ?_))
      simp only [ft.init.bind]
      refine wpN_holding (wpN_bind (wpN_pure (wpN_bind (wpN_call (codeN_of_tree ?_)))))
      show wpN _ A.in1.in1 (do checkBuiltinCall initId ⟨obj :: args, []⟩; again (.builtin initId ⟨obj :: args, []⟩)) _ _ s₁
      refine wpN_bind (lift (ft.init.check _ _ _ _ _ _ _ _ hT hok ?_))
      refine wpN_pure ⟨⟨plainId_quiet hpI _, hkI _⟩, codeN_builtin entryI ?_⟩
      rw [Around.under_plainId hpI _]
      have fin : ∀ r s', wants (fun r s₂ => r = Value.none ∧ Q obj s₂) E r s' → (match r with
          | .ok (.ret v) => wpN (model prog w) A.in1 (PySem.Sem.pure (some v)) (fun __do_lift s' => wpN (model prog w) A.in1 (match __do_lift with
              | none => ret obj
              | some r => if (r != Value.none) = true then do
                  rule "type.call.init-returned-value"
                  let __do_lift ← PySem.typeNameOf r
                  raiseErrorMade "TypeError" (toString "__init__() should return None, not '" ++ toString __do_lift ++ toString "'")
                  ret obj
                else ret obj)
            (fun fin s' => match fin with
              | .done f => (match (Except.ok f : Result) with | .ok (.ret v) => Q v s' | .ok _ => False | .error e => E e s')
              | .again c' => (c'.quiet = true ∧ held c' = false) ∧ codeN (model prog w) A c' (fun r s' => match r with | .ok (.ret v) => Q v s' | .ok _ => False | .error e => E e s') s')
            (fun e s' => E e s') s') (fun e s' => E e s') s'
          | .ok _ => False
          | .error e => E e s') := by
        intro r s' h
        cases r with
        | error e => exact h
        | ok fl => cases fl with
          | ret v => obtain ⟨rfl, hq⟩ := h; exact wpN_pure (wpN_pure hq)
          | _ => exact h
      refine wpN_mono hsi (fun f s' h => ?_) fun e s' h => fin (.error e) s' h
      cases f with
      | done f => exact fin (.ok f) s' h
      | again c' => exact ⟨h.1, codeN_mono h.2 fin⟩
    | _ => exact hr
end

theorem typeIs_ba {s : Shared} {a : Addr} {b : Array UInt8} {n : Nat} (h : s.heap.get? a = some { cls := .type "bytearray", data := .bytearray b n }) : s.TypeIs (.ref a) "bytearray" := ⟨_, h, rfl⟩
section
variable {prog : Program} {w : World} {A : Around} {E : Value → Shared → Prop} {s : Shared} {R : Result → Shared → Prop}
theorem upd_ba {a : Addr} {b : Array UInt8} {n : Nat} {f : Array UInt8 → Array UInt8} {Q : Unit → Shared → Prop} (ho : s.heap.get? a = some { cls := .type "bytearray", data := .bytearray b n }) (hz : (f b).size ≤ sizeLine)
    (h : Q () { s with heap := s.heap.update a (Obj.mapBytearray f) }) : wpAny (model prog w) A (updateBytearray a f) Q E s := by
  unfold updateBytearray
  refine wpAny_bind (wpAny_load ho ?_)
  dsimp only
  refine wpAny_bind (wpAny_update ho ?_)
  refine wpAny_lookBehind (o := { cls := .type "bytearray", data := .bytearray (f b) n }) (Heap.get?_update_self _ ho rfl) ?_ h
  show Data.pastItsLine (.bytearray (f b) n) = none
  unfold Data.pastItsLine
  simp only
  rw [if_neg (by omega)]
theorem look_rel : typeLookup (.type "bytearray") (Str.ofString "__release_buffer__") = pure (some (.builtin "bytearray.__release_buffer__")) := by rw [typeLookup_type, builtinLookup_eq_fast]; kernel_rfl
theorem rel_ends : "bytearray.__release_buffer__".endsWith ("." ++ "__release_buffer__") = true := by decide +kernel
theorem rel_owner : "bytearray.__release_buffer__".dropRight ("__release_buffer__".length + 1) = "bytearray" := by decide +kernel
theorem own_rel {D : Addr} {Q : Bool → Shared → Prop} (hT : s.TypeIs (.ref D) "bytearray") (h : Q false s) : wpAny (model prog w) A (Builtin.Bytes.ownRelease (.ref D)) Q E s := by
  unfold Builtin.Bytes.ownRelease Builtin.Bytes.slotIsOwn
  refine wpAny_bind (wpAny_bind (wpAny_specialOf hT look_rel ?_))
  simp only [rel_ends, Bool.not_true, Bool.false_eq_true, if_false, rel_owner]
  exact wpAny_isInstance hT FA.sub_self (wpAny_pure h)
theorem bindOpt (v : Value) : Builtin.Bytes.bindOptional "bytearray.__init__" "bytearray" ["source", "encoding", "errors"] [v] [] = pure [some v, none, none] := by
  unfold Builtin.Bytes.bindOptional
  rfl
theorem bindOpt_wp (v : Value) {Q : List (Option Value) → Shared → Prop} (h : Q [some v, none, none] s) : wpN (model prog w) A (Builtin.Bytes.bindOptional "bytearray.__init__" "bytearray" ["source", "encoding", "errors"] [v] []) Q E s := by
  rw [bindOpt]; exact wpN_pure h
theorem wpAny_else {α : Type} {M : Model} {c : Prop} {i : Decidable c} {a b : Sem α} {Q : α → Shared → Prop} (hc : ¬ c) (h : wpAny M A b Q E s) : wpAny M A (if c then a else b) Q E s := by rw [if_neg hc]; exact h
theorem init_count {D : Addr} {n : Int} {t : Tok} {P : PySem.Fin → Shared → Prop} (hD : s.heap.get? D = some { cls := .type "bytearray", data := .bytearray #[] }) (h0 : 0 ≤ n) (h1 : n ≤ 16777216)
    (h : ∀ h', Heap.SameBut D s.heap h' → h'.get? D = some { cls := .type "bytearray", data := .bytearray (Array.replicate n.toNat 0) } → P (.done (.ret .none)) { s with heap := h' }) :
    wpN (model prog w) A (Builtin.«bytearray.__init__» ⟨[.ref D, .int n t], []⟩) P E s := by
  have hT := typeIs_ba hD
  have f1 := AutoSeq1.idx_int
  have g1 : Builtin.Bytes.fitsIndex n = true := by
    unfold Builtin.Bytes.fitsIndex
    rw [Bool.and_eq_true]
    exact ⟨decide_eq_true (by show (-9223372036854775808 : Int) ≤ n; omega), decide_eq_true (by show n < (9223372036854775808 : Int); omega)⟩
  have g3 : (n == 2 ^ 63 - 1) = false := by
    rw [beq_eq_false_iff_ne]
    show n ≠ (9223372036854775807 : Int)
    omega
  have g4 : Builtin.Bytes.tooLong n.toNat = false := by
    unfold Builtin.Bytes.tooLong
    exact decide_eq_false (by rw [sizeLine_eq]; omega)
  have hD2 : (s.heap.update D (Obj.mapBytearray fun _ => #[])).get? D = some { cls := .type "bytearray", data := .bytearray #[] } := Heap.get?_update_self _ hD rfl
  have hs1 : Heap.SameBut D s.heap (s.heap.update D (Obj.mapBytearray fun _ => #[])) := Heap.SameBut.update ..
  refine wpN_bind (m := Builtin.Bytes.ownRelease (.ref D)) (lift (own_rel hT ?_))
  refine wpN_bind (m := Builtin.Bytes.bindOptional "bytearray.__init__" "bytearray" ["source", "encoding", "errors"] [.int n t] []) (bindOpt_wp _ ?_)
  refine wpN_bind (m := (pure () : Sem Unit)) (wpN_pure ?_)
  refine wpN_bind (m := (pure () : Sem Unit)) (wpN_pure ?_)
  refine wpN_bind (m := Builtin.Bytes.exported (.ref D) <||> (do let k ← Builtin.Bytes.exportsOf (.ref D); pure (decide (k > 0)))) (wpN_bind (m := Builtin.Bytes.exported (.ref D)) (wpN_exported (wpN_bind (wpN_bind (lift (wpAny_load hD (wpN_pure (wpN_pure ?_))))))))
  refine lift (wpAny_bind (m := updateBytearray D fun _ => #[]) (upd_ba hD (by simp [sizeLine_eq]) ?_))
  refine wpAny_bind (m := (pure none : Sem (Option Str))) (wpAny_pure ?_)
  refine wpAny_bind (m := (pure () : Sem Unit)) (wpAny_pure ?_)
  refine wpAny_bind (m := specialOf (.int n t) "__index__") (wpAny_specialOf (typeIs_int _ n t) f1 ?_)
  refine wpAny_bind (m := (pure (.ok n) : Sem (Except Value Int))) (wpAny_pure ?_)
  refine wpAny_else (by rw [g1]; decide) (wpAny_else (by omega) (wpAny_else (by rw [g3]; decide) (wpAny_else (by rw [g4]; decide) ?_)))
  refine wpAny_bind (wpAny_rule ?_)
  show wpAny _ _ (if n > 0 then _ else _) _ _ _
  split
  · refine wpAny_bind (m := updateBytearray D fun _ => Array.replicate n.toNat 0) (upd_ba hD2 (by simp [sizeLine_eq]; omega) (wpAny_pure ?_))
    exact h _ (hs1.trans (Heap.SameBut.update ..)) (Heap.get?_update_self _ hD2 rfl)
  · refine wpAny_pure ?_
    have e : n = 0 := by omega
    subst e
    exact h _ hs1 hD2
theorem call_ba {n : Int} {t : Tok} {Q : Value → Shared → Prop} (h0 : 0 ≤ n) (h1 : n ≤ 16777216)
    (h : ∀ h', (∀ b o, s.heap.get? b = some o → h'.get? b = some o) → h'.get? s.heap.objs.size = some { cls := .type "bytearray", data := .bytearray (Array.replicate n.toNat 0) } → Q (.ref s.heap.objs.size) { s with heap := h' }) :
    wpN (model prog w) A (call (.type "bytearray") [.int n t]) Q E s := by
  refine callTypeN (Q₁ := fun obj s₁ => obj = .ref s.heap.objs.size ∧ s₁ = { s with heap := s.heap.push { cls := .type "bytearray", data := .bytearray #[] } }) FA.called (FA.typeCall_1 _) FA.entry_init rfl (fun _ => rfl) (by decide +kernel) (code_ba_new _ ⟨rfl, rfl⟩) fun obj s₁ h₁ => ?_
  obtain ⟨rfl, rfl⟩ := h₁
  have hD : (s.heap.push { cls := .type "bytearray", data := .bytearray #[] }).get? s.heap.objs.size = some { cls := .type "bytearray", data := .bytearray #[] } := Heap.get?_push_size _ rfl
  refine ⟨⟨_, hD, rfl⟩, FA.args_init_2 _ _, init_count hD h0 h1 fun h' hs ho => ⟨rfl, h h' (fun b o e => ?_) ho⟩⟩
  exact hs.extBut b o (fun e' => Nat.lt_irrefl _ (e' ▸ Heap.lt_size e)) (Heap.get?_push_of_some _ e)
end
end Mine

set_option maxRecDepth 100000
set_option Elab.async false
set_option linter.unusedVariables false
open PySem PySem.W PyProof.Rows PySem.Calls
namespace Mine
namespace FA
theorem no_bytes : typeLookup (.type "bytearray") "__bytes__" = pure none := by rw [typeLookup_type, builtinLookup_eq_fast]; kernel_rfl
theorem noIndex : typeLookup (.type "bytearray") "__index__" = pure none := by rw [typeLookup_type, builtinLookup_eq_fast]; kernel_rfl
theorem look_buffer : typeLookup (.type "bytearray") "__buffer__" = pure (some (.builtin "bytearray.__buffer__")) := by rw [typeLookup_type, builtinLookup_eq_fast]; kernel_rfl
theorem buf_ends : "bytearray.__buffer__".endsWith ("." ++ "__buffer__") = true := by decide +kernel
set_option linter.deprecated false in
theorem buf_owner : "bytearray.__buffer__".dropRight ("__buffer__".length + 1) = "bytearray" := by decide +kernel
theorem slot_set : Slot "bytearray" "__setitem__" "bytearray.__setitem__" :=
  .of (owner := "bytearray") (n := "__setitem__") (by rw [typeLookup_type, builtinLookup_eq_fast]; kernel_rfl) (by decide +kernel) (by decide +kernel) (by decide +kernel)
    (by first | exact .inl (by decide +kernel) | exact .inr (by decide +kernel)) (by rw [isSubtype_type]; kernel_rfl)
theorem entry_set : entryFor table "bytearray.__setitem__" = some Builtin.«bytearray.__setitem__» := entryFor_of_tree (by kernel_rfl)
theorem args_set_3 (a b c : Value) : argsOk "bytearray.__setitem__" ⟨[a, b, c], []⟩ := by
  unfold argsOk; rw [signature?_of (id := "bytearray.__setitem__") (n := ['_', '_', 'm', 'e', 't', 'i', 't', 'e', 's', '_', '_']) (o := ['y', 'a', 'r', 'r', 'a', 'e', 't', 'y', 'b']) (by kernel_rfl) owner_ba]; kernel_rfl
end FA
section
variable {prog : Program} {w : World} {A : Around} {E : Value → Shared → Prop} {s : Shared}
theorem new_of_ba {D : Addr} {b : Array UInt8} {Q : Value → Shared → Prop} (hD : s.heap.get? D = some { cls := .type "bytearray", data := .bytearray b }) (hz : b.size ≤ sizeLine) (hQ : ∀ t k, Q (.bytes b t) { s with toks := k }) :
    codeAny (model prog w) A (.call (.builtin "bytes.__new__") ⟨[.type "bytes", .ref D], []⟩) (wants Q E) s := by
  refine codeAny_of_tree ?_
  show wpAny _ A.in1 (do checkBuiltinCall "bytes.__new__" ⟨[.type "bytes", .ref D], []⟩; again (.builtin "bytes.__new__" ⟨[.type "bytes", .ref D], []⟩)) _ _ s
  refine wpAny_bind (wpAny_of_eq (F.bm_newCall _) (wpAny_pure ⟨plainId_quiet F.bm_plain _, codeAny_builtin F.bm_entry ?_⟩))
  rw [Around.under_plainId F.bm_plain _]
  have hT : s.TypeIs (.ref D) "bytearray" := ⟨_, hD, rfl⟩
  unfold Builtin.«bytes.__new__»
  refine wpAny_bind (wpAny_of_eq (a := true) rfl ?_)
  refine bm_if_false rfl ?_
  refine wpAny_bind (wpAny_of_eq F.bm_sub ?_)
  refine bm_if_false rfl ?_
  refine wpAny_bind (wpAny_of_eq (F.bm_bind _) ?_)
  refine wpAny_bind (wpAny_of_eq (a := ()) rfl ?_)
  refine wpAny_bind (wpAny_of_eq (a := ()) rfl ?_)
  refine bm_if_false rfl ?_
  refine wpAny_bind (wpAny_specialOf hT FA.no_bytes ?_)
  refine wpAny_bind (wpAny_bind ?_)
  show wpAny _ _ (load D >>= _) _ _ _
  refine wpAny_bind (wpAny_load hD ?_)
  refine wpAny_pure (wpAny_pure ?_)
  refine bm_if_false rfl ?_
  refine wpAny_bind (wpAny_specialOf hT FA.noIndex ?_)
  refine bm_if_true rfl ?_
  first
    | show wpAny _ _ (Builtin.Bytes.buffer? "bytes.__new__" (.ref D) true >>= _) _ _ _
    | (refine wpAny_bind ?_; show wpAny _ _ (Builtin.Bytes.buffer? "bytes.__new__" (.ref D) true >>= _) _ _ _)
  refine wpAny_bind ?_
  unfold Builtin.Bytes.buffer?
  refine wpAny_bind (wpAny_specialOf hT FA.look_buffer ?_)
  dsimp only
  refine wpAny_bind ?_
  unfold Builtin.Bytes.slotIsOwn
  refine wpAny_bind (wpAny_specialOf hT FA.look_buffer ?_)
  simp only [FA.buf_ends, Bool.not_true, Bool.false_eq_true, if_false, FA.buf_owner]
  refine wpAny_isInstance hT FA.sub_self ?_
  simp only [Bool.not_true, Bool.false_eq_true, if_false]
  refine wpAny_bind (wpAny_specialOf hT FA.look_buffer ?_)
  try dsimp only
  refine wpAny_bind (own_rel hT ?_)
  simp only [Bool.false_eq_true, if_false]
  refine wpAny_bind ?_
  unfold Builtin.Bytes.payload Builtin.Bytes.payload?
  refine wpAny_bind (wpAny_bind (wpAny_load hD ?_))
  refine wpAny_pure (wpAny_pure (wpAny_pure ?_))
  dsimp only
  refine wpAny_bind (wpAny_rule ?_)
  refine wpAny_bind (wpAny_mkBytes ?_ hz)
  show wpAny _ _ (if (Value.type "bytes" == Value.type "bytes") = true then _ else _) _ _ _
  refine bm_if_true (by decide) ?_
  first
    | exact wpAny_pure (hQ _ _)
    | exact wpAny_bind (wpAny_pure (wpAny_pure (hQ _ _)))
theorem bytes_of_ba {D : Addr} {b : Array UInt8} {Q : Value → Shared → Prop} (hD : s.heap.get? D = some { cls := .type "bytearray", data := .bytearray b }) (hz : b.size ≤ sizeLine) (hQ : ∀ t k, Q (.bytes b t) { s with toks := k }) :
    wpAny (model prog w) A (call (.type "bytes") [.ref D]) Q E s := by
  refine callType_codes (Q₁ := fun obj s₁ => s₁.TypeIs obj "bytes" ∧ Q obj s₁) F.bm_called (F.bm_typeCall _) F.entry_object_init
    (new_of_ba hD hz fun t k => ⟨PySem.W.typeIs_bytes _ _ _, hQ t k⟩) fun obj s₁ h₁ => ?_
  exact ⟨h₁.1, F.args_object_init_2 obj _, object_init_meets F.bm_called.init.lookup F.bm_called.made (by decide) prog w A.in1 _ s₁ ⟨h₁.1, rfl, h₁.2⟩⟩
theorem set_ba {D : Addr} {b : Array UInt8} {k v : Int} {t u : Tok} {Q : Unit → Shared → Prop} (hD : s.heap.get? D = some { cls := .type "bytearray", data := .bytearray b }) (hz : b.size ≤ sizeLine) (h0 : 0 ≤ k) (h1 : k < b.size) (h2 : 0 ≤ v) (h3 : v < 256)
    (hQ : ∀ h', Heap.SameBut D s.heap h' → h'.get? D = some { cls := .type "bytearray", data := .bytearray (b.setIfInBounds k.toNat v.toNat.toUInt8) } → Q () { s with heap := h' }) :
    wpAny (model prog w) A (setItem (.ref D) (.int k t) (.int v u)) Q E s := by
  have hT : s.TypeIs (.ref D) "bytearray" := ⟨_, hD, rfl⟩
  unfold setItem
  try with_reducible refine wpAny_holding ?_
  first | refine wpAny_bind (wpAny_pure ?_) | skip
  refine wpAny_bind (wpAny_sequenceKey hT (by decide) ?_)
  refine wpAny_bind (wpAny_callSpecial?_slot (name := Str.ofString "__setitem__") hT FA.slot_set
    (wpAny_call_entry FA.slot_set hT FA.entry_set ?_ (FA.args_set_3 _ _ _)))
  unfold Builtin.«bytearray.__setitem__»
  dsimp only
  refine bm_if_false rfl ?_
  have e1 : asIndex (Value.int k t) = pure k := rfl
  have e2 : asIndex (Value.int v u) = pure v := rfl
  have hsz := sizeLine_eq
  have g1 : Builtin.Bytes.fitsIndex k = true := by
    unfold Builtin.Bytes.fitsIndex
    rw [Bool.and_eq_true]
    exact ⟨decide_eq_true (by show (-9223372036854775808 : Int) ≤ k; omega), decide_eq_true (by show k < (9223372036854775808 : Int); omega)⟩
  refine wpAny_bind ?_
  unfold Builtin.Bytes.subscript?
  refine wpAny_bind (wpAny_specialOf (typeIs_int _ k t) AutoSeq1.idx_int ?_)
  refine bm_if_false rfl ?_
  rw [e1]
  refine wpAny_bind (wpAny_pure ?_)
  rw [g1]
  refine bm_if_false rfl ?_
  refine wpAny_pure ?_
  dsimp only
  refine wpAny_bind ?_
  unfold Builtin.Bytes.byteValue
  rw [e2]
  refine wpAny_bind (wpAny_pure ?_)
  refine bm_if_false (by simp only [Bool.or_eq_false_iff, decide_eq_false_iff_not]; omega) ?_
  refine wpAny_pure ?_
  refine wpAny_bind ?_
  unfold Builtin.Bytes.payload Builtin.Bytes.payload?
  refine wpAny_bind (wpAny_bind (wpAny_load hD ?_))
  refine wpAny_pure (wpAny_pure ?_)
  have hi : seqIndex? k b.size = some k.toNat := by
    unfold seqIndex?
    have : ¬ k < 0 := by omega
    simp only [this, if_false]
    rw [if_pos (by simp; omega)]
  rw [hi]
  dsimp only
  unfold Builtin.Bytes.write
  refine wpAny_bind (upd_ba hD (by simpa using hz) ?_)
  exact wpAny_pure ⟨_, rfl, wpAny_pure (hQ _ (Heap.SameBut.update ..) (Heap.get?_update_self _ hD rfl))⟩
end
section
variable {c : Fc} {st : St} {Q : V → St → Prop}
theorem ca_barr {n : Nat} (hz : n ≤ 16777216) (q : ∀ D, Q (.ref D) ⟨st.loc, (D, .barr (List.replicate n 0)) :: st.hp⟩) : CAt c "bytearray" [.int n] st Q := fun ws r => by
  cases r with
  | cons r h =>
    cases h; cases r
    intro φ s S
    refine call_ba (by omega) (by omega) fun h' hk ho => ⟨_, _, .ref _, S.add (tk := s.toks) (ao := .barr (List.replicate n 0)) (Nat.le_refl _) hk ho ⟨_, rfl, ?_⟩, q _⟩
    simp [bnat]
theorem si_barr {D : Addr} {l : List Nat} {k v : Int} {hp' : Hp} {Q : St → Prop} (u : Upd st.hp D (.barr l) (.barr (l.set k.toNat v.toNat)) hp') (hz : l.length ≤ 16777216) (h0 : 0 ≤ k) (h1 : k < l.length) (h2 : 0 ≤ v) (h3 : v < 256) (q : Q ⟨st.loc, hp'⟩) : SI c (.ref D) (.int k) (.int v) st Q := fun ov iv vv ro ri rv => by
  cases ro; cases ri; cases rv
  obtain ⟨pre, post, e1, rfl⟩ := u.split
  refine TR.leaf fun φ s S => ?_
  obtain ⟨o, ho, b, rfl, rfl⟩ := S.at (a := D) (ao := .barr l) (by rw [e1]; simp)
  have e : (bnat b).length = b.size := by simp [bnat]
  refine set_ba ho (by rw [sizeLine_eq]; omega) h0 (by omega) h2 h3 fun h' hs ho' => ⟨(), _, trivial, S.set (tk := s.toks) (ao' := .barr ((bnat b).set k.toNat v.toNat)) e1 hs.extBut ho' ⟨_, rfl, ?_⟩, q⟩
  unfold bnat
  rw [Array.toList_setIfInBounds, List.map_set]
  have : v.toNat.toUInt8.toNat = v.toNat := by rw [Nat.toUInt8, UInt8.toNat_ofNat']; omega
  rw [this]
theorem ca_bytesB {D : Addr} {l : List Nat} (hm : (D, AObj.barr l) ∈ st.hp) (hz : l.length ≤ 16777216) (q : Q (.bytes l) st) : CAt c "bytes" [.ref D] st Q := fun ws r => by
  cases r with
  | cons r h =>
    cases h; cases r
    refine TR.leaf fun φ s S => ?_
    obtain ⟨o, ho, b, rfl, rfl⟩ := S.at hm
    have e : (bnat b).length = b.size := by simp [bnat]
    exact bytes_of_ba ho (by rw [sizeLine_eq]; omega) fun t k => ⟨_, _, .bytes _ _, S.toks _, q⟩
end
end Mine

set_option maxRecDepth 100000
set_option Elab.async false
set_option linter.unusedVariables false
open PySem PySem.W PyProof.Rows PySem.Calls
namespace Mine

/-- the table of a function's inner codes, and the code that it holds -/
noncomputable def TB (P : Addr) (pos : Pos) (qual : Str) (t : Option Addr) : Hp := (P, .tab pos t) :: (match t with | none => [] | some c' => [(c', .code qual)])
theorem updF_of {P : Addr} {o : Obj} : ∀ (pre post : List (Addr × Obj)), ((pre ++ (P, o) :: post).map (·.1)).Nodup → UpdF P o (pre ++ (P, o) :: post) (fun o' => pre ++ (P, o') :: post)
  | [], post, nd => .head fun p hp e => by
    rw [List.nil_append, List.map_cons, List.nodup_cons] at nd
    exact nd.1 (List.mem_map.mpr ⟨p, hp, e⟩)
  | q :: pre, post, nd => by
    rw [List.cons_append, List.map_cons, List.nodup_cons] at nd
    exact .tail (fun e => nd.1 (List.mem_map.mpr ⟨(P, o), by simp, e.symm⟩)) (updF_of pre post nd.2)
section
variable {c : Fc} {Q : V → St → Prop} {params : Arguments} {body : PySem.Expr} {scope : Scope} {pos : Pos} {cn : Str} {cs : Scope} {L a cd P : Addr} {cl clos : List (Str × Addr)} {loc : Loc}
theorem lam_hit {hp : Hp} {c' : Addr} (he : c.env = envX cn cs L a (.ref cd) cl) (hc : codeHdIn c.g.K cd P = true) (hdef : defaultsOf params c.env = ([], [])) (hcl : closureFor scope c.env = pure clos) (hm : (P, AObj.tab pos (some c')) ∈ hp)
    (q : ∀ f, Q (.ref f) ⟨loc, (f, .lam "<lambda>" (c.env.qual ++ "<lambda>") params body scope clos c') :: hp⟩) : EV c (.Lambda params body scope pos) ⟨loc, hp⟩ Q := TR.leaf fun φ s S => by
  obtain ⟨m, F, hl⟩ := S.fr
  obtain ⟨news, φ', N, nd, H, Pr⟩ := S.nw
  obtain ⟨hh, tk, e⟩ := S.rest
  obtain ⟨⟨P', o⟩, hmem, eP, ps, eo, ht, hf⟩ := H.mem hm
  obtain rfl : P' = P := eP
  have eo : o = tabObj ps := eo
  subst eo
  refine kla_eval hdef ?_
  rw [he] at F N hcl hdef ⊢
  refine kla_hit F N S.ok.top (codeHd_of_K S.ok.kin hc) rfl (List.mem_append_left _ hmem) ht hf hcl fun f ctv h' tk F' N' hlt => ?_
  have hq : c.env.qual = (envX cn cs L a (.ref cd) cl).qual := by rw [he]
  refine ⟨.ref f, ⟨loc, (f, .lam "<lambda>" (c.env.qual ++ "<lambda>") params body scope clos c') :: hp⟩, .ref f, ⟨S.ok, ⟨m, by rw [he]; exact F', hl⟩, ⟨(f, _) :: news, φ', by rw [he]; exact N', ?_, .cons ⟨rfl, by rw [hq]; exact ⟨_, _, rfl⟩⟩ H, Pr⟩, ⟨h', tk, by rw [e]⟩, S.frm⟩, q f⟩
  rw [List.cons_append, List.map_cons, List.nodup_cons]
  refine ⟨fun hx => ?_, nd⟩
  obtain ⟨p, hp, e⟩ := List.mem_map.mp hx
  exact absurd (hlt p hp) (by rw [show p.1 = f from e]; exact Nat.lt_irrefl _)
theorem lam_new {hp0 hp1 : Hp} (he : c.env = envX cn cs L a (.ref cd) cl) (hc : codeHdIn c.g.K cd P = true) (hdef : defaultsOf params c.env = ([], [])) (hcl : closureFor scope c.env = pure clos)
    (q : ∀ f c', Q (.ref f) ⟨loc, (f, .lam "<lambda>" (c.env.qual ++ "<lambda>") params body scope clos c') :: (c', .code (c.env.qual ++ "<lambda>")) :: (hp0 ++ (P, .tab pos (some c')) :: hp1)⟩) : EV c (.Lambda params body scope pos) ⟨loc, hp0 ++ (P, .tab pos none) :: hp1⟩ Q := TR.leaf fun φ s S => by
  obtain ⟨m, F, hl⟩ := S.fr
  obtain ⟨news, φ', N, nd, H, Pr⟩ := S.nw
  obtain ⟨hh, tk, e⟩ := S.rest
  obtain ⟨n1, n2, rfl, H1, H2⟩ := H.split
  cases H2 with
  | cons r H2 =>
    rename_i x n2
    obtain ⟨P', o⟩ := x
    obtain ⟨eP, ps, eo, ht, hf⟩ := r
    obtain rfl : P' = P := eP
    have eo : o = tabObj ps := eo
    subst eo
    refine kla_eval hdef ?_
    rw [List.append_assoc, List.cons_append] at N nd
    rw [he] at F N hcl hdef ⊢
    refine kla_nest F N S.ok.top (codeHd_of_K S.ok.kin hc) rfl (updF_of n1 (n2 ++ φ') nd) ht hf hcl fun f c' oc vs t ctv h' tk F' N' hd hv hlt hlt' => ?_
    have hq : c.env.qual = (envX cn cs L a (.ref cd) cl).qual := by rw [he]
    refine ⟨.ref f, ⟨loc, (f, .lam "<lambda>" (c.env.qual ++ "<lambda>") params body scope clos c') :: (c', .code (c.env.qual ++ "<lambda>")) :: (hp0 ++ (P', .tab pos (some c')) :: hp1)⟩, .ref f, ⟨S.ok, ⟨m, by rw [he]; exact F', hl⟩, ⟨(f, _) :: (c', oc) :: (n1 ++ (P', tabObj (ps ++ #[rawInt pos.line, rawInt pos.col, .ref c'])) :: n2), φ', by rw [he]; simpa using N', ?_,
      .cons ⟨rfl, by rw [hq]; exact ⟨_, _, rfl⟩⟩ (.cons ⟨rfl, vs, t, hd, by rw [hq]; exact hv⟩ (H1.append (.cons ⟨rfl, _, rfl, ?_, ?_⟩ H2))), Pr⟩, ⟨h', tk, by rw [e]⟩, S.frm⟩, q f c'⟩
    · have nd' : ((n1 ++ (P', tabObj (ps ++ #[rawInt pos.line, rawInt pos.col, .ref c'])) :: (n2 ++ φ')).map (·.1)).Nodup := by simpa using nd
      have hlt2 : ∀ p ∈ n1 ++ (P', tabObj (ps ++ #[rawInt pos.line, rawInt pos.col, .ref c'])) :: (n2 ++ φ'), p.1 < c' := fun p hp => by
        rcases List.mem_append.mp hp with h | h
        · exact hlt p (List.mem_append_left _ h)
        · rcases List.mem_cons.mp h with rfl | h
          · exact hlt (P', tabObj ps) (List.mem_append_right _ (.head _))
          · exact hlt p (List.mem_append_right _ (.tail _ h))
      have e1 : ((f, kla_obj "<lambda>" ((envX cn cs L a (.ref cd) cl).qual ++ "<lambda>") params body scope clos ((c.g.mg "__name__").getD .none) c' ctv) :: (c', oc) :: (n1 ++ (P', tabObj (ps ++ #[rawInt pos.line, rawInt pos.col, .ref c'])) :: n2)) ++ φ' =
          (f, kla_obj "<lambda>" ((envX cn cs L a (.ref cd) cl).qual ++ "<lambda>") params body scope clos ((c.g.mg "__name__").getD .none) c' ctv) :: (c', oc) :: (n1 ++ (P', tabObj (ps ++ #[rawInt pos.line, rawInt pos.col, .ref c'])) :: (n2 ++ φ')) := by simp
      rw [e1, List.map_cons, List.map_cons, List.nodup_cons, List.nodup_cons]
      refine ⟨fun hx => ?_, fun hx => ?_, nd'⟩
      · rcases List.mem_cons.mp hx with h | h
        · exact absurd hlt' (by rw [show f = c' from h]; exact Nat.lt_irrefl _)
        · obtain ⟨p, hp, e⟩ := List.mem_map.mp h
          have := hlt2 p hp
          rw [show p.1 = f from e] at this
          exact absurd (Nat.lt_trans hlt' this) (Nat.lt_irrefl _)
      · obtain ⟨p, hp, e⟩ := List.mem_map.mp hx
        have := hlt2 p hp
        rw [show p.1 = c' from e] at this
        exact absurd this (Nat.lt_irrefl _)
    · rw [Array.toList_append]; exact TriplesOk_snoc _ _ _ _ ht
    · rw [Array.toList_append]; exact codeAmong_snoc _ ht hf
theorem ev_lam {pre post : Hp} {t : Option Addr} (he : c.env = envX cn cs L a (.ref cd) cl) (hc : codeHdIn c.g.K cd P = true) (hdef : defaultsOf params c.env = ([], [])) (hcl : closureFor scope c.env = pure clos)
    (q : ∀ f c', Q (.ref f) ⟨loc, (f, .lam "<lambda>" (c.env.qual ++ "<lambda>") params body scope clos c') :: (pre ++ (TB P pos (c.env.qual ++ "<lambda>") (some c') ++ post))⟩) : EV c (.Lambda params body scope pos) ⟨loc, pre ++ (TB P pos (c.env.qual ++ "<lambda>") t ++ post)⟩ Q := by
  cases t with
  | some c' => exact lam_hit he hc hdef hcl (List.mem_append_right _ (.head _)) fun f => q f c'
  | none =>
    refine TR.postWK (lam_new (hp0 := pre) (hp1 := post) he hc hdef hcl fun f c' => ⟨⟨loc, (f, .lam "<lambda>" (c.env.qual ++ "<lambda>") params body scope clos c') :: (pre ++ (TB P pos (c.env.qual ++ "<lambda>") (some c') ++ post))⟩, ⟨.refl _, .keep (.perm ?_ (.refl _))⟩, q f c'⟩)
    show ((c', AObj.code (c.env.qual ++ "<lambda>")) :: (pre ++ (P, AObj.tab pos (some c')) :: post)).Perm (pre ++ ((P, AObj.tab pos (some c')) :: (c', AObj.code (c.env.qual ++ "<lambda>")) :: post))
    refine List.perm_middle.symm.trans (List.Perm.append_left pre ?_)
    exact List.Perm.swap _ _ _
end
end Mine

set_option maxRecDepth 100000
set_option Elab.async false
set_option linter.unusedVariables false
open PySem PySem.W PyProof.Rows PySem.Calls
namespace Mine
open MeetsSeq MeetsSeq2 MeetsSeq3 in
theorem lt_loop1 (l b : Addr) (i j : Int) (t u : Tok) (n n2 : Nat) :
    Meets (Builtin.«list.__eq__.loop» ⟨[.ref l, .ref b, rawInt 1, rawInt 0], []⟩)
      (fun _ R s => s.heap.get? l = some { cls := .type "list", dict := none, data := .seq #[.int i t] n, slots := #[] } ∧ s.heap.get? b = some { cls := .type "list", dict := none, data := .seq #[.int j u] n2, slots := #[] } ∧
        R (.ok (.ret (.bool false))) s) := by
  intro prog w A R s h
  obtain ⟨hp, g, d, tk, os⟩ := s; obtain ⟨hl, hb, h⟩ := h
  wp_walk using AutoSeq1.wpAny_loadPart' hl, AutoSeq1.wpAny_loadPart' hb
  exact h
open MeetsSeq MeetsSeq2 MeetsSeq3 in
theorem lt_loop0 (l b : Addr) (i j : Int) (t u : Tok) (n n2 : Nat) (items items2 : Array Value) (e1 : items = #[.int i t]) (e2 : items2 = #[.int j u]) :
    Meets (Builtin.«list.__eq__.loop» ⟨[.ref l, .ref b, rawInt 0, rawInt 0], []⟩)
      (fun _ R s => s.heap.get? l = some { cls := .type "list", dict := none, data := .seq items n, slots := #[] } ∧ s.heap.get? b = some { cls := .type "list", dict := none, data := .seq items2 n2, slots := #[] } ∧
        R (.ok (.ret (.bool (decide (i < j))))) s) := by
  intro prog w A R s h
  obtain ⟨hp, g, d, tk, os⟩ := s; obtain ⟨hl, hb, h⟩ := h
  wp_walk using AutoSeq1.wpAny_loadPart' hl, AutoSeq1.wpAny_loadPart' hb
  have hi1 : items[(0 : Int).toNat]? = some (.int i t) := by rw [e1]; rfl
  have hi2 : items2[(0 : Int).toNat]? = some (.int j u) := by rw [e2]; rfl
  rw [hi1, hi2]
  refine wpAny_bind (EqGives.int i j t u prog w _ _ _ _ ?_)
  by_cases e : i = j
  · subst e
    rw [beq_self_eq_true]
    wp_walk
    have h' : R (.ok (.ret (.bool false))) ⟨hp, g, d, tk, os⟩ := by simpa using h
    subst e1 e2
    exact ⟨plainId_quiet plain_eq_loop _, codeAny_builtin entry_eq_loop (by
      rw [Around.under_plainId plain_eq_loop _]
      exact lt_loop1 l b i i t u n n2 prog w A R _ ⟨hl, hb, h'⟩)⟩
  · have : (i == j) = false := by simpa using e
    rw [this]
    wp_walk using AutoSeq1.wpAny_loadPart' hl, AutoSeq1.wpAny_loadPart' hb
    rw [hi1, hi2]
    refine wpAny_bind ?_
    show wpAny _ _ (compareOp .Lt (.int i t) (.int j u)) _ _ _
    refine lt_int ?_
    wp_walk
    exact h
open MeetsSeq MeetsSeq2 MeetsSeq3 in
theorem list_lt1 (l b : Addr) (i j : Int) (t u : Tok) (n n2 : Nat) :
    Meets (Builtin.«list.__lt__» ⟨[.ref l, .ref b], []⟩)
      (fun _ R s => s.heap.get? l = some { cls := .type "list", dict := none, data := .seq #[.int i t] n, slots := #[] } ∧ s.heap.get? b = some { cls := .type "list", dict := none, data := .seq #[.int j u] n2, slots := #[] } ∧
        R (.ok (.ret (.bool (decide (i < j))))) s) := by
  intro prog w A R s h
  obtain ⟨hp, g, d, tk, os⟩ := s; obtain ⟨hl, hb, h⟩ := h
  have f3 := AutoSeq1.sub_list_list
  wp_walk using AutoSeq1.wpAny_loadPart' hl, AutoSeq1.wpAny_loadPart' hb
  refine ⟨plainId_quiet plain_eq_loop _, codeAny_builtin entry_eq_loop ?_⟩
  rw [Around.under_plainId plain_eq_loop _]
  exact lt_loop0 l b i j t u n n2 _ _ rfl rfl prog w A R _ ⟨hl, hb, h⟩
section
variable {c : Fc} {st : St} {Q : V → St → Prop}
theorem co_ltL1 {a b : Addr} {i j : Int} (ha : RL st.hp a [.int i]) (hb : RL st.hp b [.int j]) (q : Q (.bool (decide (i < j))) st) : CO c .Lt (.ref a) (.ref b) st Q := fun v v' r r' => by
  cases r; cases r'
  refine TR.leaf fun φ s S => ?_
  obtain ⟨its, n, hl, H, hL⟩ := S.listR ha
  obtain ⟨its2, n2, hl2, H2, hL2⟩ := S.listR hb
  have hu : c.A.units < cLine := by have := S.ok.units; show c.A.units < 9900; omega
  have one : ∀ (its : Array Value) (i : Int), All2 VR its.toList [V.int i] → ∃ t, its = #[.int i t] := by
    intro its i H
    obtain ⟨l⟩ := its
    cases H with
    | cons r H => cases H; cases r; exact ⟨_, rfl⟩
  obtain ⟨t, rfl⟩ := one its i H
  obtain ⟨u, rfl⟩ := one its2 j H2
  exact richCompare_meets_room (op := .Lt) ⟨_, hl, rfl⟩ ⟨_, hl2, rfl⟩ F.slot_list_lt F.entry_list_lt (F.args_list_lt_2 _ _) (list_lt1 a b i j t u n n2)
    ⟨hl, hl2, show Value.bool (decide (i < j)) ≠ Value.notImplemented ∧ _ from ⟨(fun x => nomatch x), ⟨_, _, .bool _, S, q⟩⟩⟩ hu
end
end Mine

set_option maxRecDepth 100000
set_option Elab.async false
set_option linter.unusedVariables false
open PySem PySem.W PyProof.Rows PySem.Calls
namespace Mine

/-! ## comprehensions, walking forms -/
noncomputable def COMPG (c : Fc) (scope : Scope) (cl : List (Str × Addr)) (x : Str) (ifs : List PySem.Expr) (elt : PySem.Expr) (items : List V) (Src : Hp → Prop) (st : St) (Q : Addr → St → Prop) : Prop :=
  ∃ I : Addr → Nat → List V → Hp → Prop, items.length ≤ 16777216 ∧ (∀ L, ∃ h, Sub (cellEntries (L + 1) scope.names st.hp) h ∧ I L 0 [] h) ∧ (∀ L i ys hp, I L i ys hp → Src hp) ∧
    (∀ L g i v ys loc hp, items[i]? = some v → I L i ys hp → SN (cFc c scope cl L g) x v ⟨loc, hp⟩ fun st1 => TE (cFc c scope cl L g) ifs st1 fun b st2 => CN b (EV (cFc c scope cl L g) elt st2 fun y st3 => ∃ h, Sub st3.hp h ∧ I L (i + 1) (ys ++ [y]) h) (∃ h, Sub st2.hp h ∧ I L (i + 1) ys h)) ∧
    (∀ L D ys hp, I L items.length ys hp → Q D ⟨st.loc, (D, .list ys) :: hp⟩)
/-- a comprehension as a filter and a map -/
theorem COMPG.fm {c : Fc} {scope : Scope} {cl : List (Str × Addr)} {x : Str} {ifs : List PySem.Expr} {elt : PySem.Expr} {items : List V} {Src : Hp → Prop} {st : St} {Q : Addr → St → Prop} {ε : Type} (enc : Addr → ε → Hp) (gf : V → Option V) (e0 : ε) (hz : items.length ≤ 16777216)
    (h0 : ∀ L, Sub (cellEntries (L + 1) scope.names st.hp) (enc L e0)) (src : ∀ L e, Src (enc L e))
    (turn : ∀ (L : Addr) (g : Heap) (i : Nat) (v : V) (loc : Loc) (e : ε), items[i]? = some v → SN (cFc c scope cl L g) x v ⟨loc, enc L e⟩ fun st1 => TE (cFc c scope cl L g) ifs st1 fun b st2 => CN b (EV (cFc c scope cl L g) elt st2 fun y st3 => gf v = some y ∧ ∃ e', Sub st3.hp (enc L e')) (gf v = none ∧ ∃ e', Sub st2.hp (enc L e')))
    (done : ∀ L e D, Q D ⟨st.loc, (D, .list (items.filterMap gf)) :: enc L e⟩) : COMPG c scope cl x ifs elt items Src st Q := by
  refine ⟨fun L i ys hp => ys = (items.take i).filterMap gf ∧ ∃ e, hp = enc L e, hz, fun L => ⟨_, h0 L, rfl, e0, rfl⟩, ?_, ?_, ?_⟩
  · rintro L i ys _ ⟨_, e, rfl⟩; exact src L e
  · rintro L g i v ys loc _ hv ⟨rfl, e, rfl⟩
    intro val r
    have ht : (items.take (i + 1)).filterMap gf = (items.take i).filterMap gf ++ (match gf v with | some y => [y] | none => []) := by
      rw [List.take_add_one, hv, List.filterMap_append]
      simp only [Option.toList, List.filterMap_cons, List.filterMap_nil]
      cases gf v <;> rfl
    refine TR.mono (turn L g i v loc e hv val r) fun _ st1 h1 => TR.mono h1 fun b st2 h2 => ?_
    cases b with
    | true => exact TR.mono (show EV _ _ _ _ from h2) fun y st3 ⟨h3, e', h4⟩ => ⟨_, h4, by rw [ht, h3], e', rfl⟩
    | false => obtain ⟨h3, e', h4⟩ := h2; exact ⟨_, h4, by rw [ht, h3, List.append_nil], e', rfl⟩
  · rintro L D _ _ ⟨rfl, e, rfl⟩
    rw [List.take_length]
    exact done L e D
section
variable {c : Fc} {st : St} {elt iter : PySem.Expr} {x : Str} {px pos : Pos} {ifs : List PySem.Expr} {scope : Scope} {cl : List (Str × Addr)}
theorem comp_go {Q : V → St → Prop} {ppos : Pos} {use : Option (Value → Sem Unit)} (hclos : closureFor scope c.env = pure cl) (hkind : scope.kind = .function) (hnames : ∀ y ∈ scope.names, y.2 = .local → scope.names.lookup y.1 = some .local) (hs : ∀ x, foldedSetIterable iter c.env x = pure x)
    (h : EV c iter st fun v st1 => ITER c v st1 fun items Src st2 => COMPG c scope cl x ifs elt items Src st2 fun D st3 => USE c use D st3 Q) :
    TR c (comprehension (.ListComp elt [⟨.Name x px, iter, ifs, 0⟩] scope pos) scope c.env ppos (newList []) false (eval iter c.env) use) VR st Q := by
  refine TR.postWK (comp_tr (Q := fun v st1 => ∃ st2, WK st1 st2 ∧ Q v st2) hclos hkind hnames hs (TR.mono h fun v st1 h1 val r => TR.mono (h1 val r) fun itv st2 hx => ?_))
  obtain ⟨it, ia, items, Src, st0, e1, e2, W, hsub, I, hz, h0, hsrc, turn, done⟩ := hx
  refine ⟨it, ia, items, Src, fun L i ys hp => ∃ h, Sub hp h ∧ I L i ys h, st0, e1, e2, hz, fun L g => W _ rfl, fun D ys hp k => hsub _ _ (.drop (.refl _)) k, h0, fun L i ys hp ⟨h, k, hI⟩ => hsub _ _ k (hsrc _ _ _ _ hI), ?_, ?_⟩
  · rintro L g i v ys loc hp hv ⟨h, k, hI⟩
    intro val' r'
    refine TR.preWK (st' := ⟨loc, h⟩) ⟨.refl _, k⟩ (TR.mono (turn L g i v ys loc h hv hI val' r') fun _ st4 hx => TR.mono hx fun b st5 q => ?_)
    cases b with
    | true => exact q
    | false => exact q
  · rintro L D ys hp ⟨h, k, hI⟩
    have hd := done L D ys h hI
    have kk : WK (⟨st0.loc, (D, .list ys) :: hp⟩ : St) ⟨st0.loc, (D, .list ys) :: h⟩ := ⟨.refl _, .keep k⟩
    cases use with
    | none => exact ⟨_, kk, hd⟩
    | some u => exact TR.preWK kk (TR.mono (show TR c (u (.ref D)) UR _ _ from hd) fun _ st4 q => ⟨_, .refl _, q⟩)
theorem v_comp {Q : V → St → Prop} (h : EV c iter st fun v st1 => ITER c v st1 fun items Src st2 => COMPG c scope cl x ifs elt items Src st2 fun D st3 => Q (.ref D) st3) (hclos : closureFor scope c.env = pure cl) (hkind : scope.kind = .function) (hnames : ∀ y ∈ scope.names, y.2 = .local → scope.names.lookup y.1 = some .local) (hs : ∀ x, foldedSetIterable iter c.env x = pure x) :
    EV c (.ListComp elt [⟨.Name x px, iter, ifs, 0⟩] scope pos) st Q := ev_comp (comp_go (use := none) hclos hkind hnames hs h)
theorem s_comp {Q : AFlow → St → Prop} {spos py : Pos} {y : Str} (h : EV c iter st fun v st1 => ITER c v st1 fun items Src st2 => COMPG c scope cl x ifs elt items Src st2 fun D st3 => SN c y (.ref D) st3 fun st4 => Q .next st4) (hclos : closureFor scope c.env = pure cl) (hkind : scope.kind = .function) (hnames : ∀ y ∈ scope.names, y.2 = .local → scope.names.lookup y.1 = some .local) (hs : ∀ x, foldedSetIterable iter c.env x = pure x)
    (hsw : swapsWith (.ListComp elt [⟨.Name x px, iter, ifs, 0⟩] scope pos) (some (.Name y py)) spos.line c.env = pure true) :
    ES c (.Assign [.Name y py] (.ListComp elt [⟨.Name x px, iter, ifs, 0⟩] scope pos) spos) st Q := by
  refine es_assignComp hsw ?_
  have hh : EV c iter st fun v st1 => ITER c v st1 fun items Src st2 => COMPG c scope cl x ifs elt items Src st2 fun D st3 => USE c (some (assign (.Name y py) c.env)) D st3 (fun _ st' => Q .next st') :=
    TR.mono h fun v st1 h1 val r => TR.mono (h1 val r) fun itv st2 hx => by
      obtain ⟨it, ia, items, Src, st0, e1, e2, W, hsub, I, hz, h0, hsrc, turn, done⟩ := hx
      exact ⟨it, ia, items, Src, st0, e1, e2, W, hsub, I, hz, h0, hsrc, turn, fun L D ys hp hI => assignName_tr (.ref D) (done L D ys hp hI)⟩
  exact comp_go (use := some (assign (.Name y py) c.env)) hclos hkind hnames hs hh
theorem sn_cellU {c : Fc} {st : St} {x : Str} {v : V} {a : Addr} {old : Option V} {hp' : Hp} {Q : St → Prop} (hk : c.env.kindOf x = some .cell) (hc : c.env.cells.lookup x = some a) (u : Upd st.hp a (.cell old) (.cell (some v)) hp') (q : Q ⟨st.loc, hp'⟩) : SN c x v st Q := by
  obtain ⟨pre, post, e1, e2⟩ := u.split
  exact sn_cell hk hc e1 (e2 ▸ q)
end
end Mine

set_option maxRecDepth 100000
set_option Elab.async false
set_option linter.unusedVariables false
open PySem PySem.W PyProof.Rows PySem.Calls
namespace Mine

/-! ## exceptions under way -/
noncomputable def Exc0 (oe : Obj) : Prop := ∃ vs a0, oe.cls = .type "ValueError" ∧ oe.data = .fields vs ∧ vs[0]? = some a0 ∧ vs[1]? = some .none
noncomputable def Exc1 (oe oT : Obj) (T : Addr) : Prop := ∃ vs a0 ts, oe.cls = .type "ValueError" ∧ oe.data = .fields vs ∧ vs[0]? = some a0 ∧ vs[1]? = some (.ref T) ∧ oT.data = .fields ts ∧ ts[3]? = some .none
noncomputable def MX (b : Bool) (c : Fc) (st : St) (φ : List (Addr × Obj)) (e : Value) (s : Shared) : Prop := match b with
  | false => ∃ ea oe, e = .ref ea ∧ Sat c φ ⟨st.loc, (ea, .raw oe) :: st.hp⟩ s ∧ Exc0 oe
  | true => ∃ ea T oe oT, e = .ref ea ∧ Sat c φ ⟨st.loc, (T, .raw oT) :: (ea, .raw oe) :: st.hp⟩ s ∧ Exc1 oe oT T

theorem ER.names {news : List (Addr × Obj)} {hp : List (Addr × AObj)} (H : All2 ER news hp) : news.map (·.1) = hp.map (·.1) := by
  induction H with
  | nil => rfl
  | cons r _ ih => simp [r.1, ih]
theorem Sat.addOld {c : Fc} {φ : List (Addr × Obj)} {st : St} {s : Shared} (S : Sat c φ st s) {a : Addr} {o : Obj} {ao : AObj} (ho : s.heap.get? a = some o) (h0 : c.h₀.get? a = none) (hL : a ≠ c.env.locals) (h1 : a ∉ st.hp.map (·.1)) (h2 : a ∉ φ.map (·.1)) (r : OR o ao) : Sat c φ ⟨st.loc, (a, ao) :: st.hp⟩ s := by
  obtain ⟨news, φ', N, nd, H, P⟩ := S.nw
  refine ⟨S.ok, S.fr, ⟨(a, o) :: news, φ', ?_, ?_, .cons ⟨rfl, r⟩ H, P⟩, S.rest, S.frm⟩
  · intro p hp
    rcases List.mem_cons.mp hp with rfl | hp
    · exact ⟨ho, hL, h0⟩
    · exact N p hp
  · rw [List.cons_append, List.map_cons, List.nodup_cons]
    refine ⟨fun hm => ?_, nd⟩
    rw [List.map_append] at hm
    rcases List.mem_append.mp hm with hm | hm
    · refine h1 ?_
      rw [← ER.names H]; exact hm
    · refine h2 ?_
      rw [← All2PR.names P]; exact hm
theorem PR.redo {h' : Heap} {ψ ψ0 : List (Addr × Obj)} (P : All2 PR ψ ψ0) : (∀ p ∈ ψ, ∃ o', h'.get? p.1 = some o' ∧ FR p.2 o') → ∃ ψ', All2 PR ψ' ψ0 ∧ ψ'.map (·.1) = ψ.map (·.1) ∧ ∀ q ∈ ψ', h'.get? q.1 = some q.2 := by
  induction P with
  | nil => intro _; exact ⟨[], .nil, rfl, fun q hq => nomatch hq⟩
  | cons r _ ih =>
    rename_i a b l m _
    intro h
    obtain ⟨ψ', P', e, g⟩ := ih fun p hp => h p (.tail _ hp)
    obtain ⟨o', ho', f⟩ := h a (.head _)
    refine ⟨(a.1, o') :: ψ', .cons ⟨r.1, r.2.trans f⟩ P', by simp [e], fun q hq => ?_⟩
    rcases List.mem_cons.mp hq with rfl | hq
    · exact ho'
    · exact g q hq
/-- the addresses of the frames of a stack -/
noncomputable def frAt (l : List Env) : List Addr := l.filterMap (·.frame)
section
variable {c : Fc} {φ : List (Addr × Obj)} {loc : Loc} {ents hp : Hp} {s : Shared} {l : List Env}
theorem frAt_mem (S : Sat c φ ⟨loc, hp⟩ s) (hl : c.A.frames = some l) {a : Addr} (ha : a ∈ frAt l) : a = c.env.locals ∨ ∃ o es n, (a, o) ∈ φ ∧ o.data = .dict es n := by
  obtain ⟨e, he, hf⟩ := List.mem_filterMap.mp ha
  obtain ⟨_, L, hf', hL⟩ := S.frm l hl e he
  rw [hf] at hf'
  obtain rfl := Option.some.inj hf'
  exact hL
/-- what a step that touches only frames and the exception leaves -/
theorem Sat.step (S : Sat c φ ⟨loc, ents ++ hp⟩ s) (hl : c.A.frames = some l) {h' : Heap} (k1 : (hideAll s.heap (frAt l ++ ents.map (·.1))).StaysIn h') (k2 : ∀ b o, s.heap.get? b = some o → (∀ vs, o.data ≠ .fields vs) → ∃ sl, h'.get? b = some { o with slots := sl }) :
    Sat c φ ⟨loc, hp⟩ { s with heap := h' } ∧ (∀ T oT ts, (hideAll s.heap (frAt l ++ ents.map (·.1))).get? T = none → h'.get? T = some oT → oT.data = .fields ts → c.h₀.get? T = none ∧ T ≠ c.env.locals ∧ T ∉ hp.map (·.1) ∧ T ∉ φ.map (·.1)) := by
  obtain ⟨m, F, hlr⟩ := S.fr
  obtain ⟨news, φ', N, nd, H, P⟩ := S.nw
  obtain ⟨hh, tk, er⟩ := S.rest
  obtain ⟨n1, n2, rfl, H1, H2⟩ := All2.split H
  have e1 := ER.names H1
  have phi : ∀ {a o}, (a, o) ∈ φ → ∃ o', (a, o') ∈ φ' ∧ FR o o' := fun {a o} hm => by
    obtain ⟨⟨a', o'⟩, hp', r⟩ := All2.mem P hm
    obtain rfl : a' = a := r.1
    exact ⟨o', hp', r.2⟩
  have dict : ∀ {o o' : Obj} {es n}, FR o o' → o.data = .dict es n → o'.data = .dict es n := fun {o o' es n} r hd => by
    rcases r with rfl | ⟨_, _, _, _, rfl⟩
    · exact hd
    · exact hd
  have hid0 : ∀ b o, c.h₀.get? b = some o → b ∉ frAt l ++ ents.map (·.1) := fun b o e hm => by
    rcases List.mem_append.mp hm with hm | hm
    · rcases frAt_mem S hl hm with rfl | ⟨o2, _, _, hm, _⟩
      · exact absurd (Heap.lt_size e) (Nat.not_lt.mpr F.above)
      · obtain ⟨o3, hm, _⟩ := phi hm
        have := (N _ (List.mem_append_right _ hm)).2.2
        rw [this] at e; cases e
    · rw [← e1] at hm
      obtain ⟨p, hp', rfl⟩ := List.mem_map.mp hm
      have := (N p (List.mem_append_left _ (List.mem_append_left _ hp'))).2.2
      rw [this] at e; cases e
  have nd1 : ∀ p ∈ n2, p.1 ∉ n1.map (·.1) := fun p hp hm => by
    rw [List.append_assoc, List.map_append] at nd
    exact (List.nodup_append.mp nd).2.2 _ hm _ (by rw [List.map_append]; exact List.mem_append_left _ (List.mem_map_of_mem hp)) rfl
  have nd2 : ∀ p ∈ n2, p.1 ∉ φ'.map (·.1) := fun p hp hm => by
    rw [List.map_append] at nd
    exact (List.nodup_append.mp nd).2.2 _ (List.mem_map_of_mem (List.mem_append_right _ hp)) _ hm rfl
  have hid2 : ∀ p ∈ n2, p.1 ∉ frAt l ++ ents.map (·.1) := fun p hp hm => by
    rcases List.mem_append.mp hm with hm | hm
    · rcases frAt_mem S hl hm with h | ⟨o2, _, _, hm, _⟩
      · exact (N p (List.mem_append_left _ (List.mem_append_right _ hp))).2.1 h
      · obtain ⟨o3, hm, _⟩ := phi hm
        exact nd2 p hp (List.mem_map.mpr ⟨_, hm, rfl⟩)
    · rw [← e1] at hm
      exact nd1 p hp hm
  have hid3 : ∀ p ∈ φ', (∀ es n, p.2.data ≠ .dict es n) → p.1 ∉ frAt l ++ ents.map (·.1) := fun p hp hd hm => by
    rcases List.mem_append.mp hm with hm | hm
    · rcases frAt_mem S hl hm with h | ⟨o2, es, n, hm, hdd⟩
      · exact (N p (List.mem_append_right _ hp)).2.1 h
      · obtain ⟨o3, hm, r⟩ := phi hm
        have h1 := (N _ (List.mem_append_right _ hm)).1
        have h2 := (N p (List.mem_append_right _ hp)).1
        rw [h1] at h2
        exact hd es n (by rw [← Option.some.inj h2]; exact dict r hdd)
    · rw [← e1] at hm
      rw [List.map_append] at nd
      obtain ⟨q, hq, e⟩ := List.mem_map.mp hm
      exact (List.nodup_append.mp nd).2.2 _ (List.mem_map_of_mem (List.mem_append_left _ hq)) _ (List.mem_map_of_mem hp) e
  have step : ∀ b o, s.heap.get? b = some o → b ∉ frAt l ++ ents.map (·.1) → h'.get? b = some o := fun b o e hm => k1 b o (hideAll_get _ e hm)
  obtain ⟨φ'', P', eφ, g⟩ := PR.redo (h' := h') P fun p hp => by
    have hg := (N p (List.mem_append_right _ hp)).1
    by_cases hd : ∃ es n, p.2.data = .dict es n
    · obtain ⟨es, n, hd⟩ := hd
      obtain ⟨sl, h⟩ := k2 p.1 p.2 hg fun vs q => by rw [hd] at q; cases q
      exact ⟨_, h, .inr ⟨es, n, sl, hd, rfl⟩⟩
    · exact ⟨p.2, step _ _ hg (hid3 p hp fun es n q => hd ⟨es, n, q⟩), .refl _⟩
  constructor
  · refine ⟨S.ok, ⟨m, ⟨Heap.UpToSlots.ns k2 F.ns, fun b o e => step b o (F.keep b o e) (hid0 b o e), F.above⟩, hlr⟩, ⟨n2, φ'', ?_, ?_, H2, P'⟩, ⟨h', tk, by rw [er]⟩, S.frm⟩
    · intro p hp
      rcases List.mem_append.mp hp with hp | hp
      · have := N p (List.mem_append_left _ (List.mem_append_right _ hp))
        exact ⟨step _ _ this.1 (hid2 p hp), this.2⟩
      · have hm : p.1 ∈ φ'.map (·.1) := by rw [← eφ]; exact List.mem_map_of_mem hp
        obtain ⟨q, hq, e⟩ := List.mem_map.mp hm
        have := N q (List.mem_append_right _ hq)
        rw [e] at this
        exact ⟨g p hp, this.2⟩
    · rw [List.map_append, eφ, ← List.map_append]
      rw [List.append_assoc, List.map_append] at nd
      exact (List.nodup_append.mp nd).2.1
  · intro T oT ts hb hT hd
    refine ⟨?_, fun e => ?_, fun hm => ?_, fun hm => ?_⟩
    · cases q : c.h₀.get? T with
      | none => rfl
      | some o => rw [hideAll_get _ (F.keep _ _ q) (hid0 _ _ q)] at hb; cases hb
    · subst e
      obtain ⟨o, es, ep, ho, hod, _⟩ := F.ns
      obtain ⟨sl, h⟩ := k2 _ _ ho fun vs q => by rw [hod] at q; cases q
      rw [hT] at h
      obtain rfl := Option.some.inj h
      have hd : o.data = .fields ts := hd
      rw [hod] at hd; cases hd
    · rw [← ER.names H2] at hm
      obtain ⟨p, hp', rfl⟩ := List.mem_map.mp hm
      have := N p (List.mem_append_left _ (List.mem_append_right _ hp'))
      rw [hideAll_get _ this.1 (hid2 p hp')] at hb; cases hb
    · rw [← All2PR.names P] at hm
      obtain ⟨p, hp', rfl⟩ := List.mem_map.mp hm
      have := N p (List.mem_append_right _ hp')
      by_cases hdd : ∃ es n, p.2.data = .dict es n
      · obtain ⟨es, n, hdd⟩ := hdd
        obtain ⟨sl, h⟩ := k2 _ _ this.1 fun vs q => by rw [hdd] at q; cases q
        rw [hT] at h
        obtain rfl := Option.some.inj h
        have hd : p.2.data = .fields ts := hd
        rw [hdd] at hd; cases hd
      · rw [hideAll_get _ this.1 (hid3 p hp' fun es n q => hdd ⟨es, n, q⟩)] at hb; cases hb
theorem Sat.funFrames (S : Sat c φ ⟨loc, ents ++ hp⟩ s) (hl : c.A.frames = some l) : s.heap.FunFrames (hideAll s.heap (frAt l ++ ents.map (·.1))) l := by
  obtain ⟨m, F, hlr⟩ := S.fr
  obtain ⟨news, φ', N, nd, H, P⟩ := S.nw
  have key : ∀ e ∈ l, e.scope.kind ≠ .module ∧ ∃ L o, e.frame = some L ∧ (hideAll s.heap (frAt l ++ ents.map (·.1))).get? L = none ∧ s.heap.get? L = some o ∧ ∀ vs, o.data ≠ .fields vs := fun e he => by
    obtain ⟨k, L, hf, hL⟩ := S.frm l hl e he
    have hn : (hideAll s.heap (frAt l ++ ents.map (·.1))).get? L = none := hideAll_none _ (List.mem_append_left _ (List.mem_filterMap.mpr ⟨e, he, hf⟩))
    rcases hL with rfl | ⟨o, es, n, hm, hd⟩
    · obtain ⟨o, es, ep, ho, hod, _⟩ := F.ns
      exact ⟨k, _, o, hf, hn, ho, fun vs q => by rw [hod] at q; cases q⟩
    · obtain ⟨⟨a', o'⟩, hp', r⟩ := All2.mem P hm
      obtain rfl : a' = L := r.1
      refine ⟨k, _, o', hf, hn, (N _ (List.mem_append_right _ hp')).1, fun vs q => ?_⟩
      rcases r.2 with h | ⟨_, _, _, _, h⟩
      · rw [show o' = o from h, hd] at q; cases q
      · rw [show o' = _ from h] at q
        have q : o.data = .fields vs := q
        rw [hd] at q; cases q
  have go : ∀ l', (∀ e ∈ l', e ∈ l) → s.heap.FunFrames (hideAll s.heap (frAt l ++ ents.map (·.1))) l' := by
    intro l'
    induction l' with
    | nil => intro _; trivial
    | cons e r ih =>
      intro hh
      obtain ⟨k, h⟩ := key e (hh e (.head _))
      exact ⟨k, h, ih fun x hx => hh x (.tail _ hx)⟩
  exact go l fun _ h => h
end
end Mine

set_option maxRecDepth 100000
set_option Elab.async false
set_option linter.unusedVariables false
open PySem PySem.W PyProof.Rows PySem.Calls
namespace Mine

section
variable {c : Fc} {φ : List (Addr × Obj)} {loc : Loc} {ents hp : Hp} {s : Shared} {l : List Env} {st : St}
theorem Sat.headFresh {a : Addr} {ao : AObj} (S : Sat c φ ⟨loc, (a, ao) :: hp⟩ s) : c.h₀.get? a = none ∧ a ≠ c.env.locals ∧ a ∉ hp.map (·.1) ∧ a ∉ φ.map (·.1) := by
  obtain ⟨news, φ', N, nd, H, P⟩ := S.nw
  cases H with
  | cons r H =>
    rename_i p news
    obtain ⟨a', o⟩ := p
    obtain rfl : a' = a := r.1
    have := N (a', o) (.head _)
    rw [List.cons_append, List.map_cons, List.nodup_cons, List.map_append] at nd
    refine ⟨this.2.2, this.2.1, fun hm => ?_, fun hm => ?_⟩
    · rw [← ER.names H] at hm; exact nd.1 (List.mem_append_left _ hm)
    · rw [← All2PR.names P] at hm; exact nd.1 (List.mem_append_right _ hm)
theorem Sat.newAt {a : Addr} (S : Sat c φ st s) (ha : s.heap.get? a = none) : c.h₀.get? a = none ∧ a ≠ c.env.locals ∧ a ∉ st.hp.map (·.1) ∧ a ∉ φ.map (·.1) := by
  obtain ⟨m, F, hlr⟩ := S.fr
  obtain ⟨news, φ', N, nd, H, P⟩ := S.nw
  refine ⟨?_, fun e => ?_, fun hm => ?_, fun hm => ?_⟩
  · cases q : c.h₀.get? a with
    | none => rfl
    | some o => have := F.keep _ _ q; rw [ha] at this; cases this
  · subst e
    obtain ⟨o, _, _, ho, _⟩ := F.ns
    rw [ha] at ho; cases ho
  · rw [← ER.names H] at hm
    obtain ⟨p, hp, rfl⟩ := List.mem_map.mp hm
    have := (N p (List.mem_append_left _ hp)).1
    rw [ha] at this; cases this
  · rw [← All2PR.names P] at hm
    obtain ⟨p, hp, rfl⟩ := List.mem_map.mp hm
    have := (N p (List.mem_append_right _ hp)).1
    rw [ha] at this; cases this
theorem MX.of_traced (S : Sat c φ ⟨loc, ents ++ hp⟩ s) (hl : c.A.frames = some l) {ea : Addr} {a0 : Value} (hfe : c.h₀.get? ea = none ∧ ea ≠ c.env.locals ∧ ea ∉ hp.map (·.1) ∧ ea ∉ φ.map (·.1)) {h' : Heap}
    (k1 : (hideAll s.heap (frAt l ++ ents.map (·.1))).StaysIn h') (k3 : h'.TracedW (hideAll s.heap (frAt l ++ ents.map (·.1))) ea (.type "ValueError") a0) (k2 : s.heap.UpToSlots h') : MX true c ⟨loc, hp⟩ φ (.ref ea) { s with heap := h' } := by
  obtain ⟨S', fr⟩ := S.step hl k1 k2
  obtain ⟨oe, vs, T, oT, ts, he, ⟨hcls, h0⟩, hd, h1, hnT, hTe, hT, hdT, h3⟩ := k3
  obtain ⟨f1, f2, f3, f4⟩ := fr T oT ts hnT hT hdT
  have S1 := S'.addOld (ao := .raw oe) he hfe.1 hfe.2.1 hfe.2.2.1 hfe.2.2.2 ⟨rfl, fun es n q => by rw [hd] at q; cases q⟩
  have S2 := S1.addOld (ao := .raw oT) hT f1 f2 (fun hm => by
    rcases List.mem_cons.mp hm with h | h
    · exact hTe h
    · exact f3 h) f4 ⟨rfl, fun es n q => by rw [hdT] at q; cases q⟩
  exact ⟨ea, T, oe, oT, rfl, S2, vs, a0, ts, hcls, hd, h0, h1, hdT, h3⟩
theorem MX.flying (h : MX true c ⟨loc, hp⟩ φ (.ref ea) s) (hl : c.A.frames = some l) : ∃ a0 T oT oe, Sat c φ ⟨loc, [(T, .raw oT), (ea, .raw oe)] ++ hp⟩ s ∧ Heap.FlyingW (hideAll s.heap (frAt l ++ [T, ea])) l ea (.type "ValueError") a0 s.heap := by
  obtain ⟨ea', T, oe, oT, e, S, vs, a0, ts, hcls, hd, h0, h1, hdT, h3⟩ := h
  cases e
  obtain ⟨o1, ho1, rfl, _⟩ := S.at (a := T) (ao := .raw oT) (.head _)
  obtain ⟨o2, ho2, rfl, _⟩ := S.at (a := ea) (ao := .raw oe) (.tail _ (.head _))
  refine ⟨a0, T, o1, o2, S, fun b o q => of_hideAll _ q, hideAll_none _ (by simp), S.funFrames (ents := [(T, .raw o1), (ea, .raw o2)]) hl, ?_⟩
  exact ⟨o2, vs, T, o1, ts, ho2, ⟨hcls, h0⟩, hd, h1, hideAll_none _ (by simp), fun e => S.headFresh.2.2.1 (by rw [e]; exact .head _), ho1, hdT, h3⟩
theorem MX.eaFresh {b : Bool} {ea : Addr} (h : MX b c ⟨loc, hp⟩ φ (.ref ea) s) : c.h₀.get? ea = none ∧ ea ≠ c.env.locals ∧ ea ∉ hp.map (·.1) ∧ ea ∉ φ.map (·.1) := by
  cases b with
  | false =>
    obtain ⟨ea', oe, e, S, _⟩ := h
    cases e
    exact S.headFresh
  | true =>
    obtain ⟨ea', T, oe, oT, e, S, _⟩ := h
    cases e
    exact (S.drop (l := [_]) rfl).headFresh
theorem MX.isRef {b : Bool} {e : Value} (h : MX b c st φ e s) : ∃ ea, e = .ref ea := by
  cases b with
  | false => obtain ⟨ea, _, e, _⟩ := h; exact ⟨ea, e⟩
  | true => obtain ⟨ea, _, _, _, e, _⟩ := h; exact ⟨ea, e⟩
theorem leave_MX {b : Bool} {e : Value} {env : Env} {outer : List Env} {L : Addr} (hl : c.A.frames = some (env :: outer)) (hf : env.frame = some L) (h : MX b c ⟨loc, hp⟩ φ e s) : wpAny c.M c.A (leaving env e) (fun _ s' => MX true c ⟨loc, hp⟩ φ e s') (fun _ _ => False) s := by
  obtain ⟨ea, rfl⟩ := h.isRef
  have hfe := h.eaFresh
  cases b with
  | false =>
    obtain ⟨ea', oe, e, S, vs, a0, hcls, hd, h0, h1⟩ := h
    cases e
    obtain ⟨o2, ho2, rfl, _⟩ := S.at (a := ea) (ao := .raw oe) (.head _)
    have S' : Sat c φ ⟨loc, [(ea, .raw o2)] ++ hp⟩ s := S
    refine wpAny_leaving_firstW (base := hideAll s.heap (frAt (env :: outer) ++ [ea])) hl (S'.funFrames hl) hf ho2 (fun b o q => of_hideAll _ q) (hideAll_none _ (by simp)) hd h1 h0 fun h' hL => ?_
    obtain ⟨k1, _, k3, k4⟩ := hL
    rw [hcls] at k3
    exact MX.of_traced S' hl hfe k1 k3 k4
  | true =>
    obtain ⟨a0, T, oT, oe, S, f1, f2, f3, f4⟩ := h.flying hl
    refine wpAny_leaving_nextW (base := hideAll s.heap (frAt (env :: outer) ++ [T, ea])) hl f3 hf f4 f1 f2 fun h' hL => ?_
    obtain ⟨k1, _, k3, k4⟩ := hL
    exact MX.of_traced S hl hfe k1 k3 k4

/-! ## triples that end in an exception -/
noncomputable def TRX {α : Type} (b : Bool) (c : Fc) (t : Sem α) (st : St) (P : St → Prop) : Prop :=
  ∀ φ s, Sat c φ st s → wpN c.M c.A t (fun _ _ => False) (fun e s' => ∃ st', MX b c st' φ e s' ∧ P st') s
end
section
variable {α β γ : Type} {b : Bool} {c : Fc} {st : St} {P : St → Prop}
theorem TRX.bind {m : Sem α} {f : α → Sem β} (h : TRX b c m st P) : TRX b c (m >>= f) st P := fun φ s S => wpN_bind (wpN_mono (h φ s S) (fun _ _ x => x.elim) fun _ _ x => x)
theorem TRX.after {R : α → γ → Prop} {m : Sem α} {f : α → Sem β} (h : TR c m R st fun y st1 => ∀ a, R a y → TRX b c (f a) st1 P) : TRX b c (m >>= f) st P := fun φ s S =>
  wpN_bind (wpN_mono (h φ s S) (fun a s' ⟨y, st1, r, S', q⟩ => q a r φ s' S') fun _ _ x => x.elim)
theorem TRX.keepv {m : Sem α} {vs : List Value} (h : TRX b c m st P) : TRX b c (m.keep vs) st P := fun φ s S => wpN_keep (h φ s S)
theorem TRX.stand {pos : Pos} {f : Unit → Sem α} (h : TRX b c (f ()) st P) : TRX b c (standAt pos >>= f) st P := fun φ s S => wpN_bind (wpN_standAt (h φ s S))
theorem xx_cons {s : Stmt} {ss : List Stmt} (h : TRX b c (exec s c.env) st P) : TRX b c (execs (s :: ss) c.env) st P := TRX.bind h
theorem xx_if {t : PySem.Expr} {bd o : List Stmt} {pos : Pos} (h : EB c t st fun k st1 => CN k (TRX b c (execs bd c.env) st1 P) (TRX b c (execs o c.env) st1 P)) : TRX b c (exec (.If t bd o pos) c.env) st P :=
  TRX.stand (TRX.after (TR.mono h fun k st1 h1 k' e => by
    subst e
    cases k' with
    | true => exact h1
    | false => exact h1))
theorem xx_assign {x : Str} {px : Pos} {e : PySem.Expr} {pos : Pos} (h : TRX b c (eval e c.env) st P) (hs : swapsWithSole [.Name x px] e pos.line c.env = pure false) : TRX b c (exec (.Assign [.Name x px] e pos) c.env) st P := by
  show TRX b c (standAt pos >>= fun _ => swapsWithSole [.Name x px] e pos.line c.env >>= _) st P
  refine TRX.stand ?_
  rw [hs]
  refine TRX.after (R := fun (x y : Bool) => x = y) (TR.pure rfl ?_)
  intro a ea
  subst ea
  exact TRX.bind h
theorem xx_expr {e : PySem.Expr} {pos : Pos} (h : TRX b c (eval e c.env) st P) (hi : interactive c.env = false) (hs : swapsWith e none pos.line c.env = pure false) : TRX b c (exec (.Expr e pos) c.env) st P := by
  show TRX b c (standAt pos >>= fun _ => if interactive c.env then printExpr (eval e c.env) else _) st P
  refine TRX.stand ?_
  rw [hi, if_neg Bool.false_ne_true]
  rw [hs]
  refine TRX.after (R := fun (x y : Bool) => x = y) (TR.pure rfl ?_)
  intro a ea
  subst ea
  exact TRX.bind h
/-- a call that raises -/
noncomputable def CAX (c : Fc) (f : V) (as : List V) (kn : List Str) (ks : List V) (st : St) (P : St → Prop) : Prop :=
  ∀ fv vs kvs, VR fv f → All2 VR vs as → All2 VR kvs ks → TRX true c (call fv vs (kn.zip kvs)) st P
theorem xx_callWith {pos : Pos} {f : Value} {fa : V} {args : List PySem.Expr} {ks : List Keyword} (rf : VR f fa)
    (hk : (keywordEach ks c.env).all (·.1.isSome) = true) (hst : (starEach args c.env).all (fun x => !x.1) = true)
    (h : EL c pos args st fun as st1 => EK c pos ks st1 fun kvs st2 => Keeper c fa st2 ∧ ∀ vs kv, All2 VR vs as → All2 VR kv kvs → TRX b c (call f ([] ++ vs) (((keywordEach ks c.env).filterMap (·.1)).zip kv)) st2 P) :
    TRX b c (callWith pos f [] (backTo pos (starEach args c.env)) (backToKw pos (keywordEach ks c.env))) st P := by
  unfold callWith
  refine TRX.after (TR.holding (TR.mono (evalArgs_tr (Q := fun y st2 => Keeper c fa st2 ∧ ∀ vs kv, All2 VR vs y.1 → All2 VR kv y.2 → TRX b c (call f ([] ++ vs) (((keywordEach ks c.env).filterMap (·.1)).zip kv)) st2 P) hk hst h) ?_))
  rintro ⟨as, kvs⟩ st2 ⟨hkp, hcall⟩ x ⟨kv, ekw, r1, r2⟩
  refine TRX.stand ?_
  obtain ⟨xp, xk⟩ := x
  dsimp only at ekw r1 r2 ⊢
  subst ekw
  have hstar : ((backTo pos (starEach args c.env)).any (·.1) || (backToKw pos (keywordEach ks c.env)).any (·.1.isNone)) = false := by
    rw [Bool.or_eq_false_iff]
    constructor
    · unfold backTo; rw [List.any_map]
      rw [List.any_eq_false]
      intro y hy
      have := List.all_eq_true.mp hst y hy
      simpa using this
    · unfold backToKw; rw [List.any_map]
      rw [List.any_eq_false]
      intro y hy
      have := List.all_eq_true.mp hk y hy
      cases hn : y.1 with
      | none => rw [hn] at this; cases this
      | some z => simp [hn]
  rw [hstar]
  have body := hcall xp kv r1 r2
  cases fa with
  | ref a =>
    cases rf
    intro φ s S
    have hf : ∃ o fd, s.heap.get? a = some o ∧ o.data = .func fd := by
      rcases hkp with ⟨oc, od, fd, sl, e⟩ | ⟨n, q, p, b, sc, cl, c', e⟩
      · exact ⟨_, fd, S.kin _ _ e, rfl⟩
      · obtain ⟨o, ho, pm, ctv, rfl⟩ := S.at e
        exact ⟨_, _, ho, rfl⟩
    obtain ⟨o, fd, ho, hd⟩ := hf
    refine wpN_bind (m := keeperOf (.ref a)) (lift ?_)
    unfold keeperOf
    refine wpAny_bind (wpAny_load ho ?_)
    rw [hd]
    refine wpAny_pure ?_
    dsimp only
    split <;> first
      | exact TRX.bind body φ s S
      | exact TRX.bind (TRX.keepv body) φ s S
  | type n => cases rf; intro φ s S; exact wpN_bind (m := keeperOf (.type n)) (lift (wpAny_pure (TRX.bind body φ s S)))
  | bi n => cases rf; intro φ s S; exact wpN_bind (m := keeperOf (.builtin n)) (lift (wpAny_pure (TRX.bind body φ s S)))
  | none => exact hkp.elim
  | bool => exact hkp.elim
  | int => exact hkp.elim
  | str => exact hkp.elim
  | bytes => exact hkp.elim
theorem xx_call {n : Str} {np pos : Pos} {args : List PySem.Expr} {ks : List Keyword} (h : EV c (.Name n np) st fun f st1 => EL c pos args st1 fun as st2 => EK c pos ks st2 fun kvs st3 => Keeper c f st3 ∧ CAX c f as (kwNames ks) kvs st3 P)
    (hk : (keywordEach ks c.env).all (·.1.isSome) = true) (hst : (starEach args c.env).all (fun x => !x.1) = true) (hn : (keywordEach ks c.env).filterMap (·.1) = kwNames ks) : TRX true c (eval (.Call (.Name n np) args ks pos) c.env) st P := by
  show TRX true c (eval (.Name n np) c.env >>= fun f => callWith pos f [] (backTo pos (starEach args c.env)) (backToKw pos (keywordEach ks c.env))) st P
  refine TRX.after (TR.mono h fun f st1 h1 fv rf => xx_callWith rf hk hst ?_)
  refine TR.mono h1 fun as st2 h2 => TR.mono h2 fun kvs st3 h3 => ⟨h3.1, fun vs kv r1 r2 => ?_⟩
  rw [hn]
  exact h3.2 fv vs kv rf r1 r2
/-- raise ValueError('..') -/
theorem xx_raise {x : Str} {k : Nat} {np p cpos pos : Pos} (hk : c.env.kindOf "ValueError" = some .globalImplicit) (hn : nsIn c.g.K mainGlobals "ValueError" = some none) (hd : c.hd = false) (q : P st) :
    TRX false c (exec (.Raise (some (.Call (.Name "ValueError" np) [.Constant (.str x) k p] [] cpos)) none pos) c.env) st P := fun φ s S => by
  refine lift (Raise_madeB PySem.F.excCall_ValueError PySem.F.excRaise_ValueError (S.ok.hand hd) ?_)
  refine Name_function_global S.ok.kind hk (loadGlobal_builtin (mg := c.g.mg) (mb := c.g.mb) (by rw [S.ok.glob]; exact S.top.g) (mg_none_of S.kin S.top.g hn) (by rw [S.ok.blt]; exact S.top.b) ((S.top.builtins "ValueError" (by decide)).trans PyProof.Rows.Boot.«ValueError») ⟨rfl, ?_⟩)
  refine wpAny_bind (wpAny_bind (wpAny_fresh (wpAny_pure ?_)))
  show wpAny _ _ (pure [Value.str x s.toks] >>= _) _ _ _
  refine wpAny_bind (wpAny_pure (wpAny_bind (wpAny_holding ?_)))
  show wpAny _ _ (pure []) _ _ _
  refine wpAny_pure (wpAny_pure ⟨by show 1 ≤ sizeLine; rw [sizeLine_eq]; decide, fun h' e hx => ⟨st, ?_, q⟩⟩)
  obtain ⟨t, he, htn, ht⟩ := hx.there
  obtain ⟨f1, f2, f3, f4⟩ := S.newAt hx.new
  exact ⟨e, _, rfl, ((S.keeps (tk := s.toks + 1) hx.keeps).addOld (ao := .raw _) he f1 f2 f3 f4 ⟨rfl, fun es n q => by cases q⟩), _, .ref t, rfl, rfl, rfl, rfl⟩
end
end Mine

set_option maxRecDepth 100000
set_option Elab.async false
set_option linter.unusedVariables false
open PySem PySem.W PyProof.Rows PySem.Calls
namespace Mine

section
variable {prog : Program} {w : World} {A : Around} {R : Result → Shared → Prop} {s : Shared}
theorem codeN_funcX {body : List Stmt} {env : Env} (h : wpN (model prog w) (A.deeper env) (execs body env) (fun _ _ => False) (fun e s' => wpN (model prog w) (A.deeper env) (leaving env e) (fun _ s'' => R (.error e) s'') (fun _ _ => False) s') s) : codeN (model prog w) A (.func body env) R s := by
  refine codeN_of_tree ?_
  show wpN _ (A.deeper env) (do point; match ← (execs body env).onRaise (leaving env) with | .ret v => ret v | _ => ret .none) _ _ s
  exact wpN_bind (wpN_point (wpN_bind (wpN_onRaise (wpN_mono h (fun _ _ h' => h'.elim) fun e s' h' => wpN_mono h' (fun _ _ x => x) fun _ _ x => x.elim))))
end
theorem ca_defX {b : Bool} {c : Fc} {st : St} {P : St → Prop} {f : Addr} {oc : Value} {od : Option Addr} {osl : Array (Option Value)} {name qual : Str} {params : Arguments} {body : List Stmt} {scope : Scope} {dV kV doc pm cdv ct : Value} {an : Option Addr}
    {as : List V} {kn : List Str} {ks : List V} {ab : List (Str × V)} {l0 : List Env}
    (hK : c.g.K.lookup f = some ⟨oc, od, .func (fnX name qual params body scope [] dV kV doc pm an cdv ct), osl⟩) (hcd : codeIn c.g.K cdv qual = true) (hroom : 0 < c.room) (hl : c.A.frames = some l0)
    (hb : BN c.g.K (fnX name qual params body scope [] dV kV doc pm an cdv ct) as kn ks ab)
    (h : ∀ L g A, BI ⟨c.g, A, envX qual scope L f cdv (cellsFrom (L + 1) scope.names []), g, c.s₀, c.room - 1, false⟩ ab ⟨[], cellEntries (L + 1) scope.names st.hp⟩ fun st1 => ∀ A', A'.frames = some (envX qual scope L f cdv (cellsFrom (L + 1) scope.names []) :: l0) →
      TRX b ⟨c.g, A', envX qual scope L f cdv (cellsFrom (L + 1) scope.names []), g, c.s₀, c.room - 1, false⟩ (execs body (envX qual scope L f cdv (cellsFrom (L + 1) scope.names []))) st1 fun st2 => P ⟨st.loc, st2.hp⟩)
    (hco : scope.isCoroutine = false) (hgen : scope.isGenerator = false) (hk : scope.kind = .function) : CAX c (.ref f) as kn ks st P := by
  intro fv vs kvs rf r1 r2 φ s S
  cases rf
  obtain ⟨binds, hbind, rb⟩ := hb s S.kin vs kvs r1 r2
  refine wpN_call (codeN_callFn (fd := fnX name qual params body scope [] dV kV doc pm an cdv ct) ?_ (S.kin _ _ hK) rfl hco hgen rfl (codeRec_of S.kin hcd) (lift (hbind _ _ _ _ ?_)))
  · have := S.ok.depth; have : c.A.depth < 1000 := by omega
    exact this
  have ok := fun L cl => S.ok.sub (env := newEnv scope L mainGlobals cl (qual ++ ".<locals>.") (some f) cdv none builtinsNs) rfl rfl hk hroom
  refine wpN_mono (newEnv_wp S (A := c.A.in1) (r := c.room - 1) (hd := false) (scope := scope) (closure := []) (qual := qual ++ ".<locals>.") (func := some f) (code := cdv) (around := none)
    (Q := fun L g st1 => ∀ A', A'.frames = some (envX qual scope L f cdv (cellsFrom (L + 1) scope.names []) :: l0) → TRX b ⟨c.g, A', envX qual scope L f cdv (cellsFrom (L + 1) scope.names []), g, c.s₀, c.room - 1, false⟩ (execs body (envX qual scope L f cdv (cellsFrom (L + 1) scope.names []))) st1 fun st2 => P ⟨st.loc, st2.hp⟩) (fun L cl => (ok L cl).1) rfl rb h) ?_ fun _ _ x => x.elim
  rintro env s1 ⟨L, g, st1, ψ, rfl, S1, hx, hout⟩
  have hfr : (c.A.deeper (envX qual scope L f cdv (cellsFrom (L + 1) scope.names []))).frames = some (envX qual scope L f cdv (cellsFrom (L + 1) scope.names []) :: l0) := by
    show c.A.frames.map _ = _
    rw [hl]; rfl
  refine ⟨S1.top.nolimit, codeN_funcX (wpN_mono (hx (c.A.deeper _) hfr ψ s1 (S1.reA (ok L _).2 (frames_deep hk rfl))) (fun _ _ x => x) ?_)⟩
  rintro e s2 ⟨st2, mx, q⟩
  obtain ⟨ea, rfl⟩ := mx.isRef
  refine wpN_post (lift (leave_MX (c := ⟨c.g, c.A.deeper _, _, g, c.s₀, c.room - 1, false⟩) (L := L) hfr rfl mx)) fun _ s3 m3 => ?_
  obtain ⟨ea', T, oe, oT, e, S3, hx3⟩ := m3
  cases e
  obtain ⟨_, _, _, _, hS⟩ := hout _ _ _ (by rfl) (by rfl) S3
  exact ⟨⟨st.loc, st2.hp⟩, ⟨ea, T, oe, oT, rfl, hS.unFrame S.frm, hx3⟩, q⟩

/-! ## try -/
theorem wpN_runOwnH {M : Model} {A : Around} {E : Value → Shared → Prop} {s : Shared} {c : Code} {env : Env} {e : Value} {Q : Flow → Shared → Prop} (hc : codeN M (A.mark (some e)) c (fun r s' => match r with | .ok f => Q f s' | .error _ => False) s) (hk : held c = false) (hnb : e ≠ byPass) : wpN M A (runOwn c env (some e)) Q E s := by
  unfold runOwn
  refine wpN_onRaise (wpN_run (h := some e) ?_ hk (fun x => hnb (Option.some.inj x)))
  refine codeN_mono hc fun r s' hr => ?_
  cases r with
  | ok f => exact hr
  | error e => exact hr.elim
theorem under_hand {A : Around} {e : Value} {hs : List ExceptHandler} {env : Env} : A.under (.handlers e hs env) = A := Around.under_of_weight rfl rfl
theorem wpN_handleBy {prog : Program} {w : World} {A : Around} {E : Value → Shared → Prop} {s : Shared} {env : Env} {ea : Addr} {t : PySem.Expr} {b₀ : Stmt} {suite : List Stmt} {pos : Pos} {rest : List ExceptHandler} {Q : Flow → Shared → Prop}
    (h : wpN (model prog w) (A.mark (some (.ref ea))) (eval t env) (fun c s₁ => c = .type "ValueError" ∧ s₁.TypeIs (.ref ea) "ValueError" ∧
      wpN (model prog w) (A.mark (some (.ref ea))) (setFlight (.ref ea) none) (fun _ s₂ => wpN (model prog w) (A.mark (some (.ref ea))) (execs (b₀ :: suite) env) Q (fun _ _ => False) s₂) (fun _ _ => False) s₁) (fun _ _ => False) s) :
    wpN (model prog w) A (handleBy (.ref ea) env (.ExceptHandler (some t) none (b₀ :: suite) pos :: rest)) Q E s := by
  rw [handleBy]
  have step2 : ∀ s₁, wpN (model prog w) (A.mark (some (.ref ea))) (setFlight (.ref ea) none) (fun _ s₂ => wpN (model prog w) (A.mark (some (.ref ea))) (execs (b₀ :: suite) env) Q (fun _ _ => False) s₂) (fun _ _ => False) s₁ →
      codeN (model prog w) (A.mark (some (.ref ea))) (.handlers (.ref ea) [.ExceptHandler none none (b₀ :: suite) pos] env) (fun r s' => match r with | .ok f => Q f s' | .error _ => False) s₁ := fun s₁ h₁ => by
    refine codeN_of_tree ?_
    rw [under_hand]
    show wpN _ _ (do return Fin.done (← (handleWith (.ref ea) env [.ExceptHandler none none (b₀ :: suite) pos]).onRaise (fun x => do noteFrame x env; theTreesLotGoes x))) _ _ s₁
    refine wpN_bind (wpN_onRaise (wpN_mono (E := fun _ _ => False) ?_ (fun _ _ x => x) fun _ _ x => x.elim))
    unfold handleWith
    exact wpN_bind (wpN_standAt (wpN_bind (wpN_mono h₁ (fun _ s₂ h₂ => wpN_mono h₂ (fun f s₃ h₃ => wpN_pure h₃) fun _ _ x => x) fun _ _ x => x)))
  have step1 : codeN (model prog w) (A.mark (some (.ref ea))) (.handlers (.ref ea) [.ExceptHandler (some t) none [] pos] env) (fun r s' => match r with
      | .ok f => f = .brk ∧ wpN (model prog w) (A.mark (some (.ref ea))) (setFlight (.ref ea) none) (fun _ s₂ => wpN (model prog w) (A.mark (some (.ref ea))) (execs (b₀ :: suite) env) Q (fun _ _ => False) s₂) (fun _ _ => False) s'
      | .error _ => False) s := by
    refine codeN_of_tree ?_
    rw [under_hand]
    show wpN _ _ (do return Fin.done (← (handleWith (.ref ea) env [.ExceptHandler (some t) none [] pos]).onRaise (fun x => do noteFrame x env; theTreesLotGoes x))) _ _ s
    refine wpN_bind (wpN_onRaise (wpN_mono (E := fun _ _ => False) ?_ (fun _ _ x => x) fun _ _ x => x.elim))
    unfold handleWith
    refine wpN_bind (wpN_standAt (wpN_bind (wpN_post h fun cv s₁ h₁ => wpN_bind (wpN_standAt (wpN_bind ?_)))))
    obtain ⟨rfl, hX, hk⟩ := h₁
    exact lift (wpAny_excMatches_type (b := true) hX PySem.F.isExc_ValueError PySem.F.notTuple_ValueError PySem.F.self_ValueError (wpN_pure (wpN_pure ⟨rfl, hk⟩)))
  refine wpN_bind (wpN_holding (wpN_runOwnH (codeN_mono step1 fun r s₁ h₁ => ?_) rfl (by intro q; cases q)))
  cases r with
  | error x => exact h₁
  | ok f =>
    obtain ⟨rfl, hk⟩ := h₁
    refine wpN_bind (wpN_pure ?_)
    simp only [Bool.not_true, Bool.false_eq_true, if_false]
    refine wpN_bind (wpN_holding (wpN_runOwnH (codeN_mono (step2 _ hk) fun r s₂ h₂ => ?_) rfl (by intro q; cases q)))
    cases r with
    | error x => exact h₂
    | ok f => exact wpN_pure h₂
noncomputable abbrev mkFc (c : Fc) (e : Value) : Fc := ⟨c.g, c.A.mark (some e), c.env, c.h₀, c.s₀, 0, true⟩
theorem Sat.mark {c : Fc} {φ : List (Addr × Obj)} {st : St} {s : Shared} (S : Sat c φ st s) (e : Value) : Sat (mkFc c e) φ st s :=
  ⟨⟨S.ok.top, S.ok.kin, S.ok.glob, S.ok.blt, S.ok.kind, fun q => by (cases q), fun _ => rfl, by have := S.ok.depth; show c.A.depth + 0 ≤ 400; omega, by have := S.ok.units; show c.A.units + 10 * 0 ≤ 1000; omega⟩, S.fr, S.nw, S.rest, S.frm⟩
theorem Sat.unmark {c : Fc} {φ : List (Addr × Obj)} {st : St} {s : Shared} (ok : FcOk c) {e : Value} (S : Sat (mkFc c e) φ st s) : Sat c φ st s := ⟨ok, S.fr, S.nw, S.rest, S.frm⟩
theorem es_try {c : Fc} {st : St} {P : St → Prop} {Q : AFlow → St → Prop} {body suite : List Stmt} {b₀ : Stmt} {np hpos pos : Pos} {outer : List Env} {L : Addr} (hl : c.A.frames = some (c.env :: outer)) (hf : c.env.frame = some L) (hk : c.env.kindOf "ValueError" = some .globalImplicit) (hn : nsIn c.g.K mainGlobals "ValueError" = some none)
    (hb : TRX true c (execs body c.env) st P) (hh : ∀ st1 e, P st1 → EX (mkFc c e) (b₀ :: suite) st1 Q) : ES c (.Try body [.ExceptHandler (some (.Name "ValueError" np)) none (b₀ :: suite) hpos] [] [] pos) st Q := by
  intro φ s S
  rw [arm_exec_Try]
  refine wpN_bind (wpN_standAt ?_)
  unfold tryStmt
  simp only [List.isEmpty_nil, if_true, List.isEmpty_cons, Bool.false_and, Bool.false_eq_true, if_false]
  refine wpN_bind (wpN_attempt (wpN_mono (hb φ s S) (fun _ _ x => x.elim) ?_))
  intro e s1 hcp2
  refine cps fun Pcp kcp => ?_
  obtain ⟨⟨loc, hp⟩, mx, p⟩ := hcp2
  refine kcp ?_
  clear kcp Pcp
  obtain ⟨ea, rfl⟩ := mx.isRef
  have hfe := mx.eaFresh
  have ok : FcOk c := S.ok
  refine cps fun Pcp kcp => ?_
  obtain ⟨a0, T, oT, oe, S1, fl⟩ := mx.flying hl
  refine kcp ?_
  clear kcp Pcp
  refine wpN_bind (m := noteFrame (.ref ea) c.env) (wpN_post (lift (wpAny_looks_onW (base := hideAll s1.heap (frAt (c.env :: outer) ++ [T, ea])) (Q := fun _ s' => ∃ h', s' = { s1 with heap := h' } ∧ Heap.HeldW (hideAll s1.heap (frAt (c.env :: outer) ++ [T, ea])) (c.env :: outer) ea (.type "ValueError") a0 L h' ∧ s1.heap.UpToSlots h') hl hf fl fun h' x1 x2 => ⟨h', rfl, x1, x2⟩)) ?_)
  intro _ _ hcp2
  refine cps fun Pcp kcp => ?_
  obtain ⟨h2, rfl, held2, sm2⟩ := hcp2
  refine kcp ?_
  clear kcp Pcp
  refine wpN_bind (m := setFlight (.ref ea) none) (wpN_post (lift (wpAny_landsW (base := hideAll s1.heap (frAt (c.env :: outer) ++ [T, ea])) (Q := fun _ s' => ∃ h', s' = { s1 with heap := h' } ∧ Heap.FlyingW (hideAll s1.heap (frAt (c.env :: outer) ++ [T, ea])) (c.env :: outer) ea (.type "ValueError") a0 h' ∧ h2.UpToSlots h') held2 fun h' x1 x2 => ⟨h', rfl, x1, x2⟩)) ?_)
  intro _ _ hcp2
  refine cps fun Pcp kcp => ?_
  obtain ⟨h3, rfl, fl3, sm3⟩ := hcp2
  refine kcp ?_
  clear kcp Pcp
  have mx3 : MX true c ⟨loc, hp⟩ φ (.ref ea) { s1 with heap := h3 } := MX.of_traced S1 hl hfe fl3.1 fl3.2.2.2 (sm2.trans sm3)
  refine cps fun Pcp kcp => ?_
  obtain ⟨ea', T1, oe1, oT1, e3, S3, hx3⟩ := mx3
  refine kcp ?_
  clear kcp Pcp
  cases e3
  refine wpN_handleBy ?_
  have hname := ev_bi (c := mkFc c (.ref ea)) (st := ⟨loc, (T1, .raw oT1) :: (ea, .raw oe1) :: hp⟩) (x := "ValueError") (pos := np) (Q := fun v st' => v = .type "ValueError" ∧ st' = ⟨loc, (T1, .raw oT1) :: (ea, .raw oe1) :: hp⟩) hk hn PyProof.Rows.Boot.«ValueError» (by decide) (.type _) ⟨rfl, rfl⟩ (by decide)
  refine wpN_post (hname φ _ (S3.mark _)) ?_
  intro cv s4 hcp2
  refine cps fun Pcp kcp => ?_
  obtain ⟨_, _, rv, S4, rfl, rfl⟩ := hcp2
  refine kcp ?_
  clear kcp Pcp
  cases rv
  have S4' : Sat c φ ⟨loc, (T1, .raw oT1) :: (ea, .raw oe1) :: hp⟩ s4 := S4.unmark ok
  have mx4 : MX true c ⟨loc, hp⟩ φ (.ref ea) s4 := ⟨ea, T1, oe1, oT1, rfl, S4', hx3⟩
  have hfe4 := mx4.eaFresh
  refine cps fun Pcp kcp => ?_
  obtain ⟨a2, T2, oT2, oe2, S5, fl5⟩ := mx4.flying hl
  refine kcp ?_
  clear kcp Pcp
  refine ⟨rfl, fl5.there, ?_⟩
  refine wpN_post (lift (lands_againW (base := hideAll s4.heap (frAt (c.env :: outer) ++ [T2, ea])) (Q := fun _ s' => ∃ h', s' = { s4 with heap := h' } ∧ Heap.FlyingW (hideAll s4.heap (frAt (c.env :: outer) ++ [T2, ea])) (c.env :: outer) ea (.type "ValueError") a2 h' ∧ s4.heap.UpToSlots h') fl5 fun h' x1 x2 => ⟨h', rfl, x1, x2⟩)) ?_
  intro _ _ hcp2
  refine cps fun Pcp kcp => ?_
  obtain ⟨h6, rfl, fl6, sm6⟩ := hcp2
  refine kcp ?_
  clear kcp Pcp
  have mx6 : MX true c ⟨loc, hp⟩ φ (.ref ea) { s4 with heap := h6 } := MX.of_traced S5 hl hfe4 fl6.1 fl6.2.2.2 sm6
  refine cps fun Pcp kcp => ?_
  obtain ⟨ea'', T3, oe3, oT3, e6, S6, _⟩ := mx6
  refine kcp ?_
  clear kcp Pcp
  cases e6
  have S7 : Sat c φ ⟨loc, hp⟩ { s4 with heap := h6 } := S6.drop (l := [_, _]) rfl
  refine wpN_post (hh ⟨loc, hp⟩ (.ref ea) p φ _ (S7.mark _)) ?_
  intro f s8 hcp2
  refine cps fun Pcp kcp => ?_
  obtain ⟨f', st8, rf, S8, q⟩ := hcp2
  refine kcp ?_
  clear kcp Pcp
  exact ⟨f', st8, rf, S8.unmark ok, q⟩
end Mine

set_option maxRecDepth 100000
set_option Elab.async false
set_option maxHeartbeats 2000000
set_option linter.unusedVariables false
open PySem PySem.W PyProof.Rows PySem.Calls
namespace Mine
/-! ## more leaves: bytes in order, listed, sorted -/
theorem slot_bytes_lt : Slot "bytes" (cmpInfo .Lt).2.1 "bytes.__lt__" :=
  .of (owner := "bytes") (n := "__lt__") (by rw [typeLookup_type, builtinLookup_eq_fast]; kernel_rfl) (by decide +kernel) (by decide +kernel) (by decide +kernel)
    (by first | exact .inl (by decide +kernel) | exact .inr (by decide +kernel)) (by rw [isSubtype_type]; kernel_rfl)
theorem entry_bytes_lt : entryFor table "bytes.__lt__" = some Builtin.«bytes.__lt__» := entryFor_of_tree (by kernel_rfl)
theorem args_bytes_lt_2 (a b : Value) : argsOk "bytes.__lt__" ⟨[a, b], []⟩ := by
  unfold argsOk; rw [signature?_of (id := "bytes.__lt__") (n := ['_', '_', 't', 'l', '_', '_']) (o := ['s', 'e', 't', 'y', 'b']) (by kernel_rfl) FB.owner_bytes]; kernel_rfl
/-- the dictionary's order -/
noncomputable def blt : List Nat → List Nat → Bool
  | [], [] => false
  | [], _ :: _ => true
  | _ :: _, [] => false
  | x :: xs, y :: ys => if x < y then true else if y < x then false else blt xs ys
theorem order_lt : ∀ a b : List UInt8, (Builtin.Bytes.order a b == .lt) = blt (a.map (·.toNat)) (b.map (·.toNat))
  | [], [] => rfl
  | [], _ :: _ => rfl
  | _ :: _, [] => rfl
  | x :: a, y :: b => by
    simp only [Builtin.Bytes.order, List.map_cons, blt]
    by_cases h1 : x < y
    · have h1' : x.toNat < y.toNat := h1
      simp [h1, h1']
    · have h1' : ¬ x.toNat < y.toNat := h1
      by_cases h2 : x > y
      · have h2' : y.toNat < x.toNat := h2
        simp [h1, h1', h2, h2']
      · have h2' : ¬ y.toNat < x.toNat := h2
        simp [h1, h1', h2, h2', order_lt a b]
theorem gives_bytes_lt (b c : Array UInt8) (t u : Tok) : Gives (Builtin.«bytes.__lt__» ⟨[.bytes b t, .bytes c u], []⟩) (.val (.bool (blt (bnat b) (bnat c)))) := by
  refine .of_wp fun M A E s Q hq => ?_
  show wpAny M A (isInstance (.bytes c u) (.type "bytes") >>= fun r => _) _ E s
  refine wpAny_bind (wpAny_isInstance (typeIs_bytes s c u) F.sub_bytes_bytes ?_)
  exact wpAny_pure ⟨_, rfl, by unfold bnat at hq; rw [← order_lt] at hq; exact hq⟩
section
variable {c : Fc} {st : St} {Q : V → St → Prop}
theorem co_ltBytes {i j : List Nat} (q : Q (.bool (blt i j)) st) : CO c .Lt (.bytes i) (.bytes j) st Q := fun v v' r r' => by
  cases r; cases r'
  exact TR.leaf fun φ s S => compareOp_gives (op := .Lt) (typeIs_bytes s _ _) (typeIs_bytes s _ _) slot_bytes_lt entry_bytes_lt (args_bytes_lt_2 _ _) (gives_bytes_lt _ _ _ _) (fun e => nomatch e) ⟨_, st, .bool _, S, q⟩
theorem bo_mulB {l : List Nat} {n : Nat} (h0 : l ≠ []) (hl : l.length ≤ 16) (hn : n ≤ 1048576) (q : Q (.bytes (List.replicate n l).flatten) st) : BO c .Mult (.bytes l) (.int n) st Q := fun v v' r r' => by
  cases r'
  rename_i t'
  obtain ⟨b, t, rfl, rfl⟩ : ∃ b t, v = .bytes b t ∧ l = bnat b := by cases r; exact ⟨_, _, rfl, rfl⟩
  have eb : b = b.toList.toArray := by simp
  have hne : b.toList ≠ [] := fun e => h0 (by unfold bnat; rw [e]; rfl)
  rw [eb]
  refine TR.leaf fun φ s S => bytes_mul_any hne (by omega) (by omega) (by simpa [bnat] using hl) fun t' k => ⟨_, st, ?_, S.toks _, q⟩
  have : (List.replicate n (bnat b)).flatten = bnat ((List.replicate (n : Int).toNat b.toList).flatten).toArray := by
    unfold bnat
    simp [List.map_flatten]
  rw [this]; exact .bytes _ _
theorem ca_sortedL {a : Addr} {ns : List Int} (hm : RL st.hp a (ns.map V.int)) (hz : ns.length < 64) (q : ∀ D (ns' : List Int), ns'.Perm ns → ns'.Pairwise (· ≤ ·) → Q (.ref D) ⟨st.loc, (D, .list (ns'.map V.int)) :: st.hp⟩) : CAn c "sorted" [.ref a] st Q := fun ws r => by
  cases r with
  | cons r h =>
    cases h; cases r
    refine TR.leaf fun φ s S => ?_
    obtain ⟨its, n, hl, H, hL⟩ := S.listR hm
    have hi := intsAre H
    have h1 := H.length
    simp at h1
    obtain ⟨m, news, F, N, mk, _⟩ := S.lib
    refine kso_sorted F N (vs := its.toList) (by simpa using hL) hi (by omega) fun D vs' ns' k h' F' N' hlt hi' _ hp hs _ => ?_
    exact ⟨.ref D, _, .ref D, mk h' s.toks D _ (.list (ns'.map V.int)) (.inr fun q hq => hlt q hq) F' N' ⟨_, _, rfl, by simpa using IntsAre.all2 hi'⟩, q D ns' hp hs⟩
theorem ca_listRange {r : Addr} {a b d : Int} {n : Nat} {loc : Loc} {hp : Hp} (hs : Builtin.Range.small a b d = true) (hn : Builtin.Range.rangeSize a b d = n) (hz : n ≤ 16777216) (q : ∀ D, Q (.ref D) ⟨loc, (D, .list (rItems a n d)) :: hp⟩) (hd : c.hd = false := by rfl) : CAt c "list" [.ref r] ⟨loc, (r, .range a b d) :: hp⟩ Q := fun ws rr => by
  cases rr with
  | cons rr h =>
    cases h; cases rr
    refine TR.leaf fun φ s S => ?_
    obtain ⟨o, ho, t, u, v, rfl⟩ := S.at (a := r) (ao := .range a b d) (.head _)
    refine call_list_range (S.ok.hand hd) ho hs hn (by omega) fun h' tk acc' c' hk hS hacc => ?_
    have S' := (S.drop (l := [_]) rfl)
    refine ⟨_, _, .ref _, S'.add (tk := tk) (ao := .list (rItems a n d)) (Nat.le_refl _) hk hS ⟨acc', c', rfl, ?_⟩, q _⟩
    obtain ⟨h1, h2⟩ := hacc
    have key : ∀ (l : List Value) (k : Nat), (∀ (j : Nat) (v : Value), l[j]? = some v → ∃ t, v = .int (a + ((k + j : Nat) : Int) * d) t) → All2 VR l ((List.range' k l.length).map fun i : Nat => V.int (a + i * d)) := by
      intro l
      induction l with
      | nil => intro k _; exact .nil
      | cons x l ih =>
        intro k h
        rw [List.length_cons, List.range'_succ, List.map_cons]
        obtain ⟨t, rfl⟩ := h 0 x rfl
        refine .cons (show VR _ _ from by rw [Nat.add_zero]; exact VR.int _ _) (ih (k + 1) fun j v hv => ?_)
        have := h (j + 1) v (by simpa using hv)
        rw [show k + (j + 1) = k + 1 + j by omega] at this
        exact this
    have := key acc'.toList 0 fun j v hv => by
      have := h2 j v (by simpa using hv)
      rw [Nat.zero_add]; exact this
    rw [show acc'.toList.length = n by simpa using h1] at this
    unfold rItems
    rw [List.range_eq_range']
    exact this
end
end Mine

set_option maxRecDepth 100000
set_option Elab.async false
set_option maxHeartbeats 2000000
set_option linter.unusedVariables false
open PySem PySem.W PyProof.Rows PySem.Calls
namespace Mine
section
variable {prog : Program} {w : World} {A : Around} {E : Value → Shared → Prop} {s : Shared}
theorem hint_bytes {b : Array UInt8} {t : Tok} {Q : Bool → Shared → Prop} (hlen : b.size ≤ 16777216) (h : ∀ r k, Q r { s with toks := k }) : wpAny (model prog w) A (Builtin.List.listLengthHint (.bytes b t)) Q E s := by
  unfold Builtin.List.listLengthHint
  refine wpAny_bind (wpAny_specialOf (typeIs_bytes s b t) FB.slot_bytes_len.lookup ?_)
  generalize hid : ("bytes.__len__" : String) = id0
  wp_delta
  rw [show splitId id0 = some ("bytes", "__len__") from by subst hid; decide +kernel]
  subst hid
  refine wpAny_bind (wpAny_isInstance (T := "bytes") (b := true) (typeIs_bytes s b t) F.sub_bytes_bytes ?_)
  refine wpAny_ite_split (fun hab => absurd hab (by decide)) (fun _ => ?_)
  refine wpAny_ite_split (fun _ => ?_) (fun _ => ?_)
  · refine wpAny_bind (wpAny_typeOf (T := "bytes") (typeIs_bytes s b t) ?_)
    exact wpAny_pure (h false s.toks)
  refine wpAny_ite_split (fun _ => ?_) (fun hab => absurd rfl hab)
  refine wpAny_bind (wpAny_rule ?_)
  refine wpAny_bind (wpAny_attempt (len_bytes (by omega) ?_))
  have htl : Builtin.List.listTooLong ((b.size : Int).toNat) = false := by simp [Builtin.List.listTooLong, sizeLine]; omega
  refine wpAny_bind (m := asInt? _) (wpAny_pure ?_)
  exact wpAny_ite_split (fun hab => absurd hab (by rw [htl]; decide)) (fun _ => wpAny_pure (h _ _))
/-- the items of bytes -/
noncomputable def BI8 (b : Array UInt8) (l : List Value) : Prop := All2 VR l ((bnat b).map fun n : Nat => V.int n)
theorem BI8.of {b : Array UInt8} {acc : Array Value} (h : ItemsOf (fun i v => ∃ c u, b[i]? = some c ∧ v = .int (c.toNat : Int) u) acc b.size) : BI8 b acc.toList := by
  obtain ⟨h1, h2⟩ := h
  have key : ∀ (l : List UInt8) (m : List Value), m.length = l.length → (∀ (i : Nat) (v : Value), m[i]? = some v → ∃ c u, l[i]? = some c ∧ v = .int (c.toNat : Int) u) → All2 VR m (l.map fun c => V.int (c.toNat : Int)) := by
    intro l
    induction l with
    | nil => intro m hm _; cases m with
      | nil => exact .nil
      | cons => cases hm
    | cons c l ih =>
      intro m hm h
      cases m with
      | nil => cases hm
      | cons x m =>
        obtain ⟨c', u, hc, rfl⟩ := h 0 x rfl
        cases hc
        exact .cons (.int _ _) (ih m (by simpa using hm) fun i v hv => by simpa using h (i + 1) v (by simpa using hv))
  unfold BI8 bnat
  rw [List.map_map]
  exact key b.toList acc.toList (by simpa using h1) fun i v hv => by
    have := h2 i v (by simpa using hv)
    simpa using this
theorem extend_bytes {R : Result → Shared → Prop} {b : Array UInt8} {t : Tok} (hh : A.handled = none) (hlen : b.size ≤ 16777216) (S : Addr) (res : Value) (c₀ : Nat) (hS : s.heap.get? S = some { cls := .type "list", data := .seq #[] c₀ })
    (hR : ∀ h' tk acc' c', (∀ b o, b ≠ S → s.heap.get? b = some o → h'.get? b = some o) → h'.get? S = some { cls := .type "list", dict := none, data := .seq acc' c', slots := #[] } → BI8 b acc'.toList → R (.ok (.ret res)) { s with heap := h', toks := tk }) :
    wpAny (model prog w) A.in1 (Builtin.List.listExtendWith (.ref S) (.bytes b t) res)
      (fun fin s' => match fin with | .done f => R (.ok f) s' | .again c' => c'.quiet = true ∧ codeAny (model prog w) A c' R s') (fun e s' => R (.error e) s') s := by
  have hSlt : S < s.heap.objs.size := Heap.lt_size hS
  have hSI : S ≠ s.heap.objs.size := Nat.ne_of_lt hSlt
  have hSf : S ∉ [s.heap.objs.size] := fun hm => hSI (List.mem_singleton.mp hm)
  have W := (KBw.walks (prog := prog) (w := w) (A := A.in1) hh s.heap.objs.size b t).toS
  have key : ∀ (h : Heap) (c₁ tk : Nat), KBw.IsBytesIter h s.heap.objs.size b t 0 → (∀ b o, b ≠ S → s.heap.get? b = some o → h.get? b = some o) →
      h.get? S = some { cls := .type "list", data := .seq #[] c₁ } → codeAny (model prog w) A (.builtin "list.extend.loop" ⟨[.ref S, .ref s.heap.objs.size, res], []⟩) R { s with heap := h, toks := tk } := by
    intro h c₁ tk hit hk hS₁
    refine codeAny_extend_loopS W (by rw [sizeLine_eq]; omega) S hSf res b.size 0 _ #[] c₁ rfl (Nat.zero_le _) hit hS₁ (ItemsOf.nil _) fun s' acc' c' hm hS' hacc => ?_
    rw [Moved.eq_with hm]
    refine hR s'.heap s'.toks acc' c' (fun b o hb e => hm.heap b o (fun hmem => ?_) (hk b o hb e)) hS' (.of hacc)
    rcases List.mem_cons.mp hmem with e' | hmem
    · exact hb e'
    · exact absurd (Heap.lt_size e) (by rw [List.mem_singleton.mp hmem]; exact Nat.lt_irrefl _)
  unfold Builtin.List.listExtendWith
  refine wpAny_bind (wpAny_typeOf (T := "bytes") (typeIs_bytes s b t) ?_)
  have h1 : Builtin.List.listSameRef (.ref S) (.bytes b t) = false := rfl
  have h2 : (Value.type "bytes" == Value.type "list") = false := by decide
  have h3 : (Value.type "bytes" == Value.type "tuple") = false := by decide
  simp only [h1, h2, h3, Bool.or_false, Bool.false_eq_true, if_false]
  refine wpAny_bind (KBw.pyIter_bytes ?_)
  refine wpAny_bind (wpAny_holding (hint_bytes hlen fun r k => ?_))
  have hit₁ : KBw.IsBytesIter (s.heap.push { cls := .type "bytes_iterator", data := .fields #[.bytes b t, .int 0 0] }) s.heap.objs.size b t 0 := ⟨_, Heap.get?_push_size _ rfl, rfl, rfl⟩
  have hS₁ := Heap.get?_push_of_some { cls := .type "bytes_iterator", data := .fields #[.bytes b t, .int 0 0] } hS
  refine wpAny_ite_split (fun _ => ?_) (fun _ => wpAny_pure ⟨plainId_quiet F.plain_extend_loop _, key _ c₀ _ hit₁ (fun b o _ e => Heap.get?_push_of_some _ e) hS₁⟩)
  refine wpAny_bind (wpAny_rule ?_)
  refine wpAny_bind ?_
  show wpAny _ _ (updateSeq S (·.push .none) >>= fun _ => updateSeq S (·.pop)) _ _ _
  refine wpAny_bind (wpAny_updateSeq hS₁ rfl ?_)
  have hS₂ := Heap.get?_update_self (Obj.mapSeq (·.push Value.none)) hS₁ rfl
  refine wpAny_updateSeq (hz := by seq_fits) hS₂ rfl ?_
  have hS₃ := Heap.get?_update_self (Obj.mapSeq (·.pop)) hS₂ rfl
  refine wpAny_pure ⟨plainId_quiet F.plain_extend_loop _, key _ _ _ ?_ (fun b o hb e => ?_) hS₃⟩
  · obtain ⟨o, ho, r⟩ := hit₁
    exact ⟨o, (Heap.get?_update_other _ _ hSI).trans ((Heap.get?_update_other _ _ hSI).trans ho), r⟩
  · exact (Heap.get?_update_other _ _ (Ne.symm hb)).trans ((Heap.get?_update_other _ _ (Ne.symm hb)).trans (Heap.get?_push_of_some _ e))
theorem list_init_bytes {R : Result → Shared → Prop} {b : Array UInt8} {t : Tok} (hh : A.handled = none) (hlen : b.size ≤ 16777216) (S : Addr) (hS : s.heap.get? S = some { cls := .type "list", data := .seq #[] })
    (hR : ∀ h' tk acc' c', (∀ b o, b ≠ S → s.heap.get? b = some o → h'.get? b = some o) → h'.get? S = some { cls := .type "list", dict := none, data := .seq acc' c', slots := #[] } → BI8 b acc'.toList → R (.ok (.ret .none)) { s with heap := h', toks := tk }) :
    wpAny (model prog w) A.in1 (Builtin.«list.__init__» ⟨[.ref S, .bytes b t], []⟩)
      (fun fin s' => match fin with | .done f => R (.ok f) s' | .again c' => c'.quiet = true ∧ codeAny (model prog w) A c' R s') (fun e s' => R (.error e) s') s := by
  show wpAny _ _ (do let old ← Builtin.List.listItems (.ref S); Builtin.List.listUpdate (.ref S) (fun _ => #[]); letGo old.toList.reverse; Builtin.List.listExtendWith (.ref S) (.bytes b t) .none) _ _ s
  refine wpAny_bind ?_
  unfold Builtin.List.listItems
  refine wpAny_bind (wpAny_seqItems hS rfl (wpAny_pure ?_))
  show wpAny _ _ (updateSeq S (fun _ => #[]) >>= fun _ => letGo (#[] : Array Value).toList.reverse >>= fun _ => Builtin.List.listExtendWith (.ref S) (.bytes b t) .none) _ _ s
  refine wpAny_bind (wpAny_updateSeq hS rfl ?_)
  have hS₂ := Heap.get?_update_self (Obj.mapSeq (fun _ => (#[] : Array Value))) hS rfl
  have oth : ∀ b o, b ≠ S → s.heap.get? b = some o → (s.heap.update S (Obj.mapSeq (fun _ => (#[] : Array Value)))).get? b = some o :=
    fun b o hb e => (Heap.get?_update_other _ _ (Ne.symm hb)).trans e
  refine wpAny_bind (wpAny_letGo ?_)
  refine extend_bytes hh hlen S .none _ hS₂ fun h' tk acc' c' hk hS' hacc => ?_
  exact hR h' tk acc' c' (fun b o hb e => hk b o hb (oth b o hb e)) hS' hacc
theorem call_list_bytes {Q : Value → Shared → Prop} {b : Array UInt8} {t : Tok} (hh : A.handled = none) (hlen : b.size ≤ 16777216)
    (hQ : ∀ h' tk acc' c', (∀ b o, s.heap.get? b = some o → h'.get? b = some o) → h'.get? s.heap.objs.size = some { cls := .type "list", dict := none, data := .seq acc' c', slots := #[] } → BI8 b acc'.toList → Q (.ref s.heap.objs.size) { s with heap := h', toks := tk }) :
    wpAny (model prog w) A (call (.type "list") [.bytes b t]) Q E s := by
  refine callType_codes (Q₁ := fun obj s₁ => obj = .ref s.heap.objs.size ∧ s₁ = { s with heap := s.heap.push { cls := .type "list", data := .seq #[] } }) F.called_list (F.typeCall_list_1 _) F.entry_list_init
    (code_list_new _ ⟨rfl, rfl⟩) fun obj s₁ h₁ => ?_
  obtain ⟨rfl, rfl⟩ := h₁
  have hS : (s.heap.push { cls := .type "list", data := .seq #[] }).get? s.heap.objs.size = some { cls := .type "list", data := .seq #[] } := Heap.get?_push_size _ rfl
  refine ⟨⟨_, hS, rfl⟩, F.args_list_init_2 _ _, list_init_bytes (A := A.in1) hh hlen _ hS fun h' tk acc' c' hk hS' hacc => ?_⟩
  exact ⟨rfl, hQ h' tk acc' c' (fun b o e => hk b o (Nat.ne_of_lt (Heap.lt_size e)) (Heap.get?_push_of_some _ e)) hS' hacc⟩
end
section
variable {c : Fc} {st : St} {Q : V → St → Prop}
theorem ca_listB {l : List Nat} (hz : l.length ≤ 16777216) (q : ∀ D, Q (.ref D) ⟨st.loc, (D, .list (l.map fun n : Nat => V.int n)) :: st.hp⟩) (hd : c.hd = false := by rfl) : CAt c "list" [.bytes l] st Q := fun ws r => by
  cases r with
  | cons r h =>
    cases h; cases r
    rename_i b t
    refine TR.leaf fun φ s S => ?_
    refine call_list_bytes (S.ok.hand hd) (by simpa [bnat] using hz) fun h' tk acc' c' hk hS hacc => ?_
    exact ⟨_, _, .ref _, S.add (tk := tk) (ao := .list ((bnat b).map fun n : Nat => V.int n)) (Nat.le_refl _) hk hS ⟨acc', c', rfl, hacc⟩, q _⟩
end
end Mine

set_option maxRecDepth 100000
set_option Elab.async false
set_option maxHeartbeats 2000000
set_option linter.unusedVariables false
open PySem PySem.W PyProof.Rows PySem.Calls
namespace Mine
section
variable {prog : Program} {w : World} {A : Around} {E : Value → Shared → Prop} {s : Shared}
theorem collect_bytes {b : Array UInt8} {t : Tok} {Q : List Value → Shared → Prop} (hh : A.handled = none) (hlen : b.size ≤ 16777216)
    (h : ∀ vs h' tk, BI8 b vs → (∀ b o, s.heap.get? b = some o → h'.get? b = some o) → s.heap.objs.size ≤ h'.objs.size → Q vs { s with heap := h', toks := tk }) : wpAny (model prog w) A (collect (.bytes b t)) Q E s := by
  unfold collect
  refine wpAny_bind (wpAny_runValue (codeAny_builtin F.entry_proto_collect ?_))
  rw [Around.under_plainId F.plain_proto_collect _]
  show wpAny _ A.in1 (newList [] >>= fun l => again (.builtin "list.__iadd__" ⟨[l, .bytes b t], []⟩)) _ _ s
  refine wpAny_bind (wpAny_newObj_type ?_)
  refine wpAny_pure ⟨plainId_quiet F.plain_list_iadd _, codeAny_builtin F.entry_list_iadd ?_⟩
  rw [Around.under_plainId F.plain_list_iadd _]
  show wpAny _ A.in1 (Builtin.List.listExtendWith (.ref s.heap.objs.size) (.bytes b t) (.ref s.heap.objs.size)) _ _ _
  refine wpAny_mono (extend_bytes (A := A) (R := fun r s' => r = .ok (.ret (.ref s.heap.objs.size)) ∧ ∃ h' tk acc' c', s' = { s with heap := h', toks := tk } ∧ BI8 b acc'.toList ∧ (∀ b o, s.heap.get? b = some o → h'.get? b = some o) ∧ h'.get? s.heap.objs.size = some { cls := .type "list", dict := none, data := .seq acc' c', slots := #[] })
    (s := { s with heap := s.heap.push { cls := .type "list", data := .seq ([] : List Value).toArray } }) hh hlen s.heap.objs.size (.ref s.heap.objs.size) 0 (Heap.get?_push_size s.heap rfl) fun h' tk acc' c' hk hS hacc => ⟨rfl, h', tk, acc', c', rfl, hacc, fun b o e => hk b o (Nat.ne_of_lt (Heap.lt_size e)) (Heap.get?_push_of_some _ e), hS⟩) ?_ ?_
  · have fin : ∀ (r : Result) (s' : Shared), (r = .ok (.ret (.ref s.heap.objs.size)) ∧ ∃ h' tk acc' c', s' = { s with heap := h', toks := tk } ∧ BI8 b acc'.toList ∧ (∀ b o, s.heap.get? b = some o → h'.get? b = some o) ∧ h'.get? s.heap.objs.size = some { cls := .type "list", dict := none, data := .seq acc' c', slots := #[] }) →
        (match r with | .ok (.ret v) => wpAny (model prog w) A (match v with | .ref a => (do match (← load a).data with | .seq xs _ => pure xs.toList | _ => unsupported "internal:collect") | _ => unsupported "internal:collect") Q E s' | .ok _ => False | .error e => E e s' : Prop) := by
      rintro r s' ⟨rfl, h', tk, acc', c', rfl, hacc, hk, hS⟩
      show wpAny _ A (load s.heap.objs.size >>= _) _ _ _
      refine wpAny_bind (wpAny_load hS ?_)
      exact wpAny_pure (h _ h' tk hacc hk (Nat.le_of_lt (Heap.lt_size hS)))
    intro fin' s' hf
    cases fin' with
    | done f => exact fin _ _ hf
    | again c' => exact ⟨hf.1, codeAny_mono hf.2 fin⟩
  · rintro e s' ⟨he, _⟩
    cases he
theorem sorted_bytes {b : Array UInt8} {t : Tok} {Q : Value → Shared → Prop} (hh : A.handled = none) (h64 : b.size < 64)
    (h : ∀ h' tk a out c (ns' : List Int), (∀ b o, s.heap.get? b = some o → h'.get? b = some o) → s.heap.objs.size ≤ a → h'.get? a = some (seqObj "list" out c) → IntsAre out.toList ns' → ns'.Perm ((bnat b).map fun n : Nat => (n : Int)) → ns'.Pairwise (· ≤ ·) → Q (.ref a) { s with heap := h', toks := tk }) :
    wpAny (model prog w) A (call (.builtin "sorted") [.bytes b t]) Q E s := by
  refine Calls.call_function_entry kind_sorted plain_sorted entry_sorted (args_sorted1 _) ?_
  unfold Builtin.«sorted»
  refine wpAny_bind (m := checkCount "sorted" 1 1 _) (wpAny_pure ?_)
  refine wpAny_bind (collect_bytes hh (by omega) fun vs h1 tk hvs hk hsz => ?_)
  have hI : IntsAre vs ((bnat b).map fun n : Nat => (n : Int)) := by
    refine intsAre ?_
    rw [List.map_map]
    exact hvs
  have hlen : vs.length < 64 := by
    have := hvs.length
    simp [bnat] at this
    omega
  refine wpAny_bind (wpAny_newList ?_ (by rw [sizeLine_eq]; omega))
  have hoL : (h1.push (seqObj "list" vs.toArray 0)).get? h1.objs.size = some (seqObj "list" vs.toArray 0) := Heap.get?_push_size _ rfl
  show wpAny _ _ _ _ _ { s with heap := h1.push (seqObj "list" vs.toArray 0), toks := tk }
  refine wpAny_bind (wpAny_holding (wpAny_call_entry slot_list_sort ⟨_, hoL, rfl⟩ entry_list_sort (list_sort_tree hoL hI hlen fun out ns' a1 a2 a3 => ⟨_, rfl, ?_⟩) (args_list_sort _)))
  obtain ⟨e, he⟩ := sortedHeap_at (vs := vs) (out := out) hoL
  refine wpAny_pure ⟨_, rfl, h _ tk _ out e ns' (fun b o ho => ?_) hsz he a1 a2 a3⟩
  have hlt : b < h1.objs.size := Heap.lt_size (hk b o ho)
  rw [sortedHeap_old (Nat.ne_of_lt hlt) (by rw [size_push']; exact Nat.lt_succ_of_lt hlt)]
  exact Heap.get?_push_of_some _ (hk b o ho)
end
section
variable {c : Fc} {st : St} {Q : V → St → Prop}
theorem ca_sortedB {l : List Nat} (hz : l.length < 64) (q : ∀ D (ns' : List Int), ns'.Perm (l.map fun n : Nat => (n : Int)) → ns'.Pairwise (· ≤ ·) → Q (.ref D) ⟨st.loc, (D, .list (ns'.map V.int)) :: st.hp⟩) (hd : c.hd = false := by rfl) : CAn c "sorted" [.bytes l] st Q := fun ws r => by
  cases r with
  | cons r h =>
    cases h; cases r
    rename_i b t
    refine TR.leaf fun φ s S => ?_
    refine sorted_bytes (S.ok.hand hd) (by simpa [bnat] using hz) fun h' tk a out cc ns' hk ha ho hI hp hs => ?_
    exact ⟨_, _, .ref _, S.add (tk := tk) (ao := .list (ns'.map V.int)) ha hk ho ⟨out, cc, rfl, IntsAre.all2 hI⟩, q a ns' hp hs⟩
end
end Mine

set_option maxRecDepth 100000
set_option Elab.async false
set_option maxHeartbeats 2000000
set_option linter.unusedVariables false
open PySem PySem.W PyProof.Rows PySem.Calls
namespace Mine
/-! ## b''.join(list of bytes) -/
theorem look_bbuffer : typeLookup (.type "bytes") "__buffer__" = pure (some (.builtin "bytes.__buffer__")) := by rw [typeLookup_type, builtinLookup_eq_fast]; kernel_rfl
theorem look_brelease : typeLookup (.type "bytes") "__release_buffer__" = pure none := by rw [typeLookup_type, builtinLookup_eq_fast]; kernel_rfl
theorem bbuf_ends : "bytes.__buffer__".endsWith ("." ++ "__buffer__") = true := by decide +kernel
theorem bbuf_owner : "bytes.__buffer__".dropRight ("__buffer__".length + 1) = "bytes" := by decide +kernel
theorem slot_join : Slot "bytes" "join" "bytes.join" :=
  .of (owner := "bytes") (n := "join") (by rw [typeLookup_type, builtinLookup_eq_fast]; kernel_rfl) (by decide +kernel) (by decide +kernel) (by decide +kernel)
    (by first | exact .inl (by decide +kernel) | exact .inr (by decide +kernel)) (by rw [isSubtype_type]; kernel_rfl)
theorem type_join : typeOf (.builtin "bytes.join") = pure (.type "method_descriptor") := by show builtinType _ = _; rw [builtinType_eq_fast]; kernel_rfl
theorem entry_join : entryFor table "bytes.join" = some Builtin.«bytes.join» := entryFor_of_tree (by kernel_rfl)
theorem args_join_2 (a b : Value) : argsOk "bytes.join" ⟨[a, b], []⟩ := by
  unfold argsOk; rw [signature?_of (id := "bytes.join") (n := ['n', 'i', 'o', 'j']) (o := ['s', 'e', 't', 'y', 'b']) (by kernel_rfl) FB.owner_bytes]; kernel_rfl
section
variable {prog : Program} {w : World} {A : Around} {E : Value → Shared → Prop} {s : Shared}
theorem forRange_any {M : Model} {A : Around} {E : Value → Shared → Prop} {s : Shared} {β : Type} {f : Nat → β → Sem (ForInStep β)} (I : Nat → β → Prop) {n : Nat} {b0 : β} {Q : β → Shared → Prop}
    (turn : ∀ i b, i < n → I i b → ∀ Q' : ForInStep β → Shared → Prop, (∀ b', I (i + 1) b' → Q' (.yield b') s) → wpAny M A (f i b) Q' E s) (h0 : I 0 b0) (done : ∀ b, I n b → Q b s) : wpAny M A (forIn [:n] b0 f) Q E s := by
  rw [Std.Legacy.Range.forIn_eq_forIn_range']
  have go : ∀ (m k : Nat) (b : β), k + m = n → I k b → wpAny M A (forIn (List.range' k m 1) b f) Q E s := by
    intro m
    induction m with
    | zero =>
      intro k b e h
      rw [show k = n by omega] at h
      exact wpAny_pure (done b h)
    | succ m ih =>
      intro k b e h
      rw [List.range'_succ, List.forIn_cons]
      refine wpAny_bind (turn k b (by omega) h _ fun b' h' => ?_)
      exact ih (k + 1) b' (by omega) h'
  have e : ([:n] : Std.Legacy.Range).size = n := by simp [Std.Legacy.Range.size]
  rw [e]
  exact go n 0 b0 (by omega) h0
theorem bOwn {b : Array UInt8} {t : Tok} {Q : Bool → Shared → Prop} (h : Q true s) : wpAny (model prog w) A (Builtin.Bytes.slotIsOwn (.bytes b t) "__buffer__") Q E s := by
  unfold Builtin.Bytes.slotIsOwn
  refine wpAny_bind (wpAny_specialOf (typeIs_bytes s b t) look_bbuffer ?_)
  have e1 := bbuf_ends
  have e2 := bbuf_owner
  generalize hid : ("bytes.__buffer__" : String) = id0 at e1 e2 ⊢
  simp only [e1, Bool.not_true, Bool.false_eq_true, if_false]
  rw [e2]
  exact wpAny_isInstance (T := "bytes") (b := true) (typeIs_bytes s b t) F.sub_bytes_bytes h
theorem take_bytes {id : String} {b : Array UInt8} {t : Tok} {Q : Option (Array UInt8 × Option Value) → Shared → Prop} (h : Q (some (b, none)) s) : wpAny (model prog w) A (Builtin.Bytes.takeBufferQuiet? id (.bytes b t) 0) Q E s := by
  unfold Builtin.Bytes.takeBufferQuiet?
  refine wpAny_bind (wpAny_attempt ?_)
  unfold Builtin.Bytes.takeBuffer?
  refine wpAny_bind (wpAny_specialOf (typeIs_bytes s b t) look_bbuffer ?_)
  refine wpAny_bind (bOwn ?_)
  simp only [Bool.not_true, Bool.false_eq_true, if_false]
  refine wpAny_bind (wpAny_specialOf (typeIs_bytes s b t) look_bbuffer ?_)
  try dsimp only
  refine wpAny_bind ?_
  unfold Builtin.Bytes.buffer?
  refine wpAny_bind (wpAny_specialOf (typeIs_bytes s b t) look_bbuffer ?_)
  try dsimp only
  refine wpAny_bind (bOwn ?_)
  simp only [Bool.not_true, Bool.false_eq_true, if_false]
  refine wpAny_bind (wpAny_specialOf (typeIs_bytes s b t) look_bbuffer ?_)
  try dsimp only
  unfold Builtin.Bytes.ownRelease Builtin.Bytes.slotIsOwn
  refine wpAny_bind (wpAny_bind (wpAny_bind (wpAny_specialOf (typeIs_bytes s b t) look_brelease ?_)))
  try dsimp only
  refine wpAny_pure (wpAny_pure ?_)
  simp only [Bool.not_true, Bool.false_eq_true, if_false]
  refine wpAny_bind ?_
  unfold Builtin.Bytes.payload Builtin.Bytes.payload?
  exact wpAny_bind (wpAny_pure (wpAny_pure (wpAny_pure (wpAny_pure (wpAny_pure h)))))
theorem joinLetGo_ok {Q : Unit → Shared → Prop} : ∀ {taken : List (Value × Option Value)} {keep : List Value}, (∀ x ∈ taken, x.2 = none) → Q () s → wpAny (model prog w) A (Builtin.Bytes.joinLetGo taken keep) Q E s
  | [], _, _, h => wpAny_pure h
  | (x, u) :: r, keep, hn, h => by
    have hu : u = none := hn (x, u) (.head _)
    subst hu
    show wpAny _ _ (letGo (x :: []) (keep ++ r.flatMap fun (y, u) => y :: u.toList) >>= fun _ => Builtin.Bytes.joinLetGo r keep) _ _ s
    exact wpAny_bind (wpAny_letGo (joinLetGo_ok (fun y hy => hn y (.tail _ hy)) h))
theorem gives_join {a : Addr} {its : Array Value} {n : Nat} {bs : List (Array UInt8)} {tj : Tok} {P : PySem.Fin → Shared → Prop} (ho : s.heap.get? a = some (W.listOf its n)) (hI : All2 (fun v b => ∃ t, v = .bytes b t) its.toList bs) (h2 : 2 ≤ bs.length)
    (hz : (bs.map Array.size).sum ≤ 16777216) (h : ∀ t k, P (.done (.ret (.bytes (bs.foldl (· ++ ·) #[]) t))) { s with toks := k }) : wpAny (model prog w) A (Builtin.«bytes.join» ⟨[.bytes #[] tj, .ref a], []⟩) P E s := by
  unfold Builtin.«bytes.join» Builtin.Bytes.joinM
  refine wpAny_bind (m := selfAndOne _ _) (wpAny_of_eq (a := (Value.bytes #[] tj, Value.ref a)) rfl ?_)
  have hlen := hI.length
  simp only [Array.length_toList] at hlen
  have hT : s.TypeIs (.ref a) "list" := ⟨_, ho, rfl⟩
  obtain ⟨v0, v1, vr, rfl⟩ : ∃ v0 v1 vr, its = ⟨v0 :: v1 :: vr⟩ := by
    obtain ⟨l⟩ := its
    match l, hlen with
    | [], hl => simp at hl; omega
    | [_], hl => simp at hl; omega
    | v0 :: v1 :: vr, _ => exact ⟨v0, v1, vr, rfl⟩
  try dsimp only
  refine wpAny_bind ?_
  unfold Builtin.Bytes.joinItems
  refine wpAny_bind (wpAny_typeOf hT ?_)
  refine bm_if_true rfl ?_
  refine wpAny_pure ?_
  refine wpAny_bind (wpAny_seqItems ho rfl ?_)
  refine bm_if_true rfl ?_
  refine wpAny_bind ?_
  refine forRange_any (fun i x => x.1.toList = bs.take i ∧ ∀ y ∈ x.2, y.2 = none ∧ y.1.onHeap = false) ?_ ⟨rfl, fun y hy => nomatch hy⟩ ?_
  · rintro i ⟨parts, taken⟩ hi ⟨hp, ht⟩ Q' hQ'
    have hi2 : i < bs.length := by rw [← hlen]; exact hi
    change parts.toList = bs.take i at hp
    obtain ⟨x, hx, tb, hxb⟩ := hI.get (i := i) (b := bs[i]) (by simp [hi2])
    refine wpAny_bind (wpAny_seqItems ho rfl ?_)
    have hgd : (⟨v0 :: v1 :: vr⟩ : Array Value).getD i .none = .bytes bs[i] tb := by
      rw [← hxb]
      have hx' : (v0 :: v1 :: vr)[i]? = some x := hx
      show ((v0 :: v1 :: vr).toArray).getD i .none = x
      rw [Array.getD_eq_getD_getElem?, List.getElem?_toArray, hx']; rfl
    have hany : (taken.any fun x => x.fst.onHeap) = false := by
      rw [List.any_eq_false]
      intro y hy
      simp [(ht y hy).2]
    try dsimp only
    rw [hgd]
    refine bm_if_false (by rw [hany]; rfl) ?_
    refine wpAny_bind (wpAny_holding (take_bytes ?_))
    try dsimp only
    refine wpAny_bind (wpAny_seqItems ho rfl ?_)
    refine bm_if_false (by simp) ?_
    refine wpAny_pure (hQ' _ ⟨?_, ?_⟩)
    · show (parts.push bs[i]).toList = bs.take (i + 1)
      rw [Array.toList_push, hp, List.take_add_one]
      simp [hi2]
    · intro y hy
      rcases List.mem_append.mp hy with hy | hy
      · exact ht y hy
      · rw [List.mem_singleton.mp hy]; exact ⟨rfl, rfl⟩
  · rintro ⟨parts, taken⟩ ⟨hp, ht⟩
    change parts.toList = bs.take _ at hp
    have hpa : parts.toList = bs := by
      rw [hp, hlen, List.take_length]
    have hps : parts = bs.toArray := by rw [← hpa]
    subst hps
    have hj : Builtin.Bytes.joined #[] bs = bs.foldl (· ++ ·) #[] := by
      unfold Builtin.Bytes.joined
      have : ∀ (l : List (Array UInt8)) (k : Nat) (acc : Array UInt8), (l.zipIdx k).foldl (fun out (p, i) => (if i > 0 then out ++ #[] else out) ++ p) acc = l.foldl (· ++ ·) acc := by
        intro l
        induction l with
        | nil => intro k acc; rfl
        | cons x l ih =>
          intro k acc
          rw [List.zipIdx_cons, List.foldl_cons, List.foldl_cons, ih]
          congr 1
          simp
      exact this bs 0 #[]
    have hsum : ∀ (l : List (Array UInt8)) (k : Nat), l.foldl (fun x1 x2 => x1 + x2.size) k = k + (l.map Array.size).sum := by
      intro l
      induction l with
      | nil => intro k; rfl
      | cons x l ih => intro k; rw [List.foldl_cons, ih, List.map_cons, List.sum_cons]; omega
    have hfs : ∀ (l : List (Array UInt8)) (acc : Array UInt8), (l.foldl (· ++ ·) acc).size = acc.size + (l.map Array.size).sum := by
      intro l
      induction l with
      | nil => intro k; rfl
      | cons x l ih => intro k; rw [List.foldl_cons, ih, List.map_cons, List.sum_cons, Array.size_append]; omega
    refine wpAny_bind ?_
    unfold Builtin.Bytes.payload Builtin.Bytes.payload?
    refine wpAny_bind (wpAny_pure (wpAny_pure ?_))
    refine bm_if_false ?_ ?_
    · show Builtin.Bytes.tooLong (Array.foldl (fun x1 x2 => x1 + x2.size) (0 * _) bs.toArray) = false
      rw [Nat.zero_mul, List.foldl_toArray, hsum]
      unfold Builtin.Bytes.tooLong
      rw [sizeLine_eq]
      exact decide_eq_false (by omega)
    refine wpAny_bind (m := mkBytes (Builtin.Bytes.joined #[] bs)) (wpAny_mkBytes ?_ (by rw [hj, hfs, sizeLine_eq]; simpa using hz))
    rw [hj]
    refine wpAny_bind (wpAny_holding (wpAny_point ?_))
    refine wpAny_bind (joinLetGo_ok (fun y hy => (ht y hy).1) ?_)
    exact wpAny_pure (h _ _)
end
section
variable {c : Fc} {st : St} {Q : V → St → Prop}
theorem ev_methB {o : PySem.Expr} {name : Str} {apos pos : Pos} {args : List PySem.Expr} {id : String}
    (h : EV c o st fun ov st1 => ∃ l, ov = .bytes l ∧ EL c pos args st1 fun as st2 => CAn c id (.bytes l :: as) st2 Q)
    (slot : Slot "bytes" name id) (hty : typeOf (.builtin id) = pure (.type "method_descriptor"))
    (hbase : attributeBase o name c.env (eval o c.env) = eval o c.env)
    (hst : (starEach args c.env).all (fun x => !x.1) = true) (hlen : args.length < 29)
    (hline : (apos.endLine == pos.line) = true) : EV c (.Call (.Attribute o name apos) args [] pos) st Q := by
  show TR c (attributeBase o name c.env (eval o c.env) >>= fun ov => standAt apos.atName >>= fun _ => methodCall o name apos pos c.env ov (args.length + 0) (backTo pos (starEach args c.env)) (backToKw pos (keywordEach [] c.env))) VR st Q
  rw [hbase]
  refine TR.bind (TR.mono h fun ov st1 ⟨l, e, h1⟩ ovv ro => TR.stand ?_)
  subst e
  obtain ⟨b, tb, rfl, rfl⟩ : ∃ b t, ovv = .bytes b t ∧ l = bnat b := by cases ro; exact ⟨_, _, rfl, rfl⟩
  have hform : methodCallForm (args.length + 0) (backTo pos (starEach args c.env)) (backToKw pos (keywordEach [] c.env)) = true := by
    unfold methodCallForm backTo
    rw [List.all_map]
    have : (starEach args c.env).all ((fun x : Bool × Sem Value => !x.1) ∘ fun (x : Bool × Sem Value) => (x.1, do let v ← x.2; standAt pos; pure v)) = true := hst
    simp only [Bool.and_eq_true]
    refine ⟨⟨hst, rfl⟩, ?_⟩
    rw [show keywordEach [] c.env = [] from rfl]
    simp [backToKw]; omega
  have hpos : methodCallPos true o c.env apos pos = pure pos := by unfold methodCallPos; simp [hline]
  unfold methodCall
  rw [hform]
  intro φ s S
  refine wpN_bind (wpN_holding (lift (getMethod_builtin (typeIs_bytes s b tb) FB.plainAttrs_bytes slot hty (fun a' e => by cases e) ?_)))
  rw [hpos]
  refine wpN_bind (wpN_pure ?_)
  refine callWith_tr (R1 := All2 VR) (fa := .bi id) (.bi id) rfl hst (ks := []) (TR.mono h1 fun as st2 h2 => ek_nil ⟨trivial, fun vs kv r1 r2 => ?_⟩) φ s S
  cases r2
  exact h2 _ (.cons (.bytes b tb) r1)
theorem VR.toBytes {v : Value} {l : List Nat} (r : VR v (.bytes l)) : ∃ b t, v = .bytes b t ∧ l = bnat b := by cases r; exact ⟨_, _, rfl, rfl⟩
theorem m_joinB {a : Addr} {bs : List (List Nat)} (hm : RL st.hp a (bs.map V.bytes)) (h2 : 2 ≤ bs.length) (hz : (bs.map List.length).sum ≤ 16777216) (q : Q (.bytes bs.flatten) st) : CAn c "bytes.join" [.bytes [], .ref a] st Q := fun ws r => by
  cases r with
  | cons r h =>
    cases h with
    | cons r' h =>
      cases h; cases r'
      obtain ⟨b, t, rfl, hb⟩ := VR.toBytes r
      have hb0 : b = #[] := by
        unfold bnat at hb
        have : b.toList = [] := by simpa using hb.symm
        simpa using this
      subst hb0
      refine TR.leaf fun φ s S => ?_
      obtain ⟨its, n, hl, H, hL⟩ := S.listR hm
      obtain ⟨as, hI, hn⟩ : ∃ as : List (Array UInt8), All2 (fun v b => ∃ t, v = Value.bytes b t) its.toList as ∧ as.map bnat = bs := by
        generalize its.toList = l at H
        clear hl hL hm h2 hz q S
        induction bs generalizing l with
        | nil => cases H; exact ⟨[], .nil, rfl⟩
        | cons x xs ih =>
          cases H with
          | cons r H =>
            obtain ⟨as, h1, h3⟩ := ih _ H
            rename_i v _
            obtain ⟨bb, tb, rfl, rfl⟩ : ∃ b t, v = .bytes b t ∧ x = bnat b := by cases r; exact ⟨_, _, rfl, rfl⟩
            exact ⟨bb :: as, .cons ⟨tb, rfl⟩ h1, by rw [List.map_cons, h3]⟩
      have hsz : (as.map Array.size).sum ≤ 16777216 := by
        have e : (as.map Array.size) = bs.map List.length := by
          rw [← hn, List.map_map]
          refine List.map_congr_left fun x _ => ?_
          simp [bnat]
        rw [e]; exact hz
      have hfl : bnat (as.foldl (· ++ ·) #[]) = bs.flatten := by
        rw [← hn]
        have : ∀ (l : List (Array UInt8)) (acc : Array UInt8), bnat (l.foldl (· ++ ·) acc) = bnat acc ++ (l.map bnat).flatten := by
          intro l
          induction l with
          | nil => intro acc; simp
          | cons x l ih => intro acc; rw [List.foldl_cons, ih, List.map_cons, List.flatten_cons]; simp [bnat]
        rw [this]; simp [bnat]
      refine wpAny_call_entry slot_join (typeIs_bytes s _ _) entry_join (gives_join hl hI (by rw [← hn] at h2; simpa using h2) hsz fun t k => ⟨_, rfl, ?_⟩) (args_join_2 _ _)
      exact ⟨_, st, by rw [← hfl]; exact .bytes _ _, S.toks _, q⟩
end
end Mine

set_option maxRecDepth 100000
set_option Elab.async false
set_option linter.unusedVariables false
namespace Mine
open PySem PySem.W PyProof.Rows PySem.Calls

/-! ## a head of my own: the call is weighed at the one context from which it is made -/
theorem caller_none : NoHold (⟨.builtin "claim.caller" {}, none, none, [], none⟩ : Ctx) := ⟨by decide, fun _ h => nomatch h⟩
noncomputable abbrev WalkMine (q : Program) (loose : List Str) (XP : (Str → Option Value) → Heap → Prop) (YP : World → Heap → Prop) (r : RowW) (d : DefRec) (kwd : List (Str × PySem.Expr)) : Prop :=
  ∀ (w : World) (s₀ s₁ : Shared) (mg mb : Str → Option Value), Ground q loose r.records XP w s₀ mg mb s₁.heap → YP w s₁.heap → ∀ (a : Addr) (o : Obj) (pm cd doc dV kV : Value), s₁.heap.get? a = some o →
    o.data = .func { docDef d.name d.params d.body d.scope pm cd doc with defaults := dV, kwdefaults := kV } → s₁.heap.CodeRec cd d.name → Dflts mg s₁.heap d.params kwd dV kV → mg d.name = some (.ref a) → s₁.gens = #[] →
    ∀ (args : List WData) (vals : List Value) (as : List Addr), r.claim.pre args = true → WData.layableAll args = true → ReadsAllW r.records (classAt s₀.heap) s₁.heap vals args as → WellAll w.params s₁.heap vals args → (∀ a ∈ as, (a == sysModules) = false) →
      wpN (model r.prog w) callerA (PySem.call (.ref a) vals) (fun v s' => GoodWG r.claim (classAt s₀.heap) (ExcName.means s₀.heap) args s₁ (.ok (.ret v)) s')
        (fun e s' => GoodWG r.claim (classAt s₀.heap) (ExcName.means s₀.heap) args s₁ (.error e) s') s₁

theorem ends_one {prog : Program} {w : World} {t : Sem Fin} {s : Shared} {R : Result → Shared → Prop} (hreg : s.asleep)
    (h : wpN (model prog w) callerA t (fun fin s' => ∃ f, fin = .done f ∧ (R (.ok f) s' ∧ leftWithCleanup s'.gens = false)) (fun e s' => R (.error e) s' ∧ leftWithCleanup s'.gens = false) s) :
    ∃ n r s' s'', runN (denote table) prog w n s ⟨t, .builtin "claim.caller" {}, default, []⟩ = .halted (outcomeOf r) s' ∧
      schedN (denote table) prog w n (.single s ⟨t, .builtin "claim.caller" {}, default, []⟩) = .halted (outcomeOf r) s' ∧ s'.forget = s''.forget ∧ R r s'' := by
  have h1 := h _ default caller_in caller_none
  have h2 : Sem.wp (model prog w) ⟨.builtin "claim.caller" {}, none, none, [], none⟩ t (Sem.finPost (model prog w) ⟨.builtin "claim.caller" {}, none, none, [], none⟩ fun r s' => R r s' ∧ leftWithCleanup s'.gens = false)
      (fun e _ s' => R (.error e) s' ∧ leftWithCleanup s'.gens = false) default s :=
    Sem.wp_mono _ _ t (fun fin p s' ⟨f, e, k⟩ => by subst e; exact k) (fun _ _ _ k => k) _ _ h1
  obtain ⟨n, r, s1, s2, hs, hn, hf, hR⟩ := wp_halts_full (M := model prog w) (R := R) hreg h2
  exact ⟨n, r, s2, s1, hn, hs, hf, hR⟩

/-- what stands when the top has been run: the ground, with and without the records -/
theorem opened {r : OpenRow} {q : Program} {loose : List Str} {Xt : Shared → Bool} {XP : (Str → Option Value) → Heap → Prop} {α : Type} {Yf : Shared → α} {Ya : World → α} {N : Nat} (left : LeftO r.prog q loose Xt Yf Ya N)
    (hX : ∀ s, Xt s = true → XP (s.heap.nsMap mainGlobals) s.heap) (hRf : ∀ s, Xt s = true → RecFacts r.records s.heap) (hch : chainsOk q = true) {w : World} {e : Shared} (he : AfterRun (opening r.prog) w e) :
    ∃ f, fenceModules? r.prog e = some f ∧ f.gens = #[] ∧ ∃ s, TopRan r.prog w f s ∧ s.asleep ∧ s.gens = #[] ∧ s.heap.isNs mainGlobals = true ∧ Yf s = Ya w ∧ RecFacts r.records s.heap ∧ Ground q loose [] XP w s (s.heap.nsMap mainGlobals) (s.heap.nsMap builtinsNs) s.heap :=
  match (left.behind (XP := fun mg h => XP mg h ∧ RecFacts r.records h) (fun s x => And.intro (hX s x) (hRf s x)) hch w).2 e he with
  | ⟨f, a, b, s, c, z, g, n, G, y⟩ => ⟨f, a, b, s, c, z, Array.eq_empty_of_size_eq_zero (beq_iff_eq.mp g), n, y, G.X.2, { G with X := G.X.1 }⟩
/-- what was laid for the call -/
theorem laid_down {r : OpenRow} {q : Program} {loose : List Str} {XP : (Str → Option Value) → Heap → Prop} {w : World} {s : Shared} {mg mb : Str → Option Value} (G : Ground q loose r.toRowW.records XP w s mg mb s.heap) (hg : s.gens = #[]) {args : List WData} (hpre : r.toRowW.claim.pre args = true) (hlay : WData.layableAll args = true)
    {ord : List DictEntry → List DictEntry} (ho : ∀ l, (ord l).Perm l) : ∃ vs s₁ as, layAllW r.toRowW.records (classAt s.heap) w.params ord args s = some (vs, s₁) ∧ (∀ b o, s.heap.get? b = some o → s₁.heap.get? b = some o) ∧ Laid r.toRowW.records w s s₁ args vs as := by
  have x := layAllW_isSome (P := w.params) (ord := ord) G.has args r.toRowW.args s (pre_splitW hpre).1
  cases e : layAllW r.toRowW.records (classAt s.heap) w.params ord args s with
  | none => rw [e] at x; cases x
  | some p =>
    have rest := layAllW_rest _ _ _ e
    have kept := layAllW_keeps _ _ _ e
    exact match reads_layAllW ho _ _ _ e hlay p.2.heap fun _ _ k => k with
      | ⟨as, rd, new, old⟩ => ⟨p.1, p.2, as, rfl, kept, ⟨⟨ord, ho, e⟩, rd, new, old, kept, rest.1.trans hg, rest.2.2.1⟩⟩
theorem PySem.W.holds_open {r : OpenRow} {q : Program} {loose : List Str} {Xt : Shared → Bool} {XP : (Str → Option Value) → Heap → Prop} {α : Type} {Yf : Shared → α} {Ya : World → α} {YP : World → Heap → Prop} {d : DefRec} {kwd : List (Str × PySem.Expr)} {N : Nat}
    (left : LeftO r.prog q loose Xt Yf Ya N) (hY : ∀ w s, Yf s = Ya w → YP w s.heap) (hYk : ∀ w h h', YP w h → (∀ b o, h.get? b = some o → h'.get? b = some o) → YP w h')
    (hX : ∀ s, Xt s = true → XP (s.heap.nsMap mainGlobals) s.heap) (hXk : ∀ mg h h', XP mg h → (∀ b o, h.get? b = some o → h'.get? b = some o) → XP mg h')
    (hdef : defOf q r.name = some (d, kwd)) (hp : r.prog.theDef r.name = some (d.params, d.body, d.scope)) (hk : kwWritten? d.params.kwonlyargs d.params.kw_defaults = some kwd) (hRf : ∀ s, Xt s = true → RecFacts r.records s.heap) (hwr : (!r.writes || r.records.isEmpty) = true)
    (k1 : r.wellSaid = true) (ok : (chainsOk q && opensWell r.prog && (frees r.toRowW && r.within.isEmpty)) = true) (hb : r.prog.bare) (hw : r.toRowW.promised)
    (call : WalkMine q loose XP YP r.toRowW d kwd) : r.Holds := by
  have ok1 := (Bool.and_eq_true_iff.mp ok).1
  have ok2 := (Bool.and_eq_true_iff.mp ok).2
  have hch := (Bool.and_eq_true_iff.mp ok1).1
  obtain ⟨hsame, hu, ha, hap, hmk⟩ := frees_parts (Bool.and_eq_true_iff.mp ok2).1
  have hwi : r.toRowW.claim.within = [] := List.isEmpty_iff.mp (Bool.and_eq_true_iff.mp ok2).2
  have hid := ident_freeW hu ha hap
  refine ⟨k1, hw, ⟨hb, (Bool.and_eq_true_iff.mp ok1).2, by show r.toRowW.makers.map _ = []; rw [hmk]; rfl⟩, hw.witness, fun w => ⟨(left.behind hX hch w).1, fun e he => ?_⟩⟩
  refine cps fun P kP => ?_
  obtain ⟨f, hf, hf0, s, hT, hz, hs0, hm, y, RF, G0⟩ := opened left hX hRf hch he
  refine kP ?_
  clear kP
  have G := RF.ground G0
  refine ⟨f, hf, hf0, s, hT, fun n hn => ?_, RF.1, RF.2.1, fun args hpre hlay ord ho => ?_⟩
  · have e : n = r.name := by split at hn <;> simp_all
    exact e ▸ pinned_of_view hm G0 hdef hp hk
  refine cps fun P kP => ?_
  obtain ⟨vs, s₁, as, hlaid, keeps, L⟩ := laid_down G hs0 hpre hlay ho
  have G₁ := G.keeps hXk keeps
  obtain ⟨a, o, pm, cd, doc, dV, kV, h1, h2, h3, h4, h5⟩ := G₁.fn hdef
  have lives := (layAllW_rest _ _ _ hlaid).2.2.2
  have run := ends_one (prog := r.prog) (w := w) (s := s₁) (t := nsGet mainNs r.name >>= fun
      | some g => PySem.call g vs >>= fun v => ret v
      | none => unsupported "claim.caller:no-such-global")
    (R := fun x s' => r.toRowW.claim.Ends s args vs s₁ x s' ∧ s'.os = s.os ∧ (r.writes = true → namesKept r.prog r.keeps s.heap s'.heap ∧ ∀ x ∈ r.toRowW.records, ∀ a, classAt s.heap x.1 = some a → recordClass s'.heap a x.1 (x.2.map (·.1)) = true))
    (Shared.asleep_of_life lives hz) (by
      have good : ∀ x s', GoodWG r.toRowW.claim (classAt s.heap) (ExcName.means s.heap) args s₁ x s' → (r.toRowW.claim.Ends s args vs s₁ x s' ∧ s'.os = s.os ∧ (r.writes = true → namesKept r.prog r.keeps s.heap s'.heap ∧ ∀ x ∈ r.toRowW.records, ∀ a, classAt s.heap x.1 = some a → recordClass s'.heap a x.1 (x.2.map (·.1)) = true)) ∧ leftWithCleanup s'.gens = false := fun x s' g =>
        have z := g.laid (c := r.toRowW.claim) hsame hwi hid L
        ⟨⟨z.1, z.2.1, fun q => ⟨namesKept_of hT hm _ keeps g.2.1.old, noTable hwr q⟩⟩, leftWithCleanup_false_of_bare z.2.2⟩
      refine wpN_bind (lift (wpAny_nsGet G₁.T.g ?_))
      rw [h1]
      exact wpN_bind (wpN_mono (call w s s₁ _ _ G₁ (hYk _ _ _ (hY w s y) keeps) a o pm cd doc dV kV h2 h3 h4 h5 (defOf_name hdef ▸ h1) L.gens args vs as hpre hlay L.reads L.well (L.low G.low)) (fun v s' g => wpN_pure ⟨_, rfl, good _ _ g⟩) fun e s' g => good _ _ g))
  obtain ⟨k, x, s2, s3, hrun, hsched, hfo, hends, hos, hkp⟩ := run
  have eo := Shared.forget_eq hfo
  refine kP ⟨vs, s₁, hlaid, k, _, s2, hsched, ?_, fun _ i x hx => ?_, ?_, ?_, ?_⟩
  · cases hends.congr eo.1 with
    | inl z =>
      obtain ⟨v, b1, b2, b3, b4, b5, b6⟩ := z
      exact .inl ⟨v, congrArg outcomeOf b1, b2, b3, b4, fun b o y _ => b5 b o y, b6⟩
    | inr z =>
      obtain ⟨e, ob, c, b1, b2, b3, b4, b5, b6⟩ := z
      exact .inr ⟨e, ob, c, congrArg outcomeOf b1, b2, b3, b4, b5, fun b o y _ => b6 b o y⟩
  · rw [hs0] at hx; simp at hx
  · rw [eo.1]; exact hkp
  · rw [(runN_life _ _ _ hrun).trans lives]
  · exact Shared.rest_eq (eo.2.2.2.1.trans hos)
end Mine

set_option maxRecDepth 100000
set_option maxHeartbeats 4000000
set_option linter.unusedVariables false
open PySem PySem.W PyProof.Rows PySem.Calls
namespace Mine
local macro_rules | `(tactic| walk_at "mem") => `(tactic| (repeat (first | exact List.Mem.head _ | assumption | apply List.Mem.tail)))
local macro_rules | `(tactic| walk_at "upd") => `(tactic| (repeat (first | exact Upd.here | assumption | apply Upd.there)))
local macro_rules | `(tactic| walk_at "m_nm") => `(tactic| first
  | ((with_reducible refine' ev_local ?a1 ?a2 ?_ ?a3); (case a1 => kernel_rfl); (case a2 => rfl); (case a3 => kernel_rfl))
  | ((with_reducible refine' ev_cell ?a1 ?a2 ?a3 ?_ ?a4); (case a2 => rfl); (case a1 => kernel_rfl); (case a3 => walk_at "mem"); (case a4 => kernel_rfl))
  | ((with_reducible refine' ev_glob ?a1 ?a2 ?a3 ?_ ?a4); (case a1 => kernel_rfl); (case a2 => assumption); (case a3 => exact VR.ref _); (case a4 => kernel_rfl))
  | ((with_reducible refine' ev_bi ?a1 ?a2 ?a3 ?a5 ?a6 ?_ ?a4); (case a1 => kernel_rfl); (case a2 => assumption); (case a3 => rfl); (case a5 => decide); (case a6 => first | exact VR.bi _ | exact VR.type _); (case a4 => kernel_rfl)))
local macro_rules | `(tactic| walk_at "m1") => `(tactic| first
  | (with_reducible first | refine x_cons ?_ | refine nx_ret ?_ | refine ex_nil ?_ | refine s_if ?_ | refine es_return ?_ | refine ev_int ?_ | refine ev_none ?_ | refine ev_cbool ?_ | refine ev_binop ?_ | refine ev_unop ?_ | refine ev_sub ?_ | refine ev_list ?_ | refine ev_slice ?_ | refine ov_none ?_ | refine ov_some ?_ | refine el_nil ?_ | refine ek_nil ?_ | refine ek_cons ?_ | refine te_nil ?_ | refine CN.t (Eq.refl true) ?_ | refine CN.f (Eq.refl false) ?_ | refine te_one ?_ | refine b_and ?_ | refine b_or ?_ | refine an_one ?_ | refine an_cons ?_ | refine on_one ?_ | refine on_cons ?_ | refine eb_not ?_ | refine co_lt ?_ | refine co_gt ?_ | refine co_eq ?_ | refine co_ne ?_ | refine tt_bool ?_ | refine co_isNone ?_ | refine bo_add ?_ | refine bo_sub ?_ | refine uo_neg ?_)
  | ((with_reducible refine es_assign ?_ ?a1); (case a1 => rfl))
  | ((with_reducible refine es_setitem ?_ ?a1); (case a1 => rfl))
  | ((with_reducible refine es_aug ?_ ?a1); (case a1 => kernel_rfl))
  | walk_at "m_nm"
  | ((with_reducible refine ev_call ?_ ?a1 ?a2 ?a3); (case a1 => rfl); (case a2 => rfl); (case a3 => rfl))
  | ((with_reducible refine el_cons ?_ ?a1); (case a1 => rfl))
  | ((with_reducible refine eb_cmp1 ?_ ?a1); (case a1 => intro t; rfl))
  | ((with_reducible refine ev_cmp1 ?_ ?a1); (case a1 => intro t; rfl))
  | ((with_reducible refine b_cmp2 ?_ ?a1); (case a1 => intro t t'; rfl))
  | ((with_reducible refine' sn_cellU ?a1 ?a2 ?a3 ?_); (case a2 => rfl); (case a3 => walk_at "upd"); (case a1 => kernel_rfl))
  | ((with_reducible refine sn_local ?a1 ?_); (case a1 => kernel_rfl)))
local macro_rules | `(tactic| walk_at "ms") => `(tactic| repeat (walk_at "m1"))
local macro_rules | `(tactic| walk_at "m") => `(tactic| repeat (first | with_reducible refine nx_next ?_ | walk_at "m1"))
local macro_rules | `(tactic| walk_at "loc") => `(tactic| (repeat (first | exact LocLe.nil _ | (refine LocLe.cons rfl ?_))))

noncomputable def fdB (l : List Stmt) (i : Nat) : List Stmt := match l[i]? with
  | some (.FunctionDef _ _ b _ _ _ _ _ _ _) => b
  | _ => []
noncomputable def fdS (l : List Stmt) (i : Nat) : Scope := match l[i]? with
  | some (.FunctionDef _ _ _ _ _ _ s _ _ _) => s
  | _ => default
noncomputable def fdA (l : List Stmt) (i : Nat) : Arguments := match l[i]? with
  | some (.FunctionDef _ a _ _ _ _ _ _ _ _) => a
  | _ => default
noncomputable abbrev PB : List Stmt := PySem.Challenge.pw_pk0058_02.main.body
noncomputable abbrev FcX (G : Gl) (A : Around) (qual : Str) (scope : Scope) (L f : Addr) (cdv : Value) (cells : List (Str × Addr)) (h : Heap) (s₀ : Shared) (r : Nat) : Fc := ⟨G, A, envX qual scope L f cdv cells, h, s₀, r, false⟩

/-! ## binary search, plain -/
noncomputable def bs (p : Nat → Bool) : Nat → Nat → Nat → Nat
  | 0, lo, _ => lo
  | f + 1, lo, hi => if lo < hi then (if p ((lo + hi) / 2) then bs p f ((lo + hi) / 2 + 1) hi else bs p f lo ((lo + hi) / 2)) else lo
theorem mid_le {lo hi : Nat} (h : lo < hi) : lo ≤ (lo + hi) / 2 ∧ (lo + hi) / 2 < hi := ⟨by omega, by omega⟩
theorem mid_dec1 {lo hi m : Nat} (h1 : lo ≤ m) (h2 : m < hi) : hi - (m + 1) < hi - lo := by omega
theorem mid_dec2 {lo hi m : Nat} (h1 : lo ≤ m) (h2 : m < hi) : m - lo < hi - lo := by omega
theorem mid_f1 {lo hi m f : Nat} (h1 : lo ≤ m) (h2 : m < hi) (h : hi - lo ≤ f + 1) : hi - (m + 1) ≤ f := by omega
theorem mid_f2 {lo hi m f : Nat} (h1 : lo ≤ m) (h2 : m < hi) (h : hi - lo ≤ f + 1) : m - lo ≤ f := by omega
theorem nat_small {k : Nat} (h : k ≤ 16777216) : (k : Int) < 2 ^ 63 := Int.lt_of_le_of_lt (Int.ofNat_le.mpr h) (by decide)
theorem bs_fuel (p : Nat → Bool) : ∀ f f' lo hi, hi - lo ≤ f → hi - lo ≤ f' → bs p f lo hi = bs p f' lo hi := by
  intro f
  induction f with
  | zero =>
    intro f' lo hi h h'
    cases f' with
    | zero => rfl
    | succ f' => simp only [bs]; rw [if_neg (by omega)]
  | succ f ih =>
    intro f' lo hi h h'
    cases f' with
    | zero => simp only [bs]; rw [if_neg (by omega)]
    | succ f' =>
      simp only [bs]
      split
      · rename_i hlt
        obtain ⟨m1, m2⟩ := mid_le hlt
        split
        · exact ih _ _ _ (mid_f1 m1 m2 h) (mid_f1 m1 m2 h')
        · exact ih _ _ _ (mid_f2 m1 m2 h) (mid_f2 m1 m2 h')
      · rfl
noncomputable def bsr (p : Nat → Bool) (lo hi : Nat) : Nat := bs p (hi - lo) lo hi
theorem bsr_done {p : Nat → Bool} {lo hi : Nat} (h : ¬ lo < hi) : bsr p lo hi = lo := by unfold bsr; rw [show hi - lo = 0 by omega]; rfl
theorem bsr_right {p : Nat → Bool} {lo hi : Nat} (h : lo < hi) (hp : p ((lo + hi) / 2) = true) : bsr p lo hi = bsr p ((lo + hi) / 2 + 1) hi := by
  unfold bsr
  rw [bs_fuel p (hi - lo) (hi - lo - 1 + 1) lo hi (Nat.le_refl _) (by omega)]
  show (if lo < hi then _ else _) = _
  rw [if_pos h, hp, if_pos rfl]
  exact bs_fuel p _ _ _ _ (mid_f1 (mid_le h).1 (mid_le h).2 (by omega)) (Nat.le_refl _)
theorem bsr_left {p : Nat → Bool} {lo hi : Nat} (h : lo < hi) (hp : p ((lo + hi) / 2) = false) : bsr p lo hi = bsr p lo ((lo + hi) / 2) := by
  unfold bsr
  rw [bs_fuel p (hi - lo) (hi - lo - 1 + 1) lo hi (Nat.le_refl _) (by omega)]
  show (if lo < hi then _ else _) = _
  rw [if_pos h, hp, if_neg (by decide)]
  exact bs_fuel p _ _ _ _ (mid_f2 (mid_le h).1 (mid_le h).2 (by omega)) (Nat.le_refl _)

theorem bo_half {c : Fc} {st : St} {Q : V → St → Prop} {lo hi : Nat} (h1 : lo ≤ 16777216) (h2 : hi ≤ 16777216) (q : Q (.int ((lo + hi) / 2 : Nat)) st) : BO c .FloorDiv (.int ((lo : Int) + hi)) (.int 2) st Q := by
  refine bo_fdiv (by decide) ?_ ?_
  · unfold Builtin.divisionGoesByPylong
    have : decide ((if ((2 : Int) == 0) = true then 0 else (2 : Int).natAbs.log2 / 30 + 1) > 300) = false := by decide
    simp only [this, Bool.false_and]
  · have : ((lo : Int) + hi).fdiv 2 = (((lo + hi) / 2 : Nat) : Int) := by
      rw [Int.fdiv_eq_ediv_of_nonneg _ (by decide)]; omega
    rw [this]; exact q

section
variable {G : Gl} {A : Around} {L f : Addr} {cdv : Value} {h : Heap} {s₀ : Shared} {r : Nat} {a : Addr} {vs ws : List V} {k : Addr} {x : V} {lo hi : Nat} {hp : Hp} {p : Nat → Bool} {Q : AFlow → St → Prop} {hiV : V}
noncomputable def nL (key x : V) (a : Addr) (lo hi : Nat) : Loc := [("key", key), ("hi", .int hi), ("lo", .int lo), ("x", x), ("a", .ref a)]
theorem bisL0 (hl : nsIn G.K mainGlobals "len" = some none) (hm : RL hp a vs) (hsz : vs.length ≤ 16777216) (hlo : lo ≤ 16777216) (hhi : hi ≤ vs.length) (hV : hiV = .int hi ∨ (hiV = .none ∧ hi = vs.length))
    (hcmp : ∀ loc (i : Nat) v Qc, vs[i]? = some v → Qc (.bool (p i)) ⟨loc, hp⟩ → CO (FcX G A "bisect_left" (fdS PB 4) L f cdv [] h s₀ r) .Lt v x ⟨loc, hp⟩ Qc) (q : ∀ loc, Q (.ret (.int (bsr p lo hi))) ⟨loc, hp⟩) :
    EX (FcX G A "bisect_left" (fdS PB 4) L f cdv [] h s₀ r) (fdB PB 4) ⟨[("key", .none), ("hi", hiV), ("lo", .int lo), ("x", x), ("a", .ref a)], hp⟩ Q := by
  have tail : EX (FcX G A "bisect_left" (fdS PB 4) L f cdv [] h s₀ r) ((fdB PB 4).drop 2) ⟨nL .none x a lo hi, hp⟩ Q := by
    conv => arg 2; whnf
    unfold nL
    walk_at "m"
    refine CN.t rfl ?_
    refine x_cons ?_
    refine s_while (fun n st => ∃ lo' hi', n = hi' - lo' ∧ lo' ≤ 16777216 ∧ hi' ≤ vs.length ∧ bsr p lo' hi' = bsr p lo hi ∧ st = ⟨nL .none x a lo' hi', hp⟩) (hi - lo) _ (WK.refl _) ⟨lo, hi, rfl, hlo, hhi, rfl, rfl⟩ ?_
    rintro n _ ⟨lo', hi', rfl, h1, h2, h3, rfl⟩
    unfold nL
    walk_at "m"
    refine CN.by (fun e => ?_) (fun e => ?_)
    · have e := of_decide_eq_true e
      have hlt : lo' < hi' := Int.ofNat_lt.mp e
      obtain ⟨m1, m2⟩ := mid_le hlt
      have hmid : (lo' + hi') / 2 < vs.length := Nat.lt_of_lt_of_le m2 h2
      walk_at "m"
      refine bo_half h1 (Nat.le_trans h2 hsz) ?_
      walk_at "m"
      refine sb_listN hm (List.getElem?_eq_getElem hmid) (nat_small (Nat.le_trans (Nat.le_of_lt hmid) hsz)) ?_
      walk_at "m"
      refine hcmp _ _ _ _ (List.getElem?_eq_getElem hmid) ?_
      walk_at "m"
      refine CN.by (fun e2 => ?_) (fun e2 => ?_)
      · walk_at "m"
        refine ⟨hi' - ((lo' + hi') / 2 + 1), ⟨nL .none x a ((lo' + hi') / 2 + 1) hi', hp⟩, mid_dec1 m1 m2, ⟨?_, .refl _⟩, _, hi', rfl, Nat.le_trans m2 (Nat.le_trans h2 hsz), h2, ?_, rfl⟩
        · unfold nL; walk_at "loc"
        · rw [← bsr_right hlt (by simpa using e2)]; exact h3
      · walk_at "m"
        refine ⟨(lo' + hi') / 2 - lo', ⟨nL .none x a lo' ((lo' + hi') / 2), hp⟩, mid_dec2 m1 m2, ⟨?_, .refl _⟩, lo', _, rfl, h1, Nat.le_of_lt hmid, ?_, rfl⟩
        · unfold nL; walk_at "loc"
        · rw [← bsr_left hlt (by simpa using e2)]; exact h3
    · have e := of_decide_eq_false e
      walk_at "m"
      rw [← h3, bsr_done (by omega)] at q
      exact q _
  conv => arg 2; whnf
  walk_at "m"
  refine CN.f (decide_eq_false (by omega)) ?_
  walk_at "m"
  rcases hV with rfl | ⟨rfl, e⟩
  · refine CN.f rfl ?_
    refine ex_nil (nx_next ?_)
    refine TR.preWK (st' := ⟨nL .none x a lo hi, hp⟩) ⟨?_, .refl _⟩ tail
    unfold nL; walk_at "loc"
  · refine CN.t rfl ?_
    walk_at "ms"
    refine ⟨trivial, ca_bi (len_listR hm hsz ?_)⟩
    walk_at "ms"
    rw [← e]
    refine nx_next (ex_nil (nx_next ?_))
    refine TR.preWK (st' := ⟨nL .none x a lo hi, hp⟩) ⟨?_, .refl _⟩ tail
    unfold nL; walk_at "loc"
theorem bisL1 (hl : nsIn G.K mainGlobals "len" = some none) (hm : RL hp a vs) (hsz : vs.length ≤ 16777216) (hlo : lo ≤ 16777216) (hhi : hi ≤ vs.length) (hV : hiV = .int hi ∨ (hiV = .none ∧ hi = vs.length))
    (hkey : ∀ loc (i : Nat) v Qc, vs[i]? = some v → (∀ w, ws[i]? = some w → Qc w ⟨loc, hp⟩) → Keeper (FcX G A "bisect_left" (fdS PB 4) L f cdv [] h s₀ r) (.ref k) ⟨loc, hp⟩ ∧ CA (FcX G A "bisect_left" (fdS PB 4) L f cdv [] h s₀ r) (.ref k) [v] [] [] ⟨loc, hp⟩ Qc) (hws : ws.length = vs.length)
    (hcmp : ∀ loc (i : Nat) w Qc, ws[i]? = some w → Qc (.bool (p i)) ⟨loc, hp⟩ → CO (FcX G A "bisect_left" (fdS PB 4) L f cdv [] h s₀ r) .Lt w x ⟨loc, hp⟩ Qc) (q : ∀ loc, Q (.ret (.int (bsr p lo hi))) ⟨loc, hp⟩) :
    EX (FcX G A "bisect_left" (fdS PB 4) L f cdv [] h s₀ r) (fdB PB 4) ⟨[("key", (.ref k)), ("hi", hiV), ("lo", .int lo), ("x", x), ("a", .ref a)], hp⟩ Q := by
  have tail : EX (FcX G A "bisect_left" (fdS PB 4) L f cdv [] h s₀ r) ((fdB PB 4).drop 2) ⟨nL (.ref k) x a lo hi, hp⟩ Q := by
    conv => arg 2; whnf
    unfold nL
    walk_at "m"
    refine CN.f rfl ?_
    refine x_cons ?_
    refine s_while (fun n st => ∃ lo' hi', n = hi' - lo' ∧ lo' ≤ 16777216 ∧ hi' ≤ vs.length ∧ bsr p lo' hi' = bsr p lo hi ∧ st = ⟨nL (.ref k) x a lo' hi', hp⟩) (hi - lo) _ (WK.refl _) ⟨lo, hi, rfl, hlo, hhi, rfl, rfl⟩ ?_
    rintro n _ ⟨lo', hi', rfl, h1, h2, h3, rfl⟩
    unfold nL
    walk_at "m"
    refine CN.by (fun e => ?_) (fun e => ?_)
    · have e := of_decide_eq_true e
      have hlt : lo' < hi' := Int.ofNat_lt.mp e
      obtain ⟨m1, m2⟩ := mid_le hlt
      have hmid : (lo' + hi') / 2 < vs.length := Nat.lt_of_lt_of_le m2 h2
      walk_at "m"
      refine bo_half h1 (Nat.le_trans h2 hsz) ?_
      walk_at "m"
      refine sb_listN hm (List.getElem?_eq_getElem hmid) (nat_small (Nat.le_trans (Nat.le_of_lt hmid) hsz)) ?_
      walk_at "m"
      refine hkey _ _ _ _ (List.getElem?_eq_getElem hmid) fun w hw => ?_
      walk_at "m"
      refine hcmp _ _ _ _ hw ?_
      walk_at "m"
      refine CN.by (fun e2 => ?_) (fun e2 => ?_)
      · walk_at "m"
        refine ⟨hi' - ((lo' + hi') / 2 + 1), ⟨nL (.ref k) x a ((lo' + hi') / 2 + 1) hi', hp⟩, mid_dec1 m1 m2, ⟨?_, .refl _⟩, _, hi', rfl, Nat.le_trans m2 (Nat.le_trans h2 hsz), h2, ?_, rfl⟩
        · unfold nL; walk_at "loc"
        · rw [← bsr_right hlt (by simpa using e2)]; exact h3
      · walk_at "m"
        refine ⟨(lo' + hi') / 2 - lo', ⟨nL (.ref k) x a lo' ((lo' + hi') / 2), hp⟩, mid_dec2 m1 m2, ⟨?_, .refl _⟩, lo', _, rfl, h1, Nat.le_of_lt hmid, ?_, rfl⟩
        · unfold nL; walk_at "loc"
        · rw [← bsr_left hlt (by simpa using e2)]; exact h3
    · have e := of_decide_eq_false e
      walk_at "m"
      rw [← h3, bsr_done (by omega)] at q
      exact q _
  conv => arg 2; whnf
  walk_at "m"
  refine CN.f (decide_eq_false (by omega)) ?_
  walk_at "m"
  rcases hV with rfl | ⟨rfl, e⟩
  · refine CN.f rfl ?_
    refine ex_nil (nx_next ?_)
    refine TR.preWK (st' := ⟨nL (.ref k) x a lo hi, hp⟩) ⟨?_, .refl _⟩ tail
    unfold nL; walk_at "loc"
  · refine CN.t rfl ?_
    walk_at "ms"
    refine ⟨trivial, ca_bi (len_listR hm hsz ?_)⟩
    walk_at "ms"
    rw [← e]
    refine nx_next (ex_nil (nx_next ?_))
    refine TR.preWK (st' := ⟨nL (.ref k) x a lo hi, hp⟩) ⟨?_, .refl _⟩ tail
    unfold nL; walk_at "loc"
theorem bisR0 (hl : nsIn G.K mainGlobals "len" = some none) (hm : RL hp a vs) (hsz : vs.length ≤ 16777216) (hlo : lo ≤ 16777216) (hhi : hi ≤ vs.length) (hV : hiV = .int hi ∨ (hiV = .none ∧ hi = vs.length))
    (hcmp : ∀ loc (i : Nat) v Qc, vs[i]? = some v → Qc (.bool !(p i)) ⟨loc, hp⟩ → CO (FcX G A "bisect_right" (fdS PB 2) L f cdv [] h s₀ r) .Lt x v ⟨loc, hp⟩ Qc) (q : ∀ loc, Q (.ret (.int (bsr p lo hi))) ⟨loc, hp⟩) :
    EX (FcX G A "bisect_right" (fdS PB 2) L f cdv [] h s₀ r) (fdB PB 2) ⟨[("key", .none), ("hi", hiV), ("lo", .int lo), ("x", x), ("a", .ref a)], hp⟩ Q := by
  have tail : EX (FcX G A "bisect_right" (fdS PB 2) L f cdv [] h s₀ r) ((fdB PB 2).drop 2) ⟨nL .none x a lo hi, hp⟩ Q := by
    conv => arg 2; whnf
    unfold nL
    walk_at "m"
    refine CN.t rfl ?_
    refine x_cons ?_
    refine s_while (fun n st => ∃ lo' hi', n = hi' - lo' ∧ lo' ≤ 16777216 ∧ hi' ≤ vs.length ∧ bsr p lo' hi' = bsr p lo hi ∧ st = ⟨nL .none x a lo' hi', hp⟩) (hi - lo) _ (WK.refl _) ⟨lo, hi, rfl, hlo, hhi, rfl, rfl⟩ ?_
    rintro n _ ⟨lo', hi', rfl, h1, h2, h3, rfl⟩
    unfold nL
    walk_at "m"
    refine CN.by (fun e => ?_) (fun e => ?_)
    · have e := of_decide_eq_true e
      have hlt : lo' < hi' := Int.ofNat_lt.mp e
      obtain ⟨m1, m2⟩ := mid_le hlt
      have hmid : (lo' + hi') / 2 < vs.length := Nat.lt_of_lt_of_le m2 h2
      walk_at "m"
      refine bo_half h1 (Nat.le_trans h2 hsz) ?_
      walk_at "m"
      refine sb_listN hm (List.getElem?_eq_getElem hmid) (nat_small (Nat.le_trans (Nat.le_of_lt hmid) hsz)) ?_
      walk_at "m"
      refine hcmp _ _ _ _ (List.getElem?_eq_getElem hmid) ?_
      walk_at "m"
      refine CN.by (fun e2 => ?_) (fun e2 => ?_)
      · walk_at "m"
        refine ⟨(lo' + hi') / 2 - lo', ⟨nL .none x a lo' ((lo' + hi') / 2), hp⟩, mid_dec2 m1 m2, ⟨?_, .refl _⟩, lo', _, rfl, h1, Nat.le_of_lt hmid, ?_, rfl⟩
        · unfold nL; walk_at "loc"
        · rw [← bsr_left hlt (by simpa using e2)]; exact h3
      · walk_at "m"
        refine ⟨hi' - ((lo' + hi') / 2 + 1), ⟨nL .none x a ((lo' + hi') / 2 + 1) hi', hp⟩, mid_dec1 m1 m2, ⟨?_, .refl _⟩, _, hi', rfl, Nat.le_trans m2 (Nat.le_trans h2 hsz), h2, ?_, rfl⟩
        · unfold nL; walk_at "loc"
        · rw [← bsr_right hlt (by simpa using e2)]; exact h3
    · have e := of_decide_eq_false e
      walk_at "m"
      rw [← h3, bsr_done (by omega)] at q
      exact q _
  conv => arg 2; whnf
  walk_at "m"
  refine CN.f (decide_eq_false (by omega)) ?_
  walk_at "m"
  rcases hV with rfl | ⟨rfl, e⟩
  · refine CN.f rfl ?_
    refine ex_nil (nx_next ?_)
    refine TR.preWK (st' := ⟨nL .none x a lo hi, hp⟩) ⟨?_, .refl _⟩ tail
    unfold nL; walk_at "loc"
  · refine CN.t rfl ?_
    walk_at "ms"
    refine ⟨trivial, ca_bi (len_listR hm hsz ?_)⟩
    walk_at "ms"
    rw [← e]
    refine nx_next (ex_nil (nx_next ?_))
    refine TR.preWK (st' := ⟨nL .none x a lo hi, hp⟩) ⟨?_, .refl _⟩ tail
    unfold nL; walk_at "loc"
theorem bisR1 (hl : nsIn G.K mainGlobals "len" = some none) (hm : RL hp a vs) (hsz : vs.length ≤ 16777216) (hlo : lo ≤ 16777216) (hhi : hi ≤ vs.length) (hV : hiV = .int hi ∨ (hiV = .none ∧ hi = vs.length))
    (hkey : ∀ loc (i : Nat) v Qc, vs[i]? = some v → (∀ w, ws[i]? = some w → Qc w ⟨loc, hp⟩) → Keeper (FcX G A "bisect_right" (fdS PB 2) L f cdv [] h s₀ r) (.ref k) ⟨loc, hp⟩ ∧ CA (FcX G A "bisect_right" (fdS PB 2) L f cdv [] h s₀ r) (.ref k) [v] [] [] ⟨loc, hp⟩ Qc) (hws : ws.length = vs.length)
    (hcmp : ∀ loc (i : Nat) w Qc, ws[i]? = some w → Qc (.bool !(p i)) ⟨loc, hp⟩ → CO (FcX G A "bisect_right" (fdS PB 2) L f cdv [] h s₀ r) .Lt x w ⟨loc, hp⟩ Qc) (q : ∀ loc, Q (.ret (.int (bsr p lo hi))) ⟨loc, hp⟩) :
    EX (FcX G A "bisect_right" (fdS PB 2) L f cdv [] h s₀ r) (fdB PB 2) ⟨[("key", (.ref k)), ("hi", hiV), ("lo", .int lo), ("x", x), ("a", .ref a)], hp⟩ Q := by
  have tail : EX (FcX G A "bisect_right" (fdS PB 2) L f cdv [] h s₀ r) ((fdB PB 2).drop 2) ⟨nL (.ref k) x a lo hi, hp⟩ Q := by
    conv => arg 2; whnf
    unfold nL
    walk_at "m"
    refine CN.f rfl ?_
    refine x_cons ?_
    refine s_while (fun n st => ∃ lo' hi', n = hi' - lo' ∧ lo' ≤ 16777216 ∧ hi' ≤ vs.length ∧ bsr p lo' hi' = bsr p lo hi ∧ st = ⟨nL (.ref k) x a lo' hi', hp⟩) (hi - lo) _ (WK.refl _) ⟨lo, hi, rfl, hlo, hhi, rfl, rfl⟩ ?_
    rintro n _ ⟨lo', hi', rfl, h1, h2, h3, rfl⟩
    unfold nL
    walk_at "m"
    refine CN.by (fun e => ?_) (fun e => ?_)
    · have e := of_decide_eq_true e
      have hlt : lo' < hi' := Int.ofNat_lt.mp e
      obtain ⟨m1, m2⟩ := mid_le hlt
      have hmid : (lo' + hi') / 2 < vs.length := Nat.lt_of_lt_of_le m2 h2
      walk_at "m"
      refine bo_half h1 (Nat.le_trans h2 hsz) ?_
      walk_at "m"
      refine sb_listN hm (List.getElem?_eq_getElem hmid) (nat_small (Nat.le_trans (Nat.le_of_lt hmid) hsz)) ?_
      walk_at "m"
      refine hkey _ _ _ _ (List.getElem?_eq_getElem hmid) fun w hw => ?_
      walk_at "m"
      refine hcmp _ _ _ _ hw ?_
      walk_at "m"
      refine CN.by (fun e2 => ?_) (fun e2 => ?_)
      · walk_at "m"
        refine ⟨(lo' + hi') / 2 - lo', ⟨nL (.ref k) x a lo' ((lo' + hi') / 2), hp⟩, mid_dec2 m1 m2, ⟨?_, .refl _⟩, lo', _, rfl, h1, Nat.le_of_lt hmid, ?_, rfl⟩
        · unfold nL; walk_at "loc"
        · rw [← bsr_left hlt (by simpa using e2)]; exact h3
      · walk_at "m"
        refine ⟨hi' - ((lo' + hi') / 2 + 1), ⟨nL (.ref k) x a ((lo' + hi') / 2 + 1) hi', hp⟩, mid_dec1 m1 m2, ⟨?_, .refl _⟩, _, hi', rfl, Nat.le_trans m2 (Nat.le_trans h2 hsz), h2, ?_, rfl⟩
        · unfold nL; walk_at "loc"
        · rw [← bsr_right hlt (by simpa using e2)]; exact h3
    · have e := of_decide_eq_false e
      walk_at "m"
      rw [← h3, bsr_done (by omega)] at q
      exact q _
  conv => arg 2; whnf
  walk_at "m"
  refine CN.f (decide_eq_false (by omega)) ?_
  walk_at "m"
  rcases hV with rfl | ⟨rfl, e⟩
  · refine CN.f rfl ?_
    refine ex_nil (nx_next ?_)
    refine TR.preWK (st' := ⟨nL (.ref k) x a lo hi, hp⟩) ⟨?_, .refl _⟩ tail
    unfold nL; walk_at "loc"
  · refine CN.t rfl ?_
    walk_at "ms"
    refine ⟨trivial, ca_bi (len_listR hm hsz ?_)⟩
    walk_at "ms"
    rw [← e]
    refine nx_next (ex_nil (nx_next ?_))
    refine TR.preWK (st' := ⟨nL (.ref k) x a lo hi, hp⟩) ⟨?_, .refl _⟩ tail
    unfold nL; walk_at "loc"
end

noncomputable def DFk (K : Frag) (dV kV : Value) : Prop := ∃ T o t n D o' hh t' n', dV = .ref T ∧ K.lookup T = some o ∧ o.data = .seq #[.int 0 t, .none] n ∧ kV = .ref D ∧ K.lookup D = some o' ∧ o'.data = .dict #[⟨hh, .str "key" t', .none⟩] n'
theorem all2_1 {α β : Type} {R : α → β → Prop} {vs : List α} {b0 : β} (h : All2 R vs [b0]) : ∃ v0, vs = [v0] ∧ R v0 b0 := match vs, h with
  | _, .cons r0 .nil => ⟨_, rfl, r0⟩
theorem all2_2 {α β : Type} {R : α → β → Prop} {vs : List α} {b0 b1 : β} (h : All2 R vs [b0, b1]) : ∃ v0 v1, vs = [v0, v1] ∧ R v0 b0 ∧ R v1 b1 := match vs, h with
  | _, .cons r0 h => let ⟨_, e, r1⟩ := all2_1 h; ⟨_, _, congrArg _ e, r0, r1⟩
theorem all2_3 {α β : Type} {R : α → β → Prop} {vs : List α} {b0 b1 b2 : β} (h : All2 R vs [b0, b1, b2]) : ∃ v0 v1 v2, vs = [v0, v1, v2] ∧ R v0 b0 ∧ R v1 b1 ∧ R v2 b2 := match vs, h with
  | _, .cons r0 h => let ⟨_, _, e, r1, r2⟩ := all2_2 h; ⟨_, _, _, congrArg _ e, r0, r1, r2⟩
theorem all2_4 {α β : Type} {R : α → β → Prop} {vs : List α} {b0 b1 b2 b3 : β} (h : All2 R vs [b0, b1, b2, b3]) : ∃ v0 v1 v2 v3, vs = [v0, v1, v2, v3] ∧ R v0 b0 ∧ R v1 b1 ∧ R v2 b2 ∧ R v3 b3 := match vs, h with
  | _, .cons r0 h => let ⟨_, _, _, e, r1, r2, r3⟩ := all2_3 h; ⟨_, _, _, _, congrArg _ e, r0, r1, r2, r3⟩
theorem bn_same {i : Nat} (hi : i = 1 ∨ i = 2 ∨ i = 3 ∨ i = 4) {x : Str} {dV kV doc pm ct cdv : Value} {an : Option Addr} {as : Args} : bindArgs (fnX x x (fdA PB i) (fdB PB i) (fdS PB i) [] dV kV doc pm an cdv ct) as = bindArgs (fnX x x (fdA PB 1) (fdB PB 1) (fdS PB 1) [] dV kV doc pm an cdv ct) as := by
  rcases hi with rfl | rfl | rfl | rfl <;> kernel_rfl
theorem BN.one {K : Frag} {i : Nat} (hi : i = 1 ∨ i = 2 ∨ i = 3 ∨ i = 4) {x : Str} {dV kV doc pm ct cdv : Value} {an : Option Addr} (hd : DFk K dV kV) {as : List V} {kn : List Str} {ks : List V} {ab : List (Str × V)}
    (h : ∀ (s : Shared) (vs kvs : List Value) (T : Addr) (t : Tok) (D : Addr) (o : Obj), (∃ oc od hh t' n' sl, o = ⟨oc, od, .dict #[⟨hh, .str "key" t', .none⟩] n', sl⟩) → All2 VR vs as → All2 VR kvs ks → ∃ binds, (∀ (M : Model) (A : Around) (E : Value → Shared → Prop) (Q : List (Str × Value) → Shared → Prop),
      (∀ {R : Option (Array Value) → Shared → Prop}, R (some #[.int 0 t, .none]) s → wpAny M A (seqItems? (Value.ref T)) R E s) → (∀ {R : Obj → Shared → Prop}, R o s → wpAny M A (loadPart D (some (.str "key" 0))) R E s) → Q binds s →
      wpAny M A (bindArgs (fnX x x (fdA PB 1) (fdB PB 1) (fdS PB 1) [] (.ref T) (.ref D) doc pm an cdv ct) ⟨vs, kn.zip kvs⟩) Q E s) ∧ All2 (fun p q => p.1 = q.1 ∧ VR p.2 q.2) binds ab) :
    BN K (fnX x x (fdA PB i) (fdB PB i) (fdS PB i) [] dV kV doc pm an cdv ct) as kn ks ab := by
  obtain ⟨T, o, t, n, D, o', hh, t', n', rfl, hT, ho, rfl, hD, ho'⟩ := hd
  intro s X vs kvs r1 r2
  obtain ⟨b, B, R⟩ := h s vs kvs T t D o' (by obtain ⟨oc, od, dt, sl⟩ := o'; exact ⟨oc, od, hh, t', n', sl, by rw [show dt = _ from ho']⟩) r1 r2
  refine ⟨b, fun M A E Q hQ => ?_, R⟩
  rw [bn_same hi]
  exact B M A E Q (fun h => wpAny_seqItems (X _ _ hT) ho h) (fun h => wpAny_loadPart (X _ _ hD) h) hQ
theorem bn21 {K : Frag} {i : Nat} (hi : i = 1 ∨ i = 2 ∨ i = 3 ∨ i = 4) {x : Str} {dV kV doc pm ct cdv : Value} {an : Option Addr} (hd : DFk K dV kV) {a b w : V} :
    BN K (fnX x x (fdA PB i) (fdB PB i) (fdS PB i) [] dV kV doc pm an cdv ct) [a, b] ["key"] [w] [("a", a), ("x", b), ("lo", .int 0), ("hi", .none), ("key", w)] := by
  refine BN.one hi hd fun s vs kvs T t D o ⟨oc, od, hh, t', n', sl, e⟩ r1 r2 => ?_
  obtain ⟨v0, v1, rfl, h0, h1⟩ := all2_2 r1
  obtain ⟨vw, rfl, rw⟩ := all2_1 r2
  refine ⟨[("a", v0), ("x", v1), ("lo", (.int 0 t)), ("hi", .none), ("key", vw)], fun M A E Q h1 h2 hQ => ?_, .cons ⟨rfl, h0⟩ (.cons ⟨rfl, h1⟩ (.cons ⟨rfl, .int _ _⟩ (.cons ⟨rfl, .none⟩ (.cons ⟨rfl, rw⟩ .nil))))⟩
  refine wpAny_bind (m := seqItems? (Value.ref T)) (h1 ?_)
  conv => arg 3; whnf
  exact wpAny_pure hQ
theorem bn31 {K : Frag} {i : Nat} (hi : i = 1 ∨ i = 2 ∨ i = 3 ∨ i = 4) {x : Str} {dV kV doc pm ct cdv : Value} {an : Option Addr} (hd : DFk K dV kV) {a b l w : V} :
    BN K (fnX x x (fdA PB i) (fdB PB i) (fdS PB i) [] dV kV doc pm an cdv ct) [a, b, l] ["key"] [w] [("a", a), ("x", b), ("lo", l), ("hi", .none), ("key", w)] := by
  refine BN.one hi hd fun s vs kvs T t D o ⟨oc, od, hh, t', n', sl, e⟩ r1 r2 => ?_
  obtain ⟨v0, v1, v2, rfl, h0, h1, h2⟩ := all2_3 r1
  obtain ⟨vw, rfl, rw⟩ := all2_1 r2
  refine ⟨[("a", v0), ("x", v1), ("lo", v2), ("hi", .none), ("key", vw)], fun M A E Q h1 h2 hQ => ?_, .cons ⟨rfl, h0⟩ (.cons ⟨rfl, h1⟩ (.cons ⟨rfl, h2⟩ (.cons ⟨rfl, .none⟩ (.cons ⟨rfl, rw⟩ .nil))))⟩
  refine wpAny_bind (m := seqItems? (Value.ref T)) (h1 ?_)
  conv => arg 3; whnf
  exact wpAny_pure hQ
theorem bn40 {K : Frag} {i : Nat} (hi : i = 1 ∨ i = 2 ∨ i = 3 ∨ i = 4) {x : Str} {dV kV doc pm ct cdv : Value} {an : Option Addr} (hd : DFk K dV kV) {a b l u : V} :
    BN K (fnX x x (fdA PB i) (fdB PB i) (fdS PB i) [] dV kV doc pm an cdv ct) [a, b, l, u] [] [] [("a", a), ("x", b), ("lo", l), ("hi", u), ("key", .none)] := by
  refine BN.one hi hd fun s vs kvs T t D o ⟨oc, od, hh, t', n', sl, e⟩ r1 r2 => ?_
  obtain ⟨v0, v1, v2, v3, rfl, h0, h1, h2, h3⟩ := all2_4 r1
  cases r2
  refine ⟨[("a", v0), ("x", v1), ("lo", v2), ("hi", v3), ("key", .none)], fun M A E Q h1 h2 hQ => ?_, .cons ⟨rfl, h0⟩ (.cons ⟨rfl, h1⟩ (.cons ⟨rfl, h2⟩ (.cons ⟨rfl, h3⟩ (.cons ⟨rfl, .none⟩ .nil))))⟩
  refine wpAny_bind (m := seqItems? (Value.ref T)) (h1 ?_)
  conv => arg 3; whnf
  subst e
  refine wpAny_bind (m := loadPart D (some (.str "key" 0))) (h2 ?_)
  conv => arg 3; whnf
  exact wpAny_pure hQ
theorem bn41 {K : Frag} {i : Nat} (hi : i = 1 ∨ i = 2 ∨ i = 3 ∨ i = 4) {x : Str} {dV kV doc pm ct cdv : Value} {an : Option Addr} (hd : DFk K dV kV) {a b l u w : V} :
    BN K (fnX x x (fdA PB i) (fdB PB i) (fdS PB i) [] dV kV doc pm an cdv ct) [a, b, l, u] ["key"] [w] [("a", a), ("x", b), ("lo", l), ("hi", u), ("key", w)] := by
  refine BN.one hi hd fun s vs kvs T t D o ⟨oc, od, hh, t', n', sl, e⟩ r1 r2 => ?_
  obtain ⟨v0, v1, v2, v3, rfl, h0, h1, h2, h3⟩ := all2_4 r1
  obtain ⟨vw, rfl, rw⟩ := all2_1 r2
  refine ⟨[("a", v0), ("x", v1), ("lo", v2), ("hi", v3), ("key", vw)], fun M A E Q h1 h2 hQ => ?_, .cons ⟨rfl, h0⟩ (.cons ⟨rfl, h1⟩ (.cons ⟨rfl, h2⟩ (.cons ⟨rfl, h3⟩ (.cons ⟨rfl, rw⟩ .nil))))⟩
  refine wpAny_bind (m := seqItems? (Value.ref T)) (h1 ?_)
  conv => arg 3; whnf
  exact wpAny_pure hQ


theorem typ_insert : typeOf (.builtin "list.insert") = pure (.type "method_descriptor") := by show builtinType _ = _; rw [builtinType_eq_fast]; kernel_rfl
noncomputable def BNk (K : Frag) (i : Nat) (as : List V) (kn : List Str) (ks : List V) (ab : List (Str × V)) : Prop := ∀ x dV kV doc pm an cdv ct, DFk K dV kV → BN K (fnX x x (fdA PB i) (fdB PB i) (fdS PB i) [] dV kV doc pm an cdv ct) as kn ks ab
/-- a function of the text that has the defaults of bisect -/
noncomputable def FnB (G : Gl) (x : Str) (i : Nat) (f : Addr) : Prop := nsIn G.K mainGlobals x = some (some (.ref f)) ∧ ∃ oc od osl dV kV doc pm an cd ct, G.K.lookup f = some ⟨oc, od, .func (fnX x x (fdA PB i) (fdB PB i) (fdS PB i) [] dV kV doc pm an (.ref cd) ct), osl⟩ ∧ codeIn G.K (.ref cd) x = true ∧ DFk G.K dV kV
theorem FnB.keeper {c : Fc} {x : Str} {i : Nat} {f : Addr} {st : St} (F : FnB c.g x i f) : Keeper c (.ref f) st := by
  obtain ⟨_, oc, od, osl, dV, kV, doc, pm, an, cd, ct, hK, _⟩ := F
  exact .inl ⟨_, _, _, _, hK⟩
noncomputable def KeyOk (G : Gl) (m : Nat) (k : Addr) (vs ws : List V) (hp : Hp) : Prop := ∀ c' : Fc, c'.g = G → m ≤ c'.room → ∀ loc (i : Nat) v Qc, vs[i]? = some v → (∀ w, ws[i]? = some w → Qc w ⟨loc, hp⟩) → Keeper c' (.ref k) ⟨loc, hp⟩ ∧ CA c' (.ref k) [v] [] [] ⟨loc, hp⟩ Qc
noncomputable def KeyAt (G : Gl) (m : Nat) (k : Addr) (v w : V) (hp : Hp) : Prop := ∀ c' : Fc, c'.g = G → m ≤ c'.room → ∀ loc Qc, Qc w ⟨loc, hp⟩ → Keeper c' (.ref k) ⟨loc, hp⟩ ∧ CA c' (.ref k) [v] [] [] ⟨loc, hp⟩ Qc
noncomputable def LtL (G : Gl) (x : V) (vs : List V) (p : Nat → Bool) (hp : Hp) : Prop := ∀ c' : Fc, c'.g = G → ∀ loc (i : Nat) v Qc, vs[i]? = some v → Qc (.bool (p i)) ⟨loc, hp⟩ → CO c' .Lt v x ⟨loc, hp⟩ Qc
noncomputable def LtR (G : Gl) (x : V) (vs : List V) (p : Nat → Bool) (hp : Hp) : Prop := ∀ c' : Fc, c'.g = G → ∀ loc (i : Nat) v Qc, vs[i]? = some v → Qc (.bool !(p i)) ⟨loc, hp⟩ → CO c' .Lt x v ⟨loc, hp⟩ Qc
theorem bs_le {p : Nat → Bool} : ∀ f lo hi, lo ≤ hi → bs p f lo hi ≤ hi := by
  intro f
  induction f with
  | zero => intro lo hi h; exact h
  | succ f ih =>
    intro lo hi h
    simp only [bs]
    split
    · split
      · exact ih _ _ (by omega)
      · exact Nat.le_trans (ih _ _ (by omega)) (by omega)
    · exact h
theorem bsr_le {p : Nat → Bool} {lo hi : Nat} (h : lo ≤ hi) : bsr p lo hi ≤ hi := bs_le _ _ _ h

section
variable {c : Fc} {f fb a k : Addr} {as ks vs ws : List V} {kn : List Str} {x kx hiV : V} {lo hi m : Nat} {hp hp' : Hp} {loc : Loc} {p : Nat → Bool} {Q : V → St → Prop}
theorem ca_bisL0 (F : FnB c.g "bisect_left" 4 f) (hl : nsIn c.g.K mainGlobals "len" = some none) (hr : 0 < c.room) (hb : BNk c.g.K 4 as kn ks [("a", .ref a), ("x", x), ("lo", .int lo), ("hi", hiV), ("key", .none)])
    (ha : RL hp a vs) (hsz : vs.length ≤ 16777216) (hlo : lo ≤ 16777216) (hhi : hi ≤ vs.length) (hV : hiV = .int hi ∨ (hiV = .none ∧ hi = vs.length)) (hc : LtL c.g x vs p hp) (q : Q (.int (bsr p lo hi)) ⟨loc, hp⟩) : CA c (.ref f) as kn ks ⟨loc, hp⟩ Q := by
  obtain ⟨_, oc, od, osl, dV, kV, doc, pm, an, cd, ct, hK, hcd, hD⟩ := F
  refine ca_def hK hcd hr (hb _ _ _ _ _ _ _ _ hD) (fun L g A => bi_locals ?_ fun A' _ => ?_) (by kernel_rfl) (by kernel_rfl) (by kernel_rfl)
  · intro y hy
    simp only [List.mem_cons, List.not_mem_nil, or_false] at hy
    rcases hy with rfl | rfl | rfl | rfl | rfl <;> kernel_rfl
  · exact bisL0 (G := c.g) (A := A') (L := L) (f := f) (cdv := .ref cd) (h := g) (s₀ := c.s₀) (r := c.room - 1) (hp := hp) hl ha hsz hlo hhi hV (fun loc i v Qc h1 h2 => hc (FcX c.g A' "bisect_left" (fdS PB 4) L f (.ref cd) [] g c.s₀ (c.room - 1)) rfl loc i v Qc h1 h2) fun _ => q
theorem ca_bisL1 (F : FnB c.g "bisect_left" 4 f) (hl : nsIn c.g.K mainGlobals "len" = some none) (hr : 0 < c.room) (hb : BNk c.g.K 4 as kn ks [("a", .ref a), ("x", x), ("lo", .int lo), ("hi", hiV), ("key", (.ref k))])
    (ha : RL hp a vs) (hsz : vs.length ≤ 16777216) (hlo : lo ≤ 16777216) (hhi : hi ≤ vs.length) (hV : hiV = .int hi ∨ (hiV = .none ∧ hi = vs.length)) (hkey : KeyOk c.g m k vs ws hp) (hws : ws.length = vs.length) (hm : m + 1 ≤ c.room) (hc : LtL c.g x ws p hp) (q : Q (.int (bsr p lo hi)) ⟨loc, hp⟩) : CA c (.ref f) as kn ks ⟨loc, hp⟩ Q := by
  obtain ⟨_, oc, od, osl, dV, kV, doc, pm, an, cd, ct, hK, hcd, hD⟩ := F
  refine ca_def hK hcd hr (hb _ _ _ _ _ _ _ _ hD) (fun L g A => bi_locals ?_ fun A' _ => ?_) (by kernel_rfl) (by kernel_rfl) (by kernel_rfl)
  · intro y hy
    simp only [List.mem_cons, List.not_mem_nil, or_false] at hy
    rcases hy with rfl | rfl | rfl | rfl | rfl <;> kernel_rfl
  · exact bisL1 (G := c.g) (A := A') (L := L) (f := f) (cdv := .ref cd) (h := g) (s₀ := c.s₀) (r := c.room - 1) (hp := hp) hl ha hsz hlo hhi hV (fun loc i v Qc h1 h2 => hkey (FcX c.g A' "bisect_left" (fdS PB 4) L f (.ref cd) [] g c.s₀ (c.room - 1)) rfl (by show m ≤ c.room - 1; omega) loc i v Qc h1 h2) hws (fun loc i v Qc h1 h2 => hc (FcX c.g A' "bisect_left" (fdS PB 4) L f (.ref cd) [] g c.s₀ (c.room - 1)) rfl loc i v Qc h1 h2) fun _ => q
theorem ca_bisR0 (F : FnB c.g "bisect_right" 2 f) (hl : nsIn c.g.K mainGlobals "len" = some none) (hr : 0 < c.room) (hb : BNk c.g.K 2 as kn ks [("a", .ref a), ("x", x), ("lo", .int lo), ("hi", hiV), ("key", .none)])
    (ha : RL hp a vs) (hsz : vs.length ≤ 16777216) (hlo : lo ≤ 16777216) (hhi : hi ≤ vs.length) (hV : hiV = .int hi ∨ (hiV = .none ∧ hi = vs.length)) (hc : LtR c.g x vs p hp) (q : Q (.int (bsr p lo hi)) ⟨loc, hp⟩) : CA c (.ref f) as kn ks ⟨loc, hp⟩ Q := by
  obtain ⟨_, oc, od, osl, dV, kV, doc, pm, an, cd, ct, hK, hcd, hD⟩ := F
  refine ca_def hK hcd hr (hb _ _ _ _ _ _ _ _ hD) (fun L g A => bi_locals ?_ fun A' _ => ?_) (by kernel_rfl) (by kernel_rfl) (by kernel_rfl)
  · intro y hy
    simp only [List.mem_cons, List.not_mem_nil, or_false] at hy
    rcases hy with rfl | rfl | rfl | rfl | rfl <;> kernel_rfl
  · exact bisR0 (G := c.g) (A := A') (L := L) (f := f) (cdv := .ref cd) (h := g) (s₀ := c.s₀) (r := c.room - 1) (hp := hp) hl ha hsz hlo hhi hV (fun loc i v Qc h1 h2 => hc (FcX c.g A' "bisect_right" (fdS PB 2) L f (.ref cd) [] g c.s₀ (c.room - 1)) rfl loc i v Qc h1 h2) fun _ => q
theorem ca_bisR1 (F : FnB c.g "bisect_right" 2 f) (hl : nsIn c.g.K mainGlobals "len" = some none) (hr : 0 < c.room) (hb : BNk c.g.K 2 as kn ks [("a", .ref a), ("x", x), ("lo", .int lo), ("hi", hiV), ("key", (.ref k))])
    (ha : RL hp a vs) (hsz : vs.length ≤ 16777216) (hlo : lo ≤ 16777216) (hhi : hi ≤ vs.length) (hV : hiV = .int hi ∨ (hiV = .none ∧ hi = vs.length)) (hkey : KeyOk c.g m k vs ws hp) (hws : ws.length = vs.length) (hm : m + 1 ≤ c.room) (hc : LtR c.g x ws p hp) (q : Q (.int (bsr p lo hi)) ⟨loc, hp⟩) : CA c (.ref f) as kn ks ⟨loc, hp⟩ Q := by
  obtain ⟨_, oc, od, osl, dV, kV, doc, pm, an, cd, ct, hK, hcd, hD⟩ := F
  refine ca_def hK hcd hr (hb _ _ _ _ _ _ _ _ hD) (fun L g A => bi_locals ?_ fun A' _ => ?_) (by kernel_rfl) (by kernel_rfl) (by kernel_rfl)
  · intro y hy
    simp only [List.mem_cons, List.not_mem_nil, or_false] at hy
    rcases hy with rfl | rfl | rfl | rfl | rfl <;> kernel_rfl
  · exact bisR1 (G := c.g) (A := A') (L := L) (f := f) (cdv := .ref cd) (h := g) (s₀ := c.s₀) (r := c.room - 1) (hp := hp) hl ha hsz hlo hhi hV (fun loc i v Qc h1 h2 => hkey (FcX c.g A' "bisect_right" (fdS PB 2) L f (.ref cd) [] g c.s₀ (c.room - 1)) rfl (by show m ≤ c.room - 1; omega) loc i v Qc h1 h2) hws (fun loc i v Qc h1 h2 => hc (FcX c.g A' "bisect_right" (fdS PB 2) L f (.ref cd) [] g c.s₀ (c.room - 1)) rfl loc i v Qc h1 h2) fun _ => q

theorem ca_insL1 (F : FnB c.g "insort_left" 3 f) (FB : FnB c.g "bisect_left" 4 fb) (hl : nsIn c.g.K mainGlobals "len" = some none) (hb : BNk c.g.K 3 as kn ks [("a", .ref a), ("x", x), ("lo", .int lo), ("hi", hiV), ("key", (.ref k))])
    (ha : Upd hp a (.list vs) (.list (vs.take (bsr p lo hi) ++ x :: vs.drop (bsr p lo hi))) hp') (hsz : vs.length ≤ 16777216) (hlo : lo ≤ hi) (hhi : hi ≤ vs.length) (hV : hiV = .int hi ∨ (hiV = .none ∧ hi = vs.length)) (hkey : KeyOk c.g m k vs ws hp) (hkx : KeyAt c.g m k x kx hp) (hws : ws.length = vs.length) (hm : m + 2 ≤ c.room) (hm1 : 1 ≤ m) (hc : LtL c.g kx ws p hp) (q : Q .none ⟨loc, hp'⟩) : CA c (.ref f) as kn ks ⟨loc, hp⟩ Q := by
  obtain ⟨_, oc, od, osl, dV, kV, doc, pm, an, cd, ct, hK, hcd, hD⟩ := F
  refine ca_def hK hcd (by omega) (hb _ _ _ _ _ _ _ _ hD) (fun L g A => bi_locals ?_ fun A' _ => ?_) (by kernel_rfl) (by kernel_rfl) (by kernel_rfl)
  · intro y hy
    simp only [List.mem_cons, List.not_mem_nil, or_false] at hy
    rcases hy with rfl | rfl | rfl | rfl | rfl <;> kernel_rfl
  have hn := FB.1
  have hle := bsr_le (p := p) hlo
  have fin : EX (FcX c.g A' "insort_left" (fdS PB 3) L f (.ref cd) [] g c.s₀ (c.room - 1)) ((fdB PB 3).drop 1) ⟨[("lo", .int (bsr p lo hi)), ("x", x), ("a", .ref a)], hp⟩ fun fl st2 => Q (retOf fl) ⟨loc, st2.hp⟩ := by
    conv => arg 2; whnf
    refine x_cons (es_expr (ev_methL ?_ PySem.F.slot_list_insert typ_insert (by rfl) (by rfl) (by decide) (by rfl)) (by rfl) (by rfl))
    walk_at "ms"
    refine ⟨a, vs, rfl, .inl ha.mem, ?_⟩
    walk_at "ms"
    refine m_insert ha (by omega) hsz ⟨rfl, ?_⟩
    walk_at "m"
    exact q
  show EX (FcX c.g A' "insort_left" (fdS PB 3) L f (.ref cd) [] g c.s₀ (c.room - 1)) (fdB PB 3) ⟨[("key", (.ref k)), ("hi", hiV), ("lo", .int lo), ("x", x), ("a", .ref a)], hp⟩ _
  conv => arg 2; whnf
  walk_at "m"
  refine CN.f rfl ?_
  walk_at "ms"
  refine hkx (FcX c.g A' "insort_left" (fdS PB 3) L f (.ref cd) [] g c.s₀ (c.room - 1)) rfl (by show m ≤ c.room - 1; omega) _ _ ?_
  walk_at "ms"
  refine ⟨FB.keeper, ca_bisL1 (c := FcX c.g A' "insort_left" (fdS PB 3) L f (.ref cd) [] g c.s₀ (c.room - 1)) (hp := hp) FB hl (by show 0 < c.room - 1; omega) (fun _ _ _ _ _ _ _ _ h => bn41 (by decide) h) (.inl ha.mem) hsz (by omega) hhi hV hkey hws (by show m + 1 ≤ c.room - 1; omega) hc ?_⟩
  walk_at "ms"
  refine nx_next (ex_nil (nx_next ?_))
  refine TR.preWK (st' := ⟨[("lo", .int (bsr p lo hi)), ("x", x), ("a", .ref a)], hp⟩) ⟨?_, .refl _⟩ fin
  walk_at "loc"
theorem ca_insR0 (F : FnB c.g "insort_right" 1 f) (FB : FnB c.g "bisect_right" 2 fb) (hl : nsIn c.g.K mainGlobals "len" = some none) (hb : BNk c.g.K 1 as kn ks [("a", .ref a), ("x", x), ("lo", .int lo), ("hi", hiV), ("key", .none)])
    (ha : Upd hp a (.list vs) (.list (vs.take (bsr p lo hi) ++ x :: vs.drop (bsr p lo hi))) hp') (hsz : vs.length ≤ 16777216) (hlo : lo ≤ hi) (hhi : hi ≤ vs.length) (hV : hiV = .int hi ∨ (hiV = .none ∧ hi = vs.length)) (hr2 : 2 ≤ c.room) (hc : LtR c.g x vs p hp) (q : Q .none ⟨loc, hp'⟩) : CA c (.ref f) as kn ks ⟨loc, hp⟩ Q := by
  obtain ⟨_, oc, od, osl, dV, kV, doc, pm, an, cd, ct, hK, hcd, hD⟩ := F
  refine ca_def hK hcd (by omega) (hb _ _ _ _ _ _ _ _ hD) (fun L g A => bi_locals ?_ fun A' _ => ?_) (by kernel_rfl) (by kernel_rfl) (by kernel_rfl)
  · intro y hy
    simp only [List.mem_cons, List.not_mem_nil, or_false] at hy
    rcases hy with rfl | rfl | rfl | rfl | rfl <;> kernel_rfl
  have hn := FB.1
  have hle := bsr_le (p := p) hlo
  have fin : EX (FcX c.g A' "insort_right" (fdS PB 1) L f (.ref cd) [] g c.s₀ (c.room - 1)) ((fdB PB 1).drop 1) ⟨[("lo", .int (bsr p lo hi)), ("x", x), ("a", .ref a)], hp⟩ fun fl st2 => Q (retOf fl) ⟨loc, st2.hp⟩ := by
    conv => arg 2; whnf
    refine x_cons (es_expr (ev_methL ?_ PySem.F.slot_list_insert typ_insert (by rfl) (by rfl) (by decide) (by rfl)) (by rfl) (by rfl))
    walk_at "ms"
    refine ⟨a, vs, rfl, .inl ha.mem, ?_⟩
    walk_at "ms"
    refine m_insert ha (by omega) hsz ⟨rfl, ?_⟩
    walk_at "m"
    exact q
  show EX (FcX c.g A' "insort_right" (fdS PB 1) L f (.ref cd) [] g c.s₀ (c.room - 1)) (fdB PB 1) ⟨[("key", .none), ("hi", hiV), ("lo", .int lo), ("x", x), ("a", .ref a)], hp⟩ _
  conv => arg 2; whnf
  walk_at "m"
  refine CN.t rfl ?_
  walk_at "ms"
  refine ⟨FB.keeper, ca_bisR0 (c := FcX c.g A' "insort_right" (fdS PB 1) L f (.ref cd) [] g c.s₀ (c.room - 1)) (hp := hp) FB hl (by show 0 < c.room - 1; omega) (fun _ _ _ _ _ _ _ _ h => bn40 (by decide) h) (.inl ha.mem) hsz (by omega) hhi hV hc ?_⟩
  walk_at "ms"
  refine nx_next (ex_nil (nx_next ?_))
  refine TR.preWK (st' := ⟨[("lo", .int (bsr p lo hi)), ("x", x), ("a", .ref a)], hp⟩) ⟨?_, .refl _⟩ fin
  walk_at "loc"
theorem ca_insR1 (F : FnB c.g "insort_right" 1 f) (FB : FnB c.g "bisect_right" 2 fb) (hl : nsIn c.g.K mainGlobals "len" = some none) (hb : BNk c.g.K 1 as kn ks [("a", .ref a), ("x", x), ("lo", .int lo), ("hi", hiV), ("key", (.ref k))])
    (ha : Upd hp a (.list vs) (.list (vs.take (bsr p lo hi) ++ x :: vs.drop (bsr p lo hi))) hp') (hsz : vs.length ≤ 16777216) (hlo : lo ≤ hi) (hhi : hi ≤ vs.length) (hV : hiV = .int hi ∨ (hiV = .none ∧ hi = vs.length)) (hkey : KeyOk c.g m k vs ws hp) (hkx : KeyAt c.g m k x kx hp) (hws : ws.length = vs.length) (hm : m + 2 ≤ c.room) (hm1 : 1 ≤ m) (hc : LtR c.g kx ws p hp) (q : Q .none ⟨loc, hp'⟩) : CA c (.ref f) as kn ks ⟨loc, hp⟩ Q := by
  obtain ⟨_, oc, od, osl, dV, kV, doc, pm, an, cd, ct, hK, hcd, hD⟩ := F
  refine ca_def hK hcd (by omega) (hb _ _ _ _ _ _ _ _ hD) (fun L g A => bi_locals ?_ fun A' _ => ?_) (by kernel_rfl) (by kernel_rfl) (by kernel_rfl)
  · intro y hy
    simp only [List.mem_cons, List.not_mem_nil, or_false] at hy
    rcases hy with rfl | rfl | rfl | rfl | rfl <;> kernel_rfl
  have hn := FB.1
  have hle := bsr_le (p := p) hlo
  have fin : EX (FcX c.g A' "insort_right" (fdS PB 1) L f (.ref cd) [] g c.s₀ (c.room - 1)) ((fdB PB 1).drop 1) ⟨[("lo", .int (bsr p lo hi)), ("x", x), ("a", .ref a)], hp⟩ fun fl st2 => Q (retOf fl) ⟨loc, st2.hp⟩ := by
    conv => arg 2; whnf
    refine x_cons (es_expr (ev_methL ?_ PySem.F.slot_list_insert typ_insert (by rfl) (by rfl) (by decide) (by rfl)) (by rfl) (by rfl))
    walk_at "ms"
    refine ⟨a, vs, rfl, .inl ha.mem, ?_⟩
    walk_at "ms"
    refine m_insert ha (by omega) hsz ⟨rfl, ?_⟩
    walk_at "m"
    exact q
  show EX (FcX c.g A' "insort_right" (fdS PB 1) L f (.ref cd) [] g c.s₀ (c.room - 1)) (fdB PB 1) ⟨[("key", (.ref k)), ("hi", hiV), ("lo", .int lo), ("x", x), ("a", .ref a)], hp⟩ _
  conv => arg 2; whnf
  walk_at "m"
  refine CN.f rfl ?_
  walk_at "ms"
  refine hkx (FcX c.g A' "insort_right" (fdS PB 1) L f (.ref cd) [] g c.s₀ (c.room - 1)) rfl (by show m ≤ c.room - 1; omega) _ _ ?_
  walk_at "ms"
  refine ⟨FB.keeper, ca_bisR1 (c := FcX c.g A' "insort_right" (fdS PB 1) L f (.ref cd) [] g c.s₀ (c.room - 1)) (hp := hp) FB hl (by show 0 < c.room - 1; omega) (fun _ _ _ _ _ _ _ _ h => bn41 (by decide) h) (.inl ha.mem) hsz (by omega) hhi hV hkey hws (by show m + 1 ≤ c.room - 1; omega) hc ?_⟩
  walk_at "ms"
  refine nx_next (ex_nil (nx_next ?_))
  refine TR.preWK (st' := ⟨[("lo", .int (bsr p lo hi)), ("x", x), ("a", .ref a)], hp⟩) ⟨?_, .refl _⟩ fin
  walk_at "loc"

end

/-! ## functions without defaults -/
noncomputable def Fn (G : Gl) (x : Str) (i : Nat) (f cd : Addr) : Prop := nsIn G.K mainGlobals x = some (some (.ref f)) ∧ ∃ oc od osl doc pm an ct, G.K.lookup f = some ⟨oc, od, .func (fnX x x (fdA PB i) (fdB PB i) (fdS PB i) [] .none .none doc pm an (.ref cd) ct), osl⟩ ∧ codeIn G.K (.ref cd) x = true
theorem Fn.keeper {c : Fc} {x : Str} {i : Nat} {f cd : Addr} {st : St} (F : Fn c.g x i f cd) : Keeper c (.ref f) st := by
  obtain ⟨_, oc, od, osl, doc, pm, an, ct, hK, _⟩ := F
  exact .inl ⟨_, _, _, _, hK⟩
theorem bn_eq {K : Frag} {fd : FuncData} {as : List V} {ab : List (Str × V)} (h : ∀ vs, All2 VR vs as → ∃ binds, bindArgs fd ⟨vs, []⟩ = pure binds ∧ All2 (fun p q => p.1 = q.1 ∧ VR p.2 q.2) binds ab) : BN K fd as [] [] ab := fun s X vs kvs r1 r2 => by
  cases r2
  obtain ⟨b, e, r⟩ := h vs r1
  exact ⟨b, BindsTo.of_eq e, r⟩
theorem CA.wk {c : Fc} {f : V} {as : List V} {kn : List Str} {ks : List V} {st : St} {Q : V → St → Prop} (h : CA c f as kn ks st fun v st1 => ∃ st2, WK st1 st2 ∧ Q v st2) : CA c f as kn ks st Q := fun fv vs kvs r1 r2 r3 => TR.postWK (h fv vs kvs r1 r2 r3)
/-- a loop as a fold, with a part of the state that is not told -/
theorem FOR.foldE {c : Fc} {st : St} {Q : AFlow → St → Prop} {x : Str} {body : List Stmt} {items : List V} {Src : Hp → Prop} {σ ε : Type} (enc : ε → σ → St) (step : σ → V → σ) (s0 : σ) (e0 : ε) (J : Nat → σ → Prop) (h0 : WK st (enc e0 s0)) (j0 : J 0 s0) (src : ∀ e s, Src (enc e s).hp)
    (turn : ∀ i v e s, items[i]? = some v → J i s → SN c x v (enc e s) fun st1 => EX c body st1 (TU (fun _ st => J (i + 1) (step s v) ∧ ∃ e', st = enc e' (step s v)) 0 Q))
    (done : ∀ e, J items.length (items.foldl step s0) → Q .next (enc e (items.foldl step s0))) : FOR c x body items Src st Q := by
  refine ⟨fun i st => i ≤ items.length ∧ J i ((items.take i).foldl step s0) ∧ ∃ e, st = enc e ((items.take i).foldl step s0), ⟨enc e0 s0, h0, Nat.zero_le _, by simpa using j0, e0, by simp⟩, fun i st ⟨_, _, e, h⟩ => h ▸ src _ _, ?_, ?_⟩
  · rintro i v st hv ⟨hi, hj, ep, rfl⟩
    have hlt : i < items.length := by
      rcases Nat.lt_or_ge i items.length with h | h
      · exact h
      · rw [List.getElem?_eq_none h] at hv; cases hv
    intro val r
    refine TR.mono (turn i v ep _ hv hj val r) fun _ st4 hx => TR.mono hx fun f st5 q => ?_
    have e : (items.take (i + 1)).foldl step s0 = step ((items.take i).foldl step s0) v := by
      rw [List.take_add_one, hv, List.foldl_append]; rfl
    cases f with
    | next => obtain ⟨st6, k, j, e', e6⟩ := q; exact ⟨st6, k, hlt, by rw [e]; exact j, e', by rw [e]; exact e6⟩
    | cont => obtain ⟨st6, k, j, e', e6⟩ := q; exact ⟨st6, k, hlt, by rw [e]; exact j, e', by rw [e]; exact e6⟩
    | brk => exact q
    | ret v => exact q
  · rintro st ⟨_, hj, ep, rfl⟩
    rw [List.take_length] at hj ⊢
    exact done ep hj
theorem rItems_foldl {σ : Type} (step : σ → V → σ) (g : σ → Nat → σ) (a : Int) (n : Nat) (d : Int) (h : ∀ s (i : Nat), step s (.int (a + i * d)) = g s i) (s0 : σ) : (rItems a n d).foldl step s0 = (List.range n).foldl g s0 := by
  unfold rItems
  rw [List.foldl_map]
  congr 1
  funext s i
  exact h s i

/-! ## _byteswap -/
noncomputable def vnat : V → Nat
  | .int i => i.toNat
  | _ => 0
noncomputable def bswI (l : List Nat) (w i : Nat) (s : List Nat) : List Nat := (List.range w).foldl (fun s j => s.set (i + w - 1 - j) (l.getD (i + j) 0)) s
noncomputable def bswF (l : List Nat) (w nb : Nat) : List Nat := (List.range nb).foldl (fun s b => bswI l w (b * w) s) (List.replicate l.length 0)
theorem bswI_len (l : List Nat) (w i : Nat) : ∀ s, (bswI l w i s).length = s.length := by
  unfold bswI
  generalize List.range w = r
  intro s
  induction r generalizing s with
  | nil => rfl
  | cons j r ih => rw [List.foldl_cons, ih]; simp
theorem bswF_len (l : List Nat) (w nb : Nat) : (bswF l w nb).length = l.length := by
  unfold bswF
  have : ∀ (r : List Nat) (s : List Nat), (r.foldl (fun s b => bswI l w (b * w) s) s).length = s.length := by
    intro r
    induction r with
    | nil => intro s; rfl
    | cons j r ih => intro s; rw [List.foldl_cons, ih, bswI_len]
  rw [this]; simp
theorem size_blocks {w nb : Nat} (hw : 0 < w) : Builtin.Range.rangeSize 0 ((w * nb : Nat) : Int) w = nb := by
  unfold Builtin.Range.rangeSize
  rw [if_pos (by omega)]
  cases nb with
  | zero => simp
  | succ n =>
    have h1 : 0 < w * (n + 1) := Nat.mul_pos hw (Nat.succ_pos n)
    rw [if_pos (by omega)]
    have e : ((w * (n + 1) : Nat) : Int) - 0 - 1 = (w - 1 : Int) + w * n := by rw [Nat.mul_add]; push_cast; omega
    rw [e, Int.add_mul_ediv_left _ _ (by omega), Int.ediv_eq_zero_of_lt (by omega) (by omega)]
    push_cast; omega
theorem noPylong {x y : Int} (h : y.natAbs < 2 ^ 64) : Builtin.divisionGoesByPylong x y = false := by
  unfold Builtin.divisionGoesByPylong
  have : (if (y == 0) = true then 0 else y.natAbs.log2 / 30 + 1) ≤ 300 := by
    split
    · omega
    · have : y.natAbs.log2 < 64 := by
        by_cases h0 : y.natAbs = 0
        · rw [h0]; decide
        · exact (Nat.log2_lt h0).mpr h
      omega
  have hd : decide ((if (y == 0) = true then 0 else y.natAbs.log2 / 30 + 1) > 300) = false := decide_eq_false (by omega)
  simp only [hd, Bool.false_and]
section
variable {c : Fc} {f cd : Addr} {l : List Nat} {w nb : Nat} {hp : Hp} {loc : Loc} {Q : V → St → Prop}
theorem ca_swap (F : Fn c.g "_byteswap" 6 f cd) (hr : 0 < c.room) (h1 : nsIn c.g.K mainGlobals "len" = some none) (h2 : nsIn c.g.K mainGlobals "range" = some none) (h3 : nsIn c.g.K mainGlobals "bytearray" = some none) (h4 : nsIn c.g.K mainGlobals "bytes" = some none)
    (hw : 0 < w) (hw' : w ≤ 16777216) (hlen : l.length = w * nb) (hz : l.length ≤ 16777216) (hb : ∀ x ∈ l, x < 256) (q : Q (.bytes (bswF l w nb)) ⟨loc, hp⟩) : CA c (.ref f) [.bytes l, .int w] [] [] ⟨loc, hp⟩ Q := by
  obtain ⟨_, oc, od, osl, doc, pm, an, ct, hK, hcd⟩ := F
  refine CA.wk ?_
  refine ca_def (ab := [("data", .bytes l), ("width", .int w)]) hK hcd hr (bn_eq fun vs r => ?_) (fun L g A => bi_locals ?_ fun A' _ => ?_) (by kernel_rfl) (by kernel_rfl) (by kernel_rfl)
  · obtain ⟨v0, v1, rfl, r0, r1⟩ := all2_2 r
    exact ⟨[("data", v0), ("width", v1)], by kernel_rfl, .cons ⟨rfl, r0⟩ (.cons ⟨rfl, r1⟩ .nil)⟩
  · intro y hy
    simp only [List.mem_cons, List.not_mem_nil, or_false] at hy
    rcases hy with rfl | rfl <;> kernel_rfl
  have hA : True := trivial
  show EX (FcX c.g A' "_byteswap" (fdS PB 6) L f (.ref cd) [] g c.s₀ (c.room - 1)) (fdB PB 6) ⟨[("width", .int w), ("data", .bytes l)], hp⟩ _
  conv => arg 2; whnf
  walk_at "ms"
  refine ⟨trivial, ca_bi (len_bytes' hz ?_)⟩
  walk_at "ms"
  refine ⟨trivial, ca_ty (ca_barr (by omega) fun D => ?_)⟩
  walk_at "ms"
  refine nx_next (x_cons (s_for ?_))
  walk_at "ms"
  refine ⟨trivial, ca_bi (len_bytes' hz ?_)⟩
  walk_at "ms"
  have hmul : ∀ i, i < nb → i * w + w ≤ l.length := fun i hi => by
    rw [hlen, Nat.mul_comm w nb]
    calc i * w + w = (i + 1) * w := by rw [Nat.add_mul, Nat.one_mul]
      _ ≤ nb * w := Nat.mul_le_mul_right w hi
  refine ⟨trivial, ca_ty (ca_range3 (by omega) (noPylong (by omega)) fun R => it_range (small_of (by decide) (by decide) (by omega) (by omega) (by omega) (by omega)) (n := nb) (by rw [hlen]; exact size_blocks hw) ?_)⟩
  refine FOR.fold (fun s : List Nat => ⟨[("swapped_data", .ref D), ("width", .int w), ("data", .bytes l)], (D, .barr s) :: hp⟩) (fun s v => bswI l w (vnat v) s) (List.replicate l.length 0) (fun _ s => s.length = l.length) ⟨by walk_at "loc", .refl _⟩ (by simp) (fun _ => trivial) ?_ ?_
  · intro i v s hv hJ
    obtain ⟨hi, rfl⟩ := rItems_get hv
    have hbl := hmul i hi
    walk_at "ms"
    refine s_for ?_
    walk_at "ms"
    refine ⟨trivial, ca_ty (ca_range1 fun R => it_range (small_of (by decide) (by decide) (by omega) (by omega) (by decide) (by decide)) (n := w) (by rw [size_step1]; omega) ?_)⟩
    refine FOR.fold (fun s : List Nat => ⟨[("i", .int (0 + (i : Int) * w)), ("swapped_data", .ref D), ("width", .int w), ("data", .bytes l)], (D, .barr s) :: hp⟩) (fun s v => s.set (i * w + w - 1 - vnat v) (l.getD (i * w + vnat v) 0)) s (fun _ s => s.length = l.length) ⟨by walk_at "loc", .refl _⟩ hJ (fun _ => trivial) ?_ ?_
    · intro j v s hv hJ
      obtain ⟨hj, rfl⟩ := rItems_get hv
      walk_at "ms"
      have hx : l[(0 + (i : Int) * w + (0 + j * 1)).toNat]? = some (l.getD (i * w + j) 0) := by
        have e : (0 + (i : Int) * w + (0 + j * 1)).toNat = i * w + j := by
          have : (i : Int) * w = ((i * w : Nat) : Int) := by push_cast; rfl
          omega
        rw [e, List.getD_eq_getElem?_getD]
        have : i * w + j < l.length := by omega
        simp [this]
      have hnn : (0 : Int) ≤ (i : Int) * w := by exact Int.mul_nonneg (by omega) (by omega)
      have hlt : l.getD (i * w + j) 0 < 256 := hb _ (List.mem_of_getElem? hx)
      refine sb_bytesI (fun _ _ _ e => by cases e) (by omega) hx hz ?_
      walk_at "ms"
      have hcast : (i : Int) * w = ((i * w : Nat) : Int) := by push_cast; rfl
      have e1 : (0 + (i : Int) * w + w - 1 - (0 + j * 1)).toNat = i * w + w - 1 - j := by omega
      have e2 : vnat (V.int (0 + (j : Int) * 1)) = j := by show (0 + (j : Int) * 1).toNat = j; omega
      refine si_barr (hp' := (D, .barr (s.set (i * w + w - 1 - j) (l.getD (i * w + j) 0))) :: hp) (by rw [e1, Int.toNat_natCast]; exact .here) (by omega) (by omega) (by rw [hJ]; omega) (by omega) (by omega) ?_
      walk_at "m"
      refine tu_next ⟨[("i", .int (0 + (i : Int) * w)), ("swapped_data", .ref D), ("width", .int w), ("data", .bytes l)], (D, .barr (s.set (i * w + w - 1 - j) (l.getD (i * w + j) 0))) :: hp⟩ ⟨by walk_at "loc", .refl _⟩ ⟨?_, ?_⟩
      · simp [hJ]
      · rw [e2]
    · intro hJ2
      have e3 : (rItems 0 w 1).foldl (fun s v => s.set (i * w + w - 1 - vnat v) (l.getD (i * w + vnat v) 0)) s = bswI l w (i * w) s := by
        unfold bswI
        refine rItems_foldl _ _ _ _ _ (fun s j => ?_) s
        have e2 : vnat (V.int (0 + (j : Int) * 1)) = j := by show (0 + (j : Int) * 1).toNat = j; omega
        simp only [e2]
      have e4 : vnat (V.int (0 + (i : Int) * w)) = i * w := by
        show (0 + (i : Int) * w).toNat = i * w
        have hcast : (i : Int) * w = ((i * w : Nat) : Int) := by push_cast; rfl
        omega
      rw [e3]
      walk_at "m"
      refine tu_next ⟨[("swapped_data", .ref D), ("width", .int w), ("data", .bytes l)], (D, .barr (bswI l w (i * w) s)) :: hp⟩ ⟨by walk_at "loc", .refl _⟩ ⟨?_, ?_⟩
      · rw [e4, bswI_len]; exact hJ
      · rw [e4]
  · intro hJ
    have e5 : (rItems 0 nb w).foldl (fun s v => bswI l w (vnat v) s) (List.replicate l.length 0) = bswF l w nb := by
      unfold bswF
      refine rItems_foldl _ _ _ _ _ (fun s j => ?_) _
      have e4 : vnat (V.int (0 + (j : Int) * w)) = j * w := by
        show (0 + (j : Int) * w).toNat = j * w
        have hcast : (j : Int) * w = ((j * w : Nat) : Int) := by push_cast; rfl
        omega
      simp only [e4]
    rw [e5]
    walk_at "m"
    refine ⟨trivial, ca_ty (ca_bytesB (.head _) (by rw [bswF_len]; exact hz) ?_)⟩
    walk_at "m"
    exact ⟨⟨loc, hp⟩, ⟨.refl _, .drop (.refl _)⟩, q⟩
end

section
variable {c : Fc} {st : St}
theorem v_ifexpV {Q : V → St → Prop} {t b o : PySem.Expr} {pos : Pos} (h : EB c t st fun k st1 => ∃ v, CN k (EV c b st1 fun w st3 => w = v ∧ st3 = st1) (EV c o st1 fun w st3 => w = v ∧ st3 = st1) ∧ Q v st1) : EV c (.IfExp t b o pos) st Q :=
  v_ifexp (TR.mono h fun k st1 ⟨v, hk, q⟩ => by
    cases k with
    | true => exact TR.mono (show EV c b st1 fun w st3 => w = v ∧ st3 = st1 from hk) fun w st3 ⟨e1, e2⟩ => by subst e1 e2; exact q
    | false => exact TR.mono (show EV c o st1 fun w st3 => w = v ∧ st3 = st1 from hk) fun w st3 ⟨e1, e2⟩ => by subst e1 e2; exact q)
theorem typ_append : typeOf (.builtin "list.append") = pure (.type "method_descriptor") := by show builtinType _ = _; rw [builtinType_eq_fast]; kernel_rfl
theorem s_append {Q : AFlow → St → Prop} {o e : PySem.Expr} {apos pos spos : Pos} (h : EV c o st fun ov st1 => ∃ a vs, ov = .ref a ∧ RL st1.hp a vs ∧ EV c e st1 fun v st2 => ∃ hp', Upd st2.hp a (.list vs) (.list (vs ++ [v])) hp' ∧ vs.length ≤ 16777216 ∧ Q .next ⟨st2.loc, hp'⟩)
    (hbase : attributeBase o "append" c.env (eval o c.env) = eval o c.env) (hst : starEach [e] c.env = [(false, eval e c.env)]) (hline : (apos.endLine == pos.line) = true) (hi : interactive c.env = false)
    (hs : swapsWith (.Call (.Attribute o "append" apos) [e] [] pos) none spos.line c.env = pure false) : ES c (.Expr (.Call (.Attribute o "append" apos) [e] [] pos) spos) st Q := by
  refine es_expr (ev_methL (id := "list.append") ?_ slot_list_append typ_append hbase (by rw [hst]; rfl) (by show 1 < 29; decide) hline) hi hs
  refine TR.mono h fun ov st1 ⟨a, vs, e1, hm, h1⟩ => ⟨a, vs, e1, hm, ?_⟩
  refine el_cons ?_ hst
  refine TR.mono h1 fun v st2 ⟨hp', u, hz, q⟩ => el_nil ?_
  exact m_append u hz ⟨rfl, q⟩
noncomputable def vint : V → Int
  | .int i => i
  | _ => 0
theorem ints_get {ns : List Int} {i : Nat} {v : V} (h : (ns.map V.int)[i]? = some v) : ∃ n, ns[i]? = some n ∧ v = .int n := by
  rw [List.getElem?_map] at h
  obtain ⟨n, hn, rfl⟩ := Option.map_eq_some_iff.mp h
  exact ⟨n, hn, rfl⟩
theorem gi {l : List Int} {k : Nat} (h : k < l.length) : (l.map V.int)[k]? = some (.int (l.getD k 0)) := by
  rw [List.getElem?_map, List.getD_eq_getElem?_getD, List.getElem?_eq_getElem h]; rfl
theorem rangeN {n : Nat} (h : n ≤ 16777216) : Builtin.Range.small 0 (n : Int) 1 = true := small_of (by decide) (by decide) (by omega) (by omega) (by decide) (by decide)
theorem sizeN {n : Nat} : Builtin.Range.rangeSize 0 (n : Int) 1 = n := by rw [size_step1]; omega
noncomputable def ents (h : Nat → List V) : Nat → List Addr → Hp
  | _, [] => []
  | k, D :: r => (D, .list (h k)) :: ents h (k + 1) r
theorem ents_snoc (h : Nat → List V) (D : Addr) : ∀ (k : Nat) (Ds : List Addr), ents h k (Ds ++ [D]) = ents h k Ds ++ [(D, .list (h (k + Ds.length)))]
  | k, [] => rfl
  | k, E :: r => by
    rw [List.cons_append, ents, ents_snoc h D (k + 1) r, ents, List.cons_append, List.length_cons, show k + 1 + r.length = k + (r.length + 1) by omega]
theorem ents_mem (h : Nat → List V) : ∀ (k : Nat) (Ds : List Addr) (i : Nat) (D : Addr), Ds[i]? = some D → (D, AObj.list (h (k + i))) ∈ ents h k Ds
  | k, [], i, D, e => by simp at e
  | k, E :: r, 0, D, e => by simp at e; subst e; exact .head _
  | k, E :: r, i + 1, D, e => by
    have := ents_mem h (k + 1) r i D (by simpa using e)
    rw [show k + 1 + i = k + (i + 1) by omega] at this
    exact .tail _ this
theorem ents_congr {h h' : Nat → List V} : ∀ (k : Nat) (Ds : List Addr), (∀ j, k ≤ j → j < k + Ds.length → h j = h' j) → ents h k Ds = ents h' k Ds
  | k, [], _ => rfl
  | k, E :: r, e => by
    rw [ents, ents, e k (Nat.le_refl _) (by simp), ents_congr (k + 1) r fun j h1 h2 => e j (by omega) (by rw [List.length_cons]; omega)]
theorem ents_upd {h h' : Nat → List V} {r : Hp} : ∀ (k : Nat) (Ds : List Addr) (i : Nat) (D : Addr), Ds[i]? = some D → (∀ j, j ≠ k + i → h j = h' j) → Upd (ents h k Ds ++ r) D (.list (h (k + i))) (.list (h' (k + i))) (ents h' k Ds ++ r)
  | k, [], i, D, e, _ => by simp at e
  | k, E :: t, 0, D, e, hh => by
    simp at e; subst e
    rw [ents, ents, ents_congr (h := h) (h' := h') (k + 1) t fun j h1 h2 => hh j (by omega)]
    exact .here
  | k, E :: t, i + 1, D, e, hh => by
    have := ents_upd (h := h) (h' := h') (r := r) (k + 1) t i D (by simpa using e) fun j hj => hh j (by omega)
    rw [show k + 1 + i = k + (i + 1) by omega] at this
    rw [ents, ents, hh k (by omega)]
    exact .there this
mutual
theorem RD.mono {hp hp' : Hp} (m : ∀ a vs, RL hp a vs → RL hp' a vs) : ∀ {v : V} {d : PyData}, RD hp v d → RD hp' v d
  | _, _, .int i => .int i
  | _, _, .list h hs => .list (m _ _ h) (RDs.mono m hs)
theorem RDs.mono {hp hp' : Hp} (m : ∀ a vs, RL hp a vs → RL hp' a vs) : ∀ {vs : List V} {ds : List PyData}, RDs hp vs ds → RDs hp' vs ds
  | _, _, .nil => .nil
  | _, _, .cons h hs => .cons (RD.mono m h) (RDs.mono m hs)
end
theorem RDs.of {α : Type} {hp : Hp} (f : α → V) (g : α → PyData) : ∀ l : List α, (∀ a ∈ l, RD hp (f a) (g a)) → RDs hp (l.map f) (l.map g)
  | [], _ => .nil
  | a :: r, h => .cons (h a (.head _)) (RDs.of f g r fun b hb => h b (.tail _ hb))
theorem foldl_const {α β σ : Type} (g : σ → σ) : ∀ (l : List α) (m : List β) (s : σ), l.length = m.length → l.foldl (fun s _ => g s) s = m.foldl (fun s _ => g s) s
  | [], [], s, _ => rfl
  | a :: l, b :: m, s, h => by rw [List.foldl_cons, List.foldl_cons]; exact foldl_const g l m _ (by simpa using h)
theorem tu_f {st e : St} {P : Prop} {i : Nat} {Q : AFlow → St → Prop} (k : WK st e) (j : P) : TU (fun _ st => P ∧ st = e) i Q .next st := ⟨e, k, j, rfl⟩
theorem tu_fe {ε : Type} {st : St} {e : ε → St} {P : Prop} {i : Nat} {Q : AFlow → St → Prop} (x : ε) (k : WK st (e x)) (j : P) : TU (fun _ st => P ∧ ∃ y, st = e y) i Q .next st := ⟨_, k, j, x, rfl⟩
theorem slc_map {α β : Type} (g : α → β) (l : List α) (lo hi : Option Int) : slc (l.map g) lo hi = (slc l lo hi).map g := by
  unfold slc
  rw [List.length_map, ← List.map_drop, ← List.map_take]
theorem ltR_ints (G : Gl) (x : Int) (As : List Int) (hp : Hp) : LtR G (.int x) (As.map V.int) (fun i => !decide (x < As.getD i 0)) hp := by
  intro c2 hg loc' j v Qc hv hq
  obtain ⟨w, hw, rfl⟩ := ints_get hv
  refine co_lt ?_
  simp only [List.getD_eq_getElem?_getD, hw, Bool.not_not] at hq
  exact hq
theorem CA.preWK {c : Fc} {f : V} {as : List V} {kn : List Str} {ks : List V} {st st' : St} {Q : V → St → Prop} (k : WK st st') (h : CA c f as kn ks st' Q) : CA c f as kn ks st Q := fun fv vs kvs r1 r2 r3 => TR.preWK k (h fv vs kvs r1 r2 r3)
theorem Sub.swap3 (X T R : Hp) : Sub (X ++ (T ++ R)) (T ++ (X ++ R)) := .perm (List.perm_append_comm_assoc X T R) (.refl _)
theorem rItems_fm (n : Nat) (p : Nat → Bool) (h : Nat → V) (gf : V → Option V) (hg : ∀ k : Nat, k < n → gf (.int (0 + (k : Int) * 1)) = if p k then some (h k) else none) : (rItems 0 n 1).filterMap gf = ((List.range n).filter p).map h := by
  unfold rItems
  rw [List.filterMap_map]
  have : ∀ l : List Nat, (∀ k ∈ l, k < n) → l.filterMap (gf ∘ fun i : Nat => V.int (0 + (i : Int) * 1)) = (l.filter p).map h := by
    intro l
    induction l with
    | nil => intro _; rfl
    | cons a l ih =>
      intro hl
      have h1 := hg a (hl a (.head _))
      have h2 := ih fun k hk => hl k (.tail _ hk)
      rw [List.filterMap_cons]
      rw [Function.comp_apply, h1, h2, List.filter_cons]
      cases p a <;> simp
  exact this _ fun k hk => List.mem_range.mp hk
theorem COMPG.fm0 {c : Fc} {scope : Scope} {cl : List (Str × Addr)} {x : Str} {ifs : List PySem.Expr} {elt : PySem.Expr} {items : List V} {Src : Hp → Prop} {st : St} {Q : Addr → St → Prop} (gf : V → Option V) (hz : items.length ≤ 16777216)
    (h0 : ∀ L, cellEntries (L + 1) scope.names st.hp = st.hp) (src : Src st.hp)
    (turn : ∀ (L : Addr) (g : Heap) (i : Nat) (v : V) (loc : Loc), items[i]? = some v → SN (cFc c scope cl L g) x v ⟨loc, st.hp⟩ fun st1 => TE (cFc c scope cl L g) ifs st1 fun b st2 => CN b (EV (cFc c scope cl L g) elt st2 fun y st3 => gf v = some y ∧ Sub st3.hp st.hp) (gf v = none ∧ Sub st2.hp st.hp))
    (done : ∀ D, Q D ⟨st.loc, (D, .list (items.filterMap gf)) :: st.hp⟩) : COMPG c scope cl x ifs elt items Src st Q :=
  COMPG.fm (ε := Unit) (fun _ _ => st.hp) gf () hz (fun L => by rw [h0 L]; exact .refl _) (fun _ _ => src)
    (fun L g i v loc _ hv val r => TR.mono (turn L g i v loc hv val r) fun _ st1 h1 => TR.mono h1 fun b st2 h2 => by
      cases b with
      | true => exact TR.mono (show EV _ _ _ _ from h2) fun y st3 ⟨h3, h4⟩ => ⟨h3, (), h4⟩
      | false => exact ⟨h2.1, (), h2.2⟩) fun _ _ D => done D
theorem Sub.left (a b : Hp) : Sub (a ++ b) a := .perm List.perm_append_comm (.app b (.refl a))
theorem ents_rds {hp : Hp} {h : Nat → List V} {dd : Nat → List Int} (hh : ∀ k, h k = (dd k).map V.int) : ∀ (k : Nat) (Ds : List Addr), (∀ e ∈ ents h k Ds, e ∈ hp) → RDs hp (Ds.map V.ref) ((List.range' k Ds.length).map fun i => dInts (dd i))
  | k, [], _ => .nil
  | k, D :: r, hm => by
    rw [List.map_cons, List.length_cons, List.range'_succ, List.map_cons]
    refine .cons (RD.ints (.inl (hm _ ?_))) (ents_rds hh (k + 1) r fun e he => hm e (.tail _ he))
    rw [ents, hh]; exact .head _
end

local macro_rules | `(tactic| walk_at "app") => `(tactic| ((with_reducible refine s_append ?_ ?a1 ?a2 ?a3 ?a4 ?a5); (case a1 => rfl); (case a2 => rfl); (case a3 => rfl); (case a4 => rfl); (case a5 => rfl)))
local macro_rules | `(tactic| walk_at "rl") => `(tactic| (repeat (first | exact RL.here | assumption | apply RL.there)))
local macro_rules | `(tactic| walk_at "sub") => `(tactic| (repeat (first | exact Sub.refl _ | apply Sub.keep | apply Sub.drop)))
local macro_rules | `(tactic| walk_at "for") => `(tactic| ((with_reducible refine s_for ?_ ?a1); (case a1 => intro x; rfl)))
local macro_rules | `(tactic| walk_at "ifv") => `(tactic| with_reducible refine v_ifexpV ?_)
local macro_rules | `(tactic| walk_at "comp") => `(tactic| ((with_reducible refine' v_comp ?_ ?a1 ?a2 ?a3 ?a4); (case a1 => rfl); (case a2 => rfl); (case a3 => decide +kernel); (case a4 => intro x; rfl)))
local macro_rules | `(tactic| walk_at "scomp") => `(tactic| ((with_reducible refine' s_comp ?_ ?a1 ?a2 ?a3 ?a4 ?a5); (case a1 => rfl); (case a2 => rfl); (case a3 => decide +kernel); (case a4 => intro x; rfl); (case a5 => rfl)))
local macro_rules | `(tactic| walk_at "scomp0") => `(tactic| ((with_reducible refine' s_comp0 ?_ ?a1 ?a2 ?a3 ?a4 ?a5); (case a1 => rfl); (case a2 => rfl); (case a3 => decide +kernel); (case a4 => intro x; rfl); (case a5 => rfl)))
local macro_rules | `(tactic| walk_at "d") => `(tactic| (try dsimp only [List.cons_append, List.nil_append]))
/-! ## raising: a bound below nought -/
noncomputable def KeyId (G : Gl) (K : V) (hp : Hp) : Prop := K = .none ∨ ∃ k, K = .ref k ∧ ∀ c' : Fc, c'.g = G → 1 ≤ c'.room → ∀ loc v Qc, Qc v ⟨loc, hp⟩ → Keeper c' (.ref k) ⟨loc, hp⟩ ∧ CA c' (.ref k) [v] [] [] ⟨loc, hp⟩ Qc
section
variable {c : Fc} {f fb a k : Addr} {as ks : List V} {kn : List Str} {x K hiV : V} {xi : Int} {l : List Int} {lo hi : Nat} {hp hp' : Hp} {loc : Loc} {P : St → Prop} {Q : V → St → Prop} {l0 : List Env}
theorem ca_bisX (F : FnB c.g "bisect_right" 2 f) (hE : nsIn c.g.K mainGlobals "ValueError" = some none) (hr : 0 < c.room) (hl : c.A.frames = some l0) (hb : BNk c.g.K 2 as kn ks [("a", .ref a), ("x", x), ("lo", .int (-1)), ("hi", hiV), ("key", K)]) (p : P ⟨loc, hp⟩) : CAX c (.ref f) as kn ks ⟨loc, hp⟩ P := by
  obtain ⟨_, oc, od, osl, dV, kV, doc, pm, an, cd, ct, hK, hcd, hD⟩ := F
  refine ca_defX (b := false) hK hcd hr hl (hb _ _ _ _ _ _ _ _ hD) (fun L g A => bi_locals ?_ fun A' _ => ?_) (by kernel_rfl) (by kernel_rfl) (by kernel_rfl)
  · intro y hy
    simp only [List.mem_cons, List.not_mem_nil, or_false] at hy
    rcases hy with rfl | rfl | rfl | rfl | rfl <;> kernel_rfl
  show TRX false (FcX c.g A' "bisect_right" (fdS PB 2) L f (.ref cd) [] g c.s₀ (c.room - 1)) (execs (fdB PB 2) (FcX c.g A' "bisect_right" (fdS PB 2) L f (.ref cd) [] g c.s₀ (c.room - 1)).env) ⟨[("key", K), ("hi", hiV), ("lo", .int (-1)), ("x", x), ("a", .ref a)], hp⟩ _
  have e : ∀ env, execs (fdB PB 2) env = execs ((fdB PB 2).head! :: (fdB PB 2).tail) env := fun env => rfl
  rw [e]
  conv => arg 3; arg 1; arg 1; whnf
  refine xx_cons (xx_if ?_)
  walk_at "ms"
  refine CN.t (by decide) ?_
  exact xx_cons (xx_raise (by kernel_rfl) hE rfl p)
theorem ca_insX (F : FnB c.g "insort_right" 1 f) (FB : FnB c.g "bisect_right" 2 fb) (hE : nsIn c.g.K mainGlobals "ValueError" = some none) (hr : 2 ≤ c.room) (hl : c.A.frames = some l0) (hk : KeyId c.g K hp) (hb : BNk c.g.K 1 as kn ks [("a", .ref a), ("x", x), ("lo", .int (-1)), ("hi", hiV), ("key", K)]) (p : P ⟨loc, hp⟩) : CAX c (.ref f) as kn ks ⟨loc, hp⟩ P := by
  obtain ⟨_, oc, od, osl, dV, kV, doc, pm, an, cd, ct, hK, hcd, hD⟩ := F
  have hn := FB.1
  refine ca_defX (b := true) hK hcd (by omega) hl (hb _ _ _ _ _ _ _ _ hD) (fun L g A => bi_locals ?_ fun A' hfr => ?_) (by kernel_rfl) (by kernel_rfl) (by kernel_rfl)
  · intro y hy
    simp only [List.mem_cons, List.not_mem_nil, or_false] at hy
    rcases hy with rfl | rfl | rfl | rfl | rfl <;> kernel_rfl
  show TRX true (FcX c.g A' "insort_right" (fdS PB 1) L f (.ref cd) [] g c.s₀ (c.room - 1)) (execs (fdB PB 1) (FcX c.g A' "insort_right" (fdS PB 1) L f (.ref cd) [] g c.s₀ (c.room - 1)).env) ⟨[("key", K), ("hi", hiV), ("lo", .int (-1)), ("x", x), ("a", .ref a)], hp⟩ _
  have e : ∀ env, execs (fdB PB 1) env = execs ((fdB PB 1).head! :: (fdB PB 1).tail) env := fun env => rfl
  rw [e]
  conv => arg 3; arg 1; arg 1; whnf
  refine xx_cons (xx_if ?_)
  rcases hk with rfl | ⟨k, rfl, hk⟩
  · walk_at "ms"
    refine CN.t rfl ?_
    refine xx_cons (xx_assign (xx_call ?_ rfl rfl rfl) rfl)
    walk_at "ms"
    exact ⟨FB.keeper, ca_bisX (c := FcX c.g A' "insort_right" (fdS PB 1) L f (.ref cd) [] g c.s₀ (c.room - 1)) FB hE (by show 0 < c.room - 1; omega) hfr (fun _ _ _ _ _ _ _ _ h => bn40 (by decide) h) p⟩
  · walk_at "ms"
    refine CN.f rfl ?_
    refine xx_cons (xx_assign (xx_call ?_ rfl rfl rfl) rfl)
    walk_at "ms"
    refine hk (FcX c.g A' "insort_right" (fdS PB 1) L f (.ref cd) [] g c.s₀ (c.room - 1)) rfl (by show 1 ≤ c.room - 1; omega) _ _ _ ?_
    walk_at "ms"
    exact ⟨FB.keeper, ca_bisX (c := FcX c.g A' "insort_right" (fdS PB 1) L f (.ref cd) [] g c.s₀ (c.room - 1)) FB hE (by show 0 < c.room - 1; omega) hfr (fun _ _ _ _ _ _ _ _ h => bn41 (by decide) h) p⟩
/-- an int laid in a list of ints, with no key or the key that changes nothing -/
theorem ca_insK (F : FnB c.g "insort_right" 1 f) (FB : FnB c.g "bisect_right" 2 fb) (hl : nsIn c.g.K mainGlobals "len" = some none) (hk : KeyId c.g K hp) (hb : BNk c.g.K 1 as kn ks [("a", .ref a), ("x", .int xi), ("lo", .int lo), ("hi", hiV), ("key", K)]) {l' : List Int}
    (ha : Upd hp a (.list (l.map V.int)) (.list (l'.map V.int)) hp') (e : l' = l.take (bsr (fun i => !decide (xi < l.getD i 0)) lo hi) ++ xi :: l.drop (bsr (fun i => !decide (xi < l.getD i 0)) lo hi)) (hsz : l.length ≤ 16777216) (hlo : lo ≤ hi) (hhi : hi ≤ l.length) (hV : hiV = .int hi ∨ (hiV = .none ∧ hi = l.length)) (hr : 3 ≤ c.room) (q : Q .none ⟨loc, hp'⟩) : CA c (.ref f) as kn ks ⟨loc, hp⟩ Q := by
  have e2 : l'.map V.int = (l.map V.int).take (bsr (fun i => !decide (xi < l.getD i 0)) lo hi) ++ V.int xi :: (l.map V.int).drop (bsr (fun i => !decide (xi < l.getD i 0)) lo hi) := by
    rw [e]; simp [List.map_take, List.map_drop]
  rw [e2] at ha
  rcases hk with rfl | ⟨k, rfl, hk⟩
  · exact ca_insR0 F FB hl hb ha (by simpa using hsz) hlo (by simpa using hhi) (by simpa using hV) (by omega) (ltR_ints _ _ _ _) q
  · exact ca_insR1 (m := 1) (ws := l.map V.int) F FB hl hb ha (by simpa using hsz) hlo (by simpa using hhi) (by simpa using hV) (fun c' hg hroom loc i v Qc hv hq => hk c' hg hroom loc v Qc (hq v hv)) (fun c' hg hroom loc Qc hq => hk c' hg hroom loc _ Qc hq) rfl (by omega) (by omega) (ltR_ints _ _ _ _) q
end


/-! ## _law_bounds -/
noncomputable def qBd : Str := (("_law_bounds" : Str) ++ ".<locals>.") ++ "<lambda>"
noncomputable def bdD (rd : List PyData) (i : Nat) : List PyData := (List.replicate i [dInts [7, 1, 4, 6, 9], .list rd]).flatten
theorem Sub.rl {h h' : Hp} (k : Sub h h') : ∀ a vs, RL h' a vs → RL h a vs := fun a vs r => r.sub k
theorem RDs.append {hp : Hp} : ∀ {vs ws : List V} {ds es : List PyData}, RDs hp vs ds → RDs hp ws es → RDs hp (vs ++ ws) (ds ++ es)
  | _, _, _, _, .nil, h => h
  | _, _, _, _, .cons r h, k => .cons r (RDs.append h k)
theorem key_id {c' : Fc} {hp1 : Hp} {lf c1 : Addr} {n q : Str} {params : Arguments} {scope : Scope} {p1 : Pos} {loc' : Loc} {b : V} {Qc : V → St → Prop} (hm : (lf, AObj.lam n q params (.Name "one" p1) scope [] c1) ∈ hp1) (hcd : (c1, AObj.code q) ∈ hp1)
    (hb : ∀ pm ctv v, bindArgs (kla_fn n q params (.Name "one" p1) scope [] pm (.ref c1) ctv) ⟨[v], []⟩ = pure [(("one" : Str), v)]) (hs : scope.names = [(("one" : Str), NameKind.local)]) (hco : scope.isCoroutine = false) (hgen : scope.isGenerator = false) (hk : scope.kind = .function)
    (hr : 1 ≤ c'.room) (hq : Qc b ⟨loc', hp1⟩) : Keeper c' (.ref lf) ⟨loc', hp1⟩ ∧ CA c' (.ref lf) [b] [] [] ⟨loc', hp1⟩ Qc := by
  refine ⟨.inr ⟨_, _, _, _, _, _, _, hm⟩, ca_lam hm hcd hr (ab := [("one", b)]) (fun pm ctv vs r => ?_) (fun L g A => ?_) hco hgen hk⟩
  · obtain ⟨v0, rfl, r0⟩ := all2_1 r
    exact ⟨[("one", v0)], hb pm ctv v0, .cons ⟨rfl, r0⟩ .nil⟩
  have hkd : ∀ cl, (envX q scope L lf (.ref c1) cl).kindOf "one" = some .local := fun cl => by show scope.names.lookup ("one" : Str) = _; rw [hs]; kernel_rfl
  refine bi_locals (fun y hy => ?_) fun A' => ?_
  · simp only [List.mem_cons, List.not_mem_nil, or_false] at hy
    subst hy
    exact hkd _
  · rw [show cellEntries (L + 1) scope.names hp1 = hp1 by rw [hs]; rfl]
    exact ev_local (hkd _) rfl hq (by kernel_rfl)
theorem ev_lamK {c : Fc} {Q : V → St → Prop} {params : Arguments} {p1 pos : Pos} {scope : Scope} {cn : Str} {cs : Scope} {L a cd P : Addr} {loc : Loc} {cl : List (Str × Addr)} {pre post : Hp} {t : Option Addr} (he : c.env = envX cn cs L a (.ref cd) cl) (hc : codeHdIn c.g.K cd P = true) (hdef : defaultsOf params c.env = ([], [])) (hcl : closureFor scope c.env = pure [])
    (hb : ∀ n q c1 pm ctv v, bindArgs (kla_fn n q params (.Name "one" p1) scope [] pm (.ref c1) ctv) ⟨[v], []⟩ = pure [(("one" : Str), v)]) (hs : scope.names = [(("one" : Str), NameKind.local)]) (hco : scope.isCoroutine = false) (hgen : scope.isGenerator = false) (hk : scope.kind = .function)
    (q : ∀ f c' e, (∀ X : Hp, (f, e) ∈ X → (c', AObj.code (c.env.qual ++ "<lambda>")) ∈ X → KeyId c.g (.ref f) X) → Q (.ref f) ⟨loc, (f, e) :: (pre ++ (TB P pos (c.env.qual ++ "<lambda>") (some c') ++ post))⟩) : EV c (.Lambda params (.Name "one" p1) scope pos) ⟨loc, pre ++ (TB P pos (c.env.qual ++ "<lambda>") t ++ post)⟩ Q :=
  ev_lam he hc hdef hcl fun f c' => q f c' _ fun X h1 h2 => .inr ⟨f, rfl, fun c2 hg hr loc v Qc hq => key_id h1 h2 (hb _ _ _) hs hco hgen hk hr hq⟩
section
variable {c : Fc} {f cd fi fb P R : Addr} {t : Option Addr} {hp : Hp} {loc : Loc} {Q : V → St → Prop} {l0 : List Env} {rvs : List V} {rd : List PyData}
theorem ca_bounds (F : Fn c.g "_law_bounds" 13 f cd) (FI : FnB c.g "insort_right" 1 fi) (FB : FnB c.g "bisect_right" 2 fb) (hr : 5 ≤ c.room) (h1 : nsIn c.g.K mainGlobals "len" = some none) (h2 : nsIn c.g.K mainGlobals "list" = some none) (hE : nsIn c.g.K mainGlobals "ValueError" = some none) (hl : c.A.frames = some l0)
    (hP : codeHdIn c.g.K cd P = true) (hm : RL hp R rvs) (hrd : RDs hp rvs rd) (hz : rvs.length ≤ 1000) (hdp : PyData.depthAll rd ≤ 10) (hrefl : PyData.eqv (.list rd) (.list rd) = true)
    (q : ∀ t', Q (.bool true) ⟨loc, TB P ⟨97, 23, 97, 38⟩ qBd t' ++ hp⟩) : CA c (.ref f) [.ref R] [] [] ⟨loc, TB P ⟨97, 23, 97, 38⟩ qBd t ++ hp⟩ Q := by
  obtain ⟨_, oc, od, osl, doc, pm, an, ct, hK, hcd⟩ := F
  refine CA.wk ?_
  refine ca_def (ab := [("order", .ref R)]) hK hcd (by omega) (bn_eq fun vs r => ?_) (fun L g A => bi_locals ?_ fun A' hfr => ?_) (by kernel_rfl) (by kernel_rfl) (by kernel_rfl)
  · obtain ⟨v0, rfl, r0⟩ := all2_1 r
    exact ⟨[("order", v0)], by kernel_rfl, .cons ⟨rfl, r0⟩ .nil⟩
  · intro y hy
    simp only [List.mem_cons, List.not_mem_nil, or_false] at hy
    rcases hy with rfl <;> kernel_rfl
  have hn := FI.1
  rw [hl] at hfr
  show EX (FcX c.g A' "_law_bounds" (fdS PB 13) L f (.ref cd) [] g c.s₀ (c.room - 1)) (fdB PB 13) ⟨[("order", .ref R)], TB P ⟨97, 23, 97, 38⟩ qBd t ++ hp⟩ _
  conv => arg 2; whnf
  have hTB : ∀ t, Sub (TB P ⟨97, 23, 97, 38⟩ qBd t ++ hp) hp := fun t => .app _ (.refl _)
  walk_at "ms"
  refine ⟨trivial, ca_ty (ca_listL (vs := rvs) (hm.sub (hTB _)) (by omega) fun Kp => ?_)⟩
  walk_at "m"
  refine ⟨by decide, fun T => ?_⟩
  walk_at "m"
  walk_at "for"
  walk_at "ms"
  refine ev_lamK (pre := [(T, .list []), (Kp, .list rvs)]) (post := hp) (t := t) (P := P) rfl hP rfl rfl (fun _ _ _ _ _ _ => rfl) rfl rfl rfl rfl fun lf c1 le hle => ?_
  walk_at "ms"
  refine ⟨by show 2 ≤ 16777216; decide, fun Ks => ?_⟩
  refine it_list (vs := [.none, .ref lf]) .here ?_
  have hRb : ∀ X : Hp, RL (X ++ ((Ks, .list [.none, .ref lf]) :: (lf, le) :: (Kp, .list rvs) :: (TB P ⟨97, 23, 97, 38⟩ qBd (some c1) ++ hp))) R rvs := fun X => hm.sub (.app _ (.drop (.drop (.drop (hTB _)))))
  have hrdb : ∀ X : Hp, RDs (X ++ ((Ks, .list [.none, .ref lf]) :: (lf, le) :: (Kp, .list rvs) :: (TB P ⟨97, 23, 97, 38⟩ qBd (some c1) ++ hp))) rvs rd := fun X => hrd.mono (Sub.rl (.app _ (.drop (.drop (.drop (hTB _))))))
  have hKy : ∀ X : Hp, KeyId c.g (.ref lf) (X ++ ((Ks, .list [.none, .ref lf]) :: (lf, le) :: (Kp, .list rvs) :: (TB P ⟨97, 23, 97, 38⟩ qBd (some c1) ++ hp))) := fun X => hle _ (List.mem_append_right _ (.tail _ (.head _))) (List.mem_append_right _ (.tail _ (.tail _ (.tail _ (List.mem_append_left _ (.tail _ (.head _)))))))
  refine ⟨fun i st => ∃ ts E, ts.length = 2 * i ∧ i ≤ 2 ∧ RDs (E ++ ((Ks, .list [.none, .ref lf]) :: (lf, le) :: (Kp, .list rvs) :: (TB P ⟨97, 23, 97, 38⟩ qBd (some c1) ++ hp))) ts (bdD rd i) ∧ st = ⟨[("told", .ref T), ("kept", .ref Kp), ("order", .ref R)], (T, .list ts) :: (E ++ ((Ks, .list [.none, .ref lf]) :: (lf, le) :: (Kp, .list rvs) :: (TB P ⟨97, 23, 97, 38⟩ qBd (some c1) ++ hp)))⟩,
    ⟨_, ⟨by walk_at "loc", ?_⟩, [], [], rfl, by decide, .nil, rfl⟩, ?_, ?_, ?_⟩
  · exact .perm (List.perm_middle (l₁ := [_, _])) (.refl _)
  · rintro i _ ⟨ts, E, _, _, _, rfl⟩
    exact .inl (.tail _ (List.mem_append_right _ (.head _)))
  · rintro i v _ hv ⟨ts, E, htl, hi2, hts, rfl⟩
    have hi : i < 2 := by
      rcases Nat.lt_or_ge i 2 with h | h
      · exact h
      · rw [List.getElem?_eq_none h] at hv; cases hv
    have hK : ∀ X : Hp, KeyId c.g v (X ++ ((Ks, .list [.none, .ref lf]) :: (lf, le) :: (Kp, .list rvs) :: (TB P ⟨97, 23, 97, 38⟩ qBd (some c1) ++ hp))) := fun X => by
      rcases i with _ | _ | i
      · obtain rfl : V.none = v := by simpa using hv
        exact .inl rfl
      · obtain rfl : V.ref lf = v := by simpa using hv
        exact hKy X
      · omega
    clear hv
    generalize hB : ((Ks, AObj.list [.none, .ref lf]) :: (lf, le) :: (Kp, .list rvs) :: (TB P ⟨97, 23, 97, 38⟩ qBd (some c1) ++ hp)) = B at hRb hrdb hK hts ⊢
    walk_at "ms"
    refine ⟨by decide, fun D => ?_⟩
    walk_at "m"
    refine es_expr ?_ (by rfl) (by rfl)
    walk_at "ms"
    refine ⟨FI.keeper, ca_insK (c := FcX c.g A' "_law_bounds" (fdS PB 13) L f (.ref cd) [] g c.s₀ (c.room - 1)) (l := [4, 6]) (l' := [4, 6, 9]) (lo := 0) (hi := 2) FI FB h1 (hK ([_, _] ++ E)) (fun _ _ _ _ _ _ _ _ h => bn21 (by decide) h) .here (by decide +kernel) (by decide) (by decide) (by decide) (.inr ⟨rfl, rfl⟩) (by show 3 ≤ c.room - 1; omega) ⟨rfl, ?_⟩⟩
    walk_at "m"
    refine es_expr ?_ (by rfl) (by rfl)
    walk_at "ms"
    refine ⟨FI.keeper, ca_insK (c := FcX c.g A' "_law_bounds" (fdS PB 13) L f (.ref cd) [] g c.s₀ (c.room - 1)) (l := [4, 6, 9]) (l' := [1, 4, 6, 9]) (lo := 0) (hi := 3) FI FB h1 (hK ([_, _] ++ E)) (fun _ _ _ _ _ _ _ _ h => bn21 (by decide) h) .here (by decide +kernel) (by decide) (by decide) (by decide) (.inr ⟨rfl, rfl⟩) (by show 3 ≤ c.room - 1; omega) ⟨rfl, ?_⟩⟩
    walk_at "m"
    refine es_expr ?_ (by rfl) (by rfl)
    walk_at "ms"
    refine ⟨FI.keeper, ca_insK (c := FcX c.g A' "_law_bounds" (fdS PB 13) L f (.ref cd) [] g c.s₀ (c.room - 1)) (l := [1, 4, 6, 9]) (l' := [7, 1, 4, 6, 9]) (lo := 0) (hi := 0) FI FB h1 (hK ([_, _] ++ E)) (fun _ _ _ _ _ _ _ _ h => bn41 (by decide) h) .here (by decide +kernel) (by decide) (by decide) (by decide) (.inl rfl) (by show 3 ≤ c.room - 1; omega) ⟨rfl, ?_⟩⟩
    walk_at "m"
    walk_at "app"
    walk_at "ms"
    refine ⟨T, ts, rfl, .there .here, ?_⟩
    walk_at "ms"
    refine ⟨_, .there .here, by omega, ?_⟩
    walk_at "m"
    have hRD : RL ((D, .list ([7, 1, 4, 6, 9].map V.int)) :: (T, .list (ts ++ [.ref D])) :: (E ++ B)) R rvs := hRb ([_, _] ++ E)
    refine es_try (L := L) hfr rfl (by kernel_rfl) hE (P := fun st => ∃ XX, st = ⟨[("few", .ref D), ("kind", v), ("told", .ref T), ("kept", .ref Kp), ("order", .ref R)], XX ++ (D, .list ([7, 1, 4, 6, 9].map V.int)) :: (T, .list (ts ++ [.ref D])) :: (E ++ B)⟩) ?_ ?_
    · refine xx_cons (xx_expr (xx_call ?_ rfl rfl rfl) rfl rfl)
      walk_at "ms"
      exact ⟨FI.keeper, ca_insX (c := FcX c.g A' "_law_bounds" (fdS PB 13) L f (.ref cd) [] g c.s₀ (c.room - 1)) FI FB hE (by show 2 ≤ c.room - 1; omega) hfr (hK ([_, _] ++ E)) (fun _ _ _ _ _ _ _ _ h => bn31 (by decide) h) ⟨[], rfl⟩⟩
    · rintro _ e ⟨XX, rfl⟩
      walk_at "ms"
      walk_at "app"
      walk_at "ms"
      refine ⟨T, ts ++ [.ref D], rfl, .inl (List.mem_append_right _ (.tail _ (.head _))), ?_⟩
      walk_at "ms"
      refine ⟨trivial, ca_ty (ca_listL (vs := rvs) (hRD.sub (.app _ (.refl _))) (by omega) fun RC => ?_)⟩
      walk_at "ms"
      refine ⟨(RC, .list rvs) :: (XX ++ (D, .list ([7, 1, 4, 6, 9].map V.int)) :: (T, .list ((ts ++ [.ref D]) ++ [.ref RC])) :: (E ++ B)), ?_, by simp; omega, ?_⟩
      · refine .there ?_
        have : ∀ Y : Hp, Upd (Y ++ (D, .list ([7, 1, 4, 6, 9].map V.int)) :: (T, .list (ts ++ [.ref D])) :: (E ++ B)) T (.list (ts ++ [.ref D])) (.list ((ts ++ [.ref D]) ++ [.ref RC])) (Y ++ (D, .list ([7, 1, 4, 6, 9].map V.int)) :: (T, .list ((ts ++ [.ref D]) ++ [.ref RC])) :: (E ++ B)) := by
          intro Y
          induction Y with
          | nil => exact .there .here
          | cons y Y ih => exact .there ih
        exact this XX
      · walk_at "m"
        refine ⟨⟨[("told", .ref T), ("kept", .ref Kp), ("order", .ref R)], (T, .list ((ts ++ [.ref D]) ++ [.ref RC])) :: (((RC, .list rvs) :: (D, .list ([7, 1, 4, 6, 9].map V.int)) :: E) ++ B)⟩, ⟨by walk_at "loc", ?_⟩, (ts ++ [.ref D]) ++ [.ref RC], (RC, .list rvs) :: (D, .list ([7, 1, 4, 6, 9].map V.int)) :: E, by simp; omega, by omega, ?_, rfl⟩
        · refine .perm (List.perm_middle (l₁ := (RC, .list rvs) :: (XX ++ [(D, .list ([7, 1, 4, 6, 9].map V.int))])) (l₂ := E ++ B) |> fun p => (by simpa using p)) (.keep (.keep (.app XX (.refl _))))
        · have e1 : bdD rd (i + 1) = (bdD rd i ++ [dInts [7, 1, 4, 6, 9]]) ++ [.list rd] := by
            unfold bdD
            rw [List.replicate_succ', List.flatten_append]
            simp
          rw [e1]
          have sb : Sub (((RC, AObj.list rvs) :: (D, .list ([7, 1, 4, 6, 9].map V.int)) :: E) ++ B) (E ++ B) := .drop (.drop (.refl _))
          refine ((hts.mono (Sub.rl sb)).append (.cons (.list (.inl (.tail _ (.head _))) (RDs.ints _)) .nil)).append (.cons (.list .here ?_) .nil)
          exact (hrdb ([_, _] ++ E))
  · rintro _ ⟨ts, E, htl, _, hts, rfl⟩
    have hKp : ∀ X : Hp, RL (X ++ ((Ks, .list [.none, .ref lf]) :: (lf, le) :: (Kp, .list rvs) :: (TB P ⟨97, 23, 97, 38⟩ qBd (some c1) ++ hp))) Kp rvs := fun X => .inl (List.mem_append_right _ (.tail _ (.tail _ (.head _))))
    have hsub : ∀ X : Hp, Sub (X ++ ((Ks, .list [.none, .ref lf]) :: (lf, le) :: (Kp, .list rvs) :: (TB P ⟨97, 23, 97, 38⟩ qBd (some c1) ++ hp))) (TB P ⟨97, 23, 97, 38⟩ qBd (some c1) ++ hp) := fun X => .app _ (.drop (.drop (.drop (.refl _))))
    generalize ((Ks, AObj.list [.none, .ref lf]) :: (lf, le) :: (Kp, .list rvs) :: (TB P ⟨97, 23, 97, 38⟩ qBd (some c1) ++ hp)) = B at hKp hrdb hts hsub ⊢
    walk_at "m"
    refine ⟨by show 5 ≤ 16777216; decide, fun F1 => ?_⟩
    walk_at "ms"
    refine ⟨by show 5 ≤ 16777216; decide, fun F2 => ?_⟩
    walk_at "ms"
    refine ⟨by show 4 ≤ 16777216; decide, fun W => ?_⟩
    have hd1 : (PyData.list rd).depth ≤ 11 := by rw [PyData.depth]; omega
    have hd2 : (PyData.list (bdD rd 2)).depth ≤ 64 := by
      have h1 := depth_ints [7, 1, 4, 6, 9]
      show (PyData.list [dInts [7, 1, 4, 6, 9], .list rd, dInts [7, 1, 4, 6, 9], .list rd]).depth ≤ 64
      rw [PyData.depth]
      simp only [PyData.depthAll]
      omega
    have hev : PyData.eqv (.list (bdD rd 2)) (.list (bdD rd 2)) = true := by
      have h1 : PyData.eqv (dInts [7, 1, 4, 6, 9]) (dInts [7, 1, 4, 6, 9]) = true := by rw [eqv_ints]; decide
      show PyData.eqv (.list [dInts [7, 1, 4, 6, 9], .list rd, dInts [7, 1, 4, 6, 9], .list rd]) (.list [dInts [7, 1, 4, 6, 9], .list rd, dInts [7, 1, 4, 6, 9], .list rd]) = true
      rw [PyData.eqv]
      simp only [PyData.eqvAll, h1, hrefl, Bool.and_self]
    refine co_eqD (d := .list (bdD rd 2)) (e := .list (bdD rd 2)) (.list (vs := ts) (.there (.there (.there .here))) (hts.mono (Sub.rl (.app [_, _, _, _] (.refl _))))) (.list (vs := [.ref F1, .ref Kp, .ref F2, .ref Kp]) .here ?_) hd2 hd2 ?_
    · have r1 : RD ((W, .list [.ref F1, .ref Kp, .ref F2, .ref Kp]) :: (F2, .list [.int 7, .int 1, .int 4, .int 6, .int 9]) :: (F1, .list [.int 7, .int 1, .int 4, .int 6, .int 9]) :: (T, .list ts) :: (E ++ B)) (.ref F1) (dInts [7, 1, 4, 6, 9]) := RD.ints (.inl (.tail _ (.tail _ (.head _))))
      have r2 : RD ((W, .list [.ref F1, .ref Kp, .ref F2, .ref Kp]) :: (F2, .list [.int 7, .int 1, .int 4, .int 6, .int 9]) :: (F1, .list [.int 7, .int 1, .int 4, .int 6, .int 9]) :: (T, .list ts) :: (E ++ B)) (.ref F2) (dInts [7, 1, 4, 6, 9]) := RD.ints (.inl (.tail _ (.head _)))
      have r3 : RD ((W, .list [.ref F1, .ref Kp, .ref F2, .ref Kp]) :: (F2, .list [.int 7, .int 1, .int 4, .int 6, .int 9]) :: (F1, .list [.int 7, .int 1, .int 4, .int 6, .int 9]) :: (T, .list ts) :: (E ++ B)) (.ref Kp) (.list rd) := .list (hKp ([_, _, _, _] ++ E)) (hrdb ([_, _, _, _] ++ E))
      exact .cons r1 (.cons r3 (.cons r2 (.cons r3 .nil)))
    · rw [hev]
      walk_at "m"
      exact ⟨⟨loc, TB P ⟨97, 23, 97, 38⟩ qBd (some c1) ++ hp⟩, ⟨.refl _, hsub ([_, _, _, _] ++ E)⟩, q _⟩
end


/-! ## _law_numbers -/
noncomputable def ownN : List Int := [10, 0, 2, 1, 0, 1, 0, 3]
noncomputable def numOf (ns : List Int) (k : Nat) : Int := if k < ns.length then ns.getD k 0 else ownN.getD k 0
noncomputable def numF (ns : List Int) : List Int := (List.range 8).map (numOf ns)
section
variable {c : Fc} {f cd sc : Addr} {ns : List Int} {hp : Hp} {loc : Loc} {Q : V → St → Prop}
theorem ca_numbers (F : Fn c.g "_law_numbers" 8 f cd) (hr : 0 < c.room) (h1 : nsIn c.g.K mainGlobals "len" = some none) (h2 : nsIn c.g.K mainGlobals "range" = some none)
    (hm : RL hp sc (ns.map V.int)) (hz : ns.length ≤ 63) (q : ∀ D, Q (.ref D) ⟨loc, (D, .list ((numF ns).map V.int)) :: hp⟩) : CA c (.ref f) [.ref sc] [] [] ⟨loc, hp⟩ Q := by
  obtain ⟨_, oc, od, osl, doc, pm, an, ct, hK, hcd⟩ := F
  refine CA.wk ?_
  refine ca_def (ab := [("script", .ref sc)]) hK hcd hr (bn_eq fun vs r => ?_) (fun L g A => ?_) (by kernel_rfl) (by kernel_rfl) (by kernel_rfl)
  · obtain ⟨v0, rfl, r0⟩ := all2_1 r
    exact ⟨[("script", v0)], by kernel_rfl, .cons ⟨rfl, r0⟩ .nil⟩
  show SN (FcX c.g A "_law_numbers" (fdS PB 8) L f (.ref cd) (cellsFrom (L + 1) (fdS PB 8).names []) g c.s₀ (c.room - 1)) "script" (.ref sc) ⟨[], (L + 1 + 1, .cell none) :: (L + 1, .cell none) :: hp⟩ _
  refine' sn_cellU ?a1 ?a2 ?a3 ?_
  case a2 => rfl
  case a3 => walk_at "upd"
  case a1 => kernel_rfl
  intro A' _
  show EX (FcX c.g A' "_law_numbers" (fdS PB 8) L f (.ref cd) (cellsFrom (L + 1) (fdS PB 8).names []) g c.s₀ (c.room - 1)) (fdB PB 8) ⟨[], (L + 1 + 1, .cell none) :: (L + 1, .cell (some (.ref sc))) :: hp⟩ _
  conv => arg 2; whnf
  walk_at "ms"
  refine ⟨by decide, fun O => ?_⟩
  walk_at "m"
  walk_at "comp"
  walk_at "ms"
  refine ⟨trivial, ca_bi (len_listR (vs := ownN.map V.int) (by walk_at "rl") (by decide) ?_)⟩
  walk_at "ms"
  refine ⟨trivial, ca_ty (ca_range1 fun R => it_range (n := 8) (by decide +kernel) (by decide +kernel) ?_)⟩
  walk_at "d"
  refine COMPG.fm0 (fun v => some (.int (numOf ns (vnat v)))) (by rw [rItems_length]; decide) (fun _ => rfl) trivial ?_ ?_
  · intro L2 g2 k v loc2 hv2
    obtain ⟨hk, rfl⟩ := rItems_get hv2
    have e4 : (0 + (k : Int) * 1).toNat = k := by omega
    have e5 : vnat (V.int (0 + (k : Int) * 1)) = k := e4
    rw [e5]
    walk_at "d"
    walk_at "ms"
    walk_at "ifv"
    walk_at "ms"
    refine ⟨trivial, ca_bi (len_listR (vs := ns.map V.int) (by walk_at "rl") (by simp; omega) ?_)⟩
    walk_at "ms"
    refine ⟨.int (numOf ns k), ?_, ⟨rfl, .refl _⟩⟩
    refine CN.by (fun e => ?_) (fun e => ?_)
    · have e := of_decide_eq_true e
      simp only [List.length_map] at e
      have hlt : k < ns.length := by omega
      walk_at "ms"
      refine sb_listI (v := .int (numOf ns k)) (by walk_at "rl") (by omega) ?_ (by omega) ⟨rfl, rfl⟩
      rw [e4, gi hlt, numOf, if_pos hlt]
    · have e := of_decide_eq_false e
      simp only [List.length_map] at e
      have hlt : ¬ k < ns.length := by omega
      walk_at "ms"
      refine sb_listI (vs := ownN.map V.int) (v := .int (numOf ns k)) (by walk_at "rl") (by omega) ?_ (by omega) ⟨rfl, rfl⟩
      rw [e4, gi (show k < ownN.length from hk), numOf, if_neg hlt]
  intro D
  have e : (rItems 0 8 1).filterMap (fun v => some (V.int (numOf ns (vnat v)))) = (numF ns).map V.int := by
    unfold rItems numF
    rw [List.filterMap_map, List.map_map]
    rw [← List.filterMap_eq_map]
    congr 1
    funext k
    show some (V.int (numOf ns (0 + (k : Int) * 1).toNat)) = some (V.int (numOf ns k))
    rw [show (0 + (k : Int) * 1).toNat = k by omega]
  rw [e]
  walk_at "d"
  walk_at "m"
  exact ⟨⟨loc, (D, .list ((numF ns).map V.int)) :: hp⟩, ⟨.refl _, by walk_at "sub"⟩, q D⟩
end

/-! ## _law_laid -/
noncomputable def hOf (hs : List Int) (n : Nat) (e1 e2 : Int) (k : Nat) : Int := if k < n then hs.getD k 0 else if k = n then e1 else e2
noncomputable def laidStep (hs : List Int) (n : Nat) (s : List Nat) : List Nat :=
  let j := bsr (fun i => !decide (hs.getD (s.length - 2) 0 < hOf hs n 9 0 (s.getD i 0))) 1 (s.length - 1)
  s.take j ++ (s.length - 2) :: s.drop j
noncomputable def laidI (hs : List Int) (n : Nat) : List Nat := (List.range n).foldl (fun s _ => laidStep hs n s) [n, n + 1]
noncomputable def bareD (hs : List Int) (n : Nat) (e1 e2 : Int) (k : Nat) : List Int := if k < n then [hs.getD k 0, k] else if k = n then [e1] else [e2]
section
variable {c : Fc} {f cd fi fb : Addr} {l : List Nat} {hp : Hp} {loc : Loc} {Q : V → St → Prop}
theorem ca_laid (F : Fn c.g "_law_laid" 9 f cd) (FI : FnB c.g "insort_right" 1 fi) (FB : FnB c.g "bisect_right" 2 fb) (hr : 5 ≤ c.room) (h1 : nsIn c.g.K mainGlobals "len" = some none) (h2 : nsIn c.g.K mainGlobals "range" = some none) (hz : l.length ≤ 1000)
    (q : ∀ R E vs, RDs E vs ((laidI (l.map fun n : Nat => (n : Int)) l.length).map fun k => dInts (bareD (l.map fun n : Nat => (n : Int)) l.length 9 0 k)) → Q (.ref R) ⟨loc, (R, .list vs) :: (E ++ hp)⟩) : CA c (.ref f) [.bytes l] [] [] ⟨loc, hp⟩ Q := by
  obtain ⟨_, oc, od, osl, doc, pm, an, ct, hK, hcd⟩ := F
  refine CA.wk ?_
  refine ca_def (ab := [("letters", .bytes l)]) hK hcd (by omega) (bn_eq fun vs r => ?_) (fun L g A => bi_locals ?_ fun A' _ => ?_) (by kernel_rfl) (by kernel_rfl) (by kernel_rfl)
  · obtain ⟨v0, rfl, r0⟩ := all2_1 r
    exact ⟨[("letters", v0)], by kernel_rfl, .cons ⟨rfl, r0⟩ .nil⟩
  · intro y hy
    simp only [List.mem_cons, List.not_mem_nil, or_false] at hy
    rcases hy with rfl <;> kernel_rfl
  have hni := FI.1
  show EX (FcX c.g A' "_law_laid" (fdS PB 9) L f (.ref cd) [] g c.s₀ (c.room - 1)) (fdB PB 9) ⟨[("letters", .bytes l)], hp⟩ _
  conv => arg 2; whnf
  refine x_cons ?_
  walk_at "scomp"
  walk_at "ms"
  refine it_bytes ?_
  have hH : (l.map fun n : Nat => (n : Int)).length = l.length := by simp
  have hv0 : ∀ (k : Nat) (v : V), (l.map fun n : Nat => V.int n)[k]? = some v → v = .int ((l.map fun n : Nat => (n : Int)).getD k 0) := fun k v e => by
    rw [List.getElem?_map] at e
    obtain ⟨n, hn, rfl⟩ := Option.map_eq_some_iff.mp e
    rw [List.getD_eq_getElem?_getD, List.getElem?_map, hn]; rfl
  have hil : (l.map fun n : Nat => V.int n).length = l.length := by simp
  generalize (l.map fun n : Nat => V.int n) = its at hv0 hil ⊢
  generalize (l.map fun n : Nat => (n : Int)) = hs at q hH hv0 ⊢
  generalize l.length = n at hH hz hil q ⊢
  refine ⟨fun L2 i ys hp' => ∃ Ds : List Addr, Ds.length = i ∧ ys = Ds.map V.ref ∧ hp' = (ents (fun k => [.int (hs.getD k 0)]) 0 Ds ++ hp), by omega, fun L2 => ⟨_, Sub.refl _, [], rfl, rfl, rfl⟩, fun _ _ _ _ _ => trivial, ?_, ?_⟩
  · rintro L2 g2 k v _ loc2 _ hv2 ⟨Ds, rfl, rfl, rfl⟩
    obtain rfl := hv0 _ _ hv2
    walk_at "ms"
    refine ⟨by show 1 ≤ 16777216; decide, fun D => ?_⟩
    refine ⟨ents (fun k => [.int (hs.getD k 0)]) 0 Ds ++ (D, .list [.int (hs.getD Ds.length 0)]) :: hp, Sub.perm ((List.perm_middle (l₁ := ents (fun k => [.int (hs.getD k 0)]) 0 Ds)).symm) (.refl _), Ds ++ [D], by simp, by simp, ?_⟩
    rw [ents_snoc, List.append_assoc, Nat.zero_add]; rfl
  · rintro L2 M _ _ ⟨Ds, hDl, rfl, rfl⟩
    rw [hil] at hDl
    walk_at "ms"
    refine nx_next (x_cons ?_)
    walk_at "ms"
    refine ⟨by show 1 ≤ 16777216; decide, fun A1 => ?_⟩
    walk_at "ms"
    refine ⟨by show 1 ≤ 16777216; decide, fun A2 => ?_⟩
    walk_at "ms"
    refine ⟨by show 2 ≤ 16777216; decide, fun R => ?_⟩
    walk_at "m"
    walk_at "for"
    walk_at "ms"
    refine it_list (vs := Ds.map V.ref) (by walk_at "rl") ?_
    have hadr : ∀ r : Nat, r ≤ n + 1 → ∀ (x y : Hp), RL (x ++ (A2, .list [.int 0]) :: (A1, .list [.int 9]) :: (M, .list (Ds.map V.ref)) :: (ents (fun k => [.int (hs.getD k 0)]) 0 Ds ++ y)) ((Ds ++ [A1, A2]).getD r 0) [.int (hOf hs n 9 0 r)] := by
      intro r hr x y
      refine .inl (List.mem_append_right _ ?_)
      rw [List.getD_eq_getElem?_getD]
      unfold hOf
      by_cases h3 : r < n
      · rw [if_pos h3, List.getElem?_append_left (by omega)]
        have e := List.getElem?_eq_getElem (l := Ds) (i := r) (by omega)
        rw [e]
        have := ents_mem (fun k => [.int (hs.getD k 0)]) 0 Ds r _ e
        rw [Nat.zero_add] at this
        exact .tail _ (.tail _ (.tail _ (List.mem_append_left _ this)))
      · rw [if_neg h3, List.getElem?_append_right (by omega)]
        by_cases h4 : r = n
        · rw [if_pos h4, show r - Ds.length = 0 by omega]; exact .tail _ (.head _)
        · rw [if_neg h4, show r - Ds.length = 1 by omega]; exact .head _
    refine FOR.fold (fun s : List Nat => ⟨[("row", .ref R), ("made", .ref M)], (R, .list (s.map fun r => V.ref ((Ds ++ [A1, A2]).getD r 0))) :: (A2, .list [.int 0]) :: (A1, .list [.int 9]) :: (M, .list (Ds.map V.ref)) :: (ents (fun k => [.int (hs.getD k 0)]) 0 Ds ++ hp)⟩)
      (fun s _ => laidStep hs n s) [n, n + 1] (fun i s => s.length = i + 2 ∧ ∀ r ∈ s, r ≤ n + 1) ⟨by walk_at "loc", ?_⟩ ⟨rfl, by simp⟩ (fun _ => by walk_at "rl") ?_ ?_
    · have e1 : (Ds ++ [A1, A2]).getD n 0 = A1 := by rw [List.getD_eq_getElem?_getD, List.getElem?_append_right (by omega), hDl, Nat.sub_self]; rfl
      have e2 : (Ds ++ [A1, A2]).getD (n + 1) 0 = A2 := by rw [List.getD_eq_getElem?_getD, List.getElem?_append_right (by omega), hDl, show n + 1 - n = 1 by omega]; rfl
      rw [List.map_cons, List.map_cons, e1, e2]
      exact .refl _
    · rintro i v s hv ⟨hj1, hj2⟩
      rw [List.getElem?_map] at hv
      obtain ⟨D, hD, rfl⟩ := Option.map_eq_some_iff.mp hv
      have hi : i < n := by
        rcases Nat.lt_or_ge i Ds.length with h | h
        · omega
        · rw [List.getElem?_eq_none h] at hD; cases hD
      have hDa : (Ds ++ [A1, A2]).getD i 0 = D := by rw [List.getD_eq_getElem?_getD, List.getElem?_append_left (by omega), hD]; rfl
      have hO : hOf hs n 9 0 i = hs.getD i 0 := by unfold hOf; rw [if_pos hi]
      have hDr : ∀ x y, RL (x ++ (A2, .list [.int 0]) :: (A1, .list [.int 9]) :: (M, .list (Ds.map V.ref)) :: (ents (fun k => [.int (hs.getD k 0)]) 0 Ds ++ y)) D [.int (hs.getD i 0)] := fun x y => by
        have := hadr i (by omega) x y
        rw [hDa, hO] at this; exact this
      walk_at "ms"
      refine ⟨trivial, ca_bi (len_listR (vs := s.map fun r => V.ref ((Ds ++ [A1, A2]).getD r 0)) .here (by simp; omega) ?_)⟩
      walk_at "ms"
      refine ⟨FI.keeper, ca_insR0 (c := FcX c.g A' "_law_laid" (fdS PB 9) L f (.ref cd) [] g c.s₀ (c.room - 1)) (vs := s.map fun r => V.ref ((Ds ++ [A1, A2]).getD r 0)) (lo := 1) (hi := s.length - 1) (p := fun i => !decide (hs.getD (s.length - 2) 0 < hOf hs n 9 0 (s.getD i 0))) FI FB h1 (fun _ _ _ _ _ _ _ _ h => bn40 (by decide) h) .here (by simp; omega) (by omega) (by simp) (.inl ?_) (by show 2 ≤ c.room - 1; omega) ?_ ?_⟩
      · rw [List.length_map]; congr 1; omega
      · intro c2 hg loc' j v Qc hv hq
        rw [List.getElem?_map] at hv
        obtain ⟨r, hr2, rfl⟩ := Option.map_eq_some_iff.mp hv
        refine co_ltL1 (hDr [_] _) (hadr r (hj2 r (List.mem_of_getElem? hr2)) [_] _) ?_
        have e : decide (hs.getD i 0 < hOf hs n 9 0 r) = !!decide (hs.getD (s.length - 2) 0 < hOf hs n 9 0 (s.getD j 0)) := by
          rw [Bool.not_not]
          rw [List.getD_eq_getElem?_getD (l := s), hr2, hj1, show i + 2 - 2 = i by omega]
          rfl
        rw [e]; exact hq
      · walk_at "ms"
        refine co_isNotNone (fun n e => by cases e) ?_
        walk_at "ms"
        refine CN.f rfl ?_
        walk_at "m"
        refine tu_next ⟨[("row", .ref R), ("made", .ref M)], (R, .list ((laidStep hs n s).map fun r => V.ref ((Ds ++ [A1, A2]).getD r 0))) :: (A2, .list [.int 0]) :: (A1, .list [.int 9]) :: (M, .list (Ds.map V.ref)) :: (ents (fun k => [.int (hs.getD k 0)]) 0 Ds ++ hp)⟩ ⟨by walk_at "loc", ?_⟩ ⟨⟨?_, ?_⟩, rfl⟩
        · have e : ((laidStep hs n s).map fun r => V.ref ((Ds ++ [A1, A2]).getD r 0)) = (s.map fun r => V.ref ((Ds ++ [A1, A2]).getD r 0)).take (bsr (fun i => !decide (hs.getD (s.length - 2) 0 < hOf hs n 9 0 (s.getD i 0))) 1 (s.length - 1)) ++ V.ref D :: (s.map fun r => V.ref ((Ds ++ [A1, A2]).getD r 0)).drop (bsr (fun i => !decide (hs.getD (s.length - 2) 0 < hOf hs n 9 0 (s.getD i 0))) 1 (s.length - 1)) := by
            rw [← hDa]
            simp [laidStep, List.map_take, List.map_drop, hj1]
          rw [e]; exact .refl _
        · simp [laidStep]; omega
        · intro b hb
          unfold laidStep at hb
          rcases List.mem_append.mp hb with h | h
          · exact hj2 b (List.mem_of_mem_take h)
          · rcases List.mem_cons.mp h with rfl | h
            · omega
            · exact hj2 b (List.mem_of_mem_drop h)
    · intro hj
      have e5 : (Ds.map V.ref).foldl (fun s _ => laidStep hs n s) [n, n + 1] = laidI hs n := foldl_const _ _ _ _ (by simp [hDl])
      rw [e5] at hj ⊢
      obtain ⟨_, hj2⟩ := hj
      generalize laidI hs n = s at q hj2 ⊢
      walk_at "m"
      walk_at "for"
      walk_at "ms"
      refine ⟨trivial, ca_bi (len_listR (vs := Ds.map V.ref) (by walk_at "rl") (by simp; omega) ?_)⟩
      walk_at "ms"
      rw [List.length_map, hDl]
      refine ⟨trivial, ca_ty (ca_range1 fun R3 => it_range (n := n) (rangeN (by omega)) sizeN ?_)⟩
      refine FOR.fold (fun m : Nat => ⟨[("row", .ref R), ("made", .ref M)], (R, .list (s.map fun r => V.ref ((Ds ++ [A1, A2]).getD r 0))) :: (A2, .list [.int 0]) :: (A1, .list [.int 9]) :: (M, .list (Ds.map V.ref)) :: (ents (fun k => if k < m then [.int (hs.getD k 0), .int k] else [.int (hs.getD k 0)]) 0 Ds ++ hp)⟩)
        (fun m _ => m + 1) 0 (fun i m => m = i) ⟨by walk_at "loc", ?_⟩ rfl (fun _ => trivial) ?_ ?_
      · simp only [Nat.not_lt_zero, if_false]
        exact .keep (.keep (.keep (.keep (.refl _))))
      · rintro i v m hv rfl
        obtain ⟨hi, rfl⟩ := rItems_get hv
        have e4 : (0 + (m : Int) * 1).toNat = m := by omega
        have e6 : (0 + (m : Int) * 1) = (m : Int) := by omega
        have hD := List.getElem?_eq_getElem (l := Ds) (i := m) (by omega)
        have u := ents_upd (h := fun k => if k < m then [.int (hs.getD k 0), .int k] else [.int (hs.getD k 0)]) (h' := fun k => if k < m + 1 then [.int (hs.getD k 0), .int k] else [.int (hs.getD k 0)]) (r := hp) 0 Ds m _ hD (fun j hj => by
          by_cases h : j < m
          · rw [if_pos h, if_pos (by omega)]
          · rw [if_neg h, if_neg (by omega)])
        rw [Nat.zero_add, if_neg (Nat.lt_irrefl m), if_pos (Nat.lt_succ_self m)] at u
        walk_at "ms"
        walk_at "app"
        walk_at "ms"
        refine sb_listI (v := .ref Ds[m]) (by walk_at "rl") (by omega) (by rw [e4, List.getElem?_map, hD]; rfl) (by omega) ?_
        refine ⟨Ds[m], [.int (hs.getD m 0)], rfl, .inl (.tail _ (.tail _ (.tail _ (.tail _ u.mem)))), ?_⟩
        walk_at "ms"
        rw [e6]
        refine ⟨_, .there (.there (.there (.there u))), by show 1 ≤ 16777216; decide, ?_⟩
        walk_at "m"
        exact tu_f ⟨by walk_at "loc", .refl _⟩ rfl
      · rw [rItems_length]
        intro hj3
        rw [hj3]
        walk_at "m"
        refine ⟨⟨loc, (R, .list (s.map fun r => V.ref ((Ds ++ [A1, A2]).getD r 0))) :: (((A2, .list [.int 0]) :: (A1, .list [.int 9]) :: ents (fun k => if k < n then [.int (hs.getD k 0), .int k] else [.int (hs.getD k 0)]) 0 Ds) ++ hp)⟩, ⟨.refl _, .keep (.keep (.keep (.drop (.refl _))))⟩, q _ _ _ ?_⟩
        refine RDs.of _ _ _ fun r hr => RD.ints (.inl ?_)
        have hr := hj2 r hr
        rw [List.getD_eq_getElem?_getD]
        unfold bareD
        by_cases h3 : r < n
        · rw [if_pos h3, List.getElem?_append_left (by omega)]
          have e := List.getElem?_eq_getElem (l := Ds) (i := r) (by omega)
          rw [e]
          have := ents_mem (fun k => if k < n then [.int (hs.getD k 0), .int k] else [.int (hs.getD k 0)]) 0 Ds r _ e
          rw [Nat.zero_add, if_pos h3] at this
          exact .tail _ (.tail _ this)
        · rw [if_neg h3, List.getElem?_append_right (by omega)]
          by_cases h4 : r = n
          · rw [if_pos h4, show r - Ds.length = 0 by omega]; exact .tail _ (.head _)
          · rw [if_neg h4, show r - Ds.length = 1 by omega]; exact .head _
end

theorem key_shelf {c' : Fc} {hp1 : Hp} {lf c1 ca SH : Addr} {n q : Str} {params : Arguments} {scope : Scope} {p1 p2 p3 : Pos} {loc' : Loc} {vs : List V} {v : V} {k : Nat} {Qc : V → St → Prop} (hm : (lf, AObj.lam n q params (.Subscript (.Name "shelf" p1) (.Name "one" p2) p3) scope [(("shelf" : Str), ca)] c1) ∈ hp1) (hcd : (c1, AObj.code q) ∈ hp1)
    (hsh : RL hp1 SH vs) (hca : (ca, AObj.cell (some (.ref SH))) ∈ hp1) (hb : ∀ pm ctv v, bindArgs (kla_fn n q params (.Subscript (.Name "shelf" p1) (.Name "one" p2) p3) scope [(("shelf" : Str), ca)] pm (.ref c1) ctv) ⟨[v], []⟩ = pure [(("one" : Str), v)]) (hs : scope.names = [(("one" : Str), NameKind.local), (("shelf" : Str), NameKind.free)]) (hco : scope.isCoroutine = false) (hgen : scope.isGenerator = false) (hk : scope.kind = .function)
    (hr : 1 ≤ c'.room) (hv : vs[k]? = some v) (hk2 : k ≤ 100000) (hq : Qc v ⟨loc', hp1⟩) : Keeper c' (.ref lf) ⟨loc', hp1⟩ ∧ CA c' (.ref lf) [.int k] [] [] ⟨loc', hp1⟩ Qc := by
  refine ⟨.inr ⟨_, _, _, _, _, _, _, hm⟩, ca_lam hm hcd hr (ab := [("one", .int k)]) (fun pm ctv vs r => ?_) (fun L g A => ?_) hco hgen hk⟩
  · obtain ⟨v0, rfl, r0⟩ := all2_1 r
    exact ⟨[("one", v0)], hb pm ctv v0, .cons ⟨rfl, r0⟩ .nil⟩
  have hkd : ∀ cl, (envX q scope L lf (.ref c1) cl).kindOf "one" = some .local := fun cl => by show scope.names.lookup ("one" : Str) = _; rw [hs]; kernel_rfl
  have hkf : ∀ cl, (envX q scope L lf (.ref c1) cl).kindOf "shelf" = some .free := fun cl => by show scope.names.lookup ("shelf" : Str) = _; rw [hs]; kernel_rfl
  refine bi_locals (fun y hy => ?_) fun A' => ?_
  · simp only [List.mem_cons, List.not_mem_nil, or_false] at hy
    subst hy
    exact hkd _
  · rw [show cellEntries (L + 1) scope.names hp1 = hp1 by rw [hs]; rfl]
    refine ev_sub (ev_free (a := ca) (hkf _) ?_ hca (ev_local (hkd _) rfl (sb_listN hsh hv (by omega) hq) (by kernel_rfl)) (by kernel_rfl) (by kernel_rfl))
    show (cellsFrom (L + 1) scope.names [(("shelf" : Str), ca)]).lookup ("shelf" : Str) = some ca
    rw [hs]; rfl
/-! ## _law_straight -/
noncomputable def qS : Str := (("_law_straight" : Str) ++ ".<locals>.") ++ "<lambda>"
noncomputable def stS (sh : List Nat) (s : List Nat) (place : Nat) : List Nat :=
  let j := bsr (fun i => !decide (sh.getD place 0 < sh.getD (s.getD i 0) 0)) 1 (s.length - 1)
  s.take j ++ place :: s.drop j
noncomputable def ordS (w : List Nat) : List Nat := (List.range w.length).foldl (stS (w ++ [9, 0])) [w.length, w.length + 1]
section
variable {c : Fc} {f cd fi fb P : Addr} {l : List Nat} {t : Option Addr} {hp : Hp} {loc : Loc} {Q : V → St → Prop}
theorem ca_ordS (F : Fn c.g "_law_straight" 10 f cd) (FI : FnB c.g "insort_right" 1 fi) (FB : FnB c.g "bisect_right" 2 fb) (hr : 6 ≤ c.room) (h1 : nsIn c.g.K mainGlobals "len" = some none) (h2 : nsIn c.g.K mainGlobals "range" = some none) (h3 : nsIn c.g.K mainGlobals "list" = some none)
    (hP : codeHdIn c.g.K cd P = true) (hz : l.length ≤ 500)
    (q : ∀ D t', Q (.ref D) ⟨loc, (D, .list ((ordS l).map fun k : Nat => V.int k)) :: (TB P ⟨78, 61, 78, 83⟩ qS t' ++ hp)⟩) : CA c (.ref f) [.bytes l] [] [] ⟨loc, TB P ⟨78, 61, 78, 83⟩ qS t ++ hp⟩ Q := by
  obtain ⟨_, oc, od, osl, doc, pm, an, ct, hK, hcd⟩ := F
  refine CA.wk ?_
  refine ca_def (ab := [("word", .bytes l)]) hK hcd (by omega) (bn_eq fun vs r => ?_) (fun L g A => bi_locals ?_ fun A' _ => ?_) (by kernel_rfl) (by kernel_rfl) (by kernel_rfl)
  · obtain ⟨v0, rfl, r0⟩ := all2_1 r
    exact ⟨[("word", v0)], by kernel_rfl, .cons ⟨rfl, r0⟩ .nil⟩
  · intro y hy
    simp only [List.mem_cons, List.not_mem_nil, or_false] at hy
    rcases hy with rfl <;> kernel_rfl
  have hn := FI.1
  show EX (FcX c.g A' "_law_straight" (fdS PB 10) L f (.ref cd) (cellsFrom (L + 1) (fdS PB 10).names []) g c.s₀ (c.room - 1)) (fdB PB 10) ⟨[("word", .bytes l)], (L + 1, .cell none) :: (TB P ⟨78, 61, 78, 83⟩ qS t ++ hp)⟩ _
  conv => arg 2; whnf
  walk_at "ms"
  refine ⟨trivial, ca_ty (ca_listB (by omega) fun S0 => ?_)⟩
  walk_at "ms"
  refine ⟨by show 2 ≤ 16777216; decide, fun S1 => ?_⟩
  walk_at "d"
  refine bo_addL (.there .here) .here (by simp; omega) fun SH => ?_
  have esh : (l.map fun n : Nat => V.int n) ++ [V.int 9, V.int 0] = (l ++ [9, 0]).map fun n : Nat => V.int n := by rw [List.map_append]; rfl
  rw [esh]
  walk_at "d"
  walk_at "ms"
  refine nx_next (TR.preWK (st' := ⟨[("word", .bytes l)], (SH, .list ((l ++ [9, 0]).map fun n : Nat => V.int n)) :: (L + 1, .cell (some (.ref SH))) :: (TB P ⟨78, 61, 78, 83⟩ qS t ++ hp)⟩) ⟨by walk_at "loc", by walk_at "sub"⟩ ?_)
  walk_at "m"
  refine ⟨trivial, ca_bi (len_bytes' (by omega) ?_)⟩
  walk_at "ms"
  refine ⟨trivial, ca_bi (len_bytes' (by omega) ?_)⟩
  walk_at "ms"
  refine ⟨by show 2 ≤ 16777216; decide, fun O => ?_⟩
  walk_at "d"
  walk_at "m"
  walk_at "for"
  walk_at "ms"
  refine ⟨trivial, ca_bi (len_bytes' (by omega) ?_)⟩
  walk_at "ms"
  refine ⟨trivial, ca_ty (ca_range1 fun R => it_range (n := l.length) (rangeN (by omega)) sizeN ?_)⟩
  have hshl : (l ++ [9, 0]).length = l.length + 2 := by simp
  have hgetS : ∀ k : Nat, k ≤ l.length + 1 → ((l ++ [9, 0]).map fun n : Nat => V.int n)[k]? = some (V.int ((l ++ [9, 0]).getD k 0 : Nat)) := fun k hk => by
    rw [List.getElem?_map, List.getD_eq_getElem?_getD, List.getElem?_eq_getElem (by omega)]; rfl
  refine FOR.foldE (fun (t : Option Addr) (s : List Nat) => ⟨[("order", .ref O), ("word", .bytes l)], (O, .list (s.map fun k : Nat => V.int k)) :: (SH, .list ((l ++ [9, 0]).map fun n : Nat => V.int n)) :: (L + 1, .cell (some (.ref SH))) :: (TB P ⟨78, 61, 78, 83⟩ qS t ++ hp)⟩) (fun s v => stS (l ++ [9, 0]) s (vnat v)) [l.length, l.length + 1] t (fun i s => s.length = i + 2 ∧ ∀ r ∈ s, r ≤ l.length + 1)
    ⟨by walk_at "loc", ?_⟩ ⟨rfl, by simp⟩ (fun _ _ => trivial) ?_ ?_
  · exact .refl _
  · rintro i v t s hv ⟨hj1, hj2⟩
    obtain ⟨hi, rfl⟩ := rItems_get hv
    have e4 : (0 + (i : Int) * 1) = (i : Int) := by omega
    rw [e4]
    have e2 : vnat (V.int (i : Int)) = i := Int.toNat_natCast i
    rw [e2]
    generalize hsh : l ++ [9, 0] = sh at hshl hgetS ⊢
    walk_at "ms"
    refine ⟨trivial, ca_bi (len_listR (vs := s.map fun k : Nat => V.int k) .here (by simp; omega) ?_)⟩
    walk_at "ms"
    refine ev_lam (pre := [(O, .list (s.map fun k : Nat => V.int k)), (SH, .list (sh.map fun n : Nat => V.int n)), (L + 1, .cell (some (.ref SH)))]) (post := hp) (t := t) (P := P) rfl hP rfl rfl fun lf c' => ?_
    walk_at "ms"
    refine ⟨FI.keeper, ca_insR1 (c := FcX c.g A' "_law_straight" (fdS PB 10) L f (.ref cd) (cellsFrom (L + 1) (fdS PB 10).names []) g c.s₀ (c.room - 1)) (m := 1) (vs := s.map fun k : Nat => V.int k) (ws := s.map fun k => V.int (sh.getD k 0 : Nat)) (kx := .int (sh.getD i 0 : Nat)) (lo := 1) (hi := s.length - 1) (p := fun i' => !decide (sh.getD i 0 < sh.getD (s.getD i' 0) 0)) FI FB h1 (fun _ _ _ _ _ _ _ _ h => bn41 (by decide) h) (.there .here) (by simp; omega) (by omega) (by simp) (.inl ?_) ?_ ?_ (by simp) (by show 3 ≤ c.room - 1; omega) (by omega) ?_ ?_⟩
    · rw [List.length_map]; congr 1; omega
    · intro c2 hg hroom loc' j v Qc hv hq
      rw [List.getElem?_map] at hv
      obtain ⟨b, hb, rfl⟩ := Option.map_eq_some_iff.mp hv
      exact key_shelf (.head _) (.tail _ (.tail _ (.tail _ (.tail _ (.tail _ (.head _)))))) (.inl (.tail _ (.tail _ (.head _)))) (.tail _ (.tail _ (.tail _ (.head _)))) (fun _ _ _ => rfl) rfl rfl rfl rfl hroom (hgetS b (hj2 b (List.mem_of_getElem? hb))) (by have := hj2 b (List.mem_of_getElem? hb); omega) (hq _ (by rw [List.getElem?_map, hb]; rfl))
    · intro c2 hg hroom loc' Qc hq
      exact key_shelf (.head _) (.tail _ (.tail _ (.tail _ (.tail _ (.tail _ (.head _)))))) (.inl (.tail _ (.tail _ (.head _)))) (.tail _ (.tail _ (.tail _ (.head _)))) (fun _ _ _ => rfl) rfl rfl rfl rfl hroom (hgetS i (by omega)) (by omega) (hq)
    · intro c2 hg loc' j v Qc hv hq
      rw [List.getElem?_map] at hv
      obtain ⟨b, hb, rfl⟩ := Option.map_eq_some_iff.mp hv
      refine co_lt ?_
      have e : decide (((sh.getD i 0 : Nat) : Int) < ((sh.getD b 0 : Nat) : Int)) = !(!decide (sh.getD i 0 < sh.getD (s.getD j 0) 0)) := by
        simp [List.getD_eq_getElem?_getD (l := s), hb]
      rw [e]; exact hq
    · walk_at "ms"
      refine co_isNotNone (fun n e => by cases e) ?_
      walk_at "ms"
      refine CN.f rfl ?_
      walk_at "m"
      refine tu_fe (some c') ⟨by walk_at "loc", ?_⟩ ⟨?_, ?_⟩
      · have e : ((stS sh s i).map fun k : Nat => V.int k) = (s.map fun k : Nat => V.int k).take (bsr (fun i' => !decide (sh.getD i 0 < sh.getD (s.getD i' 0) 0)) 1 (s.length - 1)) ++ V.int i :: (s.map fun k : Nat => V.int k).drop (bsr (fun i' => !decide (sh.getD i 0 < sh.getD (s.getD i' 0) 0)) 1 (s.length - 1)) := by
          simp [stS, List.map_take, List.map_drop]
        rw [e]
        exact .drop (.refl _)
      · simp [stS]; omega
      · intro b hb
        unfold stS at hb
        rcases List.mem_append.mp hb with h | h
        · exact hj2 b (List.mem_of_mem_take h)
        · rcases List.mem_cons.mp h with rfl | h
          · omega
          · exact hj2 b (List.mem_of_mem_drop h)
  · intro t' hj
    have e5 : (rItems 0 l.length 1).foldl (fun s v => stS (l ++ [9, 0]) s (vnat v)) [l.length, l.length + 1] = ordS l := by
      refine rItems_foldl _ _ _ _ _ (fun s j => ?_) _
      have e2 : vnat (V.int (0 + (j : Int) * 1)) = j := by show (0 + (j : Int) * 1).toNat = j; omega
      simp only [e2]
    rw [e5]
    walk_at "m"
    exact ⟨⟨loc, (O, .list ((ordS l).map fun k : Nat => V.int k)) :: (TB P ⟨78, 61, 78, 83⟩ qS t' ++ hp)⟩, ⟨.refl _, by walk_at "sub"⟩, q O t'⟩
end

/-! ## _law_crossed -/
noncomputable def qC : Str := (("_law_crossed" : Str) ++ ".<locals>.") ++ "<lambda>"
noncomputable def stC (sh : List Nat) (s : List Nat) (place : Nat) : List Nat :=
  let j := bsr (fun i => decide (sh.getD (s.getD i 0) 0 < sh.getD place 0)) 1 (s.length - 1)
  s.take j ++ place :: s.drop j
noncomputable def ordC (w : List Nat) : List Nat := (List.range w.length).foldl (stC (w ++ [9, 0])) [w.length, w.length + 1]
section
variable {c : Fc} {f cd fi fb P : Addr} {l : List Nat} {t : Option Addr} {hp : Hp} {loc : Loc} {Q : V → St → Prop}
theorem ca_ordC (F : Fn c.g "_law_crossed" 11 f cd) (FI : FnB c.g "insort_left" 3 fi) (FB : FnB c.g "bisect_left" 4 fb) (hr : 6 ≤ c.room) (h1 : nsIn c.g.K mainGlobals "len" = some none) (h2 : nsIn c.g.K mainGlobals "range" = some none) (h3 : nsIn c.g.K mainGlobals "list" = some none)
    (hP : codeHdIn c.g.K cd P = true) (hz : l.length ≤ 500)
    (q : ∀ D t', Q (.ref D) ⟨loc, (D, .list ((ordC l).map fun k : Nat => V.int k)) :: (TB P ⟨85, 60, 85, 82⟩ qC t' ++ hp)⟩) : CA c (.ref f) [.bytes l] [] [] ⟨loc, TB P ⟨85, 60, 85, 82⟩ qC t ++ hp⟩ Q := by
  obtain ⟨_, oc, od, osl, doc, pm, an, ct, hK, hcd⟩ := F
  refine CA.wk ?_
  refine ca_def (ab := [("word", .bytes l)]) hK hcd (by omega) (bn_eq fun vs r => ?_) (fun L g A => bi_locals ?_ fun A' _ => ?_) (by kernel_rfl) (by kernel_rfl) (by kernel_rfl)
  · obtain ⟨v0, rfl, r0⟩ := all2_1 r
    exact ⟨[("word", v0)], by kernel_rfl, .cons ⟨rfl, r0⟩ .nil⟩
  · intro y hy
    simp only [List.mem_cons, List.not_mem_nil, or_false] at hy
    rcases hy with rfl <;> kernel_rfl
  have hn := FI.1
  show EX (FcX c.g A' "_law_crossed" (fdS PB 11) L f (.ref cd) (cellsFrom (L + 1) (fdS PB 11).names []) g c.s₀ (c.room - 1)) (fdB PB 11) ⟨[("word", .bytes l)], (L + 1, .cell none) :: (TB P ⟨85, 60, 85, 82⟩ qC t ++ hp)⟩ _
  conv => arg 2; whnf
  walk_at "ms"
  refine ⟨trivial, ca_ty (ca_listB (by omega) fun S0 => ?_)⟩
  walk_at "ms"
  refine ⟨by show 2 ≤ 16777216; decide, fun S1 => ?_⟩
  walk_at "d"
  refine bo_addL (.there .here) .here (by simp; omega) fun SH => ?_
  have esh : (l.map fun n : Nat => V.int n) ++ [V.int 9, V.int 0] = (l ++ [9, 0]).map fun n : Nat => V.int n := by rw [List.map_append]; rfl
  rw [esh]
  walk_at "d"
  walk_at "ms"
  refine nx_next (TR.preWK (st' := ⟨[("word", .bytes l)], (SH, .list ((l ++ [9, 0]).map fun n : Nat => V.int n)) :: (L + 1, .cell (some (.ref SH))) :: (TB P ⟨85, 60, 85, 82⟩ qC t ++ hp)⟩) ⟨by walk_at "loc", by walk_at "sub"⟩ ?_)
  walk_at "m"
  refine ⟨trivial, ca_bi (len_bytes' (by omega) ?_)⟩
  walk_at "ms"
  refine ⟨trivial, ca_bi (len_bytes' (by omega) ?_)⟩
  walk_at "ms"
  refine ⟨by show 2 ≤ 16777216; decide, fun O => ?_⟩
  walk_at "d"
  walk_at "m"
  walk_at "for"
  walk_at "ms"
  refine ⟨trivial, ca_bi (len_bytes' (by omega) ?_)⟩
  walk_at "ms"
  refine ⟨trivial, ca_ty (ca_range1 fun R => it_range (n := l.length) (rangeN (by omega)) sizeN ?_)⟩
  have hshl : (l ++ [9, 0]).length = l.length + 2 := by simp
  have hgetS : ∀ k : Nat, k ≤ l.length + 1 → ((l ++ [9, 0]).map fun n : Nat => V.int n)[k]? = some (V.int ((l ++ [9, 0]).getD k 0 : Nat)) := fun k hk => by
    rw [List.getElem?_map, List.getD_eq_getElem?_getD, List.getElem?_eq_getElem (by omega)]; rfl
  refine FOR.foldE (fun (t : Option Addr) (s : List Nat) => ⟨[("order", .ref O), ("word", .bytes l)], (O, .list (s.map fun k : Nat => V.int k)) :: (SH, .list ((l ++ [9, 0]).map fun n : Nat => V.int n)) :: (L + 1, .cell (some (.ref SH))) :: (TB P ⟨85, 60, 85, 82⟩ qC t ++ hp)⟩) (fun s v => stC (l ++ [9, 0]) s (vnat v)) [l.length, l.length + 1] t (fun i s => s.length = i + 2 ∧ ∀ r ∈ s, r ≤ l.length + 1)
    ⟨by walk_at "loc", ?_⟩ ⟨rfl, by simp⟩ (fun _ _ => trivial) ?_ ?_
  · exact .refl _
  · rintro i v t s hv ⟨hj1, hj2⟩
    obtain ⟨hi, rfl⟩ := rItems_get hv
    have e4 : (0 + (i : Int) * 1) = (i : Int) := by omega
    rw [e4]
    have e2 : vnat (V.int (i : Int)) = i := Int.toNat_natCast i
    rw [e2]
    generalize hsh : l ++ [9, 0] = sh at hshl hgetS ⊢
    walk_at "ms"
    refine ⟨trivial, ca_bi (len_listR (vs := s.map fun k : Nat => V.int k) .here (by simp; omega) ?_)⟩
    walk_at "ms"
    refine ev_lam (pre := [(O, .list (s.map fun k : Nat => V.int k)), (SH, .list (sh.map fun n : Nat => V.int n)), (L + 1, .cell (some (.ref SH)))]) (post := hp) (t := t) (P := P) rfl hP rfl rfl fun lf c' => ?_
    walk_at "ms"
    refine ⟨FI.keeper, ca_insL1 (c := FcX c.g A' "_law_crossed" (fdS PB 11) L f (.ref cd) (cellsFrom (L + 1) (fdS PB 11).names []) g c.s₀ (c.room - 1)) (m := 1) (vs := s.map fun k : Nat => V.int k) (ws := s.map fun k => V.int (sh.getD k 0 : Nat)) (kx := .int (sh.getD i 0 : Nat)) (lo := 1) (hi := s.length - 1) (p := fun i' => decide (sh.getD (s.getD i' 0) 0 < sh.getD i 0)) FI FB h1 (fun _ _ _ _ _ _ _ _ h => bn41 (by decide) h) (.there .here) (by simp; omega) (by omega) (by simp) (.inl ?_) ?_ ?_ (by simp) (by show 3 ≤ c.room - 1; omega) (by omega) ?_ ?_⟩
    · rw [List.length_map]; congr 1; omega
    · intro c2 hg hroom loc' j v Qc hv hq
      rw [List.getElem?_map] at hv
      obtain ⟨b, hb, rfl⟩ := Option.map_eq_some_iff.mp hv
      exact key_shelf (.head _) (.tail _ (.tail _ (.tail _ (.tail _ (.tail _ (.head _)))))) (.inl (.tail _ (.tail _ (.head _)))) (.tail _ (.tail _ (.tail _ (.head _)))) (fun _ _ _ => rfl) rfl rfl rfl rfl hroom (hgetS b (hj2 b (List.mem_of_getElem? hb))) (by have := hj2 b (List.mem_of_getElem? hb); omega) (hq _ (by rw [List.getElem?_map, hb]; rfl))
    · intro c2 hg hroom loc' Qc hq
      exact key_shelf (.head _) (.tail _ (.tail _ (.tail _ (.tail _ (.tail _ (.head _)))))) (.inl (.tail _ (.tail _ (.head _)))) (.tail _ (.tail _ (.tail _ (.head _)))) (fun _ _ _ => rfl) rfl rfl rfl rfl hroom (hgetS i (by omega)) (by omega) (hq)
    · intro c2 hg loc' j v Qc hv hq
      rw [List.getElem?_map] at hv
      obtain ⟨b, hb, rfl⟩ := Option.map_eq_some_iff.mp hv
      refine co_lt ?_
      have e : decide (((sh.getD b 0 : Nat) : Int) < ((sh.getD i 0 : Nat) : Int)) = decide (sh.getD (s.getD j 0) 0 < sh.getD i 0) := by
        simp [List.getD_eq_getElem?_getD (l := s), hb]
      rw [e]; exact hq
    · walk_at "ms"
      refine co_isNotNone (fun n e => by cases e) ?_
      walk_at "ms"
      refine CN.f rfl ?_
      walk_at "m"
      refine tu_fe (some c') ⟨by walk_at "loc", ?_⟩ ⟨?_, ?_⟩
      · have e : ((stC sh s i).map fun k : Nat => V.int k) = (s.map fun k : Nat => V.int k).take (bsr (fun i' => decide (sh.getD (s.getD i' 0) 0 < sh.getD i 0)) 1 (s.length - 1)) ++ V.int i :: (s.map fun k : Nat => V.int k).drop (bsr (fun i' => decide (sh.getD (s.getD i' 0) 0 < sh.getD i 0)) 1 (s.length - 1)) := by
          simp [stC, List.map_take, List.map_drop]
        rw [e]
        exact .drop (.refl _)
      · simp [stC]; omega
      · intro b hb
        unfold stC at hb
        rcases List.mem_append.mp hb with h | h
        · exact hj2 b (List.mem_of_mem_take h)
        · rcases List.mem_cons.mp h with rfl | h
          · omega
          · exact hj2 b (List.mem_of_mem_drop h)
  · intro t' hj
    have e5 : (rItems 0 l.length 1).foldl (fun s v => stC (l ++ [9, 0]) s (vnat v)) [l.length, l.length + 1] = ordC l := by
      refine rItems_foldl _ _ _ _ _ (fun s j => ?_) _
      have e2 : vnat (V.int (0 + (j : Int) * 1)) = j := by show (0 + (j : Int) * 1).toNat = j; omega
      simp only [e2]
    rw [e5]
    walk_at "m"
    exact ⟨⟨loc, (O, .list ((ordC l).map fun k : Nat => V.int k)) :: (TB P ⟨85, 60, 85, 82⟩ qC t' ++ hp)⟩, ⟨.refl _, by walk_at "sub"⟩, q O t'⟩
end

/-! ## _law_plain -/
noncomputable def plRow (w : List Nat) (cr : Bool) (h : Nat) : List Nat :=
  let r := (List.range w.length).filter fun k => w.getD k 0 == h
  if cr then r.reverse else r
theorem plRow_len (w : List Nat) (cr : Bool) (h : Nat) : (plRow w cr h).length ≤ w.length := by
  unfold plRow
  have := List.length_filter_le (fun k => w.getD k 0 == h) (List.range w.length)
  rw [List.length_range] at this
  cases cr
  · exact this
  · simpa using this
noncomputable def plainF (w : List Nat) (cr : Bool) : List Nat := ((List.range 4).foldl (fun s h => s ++ plRow w cr (1 + h)) [w.length]) ++ [w.length + 1]
section
variable {c : Fc} {f cd : Addr} {l : List Nat} {cr : Bool} {hp : Hp} {loc : Loc} {Q : V → St → Prop}
theorem ca_plain (F : Fn c.g "_law_plain" 12 f cd) (hr : 1 ≤ c.room) (h1 : nsIn c.g.K mainGlobals "len" = some none) (h2 : nsIn c.g.K mainGlobals "range" = some none) (hz : l.length ≤ 1000)
    (q : ∀ D, Q (.ref D) ⟨loc, (D, .list ((plainF l cr).map fun k : Nat => V.int k)) :: hp⟩) : CA c (.ref f) [.bytes l, .bool cr] [] [] ⟨loc, hp⟩ Q := by
  obtain ⟨_, oc, od, osl, doc, pm, an, ct, hK, hcd⟩ := F
  refine CA.wk ?_
  refine ca_def (ab := [("word", .bytes l), ("crossed", .bool cr)]) hK hcd (by omega) (bn_eq fun vs r => ?_) (fun L g A => ?_) (by kernel_rfl) (by kernel_rfl) (by kernel_rfl)
  · obtain ⟨v0, v1, rfl, r0, r1⟩ := all2_2 r
    exact ⟨[("word", v0), ("crossed", v1)], by kernel_rfl, .cons ⟨rfl, r0⟩ (.cons ⟨rfl, r1⟩ .nil)⟩
  show SN (FcX c.g A "_law_plain" (fdS PB 12) L f (.ref cd) (cellsFrom (L + 1) (fdS PB 12).names []) g c.s₀ (c.room - 1)) "word" (.bytes l) ⟨[], (L + 1 + 1, .cell none) :: (L + 1, .cell none) :: hp⟩ _
  refine' sn_cellU ?a1 ?a2 ?a3 ?_
  case a2 => rfl
  case a3 => walk_at "upd"
  case a1 => kernel_rfl
  refine bi_locals (fun y hy => ?_) fun A' _ => ?_
  · simp only [List.mem_cons, List.not_mem_nil, or_false] at hy
    rcases hy with rfl <;> kernel_rfl
  show EX (FcX c.g A' "_law_plain" (fdS PB 12) L f (.ref cd) (cellsFrom (L + 1) (fdS PB 12).names []) g c.s₀ (c.room - 1)) (fdB PB 12) ⟨[("crossed", .bool cr)], (L + 1 + 1, .cell none) :: (L + 1, .cell (some (.bytes l))) :: hp⟩ _
  conv => arg 2; whnf
  walk_at "ms"
  refine ⟨trivial, ca_bi (len_bytes' (by omega) ?_)⟩
  walk_at "ms"
  refine ⟨by show 1 ≤ 16777216; decide, fun O => ?_⟩
  walk_at "m"
  walk_at "for"
  walk_at "ms"
  refine ⟨trivial, ca_ty (ca_range2 fun R => it_range (n := 4) (by decide +kernel) (by decide +kernel) ?_)⟩
  refine FOR.foldE (fun (e : Option V) (s : List Nat) => ⟨[("order", .ref O), ("crossed", .bool cr)], (O, .list (s.map fun k : Nat => V.int k)) :: (L + 1 + 1, .cell e) :: (L + 1, .cell (some (.bytes l))) :: hp⟩) (fun s v => s ++ plRow l cr (vnat v)) [l.length] none (fun i s => s.length ≤ 1 + 1000 * i)
    ⟨by walk_at "loc", .refl _⟩ (by simp) (fun _ _ => trivial) ?_ ?_
  · intro i v e s hv hj
    obtain ⟨hi, rfl⟩ := rItems_get hv
    have e2 : vnat (V.int (1 + (i : Int) * 1)) = 1 + i := by show (1 + (i : Int) * 1).toNat = 1 + i; omega
    walk_at "ms"
    walk_at "scomp"
    walk_at "ms"
    refine ⟨trivial, ca_bi (len_bytes' (by omega) ?_)⟩
    walk_at "ms"
    refine ⟨trivial, ca_ty (ca_range1 fun R2 => it_range (n := l.length) (rangeN (by omega)) sizeN ?_)⟩
    refine COMPG.fm0 (fun v => if (l.getD (vnat v) 0 == 1 + i) then some (.int (vnat v)) else none) (by rw [rItems_length]; omega) (fun _ => rfl) trivial ?_ ?_
    · intro L2 g2 k v loc2 hv2
      obtain ⟨hk, rfl⟩ := rItems_get hv2
      have e4 : (0 + (k : Int) * 1).toNat = k := by omega
      have e5 : vnat (V.int (0 + (k : Int) * 1)) = k := e4
      have e6 : (0 + (k : Int) * 1) = (k : Int) := by omega
      walk_at "d"
      walk_at "ms"
      refine sb_bytesI (n := l.getD k 0) (fun _ _ _ e => by cases e) (by omega) (by rw [e4, List.getD_eq_getElem?_getD, List.getElem?_eq_getElem hk]; rfl) (by omega) ?_
      walk_at "ms"
      rw [e5]
      have eb : (((l.getD k 0 : Nat) : Int) == 1 + (i : Int) * 1) = (l.getD k 0 == 1 + i) := by
        rw [Bool.eq_iff_iff]; simp only [beq_iff_eq]; omega
      rw [eb]
      refine CN.by (fun e => ?_) (fun e => ?_)
      · walk_at "ms"
        rw [if_pos e, e6]
        exact ⟨rfl, .refl _⟩
      · rw [if_neg (by rw [e]; decide)]
        exact ⟨rfl, .refl _⟩
    · intro D
      have eI : (rItems 0 l.length 1).filterMap (fun v => if (l.getD (vnat v) 0 == 1 + i) then some (V.int (vnat v)) else none) = ((List.range l.length).filter fun k => l.getD k 0 == 1 + i).map fun k : Nat => V.int k := by
        refine rItems_fm _ _ _ _ fun k hk => ?_
        have e5 : vnat (V.int (0 + (k : Int) * 1)) = k := by show (0 + (k : Int) * 1).toNat = k; omega
        rw [e5]
      rw [eI]
      walk_at "d"
      have hlen := plRow_len l cr (1 + i)
      have hl2 : ((List.range l.length).filter fun k => l.getD k 0 == 1 + i).length ≤ 1000 := Nat.le_trans (List.length_filter_le _ _) (by simpa using hz)
      cases cr
      · walk_at "m"
        refine v_ifexp (eb_plain ?_ (by rfl))
        walk_at "ms"
        refine io_addL (ws := (plRow l false (1 + i)).map fun k : Nat => V.int k) (.there .here) .here (by simp only [List.length_map]; omega) ?_
        walk_at "m"
        refine tu_fe (some (.int (1 + (i : Int) * 1))) ⟨by walk_at "loc", ?_⟩ ?_
        · rw [e2, List.map_append]; exact .drop (.refl _)
        · rw [e2, List.length_append]; omega
      · walk_at "m"
        refine v_ifexp (eb_plain ?_ (by rfl))
        walk_at "ms"
        intro sl
        refine sb_listRev (by walk_at "rl") (by rw [List.length_map]; omega) fun D2 => ?_
        rw [← List.map_reverse]
        refine io_addL (ws := (plRow l true (1 + i)).map fun k : Nat => V.int k) (.there (.there .here)) .here (by simp only [List.length_map]; omega) ?_
        walk_at "m"
        refine tu_fe (some (.int (1 + (i : Int) * 1))) ⟨by walk_at "loc", ?_⟩ ?_
        · rw [e2, List.map_append]; exact .drop (.drop (.refl _))
        · rw [e2, List.length_append]; omega
  · intro e hj
    have e5 : ((rItems 1 4 1).foldl (fun s v => s ++ plRow l cr (vnat v)) [l.length]) = (List.range 4).foldl (fun s h => s ++ plRow l cr (1 + h)) [l.length] := by
      refine rItems_foldl _ _ _ _ _ (fun s j => ?_) _
      have e2 : vnat (V.int (1 + (j : Int) * 1)) = 1 + j := by show (1 + (j : Int) * 1).toNat = 1 + j; omega
      simp only [e2]
    rw [rItems_length] at hj
    rw [e5] at hj ⊢
    unfold plainF at q
    generalize (List.range 4).foldl (fun s h => s ++ plRow l cr (1 + h)) [l.length] = s at hj q ⊢
    walk_at "m"
    refine ⟨trivial, ca_bi (len_bytes' (by omega) ?_)⟩
    walk_at "ms"
    refine ⟨by show 1 ≤ 16777216; decide, fun O1 => ?_⟩
    walk_at "d"
    refine bo_addL (.there .here) .here (by simp only [List.length_map, List.length_cons, List.length_nil]; omega) fun SH => ?_
    walk_at "d"
    walk_at "m"
    refine ⟨⟨loc, (SH, .list ((s ++ [l.length + 1]).map fun k : Nat => V.int k)) :: hp⟩, ⟨.refl _, ?_⟩, q SH⟩
    rw [List.map_append]
    exact .keep (by walk_at "sub")
end

/-! ## _law_led, _law_line, _law_flipped -/
noncomputable def ledF (o : List Nat) (p s : Nat) : Nat := (List.range s).foldl (fun p _ => o.getD p 0) p
noncomputable def lineStep (w o : List Nat) (s : List Nat × Nat) : List Nat × Nat := (s.1 ++ [w.getD (o.getD s.2 0) 0], o.getD s.2 0)
noncomputable def lineF (w o : List Nat) (p : Nat) : List Nat := ((List.range w.length).foldl (fun s _ => lineStep w o s) ([], p)).1
noncomputable def flF (l : List Nat) : List Nat := (List.range l.length).map fun k => if k % 2 = 1 then 255 - l.getD k 0 else l.getD k 0
theorem rItems_foldlC {σ : Type} (g : σ → σ) (a : Int) (n : Nat) (d : Int) (s0 : σ) : (rItems a n d).foldl (fun s _ => g s) s0 = (List.range n).foldl (fun s _ => g s) s0 := rItems_foldl _ _ _ _ _ (fun _ _ => rfl) _
theorem gn {l : List Nat} {k : Nat} (h : k < l.length) : (l.map fun n : Nat => V.int n)[k]? = some (.int (l.getD k 0 : Nat)) := by
  rw [List.getElem?_map, List.getD_eq_getElem?_getD, List.getElem?_eq_getElem h]; rfl
theorem getD_lt {o : List Nat} {m p : Nat} (h : ∀ x ∈ o, x < m) (hp : p < o.length) : o.getD p 0 < m := by
  rw [List.getD_eq_getElem?_getD, List.getElem?_eq_getElem hp]; exact h _ (List.getElem_mem hp)
section
variable {c : Fc} {f cd O : Addr} {w o l : List Nat} {p n : Nat} {hp : Hp} {loc : Loc} {Q : V → St → Prop}
theorem ca_led (F : Fn c.g "_law_led" 14 f cd) (hr : 1 ≤ c.room) (h2 : nsIn c.g.K mainGlobals "range" = some none) (hO : RL hp O (o.map fun k : Nat => V.int k)) (ho : ∀ x ∈ o, x < o.length) (hoz : o.length ≤ 1000) (hpl : p < o.length) (hz : n ≤ 1000)
    (q : Q (.int (ledF o p n : Nat)) ⟨loc, hp⟩) : CA c (.ref f) [.ref O, .int p, .int n] [] [] ⟨loc, hp⟩ Q := by
  obtain ⟨_, oc, od, osl, doc, pm, an, ct, hK, hcd⟩ := F
  refine CA.wk ?_
  refine ca_def (ab := [("order", .ref O), ("place", .int p), ("steps", .int n)]) hK hcd (by omega) (bn_eq fun vs r => ?_) (fun L g A => bi_locals ?_ fun A' _ => ?_) (by kernel_rfl) (by kernel_rfl) (by kernel_rfl)
  · obtain ⟨v0, v1, v2, rfl, r0, r1, r2⟩ := all2_3 r
    exact ⟨[("order", v0), ("place", v1), ("steps", v2)], by kernel_rfl, .cons ⟨rfl, r0⟩ (.cons ⟨rfl, r1⟩ (.cons ⟨rfl, r2⟩ .nil))⟩
  · intro y hy
    simp only [List.mem_cons, List.not_mem_nil, or_false] at hy
    rcases hy with rfl | rfl | rfl <;> kernel_rfl
  show EX (FcX c.g A' "_law_led" (fdS PB 14) L f (.ref cd) [] g c.s₀ (c.room - 1)) (fdB PB 14) ⟨[("steps", .int n), ("place", .int p), ("order", .ref O)], hp⟩ _
  conv => arg 2; whnf
  refine x_cons ?_
  walk_at "for"
  walk_at "ms"
  refine ⟨trivial, ca_ty (ca_range1 fun R => it_range (n := n) (rangeN (by omega)) sizeN ?_)⟩
  refine FOR.fold (fun s : Nat => ⟨[("place", .int s), ("order", .ref O)], hp⟩) (fun s _ => o.getD s 0) p (fun _ s => s < o.length) ⟨by walk_at "loc", .refl _⟩ hpl (fun _ => trivial) ?_ ?_
  · intro i v s hv hj
    walk_at "ms"
    refine sb_listN (v := .int (o.getD s 0 : Nat)) hO (gn hj) (by omega) ?_
    walk_at "m"
    exact tu_f ⟨by walk_at "loc", .refl _⟩ (getD_lt ho hj)
  · intro _
    rw [rItems_foldlC]
    walk_at "m"
    exact ⟨⟨loc, hp⟩, ⟨.refl _, .refl _⟩, q⟩
theorem ca_line (F : Fn c.g "_law_line" 15 f cd) (hr : 1 ≤ c.room) (h1 : nsIn c.g.K mainGlobals "len" = some none) (h2 : nsIn c.g.K mainGlobals "range" = some none) (h3 : nsIn c.g.K mainGlobals "bytes" = some none) (hO : RL hp O (o.map fun k : Nat => V.int k)) (ho : ∀ x ∈ o, x < o.length) (hoz : o.length = w.length) (hw : ∀ x ∈ w, x < 256) (hpl : p < o.length) (hz : w.length ≤ 1000)
    (q : Q (.bytes (lineF w o p)) ⟨loc, hp⟩) : CA c (.ref f) [.bytes w, .ref O, .int p] [] [] ⟨loc, hp⟩ Q := by
  obtain ⟨_, oc, od, osl, doc, pm, an, ct, hK, hcd⟩ := F
  refine CA.wk ?_
  refine ca_def (ab := [("word", .bytes w), ("order", .ref O), ("place", .int p)]) hK hcd (by omega) (bn_eq fun vs r => ?_) (fun L g A => bi_locals ?_ fun A' _ => ?_) (by kernel_rfl) (by kernel_rfl) (by kernel_rfl)
  · obtain ⟨v0, v1, v2, rfl, r0, r1, r2⟩ := all2_3 r
    exact ⟨[("word", v0), ("order", v1), ("place", v2)], by kernel_rfl, .cons ⟨rfl, r0⟩ (.cons ⟨rfl, r1⟩ (.cons ⟨rfl, r2⟩ .nil))⟩
  · intro y hy
    simp only [List.mem_cons, List.not_mem_nil, or_false] at hy
    rcases hy with rfl | rfl | rfl <;> kernel_rfl
  show EX (FcX c.g A' "_law_line" (fdS PB 15) L f (.ref cd) [] g c.s₀ (c.room - 1)) (fdB PB 15) ⟨[("place", .int p), ("order", .ref O), ("word", .bytes w)], hp⟩ _
  conv => arg 2; whnf
  walk_at "ms"
  refine ⟨by decide, fun M => ?_⟩
  walk_at "m"
  walk_at "for"
  walk_at "ms"
  refine ⟨trivial, ca_bi (len_bytes' (by omega) ?_)⟩
  walk_at "ms"
  refine ⟨trivial, ca_ty (ca_range1 fun R => it_range (n := w.length) (rangeN (by omega)) sizeN ?_)⟩
  refine FOR.fold (fun s : List Nat × Nat => ⟨[("place", .int s.2), ("line", .ref M), ("order", .ref O), ("word", .bytes w)], (M, .list (s.1.map fun k : Nat => V.int k)) :: hp⟩) (fun s _ => lineStep w o s) ([], p) (fun i s => s.2 < o.length ∧ s.1.length = i ∧ ∀ x ∈ s.1, x < 256) ⟨by walk_at "loc", .refl _⟩ ⟨hpl, rfl, by simp⟩ (fun _ => trivial) ?_ ?_
  · rintro i v ⟨s, pp⟩ hv ⟨hj, hl, h256⟩
    obtain ⟨hi, rfl⟩ := rItems_get hv
    dsimp only at hj hl h256 ⊢
    walk_at "ms"
    refine sb_listN (v := .int (o.getD pp 0 : Nat)) (.there hO) (gn hj) (by omega) ?_
    walk_at "m"
    walk_at "app"
    walk_at "ms"
    refine ⟨M, s.map fun k : Nat => V.int k, rfl, .here, ?_⟩
    have hlt := getD_lt ho hj
    walk_at "ms"
    refine sb_bytesN (n := w.getD (o.getD pp 0) 0) (fun _ _ _ e => by cases e) (by rw [List.getD_eq_getElem?_getD (l := w), List.getElem?_eq_getElem (by omega)]; rfl) (by omega) ?_
    walk_at "ms"
    refine ⟨_, Upd.here, by simp; omega, ?_⟩
    walk_at "m"
    refine tu_f ⟨by walk_at "loc", ?_⟩ ⟨hlt, by simp [lineStep, hl], ?_⟩
    · simp only [lineStep, List.map_append]; exact .refl _
    · intro x hx
      rcases List.mem_append.mp hx with h | h
      · exact h256 _ h
      · rw [List.mem_singleton.mp h]; exact getD_lt (p := o.getD pp 0) hw (by omega)
  · intro hj
    rw [rItems_foldlC] at hj ⊢
    unfold lineF at q
    generalize (List.range w.length).foldl (fun s _ => lineStep w o s) ([], p) = s at hj q ⊢
    obtain ⟨_, hl, h256⟩ := hj
    rw [rItems_length] at hl
    walk_at "m"
    have es : (s.1.map fun k : Nat => V.int k) = (s.1.map fun k : Nat => (k : Int)).map V.int := by rw [List.map_map]; rfl
    rw [es]
    refine ⟨trivial, ca_ty (ca_bytesL (ns := s.1.map fun k : Nat => (k : Int)) .here ?_ (by simp; omega) ?_)⟩
    · intro n hn
      obtain ⟨k, hk, rfl⟩ := List.mem_map.mp hn
      have := h256 k hk
      omega
    · have e : (s.1.map fun k : Nat => (k : Int)).map Int.toNat = s.1 := by rw [List.map_map]; simp [Function.comp_def]
      rw [e]
      walk_at "ms"
      exact ⟨⟨loc, hp⟩, ⟨.refl _, by walk_at "sub"⟩, q⟩
theorem ca_flipped (F : Fn c.g "_law_flipped" 16 f cd) (hr : 1 ≤ c.room) (h1 : nsIn c.g.K mainGlobals "len" = some none) (h2 : nsIn c.g.K mainGlobals "range" = some none) (h3 : nsIn c.g.K mainGlobals "bytes" = some none) (hw : ∀ x ∈ l, x < 256) (hz : l.length ≤ 1000)
    (q : Q (.bytes (flF l)) ⟨loc, hp⟩) : CA c (.ref f) [.bytes l] [] [] ⟨loc, hp⟩ Q := by
  obtain ⟨_, oc, od, osl, doc, pm, an, ct, hK, hcd⟩ := F
  refine CA.wk ?_
  refine ca_def (ab := [("line", .bytes l)]) hK hcd hr (bn_eq fun vs r => ?_) (fun L g A => ?_) (by kernel_rfl) (by kernel_rfl) (by kernel_rfl)
  · obtain ⟨v0, rfl, r0⟩ := all2_1 r
    exact ⟨[("line", v0)], by kernel_rfl, .cons ⟨rfl, r0⟩ .nil⟩
  show SN (FcX c.g A "_law_flipped" (fdS PB 16) L f (.ref cd) (cellsFrom (L + 1) (fdS PB 16).names []) g c.s₀ (c.room - 1)) "line" (.bytes l) ⟨[], (L + 1, .cell none) :: hp⟩ _
  refine' sn_cellU ?a1 ?a2 ?a3 ?_
  case a2 => rfl
  case a3 => walk_at "upd"
  case a1 => kernel_rfl
  intro A' _
  show EX (FcX c.g A' "_law_flipped" (fdS PB 16) L f (.ref cd) (cellsFrom (L + 1) (fdS PB 16).names []) g c.s₀ (c.room - 1)) (fdB PB 16) ⟨[], (L + 1, .cell (some (.bytes l))) :: hp⟩ _
  conv => arg 2; whnf
  walk_at "ms"
  walk_at "comp"
  walk_at "ms"
  refine ⟨trivial, ca_bi (len_bytes' (by omega) ?_)⟩
  walk_at "ms"
  refine ⟨trivial, ca_ty (ca_range1 fun R => it_range (n := l.length) (rangeN (by omega)) sizeN ?_)⟩
  have hgl : ∀ k, k < l.length → l.getD k 0 < 256 := fun k hk => getD_lt hw hk
  refine COMPG.fm0 (fun v => some (.int (if vnat v % 2 = 1 then 255 - l.getD (vnat v) 0 else l.getD (vnat v) 0 : Nat))) (by rw [rItems_length]; omega) (fun _ => rfl) trivial ?_ ?_
  · intro L2 g2 k v loc2 hv2
    obtain ⟨hk, rfl⟩ := rItems_get hv2
    have e4 : (0 + (k : Int) * 1).toNat = k := by omega
    have e5 : vnat (V.int (0 + (k : Int) * 1)) = k := e4
    rw [e5]
    have hg := hgl k hk
    have hgk : l[(0 + (k : Int) * 1).toNat]? = some (l.getD k 0) := by rw [e4, List.getD_eq_getElem?_getD, List.getElem?_eq_getElem hk]; rfl
    walk_at "d"
    walk_at "ms"
    walk_at "ifv"
    walk_at "ms"
    refine bo_mod (by decide) ?_
    walk_at "ms"
    refine ⟨.int (if k % 2 = 1 then 255 - l.getD k 0 else l.getD k 0 : Nat), ?_, ⟨rfl, .refl _⟩⟩
    refine CN.by (fun e => ?_) (fun e => ?_)
    · have e : (0 + (k : Int) * 1).fmod 2 = 1 := by simpa using e
      have e7 : k % 2 = 1 := by rw [Int.fmod_eq_emod_of_nonneg _ (by decide)] at e; omega
      rw [if_pos e7]
      walk_at "ms"
      refine sb_bytesI (n := l.getD k 0) (fun _ _ _ e => by cases e) (by omega) hgk (by omega) ?_
      walk_at "ms"
      exact ⟨by congr 1; omega, rfl⟩
    · have e : ¬ (0 + (k : Int) * 1).fmod 2 = 1 := by simpa using e
      have e7 : ¬ k % 2 = 1 := by rw [Int.fmod_eq_emod_of_nonneg _ (by decide)] at e; omega
      rw [if_neg e7]
      walk_at "ms"
      exact sb_bytesI (n := l.getD k 0) (fun _ _ _ e => by cases e) (by omega) hgk (by omega) ⟨rfl, rfl⟩
  · intro D
    have eI : (rItems 0 l.length 1).filterMap (fun v => some (V.int (if vnat v % 2 = 1 then 255 - l.getD (vnat v) 0 else l.getD (vnat v) 0 : Nat))) = ((flF l).map fun k : Nat => (k : Int)).map V.int := by
      unfold rItems flF
      rw [List.filterMap_map, List.map_map, List.map_map, ← List.filterMap_eq_map]
      congr 1
      funext k
      have e5 : vnat (V.int (0 + (k : Int) * 1)) = k := by show (0 + (k : Int) * 1).toNat = k; omega
      simp only [Function.comp_apply, e5]
    rw [eI]
    walk_at "ms"
    refine ⟨trivial, ca_ty (ca_bytesL (ns := (flF l).map fun k : Nat => (k : Int)) .here ?_ (by simp [flF]; omega) ?_)⟩
    · intro n hn
      obtain ⟨x, hx, rfl⟩ := List.mem_map.mp hn
      unfold flF at hx
      obtain ⟨k, hk, rfl⟩ := List.mem_map.mp hx
      have := hgl k (List.mem_range.mp hk)
      split <;> omega
    · have e : ((flF l).map fun k : Nat => (k : Int)).map Int.toNat = flF l := by rw [List.map_map]; simp [Function.comp_def]
      rw [e]
      walk_at "ms"
      exact ⟨⟨loc, hp⟩, ⟨.refl _, by walk_at "sub"⟩, q⟩
end

/-! ## _law_asked -/
noncomputable def Kf (cr : Bool) (l : List Nat) : List Nat := if cr then flF l else l
noncomputable def tabF (w o : List Nat) : List (List Nat) := (List.range w.length).map (lineF w o)
noncomputable def lowF (w o : List Nat) (cr : Bool) (p : Nat) : Nat := bsr (fun i => blt (Kf cr ((tabF w o).getD i [])) (Kf cr (lineF w o p))) 0 w.length
noncomputable def highF (w o : List Nat) (cr : Bool) (p : Nat) : Nat := bsr (fun i => !blt (Kf cr (lineF w o p)) (Kf cr ((tabF w o).getD i []))) 0 w.length
noncomputable def onceF (w o : List Nat) (p rg : Nat) : List Nat := (lineF w o p).take rg
noncomputable def mirF (w o : List Nat) : List (List Nat) := (List.range w.length).map fun p => lineF w o (w.length - 1 - ledF o p w.length)
noncomputable def risF (w : List Nat) : List Nat := (List.range' 1 (w.length - 1)).filter fun k => decide (w.getD (k - 1) 0 < w.getD k 0)
structure AskOk (w o : List Nat) (cr : Bool) : Prop where
  n2 : 2 ≤ w.length
  n7 : w.length ≤ 16
  w256 : ∀ x ∈ w, x < 256
  ol : o.length = w.length
  operm : o.Perm (List.range w.length)
  srt : ∀ p, 0 < p → p < w.length → blt (Kf cr (lineF w o p)) (Kf cr (lineF w o (p - 1))) = false
  blk : ∀ p, p < w.length → ((List.range w.length).filter fun k => lineF w o k == lineF w o p) = List.range' (lowF w o cr p) (highF w o cr p - lowF w o cr p)
  ring : ∀ p, p < w.length → ∃ rg tl rt tl2, ((List.range' 1 w.length).filter fun k => ledF o p k == p) = rg :: tl ∧ ((List.range' 1 rg).filter fun k => (List.replicate (rg / k) ((onceF w o p rg).take k)).flatten == onceF w o p rg) = rt :: tl2 ∧
    ((ledF o p rt : Nat) : Int) = if (cr && rt % 2 == 1) = true then ((lowF w o cr p : Nat) : Int) + (highF w o cr p : Nat) - 1 - p else p
  mir : (bswF (tabF w o).flatten w.length w.length == (mirF w o).flatten) = (risF w == [])
  last : bsr (fun i => blt (Kf cr ((tabF w o).getD i [])) [9]) 0 w.length = w.length
theorem lineF_len (w o : List Nat) (p : Nat) : (lineF w o p).length = w.length := by
  unfold lineF
  have : ∀ (l : List Nat) (s : List Nat × Nat), (l.foldl (fun s _ => lineStep w o s) s).1.length = s.1.length + l.length := by
    intro l
    induction l with
    | nil => intro s; rfl
    | cons a l ih => intro s; rw [List.foldl_cons, ih]; simp [lineStep]; omega
  rw [this]; simp
theorem lineF_lt {w o : List Nat} {m : Nat} (h0 : 0 < m) (hw : ∀ x ∈ w, x < m) (p : Nat) : ∀ x ∈ lineF w o p, x < m := by
  unfold lineF
  have : ∀ (l : List Nat) (s : List Nat × Nat), (∀ x ∈ s.1, x < m) → ∀ x ∈ (l.foldl (fun s _ => lineStep w o s) s).1, x < m := by
    intro l
    induction l with
    | nil => intro s h; exact h
    | cons a l ih =>
      intro s h
      rw [List.foldl_cons]
      refine ih _ fun x hx => ?_
      rcases List.mem_append.mp hx with hx | hx
      · exact h x hx
      · rw [List.mem_singleton.mp hx, List.getD_eq_getElem?_getD]
        cases q : w[o.getD s.2 0]? with
        | none => exact h0
        | some y => exact hw y (List.mem_of_getElem? q)
  exact this _ _ (by simp)
theorem flF_len (l : List Nat) : (flF l).length = l.length := by simp [flF]
theorem Kf_len (cr : Bool) (l : List Nat) : (Kf cr l).length = l.length := by cases cr <;> simp [Kf, flF_len]
theorem ledF_lt {o : List Nat} (ho : ∀ x ∈ o, x < o.length) (s : Nat) : ∀ {p : Nat}, p < o.length → ledF o p s < o.length := by
  unfold ledF
  generalize List.range s = l
  induction l with
  | nil => intro p h; exact h
  | cons a l ih => intro p h; rw [List.foldl_cons]; exact ih (getD_lt ho h)
theorem perm_sorted_range {o : List Nat} {n : Nat} {ns : List Int} (h : o.Perm (List.range n)) (hp : ns.Perm (o.map fun k : Nat => (k : Int))) (hs : ns.Pairwise (· ≤ ·)) : ns = (List.range n).map fun k : Nat => (k : Int) := by
  refine (hp.trans (h.map _)).eq_of_pairwise (le := (· ≤ ·)) (fun a b _ _ h1 h2 => Int.le_antisymm h1 h2) hs ?_
  rw [List.pairwise_map]
  exact (List.pairwise_lt_range (n := n)).imp fun h => by omega
theorem rItems_fmA (a n : Nat) (p : Nat → Bool) (h : Nat → V) (gf : V → Option V) (hg : ∀ k : Nat, a ≤ k → k < a + n → gf (.int ((k : Nat) : Int)) = if p k then some (h k) else none) : (rItems a n 1).filterMap gf = ((List.range' a n).filter p).map h := by
  have e : rItems a n 1 = (List.range' a n).map fun k : Nat => V.int k := by
    unfold rItems
    rw [List.range'_eq_map_range, List.map_map]
    refine List.map_congr_left fun k _ => ?_
    show V.int _ = V.int _
    congr 1; simp
  rw [e, List.filterMap_map]
  have : ∀ l : List Nat, (∀ k ∈ l, a ≤ k ∧ k < a + n) → l.filterMap (gf ∘ fun i : Nat => V.int (i : Int)) = (l.filter p).map h := by
    intro l
    induction l with
    | nil => intro _; rfl
    | cons b l ih =>
      intro hl
      have h1 := hg b (hl b (.head _)).1 (hl b (.head _)).2
      have h2 := ih fun k hk => hl k (.tail _ hk)
      rw [List.filterMap_cons]
      rw [Function.comp_apply, h1, h2, List.filter_cons]
      cases p b <;> simp
  exact this _ fun k hk => by have := List.mem_range'_1.mp hk; omega
theorem rItemsA_get {a n i : Nat} {v : V} (h : (rItems a n 1)[i]? = some v) : ∃ k : Nat, a ≤ k ∧ k < a + n ∧ v = .int ((k : Nat) : Int) := by
  obtain ⟨hi, rfl⟩ := rItems_get h
  exact ⟨a + i, by omega, by omega, by congr 1; simp⟩
noncomputable abbrev FcK (G : Gl) (A : Around) (L f : Addr) (cdv : Value) (g : Heap) (s₀ : Shared) (r : Nat) : Fc := FcX G A "_law_asked" (fdS PB 17) L f cdv (cellsFrom (L + 1) (fdS PB 17).names []) g s₀ r
section
variable {c : Fc} {fk ck fl : Addr} {w o : List Nat} {cr : Bool} {p n : Nat} {hp : Hp} {loc : Loc} {Q : V → St → Prop} {T : Addr} {tb : List (List Nat)} {x : List Nat}
noncomputable def kV (cr : Bool) (fk : Addr) : V := if cr then .ref fk else .none
theorem fl_key (F : Fn c.g "_law_flipped" 16 fk ck) (h1 : nsIn c.g.K mainGlobals "len" = some none) (h2 : nsIn c.g.K mainGlobals "range" = some none) (h3 : nsIn c.g.K mainGlobals "bytes" = some none) (h256 : ∀ l ∈ tb, ∀ x ∈ l, x < 256) (hz : ∀ l ∈ tb, l.length ≤ 1000) : KeyOk c.g 1 fk (tb.map V.bytes) (tb.map fun l => V.bytes (flF l)) hp := fun c' hg hr loc i v Qc hv hq => by
  rw [List.getElem?_map] at hv
  obtain ⟨l, hl, rfl⟩ := Option.map_eq_some_iff.mp hv
  have F' : Fn c'.g "_law_flipped" 16 fk ck := by rw [hg]; exact F
  refine ⟨F'.keeper, ca_flipped F' hr (by rw [hg]; exact h1) (by rw [hg]; exact h2) (by rw [hg]; exact h3) (h256 l (List.mem_of_getElem? hl)) (hz l (List.mem_of_getElem? hl)) (hq _ ?_)⟩
  rw [List.getElem?_map, hl]; rfl
theorem ca_lowK (F : FnB c.g "bisect_left" 4 fl) (FF : Fn c.g "_law_flipped" 16 fk ck) (hr : 2 ≤ c.room) (h1 : nsIn c.g.K mainGlobals "len" = some none) (h2 : nsIn c.g.K mainGlobals "range" = some none) (h3 : nsIn c.g.K mainGlobals "bytes" = some none)
    (hT : RL hp T (tb.map V.bytes)) (h256 : ∀ l ∈ tb, ∀ x ∈ l, x < 256) (hz : ∀ l ∈ tb, l.length ≤ 1000) (htz : tb.length ≤ 1000) (q : Q (.int (bsr (fun i => blt (Kf cr (tb.getD i [])) x) 0 tb.length : Nat)) ⟨loc, hp⟩) : CA c (.ref fl) [.ref T, .bytes x] ["key"] [kV cr fk] ⟨loc, hp⟩ Q := by
  have hg : ∀ (k : List Nat → List Nat) (i : Nat) (v : V), (tb.map fun l => V.bytes (k l))[i]? = some v → v = .bytes (k (tb.getD i [])) := fun k i v hv => by
    rw [List.getElem?_map] at hv
    obtain ⟨l, hl, rfl⟩ := Option.map_eq_some_iff.mp hv
    rw [List.getD_eq_getElem?_getD, hl]; rfl
  cases cr with
  | false =>
    refine ca_bisL0 (vs := tb.map V.bytes) (lo := 0) (hi := tb.length) (p := fun i => blt (Kf false (tb.getD i [])) x) F h1 (by omega) (fun _ _ _ _ _ _ _ _ h => bn21 (by decide) h) hT (by simp; omega) (by omega) (by simp) (.inr ⟨rfl, by simp⟩) ?_ q
    intro c2 hg2 loc' i v Qc hv hq
    obtain rfl := hg id i v hv
    exact co_ltBytes hq
  | true =>
    refine ca_bisL1 (m := 1) (vs := tb.map V.bytes) (ws := tb.map fun l => V.bytes (flF l)) (lo := 0) (hi := tb.length) (p := fun i => blt (Kf true (tb.getD i [])) x) F h1 (by omega) (fun _ _ _ _ _ _ _ _ h => bn21 (by decide) h) hT (by simp; omega) (by omega) (by simp) (.inr ⟨rfl, by simp⟩) (fl_key FF h1 h2 h3 h256 hz) (by simp) (by omega) ?_ q
    intro c2 hg2 loc' i v Qc hv hq
    obtain rfl := hg flF i v hv
    exact co_ltBytes hq
theorem ca_highK (F : FnB c.g "bisect_right" 2 fl) (FF : Fn c.g "_law_flipped" 16 fk ck) (hr : 2 ≤ c.room) (h1 : nsIn c.g.K mainGlobals "len" = some none) (h2 : nsIn c.g.K mainGlobals "range" = some none) (h3 : nsIn c.g.K mainGlobals "bytes" = some none)
    (hT : RL hp T (tb.map V.bytes)) (h256 : ∀ l ∈ tb, ∀ x ∈ l, x < 256) (hz : ∀ l ∈ tb, l.length ≤ 1000) (htz : tb.length ≤ 1000) (q : Q (.int (bsr (fun i => !blt x (Kf cr (tb.getD i []))) 0 tb.length : Nat)) ⟨loc, hp⟩) : CA c (.ref fl) [.ref T, .bytes x] ["key"] [kV cr fk] ⟨loc, hp⟩ Q := by
  have hg : ∀ (k : List Nat → List Nat) (i : Nat) (v : V), (tb.map fun l => V.bytes (k l))[i]? = some v → v = .bytes (k (tb.getD i [])) := fun k i v hv => by
    rw [List.getElem?_map] at hv
    obtain ⟨l, hl, rfl⟩ := Option.map_eq_some_iff.mp hv
    rw [List.getD_eq_getElem?_getD, hl]; rfl
  cases cr with
  | false =>
    refine ca_bisR0 (vs := tb.map V.bytes) (lo := 0) (hi := tb.length) (p := fun i => !blt x (Kf false (tb.getD i []))) F h1 (by omega) (fun _ _ _ _ _ _ _ _ h => bn21 (by decide) h) hT (by simp; omega) (by omega) (by simp) (.inr ⟨rfl, by simp⟩) ?_ q
    intro c2 hg2 loc' i v Qc hv hq
    obtain rfl := hg id i v hv
    refine co_ltBytes ?_
    rw [Bool.not_not] at hq
    exact hq
  | true =>
    refine ca_bisR1 (m := 1) (vs := tb.map V.bytes) (ws := tb.map fun l => V.bytes (flF l)) (lo := 0) (hi := tb.length) (p := fun i => !blt x (Kf true (tb.getD i []))) F h1 (by omega) (fun _ _ _ _ _ _ _ _ h => bn21 (by decide) h) hT (by simp; omega) (by omega) (by simp) (.inr ⟨rfl, by simp⟩) (fl_key FF h1 h2 h3 h256 hz) (by simp) (by omega) ?_ q
    intro c2 hg2 loc' i v Qc hv hq
    obtain rfl := hg flF i v hv
    refine co_ltBytes ?_
    rw [Bool.not_not] at hq
    exact hq
end

/-! ## _law_asked: one turn -/
theorem slc_take {α : Type} {l : List α} {b : Nat} (hb : b ≤ l.length) : slc l none (some (b : Int)) = l.take b := by
  have h1 : kms_lo none l.length = 0 := rfl
  have h2 : kms_hi (some (b : Int)) l.length = b := by show (if (b : Int) < 0 then l.length - (-(b : Int)).toNat else min (b : Int).toNat l.length) = b; rw [if_neg (by omega)]; omega
  unfold slc
  rw [h1, h2]; rfl
theorem co_neNats {c : Fc} {st : St} {Q : V → St → Prop} {a b : Addr} {ns ms : List Nat} (ha : RL st.hp a (ns.map fun k : Nat => V.int k)) (hb : RL st.hp b (ms.map fun k : Nat => V.int k)) (q : Q (.bool !(decide (ns = ms))) st) : CO c .NotEq (.ref a) (.ref b) st Q := by
  have e : ∀ l : List Nat, (l.map fun k : Nat => V.int k) = (l.map fun k : Nat => (k : Int)).map V.int := fun l => by rw [List.map_map]; rfl
  rw [e] at ha hb
  refine co_neInts ha hb ?_
  have e2 : decide ((ns.map fun k : Nat => (k : Int)) = ms.map fun k : Nat => (k : Int)) = decide (ns = ms) := by
    rw [decide_eq_decide]
    exact ⟨fun h => (List.map_inj_right fun a b h => by omega).mp h, fun h => by rw [h]⟩
  rw [e2]; exact q
theorem co_eqNats {c : Fc} {st : St} {Q : V → St → Prop} {a b : Addr} {ns ms : List Nat} (ha : RL st.hp a (ns.map fun k : Nat => V.int k)) (hb : RL st.hp b (ms.map fun k : Nat => V.int k)) (q : Q (.bool (decide (ns = ms))) st) : CO c .Eq (.ref a) (.ref b) st Q := by
  have e : ∀ l : List Nat, (l.map fun k : Nat => V.int k) = (l.map fun k : Nat => (k : Int)).map V.int := fun l => by rw [List.map_map]; rfl
  rw [e] at ha hb
  refine co_eqInts ha hb ?_
  have e2 : decide ((ns.map fun k : Nat => (k : Int)) = ms.map fun k : Nat => (k : Int)) = decide (ns = ms) := by
    rw [decide_eq_decide]
    exact ⟨fun h => (List.map_inj_right fun a b h => by omega).mp h, fun h => by rw [h]⟩
  rw [e2]; exact q
theorem rItems_nats (a n : Nat) : rItems a n 1 = (List.range' a n).map fun k : Nat => V.int k := by
  unfold rItems
  rw [List.range'_eq_map_range, List.map_map]
  refine List.map_congr_left fun k _ => ?_
  show V.int _ = V.int _
  congr 1; simp
theorem sizeAB {a b : Nat} : Builtin.Range.rangeSize (a : Int) (b : Int) 1 = (b - a : Nat) := by rw [size_step1]; omega
theorem rangeAB {a b : Nat} (h : a ≤ 16777216) (h' : b ≤ 16777216) : Builtin.Range.small (a : Int) (b : Int) 1 = true := small_of (by omega) (by omega) (by omega) (by omega) (by decide) (by decide)
noncomputable def askBody : List Stmt := match (fdB PB 17)[5]? with
  | some (Stmt.For _ _ b _ _) => b
  | _ => []
theorem gtb {tb : List (List Nat)} {k : Nat} (h : k < tb.length) : (tb.map V.bytes)[k]? = some (.bytes (tb.getD k [])) := by
  rw [List.getElem?_map, List.getD_eq_getElem?_getD, List.getElem?_eq_getElem h]; rfl
theorem tabF_len (w o : List Nat) : (tabF w o).length = w.length := by simp [tabF]
theorem tabF_get {w o : List Nat} {k : Nat} (h : k < w.length) : (tabF w o).getD k [] = lineF w o k := by
  rw [List.getD_eq_getElem?_getD, List.getElem?_eq_getElem (by rw [tabF_len]; exact h)]
  simp [tabF]
section
variable {G : Gl} {A : Around} {L f : Addr} {cdv : Value} {g : Heap} {s₀ : Shared} {r : Nat} {fk ck fl fr fe ce T RK O : Addr} {w o : List Nat} {cr : Bool} {p : Nat} {hp : Hp} {Q : AFlow → St → Prop} {e7 e8 : Option V} {J : Prop}
theorem ask_turn (FF : Fn G "_law_flipped" 16 fk ck) (FE : Fn G "_law_led" 14 fe ce) (BL : FnB G "bisect_left" 4 fl) (BR : FnB G "bisect_right" 2 fr) (hr : 3 ≤ r) (h1 : nsIn G.K mainGlobals "len" = some none) (h2 : nsIn G.K mainGlobals "range" = some none) (h3 : nsIn G.K mainGlobals "bytes" = some none) (h4 : nsIn G.K mainGlobals "list" = some none)
    (hO : RL hp O (o.map fun k : Nat => V.int k)) (ok : AskOk w o cr) (hpl : p < w.length) (hJ : J) :
    EX (FcK G A L f cdv g s₀ r) askBody ⟨[("ranks", .ref RK), ("kind", kV cr fk)], (RK, .list (((tabF w o).map (Kf cr)).map V.bytes)) :: (T, .list ((tabF w o).map V.bytes)) :: (L + 1 + 1 + 1 + 1 + 1 + 1 + 1 + 1, .cell e8) :: (L + 1 + 1 + 1 + 1 + 1 + 1 + 1, .cell e7) :: (L + 1 + 1 + 1 + 1 + 1 + 1, .cell (some (.ref T))) :: (L + 1 + 1 + 1 + 1 + 1, .cell (some (.int p))) :: (L + 1 + 1 + 1 + 1, .cell (some (.int w.length))) :: (L + 1 + 1 + 1, .cell (some (.bool cr))) :: (L + 1 + 1, .cell (some (.ref O))) :: (L + 1, .cell (some (.bytes w))) :: hp⟩
      (TU (fun _ st => J ∧ ∃ e : Option V × Option V × Option V, st = ⟨[("ranks", .ref RK), ("kind", kV cr fk)], (RK, .list (((tabF w o).map (Kf cr)).map V.bytes)) :: (T, .list ((tabF w o).map V.bytes)) :: (L + 1 + 1 + 1 + 1 + 1 + 1 + 1 + 1, .cell e.2.2) :: (L + 1 + 1 + 1 + 1 + 1 + 1 + 1, .cell e.2.1) :: (L + 1 + 1 + 1 + 1 + 1 + 1, .cell (some (.ref T))) :: (L + 1 + 1 + 1 + 1 + 1, .cell e.1) :: (L + 1 + 1 + 1 + 1, .cell (some (.int w.length))) :: (L + 1 + 1 + 1, .cell (some (.bool cr))) :: (L + 1 + 1, .cell (some (.ref O))) :: (L + 1, .cell (some (.bytes w))) :: hp⟩) 0 Q) := by
  have hn2 := ok.n2
  have hn7 := ok.n7
  have hol := ok.ol
  have htl := tabF_len w o
  have hoin : ∀ x ∈ o, x < o.length := fun x hx => by rw [hol]; exact List.mem_range.mp (ok.operm.mem_iff.mp hx)
  have hrk : ∀ k, k < w.length → (((tabF w o).map (Kf cr)).map V.bytes)[k]? = some (.bytes (Kf cr (lineF w o k))) := fun k hk => by
    rw [List.getElem?_map, List.getElem?_map, List.getElem?_eq_getElem (by omega), ← tabF_get (o := o) hk, List.getD_eq_getElem?_getD, List.getElem?_eq_getElem (by omega)]; rfl
  have htb : ∀ k, k < w.length → ((tabF w o).map V.bytes)[k]? = some (.bytes (lineF w o k)) := fun k hk => by rw [gtb (by omega), tabF_get hk]
  have h256 : ∀ l ∈ tabF w o, ∀ x ∈ l, x < 256 := fun l hl => by
    obtain ⟨k, _, rfl⟩ := List.mem_map.mp hl
    exact lineF_lt (by decide) ok.w256 k
  have hll : ∀ l ∈ tabF w o, l.length ≤ 1000 := fun l hl => by
    obtain ⟨k, _, rfl⟩ := List.mem_map.mp hl
    rw [lineF_len]; omega
  have d1 := FF.1; have d2 := FE.1; have d3 := BL.1; have d4 := BR.1
  conv => arg 2; whnf
  refine x_cons (s_if (TR.mono (Q := fun k st1 => k = false ∧ st1 = ⟨[("ranks", .ref RK), ("kind", kV cr fk)], (RK, .list (((tabF w o).map (Kf cr)).map V.bytes)) :: (T, .list ((tabF w o).map V.bytes)) :: (L + 1 + 1 + 1 + 1 + 1 + 1 + 1 + 1, .cell e8) :: (L + 1 + 1 + 1 + 1 + 1 + 1 + 1, .cell e7) :: (L + 1 + 1 + 1 + 1 + 1 + 1, .cell (some (.ref T))) :: (L + 1 + 1 + 1 + 1 + 1, .cell (some (.int p))) :: (L + 1 + 1 + 1 + 1, .cell (some (.int w.length))) :: (L + 1 + 1 + 1, .cell (some (.bool cr))) :: (L + 1 + 1, .cell (some (.ref O))) :: (L + 1, .cell (some (.bytes w))) :: hp⟩) (show EB _ _ _ _ from ?_) ?_))
  · walk_at "ms"
    refine CN.by (fun e => ?_) (fun e => ?_)
    · have e0 : 0 < p := by have := of_decide_eq_true e; omega
      walk_at "ms"
      refine sb_listN (v := .bytes (Kf cr (lineF w o p))) (by walk_at "rl") (hrk p hpl) (by omega) ?_
      walk_at "ms"
      refine sb_listI (v := .bytes (Kf cr (lineF w o (p - 1)))) (by walk_at "rl") (by omega) (by rw [show ((p : Int) - 1).toNat = p - 1 by omega]; exact hrk (p - 1) (by omega)) (by omega) ?_
      walk_at "ms"
      refine co_ltBytes ?_
      walk_at "ms"
      exact ⟨ok.srt p e0 hpl, rfl⟩
    · exact ⟨rfl, rfl⟩
  rintro k st1 ⟨rfl, rfl⟩
  refine CN.f rfl ?_
  walk_at "m"
  refine sb_listN (v := .bytes (Kf cr (lineF w o p))) (by walk_at "rl") (hrk p hpl) (by omega) ?_
  walk_at "ms"
  refine ⟨BL.keeper, ca_lowK (c := FcK G A L f cdv g s₀ r) (tb := tabF w o) (cr := cr) BL FF (by show 2 ≤ r; omega) h1 h2 h3 (by walk_at "rl") h256 hll (by omega) ?_⟩
  rw [htl]
  walk_at "m"
  refine sb_listN (v := .bytes (Kf cr (lineF w o p))) (by walk_at "rl") (hrk p hpl) (by omega) ?_
  walk_at "ms"
  refine ⟨BR.keeper, ca_highK (c := FcK G A L f cdv g s₀ r) (tb := tabF w o) (cr := cr) BR FF (by show 2 ≤ r; omega) h1 h2 h3 (by walk_at "rl") h256 hll (by omega) ?_⟩
  rw [htl]
  have hlow : lowF w o cr p ≤ w.length := bsr_le (Nat.zero_le _)
  have hhigh : highF w o cr p ≤ w.length := bsr_le (Nat.zero_le _)
  have hblk := ok.blk p hpl
  obtain ⟨rg, tl, rt, tl2, hring, hroot, hled⟩ := ok.ring p hpl
  have eL : bsr (fun i => blt (Kf cr ((tabF w o).getD i [])) (Kf cr (lineF w o p))) 0 w.length = lowF w o cr p := rfl
  have eH : bsr (fun i => !blt (Kf cr (lineF w o p)) (Kf cr ((tabF w o).getD i []))) 0 w.length = highF w o cr p := rfl
  rw [eL, eH]
  generalize lowF w o cr p = low at *
  generalize highF w o cr p = high at *
  walk_at "m"
  walk_at "comp"
  walk_at "ms"
  refine ⟨trivial, ca_ty (ca_range1 fun R2 => it_range (n := w.length) (rangeN (by omega)) sizeN ?_)⟩
  refine COMPG.fm0 (fun v => if (lineF w o (vnat v) == lineF w o p) then some (.int (vnat v)) else none) (by rw [rItems_length]; omega) (fun _ => rfl) trivial ?_ ?_
  · intro L2 g2 k v loc2 hv2
    obtain ⟨hk, rfl⟩ := rItems_get hv2
    have e4 : (0 + (k : Int) * 1).toNat = k := by omega
    have e5 : vnat (V.int (0 + (k : Int) * 1)) = k := e4
    have e6 : (0 + (k : Int) * 1) = (k : Int) := by omega
    rw [e5, e6]
    walk_at "d"
    walk_at "ms"
    refine sb_listN (v := .bytes (lineF w o k)) (by walk_at "rl") (htb k hk) (by omega) ?_
    walk_at "ms"
    refine sb_listN (v := .bytes (lineF w o p)) (by walk_at "rl") (htb p hpl) (by omega) ?_
    walk_at "ms"
    refine co_eqBytes ?_
    walk_at "ms"
    refine CN.by (fun e => ?_) (fun e => ?_)
    · walk_at "ms"
      rw [if_pos e]
      exact ⟨rfl, .refl _⟩
    · rw [if_neg (by rw [e]; decide)]
      exact ⟨rfl, .refl _⟩
  intro D
  have eI : (rItems 0 w.length 1).filterMap (fun v => if (lineF w o (vnat v) == lineF w o p) then some (V.int (vnat v)) else none) = ((List.range w.length).filter fun k => lineF w o k == lineF w o p).map fun k : Nat => V.int k := by
    refine rItems_fm _ _ _ _ fun k hk => ?_
    have e5 : vnat (V.int (0 + (k : Int) * 1)) = k := by show (0 + (k : Int) * 1).toNat = k; omega
    rw [e5]
  rw [eI, hblk]
  walk_at "d"
  walk_at "ms"
  refine ⟨trivial, ca_ty (ca_range2 fun R3 => ?_)⟩
  walk_at "ms"
  refine ⟨trivial, ca_ty (ca_listRange (n := high - low) (rangeAB (by omega) (by omega)) sizeAB (by omega) fun D2 => ?_)⟩
  rw [rItems_nats]
  refine co_neNats (by walk_at "rl") .here ?_
  rw [decide_eq_true rfl]
  walk_at "ms"
  refine CN.f rfl ?_
  walk_at "m"
  refine TR.preWK (st' := ⟨[("high", .int high), ("low", .int low), ("ranks", .ref RK), ("kind", kV cr fk)], (RK, .list (((tabF w o).map (Kf cr)).map V.bytes)) :: (T, .list ((tabF w o).map V.bytes)) :: (L + 1 + 1 + 1 + 1 + 1 + 1 + 1 + 1, .cell e8) :: (L + 1 + 1 + 1 + 1 + 1 + 1 + 1, .cell e7) :: (L + 1 + 1 + 1 + 1 + 1 + 1, .cell (some (.ref T))) :: (L + 1 + 1 + 1 + 1 + 1, .cell (some (.int p))) :: (L + 1 + 1 + 1 + 1, .cell (some (.int w.length))) :: (L + 1 + 1 + 1, .cell (some (.bool cr))) :: (L + 1 + 1, .cell (some (.ref O))) :: (L + 1, .cell (some (.bytes w))) :: hp⟩) ⟨by walk_at "loc", by walk_at "sub"⟩ ?_
  walk_at "m"
  walk_at "comp"
  walk_at "ms"
  refine ⟨trivial, ca_ty (ca_range2 fun R4 => it_range (n := w.length) (rangeAB (a := 1) (b := w.length + 1) (by decide) (by omega)) (by rw [size_step1]; omega) ?_)⟩
  refine COMPG.fm0 (fun v => if (ledF o p (vnat v) == p) then some (.int (vnat v)) else none) (by rw [rItems_length]; omega) (fun _ => rfl) trivial ?_ ?_
  · intro L2 g2 k v loc2 hv2
    obtain ⟨k, hk1, hk2, rfl⟩ := rItemsA_get (a := 1) hv2
    have e5 : vnat (V.int (k : Int)) = k := Int.toNat_natCast k
    rw [e5]
    walk_at "d"
    walk_at "ms"
    refine ⟨FE.keeper, ca_led (o := o) (p := p) (n := k) FE (by show 1 ≤ r; omega) h2 (by walk_at "rl") hoin (by omega) (by omega) (by omega) ?_⟩
    walk_at "ms"
    have eb : (((ledF o p k : Nat) : Int) == (p : Int)) = (ledF o p k == p) := by rw [Bool.eq_iff_iff]; simp only [beq_iff_eq]; omega
    rw [eb]
    refine CN.by (fun e => ?_) (fun e => ?_)
    · walk_at "ms"
      rw [if_pos e]
      exact ⟨rfl, .refl _⟩
    · rw [if_neg (by rw [e]; decide)]
      exact ⟨rfl, .refl _⟩
  intro D
  have eI : (rItems 1 w.length 1).filterMap (fun v => if (ledF o p (vnat v) == p) then some (V.int (vnat v)) else none) = ((List.range' 1 w.length).filter fun k => ledF o p k == p).map fun k : Nat => V.int k := by
    refine rItems_fmA 1 _ _ _ _ fun k hk _ => ?_
    have e5 : vnat (V.int (k : Int)) = k := Int.toNat_natCast k
    rw [e5]
  rw [eI]
  have hrg : rg ∈ (List.range' 1 w.length).filter fun k => ledF o p k == p := by rw [hring]; exact .head _
  have hrg2 := List.mem_range'_1.mp ((List.mem_filter.mp hrg).1)
  rw [hring]
  walk_at "d"
  walk_at "ms"
  refine sb_listI (v := .int rg) .here (by decide) (by rw [List.map_cons]; rfl) (by decide) ?_
  walk_at "m"
  refine sb_listN (v := .bytes (lineF w o p)) (by walk_at "rl") (htb p hpl) (by omega) ?_
  walk_at "ms"
  intro sl
  have hlen := lineF_len w o p
  refine sb_bytesS .none (.int _) (by omega) ?_
  rw [slc_take (by omega)]
  walk_at "m"
  have hon : (onceF w o p rg).length = rg := by unfold onceF; rw [List.length_take]; omega
  have eO : (lineF w o p).take rg = onceF w o p rg := rfl
  rw [eO]
  generalize onceF w o p rg = once at hon hroot ⊢
  walk_at "comp"
  walk_at "ms"
  refine ⟨trivial, ca_ty (ca_range2 fun R5 => it_range (n := rg) (rangeAB (a := 1) (b := rg + 1) (by decide) (by omega)) (by rw [size_step1]; omega) ?_)⟩
  refine COMPG.fm0 (fun v => if ((List.replicate (rg / vnat v) (once.take (vnat v))).flatten == once) then some (.int (vnat v)) else none) (by rw [rItems_length]; omega) (fun _ => rfl) trivial ?_ ?_
  · intro L2 g2 k v loc2 hv2
    obtain ⟨k, hk1, hk2, rfl⟩ := rItemsA_get (a := 1) hv2
    have e5 : vnat (V.int (k : Int)) = k := Int.toNat_natCast k
    rw [e5]
    walk_at "d"
    walk_at "ms"
    intro sl2
    refine sb_bytesS .none (.int _) (by omega) ?_
    rw [slc_take (by omega)]
    walk_at "ms"
    refine bo_fdiv (by omega) (noPylong (by omega)) ?_
    rw [show Int.fdiv (rg : Int) (k : Int) = ((rg / k : Nat) : Int) by rw [Int.fdiv_eq_ediv_of_nonneg _ (by omega)]; rfl]
    refine bo_mulB (fun e => by have := congrArg List.length e; rw [List.length_take, List.length_nil] at this; omega) (by rw [List.length_take]; omega) (Nat.le_trans (Nat.div_le_self _ _) (by omega)) ?_
    walk_at "ms"
    refine co_eqBytes ?_
    walk_at "ms"
    refine CN.by (fun e => ?_) (fun e => ?_)
    · walk_at "ms"
      rw [if_pos e]
      exact ⟨rfl, .refl _⟩
    · rw [if_neg (by rw [e]; decide)]
      exact ⟨rfl, .refl _⟩
  intro D3
  have eI2 : (rItems 1 rg 1).filterMap (fun v => if ((List.replicate (rg / vnat v) (once.take (vnat v))).flatten == once) then some (V.int (vnat v)) else none) = ((List.range' 1 rg).filter fun k => (List.replicate (rg / k) (once.take k)).flatten == once).map fun k : Nat => V.int k := by
    refine rItems_fmA 1 _ _ _ _ fun k hk _ => ?_
    have e5 : vnat (V.int (k : Int)) = k := Int.toNat_natCast k
    rw [e5]
  rw [eI2]
  have hrt : rt ∈ (List.range' 1 rg).filter fun k => (List.replicate (rg / k) (once.take k)).flatten == once := by rw [hroot]; exact .head _
  have hrt2 := List.mem_range'_1.mp ((List.mem_filter.mp hrt).1)
  rw [hroot]
  walk_at "d"
  walk_at "ms"
  refine sb_listI (v := .int rt) .here (by decide) (by rw [List.map_cons]; rfl) (by decide) ?_
  walk_at "m"
  refine TR.preWK (st' := ⟨[("root", .int rt), ("high", .int high), ("low", .int low), ("ranks", .ref RK), ("kind", kV cr fk)], (RK, .list (((tabF w o).map (Kf cr)).map V.bytes)) :: (T, .list ((tabF w o).map V.bytes)) :: (L + 1 + 1 + 1 + 1 + 1 + 1 + 1 + 1, .cell (some (.bytes once))) :: (L + 1 + 1 + 1 + 1 + 1 + 1 + 1, .cell (some (.int rg))) :: (L + 1 + 1 + 1 + 1 + 1 + 1, .cell (some (.ref T))) :: (L + 1 + 1 + 1 + 1 + 1, .cell (some (.int p))) :: (L + 1 + 1 + 1 + 1, .cell (some (.int w.length))) :: (L + 1 + 1 + 1, .cell (some (.bool cr))) :: (L + 1 + 1, .cell (some (.ref O))) :: (L + 1, .cell (some (.bytes w))) :: hp⟩) ⟨by walk_at "loc", by walk_at "sub"⟩ ?_
  refine v_ifexpV (TR.mono (Q := fun k st1 => k = (cr && rt % 2 == 1) ∧ st1 = ⟨[("root", .int rt), ("high", .int high), ("low", .int low), ("ranks", .ref RK), ("kind", kV cr fk)], (RK, .list (((tabF w o).map (Kf cr)).map V.bytes)) :: (T, .list ((tabF w o).map V.bytes)) :: (L + 1 + 1 + 1 + 1 + 1 + 1 + 1 + 1, .cell (some (.bytes once))) :: (L + 1 + 1 + 1 + 1 + 1 + 1 + 1, .cell (some (.int rg))) :: (L + 1 + 1 + 1 + 1 + 1 + 1, .cell (some (.ref T))) :: (L + 1 + 1 + 1 + 1 + 1, .cell (some (.int p))) :: (L + 1 + 1 + 1 + 1, .cell (some (.int w.length))) :: (L + 1 + 1 + 1, .cell (some (.bool cr))) :: (L + 1 + 1, .cell (some (.ref O))) :: (L + 1, .cell (some (.bytes w))) :: hp⟩) (show EB _ _ _ _ from ?_) ?_)
  · have er : ((rt : Int).fmod 2 == 1) = (rt % 2 == 1) := by
      rw [Bool.eq_iff_iff]; simp only [beq_iff_eq]
      rw [Int.fmod_eq_emod_of_nonneg _ (by decide)]; omega
    walk_at "ms"
    refine eb_plain ?_ (by rfl)
    walk_at "ms"
    refine CN.by (fun e => ?_) (fun e => ?_)
    · walk_at "ms"
      refine bo_mod (by decide) ?_
      walk_at "ms"
      rw [er, e]
      exact ⟨rfl, rfl⟩
    · rw [e]
      exact ⟨rfl, rfl⟩
  rintro k st1 ⟨rfl, rfl⟩
  refine ⟨.int (ledF o p rt : Nat), ?_, ?_⟩
  · rw [hled]
    refine CN.by (fun e => ?_) (fun e => ?_)
    · rw [if_pos e]
      walk_at "ms"
      exact ⟨rfl, rfl⟩
    · rw [if_neg (by rw [e]; decide)]
      walk_at "ms"
      exact ⟨rfl, rfl⟩
  walk_at "m"
  refine ⟨FE.keeper, ca_led (o := o) (p := p) (n := rt) FE (by show 1 ≤ r; omega) h2 (by walk_at "rl") hoin (by omega) (by omega) (by omega) ?_⟩
  walk_at "ms"
  refine CN.f (by simp) ?_
  walk_at "m"
  exact tu_fe (some (.int p), some (.int rg), some (.bytes once)) ⟨by walk_at "loc", .refl _⟩ hJ
end

/-! ## _law_asked -/
theorem flat_len (w o : List Nat) : (tabF w o).flatten.length = w.length * w.length := by
  rw [List.length_flatten]
  have : (tabF w o).map List.length = List.replicate w.length w.length := by
    unfold tabF
    rw [List.map_map]
    refine List.eq_replicate_iff.mpr ⟨by simp, fun b hb => ?_⟩
    obtain ⟨k, _, rfl⟩ := List.mem_map.mp hb
    exact lineF_len w o k
  rw [this, List.sum_replicate_nat]
section
variable {c : Fc} {f cd fn cn fk ck fl fr fe ce fs cs O : Addr} {w o : List Nat} {cr : Bool} {hp : Hp} {loc : Loc} {Q : V → St → Prop}
theorem ca_asked (F : Fn c.g "_law_asked" 17 f cd) (FN : Fn c.g "_law_line" 15 fn cn) (FF : Fn c.g "_law_flipped" 16 fk ck) (FE : Fn c.g "_law_led" 14 fe ce) (FS : Fn c.g "_byteswap" 6 fs cs) (BL : FnB c.g "bisect_left" 4 fl) (BR : FnB c.g "bisect_right" 2 fr) (hr : 4 ≤ c.room) (h1 : nsIn c.g.K mainGlobals "len" = some none) (h2 : nsIn c.g.K mainGlobals "range" = some none) (h3 : nsIn c.g.K mainGlobals "bytes" = some none) (h4 : nsIn c.g.K mainGlobals "list" = some none)
    (h5 : nsIn c.g.K mainGlobals "sorted" = some none) (h6 : nsIn c.g.K mainGlobals "bytearray" = some none) (h7 : nsIn c.g.K mainGlobals "isinstance" = some none) (hO : RL hp O (o.map fun k : Nat => V.int k)) (ok : AskOk w o cr) (q : Q (.bool true) ⟨loc, hp⟩) : CA c (.ref f) [.bytes w, .ref O, .bool cr] [] [] ⟨loc, hp⟩ Q := by
  have hn2 := ok.n2
  have hn7 := ok.n7
  have hol := ok.ol
  have htl := tabF_len w o
  have hoin : ∀ x ∈ o, x < o.length := fun x hx => by rw [hol]; exact List.mem_range.mp (ok.operm.mem_iff.mp hx)
  have htb : ∀ k, k < w.length → ((tabF w o).map V.bytes)[k]? = some (.bytes (lineF w o k)) := fun k hk => by rw [gtb (by omega), tabF_get hk]
  have h256 : ∀ l ∈ tabF w o, ∀ x ∈ l, x < 256 := fun l hl => by
    obtain ⟨k, _, rfl⟩ := List.mem_map.mp hl
    exact lineF_lt (by decide) ok.w256 k
  have hll : ∀ l ∈ tabF w o, l.length ≤ 1000 := fun l hl => by
    obtain ⟨k, _, rfl⟩ := List.mem_map.mp hl
    rw [lineF_len]; omega
  have d1 := FF.1; have d2 := FE.1; have d3 := BL.1; have d4 := BR.1; have d5 := FN.1; have d6 := FS.1
  obtain ⟨_, oc, od, osl, doc, pm, an, ct, hK, hcd⟩ := F
  refine CA.wk ?_
  refine ca_def (ab := [("word", .bytes w), ("order", .ref O), ("crossed", .bool cr)]) hK hcd (by omega) (bn_eq fun vs r => ?_) (fun L g A => ?_) (by kernel_rfl) (by kernel_rfl) (by kernel_rfl)
  · obtain ⟨v0, v1, v2, rfl, r0, r1, r2⟩ := all2_3 r
    exact ⟨[("word", v0), ("order", v1), ("crossed", v2)], by kernel_rfl, .cons ⟨rfl, r0⟩ (.cons ⟨rfl, r1⟩ (.cons ⟨rfl, r2⟩ .nil))⟩
  show SN (FcK c.g A L f (.ref cd) g c.s₀ (c.room - 1)) "word" (.bytes w) ⟨[], (L + 1 + 1 + 1 + 1 + 1 + 1 + 1 + 1, .cell none) :: (L + 1 + 1 + 1 + 1 + 1 + 1 + 1, .cell none) :: (L + 1 + 1 + 1 + 1 + 1 + 1, .cell none) :: (L + 1 + 1 + 1 + 1 + 1, .cell none) :: (L + 1 + 1 + 1 + 1, .cell none) :: (L + 1 + 1 + 1, .cell none) :: (L + 1 + 1, .cell none) :: (L + 1, .cell none) :: hp⟩ _
  refine' sn_cellU ?a1 ?a2 ?a3 ?_
  case a2 => rfl
  case a3 => walk_at "upd"
  case a1 => kernel_rfl
  show SN (FcK c.g A L f (.ref cd) g c.s₀ (c.room - 1)) "order" (.ref O) ⟨[], (L + 1 + 1 + 1 + 1 + 1 + 1 + 1 + 1, .cell none) :: (L + 1 + 1 + 1 + 1 + 1 + 1 + 1, .cell none) :: (L + 1 + 1 + 1 + 1 + 1 + 1, .cell none) :: (L + 1 + 1 + 1 + 1 + 1, .cell none) :: (L + 1 + 1 + 1 + 1, .cell none) :: (L + 1 + 1 + 1, .cell none) :: (L + 1 + 1, .cell none) :: (L + 1, .cell (some (.bytes w))) :: hp⟩ _
  refine' sn_cellU ?a1 ?a2 ?a3 ?_
  case a2 => rfl
  case a3 => walk_at "upd"
  case a1 => kernel_rfl
  show SN (FcK c.g A L f (.ref cd) g c.s₀ (c.room - 1)) "crossed" (.bool cr) ⟨[], (L + 1 + 1 + 1 + 1 + 1 + 1 + 1 + 1, .cell none) :: (L + 1 + 1 + 1 + 1 + 1 + 1 + 1, .cell none) :: (L + 1 + 1 + 1 + 1 + 1 + 1, .cell none) :: (L + 1 + 1 + 1 + 1 + 1, .cell none) :: (L + 1 + 1 + 1 + 1, .cell none) :: (L + 1 + 1 + 1, .cell none) :: (L + 1 + 1, .cell (some (.ref O))) :: (L + 1, .cell (some (.bytes w))) :: hp⟩ _
  refine' sn_cellU ?a1 ?a2 ?a3 ?_
  case a2 => rfl
  case a3 => walk_at "upd"
  case a1 => kernel_rfl
  intro A' _
  show EX (FcK c.g A' L f (.ref cd) g c.s₀ (c.room - 1)) (fdB PB 17) ⟨[], (L + 1 + 1 + 1 + 1 + 1 + 1 + 1 + 1, .cell none) :: (L + 1 + 1 + 1 + 1 + 1 + 1 + 1, .cell none) :: (L + 1 + 1 + 1 + 1 + 1 + 1, .cell none) :: (L + 1 + 1 + 1 + 1 + 1, .cell none) :: (L + 1 + 1 + 1 + 1, .cell none) :: (L + 1 + 1 + 1, .cell (some (.bool cr))) :: (L + 1 + 1, .cell (some (.ref O))) :: (L + 1, .cell (some (.bytes w))) :: hp⟩ _
  conv => arg 2; whnf
  walk_at "ms"
  refine ⟨trivial, ca_bi (len_bytes' (by omega) ?_)⟩
  walk_at "m"
  have eo : (o.map fun k : Nat => V.int k) = (o.map fun k : Nat => (k : Int)).map V.int := by rw [List.map_map]; rfl
  refine ⟨trivial, ca_bi (ca_sortedL (ns := o.map fun k : Nat => (k : Int)) (eo ▸ by walk_at "rl") (by simp; omega) fun D1 ns hp1 hp2 => ?_)⟩
  obtain rfl := perm_sorted_range ok.operm hp1 hp2
  walk_at "ms"
  refine ⟨trivial, ca_ty (ca_range1 fun R1 => ?_)⟩
  walk_at "ms"
  refine ⟨trivial, ca_ty (ca_listRange (n := w.length) (rangeN (by omega)) sizeN (by omega) fun D2 => ?_)⟩
  have er : rItems 0 w.length 1 = (List.range w.length).map fun k : Nat => V.int k := by
    have := rItems_nats 0 w.length
    rw [← List.range_eq_range'] at this
    exact this
  rw [er]
  have er2 : ((List.range w.length).map fun k : Nat => (k : Int)).map V.int = (List.range w.length).map fun k : Nat => V.int k := by rw [List.map_map]; rfl
  rw [er2]
  refine co_neNats (by walk_at "rl") .here ?_
  rw [decide_eq_true rfl]
  walk_at "ms"
  refine CN.f rfl ?_
  walk_at "m"
  refine TR.preWK (st' := ⟨[], (L + 1 + 1 + 1 + 1 + 1 + 1 + 1 + 1, .cell none) :: (L + 1 + 1 + 1 + 1 + 1 + 1 + 1, .cell none) :: (L + 1 + 1 + 1 + 1 + 1 + 1, .cell none) :: (L + 1 + 1 + 1 + 1 + 1, .cell none) :: (L + 1 + 1 + 1 + 1, .cell (some (.int w.length))) :: (L + 1 + 1 + 1, .cell (some (.bool cr))) :: (L + 1 + 1, .cell (some (.ref O))) :: (L + 1, .cell (some (.bytes w))) :: hp⟩) ⟨by walk_at "loc", by walk_at "sub"⟩ ?_
  walk_at "comp"
  walk_at "ms"
  refine ⟨trivial, ca_ty (ca_range1 fun R2 => it_range (n := w.length) (rangeN (by omega)) sizeN ?_)⟩
  refine COMPG.fm0 (fun v => some (.bytes (lineF w o (vnat v)))) (by rw [rItems_length]; omega) (fun _ => rfl) trivial ?_ ?_
  · intro L2 g2 k v loc2 hv2
    obtain ⟨hk, rfl⟩ := rItems_get hv2
    have e5 : vnat (V.int (0 + (k : Int) * 1)) = k := by show (0 + (k : Int) * 1).toNat = k; omega
    have e6 : (0 + (k : Int) * 1) = (k : Int) := by omega
    rw [e5, e6]
    walk_at "d"
    walk_at "ms"
    exact ⟨FN.keeper, ca_line (w := w) (o := o) (p := k) FN (by show 1 ≤ c.room - 1; omega) h1 h2 h3 (by walk_at "rl") hoin hol ok.w256 (by omega) (by omega) ⟨rfl, .refl _⟩⟩
  intro T
  have eT : (rItems 0 w.length 1).filterMap (fun v => some (V.bytes (lineF w o (vnat v)))) = (tabF w o).map V.bytes := by
    rw [er, List.filterMap_map, tabF, List.map_map, ← List.filterMap_eq_map]
    congr 1
  rw [eT]
  walk_at "d"
  walk_at "m"
  refine v_ifexpV (eb_plain ?_ (by rfl))
  walk_at "ms"
  refine ⟨kV cr fk, ?_, ?_⟩
  · cases cr
    · refine CN.f rfl ?_
      walk_at "ms"
      exact ⟨rfl, rfl⟩
    · refine CN.t rfl ?_
      walk_at "ms"
      exact ⟨rfl, rfl⟩
  walk_at "m"
  walk_at "scomp"
  walk_at "ms"
  refine it_list (vs := (tabF w o).map V.bytes) (by walk_at "rl") ?_
  refine COMPG.fm0 (fun v => match v with | .bytes b => some (.bytes (Kf cr b)) | _ => none) (by simp; omega) (fun _ => rfl) (by walk_at "rl") ?_ ?_
  · intro L2 g2 k v loc2 hv2
    rw [List.getElem?_map] at hv2
    obtain ⟨b, hb, rfl⟩ := Option.map_eq_some_iff.mp hv2
    have hbm := List.mem_of_getElem? hb
    walk_at "d"
    walk_at "ms"
    walk_at "ifv"
    refine eb_plain ?_ (by rfl)
    walk_at "ms"
    refine ⟨.bytes (Kf cr b), ?_, ⟨rfl, .refl _⟩⟩
    cases cr
    · refine CN.f rfl ?_
      walk_at "ms"
      exact ⟨rfl, rfl⟩
    · refine CN.t rfl ?_
      walk_at "ms"
      exact ⟨FF.keeper, ca_flipped (l := b) FF (by show 1 ≤ c.room - 1; omega) h1 h2 h3 (h256 b hbm) (hll b hbm) ⟨rfl, rfl⟩⟩
  intro RK
  have eR : ((tabF w o).map V.bytes).filterMap (fun v => match v with | .bytes b => some (V.bytes (Kf cr b)) | _ => none) = ((tabF w o).map (Kf cr)).map V.bytes := by
    rw [List.filterMap_map, List.map_map, ← List.filterMap_eq_map]
    rfl
  rw [eR]
  walk_at "d"
  walk_at "m"
  walk_at "for"
  walk_at "ms"
  refine ⟨trivial, ca_ty (ca_range1 fun R3 => it_range (n := w.length) (rangeN (by omega)) sizeN ?_)⟩
  refine FOR.foldE (σ := Unit) (ε := Option V × Option V × Option V) (fun e _ => ⟨[("ranks", .ref RK), ("kind", kV cr fk)], (RK, .list (((tabF w o).map (Kf cr)).map V.bytes)) :: (T, .list ((tabF w o).map V.bytes)) :: (L + 1 + 1 + 1 + 1 + 1 + 1 + 1 + 1, .cell e.2.2) :: (L + 1 + 1 + 1 + 1 + 1 + 1 + 1, .cell e.2.1) :: (L + 1 + 1 + 1 + 1 + 1 + 1, .cell (some (.ref T))) :: (L + 1 + 1 + 1 + 1 + 1, .cell e.1) :: (L + 1 + 1 + 1 + 1, .cell (some (.int w.length))) :: (L + 1 + 1 + 1, .cell (some (.bool cr))) :: (L + 1 + 1, .cell (some (.ref O))) :: (L + 1, .cell (some (.bytes w))) :: hp⟩) (fun s _ => s) () (none, none, none) (fun _ _ => True) ⟨by walk_at "loc", by walk_at "sub"⟩ trivial (fun _ _ => trivial) ?_ ?_
  · intro i v e s hv _
    obtain ⟨hi, rfl⟩ := rItems_get hv
    have e6 : (0 + (i : Int) * 1) = (i : Int) := by omega
    rw [e6]
    refine' sn_cellU ?a1 ?a2 ?a3 ?_
    case a2 => rfl
    case a3 => walk_at "upd"
    case a1 => kernel_rfl
    exact ask_turn (G := c.g) (A := A') (L := L) (f := f) (cdv := .ref cd) (g := g) (s₀ := c.s₀) (r := c.room - 1) (e7 := e.2.1) (e8 := e.2.2) FF FE BL BR (by omega) h1 h2 h3 h4 hO ok hi trivial
  rintro ⟨e5, e7, e8⟩ _
  dsimp only
  walk_at "m"
  refine ev_methB (id := "bytes.join") ?_ slot_join type_join rfl rfl (by decide) rfl
  refine ev_cbytes ?_
  refine ⟨[], rfl, ?_⟩
  walk_at "ms"
  refine m_joinB (bs := tabF w o) (by walk_at "rl") (by omega) ?_ ?_
  · rw [← List.length_flatten, flat_len]
    exact Nat.le_trans (Nat.mul_le_mul hn7 hn7) (by decide)
  walk_at "ms"
  have hfl := flat_len w o
  have hsq : w.length * w.length ≤ 16 * 16 := Nat.mul_le_mul hn7 hn7
  refine ⟨FS.keeper, ca_swap (l := (tabF w o).flatten) (w := w.length) (nb := w.length) FS (by show 0 < c.room - 1; omega) h1 h2 h6 h3 (by omega) (by omega) hfl (by omega) (fun x hx => ?_) ?_⟩
  · obtain ⟨l, hl, hx⟩ := List.mem_flatten.mp hx
    exact h256 l hl x hx
  walk_at "m"
  refine ev_methB (id := "bytes.join") ?_ slot_join type_join rfl rfl (by decide) rfl
  refine ev_cbytes ?_
  refine ⟨[], rfl, ?_⟩
  walk_at "ms"
  walk_at "comp"
  walk_at "ms"
  refine ⟨trivial, ca_ty (ca_range1 fun R4 => it_range (n := w.length) (rangeN (by omega)) sizeN ?_)⟩
  refine COMPG.fm0 (fun v => some (.bytes (lineF w o (w.length - 1 - ledF o (vnat v) w.length)))) (by rw [rItems_length]; omega) (fun _ => rfl) trivial ?_ ?_
  · intro L2 g2 k v loc2 hv2
    obtain ⟨hk, rfl⟩ := rItems_get hv2
    have e5 : vnat (V.int (0 + (k : Int) * 1)) = k := by show (0 + (k : Int) * 1).toNat = k; omega
    have e6 : (0 + (k : Int) * 1) = (k : Int) := by omega
    rw [e5, e6]
    walk_at "d"
    walk_at "ms"
    refine ⟨FE.keeper, ca_led (o := o) (p := k) (n := w.length) FE (by show 1 ≤ c.room - 1; omega) h2 (by walk_at "rl") hoin (by omega) (by omega) (by omega) ?_⟩
    walk_at "ms"
    have hlt := ledF_lt hoin w.length (p := k) (by omega)
    exact sb_listI (v := .bytes (lineF w o (w.length - 1 - ledF o k w.length))) (by walk_at "rl") (by omega) (by rw [show ((w.length : Int) - 1 - (ledF o k w.length : Nat)).toNat = w.length - 1 - ledF o k w.length by omega]; exact htb _ (by omega)) (by omega) ⟨rfl, .refl _⟩
  intro M
  have eM : (rItems 0 w.length 1).filterMap (fun v => some (V.bytes (lineF w o (w.length - 1 - ledF o (vnat v) w.length)))) = (mirF w o).map V.bytes := by
    rw [er, List.filterMap_map, mirF, List.map_map, ← List.filterMap_eq_map]
    congr 1
  rw [eM]
  walk_at "d"
  walk_at "ms"
  refine m_joinB (bs := mirF w o) .here (by simp [mirF]; omega) ?_ ?_
  · have : (mirF w o).map List.length = List.replicate w.length w.length := by
      unfold mirF
      rw [List.map_map]
      refine List.eq_replicate_iff.mpr ⟨by simp, fun b hb => ?_⟩
      obtain ⟨k, _, rfl⟩ := List.mem_map.mp hb
      exact lineF_len w o _
    rw [this, List.sum_replicate_nat]
    omega
  walk_at "m"
  walk_at "scomp"
  walk_at "ms"
  refine ⟨trivial, ca_ty (ca_range2 fun R5 => it_range (n := w.length - 1) (rangeAB (a := 1) (b := w.length) (by decide) (by omega)) (sizeAB (a := 1) (b := w.length)) ?_)⟩
  refine COMPG.fm0 (fun v => if decide (w.getD (vnat v - 1) 0 < w.getD (vnat v) 0) then some (.int (vnat v)) else none) (by rw [rItems_length]; omega) (fun _ => rfl) trivial ?_ ?_
  · intro L2 g2 k v loc2 hv2
    obtain ⟨k, hk1, hk2, rfl⟩ := rItemsA_get (a := 1) hv2
    have e5 : vnat (V.int (k : Int)) = k := Int.toNat_natCast k
    rw [e5]
    walk_at "d"
    walk_at "ms"
    refine sb_bytesI (n := w.getD (k - 1) 0) (fun _ _ _ e => by cases e) (by omega) (by rw [show ((k : Int) - 1).toNat = k - 1 by omega, List.getD_eq_getElem?_getD, List.getElem?_eq_getElem (by omega)]; rfl) (by omega) ?_
    walk_at "ms"
    refine sb_bytesN (n := w.getD k 0) (fun _ _ _ e => by cases e) (by rw [List.getD_eq_getElem?_getD, List.getElem?_eq_getElem (by omega)]; rfl) (by omega) ?_
    walk_at "ms"
    have eb : decide (((w.getD (k - 1) 0 : Nat) : Int) < ((w.getD k 0 : Nat) : Int)) = decide (w.getD (k - 1) 0 < w.getD k 0) := by
      rw [decide_eq_decide]; omega
    rw [eb]
    refine CN.by (fun e => ?_) (fun e => ?_)
    · walk_at "ms"
      rw [if_pos e]
      exact ⟨rfl, .refl _⟩
    · rw [if_neg (by rw [e]; decide)]
      exact ⟨rfl, .refl _⟩
  intro D3
  have eI : (rItems 1 (w.length - 1) 1).filterMap (fun v => if decide (w.getD (vnat v - 1) 0 < w.getD (vnat v) 0) then some (V.int (vnat v)) else none) = (risF w).map fun k : Nat => V.int k := by
    refine rItems_fmA 1 _ _ _ _ fun k hk _ => ?_
    have e5 : vnat (V.int (k : Int)) = k := Int.toNat_natCast k
    rw [e5]
  rw [eI]
  walk_at "d"
  walk_at "m"
  refine v_and3 ?_
  walk_at "ms"
  refine ⟨trivial, ca_bi (ca_isBytes ?_)⟩
  walk_at "ms"
  refine v_and2 ?_
  walk_at "ms"
  refine co_eqBytes ?_
  walk_at "ms"
  refine ⟨by decide, fun D4 => ?_⟩
  refine co_eqNats (ms := []) (by walk_at "rl") .here ?_
  walk_at "ms"
  refine co_eqBool ?_
  rw [ok.mir]
  have e8 : ((risF w == []) == decide (risF w = [])) = true := by
    cases h : risF w <;> simp
  rw [e8]
  walk_at "ms"
  refine ⟨by decide, fun D5 => ?_⟩
  walk_at "ms"
  refine ⟨trivial, ca_ty (ca_bytesL (ns := [9]) .here (by decide) (by decide) ?_)⟩
  walk_at "ms"
  refine ⟨BL.keeper, ca_lowK (c := FcK c.g A' L f (.ref cd) g c.s₀ (c.room - 1)) (tb := tabF w o) (cr := cr) (x := [9]) BL FF (by show 2 ≤ c.room - 1; omega) h1 h2 h3 (by walk_at "rl") h256 hll (by omega) ?_⟩
  rw [htl, ok.last]
  walk_at "m"
  have e9 : ((w.length : Int) == w.length) = true := by simp
  rw [e9]
  exact ⟨⟨loc, hp⟩, ⟨.refl _, by walk_at "sub"⟩, q⟩
end

/-! ## law -/
structure Fns (G : Gl) where
  finr : Addr
  fbr : Addr
  finl : Addr
  fbl : Addr
  fw : Addr
  fnu : Addr
  fla : Addr
  fst : Addr
  fcr : Addr
  fpl : Addr
  fbo : Addr
  fle : Addr
  fli : Addr
  ffl : Addr
  fas : Addr
  cw : Addr
  cnu : Addr
  cla : Addr
  cst : Addr
  ccr : Addr
  cpl : Addr
  cbo : Addr
  cle : Addr
  cli : Addr
  cfl : Addr
  cas : Addr
  INR : FnB G "insort_right" 1 finr
  BR : FnB G "bisect_right" 2 fbr
  INL : FnB G "insort_left" 3 finl
  BL : FnB G "bisect_left" 4 fbl
  W : Fn G "_byteswap" 6 fw cw
  NU : Fn G "_law_numbers" 8 fnu cnu
  LA : Fn G "_law_laid" 9 fla cla
  ST : Fn G "_law_straight" 10 fst cst
  CR : Fn G "_law_crossed" 11 fcr ccr
  PL : Fn G "_law_plain" 12 fpl cpl
  BO : Fn G "_law_bounds" 13 fbo cbo
  LE : Fn G "_law_led" 14 fle cle
  LI : Fn G "_law_line" 15 fli cli
  FL : Fn G "_law_flipped" 16 ffl cfl
  AS : Fn G "_law_asked" 17 fas cas
  blen : nsIn G.K mainGlobals "len" = some none
  brange : nsIn G.K mainGlobals "range" = some none
  bbytes : nsIn G.K mainGlobals "bytes" = some none
  bba : nsIn G.K mainGlobals "bytearray" = some none
  bis : nsIn G.K mainGlobals "isinstance" = some none
  blist : nsIn G.K mainGlobals "list" = some none
  bso : nsIn G.K mainGlobals "sorted" = some none
  bve : nsIn G.K mainGlobals "ValueError" = some none
noncomputable def midF {α : Type} (l : List α) : List α := slc l (some 1) (some (-1))
noncomputable def letF (nm : List Int) : List Nat := (slc nm (some 1) (some (3 + (nm.getD 0 0).fmod 6))).map fun n => (1 + n.fmod 4).toNat
noncomputable def laidRows (l : List Nat) : List (List Int) := [[9]] ++ ((midF (plainF l false)).map fun k => [((l.getD k 0 : Nat) : Int), (k : Int)]) ++ [[0]]
noncomputable def fallF (l : List Nat) : List Nat := bswF ((laidRows l).map fun r => (r.getD 0 0).toNat) (laidRows l).length 1
noncomputable def wdF (l : List Nat) (b : Bool) : List Nat := if b then midF (fallF l) else l
structure Law2 (l : List Nat) (b : Bool) : Prop where
  n2 : 2 ≤ l.length
  n7 : l.length ≤ 16
  l256 : ∀ x ∈ l, x < 256
  laid : ((laidI (l.map fun n : Nat => (n : Int)) l.length).map fun k => bareD (l.map fun n : Nat => (n : Int)) l.length 9 0 k) = laidRows l
  pl : (plainF l false).length = l.length + 2 ∧ ∀ k ∈ midF (plainF l false), k < l.length
  wl : (wdF l b).length = l.length ∧ ∀ x ∈ wdF l b, x < 256
  asS : AskOk (wdF l b) (midF (ordS (wdF l b))) false
  asC : AskOk (wdF l b) (midF (ordC (wdF l b))) true
  cnt : ((midF (ordS (bswF (wdF l b) (wdF l b).length 1))).map fun k => ((wdF l b).length : Int) - 1 - (k : Nat)) = (midF (ordC (wdF l b))).map fun k : Nat => (k : Int)
  fal : ∀ ns : List Int, ns.Perm (l.map fun n : Nat => (n : Int)) → ns.Pairwise (· ≤ ·) → ((fallF l).map fun n : Nat => (n : Int)) = [0] ++ ns.reverse ++ [9]
  eS : ordS (wdF l b) = plainF (wdF l b) false
  eC : ordC (wdF l b) = plainF (wdF l b) true
  fl : (fallF l).length ≤ 40
  ol : (ordS (wdF l b)).length ≤ 20 ∧ (ordC (wdF l b)).length ≤ 20 ∧ (ordS (bswF (wdF l b) (wdF l b).length 1)).length ≤ 20
theorem rds_len : ∀ {hp : Hp} {vs : List V} {ds : List PyData}, RDs hp vs ds → vs.length = ds.length := by
  intro hp vs
  induction vs with
  | nil => intro ds h; cases h; rfl
  | cons v vs ih => intro ds h; cases h with | cons _ h => simp [ih h]
theorem rds_ints {hp : Hp} : ∀ {vs : List V} {ns : List Int}, RDs hp vs (ns.map PyData.int) → vs = ns.map V.int := by
  intro vs
  induction vs with
  | nil => intro ns h; cases ns with | nil => rfl | cons _ _ => cases h
  | cons v vs ih =>
    intro ns h
    cases ns with
    | nil => cases h
    | cons n ns =>
      cases h with
      | cons r h =>
        cases r
        rw [ih h]; rfl
theorem rds_row {hp : Hp} : ∀ {LD : List (List Int)} {vs : List V}, RDs hp vs (LD.map dInts) → ∀ (k : Nat) (v : V), vs[k]? = some v → ∃ a, v = .ref a ∧ RL hp a ((LD.getD k []).map V.int) := by
  intro LD
  induction LD with
  | nil => intro vs h k v hv; cases h; simp at hv
  | cons r LD ih =>
    intro vs h k v hv
    cases h with
    | cons hr h =>
      cases k with
      | zero =>
        simp only [List.getElem?_cons_zero, Option.some.injEq] at hv
        subst hv
        cases hr with
        | list hm hd =>
          rename_i a vs'
          obtain rfl := rds_ints hd
          exact ⟨_, rfl, hm⟩
      | succ k =>
        simp only [List.getElem?_cons_succ] at hv
        exact ih h k v hv
section
variable {c : Fc} {f cd fi fb P : Addr} {l : List Nat} {t : Option Addr} {X R : Hp} {loc : Loc} {Q : V → St → Prop}
theorem ca_ordS' (F : Fn c.g "_law_straight" 10 f cd) (FI : FnB c.g "insort_right" 1 fi) (FB : FnB c.g "bisect_right" 2 fb) (hr : 6 ≤ c.room) (h1 : nsIn c.g.K mainGlobals "len" = some none) (h2 : nsIn c.g.K mainGlobals "range" = some none) (h3 : nsIn c.g.K mainGlobals "list" = some none)
    (hP : codeHdIn c.g.K cd P = true) (hz : l.length ≤ 500)
    (q : ∀ D t', Q (.ref D) ⟨loc, (D, .list ((ordS l).map fun k : Nat => V.int k)) :: (X ++ (TB P ⟨78, 61, 78, 83⟩ qS t' ++ R))⟩) : CA c (.ref f) [.bytes l] [] [] ⟨loc, X ++ (TB P ⟨78, 61, 78, 83⟩ qS t ++ R)⟩ Q :=
  CA.wk (CA.preWK (st' := ⟨loc, TB P ⟨78, 61, 78, 83⟩ qS t ++ (X ++ R)⟩) ⟨.refl _, Sub.swap3 _ _ _⟩ (ca_ordS (t := t) (hp := X ++ R) F FI FB hr h1 h2 h3 hP hz fun D t' => ⟨⟨loc, (D, .list ((ordS l).map fun k : Nat => V.int k)) :: (X ++ (TB P ⟨78, 61, 78, 83⟩ qS t' ++ R))⟩, ⟨.refl _, .keep (Sub.swap3 _ _ _)⟩, q D t'⟩))
theorem ca_ordC' (F : Fn c.g "_law_crossed" 11 f cd) (FI : FnB c.g "insort_left" 3 fi) (FB : FnB c.g "bisect_left" 4 fb) (hr : 6 ≤ c.room) (h1 : nsIn c.g.K mainGlobals "len" = some none) (h2 : nsIn c.g.K mainGlobals "range" = some none) (h3 : nsIn c.g.K mainGlobals "list" = some none)
    (hP : codeHdIn c.g.K cd P = true) (hz : l.length ≤ 500)
    (q : ∀ D t', Q (.ref D) ⟨loc, (D, .list ((ordC l).map fun k : Nat => V.int k)) :: (X ++ (TB P ⟨85, 60, 85, 82⟩ qC t' ++ R))⟩) : CA c (.ref f) [.bytes l] [] [] ⟨loc, X ++ (TB P ⟨85, 60, 85, 82⟩ qC t ++ R)⟩ Q :=
  CA.wk (CA.preWK (st' := ⟨loc, TB P ⟨85, 60, 85, 82⟩ qC t ++ (X ++ R)⟩) ⟨.refl _, Sub.swap3 _ _ _⟩ (ca_ordC (t := t) (hp := X ++ R) F FI FB hr h1 h2 h3 hP hz fun D t' => ⟨⟨loc, (D, .list ((ordC l).map fun k : Nat => V.int k)) :: (X ++ (TB P ⟨85, 60, 85, 82⟩ qC t' ++ R))⟩, ⟨.refl _, .keep (Sub.swap3 _ _ _)⟩, q D t'⟩))
theorem ca_bounds' {l0 : List Env} {rvs : List V} {rd : List PyData} {A : Addr} (F : Fn c.g "_law_bounds" 13 f cd) (FI : FnB c.g "insort_right" 1 fi) (FB : FnB c.g "bisect_right" 2 fb) (hr : 5 ≤ c.room) (h1 : nsIn c.g.K mainGlobals "len" = some none) (h2 : nsIn c.g.K mainGlobals "list" = some none) (hE : nsIn c.g.K mainGlobals "ValueError" = some none) (hl : c.A.frames = some l0)
    (hP : codeHdIn c.g.K cd P = true) (hm : RL (X ++ R) A rvs) (hrd : RDs (X ++ R) rvs rd) (hz : rvs.length ≤ 1000) (hdp : PyData.depthAll rd ≤ 10) (hrefl : PyData.eqv (.list rd) (.list rd) = true)
    (q : ∀ t', Q (.bool true) ⟨loc, X ++ (TB P ⟨97, 23, 97, 38⟩ qBd t' ++ R)⟩) : CA c (.ref f) [.ref A] [] [] ⟨loc, X ++ (TB P ⟨97, 23, 97, 38⟩ qBd t ++ R)⟩ Q :=
  CA.wk (CA.preWK (st' := ⟨loc, TB P ⟨97, 23, 97, 38⟩ qBd t ++ (X ++ R)⟩) ⟨.refl _, Sub.swap3 _ _ _⟩ (ca_bounds (t := t) (hp := X ++ R) F FI FB hr h1 h2 hE hl hP hm hrd hz hdp hrefl fun t' => ⟨⟨loc, X ++ (TB P ⟨97, 23, 97, 38⟩ qBd t' ++ R)⟩, ⟨.refl _, Sub.swap3 _ _ _⟩, q t'⟩))
end

/-! ## the plain law: searching and sorted rows -/
theorem bsr_eq {p : Nat → Bool} {t : Nat} : ∀ (m lo hi : Nat), hi - lo ≤ m → lo ≤ t → t ≤ hi → (∀ i, lo ≤ i → i < t → p i = true) → (∀ i, t ≤ i → i < hi → p i = false) → bsr p lo hi = t
  | 0, lo, hi, h, h1, h2, _, _ => by rw [bsr_done (by omega)]; omega
  | m + 1, lo, hi, h, h1, h2, ht, hf => by
    by_cases hlt : lo < hi
    · by_cases hm : (lo + hi) / 2 < t
      · rw [bsr_right hlt (ht _ (by omega) hm)]
        exact bsr_eq m _ _ (by omega) (by omega) h2 (fun i hi1 hi2 => ht i (by omega) hi2) hf
      · rw [bsr_left hlt (hf _ (by omega) (by omega))]
        exact bsr_eq m _ _ (by omega) h1 (by omega) ht (fun i hi1 hi2 => hf i hi1 (by omega))
    · rw [bsr_done hlt]; omega
theorem bsr_is {p : Nat → Bool} {t lo hi : Nat} (h1 : lo ≤ t) (h2 : t ≤ hi) (ht : ∀ i, lo ≤ i → i < t → p i = true) (hf : ∀ i, t ≤ i → i < hi → p i = false) : bsr p lo hi = t := bsr_eq (hi - lo) lo hi (Nat.le_refl _) h1 h2 ht hf
/-- two rows in strict order with the same members are the same -/
theorem sorted_ext {R : Nat → Nat → Prop} (hR : ∀ a b, R a b → ¬ R b a) : ∀ {l m : List Nat}, l.Pairwise R → m.Pairwise R → (∀ x, x ∈ l ↔ x ∈ m) → l = m
  | [], [], _, _, _ => rfl
  | [], b :: m, _, _, h => absurd ((h b).mpr (.head _)) (by simp)
  | a :: l, [], _, _, h => absurd ((h a).mp (.head _)) (by simp)
  | a :: l, b :: m, h1, h2, h => by
    have irr : ∀ x, ¬ R x x := fun x q => hR x x q q
    obtain ⟨ha, h1'⟩ := List.pairwise_cons.mp h1
    obtain ⟨hb, h2'⟩ := List.pairwise_cons.mp h2
    have e : a = b := by
      rcases List.mem_cons.mp ((h a).mp (.head _)) with q | q
      · exact q
      · rcases List.mem_cons.mp ((h b).mpr (.head _)) with q' | q'
        · exact q'.symm
        · exact absurd (ha b q') (hR _ _ (hb a q))
    subst e
    rw [sorted_ext hR h1' h2' fun x => ⟨fun hx => ?_, fun hx => ?_⟩]
    · rcases List.mem_cons.mp ((h x).mp (.tail _ hx)) with q | q
      · subst q; exact absurd (ha _ hx) (irr _)
      · exact q
    · rcases List.mem_cons.mp ((h x).mpr (.tail _ hx)) with q | q
      · subst q; exact absurd (hb _ hx) (irr _)
      · exact q
/-- the order of the places: by letter, ties by place (crossed: the other way) -/
noncomputable def Rr (w : List Nat) (cr : Bool) (a b : Nat) : Prop := w.getD a 0 < w.getD b 0 ∨ (w.getD a 0 = w.getD b 0 ∧ if cr then b < a else a < b)
theorem Rr.asymm {w : List Nat} {cr : Bool} (a b : Nat) (h : Rr w cr a b) : ¬ Rr w cr b a := by
  intro k
  unfold Rr at h k
  cases cr <;> simp at h k <;> omega

/-! ## the plain law: the insertion sorts the places -/
theorem split_mono {S : Nat → Nat → Prop} {q : Nat → Bool} (hq : ∀ a b, S a b → q b = true → q a = true) : ∀ {l : List Nat}, l.Pairwise S → ∃ u v, l = u ++ v ∧ (∀ x ∈ u, q x = true) ∧ (∀ x ∈ v, q x = false)
  | [], _ => ⟨[], [], rfl, by simp, by simp⟩
  | a :: l, h => by
    obtain ⟨ha, h'⟩ := List.pairwise_cons.mp h
    obtain ⟨u, v, rfl, h1, h2⟩ := split_mono hq h'
    cases e : q a with
    | true => exact ⟨a :: u, v, rfl, fun x hx => (List.mem_cons.mp hx).elim (fun k => k ▸ e) (h1 x), h2⟩
    | false =>
      have hu : u = [] := by
        cases u with
        | nil => rfl
        | cons b u => exact absurd (hq a b (ha b (by simp)) (h1 b (.head _))) (by rw [e]; decide)
      subst hu
      exact ⟨[], a :: v, rfl, by simp, fun x hx => (List.mem_cons.mp hx).elim (fun k => k ▸ e) (h2 x)⟩
noncomputable def rowS (n : Nat) (body : List Nat) : List Nat := n :: (body ++ [n + 1])
theorem rowS_len (n : Nat) (b : List Nat) : (rowS n b).length = b.length + 2 := by simp [rowS]
theorem rowS_get {n : Nat} {u v : List Nat} {i : Nat} (h1 : 1 ≤ i) (h2 : i < 1 + u.length) : (rowS n (u ++ v)).getD i 0 ∈ u := by
  obtain ⟨k, rfl⟩ : ∃ k, i = k + 1 := ⟨i - 1, by omega⟩
  have hk : k < u.length := by omega
  have : (rowS n (u ++ v)).getD (k + 1) 0 = u[k] := by
    simp [rowS, List.getD_eq_getElem?_getD, List.getElem?_append, hk]
  rw [this]; exact List.getElem_mem hk
theorem rowS_get2 {n : Nat} {u v : List Nat} {i : Nat} (h1 : 1 + u.length ≤ i) (h2 : i < 1 + u.length + v.length) : (rowS n (u ++ v)).getD i 0 ∈ v := by
  obtain ⟨k, rfl⟩ : ∃ k, i = k + u.length + 1 := ⟨i - 1 - u.length, by omega⟩
  have hk : k < v.length := by omega
  have : (rowS n (u ++ v)).getD (k + u.length + 1) 0 = v[k] := by
    simp [rowS, List.getD_eq_getElem?_getD, List.getElem?_append, hk]
    rw [if_neg (by omega)]; rfl
  rw [this]; exact List.getElem_mem hk
theorem rowS_ins (n m : Nat) (u v : List Nat) : (rowS n (u ++ v)).take (1 + u.length) ++ m :: (rowS n (u ++ v)).drop (1 + u.length) = rowS n (u ++ m :: v) := by
  rw [Nat.add_comm 1]
  simp [rowS, List.take_append, List.drop_append]
theorem rowS_step {q : Nat → Bool} {n : Nat} {u v : List Nat} (h1 : ∀ x ∈ u, q x = true) (h2 : ∀ x ∈ v, q x = false) : bsr (fun i => q ((rowS n (u ++ v)).getD i 0)) 1 ((rowS n (u ++ v)).length - 1) = 1 + u.length := by
  rw [rowS_len, List.length_append]
  refine bsr_is (by omega) (by omega) (fun i hi1 hi2 => h1 _ (rowS_get hi1 hi2)) fun i hi1 hi2 => h2 _ (rowS_get2 hi1 (by omega))
/-- what the body is after the first m places -/
structure Body (w : List Nat) (cr : Bool) (m : Nat) (b : List Nat) : Prop where
  perm : b.Perm (List.range m)
  srt : b.Pairwise (Rr w cr)
theorem Body.lt {w : List Nat} {cr : Bool} {m : Nat} {b : List Nat} (h : Body w cr m b) {x : Nat} (hx : x ∈ b) : x < m := List.mem_range.mp (h.perm.mem_iff.mp hx)
theorem Body.ins {w : List Nat} {cr : Bool} {m : Nat} {u v : List Nat} (h : Body w cr m (u ++ v)) (h1 : ∀ x ∈ u, Rr w cr x m) (h2 : ∀ x ∈ v, Rr w cr m x) : Body w cr (m + 1) (u ++ m :: v) := by
  refine ⟨?_, ?_⟩
  · rw [List.range_succ]
    exact (List.perm_middle.trans (List.Perm.cons m h.perm)).trans (List.perm_append_singleton m _).symm
  · have hs := List.pairwise_append.mp h.srt
    refine List.pairwise_append.mpr ⟨hs.1, List.pairwise_cons.mpr ⟨h2, hs.2.1⟩, fun a ha b hb => ?_⟩
    rcases List.mem_cons.mp hb with rfl | hb
    · exact h1 a ha
    · exact hs.2.2 a ha b hb
theorem shelf_get {w : List Nat} {x : Nat} (h : x < w.length) : (w ++ [9, 0]).getD x 0 = w.getD x 0 := by
  simp [List.getD_eq_getElem?_getD, List.getElem?_append, h]
noncomputable def qS' (w : List Nat) (m x : Nat) : Bool := !decide ((w ++ [9, 0]).getD m 0 < (w ++ [9, 0]).getD x 0)
noncomputable def qC' (w : List Nat) (m x : Nat) : Bool := decide ((w ++ [9, 0]).getD x 0 < (w ++ [9, 0]).getD m 0)
theorem stepS {w : List Nat} {m : Nat} {b : List Nat} (hm : m < w.length) (h : Body w false m b) : ∃ b', stS (w ++ [9, 0]) (rowS w.length b) m = rowS w.length b' ∧ Body w false (m + 1) b' := by
  obtain ⟨u, v, rfl, h1, h2⟩ := split_mono (q := qS' w m) (l := b) (S := fun a b => Rr w false a b ∧ a < m ∧ b < m) (fun a b ⟨hs, ha, hb⟩ k => by
    have e1 := shelf_get hm
    have e2 := shelf_get (w := w) (x := a) (by omega)
    have e3 := shelf_get (w := w) (x := b) (by omega)
    unfold Rr at hs
    simp only [qS', qC', Bool.not_eq_true', decide_eq_false_iff_not, decide_eq_true_eq, e1, e2, e3, Bool.false_eq_true, if_false, if_true] at k hs ⊢
    omega) (h.srt.imp_of_mem fun ha hb r => ⟨r, h.lt ha, h.lt hb⟩)
  refine ⟨u ++ m :: v, ?_, h.ins (fun x hx => ?_) fun x hx => ?_⟩
  · show (rowS w.length (u ++ v)).take (bsr (fun i => qS' w m ((rowS w.length (u ++ v)).getD i 0)) 1 ((rowS w.length (u ++ v)).length - 1)) ++ m :: (rowS w.length (u ++ v)).drop (bsr (fun i => qS' w m ((rowS w.length (u ++ v)).getD i 0)) 1 ((rowS w.length (u ++ v)).length - 1)) = _
    rw [rowS_step h1 h2]
    exact rowS_ins _ _ _ _
  · have hx' := h.lt (List.mem_append_left _ hx)
    have := h1 x hx
    have e1 := shelf_get hm
    have e2 := shelf_get (w := w) (x := x) (by omega)
    unfold Rr
    simp only [qS', qC', Bool.not_eq_true', Bool.not_eq_false', decide_eq_false_iff_not, decide_eq_true_eq, e1, e2, Bool.false_eq_true, if_false, if_true] at this ⊢
    omega
  · have hx' := h.lt (List.mem_append_right _ hx)
    have := h2 x hx
    have e1 := shelf_get hm
    have e2 := shelf_get (w := w) (x := x) (by omega)
    unfold Rr
    simp only [qS', qC', Bool.not_eq_true', Bool.not_eq_false', decide_eq_false_iff_not, decide_eq_true_eq, e1, e2, Bool.false_eq_true, if_false, if_true] at this ⊢
    omega
theorem stepC {w : List Nat} {m : Nat} {b : List Nat} (hm : m < w.length) (h : Body w true m b) : ∃ b', stC (w ++ [9, 0]) (rowS w.length b) m = rowS w.length b' ∧ Body w true (m + 1) b' := by
  obtain ⟨u, v, rfl, h1, h2⟩ := split_mono (q := qC' w m) (l := b) (S := fun a b => Rr w true a b ∧ a < m ∧ b < m) (fun a b ⟨hs, ha, hb⟩ k => by
    have e1 := shelf_get hm
    have e2 := shelf_get (w := w) (x := a) (by omega)
    have e3 := shelf_get (w := w) (x := b) (by omega)
    unfold Rr at hs
    simp only [qS', qC', Bool.not_eq_true', decide_eq_false_iff_not, decide_eq_true_eq, e1, e2, e3, Bool.false_eq_true, if_false, if_true] at k hs ⊢
    omega) (h.srt.imp_of_mem fun ha hb r => ⟨r, h.lt ha, h.lt hb⟩)
  refine ⟨u ++ m :: v, ?_, h.ins (fun x hx => ?_) fun x hx => ?_⟩
  · show (rowS w.length (u ++ v)).take (bsr (fun i => qC' w m ((rowS w.length (u ++ v)).getD i 0)) 1 ((rowS w.length (u ++ v)).length - 1)) ++ m :: (rowS w.length (u ++ v)).drop (bsr (fun i => qC' w m ((rowS w.length (u ++ v)).getD i 0)) 1 ((rowS w.length (u ++ v)).length - 1)) = _
    rw [rowS_step h1 h2]
    exact rowS_ins _ _ _ _
  · have hx' := h.lt (List.mem_append_left _ hx)
    have := h1 x hx
    have e1 := shelf_get hm
    have e2 := shelf_get (w := w) (x := x) (by omega)
    unfold Rr
    simp only [qS', qC', Bool.not_eq_true', Bool.not_eq_false', decide_eq_false_iff_not, decide_eq_true_eq, e1, e2, Bool.false_eq_true, if_false, if_true] at this ⊢
    omega
  · have hx' := h.lt (List.mem_append_right _ hx)
    have := h2 x hx
    have e1 := shelf_get hm
    have e2 := shelf_get (w := w) (x := x) (by omega)
    unfold Rr
    simp only [qS', qC', Bool.not_eq_true', Bool.not_eq_false', decide_eq_false_iff_not, decide_eq_true_eq, e1, e2, Bool.false_eq_true, if_false, if_true] at this ⊢
    omega
theorem foldB {w : List Nat} {cr : Bool} {st : List Nat → Nat → List Nat} (hst : ∀ m b, m < w.length → Body w cr m b → ∃ b', st (rowS w.length b) m = rowS w.length b' ∧ Body w cr (m + 1) b') : ∀ m, m ≤ w.length → ∃ b, (List.range m).foldl st (rowS w.length []) = rowS w.length b ∧ Body w cr m b
  | 0, _ => ⟨[], rfl, ⟨.refl _, .nil⟩⟩
  | m + 1, h => by
    obtain ⟨b, e, hb⟩ := foldB hst m (by omega)
    obtain ⟨b', e', hb'⟩ := hst m b (by omega) hb
    exact ⟨b', by rw [List.range_succ, List.foldl_append, e]; exact e', hb'⟩
theorem ordS_body (w : List Nat) : ∃ b, ordS w = rowS w.length b ∧ Body w false w.length b := foldB (fun m b hm h => stepS hm h) w.length (Nat.le_refl _)
theorem ordC_body (w : List Nat) : ∃ b, ordC w = rowS w.length b ∧ Body w true w.length b := foldB (fun m b hm h => stepC hm h) w.length (Nat.le_refl _)

/-! ## the plain law: the rows letter by letter are the sorted places -/
theorem mem_plRow {w : List Nat} {cr : Bool} {h x : Nat} : x ∈ plRow w cr h ↔ x < w.length ∧ w.getD x 0 = h := by
  unfold plRow
  cases cr <;> simp
theorem plRow_srt (w : List Nat) (cr : Bool) (h : Nat) : (plRow w cr h).Pairwise (Rr w cr) := by
  have key : ((List.range w.length).filter fun k => w.getD k 0 == h).Pairwise (fun a b => w.getD a 0 = h ∧ w.getD b 0 = h ∧ a < b) := by
    refine List.Pairwise.imp_of_mem (fun {a b} ha hb r => ?_) (List.Pairwise.filter _ (List.pairwise_lt_range (n := w.length)))
    have h1 := (List.mem_filter.mp ha).2
    have h2 := (List.mem_filter.mp hb).2
    exact ⟨by simpa using h1, by simpa using h2, r⟩
  unfold plRow
  cases cr with
  | false => exact key.imp fun ⟨h1, h2, h3⟩ => .inr ⟨h1.trans h2.symm, by simpa using h3⟩
  | true =>
    show (List.reverse _).Pairwise _
    rw [List.pairwise_reverse]
    exact key.imp fun ⟨h1, h2, h3⟩ => .inr ⟨h2.trans h1.symm, by simpa using h3⟩
noncomputable def plBody (w : List Nat) (cr : Bool) : List Nat := plRow w cr 1 ++ (plRow w cr 2 ++ (plRow w cr 3 ++ plRow w cr 4))
theorem plainF_row (w : List Nat) (cr : Bool) : plainF w cr = rowS w.length (plBody w cr) := by
  simp [plainF, plBody, rowS, List.range_succ]
theorem plBody_srt (w : List Nat) (cr : Bool) : (plBody w cr).Pairwise (Rr w cr) := by
  have cross : ∀ {h k : Nat}, h < k → ∀ a ∈ plRow w cr h, ∀ b ∈ plRow w cr k, Rr w cr a b := fun hk a ha b hb => by
    have h1 := (mem_plRow.mp ha).2
    have h2 := (mem_plRow.mp hb).2
    exact .inl (by omega)
  unfold plBody
  refine List.pairwise_append.mpr ⟨plRow_srt _ _ _, List.pairwise_append.mpr ⟨plRow_srt _ _ _, List.pairwise_append.mpr ⟨plRow_srt _ _ _, plRow_srt _ _ _, cross (by decide)⟩, fun a ha b hb => ?_⟩, fun a ha b hb => ?_⟩
  · rcases List.mem_append.mp hb with hb | hb
    · exact cross (by decide) a ha b hb
    · exact cross (by decide) a ha b hb
  · rcases List.mem_append.mp hb with hb | hb
    · exact cross (by decide) a ha b hb
    · rcases List.mem_append.mp hb with hb | hb
      · exact cross (by decide) a ha b hb
      · exact cross (by decide) a ha b hb
/-- a word: letters 1 to 4 -/
noncomputable def Wd (w : List Nat) : Prop := ∀ x ∈ w, 1 ≤ x ∧ x ≤ 4
theorem Wd.get {w : List Nat} (h : Wd w) {x : Nat} (hx : x < w.length) : 1 ≤ w.getD x 0 ∧ w.getD x 0 ≤ 4 := by
  rw [List.getD_eq_getElem?_getD, List.getElem?_eq_getElem hx]; exact h _ (List.getElem_mem hx)
theorem mem_plBody {w : List Nat} (hw : Wd w) {cr : Bool} {x : Nat} : x ∈ plBody w cr ↔ x < w.length := by
  unfold plBody
  simp only [List.mem_append, mem_plRow]
  constructor
  · omega
  · intro h
    have := hw.get h
    omega
theorem Body.eq {w : List Nat} (hw : Wd w) {cr : Bool} {b : List Nat} (h : Body w cr w.length b) : b = plBody w cr :=
  sorted_ext Rr.asymm h.srt (plBody_srt w cr) fun x => by rw [mem_plBody hw, h.perm.mem_iff, List.mem_range]
theorem ordS_plain {w : List Nat} (hw : Wd w) : ordS w = plainF w false := by
  obtain ⟨b, e, h⟩ := ordS_body w
  rw [e, plainF_row, h.eq hw]
theorem ordC_plain {w : List Nat} (hw : Wd w) : ordC w = plainF w true := by
  obtain ⟨b, e, h⟩ := ordC_body w
  rw [e, plainF_row, h.eq hw]
theorem midF_row (n : Nat) (b : List Nat) : midF (rowS n b) = b := by
  unfold midF slc
  have h1 : kms_lo (some 1) (rowS n b).length = 1 := by show (if (1 : Int) < 0 then (rowS n b).length - (-(1 : Int)).toNat else min (1 : Int).toNat (rowS n b).length) = 1; rw [if_neg (by decide), rowS_len]; show min 1 _ = 1; omega
  have h2 : kms_hi (some (-1)) (rowS n b).length = b.length + 1 := by show (if (-1 : Int) < 0 then (rowS n b).length - (-(-1 : Int)).toNat else min (-1 : Int).toNat (rowS n b).length) = b.length + 1; rw [if_pos (by decide), rowS_len]; rfl
  rw [h1, h2]
  simp [rowS]

/-! ## the plain law: laid -/
theorem laidI_ordS (l : List Nat) : laidI (l.map fun n : Nat => (n : Int)) l.length = ordS l := by
  have hof : ∀ k, k ≤ l.length + 1 → hOf (l.map fun n : Nat => (n : Int)) l.length 9 0 k = (((l ++ [9, 0]).getD k 0 : Nat) : Int) := fun k hk => by
    unfold hOf
    by_cases h1 : k < l.length
    · rw [if_pos h1, shelf_get h1]
      simp [List.getD_eq_getElem?_getD, h1]
    · rw [if_neg h1]
      by_cases h2 : k = l.length
      · subst h2; rw [if_pos rfl]; simp [List.getD_eq_getElem?_getD]
      · obtain rfl : k = l.length + 1 := by omega
        rw [if_neg h2]; simp [List.getD_eq_getElem?_getD, List.getElem?_append]
  have hstep : ∀ m b, m < l.length → Body l false m b → laidStep (l.map fun n : Nat => (n : Int)) l.length (rowS l.length b) = stS (l ++ [9, 0]) (rowS l.length b) m := fun m b hm h => by
    have hlen : (rowS l.length b).length - 2 = m := by rw [rowS_len, h.perm.length_eq, List.length_range]; omega
    have hle : ∀ i, (rowS l.length b).getD i 0 ≤ l.length + 1 := fun i => by
      rw [List.getD_eq_getElem?_getD]
      cases q : (rowS l.length b)[i]? with
      | none => simp
      | some y =>
        have hy := List.mem_of_getElem? q
        simp only [rowS, List.mem_cons, List.mem_append, List.not_mem_nil, or_false] at hy
        rcases hy with rfl | hy | rfl
        · simp
        · have := h.lt hy; simp; omega
        · simp
    have hp : (fun i => !decide ((l.map fun n : Nat => (n : Int)).getD m 0 < hOf (l.map fun n : Nat => (n : Int)) l.length 9 0 ((rowS l.length b).getD i 0))) = fun i => !decide ((l ++ [9, 0]).getD m 0 < (l ++ [9, 0]).getD ((rowS l.length b).getD i 0) 0) := by
      funext i
      rw [hof _ (hle i), shelf_get hm]
      have : (l.map fun n : Nat => (n : Int)).getD m 0 = ((l.getD m 0 : Nat) : Int) := by simp [List.getD_eq_getElem?_getD, hm]
      rw [this]
      congr 1
      rw [decide_eq_decide]; omega
    unfold laidStep stS
    rw [hlen, hp]
  have main : ∀ m, m ≤ l.length → (List.range m).foldl (fun s _ => laidStep (l.map fun n : Nat => (n : Int)) l.length s) (rowS l.length []) = (List.range m).foldl (stS (l ++ [9, 0])) (rowS l.length []) := by
    intro m
    induction m with
    | zero => intro _; rfl
    | succ m ih =>
      intro hm
      rw [List.range_succ, List.foldl_append, List.foldl_append, ih (by omega)]
      obtain ⟨b, e, h⟩ := foldB (w := l) (cr := false) (st := stS (l ++ [9, 0])) (fun m b hm h => stepS hm h) m (by omega)
      rw [e]
      exact hstep m b (by omega) h
  exact main l.length (Nat.le_refl _)
theorem laid_ok {l : List Nat} (hw : Wd l) : ((laidI (l.map fun n : Nat => (n : Int)) l.length).map fun k => bareD (l.map fun n : Nat => (n : Int)) l.length 9 0 k) = laidRows l := by
  rw [laidI_ordS, ordS_plain hw]
  unfold laidRows
  rw [plainF_row, midF_row]
  have h1 : bareD (l.map fun n : Nat => (n : Int)) l.length 9 0 l.length = [9] := by simp [bareD]
  have h2 : bareD (l.map fun n : Nat => (n : Int)) l.length 9 0 (l.length + 1) = [0] := by simp [bareD]
  have h3 : ∀ k ∈ plBody l false, bareD (l.map fun n : Nat => (n : Int)) l.length 9 0 k = [((l.getD k 0 : Nat) : Int), (k : Int)] := fun k hk => by
    have := (mem_plBody hw).mp hk
    unfold bareD
    rw [if_pos this]
    simp [List.getD_eq_getElem?_getD, this]
  simp only [rowS, List.map_cons, List.map_append, List.map_nil, h1, h2, List.cons_append, List.nil_append]
  rw [List.map_congr_left h3]
theorem plBody_len {l : List Nat} (hw : Wd l) (cr : Bool) : (plBody l cr).length = l.length := by
  cases cr with
  | false =>
    obtain ⟨b, _, h⟩ := ordS_body l
    rw [← h.eq hw, h.perm.length_eq, List.length_range]
  | true =>
    obtain ⟨b, _, h⟩ := ordC_body l
    rw [← h.eq hw, h.perm.length_eq, List.length_range]
theorem plBody_body {l : List Nat} (hw : Wd l) (cr : Bool) : Body l cr l.length (plBody l cr) := by
  cases cr with
  | false =>
    obtain ⟨b, _, h⟩ := ordS_body l
    rw [← h.eq hw]; exact h
  | true =>
    obtain ⟨b, _, h⟩ := ordC_body l
    rw [← h.eq hw]; exact h

/-! ## the plain law: turning a block round -/
theorem bswI_rev (l : List Nat) (w i : Nat) : ∀ (m : Nat) (s : List Nat), m ≤ w → i + w ≤ s.length → ((List.range m).foldl (fun s j => s.set (i + w - 1 - j) (l.getD (i + j) 0)) s) = s.take (i + w - m) ++ (((List.range m).map fun j => l.getD (i + j) 0).reverse ++ s.drop (i + w))
  | 0, s, _, hs => by simp
  | m + 1, s, hm, hs => by
    rw [List.range_succ, List.foldl_append, bswI_rev l w i m s (by omega (splitDisjunctions := true)) hs]
    simp only [List.foldl_cons, List.foldl_nil, List.map_append, List.reverse_append, List.map_cons, List.map_nil, List.reverse_cons, List.reverse_nil, List.nil_append, List.cons_append]
    have e : s.take (i + w - m) = s.take (i + w - (m + 1)) ++ [s.getD (i + w - (m + 1)) 0] := by
      rw [show i + w - m = i + w - (m + 1) + 1 by omega (splitDisjunctions := true), List.take_add_one, List.getD_eq_getElem?_getD, List.getElem?_eq_getElem (by omega (splitDisjunctions := true))]
      rfl
    rw [e, List.append_assoc, List.set_append_right _ _ (by simp; omega (splitDisjunctions := true))]
    congr 1
    have : i + w - 1 - m - (s.take (i + w - (m + 1))).length = 0 := by simp; omega (splitDisjunctions := true)
    rw [this]; rfl
theorem bswI_is (l : List Nat) (w i : Nat) (s : List Nat) (hs : i + w ≤ s.length) (hl : i + w ≤ l.length) : bswI l w i s = s.take i ++ (((l.drop i).take w).reverse ++ s.drop (i + w)) := by
  unfold bswI
  rw [bswI_rev l w i w s (Nat.le_refl _) hs, Nat.add_sub_cancel]
  congr 3
  refine List.ext_getElem (by simp; omega) fun k h1 h2 => ?_
  simp at h1 h2
  simp [List.getD_eq_getElem?_getD]
  rw [List.getElem?_eq_getElem (by omega)]
  rfl
theorem bswF_one (l : List Nat) (n : Nat) (h : l.length = n) : bswF l n 1 = l.reverse := by
  subst h
  show bswI l l.length (0 * l.length) (List.replicate l.length 0) = _
  rw [Nat.zero_mul, bswI_is l l.length 0 _ (by simp) (by simp)]
  simp
theorem bswF_flat (n : Nat) (ls : List (List Nat)) (h : ∀ x ∈ ls, x.length = n) : bswF ls.flatten n ls.length = (ls.map List.reverse).flatten := by
  have fl : ∀ (ms : List (List Nat)), (∀ x ∈ ms, x.length = n) → ms.flatten.length = ms.length * n := by
    intro ms
    induction ms with
    | nil => intro _; simp
    | cons a ms ih => intro hm; rw [List.flatten_cons, List.length_append, ih fun x hx => hm x (.tail _ hx), hm a (.head _), List.length_cons, Nat.succ_mul]; omega
  have main : ∀ m, m ≤ ls.length → (List.range m).foldl (fun s b => bswI ls.flatten n (b * n) s) (List.replicate ls.flatten.length 0) = ((ls.take m).map List.reverse).flatten ++ List.replicate ((ls.length - m) * n) 0 := by
    intro m
    induction m with
    | zero => intro _; rw [fl ls h]; simp
    | succ m ih =>
      intro hm
      rw [List.range_succ, List.foldl_append, ih (by omega)]
      have ht : ∀ k, k ≤ ls.length → ((ls.take k).map List.reverse).flatten.length = k * n := fun k hk => by
        have : ((ls.take k).map List.reverse).flatten.length = (ls.take k).flatten.length := by
          simp [List.length_flatten, List.map_map, Function.comp_def]
        rw [this, fl _ fun x hx => h x (List.mem_of_mem_take hx)]
        simp [Nat.min_eq_left hk]
      have h1 := ht m (by omega)
      have e1 : (ls.length - m) * n = n + (ls.length - (m + 1)) * n := by
        rw [show ls.length - m = ls.length - (m + 1) + 1 by omega, Nat.succ_mul]; omega
      have e2 : m * n + n ≤ ls.length * n := by
        have := Nat.mul_le_mul_right n hm
        rw [Nat.succ_mul] at this; exact this
      show bswI ls.flatten n (m * n) _ = _
      rw [bswI_is _ _ _ _ (by rw [List.length_append, h1, List.length_replicate]; omega) (by rw [fl ls h]; exact e2)]
      have h3 : ls.flatten.drop (m * n) = (ls.drop m).flatten := by
        have : ls.flatten = (ls.take m).flatten ++ (ls.drop m).flatten := by rw [← List.flatten_append, List.take_append_drop]
        rw [this, List.drop_append_of_le_length (by rw [fl _ fun x hx => h x (List.mem_of_mem_take hx)]; simp [Nat.min_eq_left (show m ≤ ls.length by omega)])]
        rw [List.drop_eq_nil_of_le (by rw [fl _ fun x hx => h x (List.mem_of_mem_take hx)]; simp [Nat.min_eq_left (show m ≤ ls.length by omega)])]
        rfl
      have h4 : ls.drop m = ls[m] :: ls.drop (m + 1) := List.drop_eq_getElem_cons (by omega)
      have h5 : (ls.flatten.drop (m * n)).take n = ls[m] := by
        rw [h3, h4, List.flatten_cons, ← h ls[m] (List.getElem_mem _), List.take_left]
      rw [h5, List.take_append_of_le_length (by omega), ← h1, List.take_length, List.drop_append, h1]
      rw [List.take_add_one, List.getElem?_eq_getElem (by omega)]
      rw [e1]
      simp
      rw [List.map_take] at h1
      rw [List.drop_eq_nil_of_le (by rw [h1]; omega), List.take_add_one (l := ls.map List.reverse), List.getElem?_eq_getElem (by simp; omega)]
      simp
  have := main ls.length (Nat.le_refl _)
  simp only [List.take_length, Nat.sub_self, Nat.zero_mul, List.replicate_zero, List.append_nil] at this
  exact this

/-! ## the plain law: the letters from the end -/
/-- the sorted letters -/
noncomputable def Fl (w : List Nat) (cr : Bool) : List Nat := (plBody w cr).map fun k => w.getD k 0
theorem fallF_is (l : List Nat) : fallF l = 0 :: ((Fl l false).reverse ++ [9]) := by
  unfold fallF
  rw [bswF_one _ _ (by simp)]
  unfold laidRows Fl
  rw [plainF_row, midF_row]
  simp [Function.comp_def]
theorem Fl_perm {w : List Nat} (hw : Wd w) (cr : Bool) : (Fl w cr).Perm w := by
  have h := ((plBody_body hw cr).perm).map fun k => w.getD k 0
  refine h.trans (List.Perm.of_eq ?_)
  refine List.ext_getElem (by simp) fun i h1 h2 => ?_
  simp at h1 h2
  simp [List.getD_eq_getElem?_getD, h2]
theorem Fl_srt {w : List Nat} (cr : Bool) : (Fl w cr).Pairwise (· ≤ ·) := by
  unfold Fl
  rw [List.pairwise_map]
  refine (plBody_srt w cr).imp fun h => ?_
  rcases h with h | h
  · exact Nat.le_of_lt h
  · exact Nat.le_of_eq h.1
theorem fal_ok {l : List Nat} (hw : Wd l) (ns : List Int) (hp : ns.Perm (l.map fun n : Nat => (n : Int))) (hs : ns.Pairwise (· ≤ ·)) : ((fallF l).map fun n : Nat => (n : Int)) = [0] ++ ns.reverse ++ [9] := by
  have e : ns = (Fl l false).map fun n : Nat => (n : Int) := by
    refine (hp.trans ((Fl_perm hw false).map _).symm).eq_of_pairwise (le := (· ≤ ·)) (fun a b _ _ h1 h2 => Int.le_antisymm h1 h2) hs ?_
    rw [List.pairwise_map]
    exact (Fl_srt false).imp fun h => by omega
  subst e
  rw [fallF_is]
  simp

/-! ## the plain law: the word -/
theorem midF_gen {α : Type} (x y : α) (b : List α) : midF (x :: (b ++ [y])) = b := by
  unfold midF slc
  have hl : (x :: (b ++ [y])).length = b.length + 2 := by simp
  have h1 : kms_lo (some 1) (x :: (b ++ [y])).length = 1 := by show (if (1 : Int) < 0 then (x :: (b ++ [y])).length - (-(1 : Int)).toNat else min (1 : Int).toNat (x :: (b ++ [y])).length) = 1; rw [if_neg (by decide), hl]; show min 1 _ = 1; omega
  have h2 : kms_hi (some (-1)) (x :: (b ++ [y])).length = b.length + 1 := by show (if (-1 : Int) < 0 then (x :: (b ++ [y])).length - (-(-1 : Int)).toNat else min (-1 : Int).toNat (x :: (b ++ [y])).length) = b.length + 1; rw [if_pos (by decide), hl]; rfl
  rw [h1, h2]
  simp
theorem wdF_is (l : List Nat) (b : Bool) : wdF l b = if b then (Fl l false).reverse else l := by
  unfold wdF
  rw [fallF_is, midF_gen]
theorem wdF_perm {l : List Nat} (hw : Wd l) (b : Bool) : (wdF l b).Perm l := by
  rw [wdF_is]
  cases b with
  | false => exact .refl _
  | true => exact (List.reverse_perm _).trans (Fl_perm hw false)
theorem wdF_wd {l : List Nat} (hw : Wd l) (b : Bool) : Wd (wdF l b) := fun x hx => hw x ((wdF_perm hw b).mem_iff.mp hx)
theorem Wd.rev {l : List Nat} (hw : Wd l) : Wd l.reverse := fun x hx => hw x (List.mem_reverse.mp hx)

/-! ## the plain law: counted from the end -/
theorem rev_getD {w : List Nat} {k : Nat} (h : k < w.length) : w.reverse.getD k 0 = w.getD (w.length - 1 - k) 0 := by
  simp [List.getD_eq_getElem?_getD, List.getElem?_reverse h]
theorem plBody_rev {w : List Nat} (hw : Wd w) : (plBody w.reverse false).map (fun k => w.length - 1 - k) = plBody w true := by
  have hm : ∀ {x}, x ∈ plBody w.reverse false ↔ x < w.length := fun {x} => by rw [mem_plBody hw.rev, List.length_reverse]
  refine sorted_ext Rr.asymm ?_ (plBody_srt w true) fun x => ?_
  · rw [List.pairwise_map]
    refine (plBody_srt w.reverse false).imp_of_mem fun {a b} ha hb r => ?_
    have ha := hm.mp ha
    have hb := hm.mp hb
    unfold Rr at r ⊢
    rw [rev_getD ha, rev_getD hb] at r
    simp only [Bool.false_eq_true, if_false, if_true] at r ⊢
    omega (splitDisjunctions := true)
  · rw [mem_plBody hw, List.mem_map]
    constructor
    · rintro ⟨k, hk, rfl⟩
      have := hm.mp hk
      omega (splitDisjunctions := true)
    · intro hx
      exact ⟨w.length - 1 - x, hm.mpr (by omega (splitDisjunctions := true)), by omega (splitDisjunctions := true)⟩
theorem cnt_ok {w : List Nat} (hw : Wd w) : ((midF (ordS (bswF w w.length 1))).map fun k => (w.length : Int) - 1 - (k : Nat)) = (midF (ordC w)).map fun k : Nat => (k : Int) := by
  rw [bswF_one _ _ rfl, ordS_plain hw.rev, ordC_plain hw, plainF_row, plainF_row, midF_row, midF_row, ← plBody_rev hw, List.map_map]
  refine List.map_congr_left fun k hk => ?_
  have := (mem_plBody hw.rev).mp hk
  rw [List.length_reverse] at this
  show (w.length : Int) - 1 - (k : Nat) = ((w.length - 1 - k : Nat) : Int)
  omega

/-! ## the plain law: lines -/
theorem ledF_succ (o : List Nat) (p k : Nat) : ledF o p (k + 1) = o.getD (ledF o p k) 0 := by
  unfold ledF
  rw [List.range_succ, List.foldl_append]; rfl
theorem ledF_add (o : List Nat) (p j : Nat) : ∀ k, ledF o p (j + k) = ledF o (ledF o p j) k
  | 0 => rfl
  | k + 1 => by rw [← Nat.add_assoc, ledF_succ, ledF_succ, ledF_add o p j k]
theorem lineF_is (w o : List Nat) (p : Nat) : lineF w o p = (List.range w.length).map fun k => w.getD (ledF o p (k + 1)) 0 := by
  unfold lineF
  have : ∀ m, (List.range m).foldl (fun s _ => lineStep w o s) ([], p) = ((List.range m).map fun k => w.getD (ledF o p (k + 1)) 0, ledF o p m) := by
    intro m
    induction m with
    | zero => rfl
    | succ m ih =>
      rw [List.range_succ, List.foldl_append, ih, List.map_append]
      simp [lineStep, ledF_succ]
  rw [this]

/-! ## the plain law: the step from place to place -/
structure Stp (w o : List Nat) (cr : Bool) : Prop where
  len : o.length = w.length
  lt : ∀ p, p < w.length → o.getD p 0 < w.length
  ord : ∀ p q, p < q → q < w.length → Rr w cr (o.getD p 0) (o.getD q 0)
theorem Body.stp {w : List Nat} {cr : Bool} {b : List Nat} (h : Body w cr w.length b) : Stp w b cr := by
  have hl : b.length = w.length := by rw [h.perm.length_eq, List.length_range]
  refine ⟨hl, fun p hp => getD_lt (fun x hx => h.lt hx) (by omega), fun p q hpq hq => ?_⟩
  have := List.pairwise_iff_getElem.mp h.srt p q (by omega) (by omega) hpq
  rw [List.getD_eq_getElem?_getD, List.getD_eq_getElem?_getD, List.getElem?_eq_getElem (by omega), List.getElem?_eq_getElem (by omega)]
  exact this
theorem Stp.inj {w o : List Nat} {cr : Bool} (h : Stp w o cr) {p q : Nat} (hp : p < w.length) (hq : q < w.length) (e : o.getD p 0 = o.getD q 0) : p = q := by
  rcases Nat.lt_trichotomy p q with k | k | k
  · have := h.ord p q k hq; rw [e] at this; exact absurd this (Rr.asymm _ _ this)
  · exact k
  · have := h.ord q p k hp; rw [e] at this; exact absurd this (Rr.asymm _ _ this)

/-! ## the plain law: the ranks rise -/
noncomputable def kx (cr : Bool) (s v : Nat) : Nat := if (cr && s % 2 == 1) = true then 255 - v else v
noncomputable def Lr (w o : List Nat) (cr : Bool) : Nat → Nat → Nat → List Nat
  | 0, _, _ => []
  | m + 1, s, p => kx cr s (w.getD (o.getD p 0) 0) :: Lr w o cr m (s + 1) (o.getD p 0)
theorem Lr_le {w o : List Nat} {cr : Bool} (h : Stp w o cr) (hw : Wd w) : ∀ (m s p q : Nat), p < w.length → q < w.length → (if (cr && s % 2 == 1) = true then q ≤ p else p ≤ q) → blt (Lr w o cr m s q) (Lr w o cr m s p) = false
  | 0, _, _, _, _, _, _ => rfl
  | m + 1, s, p, q, hp, hq, hpq => by
    have lp := h.lt p hp
    have lq := h.lt q hq
    have wp := hw.get lp
    have wq := hw.get lq
    have ih := Lr_le h hw m (s + 1) (o.getD p 0) (o.getD q 0) lp lq
    show (if kx cr s (w.getD (o.getD q 0) 0) < kx cr s (w.getD (o.getD p 0) 0) then true else if kx cr s (w.getD (o.getD p 0) 0) < kx cr s (w.getD (o.getD q 0) 0) then false else blt (Lr w o cr m (s + 1) (o.getD q 0)) (Lr w o cr m (s + 1) (o.getD p 0))) = false
    by_cases e : p = q
    · subst e
      rw [if_neg (Nat.lt_irrefl _), if_neg (Nat.lt_irrefl _)]
      exact ih (by split <;> exact Nat.le_refl _)
    have hr1 : p < q → Rr w cr (o.getD p 0) (o.getD q 0) := fun k => h.ord p q k hq
    have hr2 : q < p → Rr w cr (o.getD q 0) (o.getD p 0) := fun k => h.ord q p k hp
    have hs : s % 2 = 0 ∧ (s + 1) % 2 = 1 ∨ s % 2 = 1 ∧ (s + 1) % 2 = 0 := by omega
    have hAB : kx cr s (w.getD (o.getD p 0) 0) < kx cr s (w.getD (o.getD q 0) 0) ∨ (kx cr s (w.getD (o.getD p 0) 0) = kx cr s (w.getD (o.getD q 0) 0) ∧ (if (cr && (s + 1) % 2 == 1) = true then o.getD q 0 ≤ o.getD p 0 else o.getD p 0 ≤ o.getD q 0)) := by
      unfold Rr at hr1 hr2
      unfold kx
      clear ih
      generalize w.getD (o.getD p 0) 0 = vp at wp hr1 hr2 ⊢
      generalize w.getD (o.getD q 0) 0 = vq at wq hr1 hr2 ⊢
      generalize o.getD p 0 = a at lp hr1 hr2 ⊢
      generalize o.getD q 0 = b at lq hr1 hr2 ⊢
      cases cr <;> rcases hs with ⟨hs, hs'⟩ | ⟨hs, hs'⟩ <;> simp [hs, hs'] at hpq hr1 hr2 ⊢ <;> omega
    rcases hAB with k | ⟨k, k'⟩
    · rw [if_neg (by omega), if_pos k]
    · rw [k, if_neg (Nat.lt_irrefl _), if_neg (Nat.lt_irrefl _)]
      exact ih k'

/-! ## the plain law: a rank is a line, flipped -/
theorem Lr_is (w o : List Nat) (cr : Bool) : ∀ (m s p : Nat), Lr w o cr m s p = (List.range m).map fun k => kx cr (s + k) (w.getD (ledF o p (k + 1)) 0)
  | 0, _, _ => rfl
  | m + 1, s, p => by
    rw [List.range_succ_eq_map, List.map_cons, List.map_map, Lr, Lr_is w o cr m]
    congr 1
    refine List.map_congr_left fun k _ => ?_
    show kx cr (s + 1 + k) _ = kx cr (s + (k + 1)) _
    have e := ledF_add o p 1 (k + 1)
    rw [show s + 1 + k = s + (k + 1) by omega, show k + 1 + 1 = 1 + (k + 1) by omega, e]
    rfl
theorem Kf_Lr (w o : List Nat) (cr : Bool) (p : Nat) : Kf cr (lineF w o p) = Lr w o cr w.length 0 p := by
  rw [Lr_is]
  cases cr with
  | false =>
    show lineF w o p = _
    rw [lineF_is]
    refine List.map_congr_left fun k _ => ?_
    simp [kx]
  | true =>
    show flF (lineF w o p) = _
    unfold flF
    rw [lineF_len]
    refine List.map_congr_left fun k hk => ?_
    have hk := List.mem_range.mp hk
    have : (lineF w o p).getD k 0 = w.getD (ledF o p (k + 1)) 0 := by
      rw [lineF_is, List.getD_eq_getElem?_getD, List.getElem?_map, List.getElem?_range hk]; rfl
    rw [this]
    simp [kx]

/-! ## the plain law: blocks -/
theorem blt_irrefl : ∀ l : List Nat, blt l l = false
  | [] => rfl
  | x :: l => by
    show (if x < x then true else if x < x then false else blt l l) = false
    rw [if_neg (Nat.lt_irrefl _), if_neg (Nat.lt_irrefl _)]
    exact blt_irrefl l
theorem blt_antisymm : ∀ {l m : List Nat}, l.length = m.length → blt l m = false → blt m l = false → l = m
  | [], [], _, _, _ => rfl
  | [], _ :: _, h, _, _ => by cases h
  | _ :: _, [], h, _, _ => by cases h
  | x :: l, y :: m, h, h1, h2 => by
    have h1 : (if x < y then true else if y < x then false else blt l m) = false := h1
    have h2 : (if y < x then true else if x < y then false else blt m l) = false := h2
    have e1 : ¬ x < y := fun k => by rw [if_pos k] at h1; cases h1
    have e2 : ¬ y < x := fun k => by rw [if_pos k] at h2; cases h2
    obtain rfl : x = y := by omega
    rw [if_neg e1, if_neg e1] at h1 h2
    rw [blt_antisymm (by simpa using h) h1 h2]
section
variable {w o : List Nat} {cr : Bool} (h : Stp w o cr) (hw : Wd w)
include h hw
theorem rank_le {p q : Nat} (hpq : p ≤ q) (hq : q < w.length) : blt (Kf cr (lineF w o q)) (Kf cr (lineF w o p)) = false := by
  rw [Kf_Lr, Kf_Lr]
  exact Lr_le h hw _ _ _ _ (by omega) hq (by rw [if_neg (by simp)]; exact hpq)
end

/-! ## the plain law: blocks of like lines -/
theorem mono_cut (q : Nat → Bool) : ∀ n, (∀ i j, i ≤ j → j < n → q j = true → q i = true) → ∃ t, t ≤ n ∧ (∀ i, i < t → q i = true) ∧ ∀ i, t ≤ i → i < n → q i = false
  | 0, _ => ⟨0, Nat.le_refl _, fun i h => absurd h (Nat.not_lt_zero _), fun i _ h => absurd h (Nat.not_lt_zero _)⟩
  | n + 1, h => by
    obtain ⟨t, ht, h1, h2⟩ := mono_cut q n fun i j hij hj => h i j hij (by omega)
    cases e : q n with
    | true => exact ⟨n + 1, Nat.le_refl _, fun i hi => h i n (by omega) (by omega) e, fun i h1 h2 => absurd h1 (by omega)⟩
    | false => exact ⟨t, by omega, h1, fun i hi hn => by
        rcases Nat.lt_or_ge i n with k | k
        · exact h2 i hi k
        · obtain rfl : i = n := by omega
          exact e⟩
theorem filter_range {n lo hi : Nat} (hh : hi ≤ n) (p : Nat → Bool) (hp : ∀ k, k < n → (p k = true ↔ lo ≤ k ∧ k < hi)) : (List.range n).filter p = List.range' lo (hi - lo) := by
  refine sorted_ext (R := (· < ·)) (fun a b h => by omega) (List.Pairwise.filter _ List.pairwise_lt_range) (List.pairwise_lt_range' (s := lo) (n := hi - lo) (step := 1)) fun x => ?_
  rw [List.mem_filter, List.mem_range, List.mem_range'_1]
  constructor
  · rintro ⟨h1, h2⟩
    have := (hp x h1).mp h2
    omega
  · intro h
    exact ⟨by omega, (hp x (by omega)).mpr (by omega)⟩
theorem flF_get {l : List Nat} {k : Nat} (h : k < l.length) : (flF l).getD k 0 = if k % 2 = 1 then 255 - l.getD k 0 else l.getD k 0 := by
  unfold flF
  rw [List.getD_eq_getElem?_getD, List.getElem?_map, List.getElem?_range h]; rfl
theorem list_ext {l m : List Nat} (h : l.length = m.length) (k : ∀ i, i < l.length → l.getD i 0 = m.getD i 0) : l = m := by
  refine List.ext_getElem h fun i h1 h2 => ?_
  have := k i h1
  rw [List.getD_eq_getElem?_getD, List.getD_eq_getElem?_getD, List.getElem?_eq_getElem h1, List.getElem?_eq_getElem h2] at this
  exact this
theorem getD_lt' {l : List Nat} {m i : Nat} (h : ∀ x ∈ l, x < m) (hi : i < l.length) : l.getD i 0 < m := by
  rw [List.getD_eq_getElem?_getD, List.getElem?_eq_getElem hi]; exact h _ (List.getElem_mem hi)
theorem Kf_inj {cr : Bool} {l m : List Nat} (h : l.length = m.length) (hl : ∀ x ∈ l, x < 256) (hm : ∀ x ∈ m, x < 256) (e : Kf cr l = Kf cr m) : l = m := by
  cases cr with
  | false => exact e
  | true =>
    refine list_ext h fun i hi => ?_
    have e' : (flF l).getD i 0 = (flF m).getD i 0 := congrArg (fun x => x.getD i 0) (show flF l = flF m from e)
    rw [flF_get hi, flF_get (h ▸ hi)] at e'
    have h1 := getD_lt' hl hi
    have h2 := getD_lt' hm (h ▸ hi)
    split at e' <;> omega
theorem Wd.lt256 {w : List Nat} (h : Wd w) : ∀ x ∈ w, x < 256 := fun x hx => by have := h x hx; omega
theorem tab_get {w o : List Nat} {i : Nat} (h : i < w.length) : (tabF w o).getD i [] = lineF w o i := by
  unfold tabF
  rw [List.getD_eq_getElem?_getD, List.getElem?_map, List.getElem?_range h]; rfl
section
variable {w o : List Nat} {cr : Bool} (h : Stp w o cr) (hw : Wd w)
include h hw
theorem block {p : Nat} (hp : p < w.length) : ∃ lo hi, lowF w o cr p = lo ∧ highF w o cr p = hi ∧ lo ≤ p ∧ p < hi ∧ hi ≤ w.length ∧ ∀ k, k < w.length → (lineF w o k = lineF w o p ↔ lo ≤ k ∧ k < hi) := by
  have hl : ∀ i, (Kf cr (lineF w o i)).length = w.length := fun i => by rw [Kf_len, lineF_len]
  have anti : ∀ {i j : Nat}, blt (Kf cr (lineF w o i)) (Kf cr (lineF w o j)) = false → blt (Kf cr (lineF w o j)) (Kf cr (lineF w o i)) = false → Kf cr (lineF w o i) = Kf cr (lineF w o j) := fun h1 h2 => blt_antisymm (by rw [hl, hl]) h1 h2
  obtain ⟨t1, b1, l1, r1⟩ := mono_cut (fun i => blt (Kf cr (lineF w o i)) (Kf cr (lineF w o p))) w.length fun i j hij hj q => by
    have q : blt (Kf cr (lineF w o j)) (Kf cr (lineF w o p)) = true := q
    show blt (Kf cr (lineF w o i)) (Kf cr (lineF w o p)) = true
    rcases Nat.lt_or_ge j p with k | k
    · cases e : blt (Kf cr (lineF w o i)) (Kf cr (lineF w o p)) with
      | true => rfl
      | false =>
        have := anti e (rank_le h hw (p := i) (q := p) (by omega) hp)
        have h2 := rank_le h hw hij hj
        rw [this, q] at h2; cases h2
    · rw [rank_le h hw k hj] at q; cases q
  obtain ⟨t2, b2, l2, r2⟩ := mono_cut (fun i => !blt (Kf cr (lineF w o p)) (Kf cr (lineF w o i))) w.length fun i j hij hj q => by
    have q : (!blt (Kf cr (lineF w o p)) (Kf cr (lineF w o j))) = true := q
    show (!blt (Kf cr (lineF w o p)) (Kf cr (lineF w o i))) = true
    rw [Bool.not_eq_true'] at q ⊢
    rcases Nat.lt_or_ge p i with k | k
    · have := anti q (rank_le h hw (p := p) (q := j) (by omega) hj)
      rw [this]
      exact rank_le h hw hij hj
    · exact rank_le h hw k hp
  have p1 : t1 ≤ p := by
    rcases Nat.lt_or_ge p t1 with k | k
    · have := l1 p k; simp only [blt_irrefl] at this; cases this
    · exact k
  have p2 : p < t2 := by
    rcases Nat.lt_or_ge p t2 with k | k
    · exact k
    · have := r2 p k hp; simp only [blt_irrefl] at this; cases this
  have lt : ∀ i, ∀ x ∈ lineF w o i, x < 256 := fun i => lineF_lt (by decide) hw.lt256 i
  refine ⟨t1, t2, ?_, ?_, p1, p2, b2, fun k hk => ⟨fun e => ⟨?_, ?_⟩, fun ⟨k1, k2⟩ => ?_⟩⟩
  · unfold lowF
    refine bsr_is (Nat.zero_le _) b1 (fun i _ hi => ?_) fun i h1 h2 => ?_
    · rw [tab_get (by omega)]; exact l1 i hi
    · rw [tab_get (by omega)]; exact r1 i h1 h2
  · unfold highF
    refine bsr_is (Nat.zero_le _) b2 (fun i _ hi => ?_) fun i h1 h2 => ?_
    · rw [tab_get (by omega)]; exact l2 i hi
    · rw [tab_get (by omega)]; exact r2 i h1 h2
  · rcases Nat.lt_or_ge k t1 with q | q
    · have := l1 k q; simp only [e, blt_irrefl] at this; cases this
    · exact q
  · rcases Nat.lt_or_ge k t2 with q | q
    · exact q
    · have := r2 k q hk; simp only [e, blt_irrefl] at this; cases this
  · have h1 := r1 k k1 hk
    have h2 := l2 k k2
    simp only [Bool.not_eq_true'] at h1 h2
    exact Kf_inj (by rw [lineF_len, lineF_len]) (lt _) (lt _) (anti h1 h2)
theorem blk_ok {p : Nat} (hp : p < w.length) : ((List.range w.length).filter fun k => lineF w o k == lineF w o p) = List.range' (lowF w o cr p) (highF w o cr p - lowF w o cr p) := by
  obtain ⟨lo, hi, e1, e2, _, _, hh, hb⟩ := block h hw hp
  rw [e1, e2]
  exact filter_range hh _ fun k hk => by rw [beq_iff_eq]; exact hb k hk
theorem last_ok (h2 : 0 < w.length) : bsr (fun i => blt (Kf cr ((tabF w o).getD i [])) [9]) 0 w.length = w.length := by
  refine bsr_is (Nat.zero_le _) (Nat.le_refl _) (fun i _ hi => ?_) fun i h1 h2 => absurd h1 (by omega)
  rw [tab_get hi, Kf_Lr]
  obtain ⟨m, e⟩ : ∃ m, w.length = m + 1 := ⟨w.length - 1, by omega⟩
  rw [e]
  have := hw.get (h.lt i hi)
  show (if kx cr 0 (w.getD (o.getD i 0) 0) < 9 then true else _) = true
  rw [if_pos]
  unfold kx
  rw [if_neg (by simp)]
  omega
end

/-! ## the plain law: rings; lines alike are alike for ever -/
theorem nd_len : ∀ (n : Nat) (l : List Nat), l.Nodup → (∀ x ∈ l, x < n) → l.length ≤ n
  | 0, [], _, _ => Nat.le_refl _
  | 0, a :: l, _, h => absurd (h a (.head _)) (Nat.not_lt_zero _)
  | n + 1, l, hd, h => by
    have := nd_len n (l.erase n) (hd.erase n) fun x hx => by
      have h1 := (hd.mem_erase_iff).mp hx
      have := h x h1.2
      omega
    rw [List.length_erase] at this
    split at this <;> omega
theorem per_agree {f g : Nat → Nat} {r n : Nat} (h1 : 1 ≤ r) (hr : r ≤ n) (hf : ∀ k, 1 ≤ k → f (k + r) = f k) (hg : ∀ k, 1 ≤ k → g (k + r) = g k) (e : ∀ k, 1 ≤ k → k ≤ n → f k = g k) : ∀ m k, k ≤ m → 1 ≤ k → f k = g k
  | 0, k, hk, h => absurd hk (by omega)
  | m + 1, k, hk, h => by
    rcases Nat.lt_or_ge n k with q | q
    · have := per_agree h1 hr hf hg e m (k - r) (by omega) (by omega)
      have e1 := hf (k - r) (by omega)
      have e2 := hg (k - r) (by omega)
      rw [show k - r + r = k by omega] at e1 e2
      rw [e1, e2, this]
    · exact e k h q
/-- the k-th letter from a place -/
noncomputable def Xl (w o : List Nat) (p k : Nat) : Nat := w.getD (ledF o p k) 0
theorem line_get {w o : List Nat} {p i : Nat} (h : i < w.length) : (lineF w o p).getD i 0 = Xl w o p (i + 1) := by
  rw [lineF_is, List.getD_eq_getElem?_getD, List.getElem?_map, List.getElem?_range h]; rfl
theorem line_eq {w o : List Nat} {p q : Nat} : lineF w o p = lineF w o q ↔ ∀ k, 1 ≤ k → k ≤ w.length → Xl w o p k = Xl w o q k := by
  constructor
  · intro e k h1 h2
    have : (lineF w o p).getD (k - 1) 0 = (lineF w o q).getD (k - 1) 0 := by rw [e]
    rw [line_get (by omega), line_get (by omega), show k - 1 + 1 = k by omega] at this
    exact this
  · intro h
    refine list_ext (by rw [lineF_len, lineF_len]) fun i hi => ?_
    rw [lineF_len] at hi
    rw [line_get hi, line_get hi]
    exact h _ (by omega) (by omega)
section
variable {w o : List Nat} {cr : Bool} (h : Stp w o cr)
include h
theorem led_lt : ∀ (k : Nat) {p : Nat}, p < w.length → ledF o p k < w.length
  | 0, _, hp => hp
  | k + 1, _, hp => by rw [ledF_succ]; exact h.lt _ (led_lt k hp)
theorem led_inj : ∀ (k : Nat) {p q : Nat}, p < w.length → q < w.length → ledF o p k = ledF o q k → p = q
  | 0, _, _, _, _, e => e
  | k + 1, p, q, hp, hq, e => by
    rw [ledF_succ, ledF_succ] at e
    exact led_inj k hp hq (h.inj (led_lt h k hp) (led_lt h k hq) e)
theorem led_back {p i j : Nat} (hp : p < w.length) (hij : i ≤ j) (e : ledF o p i = ledF o p j) : ledF o p (j - i) = p := by
  have e2 : ledF o p j = ledF o (ledF o p (j - i)) i := by rw [← ledF_add]; congr 1; omega
  rw [e2] at e
  exact (led_inj h i hp (led_lt h _ hp) e).symm
/-- the least number of steps that lead back -/
structure Ring (w o : List Nat) (p r : Nat) : Prop where
  pos : 1 ≤ r
  le : r ≤ w.length
  back : ledF o p r = p
  least : ∀ j, 1 ≤ j → j < r → ledF o p j ≠ p
omit h in
theorem filt_head {n : Nat} (P : Nat → Bool) (hx : ∃ k, 1 ≤ k ∧ k ≤ n ∧ P k = true) : ∃ k tl, (List.range' 1 n).filter P = k :: tl ∧ 1 ≤ k ∧ k ≤ n ∧ P k = true ∧ ∀ j, 1 ≤ j → j < k → P j = false := by
  obtain ⟨x, x1, x2, x3⟩ := hx
  have hm : x ∈ (List.range' 1 n).filter P := List.mem_filter.mpr ⟨List.mem_range'_1.mpr (by omega), x3⟩
  have hs : ((List.range' 1 n).filter P).Pairwise (· < ·) := List.Pairwise.filter _ (List.pairwise_lt_range' (s := 1) (n := n) (step := 1))
  have mem : ∀ y, y ∈ (List.range' 1 n).filter P ↔ (1 ≤ y ∧ y ≤ n) ∧ P y = true := fun y => by
    rw [List.mem_filter, List.mem_range'_1]
    constructor
    · rintro ⟨a, b⟩; exact ⟨by omega, b⟩
    · rintro ⟨a, b⟩; exact ⟨by omega, b⟩
  cases e : (List.range' 1 n).filter P with
  | nil => rw [e] at hm; cases hm
  | cons k tl =>
    have hk := (mem k).mp (by rw [e]; exact .head _)
    refine ⟨k, tl, rfl, hk.1.1, hk.1.2, hk.2, fun j j1 j2 => ?_⟩
    cases q : P j with
    | false => rfl
    | true =>
      have hj := (mem j).mpr ⟨by omega, q⟩
      rw [e] at hj hs
      rcases List.mem_cons.mp hj with rfl | hj
      · omega
      · have := (List.pairwise_cons.mp hs).1 j hj; omega
theorem ring_ex {p : Nat} (hp : p < w.length) : ∃ r tl, ((List.range' 1 w.length).filter fun k => ledF o p k == p) = r :: tl ∧ Ring w o p r := by
  obtain ⟨k, tl, e, h1, h2, h3, h4⟩ := filt_head (n := w.length) (fun k => ledF o p k == p) (by
    refine Classical.byContradiction fun hn => ?_
    have nd : ((List.range (w.length + 1)).map (ledF o p)).Nodup := by
      rw [List.Nodup, List.pairwise_map]
      refine List.Pairwise.imp_of_mem (fun {a b} ha hb hab e => ?_) (List.pairwise_lt_range (n := w.length + 1))
      have hb := List.mem_range.mp hb
      exact hn ⟨b - a, by omega, by omega, beq_iff_eq.mpr (led_back h hp (Nat.le_of_lt hab) e)⟩
    have := nd_len w.length _ nd fun x hx => by
      obtain ⟨k, _, rfl⟩ := List.mem_map.mp hx
      exact led_lt h k hp
    rw [List.length_map, List.length_range] at this
    omega)
  refine ⟨k, tl, e, h1, h2, beq_iff_eq.mp h3, fun j j1 j2 q => ?_⟩
  have := h4 j j1 j2
  rw [beq_eq_false_iff_ne] at this
  exact this q
omit h in
theorem Ring.per {p r : Nat} (R : Ring w o p r) (k : Nat) : ledF o p (k + r) = ledF o p k := by
  rw [Nat.add_comm, ledF_add, R.back]
omit h in
theorem Xl_led {p j k : Nat} : Xl w o (ledF o p j) k = Xl w o p (j + k) := by
  unfold Xl; rw [ledF_add]
theorem for_ever {p q : Nat} (hp : p < w.length) (hq : q < w.length) (e : lineF w o p = lineF w o q) : ∀ k, 1 ≤ k → Xl w o p k = Xl w o q k := by
  have e := line_eq.mp e
  obtain ⟨r, _, _, R⟩ := ring_ex h hp
  obtain ⟨r', _, _, R'⟩ := ring_ex h hq
  have pp : ∀ k, 1 ≤ k → Xl w o p (k + r) = Xl w o p k := fun k _ => by unfold Xl; rw [R.per]
  have pq : ∀ k, 1 ≤ k → Xl w o q (k + r') = Xl w o q k := fun k _ => by unfold Xl; rw [R'.per]
  by_cases hs : ∃ i, ledF o p i = q
  · obtain ⟨i, rfl⟩ := hs
    have b : ∀ k, 1 ≤ k → Xl w o (ledF o p i) (k + r) = Xl w o (ledF o p i) k := fun k _ => by
      rw [Xl_led, Xl_led, ← Nat.add_assoc]; unfold Xl; rw [R.per]
    exact fun k hk => per_agree R.pos R.le pp b e k k (Nat.le_refl _) hk
  · have nd : ((List.range r).map (ledF o p) ++ (List.range r').map (ledF o q)).Nodup := by
      have one : ∀ {x s : Nat}, x < w.length → Ring w o x s → ((List.range s).map (ledF o x)).Nodup := fun {x s} hx S => by
        rw [List.Nodup, List.pairwise_map]
        refine List.Pairwise.imp_of_mem (fun {a b} ha hb hab e => ?_) (List.pairwise_lt_range (n := s))
        have hb := List.mem_range.mp hb
        exact S.least (b - a) (by omega) (by omega) (led_back h hx (Nat.le_of_lt hab) e)
      refine List.nodup_append.mpr ⟨one hp R, one hq R', fun a ha b hb q => ?_⟩
      subst q
      obtain ⟨i, _, ei⟩ := List.mem_map.mp ha
      obtain ⟨j, hj, ej⟩ := List.mem_map.mp hb
      have hj := List.mem_range.mp hj
      refine hs ⟨i + (r' - j), ?_⟩
      rw [ledF_add, ei, ← ej, ← ledF_add, show j + (r' - j) = r' by omega, R'.back]
    have hn := nd_len w.length _ nd fun x hx => by
      rcases List.mem_append.mp hx with hx | hx
      · obtain ⟨k, _, rfl⟩ := List.mem_map.mp hx
        exact led_lt h k hp
      · obtain ⟨k, _, rfl⟩ := List.mem_map.mp hx
        exact led_lt h k hq
    rw [List.length_append, List.length_map, List.length_map, List.length_range, List.length_range] at hn
    have pr : ∀ m k, k ≤ m → 1 ≤ k → Xl w o p (k + r') = Xl w o p k := by
      intro m
      induction m with
      | zero => intro k a b; omega
      | succ m ih =>
        intro k hk k1
        rcases Nat.lt_or_ge r k with c | c
        · have i1 := ih (k - r) (by have := R.pos; omega) (by omega)
          have i2 := pp (k - r) (by omega)
          have i3 := pp (k - r + r') (by omega)
          rw [show k - r + r = k by omega] at i2
          rw [show k - r + r' + r = k + r' by omega] at i3
          rw [i3, i1, i2]
        · rw [e k k1 (by omega), e (k + r') (by omega) (by omega), pq k k1]
    exact fun k hk => per_agree R'.pos R'.le (fun k k1 => pr k k (Nat.le_refl _) k1) pq e k k (Nat.le_refl _) hk
end

/-! ## the plain law: roots -/
theorem rflat_len (u : List Nat) : ∀ m, (List.replicate m u).flatten.length = m * u.length
  | 0 => by simp
  | m + 1 => by rw [List.replicate_succ, List.flatten_cons, List.length_append, rflat_len u m, Nat.add_mul]; omega
theorem rflat_get (u : List Nat) : ∀ m i, i < m * u.length → (List.replicate m u).flatten.getD i 0 = u.getD (i % u.length) 0
  | 0, i, h => absurd h (by omega)
  | m + 1, i, h => by
    rw [Nat.add_mul, Nat.one_mul] at h
    rw [List.replicate_succ, List.flatten_cons, List.getD_eq_getElem?_getD]
    rcases Nat.lt_or_ge i u.length with k | k
    · rw [List.getElem?_append_left k, Nat.mod_eq_of_lt k, List.getD_eq_getElem?_getD]
    · rw [List.getElem?_append_right k, ← List.getD_eq_getElem?_getD, rflat_get u m _ (by omega), Nat.mod_eq_sub_mod k]
theorem take_getD {l : List Nat} {i m : Nat} (h : i < m) : (l.take m).getD i 0 = l.getD i 0 := by
  rw [List.getD_eq_getElem?_getD, List.getElem?_take, if_pos h, List.getD_eq_getElem?_getD]
theorem inc_id {f : Nat → Nat} {lo hi : Nat} (hm : ∀ x, lo ≤ x → x < hi → lo ≤ f x ∧ f x < hi) (hf : ∀ x y, lo ≤ x → x < y → y < hi → f x < f y) {x : Nat} (h1 : lo ≤ x) (h2 : x < hi) : f x = x := by
  have ge : ∀ d, lo + d < hi → lo + d ≤ f (lo + d) := by
    intro d
    induction d with
    | zero => intro k; exact (hm _ (Nat.le_refl _) k).1
    | succ d ih =>
      intro k
      have := ih (by omega)
      have := hf (lo + d) (lo + (d + 1)) (by omega) (by omega) k
      omega
  have le : ∀ d y, lo ≤ y → y + d + 1 = hi → f y ≤ y := by
    intro d
    induction d with
    | zero => intro y a b; have := (hm y a (by omega)).2; omega
    | succ d ih =>
      intro y a b
      have := ih (y + 1) (by omega) (by omega)
      have := hf y (y + 1) a (by omega) (by omega)
      omega
  have a := ge (x - lo) (by omega)
  have b := le (hi - x - 1) x h1 (by omega)
  rw [show lo + (x - lo) = x by omega] at a
  omega
theorem dec_id {f : Nat → Nat} {lo hi : Nat} (hm : ∀ x, lo ≤ x → x < hi → lo ≤ f x ∧ f x < hi) (hf : ∀ x y, lo ≤ x → x < y → y < hi → f y < f x) {x : Nat} (h1 : lo ≤ x) (h2 : x < hi) : f x + x + 1 = lo + hi := by
  have := inc_id (f := fun y => lo + hi - 1 - f y) (lo := lo) (hi := hi) (fun y a b => by have := hm y a b; show lo ≤ lo + hi - 1 - f y ∧ lo + hi - 1 - f y < hi; omega (splitDisjunctions := true))
    (fun y z a b c => by have := hm y a (by omega (splitDisjunctions := true)); have := hm z (by omega (splitDisjunctions := true)) c; have := hf y z a b c; show lo + hi - 1 - f y < lo + hi - 1 - f z; omega (splitDisjunctions := true)) h1 h2
  have := hm x h1 h2
  omega (splitDisjunctions := true)
section
variable {w o : List Nat} {cr : Bool} (h : Stp w o cr)
include h
theorem mono_led {p q : Nat} (hpq : p < q) (hq : q < w.length) (e : ∀ k, 1 ≤ k → Xl w o p k = Xl w o q k) : ∀ s, if (cr && s % 2 == 1) = true then ledF o q s < ledF o p s else ledF o p s < ledF o q s
  | 0 => by rw [if_neg (by simp)]; exact hpq
  | s + 1 => by
    have ih := mono_led hpq hq e s
    have es := e (s + 1) (by omega)
    unfold Xl at es
    have lp := led_lt h s (p := p) (by omega)
    have lq := led_lt h s hq
    rw [ledF_succ, ledF_succ] at es ⊢
    have o1 := fun k => h.ord (ledF o p s) (ledF o q s) k lq
    have o2 := fun k => h.ord (ledF o q s) (ledF o p s) k lp
    unfold Rr at o1 o2
    generalize ledF o p s = a at *
    generalize ledF o q s = b at *
    rw [es] at o1 o2
    have hs : s % 2 = 0 ∧ (s + 1) % 2 = 1 ∨ s % 2 = 1 ∧ (s + 1) % 2 = 0 := by omega
    have o1 := fun k => (o1 k).resolve_left (Nat.lt_irrefl _)
    have o2 := fun k => (o2 k).resolve_left (Nat.lt_irrefl _)
    cases cr <;> rcases hs with ⟨hs, hs'⟩ | ⟨hs, hs'⟩ <;> simp only [hs, hs', Bool.false_and, Bool.true_and, Bool.false_eq_true, if_false, if_true, beq_self_eq_true, Nat.reduceBEq] at ih o1 o2 ⊢
    · exact (o1 ih).2
    · exact (o1 ih).2
    · exact (o1 ih).2
    · exact (o2 ih).2
theorem led_due {p lo hi rt : Nat} (hp : p < w.length) (hl : lo ≤ p) (hh : p < hi) (hn : hi ≤ w.length) (hb : ∀ k, k < w.length → (lineF w o k = lineF w o p ↔ lo ≤ k ∧ k < hi)) (per : ∀ k, 1 ≤ k → Xl w o p (rt + k) = Xl w o p k) :
    ((ledF o p rt : Nat) : Int) = if (cr && rt % 2 == 1) = true then (lo : Int) + hi - 1 - p else p := by
  have al : ∀ k, lo ≤ k → k < hi → ∀ j, 1 ≤ j → Xl w o k j = Xl w o p j := fun k k1 k2 => for_ever h (by omega) hp ((hb k (by omega)).mpr ⟨k1, k2⟩)
  have hm : ∀ x, lo ≤ x → x < hi → lo ≤ ledF o x rt ∧ ledF o x rt < hi := fun x x1 x2 => by
    refine (hb _ (led_lt h rt (by omega))).mp (line_eq.mpr fun k k1 _ => ?_)
    rw [Xl_led, al x x1 x2 _ (by omega), per k k1]
  have hf : ∀ x y, lo ≤ x → x < y → y < hi → if (cr && rt % 2 == 1) = true then ledF o y rt < ledF o x rt else ledF o x rt < ledF o y rt := fun x y a b c =>
    mono_led h b (by omega) (fun k k1 => by rw [al x a (by omega) k k1, al y (by omega) c k k1]) rt
  by_cases q : (cr && rt % 2 == 1) = true
  · rw [if_pos q]
    have := dec_id (f := fun x => ledF o x rt) hm (fun x y a b c => by have := hf x y a b c; rw [if_pos q] at this; exact this) hl hh
    omega
  · rw [if_neg q]
    have := inc_id (f := fun x => ledF o x rt) hm (fun x y a b c => by have := hf x y a b c; rw [if_neg q] at this; exact this) hl hh
    omega
theorem ring_ok (hw : Wd w) {p : Nat} (hp : p < w.length) : ∃ rg tl rt tl2, ((List.range' 1 w.length).filter fun k => ledF o p k == p) = rg :: tl ∧ ((List.range' 1 rg).filter fun k => (List.replicate (rg / k) ((onceF w o p rg).take k)).flatten == onceF w o p rg) = rt :: tl2 ∧
    ((ledF o p rt : Nat) : Int) = if (cr && rt % 2 == 1) = true then ((lowF w o cr p : Nat) : Int) + (highF w o cr p : Nat) - 1 - p else p := by
  obtain ⟨rg, tl, e, R⟩ := ring_ex h hp
  have hlen : (onceF w o p rg).length = rg := by unfold onceF; rw [List.length_take, lineF_len]; have := R.le; omega
  obtain ⟨rt, tl2, e2, t1, t2, t3, _⟩ := filt_head (n := rg) (fun k => (List.replicate (rg / k) ((onceF w o p rg).take k)).flatten == onceF w o p rg)
    ⟨rg, R.pos, Nat.le_refl _, by
      rw [Nat.div_self R.pos, beq_iff_eq, List.take_of_length_le (by omega)]; simp⟩
  refine ⟨rg, tl, rt, tl2, e, e2, ?_⟩
  have t3 := beq_iff_eq.mp t3
  have hu : ((onceF w o p rg).take rt).length = rt := by rw [List.length_take]; omega
  have hd : rg / rt * rt = rg := by
    have := congrArg List.length t3
    rw [rflat_len, hu, hlen] at this
    exact this
  have oget : ∀ i, i < rg → (onceF w o p rg).getD i 0 = Xl w o p (i + 1) := fun i hi => by
    unfold onceF
    rw [take_getD hi, line_get (by have := R.le; omega)]
  have small : ∀ i, i < rg → Xl w o p (i + 1) = Xl w o p (i % rt + 1) := fun i hi => by
    have hm : i % rt < rt := Nat.mod_lt _ (by omega)
    have a := rflat_get ((onceF w o p rg).take rt) (rg / rt) i (by rw [hu, hd]; exact hi)
    rw [t3, hu, take_getD hm, oget i hi, oget _ (by omega)] at a
    exact a
  have wrap : ∀ m i, i < rg * m → Xl w o p (i + 1) = Xl w o p (i % rt + 1) := by
    intro m
    induction m with
    | zero => intro i hi; simp at hi
    | succ m ih =>
      intro i hi
      rcases Nat.lt_or_ge i rg with k | k
      · exact small i k
      · have c := ih (i - rg) (by rw [Nat.mul_succ] at hi; omega)
        have : Xl w o p (i + 1) = Xl w o p (i - rg + 1) := by
          have := R.per (i - rg + 1)
          rw [show i - rg + 1 + rg = i + 1 by omega] at this
          unfold Xl; rw [this]
        rw [this, c]
        congr 2
        have e : i = (i - rg) + rt * (rg / rt) := by rw [Nat.mul_comm, hd]; omega
        conv => rhs; rw [e]
        rw [Nat.add_mul_mod_self_left]
  have all : ∀ i, Xl w o p (i + 1) = Xl w o p (i % rt + 1) := fun i => wrap (i + 1) i (by
    have := Nat.le_mul_of_pos_left (i + 1) R.pos
    omega)
  obtain ⟨lo, hi, e3, e4, h1, h2, h3, h4⟩ := block h hw hp
  rw [e3, e4]
  refine led_due h hp h1 h2 h3 h4 fun k hk => ?_
  obtain ⟨i, rfl⟩ : ∃ i, k = i + 1 := ⟨k - 1, by omega⟩
  rw [← Nat.add_assoc, all (rt + i), Nat.add_mod_left, ← all i]
end

/-! ## the plain law: the lines turned about -/
theorem flat_inj {n : Nat} : ∀ {ls ms : List (List Nat)}, ls.length = ms.length → (∀ x ∈ ls, x.length = n) → (∀ x ∈ ms, x.length = n) → ls.flatten = ms.flatten → ls = ms
  | [], [], _, _, _, _ => rfl
  | [], _ :: _, h, _, _, _ => by cases h
  | _ :: _, [], h, _, _, _ => by cases h
  | a :: ls, b :: ms, h, h1, h2, e => by
    rw [List.flatten_cons, List.flatten_cons] at e
    obtain ⟨e1, e2⟩ := List.append_inj e (by rw [h1 a (.head _), h2 b (.head _)])
    rw [e1, flat_inj (by simpa using h) (fun x hx => h1 x (.tail _ hx)) (fun x hx => h2 x (.tail _ hx)) e2]
theorem rev_get {l : List Nat} {i : Nat} (h : i < l.length) : l.reverse.getD i 0 = l.getD (l.length - 1 - i) 0 := by
  simp [List.getD_eq_getElem?_getD, List.getElem?_reverse h]
section
variable {w o : List Nat} {cr : Bool} (B : Body w cr w.length o)
include B
theorem led_surj : ∀ (k : Nat) {x : Nat}, x < w.length → ∃ p, p < w.length ∧ ledF o p k = x
  | 0, x, hx => ⟨x, hx, rfl⟩
  | k + 1, x, hx => by
    have hl : o.length = w.length := by rw [B.perm.length_eq, List.length_range]
    obtain ⟨i, hi, e⟩ := List.mem_iff_getElem.mp (B.perm.mem_iff.mpr (List.mem_range.mpr hx))
    obtain ⟨p, hp, e2⟩ := led_surj k (x := i) (by omega)
    exact ⟨p, hp, by rw [ledF_succ, e2, List.getD_eq_getElem?_getD, List.getElem?_eq_getElem hi, e]; rfl⟩
/-- a word that never rises: its letters are the sorted ones from the end -/
theorem falls (hf : ∀ a b, a ≤ b → b < w.length → w.getD b 0 ≤ w.getD a 0) {x : Nat} (hx : x < w.length) : w.getD (o.getD (w.length - 1 - x) 0) 0 = w.getD x 0 := by
  have hl : o.length = w.length := by rw [B.perm.length_eq, List.length_range]
  have e : (o.map fun k => w.getD k 0) = w.reverse := by
    have pm : (o.map fun k => w.getD k 0).Perm w := by
      refine (B.perm.map fun k => w.getD k 0).trans (List.Perm.of_eq ?_)
      refine List.ext_getElem (by simp) fun i h1 h2 => ?_
      simp at h1 h2
      simp [List.getD_eq_getElem?_getD, h2]
    refine (pm.trans (List.reverse_perm w).symm).eq_of_pairwise (le := (· ≤ ·)) (fun a b _ _ h1 h2 => Nat.le_antisymm h1 h2) ?_ ?_
    · rw [List.pairwise_map]
      refine B.srt.imp fun h => ?_
      rcases h with h | h
      · exact Nat.le_of_lt h
      · exact Nat.le_of_eq h.1
    · rw [List.pairwise_reverse, List.pairwise_iff_getElem]
      intro i j h1 h2 h3
      have := hf i j (by omega (splitDisjunctions := true)) h2
      rw [List.getD_eq_getElem?_getD, List.getD_eq_getElem?_getD, List.getElem?_eq_getElem h1, List.getElem?_eq_getElem h2] at this
      exact this
  have := congrArg (fun l => l.getD (w.length - 1 - x) 0) e
  rw [rev_get (by omega (splitDisjunctions := true)), show w.length - 1 - (w.length - 1 - x) = x by omega (splitDisjunctions := true)] at this
  rw [← this]
  rw [List.getD_eq_getElem?_getD (l := o.map _), List.getElem?_map, List.getD_eq_getElem?_getD (l := o), List.getElem?_eq_getElem (by omega (splitDisjunctions := true))]
  rfl
theorem turn (hf : ∀ a b, a ≤ b → b < w.length → w.getD b 0 ≤ w.getD a 0) {p : Nat} (hp : p < w.length) : o.getD (w.length - 1 - o.getD p 0) 0 = w.length - 1 - p := by
  have h := B.stp
  have inc : ∀ p q, p < q → q < w.length → w.getD p 0 < w.getD q 0 → False := fun p q a b c => by have := hf p q (by omega (splitDisjunctions := true)) b; omega (splitDisjunctions := true)
  cases cr with
  | true =>
    have dec : ∀ x y, 0 ≤ x → x < y → y < w.length → o.getD y 0 < o.getD x 0 := fun x y _ a b => by
      have r := h.ord x y a b
      have l1 := h.lt x (by omega (splitDisjunctions := true))
      have l2 := h.lt y b
      unfold Rr at r
      rw [if_pos rfl] at r
      rcases r with r | r
      · rcases Nat.lt_or_ge (o.getD y 0) (o.getD x 0) with k | k
        · exact k
        · have := hf _ _ k l2; omega (splitDisjunctions := true)
      · exact r.2
    have e : ∀ x, x < w.length → o.getD x 0 = w.length - 1 - x := fun x hx => by
      have := dec_id (f := fun x => o.getD x 0) (lo := 0) (hi := w.length) (fun x _ b => ⟨Nat.zero_le _, h.lt x b⟩) dec (Nat.zero_le x) hx
      omega (splitDisjunctions := true)
    rw [e p hp, show w.length - 1 - (w.length - 1 - p) = p by omega (splitDisjunctions := true), e p hp]
  | false =>
    have key : ∀ x y, x < y → y < w.length → o.getD (w.length - 1 - o.getD y 0) 0 < o.getD (w.length - 1 - o.getD x 0) 0 := fun x y a b => by
      have l1 := h.lt x (by omega (splitDisjunctions := true))
      have l2 := h.lt y b
      have r := h.ord x y a b
      have f1 := falls B hf l1
      have f2 := falls B hf l2
      have m1 := h.lt (w.length - 1 - o.getD x 0) (by omega (splitDisjunctions := true))
      have m2 := h.lt (w.length - 1 - o.getD y 0) (by omega (splitDisjunctions := true))
      unfold Rr at r
      rw [if_neg (by decide)] at r
      rcases r with r | r
      · rcases Nat.lt_or_ge (o.getD (w.length - 1 - o.getD y 0) 0) (o.getD (w.length - 1 - o.getD x 0) 0) with k | k
        · exact k
        · have := hf _ _ k m2; omega (splitDisjunctions := true)
      · have r2 := h.ord (w.length - 1 - o.getD y 0) (w.length - 1 - o.getD x 0) (by omega (splitDisjunctions := true)) (by omega (splitDisjunctions := true))
        unfold Rr at r2
        rw [if_neg (by decide), f1, f2] at r2
        omega (splitDisjunctions := true)
    have := dec_id (f := fun x => o.getD (w.length - 1 - o.getD x 0) 0) (lo := 0) (hi := w.length) (fun x _ b => ⟨Nat.zero_le _, h.lt _ (by omega (splitDisjunctions := true))⟩) (fun x y _ a b => key x y a b) (Nat.zero_le p) hp
    omega (splitDisjunctions := true)
theorem turns (hf : ∀ a b, a ≤ b → b < w.length → w.getD b 0 ≤ w.getD a 0) {p m : Nat} (hp : p < w.length) : ∀ j, j ≤ m → ledF o (w.length - 1 - ledF o p m) j = w.length - 1 - ledF o p (m - j)
  | 0, _ => rfl
  | j + 1, hj => by
    have ih := turns hf hp (m := m) j (by omega)
    rw [ledF_succ, ih, show m - j = m - (j + 1) + 1 by omega, ledF_succ]
    exact turn B hf (led_lt B.stp _ hp)
theorem mirror_iff (hw : Wd w) : (∀ p, p < w.length → (lineF w o p).reverse = lineF w o (w.length - 1 - ledF o p w.length)) ↔ ∀ k, 1 ≤ k → k < w.length → w.getD k 0 ≤ w.getD (k - 1) 0 := by
  constructor
  · intro hm k k1 k2
    have first : ∀ x, x < w.length → w.getD x 0 = w.getD (o.getD (w.length - 1 - x) 0) 0 := fun x hx => by
      obtain ⟨p, hp, e⟩ := led_surj B w.length hx
      have := congrArg (fun l => l.getD 0 0) (hm p hp)
      rw [rev_get (by rw [lineF_len]; omega), lineF_len, line_get (by omega), line_get (by omega), e, show w.length - 1 - 0 + 1 = w.length by omega] at this
      unfold Xl at this
      rw [e] at this
      exact this
    rw [first k k2, first (k - 1) (by omega)]
    have r := B.stp.ord (w.length - 1 - k) (w.length - 1 - (k - 1)) (by omega) (by omega)
    rcases r with r | r
    · omega
    · exact Nat.le_of_eq r.1
  · intro hk p hp
    have hf : ∀ a b, a ≤ b → b < w.length → w.getD b 0 ≤ w.getD a 0 := by
      have : ∀ a d, a + d < w.length → w.getD (a + d) 0 ≤ w.getD a 0 := by
        intro a d
        induction d with
        | zero => intro _; exact Nat.le_refl _
        | succ d ih =>
          intro hd
          have h1 := ih (by omega)
          have h2 := hk (a + (d + 1)) (by omega) hd
          rw [show a + (d + 1) - 1 = a + d by omega] at h2
          omega
      intro a b hab hb
      have := this a (b - a) (by omega)
      rw [show a + (b - a) = b by omega] at this
      exact this
    refine list_ext (by rw [List.length_reverse, lineF_len, lineF_len]) fun i hi => ?_
    rw [List.length_reverse, lineF_len] at hi
    rw [rev_get (by rw [lineF_len]; exact hi), lineF_len, line_get (by omega), line_get hi]
    unfold Xl
    rw [turns B hf hp (i + 1) (by omega)]
    have l := led_lt B.stp (w.length - (i + 1)) hp
    have f := falls B hf (x := w.length - 1 - ledF o p (w.length - (i + 1))) (by omega)
    rw [show w.length - 1 - (w.length - 1 - ledF o p (w.length - (i + 1))) = ledF o p (w.length - (i + 1)) by omega, ← ledF_succ] at f
    rw [← f]
    congr 2
    omega
theorem mir_ok (hw : Wd w) : (bswF (tabF w o).flatten w.length w.length == (mirF w o).flatten) = (risF w == []) := by
  have tl : (tabF w o).length = w.length := by simp [tabF]
  have te : ∀ x ∈ tabF w o, x.length = w.length := fun x hx => by
    obtain ⟨p, _, rfl⟩ := List.mem_map.mp hx
    exact lineF_len w o p
  have h1 : bswF (tabF w o).flatten w.length w.length = ((tabF w o).map List.reverse).flatten := by
    have := bswF_flat w.length (tabF w o) te
    rw [tl] at this
    exact this
  have me : ∀ x ∈ mirF w o, x.length = w.length := fun x hx => by
    obtain ⟨p, _, rfl⟩ := List.mem_map.mp hx
    exact lineF_len w o _
  rw [h1, Bool.eq_iff_iff, beq_iff_eq, beq_iff_eq]
  have h2 : ((tabF w o).map List.reverse).flatten = (mirF w o).flatten ↔ ∀ p, p < w.length → (lineF w o p).reverse = lineF w o (w.length - 1 - ledF o p w.length) := by
    have e : ((tabF w o).map List.reverse) = (List.range w.length).map fun p => (lineF w o p).reverse := by
      unfold tabF; rw [List.map_map]; rfl
    constructor
    · intro q
      have := flat_inj (n := w.length) (by simp [tabF, mirF]) (fun x hx => by
        obtain ⟨y, hy, rfl⟩ := List.mem_map.mp hx
        rw [List.length_reverse]; exact te y hy) me q
      rw [e] at this
      intro p hp
      exact List.map_inj_left.mp this p (List.mem_range.mpr hp)
    · intro q
      rw [e]
      congr 1
      exact List.map_inj_left.mpr fun p hp => q p (List.mem_range.mp hp)
  rw [h2, mirror_iff B hw]
  unfold risF
  rw [List.filter_eq_nil_iff]
  constructor
  · intro q k hk
    have := List.mem_range'_1.mp hk
    have := q k (by omega) (by omega)
    rw [decide_eq_true_eq]
    omega
  · intro q k k1 k2
    have := q k (List.mem_range'_1.mpr (by omega))
    rw [decide_eq_true_eq] at this
    omega
end

/-! ## the plain law: all -/
theorem ask_ok {w : List Nat} (hw : Wd w) (cr : Bool) (h2 : 2 ≤ w.length) (h7 : w.length ≤ 16) : AskOk w (plBody w cr) cr := by
  have B := plBody_body hw cr
  have h := B.stp
  exact { n2 := h2, n7 := h7, w256 := hw.lt256, ol := h.len, operm := B.perm
          srt := fun p h0 hp => rank_le h hw (by omega) hp
          blk := fun p hp => blk_ok h hw hp
          ring := fun p hp => ring_ok h hw hp
          mir := mir_ok B hw
          last := last_ok h hw (by omega) }
theorem midF_ordS {w : List Nat} (hw : Wd w) : midF (ordS w) = plBody w false := by rw [ordS_plain hw, plainF_row, midF_row]
theorem midF_ordC {w : List Nat} (hw : Wd w) : midF (ordC w) = plBody w true := by rw [ordC_plain hw, plainF_row, midF_row]
theorem law2_ok {l : List Nat} (hw : Wd l) (b : Bool) (h2 : 2 ≤ l.length) (h7 : l.length ≤ 16) : Law2 l b := by
  have ww := wdF_wd hw b
  have wn : (wdF l b).length = l.length := (wdF_perm hw b).length_eq
  have ol : ∀ {v : List Nat}, Wd v → ∀ cr, (plainF v cr).length = v.length + 2 := fun {v} hv cr => by rw [plainF_row, rowS_len, plBody_len hv]
  have rv : Wd (bswF (wdF l b) (wdF l b).length 1) := by rw [bswF_one _ _ rfl]; exact ww.rev
  have rn : (bswF (wdF l b) (wdF l b).length 1).length = l.length := by rw [bswF_one _ _ rfl, List.length_reverse, wn]
  exact { n2 := h2, n7 := h7, l256 := hw.lt256, laid := laid_ok hw
          pl := ⟨ol hw false, fun k hk => by rw [plainF_row, midF_row] at hk; exact (mem_plBody hw).mp hk⟩
          wl := ⟨wn, ww.lt256⟩
          asS := by rw [midF_ordS ww]; exact ask_ok ww false (by omega) (by omega)
          asC := by rw [midF_ordC ww]; exact ask_ok ww true (by omega) (by omega)
          cnt := cnt_ok ww
          fal := fun ns => fal_ok hw ns
          eS := ordS_plain ww, eC := ordC_plain ww
          fl := by rw [fallF_is]; simp [Fl, plBody_len hw]; omega
          ol := ⟨by rw [ordS_plain ww, ol ww]; omega, by rw [ordC_plain ww, ol ww]; omega, by rw [ordS_plain rv, ol rv]; omega⟩ }
theorem letF_len {nm : List Int} (h : nm.length = 8) : (letF nm).length = 2 + ((nm.getD 0 0).fmod 6).toNat := by
  have h0 := Int.fmod_nonneg_of_pos (nm.getD 0 0) (show (0 : Int) < 6 by decide)
  have h1 := Int.fmod_lt_of_pos (nm.getD 0 0) (show (0 : Int) < 6 by decide)
  unfold letF slc
  have e1 : kms_lo (some 1) nm.length = 1 := by rw [h]; rfl
  have e2 : kms_hi (some (3 + (nm.getD 0 0).fmod 6)) nm.length = 3 + ((nm.getD 0 0).fmod 6).toNat := by
    rw [h]
    show (if 3 + (nm.getD 0 0).fmod 6 < 0 then _ else min (3 + (nm.getD 0 0).fmod 6).toNat 8) = _
    rw [if_neg (by omega)]
    omega
  rw [e1, e2, List.length_map, List.length_take, List.length_drop, h]
  omega
theorem letF_wd (nm : List Int) : Wd (letF nm) := fun x hx => by
  obtain ⟨n, _, rfl⟩ := List.mem_map.mp hx
  have h0 := Int.fmod_nonneg_of_pos n (show (0 : Int) < 4 by decide)
  have h1 := Int.fmod_lt_of_pos n (show (0 : Int) < 4 by decide)
  omega
theorem law2_all (ns : List Int) (b : Bool) : Law2 (letF (numF ns)) b := by
  have hl := letF_len (show (numF ns).length = 8 by simp [numF])
  have h1 := Int.fmod_lt_of_pos ((numF ns).getD 0 0) (show (0 : Int) < 6 by decide)
  exact law2_ok (letF_wd _) b (by omega) (by omega)

/-! ## law, the walk -/
noncomputable abbrev FcL (G : Gl) (A : Around) (L f : Addr) (cdv : Value) (g : Heap) (s₀ : Shared) (r : Nat) : Fc := FcX G A "law" (fdS PB 18) L f cdv (cellsFrom (L + 1) (fdS PB 18).names []) g s₀ r
theorem numF_len (ns : List Int) : (numF ns).length = 8 := by simp [numF]
section
variable {G : Gl} {A : Around} {L f : Addr} {cdv : Value} {g : Heap} {s₀ : Shared} {r : Nat} {sc P1 P2 P3 : Addr} {t1 t2 t3 : Option Addr} {R0 : Hp} {ns : List Int} {l0 : List Env} {Q : AFlow → St → Prop}
theorem ex_law (F : Fns G) (hr : 10 ≤ r) (hl : A.frames = some l0) (hP1 : codeHdIn G.K F.cst P1 = true) (hP2 : codeHdIn G.K F.ccr P2 = true) (hP3 : codeHdIn G.K F.cbo P3 = true)
    (hm : RL R0 sc (ns.map V.int)) (hz : ns.length ≤ 63) (ok : Law2 (letF (numF ns)) ((((numF ns).getD 0 0).fdiv 6).fmod 2 == 1)) :
    EX (FcL G A L f cdv g s₀ r) (fdB PB 18) ⟨[("script", .ref sc)], (L + 1 + 1, .cell none) :: (L + 1, .cell none) :: (TB P1 ⟨78, 61, 78, 83⟩ qS t1 ++ (TB P2 ⟨85, 60, 85, 82⟩ qC t2 ++ (TB P3 ⟨97, 23, 97, 38⟩ qBd t3 ++ R0)))⟩
      fun fl st => ∃ t1 t2 t3, fl = .ret (.bool true) ∧ Sub st.hp (TB P1 ⟨78, 61, 78, 83⟩ qS t1 ++ (TB P2 ⟨85, 60, 85, 82⟩ qC t2 ++ (TB P3 ⟨97, 23, 97, 38⟩ qBd t3 ++ R0))) := by
  have d1 := F.NU.1; have d2 := F.LA.1; have d3 := F.ST.1; have d4 := F.CR.1; have d5 := F.PL.1; have d6 := F.BO.1; have d7 := F.AS.1; have d8 := F.W.1
  have b1 := F.blen; have b2 := F.brange; have b3 := F.bbytes; have b4 := F.bba; have b5 := F.bis; have b6 := F.blist; have b7 := F.bso; have b8 := F.bve
  have hmR : ∀ X t1 t2 t3, RL (X ++ (TB P1 ⟨78, 61, 78, 83⟩ qS t1 ++ (TB P2 ⟨85, 60, 85, 82⟩ qC t2 ++ (TB P3 ⟨97, 23, 97, 38⟩ qBd t3 ++ R0)))) sc (ns.map V.int) := fun X t1 t2 t3 => hm.sub (.app _ (.app _ (.app _ (.app _ (.refl _)))))
  conv => arg 2; whnf
  walk_at "ms"
  refine ⟨F.NU.keeper, ca_numbers (c := FcL G A L f cdv g s₀ r) (cd := F.cnu) F.NU (by show 0 < r; omega) b1 b2 (hmR [_, _] _ _ _) hz fun N => ?_⟩
  have hnl := numF_len ns
  generalize numF ns = nm at ok hnl ⊢
  walk_at "m"
  walk_at "comp"
  walk_at "ms"
  refine sb_listI (v := .int (nm.getD 0 0)) (by walk_at "rl") (by decide) (gi (by omega)) (by decide) ?_
  walk_at "ms"
  refine bo_mod (by decide) ?_
  walk_at "ms"
  intro sl
  refine sb_listS (vs := nm.map V.int) (by walk_at "rl") (.int _) (.int _) (by simp; omega) fun D1 => ?_
  rw [slc_map]
  have hsl := slc_length nm (some 1) (some (3 + (nm.getD 0 0).fmod 6))
  refine it_list .here ?_
  refine COMPG.fm0 (fun v => some (.int (1 + (vint v).fmod 4))) (by simp only [List.length_map]; omega) (fun _ => rfl) .here ?_ ?_
  · intro L2 g2 k v loc2 hv2
    obtain ⟨m, hm2, rfl⟩ := ints_get hv2
    walk_at "d"
    walk_at "ms"
    refine bo_mod (by decide) ?_
    walk_at "ms"
    exact ⟨rfl, .refl _⟩
  intro D2
  have eL : ((slc nm (some 1) (some (3 + (nm.getD 0 0).fmod 6))).map V.int).filterMap (fun v => some (V.int (1 + (vint v).fmod 4))) = ((letF nm).map fun n : Nat => (n : Int)).map V.int := by
    unfold letF
    rw [List.filterMap_map, List.map_map, List.map_map, ← List.filterMap_eq_map]
    congr 1
    funext m
    show some (V.int (1 + m.fmod 4)) = some (V.int ((1 + m.fmod 4).toNat : Nat))
    have e : m.fmod 4 = m % 4 := Int.fmod_eq_emod_of_nonneg _ (by decide)
    rw [e]
    congr 2; omega
  rw [eL]
  have hl256 := ok.l256
  have hn7 := ok.n7
  have hn2 := ok.n2
  generalize hlet : letF nm = l at ok hl256 hn7 hn2 ⊢
  walk_at "d"
  walk_at "ms"
  refine ⟨trivial, ca_ty (ca_bytesL (ns := l.map fun n : Nat => (n : Int)) .here (fun n hn => by
    obtain ⟨k, hk, rfl⟩ := List.mem_map.mp hn
    have := hl256 k hk
    omega) (by simp; omega) ?_)⟩
  have eB : (l.map fun n : Nat => (n : Int)).map Int.toNat = l := by rw [List.map_map]; simp [Function.comp_def]
  rw [eB]
  walk_at "ms"
  refine nx_next (TR.preWK (st' := ⟨[("numbers", .ref N)], (N, .list (nm.map V.int)) :: (L + 1 + 1, .cell none) :: (L + 1, .cell (some (.bytes l))) :: (TB P1 ⟨78, 61, 78, 83⟩ qS t1 ++ (TB P2 ⟨85, 60, 85, 82⟩ qC t2 ++ (TB P3 ⟨97, 23, 97, 38⟩ qBd t3 ++ R0)))⟩) ⟨by walk_at "loc", by walk_at "sub"⟩ ?_)
  walk_at "m"
  refine ⟨F.LA.keeper, ca_laid (c := FcL G A L f cdv g s₀ r) (cd := F.cla) F.LA F.INR F.BR (by show 5 ≤ r; omega) b1 b2 (by omega) fun LR E vs hrd => ?_⟩
  have hrd2 : RDs E vs ((laidRows l).map dInts) := by
    rw [← ok.laid, List.map_map]; exact hrd
  clear hrd
  have hvl := rds_len hrd2
  have hpl := ok.pl
  have hml : (midF (plainF l false)).length ≤ 18 := by
    have := slc_length (plainF l false) (some 1) (some (-1))
    unfold midF; omega
  have hlr : (laidRows l).length ≤ 20 := by simp [laidRows]; omega
  rw [List.length_map] at hvl
  walk_at "ms"
  refine nx_next (TR.preWK (st' := ⟨[("laid", .ref LR), ("numbers", .ref N)], (LR, .list vs) :: (N, .list (nm.map V.int)) :: (L + 1 + 1, .cell none) :: (L + 1, .cell (some (.bytes l))) :: (E ++ (TB P1 ⟨78, 61, 78, 83⟩ qS t1 ++ (TB P2 ⟨85, 60, 85, 82⟩ qC t2 ++ (TB P3 ⟨97, 23, 97, 38⟩ qBd t3 ++ R0))))⟩) ⟨by walk_at "loc", ?_⟩ ?_)
  · refine .keep ?_
    exact .perm (List.perm_append_comm_assoc E [_, _, _] _) (.refl _)
  walk_at "m"
  refine ⟨by show 1 ≤ 16777216; decide, fun A1 => ?_⟩
  walk_at "ms"
  refine ⟨by show 1 ≤ 16777216; decide, fun A2 => ?_⟩
  walk_at "d"
  walk_at "comp"
  walk_at "ms"
  refine ⟨F.PL.keeper, ca_plain (c := FcL G A L f cdv g s₀ r) (cd := F.cpl) F.PL (by show 1 ≤ r; omega) b1 b2 (by omega) fun PR => ?_⟩
  walk_at "ms"
  intro sl2
  refine sb_listS (vs := (plainF l false).map fun k : Nat => V.int k) (by walk_at "rl") (.int _) (.int _) (by simp; omega) fun D3 => ?_
  rw [slc_map]
  refine it_list .here ?_
  have emid : slc (plainF l false) (some 1) (some (-1)) = midF (plainF l false) := rfl
  rw [emid]
  have hml2 := hpl.2
  have hlrd : laidRows l = [[9]] ++ ((midF (plainF l false)).map fun k => [((l.getD k 0 : Nat) : Int), (k : Int)]) ++ [[0]] := rfl
  generalize midF (plainF l false) = mp at hml hml2 hlrd ⊢
  walk_at "d"
  refine ⟨fun L2 i ys hp' => ∃ Ds : List Addr, Ds.length = i ∧ ys = Ds.map V.ref ∧ hp' = (D3, .list (mp.map fun k : Nat => V.int k)) :: (A2, .list [.ref A1]) :: (A1, .list [.int 9]) :: (LR, .list vs) :: (N, .list (nm.map V.int)) :: (L + 1 + 1, .cell none) :: (L + 1, .cell (some (.bytes l))) :: (ents (fun i => [V.int (l.getD (mp.getD i 0) 0 : Nat), V.int (mp.getD i 0 : Nat)]) 0 Ds ++ (E ++ (TB P1 ⟨78, 61, 78, 83⟩ qS t1 ++ (TB P2 ⟨85, 60, 85, 82⟩ qC t2 ++ (TB P3 ⟨97, 23, 97, 38⟩ qBd t3 ++ R0))))), by simp; omega, fun L2 => ⟨_, ?_, [], rfl, rfl, rfl⟩, ?_, ?_, ?_⟩
  · exact .keep (.drop (.refl _))
  · rintro L2 i ys _ ⟨Ds, _, _, rfl⟩
    exact .here
  · rintro L2 g2 i v ys loc2 _ hv2 ⟨Ds, rfl, rfl, rfl⟩
    rw [List.getElem?_map] at hv2
    obtain ⟨m, hm2, rfl⟩ := Option.map_eq_some_iff.mp hv2
    have hmo := hml2 m (List.mem_of_getElem? hm2)
    have hmd : mp.getD Ds.length 0 = m := by rw [List.getD_eq_getElem?_getD, hm2]; rfl
    walk_at "ms"
    refine sb_bytesN (n := l.getD m 0) (fun _ _ _ e => by cases e) (by rw [List.getD_eq_getElem?_getD, List.getElem?_eq_getElem (by omega)]; rfl) (by omega) ?_
    walk_at "ms"
    refine ⟨by show 2 ≤ 16777216; decide, fun B => ?_⟩
    refine ⟨_, Sub.perm ((List.perm_middle (l₁ := (D3, .list (mp.map fun k : Nat => V.int k)) :: (A2, .list [.ref A1]) :: (A1, .list [.int 9]) :: (LR, .list vs) :: (N, .list (nm.map V.int)) :: (L + 1 + 1, .cell none) :: (L + 1, .cell (some (.bytes l))) :: (ents (fun i => [V.int (l.getD (mp.getD i 0) 0 : Nat), V.int (mp.getD i 0 : Nat)]) 0 Ds))).symm) (.refl _), Ds ++ [B], by simp, by simp, ?_⟩
    rw [ents_snoc, List.append_assoc, Nat.zero_add, hmd]; rfl
  rintro L2 CL _ _ ⟨Ds, hDl, rfl, rfl⟩
  rw [List.length_map] at hDl
  refine bo_addL (.there (.there .here)) .here (by simp; omega) fun W5 => ?_
  walk_at "ms"
  refine ⟨by show 1 ≤ 16777216; decide, fun Q2 => ?_⟩
  walk_at "ms"
  refine ⟨by show 1 ≤ 16777216; decide, fun W6 => ?_⟩
  walk_at "d"
  refine bo_addL (.there (.there .here)) .here (by simp; omega) fun W7 => ?_
  walk_at "d"
  have hdd : (laidRows l).map dInts = ([dInts [9]] ++ (List.range' 0 Ds.length).map (fun i => dInts [((l.getD (mp.getD i 0) 0 : Nat) : Int), ((mp.getD i 0 : Nat) : Int)])) ++ [dInts [0]] := by
    rw [hDl, hlrd, List.map_append, List.map_append, List.map_map]
    have : ∀ (F : Nat → PyData), (List.range' 0 mp.length).map (fun i => F (mp.getD i 0)) = mp.map F := fun F => by
      refine List.ext_getElem (by simp) fun i h1 h2 => ?_
      simp at h1 h2
      simp [List.getD_eq_getElem?_getD, h2]
    rw [this fun k => dInts [((l.getD k 0 : Nat) : Int), (k : Int)]]
    rfl
  have hsubE : ∀ X : Hp, Sub (X ++ (ents (fun i => [V.int (l.getD (mp.getD i 0) 0 : Nat), V.int (mp.getD i 0 : Nat)]) 0 Ds ++ (E ++ (TB P1 ⟨78, 61, 78, 83⟩ qS t1 ++ (TB P2 ⟨85, 60, 85, 82⟩ qC t2 ++ (TB P3 ⟨97, 23, 97, 38⟩ qBd t3 ++ R0)))))) E := fun X => .app _ (.app _ (Sub.left _ _))
  refine co_neD (x := .ref LR) (y := .ref W7) (d := dRows (laidRows l)) (e := dRows (laidRows l)) (.list (vs := vs) (by walk_at "rl") (hrd2.mono (Sub.rl ?_))) (.list .here ?_) (Nat.le_trans (depth_rows _) (by decide)) (Nat.le_trans (depth_rows _) (by decide)) ?_
  · exact hsubE [_, _, _, _, _, _, _, _, _, _, _, _]
  · rw [hdd]
    refine .append (.append (.cons (RD.ints (.inl (by walk_at "mem"))) .nil) (ents_rds (h := fun i => [V.int (l.getD (mp.getD i 0) 0 : Nat), V.int (mp.getD i 0 : Nat)]) (dd := fun i => [((l.getD (mp.getD i 0) 0 : Nat) : Int), ((mp.getD i 0 : Nat) : Int)]) (fun _ => rfl) 0 Ds fun e he => ?_)) (.cons (RD.ints (.inl (by walk_at "mem"))) .nil)
    repeat (first | exact List.mem_append_left _ he | apply List.Mem.tail)
  rw [eqv_rows, decide_eq_true rfl]
  walk_at "ms"
  refine CN.f rfl ?_
  refine ex_nil (nx_next ?_)
  refine TR.preWK (st' := ⟨[("laid", .ref LR), ("numbers", .ref N)], (LR, .list vs) :: (N, .list (nm.map V.int)) :: (L + 1 + 1, .cell none) :: (L + 1, .cell (some (.bytes l))) :: (E ++ (TB P1 ⟨78, 61, 78, 83⟩ qS t1 ++ (TB P2 ⟨85, 60, 85, 82⟩ qC t2 ++ (TB P3 ⟨97, 23, 97, 38⟩ qBd t3 ++ R0))))⟩) ⟨by walk_at "loc", ?_⟩ ?_
  · exact .drop (.drop (.drop (.drop (.drop (.drop (.drop (.drop (.keep (.keep (.keep (.keep (.app _ (.refl _)))))))))))))
  walk_at "m"
  walk_at "comp"
  walk_at "ms"
  refine it_list (vs := vs) (by walk_at "rl") ?_
  have hrows : ∀ r ∈ laidRows l, 0 < r.length ∧ 0 ≤ r.getD 0 0 ∧ r.getD 0 0 < 256 := fun r hr => by
    rw [hlrd] at hr
    simp only [List.cons_append, List.nil_append, List.mem_cons, List.mem_append, List.mem_map, List.not_mem_nil, or_false] at hr
    rcases hr with rfl | ⟨k, hk, rfl⟩ | rfl
    · decide
    · refine ⟨by simp, ?_, ?_⟩
      · show (0 : Int) ≤ ((l.getD k 0 : Nat) : Int); omega
      · show ((l.getD k 0 : Nat) : Int) < 256
        have := getD_lt (p := k) hl256 (hml2 k hk)
        omega
    · decide
  have hfall : bswF ((laidRows l).map fun r => (r.getD 0 0).toNat) (laidRows l).length 1 = fallF l := rfl
  have hLD0 : 0 < (laidRows l).length := by rw [hlrd]; simp
  clear hlrd
  generalize laidRows l = LD at hrd2 hvl hlr hrows hfall hLD0
  refine ⟨fun L2 i ys hp' => i ≤ LD.length ∧ ys = (LD.take i).map (fun r => V.int (r.getD 0 0)) ∧ hp' = (LR, .list vs) :: (N, .list (nm.map V.int)) :: (L + 1 + 1, .cell none) :: (L + 1, .cell (some (.bytes l))) :: (E ++ (TB P1 ⟨78, 61, 78, 83⟩ qS t1 ++ (TB P2 ⟨85, 60, 85, 82⟩ qC t2 ++ (TB P3 ⟨97, 23, 97, 38⟩ qBd t3 ++ R0)))), by omega, fun L2 => ⟨_, Sub.refl _, by omega, rfl, rfl⟩, ?_, ?_, ?_⟩
  · rintro L2 i ys _ ⟨_, _, rfl⟩
    exact .here
  · rintro L2 g2 i v ys loc2 _ hv2 ⟨hi, rfl, rfl⟩
    have hiv : i < LD.length := by
      rcases Nat.lt_or_ge i vs.length with h | h
      · omega
      · rw [List.getElem?_eq_none h] at hv2; cases hv2
    obtain ⟨a, rfl, ha⟩ := rds_row hrd2 i v hv2
    have ei : LD[i]? = some (LD.getD i []) := by rw [List.getD_eq_getElem?_getD, List.getElem?_eq_getElem hiv]; rfl
    have hrw := hrows _ (List.mem_of_getElem? ei)
    walk_at "d"
    walk_at "ms"
    refine sb_listI (vs := (LD.getD i []).map V.int) (v := .int ((LD.getD i []).getD 0 0)) (ha.sub (.app [_, _, _, _] (Sub.left _ _))) (by decide) (gi hrw.1) (by decide) ?_
    refine ⟨_, Sub.refl _, hiv, ?_, rfl⟩
    rw [List.take_add_one, ei]
    simp
  rintro L2 D4 _ _ ⟨_, rfl, rfl⟩
  rw [hvl, List.take_length]
  have eF : (LD.map fun r => V.int (r.getD 0 0)) = (LD.map fun r => r.getD 0 0).map V.int := by rw [List.map_map]; rfl
  rw [eF]
  walk_at "d"
  walk_at "ms"
  refine ⟨trivial, ca_ty (ca_bytesL (ns := LD.map fun r => r.getD 0 0) .here (fun n hn => by
    obtain ⟨r, hr, rfl⟩ := List.mem_map.mp hn
    exact (hrows r hr).2) (by simp; omega) ?_)⟩
  walk_at "ms"
  refine ⟨trivial, ca_bi (len_listR (vs := vs) (by walk_at "rl") (by omega) ?_)⟩
  walk_at "ms"
  rw [hvl]
  refine ⟨F.W.keeper, ca_swap (c := FcL G A L f cdv g s₀ r) (cd := F.cw) (l := (LD.map fun r : List Int => r.getD 0 0).map Int.toNat) (w := LD.length) (nb := 1) F.W (by show 0 < r; omega) b1 b2 b4 b3 hLD0 (by omega) (by simp) (by simp; omega) (fun x hx => by
    obtain ⟨y, hy, rfl⟩ := List.mem_map.mp hx
    obtain ⟨r, hr, rfl⟩ := List.mem_map.mp hy
    have := (hrows r hr).2
    omega) ?_⟩
  rw [show bswF ((LD.map fun r : List Int => r.getD 0 0).map Int.toNat) LD.length 1 = fallF l by rw [List.map_map]; exact hfall]
  walk_at "ms"
  refine nx_next (TR.preWK (st' := ⟨[("fallen", .bytes (fallF l)), ("numbers", .ref N)], (N, .list (nm.map V.int)) :: (L + 1 + 1, .cell none) :: (L + 1, .cell (some (.bytes l))) :: (TB P1 ⟨78, 61, 78, 83⟩ qS t1 ++ (TB P2 ⟨85, 60, 85, 82⟩ qC t2 ++ (TB P3 ⟨97, 23, 97, 38⟩ qBd t3 ++ R0)))⟩) ⟨by walk_at "loc", ?_⟩ ?_)
  · exact .drop (.drop (.keep (.keep (.keep (.app _ (.refl _))))))
  walk_at "m"
  refine v_ifexpV ?_
  walk_at "ms"
  refine sb_listI (v := .int (nm.getD 0 0)) (by walk_at "rl") (by decide) (gi (by omega)) (by decide) ?_
  walk_at "ms"
  refine bo_fdiv (by decide) (noPylong (by decide)) ?_
  walk_at "ms"
  refine bo_mod (by decide) ?_
  walk_at "ms"
  have hwl := ok.wl
  have hasS := ok.asS
  have hasC := ok.asC
  have hcnt := ok.cnt
  have hfal := ok.fal
  have heS := ok.eS
  have heC := ok.eC
  have hol := ok.ol
  have hfl2 := ok.fl
  have hwd : ∀ b, wdF l b = if b then midF (fallF l) else l := fun _ => rfl
  generalize (((nm.getD 0 0).fdiv 6).fmod 2 == 1) = b at ok hwl hasS hasC hcnt heS heC hol ⊢
  refine ⟨.bytes (wdF l b), ?_, ?_⟩
  · refine CN.by (fun e => ?_) (fun e => ?_)
    · walk_at "ms"
      intro sl3
      refine sb_bytesS (.int _) (.int _) (by omega) ?_
      rw [hwd, if_pos e]
      exact ⟨rfl, rfl⟩
    · walk_at "ms"
      rw [hwd, if_neg (by rw [e]; decide)]
      exact ⟨rfl, rfl⟩
  clear hwd ok
  generalize wdF l b = wd at hwl hasS hasC hcnt heS heC hol ⊢
  obtain ⟨hwl, hw256⟩ := hwl
  walk_at "m"
  refine ⟨F.ST.keeper, ca_ordS' (c := FcL G A L f cdv g s₀ r) (cd := F.cst) (X := [_, _, _]) F.ST F.INR F.BR (by show 6 ≤ r; omega) b1 b2 b6 hP1 (by omega) fun SR t1 => ?_⟩
  walk_at "d"
  walk_at "ms"
  refine nx_next (TR.preWK (st' := ⟨[("straight", .ref SR), ("fallen", .bytes (fallF l))], (SR, .list ((ordS wd).map fun k : Nat => V.int k)) :: (L + 1 + 1, .cell (some (.bytes wd))) :: (L + 1, .cell (some (.bytes l))) :: (TB P1 ⟨78, 61, 78, 83⟩ qS t1 ++ (TB P2 ⟨85, 60, 85, 82⟩ qC t2 ++ (TB P3 ⟨97, 23, 97, 38⟩ qBd t3 ++ R0)))⟩) ⟨by walk_at "loc", .keep (.drop (.refl _))⟩ ?_)
  walk_at "m"
  refine ⟨F.CR.keeper, CA.preWK (st' := ⟨_, ((SR, .list ((ordS wd).map fun k : Nat => V.int k)) :: (L + 1 + 1, .cell (some (.bytes wd))) :: (L + 1, .cell (some (.bytes l))) :: TB P1 ⟨78, 61, 78, 83⟩ qS t1) ++ (TB P2 ⟨85, 60, 85, 82⟩ qC t2 ++ (TB P3 ⟨97, 23, 97, 38⟩ qBd t3 ++ R0))⟩) ⟨.refl _, .refl _⟩ (ca_ordC' (c := FcL G A L f cdv g s₀ r) (cd := F.ccr) F.CR F.INL F.BL (by show 6 ≤ r; omega) b1 b2 b6 hP2 (by omega) fun CR t2 => ?_)⟩
  walk_at "ms"
  refine nx_next (TR.preWK (st' := ⟨[("crossed", .ref CR), ("straight", .ref SR), ("fallen", .bytes (fallF l))], (CR, .list ((ordC wd).map fun k : Nat => V.int k)) :: (SR, .list ((ordS wd).map fun k : Nat => V.int k)) :: (L + 1 + 1, .cell (some (.bytes wd))) :: (L + 1, .cell (some (.bytes l))) :: (TB P1 ⟨78, 61, 78, 83⟩ qS t1 ++ (TB P2 ⟨85, 60, 85, 82⟩ qC t2 ++ (TB P3 ⟨97, 23, 97, 38⟩ qBd t3 ++ R0)))⟩) ⟨by walk_at "loc", .refl _⟩ ?_)
  walk_at "m"
  with_reducible refine eb_plain ?_ rfl
  walk_at "ms"
  intro sl4
  refine sb_listS (vs := (ordS wd).map fun k : Nat => V.int k) (by walk_at "rl") (.int _) (.int _) (by simp; omega) fun D5 => ?_
  rw [slc_map]
  walk_at "ms"
  refine ⟨F.AS.keeper, ca_asked (c := FcL G A L f cdv g s₀ r) (cd := F.cas) (o := midF (ordS wd)) F.AS F.LI F.FL F.LE F.W F.BL F.BR (by show 4 ≤ r; omega) b1 b2 b3 b6 b7 b4 b5 .here hasS ?_⟩
  walk_at "ms"
  refine CN.f rfl ?_
  walk_at "ms"
  with_reducible refine eb_plain ?_ rfl
  walk_at "ms"
  intro sl5
  refine sb_listS (vs := (ordC wd).map fun k : Nat => V.int k) (by walk_at "rl") (.int _) (.int _) (by simp; omega) fun D6 => ?_
  rw [slc_map]
  walk_at "ms"
  refine ⟨F.AS.keeper, ca_asked (c := FcL G A L f cdv g s₀ r) (cd := F.cas) (o := midF (ordC wd)) F.AS F.LI F.FL F.LE F.W F.BL F.BR (by show 4 ≤ r; omega) b1 b2 b3 b6 b7 b4 b5 .here hasC ?_⟩
  walk_at "ms"
  refine CN.f rfl ?_
  refine ex_nil (nx_next ?_)
  refine TR.preWK (st' := ⟨[("crossed", .ref CR), ("straight", .ref SR), ("fallen", .bytes (fallF l))], (CR, .list ((ordC wd).map fun k : Nat => V.int k)) :: (SR, .list ((ordS wd).map fun k : Nat => V.int k)) :: (L + 1 + 1, .cell (some (.bytes wd))) :: (L + 1, .cell (some (.bytes l))) :: (TB P1 ⟨78, 61, 78, 83⟩ qS t1 ++ (TB P2 ⟨85, 60, 85, 82⟩ qC t2 ++ (TB P3 ⟨97, 23, 97, 38⟩ qBd t3 ++ R0)))⟩) ⟨by walk_at "loc", .drop (.drop (.refl _))⟩ ?_
  walk_at "m"
  refine ⟨trivial, ca_bi (len_bytes' (by omega) ?_)⟩
  walk_at "ms"
  refine ⟨F.W.keeper, ca_swap (c := FcL G A L f cdv g s₀ r) (cd := F.cw) (l := wd) (w := wd.length) (nb := 1) F.W (by show 0 < r; omega) b1 b2 b4 b3 (by omega) (by omega) (by omega) (by omega) hw256 ?_⟩
  walk_at "ms"
  have hswl := bswF_len wd wd.length 1
  generalize bswF wd wd.length 1 = ws at hcnt hol hswl ⊢
  refine ⟨F.ST.keeper, ca_ordS' (c := FcL G A L f cdv g s₀ r) (cd := F.cst) (X := [_, _, _, _]) F.ST F.INR F.BR (by show 6 ≤ r; omega) b1 b2 b6 hP1 (by omega) fun KR t1 => ?_⟩
  walk_at "d"
  walk_at "ms"
  refine nx_next (TR.preWK (st' := ⟨[("counted", .ref KR), ("crossed", .ref CR), ("straight", .ref SR), ("fallen", .bytes (fallF l))], (KR, .list ((ordS ws).map fun k : Nat => V.int k)) :: (CR, .list ((ordC wd).map fun k : Nat => V.int k)) :: (SR, .list ((ordS wd).map fun k : Nat => V.int k)) :: (L + 1 + 1, .cell (some (.bytes wd))) :: (L + 1, .cell (some (.bytes l))) :: (TB P1 ⟨78, 61, 78, 83⟩ qS t1 ++ (TB P2 ⟨85, 60, 85, 82⟩ qC t2 ++ (TB P3 ⟨97, 23, 97, 38⟩ qBd t3 ++ R0)))⟩) ⟨by walk_at "loc", .refl _⟩ ?_)
  walk_at "m"
  walk_at "comp"
  walk_at "ms"
  intro sl6
  refine sb_listS (vs := (ordS ws).map fun k : Nat => V.int k) (by walk_at "rl") (.int _) (.int _) (by simp; omega) fun D7 => ?_
  rw [slc_map]
  refine it_list .here ?_
  have hmw := slc_length (ordS ws) (some 1) (some (-1))
  refine COMPG.fm0 (fun v => some (.int ((wd.length : Int) - 1 - vint v))) (by simp only [List.length_map]; omega) (fun _ => rfl) .here ?_ ?_
  · intro L2 g2 k v loc2 hv2
    rw [List.getElem?_map] at hv2
    obtain ⟨m, hm2, rfl⟩ := Option.map_eq_some_iff.mp hv2
    walk_at "d"
    walk_at "ms"
    refine ⟨trivial, ca_bi (len_bytes' (by omega) ?_)⟩
    walk_at "ms"
    exact ⟨rfl, .refl _⟩
  intro D8
  have eK : ((slc (ordS ws) (some 1) (some (-1))).map fun k : Nat => V.int k).filterMap (fun v => some (V.int ((wd.length : Int) - 1 - vint v))) = ((midF (ordC wd)).map fun k : Nat => (k : Int)).map V.int := by
    rw [← hcnt, List.filterMap_map, List.map_map, ← List.filterMap_eq_map]
    rfl
  rw [eK]
  walk_at "d"
  walk_at "ms"
  intro sl7
  refine sb_listS (vs := (ordC wd).map fun k : Nat => V.int k) (by walk_at "rl") (.int _) (.int _) (by simp; omega) fun D9 => ?_
  rw [slc_map]
  refine co_neInts (ns := (midF (ordC wd)).map fun k : Nat => (k : Int)) (ms := (midF (ordC wd)).map fun k : Nat => (k : Int)) (by walk_at "rl") (.inl (by rw [List.map_map]; exact .head _)) ?_
  rw [decide_eq_true rfl]
  walk_at "ms"
  refine CN.f rfl ?_
  walk_at "ms"
  with_reducible refine eb_plain ?_ rfl
  walk_at "ms"
  have hKd : ∀ X : Hp, RL (((KR, .list ((ordS ws).map fun k : Nat => V.int k)) :: (CR, .list ((ordC wd).map fun k : Nat => V.int k)) :: (SR, .list ((ordS wd).map fun k : Nat => V.int k)) :: (L + 1 + 1, .cell (some (.bytes wd))) :: (L + 1, .cell (some (.bytes l))) :: X)) KR (((ordS ws).map fun k : Nat => (k : Int)).map V.int) := fun X => .inl (by rw [List.map_map]; exact .head _)
  refine ⟨F.BO.keeper, CA.preWK (st' := ⟨_, ((KR, .list ((ordS ws).map fun k : Nat => V.int k)) :: (CR, .list ((ordC wd).map fun k : Nat => V.int k)) :: (SR, .list ((ordS wd).map fun k : Nat => V.int k)) :: (L + 1 + 1, .cell (some (.bytes wd))) :: (L + 1, .cell (some (.bytes l))) :: (TB P1 ⟨78, 61, 78, 83⟩ qS t1 ++ TB P2 ⟨85, 60, 85, 82⟩ qC t2)) ++ (TB P3 ⟨97, 23, 97, 38⟩ qBd t3 ++ R0)⟩) ⟨.refl _, by simp only [List.cons_append, List.append_assoc]; exact .drop (.drop (.drop (.refl _)))⟩ (ca_bounds' (c := FcL G A L f cdv g s₀ r) (cd := F.cbo) (A := KR) (rvs := ((ordS ws).map fun k : Nat => (k : Int)).map V.int) (rd := ((ordS ws).map fun k : Nat => (k : Int)).map PyData.int) F.BO F.INR F.BR (by show 5 ≤ r; omega) b1 b6 b8 hl hP3 (hKd _) (RDs.ints _) (by simp; omega) (by
    have : ∀ l : List Int, PyData.depthAll (l.map PyData.int) ≤ 10 := fun l => depthAll_map PyData.int 10 (fun a => by simp [PyData.depth]) l
    exact this _) (by
    have := eqv_ints ((ordS ws).map fun k : Nat => (k : Int)) ((ordS ws).map fun k : Nat => (k : Int))
    rw [decide_eq_true rfl] at this
    exact this) fun t3 => ?_)⟩
  walk_at "ms"
  refine CN.f rfl ?_
  refine ex_nil (nx_next ?_)
  refine TR.preWK (st' := ⟨[("crossed", .ref CR), ("straight", .ref SR), ("fallen", .bytes (fallF l))], (CR, .list ((ordC wd).map fun k : Nat => V.int k)) :: (SR, .list ((ordS wd).map fun k : Nat => V.int k)) :: (L + 1 + 1, .cell (some (.bytes wd))) :: (L + 1, .cell (some (.bytes l))) :: (TB P1 ⟨78, 61, 78, 83⟩ qS t1 ++ (TB P2 ⟨85, 60, 85, 82⟩ qC t2 ++ (TB P3 ⟨97, 23, 97, 38⟩ qBd t3 ++ R0)))⟩) ⟨by walk_at "loc", by simp only [List.cons_append, List.append_assoc]; exact .drop (.refl _)⟩ ?_
  walk_at "m"
  refine ⟨trivial, ca_ty (ca_listB (by omega) fun D10 => ?_)⟩
  walk_at "ms"
  refine ⟨by show 1 ≤ 16777216; decide, fun A3 => ?_⟩
  walk_at "ms"
  refine ⟨trivial, ca_bi (ca_sortedB (by omega) fun D11 ns' hp1 hp2 => ?_)⟩
  have hnsl : ns'.length ≤ 16 := by
    have := hp1.length_eq
    simp at this; omega
  walk_at "ms"
  intro sl8
  refine sb_listRev (vs := ns'.map V.int) (by walk_at "rl") (by simp; omega) fun D12 => ?_
  walk_at "d"
  refine bo_addL (.there (.there .here)) .here (by simp; omega) fun D13 => ?_
  walk_at "ms"
  refine ⟨by show 1 ≤ 16777216; decide, fun A4 => ?_⟩
  walk_at "d"
  refine bo_addL (.there .here) .here (by simp; omega) fun D14 => ?_
  walk_at "d"
  have hf := hfal ns' hp1 hp2
  have efl : (fallF l).map (fun n : Nat => V.int n) = ([0] ++ ns'.reverse ++ [9]).map V.int := by rw [← hf, List.map_map]; rfl
  refine co_neInts (ns := [0] ++ ns'.reverse ++ [9]) (ms := [0] ++ ns'.reverse ++ [9]) (by rw [← efl]; walk_at "rl") (.inl (by rw [List.map_append, List.map_append, List.map_reverse]; exact .head _)) ?_
  rw [decide_eq_true rfl]
  walk_at "ms"
  refine CN.f rfl ?_
  walk_at "m"
  refine v_and2 ?_
  walk_at "ms"
  refine ⟨F.PL.keeper, ca_plain (c := FcL G A L f cdv g s₀ r) (cd := F.cpl) F.PL (by show 1 ≤ r; omega) b1 b2 (by omega) fun PR1 => ?_⟩
  walk_at "ms"
  refine co_eqNats (ns := ordS wd) (ms := plainF wd false) (by walk_at "rl") .here ?_
  rw [decide_eq_true heS]
  walk_at "ms"
  refine ⟨F.PL.keeper, ca_plain (c := FcL G A L f cdv g s₀ r) (cd := F.cpl) F.PL (by show 1 ≤ r; omega) b1 b2 (by omega) fun PR2 => ?_⟩
  walk_at "ms"
  refine co_eqNats (ns := ordC wd) (ms := plainF wd true) (by walk_at "rl") .here ?_
  rw [decide_eq_true heC]
  walk_at "ms"
  exact ⟨t1, t2, t3, rfl, by walk_at "sub"⟩
end

/-! ## from the head to the first state -/
section
variable {h₁ : Heap} {as : List Addr} {p : Program} {loose : List Str} {mean : ExcName → Option Value} {mg mb : Str → Option Value} {K : Frag}
noncomputable def HidOk (h₁ : Heap) (as : List Addr) : Prop := ∀ a ∈ as, ∀ o, h₁.get? a = some o → (∀ es n, o.data ≠ .dict es n) ∧ o.cls ≠ .type "module"
theorem hid_get {b : Addr} {o : Obj} (hh : HidOk h₁ as) (e : h₁.get? b = some o) (hn : (∃ es n, o.data = .dict es n) ∨ o.cls = .type "module") : (hideAll h₁ as).get? b = some o :=
  hideAll_get _ e fun hm => by
    obtain ⟨h1, h2⟩ := hh b hm o e
    rcases hn with ⟨es, n, hd⟩ | hc
    · exact h1 es n hd
    · exact h2 hc
theorem hid_ns {a : Addr} {mm : Str → Option Value} (hh : HidOk h₁ as) (x : h₁.Ns a mm) : (hideAll h₁ as).Ns a mm :=
  let ⟨o, es, ep, e, hd, r⟩ := x; ⟨o, es, ep, hid_get hh e (.inl ⟨es, ep, hd⟩), hd, r⟩
noncomputable abbrev looseT (p : Program) (loose : List Str) : List Str := loose ++ (recsOf p).map (·.name) ++ (litsOf p).map (·.1) ++ (clssOf p loose).map (·.name)
theorem not_loose {x : Str} (h : x ∉ looseT p loose) : x ∉ loose ∧ x ∉ (recsOf p).map (·.name) ∧ x ∉ (litsOf p).map (·.1) ∧ x ∉ (clssOf p loose).map (·.name) := by
  simp only [looseT, List.mem_append, not_or] at h
  exact ⟨h.1.1.1, h.1.1.2, h.1.2, h.2⟩
theorem hid_top (hh : HidOk h₁ as) (T : Top p loose mean mg mb h₁) : Top topProg (looseT p loose) mean mg mb (hideAll h₁ as) := by
  refine { g := hid_ns hh T.g, b := hid_ns hh T.b, builtins := T.builtins, nolimit := ?_, nodigits := ?_, fn := ?_, own := ?_, const := ?_, free := ?_, tab := ?_, bmain := ?_, seer := ?_ }
  · exact T.nolimit.imp fun _ x => ⟨hid_ns hh x.1, x.2⟩
  · exact T.nodigits.imp fun _ x => ⟨hid_ns hh x.1, x.2⟩
  · intro d hd; exact (nomatch (show d ∈ ([] : List DefRec) from hd))
  · intro o ho; exact (nomatch (show o ∈ ([] : List OwnSpec) from ho))
  · intro x d e; exact (nomatch (show (none : Option PyData) = some d from e))
  · intro x h1 h2 _ _ _
    have n := not_loose h2
    exact T.free x h1 n.1 n.2.1 n.2.2.1 n.2.2.2
  · intro d hd; exact (nomatch (show d ∈ ([] : List DefRec) from hd))
  · obtain ⟨bm, ob, m⟩ := T.bmain
    exact ⟨bm, ob, m.1, m.2.1, hid_get hh m.2.2.1 (.inr m.2.2.2.1), m.2.2.2⟩
  · intro e; exact Bool.noConfusion (show false = true from e)
theorem hid_K (X : K.In h₁) (hk : ∀ a ∈ as, K.lookup a = none) : K.In (hideAll h₁ as) := fun a o e => hideAll_get _ (X a o e) fun hm => by rw [hk a hm] at e; cases e
end
theorem start_call {G : Gl} {s₁ : Shared} {as : List Addr} {news : List (Addr × Obj)} {hp : Hp} {r : Nat} {f : Addr} {oc : Value} {od : Option Addr} {osl : Array (Option Value)} {name qual : Str} {params : Arguments} {body : List Stmt} {scope : Scope} {doc pm cdv ct : Value} {an : Option Addr}
    {vals : List Value} {ab : List (Str × V)} {Q : Value → Shared → Prop} {E : Value → Shared → Prop} {Qf : AFlow → St → Prop}
    (top : Top G.p G.loose G.mean G.mg G.mb (hideAll s₁.heap as)) (kin : G.K.In (hideAll s₁.heap as)) (N : ∀ q ∈ news, s₁.heap.get? q.1 = some q.2 ∧ q.1 ∈ as) (nd : (news.map (·.1)).Nodup) (H : All2 ER news hp)
    (hK : G.K.lookup f = some ⟨oc, od, .func (fnX name qual params body scope [] .none .none doc pm an cdv ct), osl⟩) (hcd : codeIn G.K cdv qual = true) (hr : r ≤ 90)
    (hb : ∃ binds, bindArgs (fnX name qual params body scope [] .none .none doc pm an cdv ct) ⟨vals, []⟩ = pure binds ∧ All2 (fun p q => p.1 = q.1 ∧ VR p.2 q.2) binds ab) (hloc : ∀ y ∈ ab, scope.names.lookup y.1 = some .local)
    (hco : scope.isCoroutine = false) (hgen : scope.isGenerator = false) (hk : scope.kind = .function)
    (h : ∀ L A', A'.frames = some [envX qual scope L f cdv (cellsFrom (L + 1) scope.names [])] → EX ⟨G, A', envX qual scope L f cdv (cellsFrom (L + 1) scope.names []), hideAll s₁.heap as, s₁, r, false⟩ body ⟨ab.reverse ++ [], cellEntries (L + 1) scope.names hp⟩ Qf)
    (hQ : ∀ c fl v st s', c.h₀ = hideAll s₁.heap as → c.s₀ = s₁ → Sat c [] st s' → Qf fl st → VR v (retOf fl) → Q v s') : wpN (model G.prog G.w) callerA (call (.ref f) vals) Q E s₁ := by
  have kin₁ : G.K.In s₁.heap := kin.keeps fun b o e => of_hideAll _ e
  obtain ⟨binds, hbind, rb⟩ := hb
  refine wpN_call (codeN_callFn (fd := fnX name qual params body scope [] .none .none doc pm an cdv ct) (by decide) (kin₁ _ _ hK) rfl hco hgen rfl (codeRec_of kin₁ hcd) ?_)
  rw [hbind]
  refine wpN_pure ?_
  have st0 : ∀ b o, (hideAll s₁.heap as).get? b = some o → s₁.heap.get? b = some o := fun b o e => of_hideAll _ e
  have hsz : ∀ o : Obj, ({ s₁ with heap := s₁.heap.push o } : Shared).heap.objs.size = s₁.heap.objs.size + 1 := fun o => Heap.size_push ..
  have S1 : Sat ⟨G, callerA.in1, envX qual scope s₁.heap.objs.size f cdv (cellsFrom (s₁.heap.objs.size + 1) scope.names []), hideAll s₁.heap as, s₁, r, false⟩ [] ⟨[], hp⟩ { s₁ with heap := s₁.heap.push { cls := .type "frame", data := .dict #[] } } := by
    refine ⟨⟨top, kin, rfl, rfl, hk, fun _ => rfl, fun q => by (cases q), ?_, ?_⟩, ⟨fun _ => none, ⟨Heap.Ns.new _ _, fun b o e => Heap.get?_push_of_some _ (st0 _ _ e), ?_⟩, fun x v h => by simp at h⟩, ⟨news, [], ?_, ?_, H, .nil⟩, ⟨_, _, rfl⟩, ?_⟩
    · show callerA.depth + r ≤ 400
      have : callerA.depth ≤ 301 := by decide
      omega
    · show callerA.units + 1 + 10 * r ≤ 1000
      have : callerA.units = 4 := rfl
      omega
    · exact Nat.le_of_eq (hideAll_size _ _)
    · intro q hq
      rw [List.append_nil] at hq
      obtain ⟨h1, h2⟩ := N q hq
      exact ⟨Heap.get?_push_of_some _ h1, Nat.ne_of_lt (Heap.lt_size h1), hideAll_none _ h2⟩
    · rw [List.append_nil]; exact nd
    · intro l hl
      have : l = [] := (Option.some.inj hl).symm
      subst this
      intro e he
      cases he
  have S2 := Sat.cells scope.names S1
  rw [hsz] at S2
  have fin : ∀ (g : Str × Value → PUnit → Sem (ForInStep PUnit)), (∀ n v u, g (n, v) u = (do storeName (envX qual scope s₁.heap.objs.size f cdv (cellsFrom (s₁.heap.objs.size + 1) scope.names [])) n v; pure (.yield ⟨⟩))) → _ := fun g hg =>
    binds_wp (c := ⟨G, callerA.in1, envX qual scope s₁.heap.objs.size f cdv (cellsFrom (s₁.heap.objs.size + 1) scope.names []), hideAll s₁.heap as, s₁, r, false⟩) g hg rb (Q := fun st' => st' = ⟨ab.reverse ++ [], cellEntries (s₁.heap.objs.size + 1) scope.names hp⟩) (bi_locals hloc rfl) S2
  show wpN _ callerA.in1 (newFunctionEnv scope mainGlobals [] binds (qual ++ ".<locals>.") (some f) cdv none builtinsNs) _ _ s₁
  unfold newFunctionEnv
  refine wpN_bind (lift (wpAny_alloc ?_))
  refine wpN_bind (lift (wpAny_layCells _ (fun name kind cells => by cases hkc : kind == NameKind.cell <;> simp [hkc]) _ _ _ _ ?_))
  rw [hsz]
  refine wpN_bind (wpN_mono (fin _ fun _ _ _ => rfl) ?_ fun _ _ x => x.elim)
  rintro _ s' ⟨st', S', rfl⟩
  refine wpN_pure ⟨S'.top.nolimit, codeN_func ?_⟩
  have okd : SubOk (envX qual scope s₁.heap.objs.size f cdv (cellsFrom (s₁.heap.objs.size + 1) scope.names [])) (callerA.deeper (envX qual scope s₁.heap.objs.size f cdv (cellsFrom (s₁.heap.objs.size + 1) scope.names []))) r false := by
    refine ⟨rfl, rfl, hk, fun _ => rfl, fun q => by (cases q), ?_, ?_⟩
    · show callerA.depth + 1 + r ≤ 400
      have : callerA.depth ≤ 301 := by decide
      omega
    · show callerA.units + 3 + 10 * r ≤ 1000
      have : callerA.units = 4 := rfl
      omega
  have S3 := S'.reA okd (frames_deep (A := callerA) hk rfl)
  refine wpN_mono (h s₁.heap.objs.size (callerA.deeper _) rfl [] s' S3) ?_ fun _ _ x => x.elim
  rintro fl s2 ⟨fl', st2, rf, S4, q⟩
  refine hQ _ fl' _ st2 s2 (by rfl) (by rfl) S4 q ?_
  cases rf with
  | ret rv => exact rv
  | next => exact .none
  | brk => exact .none
  | cont => exact .none
theorem good_end {c : ClaimW} {cl : Str → Option Addr} {mean : ExcName → Option Value} {args : List WData} {s₁ s' : Shared} {cc : Fc} {st : St} {tabs : List (Addr × Addr)} {sc : Addr} {o : Obj} (hT : TabsAt tabs s₁.heap) (hr : ∀ cls, c.raises args cls = false) (hp : c.post args (.bool true) args = true)
    (S : Sat cc [] st s') (h0 : cc.h₀ = hideAll s₁.heap (tabs.map (·.2) ++ [sc])) (hs0 : cc.s₀ = s₁) (ht : ∀ q ∈ tabs, ∃ pos t, (q.2, AObj.tab pos t) ∈ st.hp) (hsc : (sc, AObj.raw o) ∈ st.hp) (ho : s₁.heap.get? sc = some o) (hg : s₁.gens = #[]) {v : Value} (hv : v = .bool true) : GoodWG c cl mean args s₁ (.ok (.ret v)) s' := by
  subst hv
  obtain ⟨h', tk, e⟩ := S.rest
  have keep : ∀ b o, b ∉ tabs.map (·.2) ++ [sc] → s₁.heap.get? b = some o → s'.heap.get? b = some o := fun b o hb e => S.keep₀ b o (by rw [h0]; exact hideAll_get _ e hb)
  have grown : ∀ q ∈ tabs, isCodeTable s₁.heap q.2 ∧ s₁.heap.get? q.2 = some (tabObj #[]) ∧ ∃ ps, s'.heap.get? q.2 = some (tabObj ps) := fun q hq => by
    obtain ⟨pos, t, hm⟩ := ht q hq
    obtain ⟨_, hb, ps, rfl, _⟩ := S.at hm
    exact ⟨((hT q hq).1.tab (hT q hq).2).isCodeTable, (hT q hq).2, ps, hb⟩
  have scr : s'.heap.get? sc = some o := by
    obtain ⟨o', ho', rfl, _⟩ := S.at hsc
    exact ho'
  refine ⟨.inl ⟨_, _, [], rfl, hr, ReadsW.bool true, hp, fun _ => ⟨List.nodup_nil, fun _ hm => (nomatch hm)⟩⟩, ⟨fun b o' e => ?_, fun b o' e => ?_⟩, ?_, ?_⟩
  · by_cases hb : b ∈ tabs.map (·.2)
    · obtain ⟨q, hq, rfl⟩ := List.mem_map.mp hb
      obtain ⟨ht', hb0, ps, hP⟩ := grown q hq
      obtain rfl : tabObj #[] = o' := Option.some.inj (hb0.symm.trans e)
      exact .inr (.inl ⟨ht', rfl, #[], ps, rfl, by rw [Array.empty_append]; exact hP⟩)
    · by_cases hb2 : b = sc
      · subst hb2
        rw [ho] at e
        cases e
        exact .inl scr
      · exact .inl (keep b o' (by simp [hb2]; simpa using hb) e)
  · by_cases hb : b ∈ tabs.map (·.2)
    · obtain ⟨q, hq, rfl⟩ := List.mem_map.mp hb
      obtain ⟨_, _, ps, hP⟩ := grown q hq
      exact ⟨_, hP⟩
    · by_cases hb2 : b = sc
      · subst hb2; exact ⟨_, scr⟩
      · exact ⟨o', keep b o' (by simp [hb2]; simpa using hb) e⟩
  · rw [e, hs0]
  · rw [e, hs0]; exact .of_eq hg

theorem Fn.of {G : Gl} {x : Str} {i : Nat} {f cd : Addr} {oc : Value} {od : Option Addr} {osl : Array (Option Value)} {doc pm ct : Value} {an : Option Addr} (h1 : nsIn G.K mainGlobals x = some (some (.ref f)))
    (h2 : G.K.lookup f = some ⟨oc, od, .func (fnX x x (fdA PB i) (fdB PB i) (fdS PB i) [] .none .none doc pm an (.ref cd) ct), osl⟩) (h3 : codeIn G.K (.ref cd) x = true) : Fn G x i f cd := ⟨h1, _, _, _, _, _, _, _, h2, h3⟩
theorem FnB.of {G : Gl} {x : Str} {i : Nat} {f : Addr} {oc : Value} {od : Option Addr} {osl : Array (Option Value)} {doc pm ct : Value} {an : Option Addr} {T D cd : Addr} {o o' : Obj} {t t' : Tok} {n n' : Nat} {hh : Int} (h1 : nsIn G.K mainGlobals x = some (some (.ref f)))
    (h2 : G.K.lookup f = some ⟨oc, od, .func (fnX x x (fdA PB i) (fdB PB i) (fdS PB i) [] (.ref T) (.ref D) doc pm an (.ref cd) ct), osl⟩) (h3 : codeIn G.K (.ref cd) x = true) (h4 : G.K.lookup T = some o) (h5 : o.data = .seq #[.int 0 t, .none] n)
    (h6 : G.K.lookup D = some o') (h7 : o'.data = .dict #[⟨hh, .str "key" t', .none⟩] n') : FnB G x i f := ⟨h1, _, _, _, _, _, _, _, _, _, _, h2, h3, _, _, _, _, _, _, _, _, _, rfl, h4, h5, rfl, h6, h7⟩
theorem well_list {P : Params} {h : Heap} {sc : Addr} {ns : List Int} {vals : List Value} (w1 : Well P h (.ref sc) (ofPy (.list (ns.map PyData.int)))) (hL : h.IsList sc vals.toArray) : h.get? sc = some (W.listOf vals.toArray 0) := by
  unfold ofPy at w1
  cases w1 with
  | list hget _ =>
    obtain ⟨ol, hol, _, nl, hdl⟩ := hL
    rw [hget] at hol
    cases hol
    cases hdl
    exact hget
theorem finish02 {prog : Program} {w : World} {K : Frag} {p : Program} {loose : List Str} {mean : ExcName → Option Value} {mg mb : Str → Option Value} {s₁ : Shared} {sc fl cl P1 P2 P3 : Addr} {vals : List Value} {ns : List Int} {c : ClaimW} {cla : Str → Option Addr} {mean' : ExcName → Option Value} {args : List WData}
    (T : Top p loose mean mg mb s₁.heap) (KX : K.In s₁.heap) (F : Fns ⟨prog, w, K, topProg, looseT p loose, mean, mg, mb⟩) (hT : TabsAt [(F.cbo, P3), (F.ccr, P2), (F.cst, P1)] s₁.heap) (hP1 : codeHdIn K F.cst P1 = true) (hP2 : codeHdIn K F.ccr P2 = true) (hP3 : codeHdIn K F.cbo P3 = true)
    (nd : [P3, P2, P1].Nodup) (hk : ∀ a ∈ [P3, P2, P1], K.lookup a = none) (hnl : K.all (fun q => !(q.2.cls == .type "list")) = true)
    (hlaw : ∃ oc od osl doc pm an ct, K.lookup fl = some ⟨oc, od, .func (fnX "law" "law" (fdA PB 18) (fdB PB 18) (fdS PB 18) [] .none .none doc pm an (.ref cl) ct), osl⟩) (hlcd : codeIn K (.ref cl) "law" = true)
    (hg : s₁.gens = #[]) (hget : s₁.heap.get? sc = some (W.listOf vals.toArray 0)) (hI : IntsAre vals ns) (hz : ns.length ≤ 63) (hr : ∀ cls, c.raises args cls = false) (hp : c.post args (.bool true) args = true) :
    wpN (model prog w) callerA (call (.ref fl) [.ref sc]) (fun v s' => GoodWG c cla mean' args s₁ (.ok (.ret v)) s') (fun e s' => GoodWG c cla mean' args s₁ (.error e) s') s₁ := by
  have ok := law2_all ns ((((numF ns).getD 0 0).fdiv 6).fmod 2 == 1)
  obtain ⟨oc, od, osl, doc, pm, an, ct, hlk⟩ := hlaw
  have g1 : s₁.heap.get? P1 = some (tabObj #[]) := (hT (F.cst, P1) (by simp)).2
  have g2 : s₁.heap.get? P2 = some (tabObj #[]) := (hT (F.ccr, P2) (by simp)).2
  have g3 : s₁.heap.get? P3 = some (tabObj #[]) := (hT (F.cbo, P3) (by simp)).2
  have hne : ∀ a ∈ [P3, P2, P1], a ≠ sc := fun a ha e => by
    subst e
    have ht : s₁.heap.get? a = some (tabObj #[]) := by
      simp only [List.mem_cons, List.not_mem_nil, or_false] at ha
      rcases ha with rfl | rfl | rfl <;> assumption
    rw [hget] at ht
    cases ht
  have hksc : K.lookup sc = none := by
    cases q : K.lookup sc with
    | none => rfl
    | some o =>
      have h1 := KX _ _ q
      rw [hget] at h1
      cases h1
      have := List.all_eq_true.mp hnl _ (mem_of_lookupK q)
      simp at this
  have hid : HidOk s₁.heap ([P3, P2, P1] ++ [sc]) := fun a ha o ho => by
    simp only [List.cons_append, List.nil_append, List.mem_cons, List.not_mem_nil, or_false] at ha
    rcases ha with rfl | rfl | rfl | rfl
    · rw [g3] at ho; cases ho; exact ⟨fun es n q => by (cases q), by intro q; cases q⟩
    · rw [g2] at ho; cases ho; exact ⟨fun es n q => by (cases q), by intro q; cases q⟩
    · rw [g1] at ho; cases ho; exact ⟨fun es n q => by (cases q), by intro q; cases q⟩
    · rw [hget] at ho; cases ho; exact ⟨fun es n q => by (cases q), by intro q; simp at q⟩
  have top := hid_top hid T
  have kin := hid_K (as := [P3, P2, P1] ++ [sc]) KX fun a ha => by
    rcases List.mem_append.mp ha with h | h
    · exact hk a h
    · rw [List.mem_singleton.mp h]; exact hksc
  refine start_call (G := ⟨prog, w, K, topProg, looseT p loose, mean, mg, mb⟩) (as := [P3, P2, P1] ++ [sc]) (news := [(P1, tabObj #[]), (P2, tabObj #[]), (P3, tabObj #[]), (sc, W.listOf vals.toArray 0)]) (r := 20) (ab := [("script", .ref sc)])
    (hp := TB P1 ⟨78, 61, 78, 83⟩ qS none ++ (TB P2 ⟨85, 60, 85, 82⟩ qC none ++ (TB P3 ⟨97, 23, 97, 38⟩ qBd none ++ [(sc, .raw (W.listOf vals.toArray 0))])))
    top kin ?_ ?_ ?_ hlk hlcd (by decide) ⟨[("script", .ref sc)], by kernel_rfl, .cons ⟨rfl, .ref _⟩ .nil⟩ ?_ (by kernel_rfl) (by kernel_rfl) (by kernel_rfl)
    (Qf := fun fl st => ∃ t1 t2 t3, fl = .ret (.bool true) ∧ Sub st.hp (TB P1 ⟨78, 61, 78, 83⟩ qS t1 ++ (TB P2 ⟨85, 60, 85, 82⟩ qC t2 ++ (TB P3 ⟨97, 23, 97, 38⟩ qBd t3 ++ [(sc, .raw (W.listOf vals.toArray 0))])))) (fun L A' hfr => ?_) ?_
  · intro q hq
    simp only [List.mem_cons, List.not_mem_nil, or_false] at hq
    rcases hq with rfl | rfl | rfl | rfl
    · exact ⟨g1, by simp⟩
    · exact ⟨g2, by simp⟩
    · exact ⟨g3, by simp⟩
    · exact ⟨hget, by simp⟩
  · have h1 := hne P1 (by simp)
    have h2 := hne P2 (by simp)
    have h3 := hne P3 (by simp)
    simp only [List.nodup_cons, List.mem_cons, List.not_mem_nil, or_false, not_or, List.nodup_nil, and_true, not_false_eq_true] at nd
    simp only [List.map_cons, List.map_nil, List.nodup_cons, List.mem_cons, List.not_mem_nil, or_false, not_or, List.nodup_nil, and_true, not_false_eq_true]
    exact ⟨⟨fun e => nd.2 e.symm, fun e => nd.1.2 e.symm, h1⟩, ⟨fun e => nd.1.1 e.symm, h2⟩, h3⟩
  · have tb : ∀ pos, OR (tabObj #[]) (.tab pos none) := fun pos => ⟨#[], rfl, by exact trivial, by rfl⟩
    exact .cons ⟨rfl, tb _⟩ (.cons ⟨rfl, tb _⟩ (.cons ⟨rfl, tb _⟩ (.cons ⟨rfl, rfl, fun es n q => by cases q⟩ .nil)))
  · intro y hy
    rw [List.mem_singleton.mp hy]
    kernel_rfl
  · exact ex_law (L := L) (f := fl) (cdv := .ref cl) (g := hideAll s₁.heap ([P3, P2, P1] ++ [sc])) (s₀ := s₁) (r := 20) F (by decide) hfr hP1 hP2 hP3 (R0 := [(sc, .raw (W.listOf vals.toArray 0))]) (.inr ⟨_, _, .head _, by simpa using IntsAre.all2 hI⟩) hz ok
  · rintro cc flw v st s' hh0 hs0 S ⟨t1, t2, t3, rfl, sub⟩ rv
    have hv : v = .bool true := by
      have rv : VR v (.bool true) := rv
      cases rv; rfl
    refine good_end (tabs := [(F.cbo, P3), (F.ccr, P2), (F.cst, P1)]) (sc := sc) hT hr hp S hh0 hs0 ?_ (sub.mem (List.mem_append_right _ (List.mem_append_right _ (List.mem_append_right _ (.head _))))) hget hg hv
    intro q hq
    simp only [List.mem_cons, List.not_mem_nil, or_false] at hq
    rcases hq with rfl | rfl | rfl
    · exact ⟨_, _, sub.mem (List.mem_append_right _ (List.mem_append_right _ (List.mem_append_left _ (.head _))))⟩
    · exact ⟨_, _, sub.mem (List.mem_append_right _ (List.mem_append_left _ (.head _)))⟩
    · exact ⟨_, _, sub.mem (List.mem_append_left _ (.head _))⟩

/-! the head writes no second copy of what bears such a name -/
theorem main02.tw10264668966064756448 : True := trivial
theorem main02.tw10778061636307832638 : True := trivial
theorem main02.tw3021110913994230559 : True := trivial
theorem main02.tw6583362897440218032 : True := trivial
theorem main02.tw15940745829415924662 : True := trivial
theorem main02.tw12329945641247884951 : True := trivial
theorem main02.tw10976770208975160258 : True := trivial
theorem main02.tw17481872569804978134 : True := trivial
theorem main02.tw10389351332860096316 : True := trivial
theorem main02.tw15541331209123069504 : True := trivial
theorem main02.tw15374589649328408010 : True := trivial
theorem main02.tw15014165643868836039 : True := trivial
theorem main02.tw9237912337624552014 : True := trivial
theorem main02.tw8966456520578277702 : True := trivial
theorem main02.tw2328890986722544577 : True := trivial
theorem main02.tw3107042863268124632 : True := trivial
theorem main02.tw13986197079751346553 : True := trivial
theorem main02.tw8803766717464277760 : True := trivial
theorem main02.tw3459996013248165487 : True := trivial
theorem main02.tw1486839879519227553 : True := trivial
theorem main02.tw9926506692737247496 : True := trivial
theorem main02.tw7153712798661251225 : True := trivial
theorem main02.tw8762693611686123494 : True := trivial
theorem main02.tw13379058824406832113 : True := trivial
theorem main02.tw7655770313754570090 : True := trivial
theorem main02.tw12789891453768214485 : True := trivial
theorem main02.tw17802908395302825672 : True := trivial
theorem main02.tw10651649388955730481 : True := trivial
theorem main02.tw1518853155876398374 : True := trivial
theorem main02.tw1198653838013809225 : True := trivial
theorem main02.tw2982403903818053721 : True := trivial
theorem main02.tw3601698496883779443 : True := trivial
theorem main02.tw11199250321570274462 : True := trivial
theorem main02.tw7932319035604094968 : True := trivial
theorem main02.tw2089424976535934483 : True := trivial
theorem main02.tw10951435651077514426 : True := trivial
theorem main02.tw17993866502540104085 : True := trivial
theorem main02.tw10877248053619569878 : True := trivial
theorem main02.tw9539533980087169760 : True := trivial
theorem main02.tw17747676782208176238 : True := trivial
theorem main02.tw17151004568656499763 : True := trivial
theorem main02.tw13786559894409267281 : True := trivial
theorem main02.tw8400474082293326651 : True := trivial
theorem main02.tw14382394384088945036 : True := trivial
theorem main02.tw8146031899879384706 : True := trivial
theorem main02.tw2358098720789579439 : True := trivial
theorem main02.tw18210380781456343568 : True := trivial
theorem main02.tw2866836649387548345 : True := trivial
theorem main02.tw16178654611083470102 : True := trivial
theorem main02.tw8494550748549007366 : True := trivial
theorem main02.tw12191236447452849446 : True := trivial
theorem main02.tw5165912580069919998 : True := trivial
theorem main02.tw15186062858013475755 : True := trivial
theorem main02.tw13365345990522768098 : True := trivial
theorem main02.tw2346863565646433357 : True := trivial
theorem main02.tw10606576907245836184 : True := trivial
theorem main02.tw3333690306242816494 : True := trivial
theorem main02.tw17576770333875072363 : True := trivial
theorem main02.tw8031526244716789387 : True := trivial
theorem main02.tw9307346987491245897 : True := trivial
theorem main02.tw6930652512575223787 : True := trivial
theorem main02.tw5457288003746698675 : True := trivial
theorem main02.tw13905270251985908143 : True := trivial
theorem main02.tw11152949425044057865 : True := trivial
theorem main02.tw5069928514173727949 : True := trivial
theorem main02.tw2537900554997843409 : True := trivial
theorem main02.tw16828303844257164779 : True := trivial
theorem main02.tw14701677436317225793 : True := trivial
theorem main02.tw9466413345647378135 : True := trivial
theorem main02.tw8372149054227314536 : True := trivial
theorem main02.tw11885056595793190416 : True := trivial
theorem main02.tw5966323149000490055 : True := trivial
theorem main02.tw14450239835678328657 : True := trivial
theorem main02.tw16144142497002888864 : True := trivial
theorem main02.tw3936720768386043702 : True := trivial
theorem main02.tw2092828332158713628 : True := trivial
theorem main02.tw2357700813540308055 : True := trivial
theorem main02.tw17757710941879547562 : True := trivial
theorem main02.tw15390140268300976175 : True := trivial
theorem main02.tw2670990279759751047 : True := trivial
theorem main02.tw4520652672827974824 : True := trivial
theorem main02.tw3886274858064302855 : True := trivial
theorem main02.tw17444573517084401136 : True := trivial
theorem main02.tw10804559075797882023 : True := trivial
theorem main02.tw16385099079001035717 : True := trivial
theorem main02.tw14490457422948166178 : True := trivial
theorem main02.tw18255223419701054899 : True := trivial
theorem main02.tw16061466171826304828 : True := trivial
theorem main02.tw13070775342840738673 : True := trivial
theorem main02.tw15403109574763920991 : True := trivial
theorem main02.tw4093276852581587480 : True := trivial
theorem main02.tw13934721420543170784 : True := trivial
theorem main02.tw7234234295195075680 : True := trivial
theorem main02.tw10399690034254072639 : True := trivial
theorem main02.tw12820823652388895632 : True := trivial
theorem main02.tw3227194337576512339 : True := trivial
theorem main02.tw4466940607081155578 : True := trivial
theorem main02.tw17491837202642814385 : True := trivial
theorem main02.tw3727813930660947545 : True := trivial
theorem main02.tw580589703507810589 : True := trivial
theorem main02.tw6728970644296028908 : True := trivial
theorem main02.tw15797635675910225517 : True := trivial
theorem main02.tw13676134368703827347 : True := trivial
theorem main02.tw4610178948092901364 : True := trivial
theorem main02.tw3595604440570697796 : True := trivial
theorem main02.tw9191629678594404626 : True := trivial
theorem main02.tw9179094334390128873 : True := trivial
theorem main02.tw5999369109147560878 : True := trivial
theorem main02.tw15323323064335375597 : True := trivial
set_option Elab.async true
theorem main02 : PySem.Challenge.rw_pk0058_02.Holds := by
  w_on; o_law; k_head; (case hw => w_witness2)
  k_fill
  intro w s₀ s₁ mg mb G Y fa o pm cd doc dV kV ho hd hcd hD hmg hg args vals as hpre hlay hrd hwl hlo
  have KX := km_in_of Y
  km_tabs Y
  refine Ground.open G ?_
  intro T B D TE TW
  km_lay T hmg ho hd cd
  wrow_args hpre hlay hrd hwl hlo
  rename Well _ _ _ _ => w1
  rename IntsAre _ _ => hI
  rename Heap.IsList _ _ _ => hL
  rename TabsAt _ _ => hT
  rename ¬ _ => hlen
  have e0 := (mg_of KX T.g (show nsIn (main02.heap_1_39 w.params) mainGlobals "law" = some (some (.ref 122)) by kernel_rfl)).symm.trans hmg
  injection e0 with e0
  injection e0 with e0
  subst e0
  refine finish02 (cl := 121) (P1 := 69) (P2 := 76) (P3 := 88) T KX {
    W := Fn.of (by kernel_rfl) rfl (by kernel_rfl)
    NU := Fn.of (by kernel_rfl) rfl (by kernel_rfl)
    LA := Fn.of (by kernel_rfl) rfl (by kernel_rfl)
    ST := Fn.of (by kernel_rfl) rfl (by kernel_rfl)
    CR := Fn.of (by kernel_rfl) rfl (by kernel_rfl)
    PL := Fn.of (by kernel_rfl) rfl (by kernel_rfl)
    BO := Fn.of (by kernel_rfl) rfl (by kernel_rfl)
    LE := Fn.of (by kernel_rfl) rfl (by kernel_rfl)
    LI := Fn.of (by kernel_rfl) rfl (by kernel_rfl)
    FL := Fn.of (by kernel_rfl) rfl (by kernel_rfl)
    AS := Fn.of (by kernel_rfl) rfl (by kernel_rfl)
    INL := FnB.of (T := 33) (D := 34) (cd := 40) (by kernel_rfl) rfl (by kernel_rfl) rfl rfl rfl rfl
    BL := FnB.of (T := 42) (D := 43) (cd := 49) (by kernel_rfl) rfl (by kernel_rfl) rfl rfl rfl rfl
    INR := FnB.of (T := 15) (D := 16) (cd := 22) (by kernel_rfl) rfl (by kernel_rfl) rfl rfl rfl rfl
    BR := FnB.of (T := 24) (D := 25) (cd := 31) (by kernel_rfl) rfl (by kernel_rfl) rfl rfl rfl rfl
    blen := by kernel_rfl
    brange := by kernel_rfl
    bbytes := by kernel_rfl
    bba := by kernel_rfl
    bis := by kernel_rfl
    blist := by kernel_rfl
    bso := by kernel_rfl
    bve := by kernel_rfl
    finr := 23
    fbr := 32
    finl := 41
    fbl := 50
    fw := 57
    fnu := 62
    fla := 67
    fst := 74
    fcr := 81
    fpl := 86
    fbo := 93
    fle := 100
    fli := 107
    ffl := 112
    fas := 117
    cw := 56
    cnu := 61
    cla := 66
    cst := 73
    ccr := 80
    cpl := 85
    cbo := 92
    cle := 99
    cli := 106
    cfl := 111
    cas := 116 } hT (by kernel_rfl) (by kernel_rfl) (by kernel_rfl) (by decide) ?_ (by kernel_rfl) ⟨_, _, _, _, _, _, _, rfl⟩ (by kernel_rfl) hg (well_list w1 hL) hI (by omega) (fun _ => rfl) (by first | rfl | wrow_post)
  intro a ha
  simp only [List.mem_cons, List.not_mem_nil, or_false] at ha
  rcases ha with rfl | rfl | rfl <;> kernel_rfl

end Mine
theorem PySem.Challenge.cw_pk0058_02_holds : PySem.Challenge.rw_pk0058_02.Holds := by
  exact Mine.main02
