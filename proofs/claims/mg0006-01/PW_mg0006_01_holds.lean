import PyProof.Rows.All
import Wide.All
import OpenK.AllK
import Wide.FinOn
import PySem.Challenge.RW_mg0006_01
open PySem PySem.W PyProof.Rows
set_option Elab.async false
set_option linter.unusedVariables false
set_option maxRecDepth 100000
namespace Mine


/-- values, without the marks that tell one int object from another -/
inductive AV where
  | none
  | bool (b : Bool)
  | int (i : Int)
  | ref (a : Addr)
  | raw (v : Value)

noncomputable def Is : AV → Value → Prop
  | .none, v => v = .none
  | .bool b, v => v = .bool b
  | .int i, v => ∃ t, v = .int i t
  | .ref a, v => v = .ref a
  | .raw x, v => v = x

inductive AObj where
  | list (vs : List AV)
  | tup (vs : List AV)
  | dict (kvs : List (Int × AV)) (ep : Nat)
  | set (ks : List Int)
  | ns (l : List (Str × AV))
  | inst (c d : Addr)
  | slots (c d : Addr) (vs : List (Option AV))
  | liter (l : Addr) (i : Nat)
  | raw (o : Obj)

inductive F2 {α β : Type} (R : α → β → Prop) : List α → List β → Prop where
  | nil : F2 R [] []
  | cons {a b as bs} : R a b → F2 R as bs → F2 R (a :: as) (b :: bs)

noncomputable def IsL (as : List AV) (vs : List Value) : Prop := F2 Is as vs
noncomputable def IsP (as : List (Int × AV)) (vs : List (Int × Value)) : Prop := F2 (fun p q => p.1 = q.1 ∧ Is p.2 q.2) as vs

/-- an object's dict: its names in order -/
noncomputable def NsIs (l : List (Str × AV)) (es : List DictEntry) : Prop :=
  F2 (fun (p : Str × AV) (e : DictEntry) => (∃ t, e.key = .str p.1 t) ∧ Is p.2 e.val) l es ∧ (l.map (·.1)).Nodup

/-- a dict with int keys, its pairs in order -/
noncomputable def IsDict (p : Program) (w : World) (o : Obj) (kvs : List (Int × Value)) (ep : Nat) : Prop :=
  ∃ es, o.ExactDict ∧ o.data = .dict es ep ∧ KeysOf (intKind p w) es ∧ Pairs (intKind p w) es.toList kvs ∧ (kvs.map (·.1)).Nodup

/-- a set of ints -/
noncomputable def IsSet (p : Program) (w : World) (o : Obj) (ks : List Int) : Prop :=
  ∃ es ep t, o.ExactSet ∧ o.data = .set es ep t ∧ ElemsOf (intKind p w) es.toList ∧ (∀ k, decide (k ∈ ks) = true ↔ ∃ e ∈ es.toList, (intKind p w).is k e.2 = true)
    ∧ es.size < scanBound ∧ t.fits es.size = true ∧ es.size = ks.length

noncomputable def ORel (p : Program) (w : World) : AObj → Obj → Prop
  | .list as, o => ∃ vs n, IsL as vs ∧ o = { cls := .type "list", data := .seq vs.toArray n }
  | .tup as, o => ∃ vs, IsL as vs ∧ o = { cls := .type "tuple", data := .seq vs.toArray }
  | .dict kvs ep, o => ∃ kvs', IsP kvs kvs' ∧ IsDict p w o kvs' ep
  | .set ks, o => IsSet p w o ks
  | .ns l, o => ∃ es n, NsIs l es ∧ o = dictOf es n
  | .inst c d, o => o = instObj c d
  | .slots c d as, o => ∃ vs : List (Option Value), F2 (fun x y => match x, y with | none, none => True | some a, some v => Is a v | _, _ => False) as vs ∧ o = { cls := .ref c, dict := some d, slots := vs.toArray }
  | .liter l i, o => o = { cls := .type "list_iterator", data := .fields #[.ref l, .int i 0] }
  | .raw o', o => o = o'

noncomputable abbrev AHeap := Addr → Option AObj
noncomputable abbrev Vars := Str → Option AV

noncomputable def AHeap.put (hp : AHeap) (a : Addr) (o : AObj) : AHeap := fun b => if b = a then some o else hp b
noncomputable def Vars.put (vs : Vars) (x : Str) (v : AV) : Vars := fun y => if y = x then some v else vs y

structure Cx where
  prog : Program
  w : World
  h₀ : Heap
  s₀ : Shared
  K : Frag
  p : Program
  loose : List Str
  mg : Str → Option Value
  mb : Str → Option Value
  X : K.In h₀
  T : TopRead p loose mg mb h₀
  lo : sysModules < h₀.objs.size
  nolim : h₀.NoLimit
  fs : List Env

noncomputable def Cx.push (C : Cx) (env : Env) : Cx := { C with fs := env :: C.fs }

/-- as it was; a namespace but for its slots -/
noncomputable def Kept (o o' : Obj) : Prop := o' = o ∨ ((∃ es ep, o.data = .dict es ep) ∧ ∃ sl, o' = { o with slots := sl })
theorem Kept.rfl {o : Obj} : Kept o o := .inl (Eq.refl o)
theorem Kept.data {o o' : Obj} (h : Kept o o') : o'.data = o.data := by rcases h with h | ⟨_, sl, h⟩ <;> rw [h]
theorem Kept.trans {a b c : Obj} (h : Kept a b) (h' : Kept b c) : Kept a c := by
  rcases h' with h' | ⟨_, sl, h'⟩
  · rw [h']; exact h
  · rcases h with h | ⟨d, sl', h⟩
    · subst h; exact .inr ⟨by assumption, sl, h'⟩
    · subst h; exact .inr ⟨d, sl, by rw [h']⟩
theorem Kept.exact {o o' : Obj} (h : Kept o o') (hd : ∀ es ep, o.data ≠ .dict es ep) : o' = o := by
  rcases h with h | ⟨⟨es, ep, e⟩, _⟩
  · exact h
  · exact absurd e (hd es ep)

/-- a frame that waits: its names are held -/
noncomputable def FrameIn (h₀ : Heap) (K : Addr → Option Obj) (e : Env) : Prop := e.scope.kind ≠ .module ∧ ∃ L o es ep, e.frame = some L ∧ K L = some o ∧ o.data = .dict es ep ∧ h₀.get? L = none

structure RelH (C : Cx) (K : Addr → Option Obj) (hp : AHeap) (s : Shared) : Prop where
  base : ∀ a o, C.h₀.get? a = some o → K a = some o
  keepB : ∀ a o, C.h₀.get? a = some o → s.heap.get? a = some o
  keep : ∀ a o, K a = some o → ∃ o', s.heap.get? a = some o' ∧ Kept o o'
  objs : ∀ a ao, hp a = some ao → K a = none ∧ ∃ o, s.heap.get? a = some o ∧ ORel C.prog C.w ao o
  gens : s.gens = C.s₀.gens
  drawn : s.drawn = C.s₀.drawn
  os : s.os = C.s₀.os
  big : C.h₀.objs.size ≤ s.heap.objs.size
  low : ∀ a ao, hp a = some ao → C.h₀.objs.size ≤ a
  frs : ∀ e ∈ C.fs, FrameIn C.h₀ K e

noncomputable def IsU : Unit → Unit → Prop := fun _ _ => True
noncomputable def IsB : Bool → Bool → Prop := Eq

inductive AFlow where
  | next | brk | cont | ret (v : AV)
noncomputable def FlowIs : AFlow → Flow → Prop
  | .next, f => f = .next
  | .brk, f => f = .brk
  | .cont, f => f = .cont
  | .ret a, f => ∃ v, f = .ret v ∧ Is a v

/-- no frame in sight: what a tree does with the heap -/
noncomputable def CW (C : Cx) (A : Around) {α β : Type} (I : α → β → Prop) (t : Sem β) (Q : α → AHeap → Prop) (hp : AHeap) : Prop :=
  ∀ K s, RelH C K hp s → wpAny (model C.prog C.w) A t (fun v s' => ∃ a hp', I a v ∧ RelH C K hp' s' ∧ Q a hp') (fun _ _ => False) s

/-- which names' cells the frame of env owns: those that b does not name as borrowed -/
noncomputable def CellName (env : Env) (x : Str) : Prop := env.kindOf x = some .cell ∨ env.kindOf x = some .free
noncomputable def ownOf (b : Str → Bool) (env : Env) (a : Addr) : Prop := a = env.locals ∨ ∃ x, CellName env x ∧ b x = false ∧ env.cells.lookup x = some a

structure EnvOk (b : Str → Bool) (env : Env) : Prop where
  kind : env.scope.kind = .function
  cellNe : ∀ x c, CellName env x → b x = false → env.cells.lookup x = some c → c ≠ env.locals
  cellInj : ∀ x y c, CellName env x → CellName env y → b x = false → b y = false → env.cells.lookup x = some c → env.cells.lookup y = some c → x = y

structure Rel (C : Cx) (K : Addr → Option Obj) (b : Str → Bool) (env : Env) (vs : Vars) (hp : AHeap) (s : Shared) : Prop where
  h : RelH C K hp s
  hi : C.h₀.objs.size ≤ env.locals
  own : ∀ a, ownOf b env a → K a = none ∧ hp a = none
  loc : ∃ m, s.heap.Ns env.locals m ∧ ∀ x, env.kindOf x = some .local → ∀ a, vs x = some a → ∃ v, m x = some v ∧ Is a v
  cel : ∀ x c, CellName env x → env.cells.lookup x = some c →
    ∃ o ov, s.heap.get? c = some o ∧ o.data = .cell ov ∧ (∀ a, vs x = some a → ∃ v, ov = some v ∧ Is a v) ∧ (b x = true → ∃ o₀, K c = some o₀ ∧ o₀.data = .cell ov)
  frm : env.scope.kind ≠ .module ∧ ∃ L, env.frame = some L ∧ (L = env.locals ∨ ∃ o es ep, K L = some o ∧ o.data = .dict es ep ∧ C.h₀.get? L = none)

noncomputable def AW (C : Cx) (A : Around) (b : Str → Bool) (env : Env) {α β : Type} (I : α → β → Prop) (t : Sem β) (Q : α → Vars → AHeap → Prop) (vs : Vars) (hp : AHeap) : Prop :=
  ∀ K s, Rel C K b env vs hp s →
    wpAny (model C.prog C.w) A t (fun v s' => ∃ a vs' hp', I a v ∧ Rel C K b env vs' hp' s' ∧ Q a vs' hp') (fun _ _ => False) s

section
variable {C : Cx} {A : Around} {b : Str → Bool} {env : Env} {vs : Vars} {hp : AHeap}

theorem wp_noE {M : Model} {A : Around} {α : Type} {t : Sem α} {Q : α → Shared → Prop} {E : Value → Shared → Prop} {s : Shared}
    (h : wpAny M A t Q (fun _ _ => False) s) : wpAny M A t Q E s := wpAny_mono h (fun _ _ x => x) fun _ _ x => x.elim

theorem AW.elim {α β : Type} {I : α → β → Prop} {t : Sem β} {Q : α → Vars → AHeap → Prop} {K : Addr → Option Obj} {s : Shared} (h : AW C A b env I t Q vs hp) (R : Rel C K b env vs hp s) {P : β → Shared → Prop} {E : Value → Shared → Prop}
    (f : ∀ v s' a vs' hp', I a v → Rel C K b env vs' hp' s' → Q a vs' hp' → P v s') : wpAny (model C.prog C.w) A t P E s :=
  wpAny_mono (h K s R) (fun v s' ⟨a, vs', hp', i, R', q⟩ => f v s' a vs' hp' i R' q) fun _ _ x => x.elim

theorem AW.bind {α β α' β' : Type} {I : α → β → Prop} {J : α' → β' → Prop} {m : Sem β} {f : β → Sem β'} {Q : α' → Vars → AHeap → Prop}
    (h : AW C A b env I m (fun a vs' hp' => ∀ v, I a v → AW C A b env J (f v) Q vs' hp') vs hp) : AW C A b env J (m >>= f) Q vs hp :=
  fun K s R => wpAny_bind (wpAny_mono (h K s R) (fun v s' ⟨a, vs', hp', i, R', q⟩ => q v i K s' R') fun _ _ x => x)

theorem AW.pure {α β : Type} {I : α → β → Prop} {a : α} {v : β} {Q : α → Vars → AHeap → Prop} (i : I a v) (h : Q a vs hp) : AW C A b env I (pure v) Q vs hp :=
  fun K s R => wpAny_pure ⟨a, vs, hp, i, R, h⟩

theorem AW.mono {α β : Type} {I : α → β → Prop} {t : Sem β} {Q Q' : α → Vars → AHeap → Prop} (h : AW C A b env I t Q vs hp)
    (hQ : ∀ a vs' hp', Q a vs' hp' → Q' a vs' hp') : AW C A b env I t Q' vs hp :=
  fun K s R => wpAny_mono (h K s R) (fun v s' ⟨a, vs', hp', i, R', q⟩ => ⟨a, vs', hp', i, R', hQ _ _ _ q⟩) fun _ _ x => x

theorem AW.holding {α β : Type} {I : α → β → Prop} {t : Sem β} {l : List Value} {Q : α → Vars → AHeap → Prop} (h : AW C A b env I t Q vs hp) :
    AW C A b env I (holding l t) Q vs hp := fun K s R => wpAny_holding (h K s R)

theorem AW.standAt {pos : Pos} {Q : Unit → Vars → AHeap → Prop} (h : Q () vs hp) : AW C A b env IsU (standAt pos) Q vs hp :=
  fun K s R => wpAny_standAt ⟨(), vs, hp, trivial, R, h⟩

theorem CW.bind {α β α' β' : Type} {I : α → β → Prop} {J : α' → β' → Prop} {m : Sem β} {f : β → Sem β'} {Q : α' → AHeap → Prop}
    (h : CW C A I m (fun a hp' => ∀ v, I a v → CW C A J (f v) Q hp') hp) : CW C A J (m >>= f) Q hp :=
  fun K s R => wpAny_bind (wpAny_mono (h K s R) (fun v s' ⟨a, hp', i, R', q⟩ => q v i K s' R') fun _ _ x => x)

theorem CW.pure {α β : Type} {I : α → β → Prop} {a : α} {v : β} {Q : α → AHeap → Prop} (i : I a v) (h : Q a hp) : CW C A I (pure v) Q hp :=
  fun K s R => wpAny_pure ⟨a, hp, i, R, h⟩

theorem CW.mono {α β : Type} {I : α → β → Prop} {t : Sem β} {Q Q' : α → AHeap → Prop} (h : CW C A I t Q hp)
    (hQ : ∀ a hp', Q a hp' → Q' a hp') : CW C A I t Q' hp :=
  fun K s R => wpAny_mono (h K s R) (fun v s' ⟨a, hp', i, R', q⟩ => ⟨a, hp', i, R', hQ _ _ q⟩) fun _ _ x => x

theorem CW.holding {α β : Type} {I : α → β → Prop} {t : Sem β} {l : List Value} {Q : α → AHeap → Prop} (h : CW C A I t Q hp) :
    CW C A I (holding l t) Q hp := fun K s R => wpAny_holding (h K s R)

theorem RelH.weaken {K K' : Addr → Option Obj} {hp hp' : AHeap} {s : Shared} (R : RelH C K hp s) (hb : ∀ a o, C.h₀.get? a = some o → K' a = some o)
    (hk : ∀ a o, K' a = some o → ∃ o', s.heap.get? a = some o' ∧ Kept o o') (ho : ∀ a ao, hp' a = some ao → hp a = some ao ∧ K' a = none) (hf : ∀ e ∈ C.fs, FrameIn C.h₀ K' e) : RelH C K' hp' s :=
  ⟨hb, R.keepB, hk, fun a ao e => ⟨(ho a ao e).2, (R.objs a ao (ho a ao e).1).2⟩, R.gens, R.drawn, R.os, R.big, fun a ao e => R.low a ao (ho a ao e).1, hf⟩

open Classical in
/-- the frame lent out: its objects kept as they are -/
noncomputable def lend (K : Addr → Option Obj) (own : Addr → Prop) (s : Shared) : Addr → Option Obj :=
  fun a => if own a then s.heap.get? a else K a

theorem RelH.frame {s : Shared} {hp : AHeap} {K : Addr → Option Obj} (R : RelH C K hp s) (C' : Cx) (hC : C' = { C with fs := C'.fs }) (hf : ∀ e ∈ C'.fs, FrameIn C.h₀ K e) : RelH C' K hp s := by
  rw [hC]
  exact ⟨R.base, R.keepB, R.keep, R.objs, R.gens, R.drawn, R.os, R.big, R.low, hf⟩

theorem Rel.lend {K : Addr → Option Obj} {s : Shared} (R : Rel C K b env vs hp s) : RelH (C.push env) (lend K (ownOf b env) s) hp s := by
  have hK : ∀ a o, K a = some o → Mine.lend K (ownOf b env) s a = some o := fun a o e => by
    unfold Mine.lend; rw [if_neg]; exact e
    intro q; rw [(R.own a q).1] at e; cases e
  have R0 : RelH C (Mine.lend K (ownOf b env) s) hp s := by
    refine R.h.weaken (fun a o e => hK a o (R.h.base a o e)) (fun a o e => ?_) (fun a ao e => ⟨e, ?_⟩) fun e he => ?_
    · unfold Mine.lend at e; split at e
      · exact ⟨o, e, .rfl⟩
      · exact R.h.keep a o e
    · unfold Mine.lend; split
      · rename_i q; rw [(R.own a q).2] at e; cases e
      · exact (R.h.objs a ao e).1
    · obtain ⟨h1, L, o, es, ep, h2, h3, h4⟩ := R.h.frs e he
      exact ⟨h1, L, o, es, ep, h2, hK L o h3, h4⟩
  refine R0.frame (C.push env) rfl fun e he => ?_
  rcases List.mem_cons.mp he with rfl | he
  · obtain ⟨h1, L, h2, h3⟩ := R.frm
    refine ⟨h1, L, ?_⟩
    rcases h3 with rfl | ⟨o, es, ep, h3, h4⟩
    · obtain ⟨m, ⟨o, es, ep, ho, hd, _⟩, _⟩ := R.loc
      refine ⟨o, es, ep, h2, ?_, hd, ?_⟩
      · unfold Mine.lend; rw [if_pos (.inl rfl)]; exact ho
      · cases q : C.h₀.get? e.locals with
        | none => rfl
        | some o' => exact absurd (Heap.lt_size q) (Nat.not_lt.mpr R.hi)
    · exact ⟨o, es, ep, h2, hK L o h3, h4⟩
  · exact R0.frs e he

theorem Rel.back {K : Addr → Option Obj} {s s' : Shared} (E : EnvOk b env) (R : Rel C K b env vs hp s) {hp' : AHeap} (R' : RelH (C.push env) (Mine.lend K (ownOf b env) s) hp' s') :
    Rel C K b env vs hp' s' := by
  have kept : ∀ a o, ownOf b env a → s.heap.get? a = some o → ∃ o', s'.heap.get? a = some o' ∧ Kept o o' := fun a o q e =>
    R'.keep a o (by unfold Mine.lend; rw [if_pos q]; exact e)
  have keptK : ∀ a o, K a = some o → ∃ o', s'.heap.get? a = some o' ∧ Kept o o' := fun a o e => by
    refine R'.keep a o ?_
    unfold Mine.lend; rw [if_neg]; exact e
    intro q; rw [(R.own a q).1] at e; cases e
  have hown : ∀ a, ownOf b env a → hp' a = none := fun a q => by
    cases e : hp' a with
    | none => rfl
    | some ao =>
      have h1 := (R'.objs a ao e).1
      unfold Mine.lend at h1; rw [if_pos q] at h1
      exfalso
      rcases q with rfl | ⟨x, hx, _, hc⟩
      · obtain ⟨m, ⟨o, es, ep, ho, _⟩, _⟩ := R.loc; rw [ho] at h1; cases h1
      · obtain ⟨o, ov, ho, _⟩ := R.cel x a hx hc; rw [ho] at h1; cases h1
  refine ⟨⟨R.h.base, R'.keepB, keptK, fun a ao e => ⟨?_, (R'.objs a ao e).2⟩, R'.gens, R'.drawn, R'.os, R'.big, R'.low, R.h.frs⟩, R.hi, fun a q => ⟨(R.own a q).1, hown a q⟩, ?_, ?_, R.frm⟩
  · have h1 := (R'.objs a ao e).1
    unfold Mine.lend at h1; split at h1
    · rename_i q; exact (R.own a q).1
    · exact h1
  · obtain ⟨m, ⟨o, es, ep, ho, hd, r⟩, hm⟩ := R.loc
    obtain ⟨o', ho', k⟩ := kept _ _ (.inl rfl) ho
    exact ⟨m, ⟨o', es, ep, ho', k.data.trans hd, r⟩, hm⟩
  · intro x c hk hc
    obtain ⟨o, ov, ho, hd, hv, hb⟩ := R.cel x c hk hc
    cases hx : b x with
    | false =>
      obtain ⟨o', ho', k⟩ := kept c o (.inr ⟨x, hk, hx, hc⟩) ho
      exact ⟨o', ov, ho', k.data.trans hd, hv, fun q => by cases q⟩
    | true =>
      obtain ⟨o₀, hK, hd₀⟩ := hb hx
      obtain ⟨o', ho', k⟩ := keptK c o₀ hK
      exact ⟨o', ov, ho', k.data.trans hd₀, hv, fun _ => ⟨o₀, hK, hd₀⟩⟩

theorem AW.ofCW {α β : Type} {I : α → β → Prop} {t : Sem β} {Q : α → Vars → AHeap → Prop} (E : EnvOk b env) (h : CW (C.push env) A I t (fun a hp' => Q a vs hp') hp) :
    AW C A b env I t Q vs hp :=
  fun K s R => wpAny_mono (h _ s R.lend) (fun _ _ ⟨a, hp', i, R', q⟩ => ⟨a, vs, hp', i, R.back E R', q⟩) fun _ _ x => x
end

theorem F2.length {α β : Type} {R : α → β → Prop} {as : List α} {bs : List β} (h : F2 R as bs) : bs.length = as.length := by
  induction h with
  | nil => rfl
  | cons _ _ ih => simp [ih]
theorem F2.append {α β : Type} {R : α → β → Prop} {as as' : List α} {bs bs' : List β} (h : F2 R as bs) (h' : F2 R as' bs') : F2 R (as ++ as') (bs ++ bs') := by
  induction h with
  | nil => exact h'
  | cons r _ ih => exact .cons r ih
theorem F2.get {α β : Type} {R : α → β → Prop} {as : List α} {bs : List β} (h : F2 R as bs) : ∀ {i : Nat} {a : α}, as[i]? = some a → ∃ b, bs[i]? = some b ∧ R a b := by
  induction h with
  | nil => intro i a e; simp at e
  | cons r _ ih =>
    intro i a e
    cases i with
    | zero => simp at e; subst e; exact ⟨_, rfl, r⟩
    | succ i => simp at e; simpa using ih e
theorem F2.get' {α β : Type} {R : α → β → Prop} {as : List α} {bs : List β} (h : F2 R as bs) : ∀ {i : Nat} {b : β}, bs[i]? = some b → ∃ a, as[i]? = some a ∧ R a b := by
  induction h with
  | nil => intro i a e; simp at e
  | cons r _ ih =>
    intro i a e
    cases i with
    | zero => simp at e; subst e; exact ⟨_, rfl, r⟩
    | succ i => simp at e; simpa using ih e
theorem F2.take {α β : Type} {R : α → β → Prop} {as : List α} {bs : List β} (h : F2 R as bs) : ∀ n, F2 R (as.take n) (bs.take n) := by
  induction h with
  | nil => intro n; simp; exact .nil
  | cons r _ ih => intro n; cases n with
    | zero => exact .nil
    | succ n => exact .cons r (ih n)
theorem F2.drop {α β : Type} {R : α → β → Prop} {as : List α} {bs : List β} (h : F2 R as bs) : ∀ n, F2 R (as.drop n) (bs.drop n) := by
  induction h with
  | nil => intro n; simp; exact .nil
  | cons r h ih => intro n; cases n with
    | zero => exact .cons r h
    | succ n => exact ih n
theorem F2.set {α β : Type} {R : α → β → Prop} {as : List α} {bs : List β} (h : F2 R as bs) {a : α} {b : β} (r : R a b) : ∀ n, F2 R (as.set n a) (bs.set n b) := by
  induction h with
  | nil => intro n; exact .nil
  | cons r' h ih => intro n; cases n with
    | zero => exact .cons r h
    | succ n => exact .cons r' (ih n)

section
variable {C : Cx} {A : Around} {b : Str → Bool} {env : Env} {vs : Vars} {hp : AHeap} {K : Addr → Option Obj}

/-- nothing that was there has changed -/
theorem RelH.grow {s s' : Shared} (R : RelH C K hp s) (hk : ∀ a o, s.heap.get? a = some o → s'.heap.get? a = some o)
    (g : s'.gens = s.gens) (d : s'.drawn = s.drawn) (o : s'.os = s.os) (z : s.heap.objs.size ≤ s'.heap.objs.size) : RelH C K hp s' :=
  ⟨R.base, fun a o e => hk a o (R.keepB a o e), fun a o e => let ⟨o', ho, k⟩ := R.keep a o e; ⟨o', hk a o' ho, k⟩, fun a ao e => let ⟨k, o, ho, r⟩ := R.objs a ao e; ⟨k, o, hk a o ho, r⟩, g.trans R.gens, d.trans R.drawn, o.trans R.os, Nat.le_trans R.big z, R.low, R.frs⟩

theorem RelH.toks {s : Shared} (R : RelH C K hp s) (n : Nat) : RelH C K hp { s with toks := n } := R.grow (fun _ _ e => e) rfl rfl rfl (Nat.le_refl _)

theorem RelH.lt {s : Shared} (R : RelH C K hp s) {a ao} (e : hp a = some ao) : a < s.heap.objs.size :=
  let ⟨_, o, ho, _⟩ := R.objs a ao e; Heap.lt_size ho
theorem RelH.fresh {s : Shared} (R : RelH C K hp s) : hp s.heap.objs.size = none := by
  cases e : hp s.heap.objs.size with
  | none => rfl
  | some ao => exact absurd (R.lt e) (Nat.lt_irrefl _)

theorem RelH.alloc {s : Shared} (R : RelH C K hp s) {o : Obj} {ao : AObj} (r : ORel C.prog C.w ao o) (hf : (match o.data with | .freed => true | _ => false) = false) :
    RelH C K (hp.put s.heap.objs.size ao) { s with heap := s.heap.push o } := by
  refine ⟨R.base, fun a o' e => Heap.get?_push_of_some _ (R.keepB a o' e), fun a o' e => let ⟨o'', ho, k⟩ := R.keep a o' e; ⟨o'', Heap.get?_push_of_some _ ho, k⟩, fun a ao' e => ?_, R.gens, R.drawn, R.os, Nat.le_trans R.big (by simp [Heap.push]), fun a ao e => ?_, R.frs⟩
  unfold AHeap.put at e
  split at e
  · rename_i q; subst q; cases e
    refine ⟨?_, o, ?_, r⟩
    · cases e : K s.heap.objs.size with
      | none => rfl
      | some o' => obtain ⟨_, h, _⟩ := R.keep _ _ e; exact absurd (Heap.lt_size h) (Nat.lt_irrefl _)
    · obtain ⟨c, d, dt, sl⟩ := o
      cases dt <;> first | (cases hf; done) | simp [Heap.get?, Heap.push]
  · obtain ⟨k, o', ho', r'⟩ := R.objs a ao' e
    exact ⟨k, o', Heap.get?_push_of_some _ ho', r'⟩
  · unfold AHeap.put at e
    split at e
    · rename_i q; subst q; exact R.big
    · exact R.low a ao e

/-- one object of the heap's own changed -/
theorem RelH.change {s : Shared} (R : RelH C K hp s) {d : Addr} {ao ao' : AObj} (e₀ : hp d = some ao) {h' : Heap} {o' : Obj} (ho : h'.get? d = some o') (r : ORel C.prog C.w ao' o')
    (hs : Heap.ExtBut d s.heap h') (z : s.heap.objs.size ≤ h'.objs.size) (n : Nat) : RelH C K (hp.put d ao') { s with heap := h', toks := n } := by
  have kd := (R.objs d ao e₀).1
  refine ⟨R.base, fun a o q => hs a o (fun h => ?_) (R.keepB a o q), fun a o q => let ⟨o', ho, k⟩ := R.keep a o q; ⟨o', hs a o' (fun h => ?_) ho, k⟩, fun a ao'' q => ?_, R.gens, R.drawn, R.os, Nat.le_trans R.big z, fun a ao e => ?_, R.frs⟩
  · have := R.base a o q; rw [h, kd] at this; cases this
  · rw [h, kd] at q; cases q
  · unfold AHeap.put at q
    split at q
    · rename_i h; subst h; cases q; exact ⟨kd, o', ho, r⟩
    · rename_i h
      obtain ⟨k, o'', ho'', r''⟩ := R.objs a ao'' q
      exact ⟨k, o'', hs a o'' h ho'', r''⟩
  · unfold AHeap.put at e
    split at e
    · rename_i q; subst q; exact R.low _ _ e₀
    · exact R.low a ao e

theorem Rel.grow {s s' : Shared} (R : Rel C K b env vs hp s) (hk : ∀ a o, s.heap.get? a = some o → s'.heap.get? a = some o)
    (g : s'.gens = s.gens) (d : s'.drawn = s.drawn) (o : s'.os = s.os) (z : s.heap.objs.size ≤ s'.heap.objs.size) : Rel C K b env vs hp s' :=
  ⟨R.h.grow hk g d o z, R.hi, R.own, let ⟨m, ⟨o, es, ep, ho, r⟩, q⟩ := R.loc; ⟨m, ⟨o, es, ep, hk _ _ ho, r⟩, q⟩,
   fun x c k e => let ⟨o, ov, ho, r⟩ := R.cel x c k e; ⟨o, ov, hk _ _ ho, r⟩, R.frm⟩
theorem Rel.toks {s : Shared} (R : Rel C K b env vs hp s) (n : Nat) : Rel C K b env vs hp { s with toks := n } := R.grow (fun _ _ e => e) rfl rfl rfl (Nat.le_refl _)

theorem Rel.alloc {s : Shared} (R : Rel C K b env vs hp s) {o : Obj} {ao : AObj} (r : ORel C.prog C.w ao o) (hf : (match o.data with | .freed => true | _ => false) = false) :
    Rel C K b env vs (hp.put s.heap.objs.size ao) { s with heap := s.heap.push o } := by
  have hk : ∀ a o', s.heap.get? a = some o' → (s.heap.push o).get? a = some o' := fun a o' e => Heap.get?_push_of_some _ e
  refine ⟨R.h.alloc r hf, R.hi, fun a q => ⟨(R.own a q).1, ?_⟩, let ⟨m, ⟨o, es, ep, ho, r⟩, q⟩ := R.loc; ⟨m, ⟨o, es, ep, hk _ _ ho, r⟩, q⟩,
   fun x c k e => let ⟨o, ov, ho, r⟩ := R.cel x c k e; ⟨o, ov, hk _ _ ho, r⟩, R.frm⟩
  unfold AHeap.put
  split
  · rename_i h; subst h
    exfalso
    rcases q with h | ⟨x, hx, _, hc⟩
    · obtain ⟨m, ⟨o, es, ep, ho, _⟩, _⟩ := R.loc; rw [← h] at ho; exact absurd (Heap.lt_size ho) (Nat.lt_irrefl _)
    · obtain ⟨o, ov, ho, _⟩ := R.cel x _ hx hc; exact absurd (Heap.lt_size ho) (Nat.lt_irrefl _)
  · exact (R.own a q).2

/-! names -/
theorem AW.loadLocal {x : Str} {a : AV} {Q : AV → Vars → AHeap → Prop} (E : EnvOk b env) (hk : env.kindOf x = some .local) (hv : vs x = some a) (h : Q a vs hp) :
    AW C A b env Is (loadName env x) Q vs hp := fun K s R => by
  obtain ⟨m, hn, hm⟩ := R.loc
  obtain ⟨v, e, i⟩ := hm x hk a hv
  exact wpAny_loadName_local E.kind hk hn e ⟨a, vs, hp, i, R, h⟩
theorem AW.loadCell {x : Str} {c : Addr} {a : AV} {Q : AV → Vars → AHeap → Prop} (E : EnvOk b env) (hk : env.kindOf x = some .cell) (hc : env.cells.lookup x = some c) (hv : vs x = some a) (h : Q a vs hp) :
    AW C A b env Is (loadName env x) Q vs hp := fun K s R => by
  obtain ⟨o, ov, ho, hd, hm, _⟩ := R.cel x c (.inl hk) hc
  obtain ⟨v, rfl, i⟩ := hm a hv
  exact wpAny_loadName_cell E.kind hk hc ⟨o, ho, hd⟩ ⟨a, vs, hp, i, R, h⟩
theorem AW.loadFree {x : Str} {c : Addr} {a : AV} {Q : AV → Vars → AHeap → Prop} (E : EnvOk b env) (hk : env.kindOf x = some .free) (hc : env.cells.lookup x = some c) (hv : vs x = some a) (h : Q a vs hp)
    (hn : (x == ("__classdict__" : Str)) = false := by decide) :
    AW C A b env Is (loadName env x) Q vs hp := fun K s R => by
  obtain ⟨o, ov, ho, hd, hm, _⟩ := R.cel x c (.inr hk) hc
  obtain ⟨v, rfl, i⟩ := hm a hv
  exact wpAny_loadName_free E.kind hk hc ⟨o, ho, hd⟩ ⟨a, vs, hp, i, R, h⟩ hn

theorem AW.storeLocal {x : Str} {v : Value} {a : AV} {Q : Unit → Vars → AHeap → Prop} (E : EnvOk b env) (hk : env.kindOf x = some .local) (i : Is a v) (h : Q () (vs.put x a) hp) :
    AW C A b env IsU (storeName env x v) Q vs hp := fun K s R => by
  obtain ⟨m, hn, hm⟩ := R.loc
  refine wpAny_storeName_local hk hn (fun h' hn' hs => ⟨(), vs.put x a, hp, trivial, ?_, h⟩) (by rw [E.kind]; rfl)
  have L0 := R.own _ (.inl rfl)
  have kk : ∀ b o, b ≠ env.locals → s.heap.get? b = some o → h'.get? b = some o := fun b o hb e => hs.extBut b o hb e
  refine ⟨⟨R.h.base, fun a o e => kk a o (fun q => by have := R.h.base a o e; rw [q, L0.1] at this; cases this) (R.h.keepB a o e), fun a o e => let ⟨o', ho, k⟩ := R.h.keep a o e; ⟨o', kk a o' (fun q => by subst q; rw [L0.1] at e; cases e) ho, k⟩, fun a ao e => ?_, R.h.gens, R.h.drawn, R.h.os, by have := hs.1; have := R.h.big; show _ ≤ h'.objs.size; omega, R.h.low, R.h.frs⟩, R.hi, R.own, ⟨_, hn', fun y hy a' e => ?_⟩, fun y c hy hc => ?_, R.frm⟩
  · obtain ⟨k, o, ho, r⟩ := R.h.objs a ao e
    exact ⟨k, o, kk a o (fun q => by subst q; rw [L0.2] at e; cases e) ho, r⟩
  · unfold Vars.put at e
    split at e
    · rename_i q; subst q; cases e; exact ⟨v, by simp, i⟩
    · rename_i q; obtain ⟨v', e', i'⟩ := hm y hy a' e; exact ⟨v', by simp [q, e'], i'⟩
  · obtain ⟨o, ov, ho, hd, hv, hb⟩ := R.cel y c hy hc
    refine ⟨o, ov, kk c o (fun q => ?_) ho, hd, fun a' e => ?_, hb⟩
    · cases hby : b y with
      | false => exact E.cellNe y c hy hby hc q
      | true => obtain ⟨o₀, h1, _⟩ := hb hby; rw [q, L0.1] at h1; cases h1
    · unfold Vars.put at e
      split at e
      · rename_i q; subst q; rcases hy with hy | hy <;> rw [hk] at hy <;> cases hy
      · exact hv a' e

theorem AW.storeCell {x : Str} {c : Addr} {v : Value} {a : AV} {Q : Unit → Vars → AHeap → Prop} (E : EnvOk b env) (hk : env.kindOf x = some .cell) (hc : env.cells.lookup x = some c) (hb : b x = false)
    (i : Is a v) (h : Q () (vs.put x a) hp) :
    AW C A b env IsU (storeName env x v) Q vs hp := fun K s R => by
  obtain ⟨o, ov, ho, hd, _⟩ := R.cel x c (.inl hk) hc
  refine wpAny_storeName_cell E.kind hk hc ⟨o, ho, hd⟩ (fun h' hn' hs => ⟨(), vs.put x a, hp, trivial, ?_, h⟩)
  have L0 := R.own c (.inr ⟨x, .inl hk, hb, hc⟩)
  have kk : ∀ b o, b ≠ c → s.heap.get? b = some o → h'.get? b = some o := fun b o hb e => hs.extBut b o hb e
  refine ⟨⟨R.h.base, fun a o e => kk a o (fun q => by have := R.h.base a o e; rw [q, L0.1] at this; cases this) (R.h.keepB a o e), fun a o e => let ⟨o', ho, k⟩ := R.h.keep a o e; ⟨o', kk a o' (fun q => by subst q; rw [L0.1] at e; cases e) ho, k⟩, fun a ao e => ?_, R.h.gens, R.h.drawn, R.h.os, by have := hs.1; have := R.h.big; show _ ≤ h'.objs.size; omega, R.h.low, R.h.frs⟩, R.hi, R.own, ?_, fun y c' hy hc' => ?_, R.frm⟩
  · obtain ⟨k, o, ho, r⟩ := R.h.objs a ao e
    exact ⟨k, o, kk a o (fun q => by subst q; rw [L0.2] at e; cases e) ho, r⟩
  · obtain ⟨m, ⟨o, es, ep, ho, r⟩, hm⟩ := R.loc
    refine ⟨m, ⟨o, es, ep, kk _ _ (fun q => E.cellNe x c (.inl hk) hb hc q.symm) ho, r⟩, fun y hy a' e => ?_⟩
    unfold Vars.put at e
    split at e
    · rename_i q; subst q; rw [hk] at hy; cases hy
    · exact hm y hy a' e
  · obtain ⟨o', ov', ho', hd', hv', hb'⟩ := R.cel y c' hy hc'
    by_cases q : y = x
    · subst q
      rw [hc] at hc'; cases hc'
      obtain ⟨o1, ho1, hd1⟩ := hn'
      exact ⟨o1, _, ho1, hd1, fun a' e => by simp [Vars.put] at e; subst e; exact ⟨v, rfl, i⟩, fun q => by rw [hb] at q; cases q⟩
    · refine ⟨o', ov', kk c' o' (fun q' => ?_) ho', hd', fun a' e => hv' a' (by simpa [Vars.put, q] using e), hb'⟩
      subst q'
      cases hby : b y with
      | false => exact q (E.cellInj y x c' hy (.inl hk) hby hb hc' hc)
      | true => obtain ⟨o₀, h1, _⟩ := hb' hby; rw [L0.1] at h1; cases h1
end
section
variable {C : Cx} {A : Around} {b : Str → Bool} {env : Env} {vs : Vars} {hp : AHeap} {K : Addr → Option Obj}

/-! the library's frames and made objects, out of a Rel, and back -/
noncomputable def allOf (h : Heap) (p : Addr → Bool) : List (Addr × Obj) := (List.range h.objs.size).filterMap fun a => if p a then (h.get? a).map fun o => (a, o) else none
theorem mem_allOf {h : Heap} {p : Addr → Bool} {q : Addr × Obj} : q ∈ allOf h p ↔ h.get? q.1 = some q.2 ∧ p q.1 = true := by
  unfold allOf
  rw [List.mem_filterMap]
  constructor
  · rintro ⟨a, _, e⟩
    split at e
    · rename_i hp
      cases ho : h.get? a with
      | none => rw [ho] at e; cases e
      | some o => rw [ho] at e; cases e; exact ⟨ho, hp⟩
    · cases e
  · rintro ⟨e, hp⟩
    exact ⟨q.1, List.mem_range.mpr (Heap.lt_size e), by rw [if_pos hp, e]; rfl⟩

theorem Rel.again {s : Shared} (R : Rel C K b env vs hp s) {m : Str → Option Value}
    (hm : ∀ x, env.kindOf x = some .local → ∀ a, vs x = some a → ∃ v, m x = some v ∧ Is a v) {s' : Shared} (hn : s'.heap.Ns env.locals m)
    (hk : ∀ a o, a ≠ env.locals → s.heap.get? a = some o → s'.heap.get? a = some o) (E : EnvOk b env)
    (g : s'.gens = s.gens) (d : s'.drawn = s.drawn) (o : s'.os = s.os) : Rel C K b env vs hp s' := by
  have L0 := R.own _ (.inl rfl)
  refine ⟨⟨R.h.base, fun a o e => hk a o (fun q => by have := R.h.base a o e; rw [q, L0.1] at this; cases this) (R.h.keepB a o e), fun a o e => let ⟨o', ho, k⟩ := R.h.keep a o e; ⟨o', hk a o' (fun q => by subst q; rw [L0.1] at e; cases e) ho, k⟩, fun a ao e => ?_, g.trans R.h.gens, d.trans R.h.drawn, o.trans R.h.os, Nat.le_of_lt (Nat.lt_of_le_of_lt R.hi hn.lt), R.h.low, R.h.frs⟩, R.hi, R.own, ⟨m, hn, hm⟩, fun y c hy hc => ?_, R.frm⟩
  · obtain ⟨k, o, ho, r⟩ := R.h.objs a ao e
    exact ⟨k, o, hk a o (fun q => by subst q; rw [L0.2] at e; cases e) ho, r⟩
  · obtain ⟨o, ov, ho, hd, hv, hb⟩ := R.cel y c hy hc
    refine ⟨o, ov, hk c o (fun q => ?_) ho, hd, hv, hb⟩
    cases hby : b y with
    | false => exact E.cellNe y c hy hby hc q
    | true => obtain ⟨o₀, h1, _⟩ := hb hby; rw [q, L0.1] at h1; cases h1

/-- one of the heap's own objects changed, the others and the frame's names stand -/
theorem Rel.againBut {s : Shared} (R : Rel C K b env vs hp s) {m : Str → Option Value}
    (hm : ∀ x, env.kindOf x = some .local → ∀ a, vs x = some a → ∃ v, m x = some v ∧ Is a v) {s' : Shared} (hn : s'.heap.Ns env.locals m)
    {d : Addr} {ao ao' : AObj} {o' : Obj} (e : hp d = some ao) (ho : s'.heap.get? d = some o') (r : ORel C.prog C.w ao' o')
    (hk : ∀ a o, a ≠ env.locals → a ≠ d → s.heap.get? a = some o → s'.heap.get? a = some o) (E : EnvOk b env)
    (g : s'.gens = s.gens) (dr : s'.drawn = s.drawn) (o : s'.os = s.os) : Rel C K b env vs (hp.put d ao') s' := by
  have L0 := R.own _ (.inl rfl)
  have kd := (R.h.objs d ao e).1
  have dL : d ≠ env.locals := fun q => by subst q; rw [L0.2] at e; cases e
  refine ⟨⟨R.h.base, fun a o e => hk a o (fun q => by have := R.h.base a o e; rw [q, L0.1] at this; cases this) (fun q => by have := R.h.base a o e; rw [q, kd] at this; cases this) (R.h.keepB a o e), fun a o e => let ⟨o', ho, k⟩ := R.h.keep a o e; ⟨o', hk a o' (fun q => by subst q; rw [L0.1] at e; cases e) (fun q => by rw [q, kd] at e; cases e) ho, k⟩, fun a ao'' q => ?_, g.trans R.h.gens, dr.trans R.h.drawn, o.trans R.h.os, Nat.le_of_lt (Nat.lt_of_le_of_lt R.hi hn.lt), fun a ao q => by unfold AHeap.put at q; split at q; (rename_i h; subst h; exact R.h.low _ _ e); exact R.h.low a ao q, R.h.frs⟩, R.hi, fun a q => ⟨(R.own a q).1, ?_⟩, ⟨m, hn, hm⟩, fun y c hy hc => ?_, R.frm⟩
  · unfold AHeap.put at q
    split at q
    · rename_i h; subst h; cases q; exact ⟨kd, o', ho, r⟩
    · rename_i h
      obtain ⟨k, o'', ho'', r''⟩ := R.h.objs a ao'' q
      exact ⟨k, o'', hk a o'' (fun q' => by subst q'; rw [L0.2] at q; cases q) h ho'', r''⟩
  · unfold AHeap.put; split
    · rename_i h; subst h; rw [(R.own _ q).2] at e; cases e
    · exact (R.own a q).2
  · obtain ⟨o, ov, ho, hd, hv, hb⟩ := R.cel y c hy hc
    refine ⟨o, ov, hk c o (fun q => ?_) (fun q => ?_) ho, hd, hv, hb⟩
    · cases hby : b y with
      | false => exact E.cellNe y c hy hby hc q
      | true => obtain ⟨o₀, h1, _⟩ := hb hby; rw [q, L0.1] at h1; cases h1
    · subst q
      cases hby : b y with
      | false => rw [(R.own c (.inr ⟨y, hy, hby, hc⟩)).2] at e; cases e
      | true => obtain ⟨o₀, h1, _⟩ := hb hby; rw [kd] at h1; cases h1

theorem Rel.fr {s : Shared} (R : Rel C K b env vs hp s) : ∃ m, Fr C.h₀ env.locals s.heap m ∧ ∀ x, env.kindOf x = some .local → ∀ a, vs x = some a → ∃ v, m x = some v ∧ Is a v :=
  let ⟨m, hn, hm⟩ := R.loc; ⟨m, ⟨hn, R.h.keepB, R.hi⟩, hm⟩

noncomputable def restOf (C : Cx) (L : Addr) (front : List Addr) (h : Heap) : List (Addr × Obj) :=
  allOf h fun a => decide (a ≠ L) && (C.h₀.get? a).isNone && !front.contains a
theorem news_rest {L : Addr} {front : List Addr} {h : Heap} : News C.h₀ L h (restOf C L front h) := fun p hp => by
  obtain ⟨e, q⟩ := mem_allOf.mp hp
  simp only [Bool.and_eq_true, decide_eq_true_eq, Option.isNone_iff_eq_none] at q
  exact ⟨e, q.1.1, q.1.2⟩
theorem kept_rest {L : Addr} {front : List Addr} {h h' : Heap} (hb : ∀ a o, C.h₀.get? a = some o → h.get? a = some o) (hb' : ∀ a o, C.h₀.get? a = some o → h'.get? a = some o)
    (N : News C.h₀ L h' (restOf C L front h)) {a : Addr} {o : Obj} (hL : a ≠ L) (hf : a ∉ front) (e : h.get? a = some o) : h'.get? a = some o := by
  cases q : C.h₀.get? a with
  | some o' => have := hb a o' q; rw [e] at this; cases this; exact hb' a o q
  | none =>
    refine (N (a, o) (mem_allOf.mpr ⟨e, ?_⟩)).1
    simp [hL, q, hf]

/-! names of the text's top and of the builtins -/
theorem AW.loadGlobal {x : Str} {v : Value} {a : AV} {Q : AV → Vars → AHeap → Prop} (E : EnvOk b env) (hk : env.kindOf x = some .globalImplicit) (hg : env.globals = mainGlobals)
    (e : nsIn C.K mainGlobals x = some (some v)) (i : Is a v) (h : Q a vs hp) : AW C A b env Is (loadName env x) Q vs hp := fun K s R => by
  rw [loadName_read E.kind hk]
  exact Calls.loadGlobal_global (env := env) (hg ▸ C.T.g.keeps R.h.keepB) (mg_of C.X C.T.g e) ⟨a, vs, hp, i, R, h⟩
theorem AW.loadBuiltin {x : Str} {v : Value} {a : AV} {Q : AV → Vars → AHeap → Prop} (E : EnvOk b env) (hk : env.kindOf x = some .globalImplicit) (hg : env.globals = mainGlobals) (hb : env.builtins = builtinsNs)
    (e : nsIn C.K mainGlobals x = some none) (hv : bootBuiltins x = some v) (hn : x ≠ "__name__") (i : Is a v) (h : Q a vs hp) : AW C A b env Is (loadName env x) Q vs hp := fun K s R => by
  rw [loadName_read E.kind hk]
  exact Calls.loadGlobal_builtin (env := env) (hg ▸ C.T.g.keeps R.h.keepB) (mg_none_of C.X C.T.g e)
    (hb ▸ C.T.b.keeps R.h.keepB) ((C.T.builtins x hn).trans hv) ⟨a, vs, hp, i, R, h⟩

/-! expressions -/
theorem AW.Name {x : Str} {pos : Pos} {Q : AV → Vars → AHeap → Prop} (h : AW C A b env Is (loadName env x) Q vs hp) (hd : (x == ("__debug__" : Str)) = false := by decide) :
    AW C A b env Is (eval (.Name x pos) env) Q vs hp := fun K s R => wpAny_Name (h K s R) hd
theorem AW.cInt {i : Int} {k pos} {Q : AV → Vars → AHeap → Prop} (h : Q (.int i) vs hp) : AW C A b env Is (eval (.Constant (.int i) k pos) env) Q vs hp :=
  fun K s R => wpAny_Constant_int ⟨.int i, vs, hp, ⟨_, rfl⟩, R.toks _, h⟩
theorem AW.cNone {k pos} {Q : AV → Vars → AHeap → Prop} (h : Q .none vs hp) : AW C A b env Is (eval (.Constant .none k pos) env) Q vs hp :=
  fun K s R => wpAny_Constant_none ⟨.none, vs, hp, rfl, R, h⟩
theorem AW.cBool {c : Bool} {k pos} {Q : AV → Vars → AHeap → Prop} (h : Q (.bool c) vs hp) : AW C A b env Is (eval (.Constant (.bool c) k pos) env) Q vs hp :=
  fun K s R => wpAny_Constant_bool ⟨.bool c, vs, hp, rfl, R, h⟩

theorem AW.BinOp {l r : Expr} {op : Operator} {pos : Pos} {Q : AV → Vars → AHeap → Prop}
    (h : AW C A b env Is (eval l env) (fun x vs₁ hp₁ => AW C A b env Is (eval r env) (fun y vs₂ hp₂ => ∀ v u, Is x v → Is y u → AW C A b env Is (binaryOp op v u) Q vs₂ hp₂) vs₁ hp₁) vs hp) :
    AW C A b env Is (eval (.BinOp l op r pos) env) Q vs hp := fun K s R =>
  wpAny_BinOp (AW.elim (h) R (fun v s₁ x vs₁ hp₁ i R₁ q => AW.elim (q) R₁ (fun u s₂ y vs₂ hp₂ j R₂ q₂ => q₂ v u i j K s₂ R₂)))
theorem AW.UnaryOp {x : Expr} {op : UnaryOp} {pos : Pos} {Q : AV → Vars → AHeap → Prop}
    (h : AW C A b env Is (eval x env) (fun y vs₁ hp₁ => ∀ v, Is y v → AW C A b env Is (unaryOp op v) Q vs₁ hp₁) vs hp) :
    AW C A b env Is (eval (.UnaryOp op x pos) env) Q vs hp := fun K s R =>
  wpAny_UnaryOp (AW.elim (h) R (fun v s₁ x vs₁ hp₁ i R₁ q => q v i K s₁ R₁))
theorem AW.Compare1 {l r : Expr} {op : CmpOp} {pos : Pos} {Q : AV → Vars → AHeap → Prop}
    (h : AW C A b env Is (eval l env) (fun x vs₁ hp₁ => AW C A b env Is (eval r env) (fun y vs₂ hp₂ => ∀ v u, Is x v → Is y u → AW C A b env Is (compareOp op v u) Q vs₂ hp₂) vs₁ hp₁) vs hp)
    (hm : behindInMarks op r = false := by with_unfolding_all rfl) :
    AW C A b env Is (eval (.Compare l [op] [r] pos) env) Q vs hp := fun K s R =>
  wpAny_Compare1 (AW.elim (h) R (fun v s₁ x vs₁ hp₁ i R₁ q => AW.elim (q) R₁ (fun u s₂ y vs₂ hp₂ j R₂ q₂ => q₂ v u i j K s₂ R₂))) hm
theorem AW.isTrue_Compare1 {l r : Expr} {op : CmpOp} {pos : Pos} {whole : Sem Value} {Q : Bool → Vars → AHeap → Prop}
    (h : AW C A b env Is (eval l env) (fun x vs₁ hp₁ => AW C A b env Is (eval r env) (fun y vs₂ hp₂ => ∀ v u, Is x v → Is y u → AW C A b env Is (compareOp op v u) (fun z vs₃ hp₃ => ∃ c, z = .bool c ∧ Q c vs₃ hp₃) vs₂ hp₂) vs₁ hp₁) vs hp)
    (hm : behindInMarks op r = false := by with_unfolding_all rfl) :
    AW C A b env IsB (isTrue (.Compare l [op] [r] pos) env whole) Q vs hp := fun K s R =>
  wpAny_isTrue_Compare1 (AW.elim (h) R (fun v s₁ x vs₁ hp₁ i R₁ q => AW.elim (q) R₁ (fun u s₂ y vs₂ hp₂ j R₂ q₂ => wpAny_mono (q₂ v u i j K s₂ R₂)
    (fun z s₃ ⟨z', vs₃, hp₃, k, R₃, c, e, q₃⟩ => by subst e; cases k; exact wpAny_truthy_bool ⟨c, vs₃, hp₃, rfl, R₃, q₃⟩) fun _ _ x => x))) hm
theorem AW.isTrue_Not {x : Expr} {pos : Pos} {whole : Sem Value} {Q : Bool → Vars → AHeap → Prop} (h : AW C A b env IsB (isTrue x env (eval x env)) (fun c vs₁ hp₁ => Q (!c) vs₁ hp₁) vs hp) :
    AW C A b env IsB (isTrue (.UnaryOp .Not x pos) env whole) Q vs hp := fun K s R =>
  wpAny_isTrue_Not (AW.elim (h) R (fun v s₁ c vs₁ hp₁ i R₁ q => ⟨!c, vs₁, hp₁, by cases i; rfl, R₁, q⟩))
theorem AW.allAnd_nil {Q : Bool → Vars → AHeap → Prop} (h : Q true vs hp) : AW C A b env IsB (allTrue .And [] env) Q vs hp := fun K s R =>
  wpAny_allTrue_And_nil ⟨true, vs, hp, rfl, R, h⟩
theorem AW.allAnd_cons {x : Expr} {l : List Expr} {Q : Bool → Vars → AHeap → Prop}
    (h : AW C A b env IsB (isTrue x env (eval x env)) (fun c vs₁ hp₁ => if c then AW C A b env IsB (allTrue .And l env) Q vs₁ hp₁ else Q false vs₁ hp₁) vs hp) :
    AW C A b env IsB (allTrue .And (x :: l) env) Q vs hp := fun K s R => by
  refine wpAny_allTrue_And_cons (AW.elim (h) R (fun v s₁ c vs₁ hp₁ i R₁ q => ?_))
  cases i
  cases v
  · exact ⟨false, vs₁, hp₁, rfl, R₁, q⟩
  · exact q K s₁ R₁
theorem AW.allOr_nil {Q : Bool → Vars → AHeap → Prop} (h : Q false vs hp) : AW C A b env IsB (allTrue .Or [] env) Q vs hp := fun K s R =>
  wpAny_allTrue_Or_nil ⟨false, vs, hp, rfl, R, h⟩
theorem AW.allOr_cons {x : Expr} {l : List Expr} {Q : Bool → Vars → AHeap → Prop}
    (h : AW C A b env IsB (isTrue x env (eval x env)) (fun c vs₁ hp₁ => if c then Q true vs₁ hp₁ else AW C A b env IsB (allTrue .Or l env) Q vs₁ hp₁) vs hp) :
    AW C A b env IsB (allTrue .Or (x :: l) env) Q vs hp := fun K s R => by
  refine wpAny_allTrue_Or_cons (AW.elim (h) R (fun v s₁ c vs₁ hp₁ i R₁ q => ?_))
  cases i
  cases v
  · exact q K s₁ R₁
  · exact ⟨true, vs₁, hp₁, rfl, R₁, q⟩
theorem AW.isTrue_BoolOp {op : BoolOp} {l : List Expr} {pos : Pos} {whole : Sem Value} {Q : Bool → Vars → AHeap → Prop} (h : AW C A b env IsB (allTrue op l env) Q vs hp) :
    AW C A b env IsB (isTrue (.BoolOp op l pos) env whole) Q vs hp := fun K s R => wpAny_isTrue_BoolOp (h K s R)
theorem AW.isTrue_value {e : Expr} {whole : Sem Value} {Q : Bool → Vars → AHeap → Prop}
    (h : AW C A b env Is whole (fun x vs₁ hp₁ => ∀ v, Is x v → AW C A b env IsB (truthy v) Q vs₁ hp₁) vs hp)
    (he : isTrue e env whole = (do let v ← whole; PySem.standAt e.pos; PySem.holding [v] (truthy v)) := by with_unfolding_all rfl) : AW C A b env IsB (isTrue e env whole) Q vs hp := fun K s R =>
  isTrue_plain (AW.elim (h) R (fun v s₁ x vs₁ hp₁ i R₁ q => q v i K s₁ R₁)) he
theorem AW.IfExp {t x y : Expr} {pos : Pos} {Q : AV → Vars → AHeap → Prop}
    (h : AW C A b env IsB (isTrue t env (eval t env)) (fun c vs₁ hp₁ => if c then AW C A b env Is (eval x env) Q vs₁ hp₁ else AW C A b env Is (eval y env) Q vs₁ hp₁) vs hp) :
    AW C A b env Is (eval (.IfExp t x y pos) env) Q vs hp := fun K s R =>
  wpAny_IfExp (AW.elim (h) R (fun v s₁ c vs₁ hp₁ i R₁ q => by cases i; cases v <;> exact q K s₁ R₁))
theorem AW.Or2 {x y : Expr} {pos : Pos} {Q : AV → Vars → AHeap → Prop}
    (h : AW C A b env Is (eval x env) (fun z vs₁ hp₁ => ∃ c, z = .bool c ∧ if c then Q (.bool true) vs₁ hp₁ else AW C A b env Is (eval y env) Q vs₁ hp₁) vs hp) :
    AW C A b env Is (eval (.BoolOp .Or [x, y] pos) env) Q vs hp := fun K s R =>
  wpAny_Or2 (AW.elim (h) R (fun v s₁ z vs₁ hp₁ i R₁ ⟨c, e, q⟩ => by
    subst e; cases i; refine wpAny_truthy_bool ?_
    cases c
    · exact q K s₁ R₁
    · exact ⟨.bool true, vs₁, hp₁, rfl, R₁, q⟩))
theorem AW.NamedExpr {t x : Expr} {pos : Pos} {Q : AV → Vars → AHeap → Prop}
    (h : AW C A b env Is (eval x env) (fun z vs₁ hp₁ => ∀ v, Is z v → AW C A b env IsU (assign t env v) (fun _ vs₂ hp₂ => Q z vs₂ hp₂) vs₁ hp₁) vs hp) :
    AW C A b env Is (eval (.NamedExpr t x pos) env) Q vs hp := fun K s R =>
  wpAny_NamedExpr (AW.elim (h) R (fun v s₁ z vs₁ hp₁ i R₁ q => AW.elim (q v i) R₁ (fun _ s₂ _ vs₂ hp₂ _ R₂ q₂ => ⟨z, vs₂, hp₂, i, R₂, q₂⟩)))

theorem AW.splicedNil {Q : List AV → Vars → AHeap → Prop} (h : Q [] vs hp) : AW C A b env IsL (spliced []) Q vs hp := fun K s R => Calls.spliced_nil ⟨[], vs, hp, .nil, R, h⟩
theorem AW.splicedCons {x : Sem Value} {rest : List (Bool × Sem Value)} {Q : List AV → Vars → AHeap → Prop}
    (h : AW C A b env Is x (fun z vs₁ hp₁ => AW C A b env IsL (spliced rest) (fun zs vs₂ hp₂ => Q (z :: zs) vs₂ hp₂) vs₁ hp₁) vs hp) :
    AW C A b env IsL (spliced ((false, x) :: rest)) Q vs hp := fun K s R =>
  Calls.spliced_cons (AW.elim (h) R (fun v s₁ z vs₁ hp₁ i R₁ q => AW.elim (q) R₁ (fun l s₂ zs vs₂ hp₂ j R₂ q₂ => ⟨z :: zs, vs₂, hp₂, .cons i j, R₂, q₂⟩)))
theorem AW.ListD {elts : List Expr} {pos : Pos} {Q : AV → Vars → AHeap → Prop}
    (h : AW C A b env IsL (spliced (backTo pos (starEach elts env))) (fun zs vs₁ hp₁ => zs.length ≤ sizeLine ∧ ∀ a, hp₁ a = none → Q (.ref a) vs₁ (hp₁.put a (.list zs))) vs hp) :
    AW C A b env Is (eval (.List elts pos) env) Q vs hp := fun K s R =>
  wpAny_List (AW.elim (h) R (fun l s₁ zs vs₁ hp₁ i R₁ ⟨hz, q⟩ => ⟨by rw [F2.length i]; exact hz, ⟨.ref _, vs₁, _, rfl, R₁.alloc (ao := .list zs) ⟨l, 0, i, rfl⟩ rfl, q _ R₁.h.fresh⟩⟩))
theorem AW.TupleD {elts : List Expr} {k : Nat} {pos : Pos} {Q : AV → Vars → AHeap → Prop}
    (h : AW C A b env IsL (spliced (backTo pos (starEach elts env))) (fun zs vs₁ hp₁ => zs.length ≤ sizeLine ∧ ∀ a, hp₁ a = none → Q (.ref a) vs₁ (hp₁.put a (.tup zs))) vs hp) :
    AW C A b env Is (eval (.Tuple elts k pos) env) Q vs hp := fun K s R =>
  wpAny_Tuple (AW.elim (h) R (fun l s₁ zs vs₁ hp₁ i R₁ ⟨hz, q⟩ => ⟨by rw [F2.length i]; exact hz, ⟨.ref _, vs₁, _, rfl, R₁.alloc (ao := .tup zs) ⟨l, i, rfl⟩ rfl, q _ R₁.h.fresh⟩⟩))
theorem AW.DictEmpty {pos : Pos} {Q : AV → Vars → AHeap → Prop} (h : ∀ a, hp a = none → Q (.ref a) vs (hp.put a (.dict [] 0))) :
    AW C A b env Is (eval (.Dict [] [] pos) env) Q vs hp := fun K s R =>
  wpAny_Dict_empty ⟨.ref _, vs, _, rfl, R.alloc (ao := .dict [] 0) ⟨[], .nil, #[], ⟨rfl, rfl, rfl⟩, rfl, fun _ h => by simp at h, .nil, by simp⟩ rfl, h _ R.h.fresh⟩

/-! statements -/
theorem AW.execsNil {Q : AFlow → Vars → AHeap → Prop} (h : Q .next vs hp) : AW C A b env FlowIs (execs [] env) Q vs hp := fun K s R => wpAny_execs_nil ⟨.next, vs, hp, rfl, R, h⟩
theorem AW.execsCons0 {st : Stmt} {rest : List Stmt} {Q : AFlow → Vars → AHeap → Prop}
    (h : AW C A b env FlowIs (exec st env) (fun f vs₁ hp₁ => match f with | .next => AW C A b env FlowIs (execs rest env) Q vs₁ hp₁ | f => Q f vs₁ hp₁) vs hp) :
    AW C A b env FlowIs (execs (st :: rest) env) Q vs hp := fun K s R =>
  wpAny_execs_cons (AW.elim (h) R (fun f s₁ f' vs₁ hp₁ i R₁ q => by
    cases f' with
    | next => cases i; exact q K s₁ R₁
    | brk => cases i; exact ⟨.brk, vs₁, hp₁, rfl, R₁, q⟩
    | cont => cases i; exact ⟨.cont, vs₁, hp₁, rfl, R₁, q⟩
    | ret a => obtain ⟨v, rfl, i⟩ := i; exact ⟨.ret a, vs₁, hp₁, ⟨v, rfl, i⟩, R₁, q⟩))
/-- what is behind a statement, by another name -/
structure Nx (C : Cx) (A : Around) (b : Str → Bool) (env : Env) (rest : List Stmt) (Q Q' : AFlow → Vars → AHeap → Prop) : Prop where
  next : ∀ vs hp, AW C A b env FlowIs (execs rest env) Q vs hp → Q' .next vs hp
  oth : ∀ f vs hp, f ≠ .next → Q f vs hp → Q' f vs hp
theorem AW.execsCons {st : Stmt} {rest : List Stmt} {Q : AFlow → Vars → AHeap → Prop} (h : ∀ Q', Nx C A b env rest Q Q' → AW C A b env FlowIs (exec st env) Q' vs hp) : AW C A b env FlowIs (execs (st :: rest) env) Q vs hp :=
  AW.execsCons0 (h _ ⟨fun _ _ x => x, fun f vs hp n q => by cases f <;> first | exact absurd rfl n | exact q⟩)
theorem AW.Pass {pos : Pos} {Q : AFlow → Vars → AHeap → Prop} (h : Q .next vs hp) : AW C A b env FlowIs (exec (.Pass pos) env) Q vs hp := fun K s R => wpAny_Pass ⟨.next, vs, hp, rfl, R, h⟩
theorem AW.Break {pos : Pos} {Q : AFlow → Vars → AHeap → Prop} (h : Q .brk vs hp) : AW C A b env FlowIs (exec (.Break pos) env) Q vs hp := fun K s R => wpAny_Break ⟨.brk, vs, hp, rfl, R, h⟩
theorem AW.Continue {pos : Pos} {Q : AFlow → Vars → AHeap → Prop} (h : Q .cont vs hp) : AW C A b env FlowIs (exec (.Continue pos) env) Q vs hp := fun K s R => wpAny_Continue ⟨.cont, vs, hp, rfl, R, h⟩
theorem AW.Return {e : Expr} {pos : Pos} {Q : AFlow → Vars → AHeap → Prop} (h : AW C A b env Is (eval e env) (fun a vs₁ hp₁ => Q (.ret a) vs₁ hp₁) vs hp) :
    AW C A b env FlowIs (exec (.Return (some e) pos) env) Q vs hp := fun K s R =>
  wpAny_Return_some (AW.elim (h) R (fun v s₁ a vs₁ hp₁ i R₁ q => ⟨.ret a, vs₁, hp₁, ⟨v, rfl, i⟩, R₁, q⟩))
theorem AW.If {t : Expr} {x y : List Stmt} {pos : Pos} {Q : AFlow → Vars → AHeap → Prop}
    (h : AW C A b env IsB (isTrue t env (eval t env)) (fun c vs₁ hp₁ => if c then AW C A b env FlowIs (execs x env) Q vs₁ hp₁ else AW C A b env FlowIs (execs y env) Q vs₁ hp₁) vs hp) :
    AW C A b env FlowIs (exec (.If t x y pos) env) Q vs hp := fun K s R =>
  wpAny_If (AW.elim (h) R (fun v s₁ c vs₁ hp₁ i R₁ q => by cases i; cases v <;> exact q K s₁ R₁))
theorem AW.ExprS {e : Expr} {pos : Pos} {Q : AFlow → Vars → AHeap → Prop} (h : AW C A b env Is (eval e env) (fun _ vs₁ hp₁ => Q .next vs₁ hp₁) vs hp)
    (hi : interactive env = false := by with_unfolding_all rfl) (hs : swapsWith e none pos.line env = Pure.pure false := by with_unfolding_all rfl) :
    AW C A b env FlowIs (exec (.Expr e pos) env) Q vs hp := fun K s R =>
  wpAny_Expr_any (AW.elim (h) R (fun v s₁ a vs₁ hp₁ i R₁ q => ⟨.next, vs₁, hp₁, rfl, R₁, q⟩)) hi hs
theorem AW.AssignName {x : Str} {e : Expr} {pos pos' : Pos} {Q : AFlow → Vars → AHeap → Prop}
    (h : AW C A b env Is (eval e env) (fun z vs₁ hp₁ => ∀ v, Is z v → AW C A b env IsU (storeName env x v) (fun _ vs₂ hp₂ => Q .next vs₂ hp₂) vs₁ hp₁) vs hp)
    (hs : swapsWith e (some (.Name x pos')) pos.line env = Pure.pure false := by with_unfolding_all rfl) :
    AW C A b env FlowIs (exec (.Assign [.Name x pos'] e pos) env) Q vs hp := fun K s R =>
  wpAny_Assign_Name (AW.elim (h) R (fun v s₁ z vs₁ hp₁ i R₁ q => AW.elim (q v i) R₁ (fun _ s₂ _ vs₂ hp₂ _ R₂ q₂ => ⟨.next, vs₂, hp₂, rfl, R₂, q₂⟩))) hs
theorem AW.AugName {x : Str} {op : Operator} {e : Expr} {pos pos' : Pos} {Q : AFlow → Vars → AHeap → Prop}
    (h : AW C A b env Is (loadName env x) (fun y vs₀ hp₀ => AW C A b env Is (eval e env) (fun z vs₁ hp₁ => ∀ u v, Is y u → Is z v → AW C A b env Is (inplaceOp op u v) (fun r vs₂ hp₂ => ∀ w, Is r w →
      AW C A b env IsU (storeName env x w) (fun _ vs₃ hp₃ => Q .next vs₃ hp₃) vs₂ hp₂) vs₁ hp₁) vs₀ hp₀) vs hp) :
    AW C A b env FlowIs (exec (.AugAssign (.Name x pos') op e pos) env) Q vs hp := fun K s R =>
  wpAny_AugAssign_Name (AW.elim (h) R (fun u s₀ y vs₀ hp₀ i₀ R₀ q₀ => AW.elim (q₀) R₀ (fun v s₁ z vs₁ hp₁ i R₁ q => AW.elim (q u v i₀ i) R₁ (fun w s₂ r vs₂ hp₂ j R₂ q₂ =>
    AW.elim (q₂ w j) R₂ (fun _ s₃ _ vs₃ hp₃ _ R₃ q₃ => ⟨.next, vs₃, hp₃, rfl, R₃, q₃⟩)))))
theorem AW.AssignSub {o i e : Expr} {pos pos' : Pos} {Q : AFlow → Vars → AHeap → Prop}
    (h : AW C A b env Is (eval e env) (fun z vs₁ hp₁ => AW C A b env Is (eval o env) (fun x vs₂ hp₂ => AW C A b env Is (eval i env) (fun y vs₃ hp₃ => ∀ u v w, Is x u → Is y v → Is z w →
      AW C A b env IsU (setItem u v w) (fun _ vs₄ hp₄ => Q .next vs₄ hp₄) vs₃ hp₃) vs₂ hp₂) vs₁ hp₁) vs hp)
    (hs : swapsWith e (some (.Subscript o i pos')) pos.line env = Pure.pure false := by with_unfolding_all rfl) :
    AW C A b env FlowIs (exec (.Assign [.Subscript o i pos'] e pos) env) Q vs hp := fun K s R =>
  wpAny_Assign_Subscript (AW.elim (h) R (fun w s₁ z vs₁ hp₁ k₁ R₁ q₁ => AW.elim (q₁) R₁ (fun u s₂ x vs₂ hp₂ k₂ R₂ q₂ => AW.elim (q₂) R₂ (fun v s₃ y vs₃ hp₃ k₃ R₃ q₃ =>
    AW.elim (q₃ u v w k₂ k₃ k₁) R₃ (fun _ s₄ _ vs₄ hp₄ _ R₄ q₄ => ⟨.next, vs₄, hp₄, rfl, R₄, q₄⟩))))) hs
theorem AW.AugAttr {o e : Expr} {attr : Str} {op : Operator} {pos tpos : Pos} {Q : AFlow → Vars → AHeap → Prop}
    (h : AW C A b env Is (eval o env) (fun x vs₁ hp₁ => ∀ u, Is x u → AW C A b env Is (getAttr u attr true) (fun y vs₂ hp₂ => AW C A b env Is (eval e env) (fun z vs₃ hp₃ => ∀ v w, Is y v → Is z w →
      AW C A b env Is (inplaceOp op v w) (fun r vs₄ hp₄ => ∀ n, Is r n → AW C A b env IsU (setAttr u attr n) (fun _ vs₅ hp₅ => Q .next vs₅ hp₅) vs₄ hp₄) vs₃ hp₃) vs₂ hp₂) vs₁ hp₁) vs hp) :
    AW C A b env FlowIs (exec (.AugAssign (.Attribute o attr tpos) op e pos) env) Q vs hp := fun K s R =>
  wpAny_AugAssign_AttributeAny (AW.elim (h) R (fun u s₁ x vs₁ hp₁ k₁ R₁ q₁ => AW.elim (q₁ u k₁) R₁ (fun v s₂ y vs₂ hp₂ k₂ R₂ q₂ => AW.elim (q₂) R₂ (fun w s₃ z vs₃ hp₃ k₃ R₃ q₃ =>
    AW.elim (q₃ v w k₂ k₃) R₃ (fun n s₄ r vs₄ hp₄ k₄ R₄ q₄ => wpAny_mono (q₄ n k₄ K s₄ R₄) (fun _ s₅ ⟨_, vs₅, hp₅, _, R₅, q₅⟩ => ⟨.next, vs₅, hp₅, rfl, R₅, q₅⟩)
      fun _ _ x => x)))))
theorem AW.AugSub {o i e : Expr} {op : Operator} {pos tpos : Pos} {Q : AFlow → Vars → AHeap → Prop}
    (h : AW C A b env Is (eval o env) (fun x vs₁ hp₁ => AW C A b env Is (eval i env) (fun y vs₂ hp₂ => ∀ u v, Is x u → Is y v → AW C A b env Is (getItem u v) (fun g vs₃ hp₃ => AW C A b env Is (eval e env) (fun z vs₄ hp₄ => ∀ gv w, Is g gv → Is z w →
      AW C A b env Is (inplaceOp op gv w) (fun r vs₅ hp₅ => ∀ n, Is r n → AW C A b env IsU (setItem u v n) (fun _ vs₆ hp₆ => Q .next vs₆ hp₆) vs₅ hp₅) vs₄ hp₄) vs₃ hp₃) vs₂ hp₂) vs₁ hp₁) vs hp)
    (hi : ∀ ov iv new, augStore i ov iv new = (do PySem.holding [new, ov, iv] (setItem ov iv new); release [new, ov, iv] []; Pure.pure .next) := by intros; rfl) :
    AW C A b env FlowIs (exec (.AugAssign (.Subscript o i tpos) op e pos) env) Q vs hp := fun K s R =>
  wpAny_AugAssign_SubscriptAny (AW.elim (h) R (fun u s₁ x vs₁ hp₁ k₁ R₁ q₁ => AW.elim (q₁) R₁ (fun v s₂ y vs₂ hp₂ k₂ R₂ q₂ => AW.elim (q₂ u v k₁ k₂) R₂ (fun gv s₃ g vs₃ hp₃ k₃ R₃ q₃ =>
    AW.elim (q₃) R₃ (fun w s₄ z vs₄ hp₄ k₄ R₄ q₄ => AW.elim (q₄ gv w k₃ k₄) R₄ (fun n s₅ r vs₅ hp₅ k₅ R₅ q₅ => wpAny_mono (q₅ n k₅ K s₅ R₅) (fun _ s₆ ⟨_, vs₆, hp₆, _, R₆, q₆⟩ => ⟨.next, vs₆, hp₆, rfl, R₆, q₆⟩)
      fun _ _ x => x)))))) hi
theorem AW.execsRet {e : Expr} {pos : Pos} {rest : List Stmt} {Q : AFlow → Vars → AHeap → Prop} (h : AW C A b env Is (eval e env) (fun a vs₁ hp₁ => Q (.ret a) vs₁ hp₁) vs hp) : AW C A b env FlowIs (execs (.Return (some e) pos :: rest) env) Q vs hp :=
  AW.execsCons0 (AW.Return h)
theorem AW.execsBrk {pos : Pos} {rest : List Stmt} {Q : AFlow → Vars → AHeap → Prop} (h : Q .brk vs hp) : AW C A b env FlowIs (execs (.Break pos :: rest) env) Q vs hp := AW.execsCons0 (AW.Break h)
theorem AW.execsCont {pos : Pos} {rest : List Stmt} {Q : AFlow → Vars → AHeap → Prop} (h : Q .cont vs hp) : AW C A b env FlowIs (execs (.Continue pos :: rest) env) Q vs hp := AW.execsCons0 (AW.Continue h)
end

noncomputable def IsBinds (ab : List (Str × AV)) (bs : List (Str × Value)) : Prop := F2 (fun p q => p.1 = q.1 ∧ Is p.2 q.2) ab bs
noncomputable def bindV : List (Str × AV) → Vars → Vars
  | [], vs => vs
  | (n, a) :: r, vs => bindV r (vs.put n a)
noncomputable def noVars : Vars := fun _ => none
noncomputable def nob : Str → Bool := fun _ => false
noncomputable def retOf : AFlow → AV
  | .ret a => a
  | _ => .none

theorem cellsFrom_has {x : Str} : ∀ (names : List (Str × NameKind)) (n : Nat) (acc : List (Str × Addr)), ((acc.lookup x).isSome = true ∨ (x, NameKind.cell) ∈ names) →
    ((cellsFrom n names acc).lookup x).isSome = true
  | [], n, acc, h => by
    rcases h with h | h
    · exact h
    · cases h
  | (y, k) :: r, n, acc, h => by
    unfold cellsFrom
    have step : ∀ m, (((y, m) :: acc).lookup x).isSome = true ∨ (x, NameKind.cell) ∈ r ∨ (acc.lookup x).isSome = true → ((((y, m) :: acc).lookup x).isSome = true ∨ (x, NameKind.cell) ∈ r) := fun m q => by
      rcases q with q | q | q
      · exact .inl q
      · exact .inr q
      · left; rw [List.lookup_cons]; cases x == y
        · exact q
        · rfl
    split
    · refine cellsFrom_has r _ _ (step n ?_)
      rcases h with h | h
      · exact .inr (.inr h)
      · rcases List.mem_cons.mp h with e | e
        · left; cases e; simp
        · exact .inr (.inl e)
    · rename_i hk
      refine cellsFrom_has r _ _ ?_
      rcases h with h | h
      · exact .inl h
      · rcases List.mem_cons.mp h with e | e
        · cases e; exact absurd rfl hk
        · exact .inr e

theorem bindL_is {kind : Str → Option NameKind} {ab : List (Str × AV)} {bs : List (Str × Value)} (h : IsBinds ab bs) :
    ∀ {vs : Vars} {m : Str → Option Value}, (∀ x, kind x = some .local → ∀ a, vs x = some a → ∃ v, m x = some v ∧ Is a v) →
      ∀ x, kind x = some .local → ∀ a, bindV ab vs x = some a → ∃ v, bindL kind bs m x = some v ∧ Is a v := by
  induction h with
  | nil => intro vs m h; exact h
  | @cons p q as bs r _ ih =>
    intro vs m h
    obtain ⟨n, a⟩ := p; obtain ⟨n', v⟩ := q
    obtain ⟨e, i⟩ := r
    dsimp at e i; subst e
    refine ih (vs := vs.put n a) fun x hx a' e => ?_
    unfold Vars.put at e
    split at e
    · rename_i q; subst q; cases e; rw [if_pos hx]; exact ⟨v, by simp, i⟩
    · rename_i q
      obtain ⟨v', e', i'⟩ := h x hx a' e
      refine ⟨v', ?_, i'⟩
      split
      · simp [q, e']
      · exact e'

theorem bindC_is {kind : Str → Option NameKind} {ab : List (Str × AV)} {bs : List (Str × Value)} (h : IsBinds ab bs) :
    ∀ {vs : Vars} {m : Str → Option Value}, (∀ x, kind x ≠ some .local → ∀ a, vs x = some a → ∃ v, m x = some v ∧ Is a v) →
      ∀ x, kind x ≠ some .local → ∀ a, bindV ab vs x = some a → ∃ v, bindC kind bs m x = some v ∧ Is a v := by
  induction h with
  | nil => intro vs m h; exact h
  | @cons p q as bs r _ ih =>
    intro vs m h
    obtain ⟨n, a⟩ := p; obtain ⟨n', v⟩ := q
    obtain ⟨e, i⟩ := r
    dsimp at e i; subst e
    refine ih (vs := vs.put n a) fun x hx a' e => ?_
    unfold Vars.put at e
    split at e
    · rename_i q; subst q; cases e; rw [if_neg hx]; exact ⟨v, by simp, i⟩
    · rename_i q
      obtain ⟨v', e', i'⟩ := h x hx a' e
      refine ⟨v', ?_, i'⟩
      split
      · exact e'
      · simp [q, e']

theorem binds_kind {P : Str → Prop} {ab : List (Str × AV)} {bs : List (Str × Value)} (h : IsBinds ab bs) : (∀ p ∈ ab, P p.1) → ∀ x ∈ bs, P x.1 := by
  induction h with
  | nil => intro _ x h; cases h
  | cons r _ ih =>
    intro hk x hx
    rcases List.mem_cons.mp hx with e | e
    · subst e; rw [← r.1]; exact hk _ (.head _)
    · exact ih (fun p hp => hk p (.tail _ hp)) x e

section
variable {C : Cx} {A : Around} {b : Str → Bool} {env : Env} {vs : Vars} {hp : AHeap} {K : Addr → Option Obj}

theorem RelH.inK {s : Shared} (R : RelH C K hp s) : C.K.In s.heap := C.X.keeps R.keepB

/-- a call, as the code that it runs -/
noncomputable def CC (C : Cx) (A : Around) (f : Value) (args : Args) (Q : AV → AHeap → Prop) (hp : AHeap) : Prop :=
  ∀ K s, RelH C K hp s → codeAny (model C.prog C.w) A (.call f args) (fun r s' => match r with | .ok (.ret v) => ∃ a hp', Is a v ∧ RelH C K hp' s' ∧ Q a hp' | .ok _ => False | .error _ => False) s
theorem CC.cw {f : Value} {pos : List Value} {kw : List (Str × Value)} {Q : AV → AHeap → Prop} (h : CC C A f ⟨pos, kw⟩ Q hp) : CW C A Is (call f pos kw) Q hp := fun K s R =>
  wpAny_call (codeAny_mono (h K s R) fun r s' z => by rcases r with e | (_ | _ | _ | v) <;> exact z)

/-- a def of the text's own, called -/
theorem CC.callFn {f : Addr} {o : Obj} {fd : FuncData} {body : List Stmt} {pos : List Value} {kw : List (Str × Value)} {Q : AV → AHeap → Prop}
    (hroom : A.depth < recursionLimit) (ho : C.K.lookup f = some o) (hd : o.data = .func fd) (hcd : codeIn C.K fd.code fd.qualname = true)
    (hbody : fd.body = .stmts body) (hclo : fd.closure = [])
    (h : CW C A.in1 IsBinds (bindArgs fd ⟨pos, kw⟩) (fun ab hp₁ => (∀ p ∈ ab, fd.scope.names.lookup p.1 = some .local ∨ fd.scope.names.lookup p.1 = some .cell) ∧
      ∀ env L, env = callEnvC fd L f → EnvOk nob env → AW C (A.deeper env) nob env FlowIs (execs body env) (fun fl _ hp' => Q (retOf fl) hp') (bindV ab noVars) hp₁) hp)
    (hco : fd.scope.isCoroutine = false := by rfl) (hgen : fd.scope.isGenerator = false := by rfl) (hk : fd.scope.kind = .function := by rfl) :
    CC C A (.ref f) ⟨pos, kw⟩ Q hp := fun K s R => by
  refine (codeAny_call_function hroom (R.inK _ _ ho) hd hco hgen hbody (codeRec_of R.inK hcd) ?_)
  refine wpAny_mono (h K s R) (fun binds s₁ ⟨ab, hp₁, i, R₁, hkind, q⟩ => ?_) fun _ _ x => x.elim
  rw [hclo]
  have hkb := binds_kind (P := fun n => fd.scope.names.lookup n = some .local ∨ fd.scope.names.lookup n = some .cell) i hkind
  refine wpAny_newFunctionEnv_cells hk (fun x hx => (hkb x hx).imp id fun q => ⟨q, cellsFrom_has _ _ _ (.inr (mem_of_lookup q))⟩) fun env' he s' y => ?_
  have kp := y.toInCall.keep
  refine ⟨C.nolim.keeps fun a o e => kp a o (R₁.keepB a o e), codeAny_func ?_⟩
  have hL : env'.locals = s₁.heap.objs.size := by rw [he]; rfl
  have ab1 : ∀ n c, env'.cells.lookup n = some c → s₁.heap.objs.size < c := fun n c hc => hL ▸ y.above n c (mem_of_lookup hc)
  have EO : EnvOk nob env' := by
    refine ⟨by rw [he]; exact hk, fun x c _ _ hc e => ?_, fun x z c _ _ _ _ hx hz => name_of_addr y.apart (mem_of_lookup hx) (mem_of_lookup hz)⟩
    have := ab1 x c hc; rw [e, hL] at this; exact absurd this (Nat.lt_irrefl _)
  have hnone : ∀ a, s₁.heap.objs.size ≤ a → K a = none ∧ hp₁ a = none := fun a ha => by
    constructor
    · cases e : K a with
      | none => rfl
      | some o => obtain ⟨_, h, _⟩ := R₁.keep a o e; exact absurd (Nat.lt_of_lt_of_le (Heap.lt_size h) ha) (Nat.lt_irrefl _)
    · cases e : hp₁ a with
      | none => rfl
      | some o => exact absurd (Nat.lt_of_lt_of_le (R₁.lt e) ha) (Nat.lt_irrefl _)
  obtain ⟨h', tk, hs', hkp⟩ := y.done
  have sz : s₁.heap.objs.size ≤ s'.heap.objs.size := by
    have := y.toInCall.ns.lt
    rw [hL] at this; exact Nat.le_of_lt this
  have RR : Rel C K nob env' (bindV ab noVars) hp₁ s' := by
    refine ⟨R₁.grow kp (by rw [hs']) (by rw [hs']) (by rw [hs']) sz, by rw [hL]; exact R₁.big, fun a q => ?_, ?_, fun x c hx hc => ?_, ⟨by rw [he]; show fd.scope.kind ≠ _; rw [hk]; decide, env'.locals, by rw [he]; rfl, .inl rfl⟩⟩
    · rcases q with e | ⟨x, _, _, hc⟩
      · exact hnone a (by rw [e, hL]; exact Nat.le_refl _)
      · exact hnone a (Nat.le_of_lt (ab1 x a hc))
    · exact ⟨_, y.toInCall.ns, fun x hx a e => bindL_is i (vs := noVars) (m := fun _ => none) (fun _ _ _ e => by cases e) x hx a e⟩
    · obtain ⟨o, ho, hd⟩ := y.cell x c hc
      refine ⟨o, _, ho, hd, fun a e => ?_, fun q => by cases q⟩
      exact bindC_is i (vs := noVars) (m := fun _ => none) (fun _ _ _ e => by cases e) x (by rcases hx with hx | hx <;> rw [hx] <;> decide) a e
  refine wpAny_mono (q env' s₁.heap.objs.size he EO K s' RR) (fun fl s₂ ⟨fa, vs₂, hp₂, j, R₂, q₂⟩ => ?_) fun _ _ x => x.elim
  refine ⟨retOf fa, hp₂, ?_, R₂.h, q₂⟩
  cases fa with
  | next => cases j; rfl
  | brk => cases j; rfl
  | cont => cases j; rfl
  | ret a => obtain ⟨v, rfl, j⟩ := j; exact j

theorem CW.bindsTo {fd : FuncData} {args : Args} {ab : List (Str × AV)} {binds : List (Str × Value)} {Q : List (Str × AV) → AHeap → Prop} (hb : bindArgs fd args = Pure.pure binds) (i : IsBinds ab binds) (h : Q ab hp) :
    CW C A IsBinds (bindArgs fd args) Q hp := fun K s R => by rw [hb]; exact wpAny_pure ⟨ab, hp, i, R, h⟩
end

/-! an object's dict -/
noncomputable def putA (name : Str) (a : AV) : List (Str × AV) → List (Str × AV)
  | [] => [(name, a)]
  | (n, x) :: r => if n = name then (n, a) :: r else (n, x) :: putA name a r

theorem putA_keys {name : Str} {a : AV} : ∀ (l : List (Str × AV)) (x : Str), x ∈ (putA name a l).map (·.1) → x = name ∨ x ∈ l.map (·.1)
  | [], x, h => by simp [putA] at h; exact .inl h
  | (n, y) :: r, x, h => by
    unfold putA at h
    split at h
    · exact .inr (by simpa using h)
    · rcases List.mem_cons.mp h with e | e
      · exact .inr (by simp [e])
      · rcases putA_keys r x e with e | e
        · exact .inl e
        · exact .inr (List.mem_cons_of_mem _ e)
theorem putA_nodup {name : Str} {a : AV} : ∀ (l : List (Str × AV)), (l.map (·.1)).Nodup → ((putA name a l).map (·.1)).Nodup
  | [], _ => by simp [putA]
  | (n, y) :: r, h => by
    unfold putA
    obtain ⟨h1, h2⟩ := List.nodup_cons.mp h
    split
    · exact h
    · rename_i q
      refine List.nodup_cons.mpr ⟨fun e => ?_, putA_nodup r h2⟩
      rcases putA_keys r _ e with e | e
      · exact q e
      · exact h1 e

theorem NsIs.put {l : List (Str × AV)} {es : List DictEntry} (h : NsIs l es) {name : Str} {a : AV} {v : Value} (i : Is a v) (hsh : Int) (t : Tok) :
    NsIs (putA name a l) (putL name hsh (.str name t) v es) := by
  refine ⟨?_, putA_nodup l h.2⟩
  have h1 := h.1
  clear h
  induction h1 with
  | nil => exact .cons ⟨⟨t, rfl⟩, i⟩ .nil
  | @cons p e ps es r _ ih =>
    obtain ⟨⟨tk, hk⟩, j⟩ := r
    have : e.key.isStr name = (p.1 == name) := by rw [hk]; rfl
    unfold putA putL
    rw [this]
    by_cases q : p.1 = name
    · rw [if_pos q, if_pos (by simp [q])]; exact .cons ⟨⟨tk, hk⟩, i⟩ (by assumption)
    · rw [if_neg q, if_neg (by simp [q])]; exact .cons ⟨⟨tk, hk⟩, j⟩ ih

theorem NsIs.noRef {l : List (Str × AV)} {es : List DictEntry} (h : NsIs l es) : es.any (·.refKey) = false := by
  have h1 := h.1
  clear h
  induction h1 with
  | nil => rfl
  | @cons p e ps es r _ ih =>
    obtain ⟨⟨tk, hk⟩, j⟩ := r
    rw [List.any_cons, ih]; simp [DictEntry.refKey, hk]

theorem NsIs.find {l : List (Str × AV)} {es : List DictEntry} (h : NsIs l es) (name : Str) :
    (l.lookup name = none → es.find? (·.key.isStr name) = none) ∧ ∀ a, l.lookup name = some a → ∃ e, es.find? (·.key.isStr name) = some e ∧ Is a e.val := by
  have h1 := h.1
  clear h
  induction h1 with
  | nil => exact ⟨fun _ => rfl, fun a e => by cases e⟩
  | @cons p e ps es r _ ih =>
    obtain ⟨⟨tk, hk⟩, j⟩ := r
    have he : e.key.isStr name = (p.1 == name) := by rw [hk]; rfl
    rw [List.lookup_cons, List.find?_cons, he]
    by_cases q : p.1 = name
    · rw [show (name == p.1) = true by simp [q], show (p.1 == name) = true by simp [q]]
      refine ⟨fun q => by simp at q, fun a e' => ?_⟩
      simp only [Option.some.injEq] at e'
      subst e'
      exact ⟨e, rfl, j⟩
    · rw [show (name == p.1) = false by simp [Ne.symm q], show (p.1 == name) = false by simp [q]]
      exact ih

theorem NsIs.none {l : List (Str × AV)} {es : List DictEntry} (h : NsIs l es) {name : Str} (e : l.lookup name = none) : getL name es = some none := by
  unfold getL
  rw [(h.find name).1 e]
  dsimp only
  rw [h.noRef]; rfl
theorem NsIs.some {l : List (Str × AV)} {es : List DictEntry} (h : NsIs l es) {name : Str} {a : AV} (e : l.lookup name = some a) : ∃ v, getL name es = some (some v) ∧ Is a v := by
  obtain ⟨x, hx, i⟩ := (h.find name).2 a e
  exact ⟨x.val, by unfold getL; rw [hx], i⟩
theorem NsIs.isSome {l : List (Str × AV)} {es : List DictEntry} (h : NsIs l es) (name : Str) : (getL name es).isSome = true := by
  cases e : l.lookup name with
  | none => rw [h.none e]; rfl
  | some a => obtain ⟨v, q, _⟩ := h.some e; rw [q]; rfl

noncomputable def plainA : AV → Bool
  | .raw _ => false
  | _ => true
theorem handed_of {a : AV} {v : Value} (i : Is a v) (h : plainA a = true) : handedIn v = true := by
  cases a with
  | none => cases i; rfl
  | bool b => cases i; rfl
  | int n => obtain ⟨t, rfl⟩ := i; rfl
  | ref x => cases i; rfl
  | raw x => cases h

section
variable {C : Cx} {A : Around} {b : Str → Bool} {env : Env} {vs : Vars} {hp : AHeap} {K : Addr → Option Obj}

theorem AW.getAttrNs {x c d : Addr} {name : Str} {l : List (Str × AV)} {a : AV} {ex : Bool} {attr : Option Value} {Q : AV → Vars → AHeap → Prop}
    (hx : hp x = some (.inst c d)) (hd : hp d = some (.ns l)) (hl : l.lookup name = some a) (pl : plainA a = true)
    (hg : plainGet C.K c name = true) (hh : hasDictIn C.K c = true) (ha : findIn C.K (.ref c) name = some attr) (hn : noGet C.K attr = true)
    (h : Q a vs hp) : AW C A b env Is (getAttr (.ref x) name ex) Q vs hp := fun K s R => by
  obtain ⟨_, ox, hox, rfl⟩ := R.h.objs x _ hx
  obtain ⟨_, od, hod, es, n, hns, rfl⟩ := R.h.objs d _ hd
  obtain ⟨v, hv, i⟩ := hns.some hl
  obtain ⟨m, F, _⟩ := R.fr
  exact get_own F C.X ⟨hox, rfl, rfl, hod⟩ hg hh ha hn hv (handed_of i pl) ⟨a, vs, hp, i, R.toks _, h⟩

theorem AW.setAttrNs {x c d : Addr} {name : Str} {l : List (Str × AV)} {a : AV} {v : Value} {Q : Unit → Vars → AHeap → Prop} (E : EnvOk b env)
    (hx : hp x = some (.inst c d)) (hd : hp d = some (.ns l)) (i : Is a v) (hz : (putA name a l).length ≤ 1000)
    (hs : findIn C.K (.ref c) "__setattr__" = some (some (.builtin "object.__setattr__"))) (ho : plainOver C.K c = true) (ht : takerIn C.K c name = some none) (hh : hasDictIn C.K c = true)
    (h : Q () vs (hp.put d (.ns (putA name a l)))) : AW C A b env IsU (setAttr (.ref x) name v) Q vs hp := fun K s R => by
  obtain ⟨_, ox, hox, rfl⟩ := R.h.objs x _ hx
  obtain ⟨kd, od, hod, es, n, hns, rfl⟩ := R.h.objs d _ hd
  obtain ⟨m, F, hm⟩ := R.fr
  have dL : d ≠ env.locals := fun q => by rw [q, (R.own _ (.inl rfl)).2] at hd; cases hd
  have dB : C.h₀.get? d = none := by
    cases q : C.h₀.get? d with
    | none => rfl
    | some o => have := R.h.base d o q; rw [kd] at this; cases this
  have N : News C.h₀ env.locals s.heap ([] ++ (d, dictOf es n) :: restOf C env.locals [d] s.heap) := fun p hp => by
    rcases List.mem_cons.mp hp with rfl | hp
    · exact ⟨hod, dL, dB⟩
    · exact news_rest p hp
  have hrest : ∀ p ∈ restOf C env.locals [d] s.heap, p.1 ≠ d := fun p hp q => by
    obtain ⟨_, e⟩ := mem_allOf.mp hp
    simp [q] at e
  have I : InstAt s.heap x (instObj c d) c (some (dictOf es n)) := ⟨hox, rfl, rfl, hod⟩
  have hns' : NsIs (putA name a l) (putL name (PyData.keyHash C.w.params name) (.str name (s.toks + 1)) v es) := hns.put i _ _
  refine set_plain (R.h.inK) I hs (osa_dict (s := { s with toks := s.toks + 1 }) (pre := []) F N R.h.inK I rfl ho ht hh (hns.isSome name) (fun _ h => by cases h) hrest (putName_dict ..) rfl
    (by rw [F2.length hns'.1]; exact hz) fun h' F' N' => ⟨(), vs, _, trivial, ?_, h⟩)
  refine Rel.againBut (s' := { s with heap := h', toks := s.toks + 1 + 1 }) R hm F'.ns hd (N' (d, _) (.head _)).1 ⟨_, _, hns', rfl⟩ (fun a' o' q1 q2 e => ?_) E rfl rfl rfl
  exact kept_rest (front := [d]) F.keep F'.keep (fun p hp => N' p (.tail _ hp)) q1 (by simpa using q2) e

theorem AW.getAttrSlot {x c d p : Addr} {name : Str} {l : List (Option AV)} {k : Nat} {a : AV} {ex : Bool} {Q : AV → Vars → AHeap → Prop}
    (hx : hp x = some (.slots c d l)) (hd : hp d = some (.ns [])) (hl : l[k]? = some (some a)) (pl : plainA a = true)
    (hg : plainGet C.K c name = true) (hf : ∀ n, findObj C.K c (some (dictOf [] n)) name = some (.bind (.builtin "member_descriptor.__get__") (.ref p))) (hp' : slotIn C.K p c = some k)
    (h : Q a vs hp) : AW C A b env Is (getAttr (.ref x) name ex) Q vs hp := fun K s R => by
  obtain ⟨_, ox, hox, sl, hsl, rfl⟩ := R.h.objs x _ hx
  obtain ⟨_, od, hod, es, n, ⟨hns, _⟩, rfl⟩ := R.h.objs d _ hd
  cases hns
  obtain ⟨y, hy, j⟩ := F2.get hsl hl
  cases y with
  | none => exact j.elim
  | some v =>
    have hX := R.h.inK
    have I : InstAt s.heap x { cls := .ref c, dict := some d, slots := sl.toArray } c (some (dictOf [] n)) := ⟨hox, rfl, rfl, hod⟩
    refine get_bind hX I (plainGet_of hg).1 (hf n) (plainGet_of hg).2 (wpAny_call (slot_get (s := { s with toks := s.toks + 1 }) hX I hp' (v := v) ?_ ?_))
    · show (sl.toArray[k]?).join = some v
      rw [List.getElem?_toArray, hy]; rfl
    · exact handed_on (handed_of j pl) ⟨a, vs, hp, j, R.toks _, h⟩

theorem AW.setAttrSlot {x c d p : Addr} {name : Str} {l l' : List (Option AV)} {k : Nat} {a : AV} {v : Value} {Q : Unit → Vars → AHeap → Prop} (E : EnvOk b env)
    (hx : hp x = some (.slots c d l)) (hd : hp d = some (.ns [])) (i : Is a v) (hk : k < 1000)
    (hs : findIn C.K (.ref c) "__setattr__" = some (some (.builtin "object.__setattr__"))) (ho : plainOver C.K c = true) (ht : takerIn C.K c name = some (some (.ref p))) (hT : typeIn C.K (.ref p) = some (.type "member_descriptor"))
    (hp' : slotIn C.K p c = some k) (hl' : l' = (l ++ List.replicate (k + 1 - l.length) none).set k (some a))
    (h : Q () vs (hp.put x (.slots c d l'))) : AW C A b env IsU (setAttr (.ref x) name v) Q vs hp := fun K s R => by
  obtain ⟨kx, ox, hox, sl, hsl, rfl⟩ := R.h.objs x _ hx
  obtain ⟨_, od, hod, es, n, ⟨hns, _⟩, rfl⟩ := R.h.objs d _ hd
  cases hns
  obtain ⟨m, F, hm⟩ := R.fr
  have dL : x ≠ env.locals := fun q => by rw [q, (R.own _ (.inl rfl)).2] at hx; cases hx
  have dB : C.h₀.get? x = none := by
    cases q : C.h₀.get? x with
    | none => rfl
    | some o => have := R.h.base x o q; rw [kx] at this; cases this
  have N : News C.h₀ env.locals s.heap ([] ++ (x, _) :: restOf C env.locals [x] s.heap) := fun p hp => by
    rcases List.mem_cons.mp hp with rfl | hp
    · exact ⟨hox, dL, dB⟩
    · exact news_rest p hp
  have hrest : ∀ p ∈ restOf C env.locals [x] s.heap, p.1 ≠ x := fun p hp q => by
    obtain ⟨_, e⟩ := mem_allOf.mp hp
    simp [q] at e
  have I : InstAt s.heap x { cls := .ref c, dict := some d, slots := sl.toArray } c (some (dictOf [] n)) := ⟨hox, rfl, rfl, hod⟩
  refine set_plain (R.h.inK) I hs (osa_descr KF.slot_mset R.h.inK I ho ht hT ?_)
  refine slot_set (s := { s with toks := s.toks + 1 }) (pre := []) F N R.h.inK I hp' hk (fun _ h => by cases h) hrest rfl rfl fun h' F' N' => ⟨(), vs, _, trivial, ?_, h⟩
  refine Rel.againBut (s' := { s with heap := h', toks := s.toks + 1 }) R hm F'.ns hx (N' (x, _) (.head _)).1 ⟨(sl ++ List.replicate (k + 1 - sl.length) none).set k (some v), ?_, ?_⟩ (fun a' o' q1 q2 e => ?_) E rfl rfl rfl
  · rw [hl', F2.length hsl]
    refine F2.set (F2.append hsl ?_) ?_ k
    · generalize k + 1 - l.length = n
      induction n with
      | zero => exact .nil
      | succ n ih => exact .cons trivial ih
    · exact i
  · have e : (sl ++ List.replicate (k + 1 - sl.length) none).toArray = sl.toArray ++ Array.replicate (k + 1 - sl.length) none := by
      apply Array.toList_inj.mp; simp
    rw [← List.setIfInBounds_toArray, e]; rfl
  · exact kept_rest (front := [x]) F.keep F'.keep (fun p hp => N' p (.tail _ hp)) q1 (by simpa using q2) e
end
section
variable {C : Cx} {A : Around} {b : Str → Bool} {env : Env} {vs : Vars} {hp : AHeap} {K : Addr → Option Obj}

/-- what a callee's frame is to the machine -/
noncomputable def Keeps (C : Cx) (hp : AHeap) (fv : Value) : Prop :=
  ∀ K s, RelH C K hp s → ∃ k, (k = Keeper.frame ∨ k = Keeper.machine ∨ k = Keeper.boundFrame) ∧ Looks (model C.prog C.w) s.heap (keeperOf fv) k
theorem Keeps.fn {fv : Value} (h : keepIn C.K fv = true) : Keeps C hp fv := fun K s R => keeps_K h s.heap R.inK
theorem Keeps.builtin {id : String} : Keeps C hp (.builtin id) := fun K s R => ⟨.machine, .inr (.inl rfl), Looks.of_pure rfl⟩
theorem Keeps.type {T : String} : Keeps C hp (.type T) := fun K s R => ⟨.machine, .inr (.inl rfl), Looks.of_pure rfl⟩

theorem AW.callWith0 {fv : Value} {first : List Value} {pos : Pos} {Q : AV → Vars → AHeap → Prop} (E : EnvOk b env) (hk : Keeps C hp fv)
    (h : AW C A b env Is (call fv (first ++ [])) Q vs hp) : AW C A b env Is (callWith pos fv first (backTo pos (starEach [] env)) []) Q vs hp := fun K s R =>
  callWith_of (P := fun g => g = s.heap) rfl (fun g e => e ▸ hk _ s R.h) (evalArgs_nil3 ⟨rfl, h K s R⟩)
theorem AW.callWithN {fv : Value} {first : List Value} {e : Expr} {rest : List Expr} {pos : Pos} {Q : AV → Vars → AHeap → Prop} (E : EnvOk b env)
    (h : AW C A b env IsL (spliced (backTo pos (starEach (e :: rest) env))) (fun zs vs₁ hp₁ => ∀ us, IsL zs us → Keeps C hp₁ fv ∧ AW C A b env Is (call fv (first ++ us)) Q vs₁ hp₁) vs hp)
    (he : starEach (e :: rest) env = (false, eval e env) :: starEach rest env := by with_unfolding_all rfl) (hplain : (backTo pos (starEach rest env)).any (·.1) = false := by with_unfolding_all rfl) :
    AW C A b env Is (callWith pos fv first (backTo pos (starEach (e :: rest) env)) []) Q vs hp := fun K s R => by
  have h1 := h K s R
  rw [he] at h1 ⊢
  refine callWith_of (P := fun g => ∃ k, (k = Keeper.frame ∨ k = Keeper.machine ∨ k = Keeper.boundFrame) ∧ Looks (model C.prog C.w) g (keeperOf fv) k)
    (by show ((false || (backTo pos (starEach rest env)).any (·.1)) || false) = false; rw [hplain]; rfl) (fun g e => e) (Calls.evalArgs_plain (wpAny_mono h1 (fun us s₁ ⟨zs, vs₁, hp₁, i, R₁, q⟩ => ?_) fun _ _ x => x))
  exact ⟨(q us i).1 _ s₁ R₁.h, (q us i).2 K s₁ R₁⟩

theorem AW.argsNil {pos : Pos} {Q : List AV → Vars → AHeap → Prop} (h : Q [] vs hp) : AW C A b env IsL (spliced (backTo pos (starEach [] env))) Q vs hp := AW.splicedNil h
theorem AW.argsCons {e : Expr} {rest : List Expr} {pos : Pos} {Q : List AV → Vars → AHeap → Prop}
    (h : AW C A b env Is (eval e env) (fun z vs₁ hp₁ => AW C A b env IsL (spliced (backTo pos (starEach rest env))) (fun zs vs₂ hp₂ => Q (z :: zs) vs₂ hp₂) vs₁ hp₁) vs hp)
    (he : starEach (e :: rest) env = (false, eval e env) :: starEach rest env := by with_unfolding_all rfl) :
    AW C A b env IsL (spliced (backTo pos (starEach (e :: rest) env))) Q vs hp := fun K s R =>
  args_cons (AW.elim (h) R (fun v s₁ z vs₁ hp₁ i R₁ q => AW.elim (q) R₁ (fun l s₂ zs vs₂ hp₂ j R₂ q₂ => ⟨z :: zs, vs₂, hp₂, .cons i j, R₂, q₂⟩))) he

/-- a call by a name, or any other expression that is no attribute -/
theorem AW.Call {func : Expr} {args : List Expr} {pos : Pos} {Q : AV → Vars → AHeap → Prop}
    (h : AW C A b env Is (eval func env) (fun f vs₁ hp₁ => ∀ fv, Is f fv → AW C A b env Is (callWith pos fv [] (backTo pos (starEach args env)) []) Q vs₁ hp₁) vs hp)
    (he : eval (.Call func args [] pos) env = (do callWith pos (← eval func env) [] (backTo pos (starEach args env)) (backToKw pos (keywordEach [] env))) := by with_unfolding_all rfl) :
    AW C A b env Is (eval (.Call func args [] pos) env) Q vs hp := fun K s R =>
  Call_ (AW.elim (h) R (fun fv s₁ f vs₁ hp₁ i R₁ q => q fv i K s₁ R₁)) he

/-- a method of a thing: found, not yet called -/
noncomputable def Meth (C : Cx) (hp : AHeap) (v : Value) (name : Str) (fv : Value) : Prop :=
  ∀ A K s, RelH C K hp s → ∀ (pl : Sem Bool) (Q' : Value × List Value → Shared → Prop) (E' : Value → Shared → Prop), Q' (fv, [v]) s → wpAny (model C.prog C.w) A (getMethod v name pl) Q' E' s

theorem AW.MethodCall {o : Expr} {name : Str} {apos pos : Pos} {args : List Expr} {pl : Sem Bool} {Q : AV → Vars → AHeap → Prop} (E : EnvOk b env)
    (h : AW C A b env Is (eval o env) (fun x vs₁ hp₁ => ∀ v, Is x v → ∃ fv, Meth C hp₁ v name fv ∧ AW C A b env Is (callWith pos fv [v] (backTo pos (starEach args env)) []) Q vs₁ hp₁) vs hp)
    (he : eval (.Call (.Attribute o name apos) args [] pos) env = (do
      let ov ← eval o env
      PySem.standAt apos.atName
      let (f, first) ← PySem.holding [ov] (getMethod ov name pl)
      callWith pos f first (backTo pos (starEach args env)) []) := by with_unfolding_all rfl) :
    AW C A b env Is (eval (.Call (.Attribute o name apos) args [] pos) env) Q vs hp := fun K s R =>
  MethodCall_ (AW.elim (h) R (fun v s₁ x vs₁ hp₁ i R₁ q => by
    obtain ⟨fv, hm, q⟩ := q v i
    exact hm A _ s₁ R₁.h pl _ _ (q K s₁ R₁))) he

theorem Meth.inst {x c d f : Addr} {name : Str} {l : List (Str × AV)} (hx : hp x = some (.inst c d)) (hd : hp d = some (.ns l)) (hl : l.lookup name = none)
    (hg : plainGet C.K c name = true) (hf : findIn C.K (.ref c) name = some (some (.ref f))) (ht : isFn C.K (.ref f) = true) : Meth C hp (.ref x) name (.ref f) := fun A K s R pl Q' E' q => by
  obtain ⟨_, ox, hox, rfl⟩ := R.objs x _ hx
  obtain ⟨_, od, hod, es, n, hns, rfl⟩ := R.objs d _ hd
  have I : InstAt s.heap x (instObj c d) c (some (dictOf es n)) := ⟨hox, rfl, rfl, hod⟩
  exact method_fn R.inK I (plainGet_of hg).1 (plainGet_of hg).2 hf (beq_iff_eq.mp ht) (by show (lookIn name (dictOf es n)).map _ = _; rw [lookIn_dict, hns.none hl]; rfl) q

theorem Meth.builtin {a : Addr} {T id : String} {name : Str} (hT : ∀ K s, RelH C K hp s → ∃ o, s.heap.get? a = some o ∧ o.cls = .type T ∧ o.dict = none) (pa : PlainAttrs T) (slot : Slot T name id)
    (hty : typeOf (.builtin id) = Pure.pure (.type "method_descriptor")) : Meth C hp (.ref a) name (.builtin id) := fun A K s R pl Q' E' q => by
  obtain ⟨o, ho, hc, hd⟩ := hT K s R
  exact getMethod_builtin ⟨o, ho, hc⟩ pa slot hty (fun a' e => by cases e; exact ⟨o, ho, hd⟩) q

theorem AW.Attribute {value : Expr} {attr : Str} {pos : Pos} {Q : AV → Vars → AHeap → Prop}
    (h : AW C A b env Is (eval value env) (fun x vs₁ hp₁ => ∀ v, Is x v → AW C A b env Is (getAttr v attr true) Q vs₁ hp₁) vs hp)
    (he : eval (.Attribute value attr pos) env = (do
      let o ← eval value env
      PySem.standAt pos.atName
      let r ← PySem.holding [o] (getAttr o attr true)
      letTemporaryGo value o r
      Pure.pure r) := by with_unfolding_all rfl) :
    AW C A b env Is (eval (.Attribute value attr pos) env) Q vs hp := fun K s R =>
  Attribute_any_ (AW.elim (h) R (fun v s₁ x vs₁ hp₁ i R₁ q => q v i K s₁ R₁)) he

theorem AW.AssignAttr {o e : Expr} {attr : Str} {pos pos' : Pos} {Q : AFlow → Vars → AHeap → Prop}
    (h : AW C A b env Is (eval e env) (fun z vs₁ hp₁ => AW C A b env Is (eval o env) (fun x vs₂ hp₂ => ∀ u v, Is x u → Is z v →
      AW C A b env IsU (setAttr u attr v) (fun _ vs₃ hp₃ => Q .next vs₃ hp₃) vs₂ hp₂) vs₁ hp₁) vs hp)
    (hs : swapsWith e (some (.Attribute o attr pos')) pos.line env = Pure.pure false := by with_unfolding_all rfl) :
    AW C A b env FlowIs (exec (.Assign [.Attribute o attr pos'] e pos) env) Q vs hp := fun K s R =>
  plainObj_wpAny_Assign_Attribute (AW.elim (h) R (fun v s₁ z vs₁ hp₁ k₁ R₁ q₁ => AW.elim (q₁) R₁ (fun u s₂ x vs₂ hp₂ k₂ R₂ q₂ =>
    AW.elim (q₂ u v k₂ k₁) R₂ (fun _ s₃ _ vs₃ hp₃ _ R₃ q₃ => ⟨.next, vs₃, hp₃, rfl, R₃, q₃⟩)))) hs

theorem AW.AssignTwo {t₁ t₂ e : Expr} {pos : Pos} {Q : AFlow → Vars → AHeap → Prop}
    (h : AW C A b env Is (eval e env) (fun z vs₁ hp₁ => ∀ v, Is z v → AW C A b env IsU (assign t₁ env v) (fun _ vs₂ hp₂ => AW C A b env IsU (assign t₂ env v) (fun _ vs₃ hp₃ => Q .next vs₃ hp₃) vs₂ hp₂) vs₁ hp₁) vs hp)
    (he : (assignEach [t₁, t₂] env).map (·.2) = [assign t₁ env, assign t₂ env] := by with_unfolding_all rfl)
    (hw : swappedStores [t₁, t₂] e env = Pure.pure none := by with_unfolding_all rfl) : AW C A b env FlowIs (exec (.Assign [t₁, t₂] e pos) env) Q vs hp := fun K s R =>
  wpAny_Assign_two (AW.elim (h) R (fun v s₁ z vs₁ hp₁ k₁ R₁ q₁ => AW.elim (q₁ v k₁) R₁ (fun _ s₂ _ vs₂ hp₂ _ R₂ q₂ => wpAny_mono (q₂ K s₂ R₂)
    (fun _ s₃ ⟨_, vs₃, hp₃, _, R₃, q₃⟩ => ⟨.next, vs₃, hp₃, rfl, R₃, q₃⟩) fun _ _ x => x))) he hw

/-- an object made by its class -/
theorem CC.make {c fI : Addr} {rest : List Value} {kw : List (Str × Value)} {ao : Addr → AObj} {Q : AV → AHeap → Prop} (hao : ∀ d, ORel C.prog C.w (ao d) (instObj c d)) (hm : makesIn C.K c = true)
    (hi : findIn C.K (.ref c) "__init__" = some (some (.ref fI))) (hf : typeIn C.K (.ref fI) = some (.type "function"))
    (h : ∀ x d, hp x = none → hp d = none → x ≠ d → CC C (A.under (.builtin "type.__call__" ⟨.ref c :: rest, kw⟩)) (.ref fI) ⟨.ref x :: rest, kw⟩ (fun r hp' => r = .none ∧ Q (.ref x) hp') ((hp.put d (.ns [])).put x (ao d))) :
    CC C A (.ref c) ⟨rest, kw⟩ Q hp := fun K s R => by
  have R1 := R.alloc (o := emptyDict) (ao := .ns []) ⟨[], 0, ⟨.nil, by simp⟩, rfl⟩ rfl
  have R2 := R1.alloc (o := instObj c s.heap.objs.size) (hao s.heap.objs.size) rfl
  have hsz : ({ s with heap := s.heap.push emptyDict } : Shared).heap.objs.size = s.heap.objs.size + 1 := Heap.size_push ..
  rw [hsz] at R2
  have f1 : hp (s.heap.objs.size + 1) = none := by
    cases e : hp (s.heap.objs.size + 1) with
    | none => rfl
    | some ao => exact absurd (R.lt e) (Nat.not_lt.mpr (Nat.le_succ _))
  have h1 := h (s.heap.objs.size + 1) s.heap.objs.size f1 R.fresh (Nat.succ_ne_self _) K _ R2
  have X := R.inK
  obtain ⟨hh, g, d, t, os⟩ := s
  refine make_core (makes_of X hm) (looks_findIn X hi) (fun self => bind_fn X self hf) (.inl rfl) (codeAny_mono h1 fun r s' z => ?_)
  rcases r with e | (_ | _ | _ | v)
  · exact z.elim
  · exact z.elim
  · exact z.elim
  · exact z.elim
  · obtain ⟨a, hp', i, R', rfl, q⟩ := z
    cases i
    exact ⟨rfl, .ref _, hp', rfl, R', q⟩
end

theorem small_size {n : Nat} (h : n < 100000) : n ≤ sizeLine := by rw [sizeLine_eq]; omega

section
variable {C : Cx} {A : Around} {b : Str → Bool} {env : Env} {vs : Vars} {hp : AHeap} {K : Addr → Option Obj}

theorem RelH.list {s : Shared} (R : RelH C K hp s) {l : Addr} {as : List AV} (h : hp l = some (.list as)) :
    ∃ us n, IsL as us ∧ s.heap.get? l = some { cls := .type "list", data := .seq us.toArray n } := by
  obtain ⟨_, o, ho, us, n, i, rfl⟩ := R.objs l _ h; exact ⟨us, n, i, ho⟩
theorem RelH.tup {s : Shared} (R : RelH C K hp s) {l : Addr} {as : List AV} (h : hp l = some (.tup as)) :
    ∃ us, IsL as us ∧ s.heap.get? l = some { cls := .type "tuple", data := .seq us.toArray } := by
  obtain ⟨_, o, ho, us, i, rfl⟩ := R.objs l _ h; exact ⟨us, i, ho⟩

theorem RelH.updList {s : Shared} (R : RelH C K hp s) {l : Addr} {as as' : List AV} (h : hp l = some (.list as)) {us us' : List Value} {n : Nat}
    (ho : s.heap.get? l = some { cls := .type "list", data := .seq us.toArray n }) {f : Array Value → Array Value} (hf : f us.toArray = us'.toArray) (i' : IsL as' us') :
    RelH C K (hp.put l (.list as')) { s with heap := s.heap.update l (Obj.mapSeq f) } := by
  have hg := Heap.get?_update_self (Obj.mapSeq f) ho rfl
  have e : ∃ n', Obj.mapSeq f { cls := .type "list", data := .seq us.toArray n } = { cls := .type "list", data := .seq us'.toArray n' } := by
    refine ⟨if (f us.toArray).size == us.toArray.size then n else n + 1, ?_⟩
    show (⟨_, _, .seq (f us.toArray) _, _⟩ : Obj) = _
    rw [hf]
  obtain ⟨n', e⟩ := e
  rw [e] at hg
  exact R.change (n := s.toks) (ao' := .list as') h hg ⟨us', n', i', rfl⟩ (fun b o hb e => (Heap.get?_update_other _ _ (Ne.symm hb)).trans e) (by simp [Heap.update])

theorem IsL.len {as : List AV} {us : List Value} (i : IsL as us) : us.length = as.length := F2.length i

/-! items -/
theorem CW.subList {value slice : Expr} {l : Addr} {k : Int} {t : Tok} {as : List AV} {a : AV} {Q : AV → AHeap → Prop} (hl : hp l = some (.list as)) (h0 : 0 ≤ k) (hz : as.length < 100000)
    (hx : as[k.toNat]? = some a) (h : Q a hp)
    (hs : subscripted slice false (.ref l) (.int k t) = operate [.ref l, .int k t] (getItem (.ref l) (.int k t)) := by with_unfolding_all rfl) :
    CW C A Is (subscriptTail value slice (.ref l) (.int k t)) Q hp := fun K s R => by
  obtain ⟨us, n, i, ho⟩ := R.list hl
  have hL : s.heap.IsList l us.toArray := ⟨_, ho, rfl, n, rfl⟩
  obtain ⟨v, hv, j⟩ := F2.get i hx
  have : k.toNat < as.length := (List.getElem?_eq_some_iff.mp hx).1
  exact tail_any hL.typeIs slot_list_getitem.lookup (wpAny_getItem_list hL h0 (by omega) (by rw [List.getElem?_toArray]; exact hv) ⟨a, hp, j, R, h⟩) hs
theorem CW.subListLast {value slice : Expr} {l : Addr} {t : Tok} {as : List AV} {a : AV} {Q : AV → AHeap → Prop} (hl : hp l = some (.list (as ++ [a]))) (hz : as.length < 100000) (h : Q a hp)
    (hs : subscripted slice false (.ref l) (.int (-1) t) = operate [.ref l, .int (-1) t] (getItem (.ref l) (.int (-1) t)) := by with_unfolding_all rfl) :
    CW C A Is (subscriptTail value slice (.ref l) (.int (-1) t)) Q hp := fun K s R => by
  obtain ⟨us, n, i, ho⟩ := R.list hl
  have hL : s.heap.IsList l us.toArray := ⟨_, ho, rfl, n, rfl⟩
  have hx : (as ++ [a])[as.length]? = some a := by simp
  obtain ⟨v, hv, j⟩ := F2.get i hx
  have hn : us.length = as.length + 1 := by rw [i.len]; simp
  refine tail_any hL.typeIs slot_list_getitem.lookup (wpAny_getItem_list_neg hL (by omega) (by simp; omega) (by omega) ?_ ⟨a, hp, j, R, h⟩) hs
  rw [List.size_toArray, List.getElem?_toArray, hn]
  rw [show ((-1 : Int) + ((as.length + 1 : Nat) : Int)).toNat = as.length by omega]; exact hv
theorem CW.setItemList {l : Addr} {k : Int} {t : Tok} {v : Value} {as : List AV} {a : AV} {Q : Unit → AHeap → Prop} (hl : hp l = some (.list as)) (h0 : 0 ≤ k) (hz : as.length < 100000)
    (hk : k.toNat < as.length) (j : Is a v) (h : Q () (hp.put l (.list (as.set k.toNat a)))) : CW C A IsU (setItem (.ref l) (.int k t) v) Q hp := fun K s R => by
  obtain ⟨us, n, i, ho⟩ := R.list hl
  have hL : s.heap.IsList l us.toArray := ⟨_, ho, rfl, n, rfl⟩
  have hj : k.toNat < us.length := by rw [i.len]; exact hk
  unfold setItem
  try with_reducible refine wpAny_holding ?_
  first | refine wpAny_bind (wpAny_pure ?_) | skip
  refine wpAny_bind (wpAny_sequenceKey hL.typeIs (by decide) ?_)
  refine wpAny_bind (wpAny_callSpecial?_slot (name := Str.ofString "__setitem__") hL.typeIs slot_list_setitem
    (wpAny_call_entry slot_list_setitem hL.typeIs entry_list_setitem ?_ (args_list_setitem _ _ _)))
  show wpAny _ _ (Builtin.List.listSubscript? (.int k t) >>= _) _ _ s
  refine wpAny_bind (wpAny_listSubscript_int (fitsIndex_of h0 (by omega)) ?_)
  have hR := R.updList (as' := as.set k.toNat a) (us' := us.set k.toNat v) (f := (·.setIfInBounds k.toNat v)) hl ho (by simp) (F2.set i j _)
  obtain ⟨j', rfl⟩ := Int.eq_ofNat_of_zero_le h0
  have hx' : us.toArray[j']? = some us[j'] := by rw [List.getElem?_toArray]; exact List.getElem?_eq_getElem hj
  show wpAny _ _ ((seqItemAt l j' >>= fun r => Pure.pure (r.map (j', ·))) >>= _) _ _ s
  refine wpAny_bind (wpAny_bind (wpAny_seqItemAt ho rfl (wpAny_pure ?_)))
  rw [hx']
  show wpAny _ _ (setSeqItemAt l j' v >>= _) _ _ s
  refine wpAny_bind (wpAny_setSeqItemAt ho rfl ?_)
  first
    | exact wpAny_bind (wpAny_pure (wpAny_pure ⟨.none, rfl, wpAny_pure ⟨(), _, trivial, hR, h⟩⟩))
    | exact wpAny_pure ⟨.none, rfl, wpAny_pure ⟨(), _, trivial, hR, h⟩⟩
end
section
variable {C : Cx} {A : Around} {b : Str → Bool} {env : Env} {vs : Vars} {hp : AHeap} {K : Addr → Option Obj}

theorem RelH.alloc' {s : Shared} (R : RelH C K hp s) {o : Obj} {ao : AObj} (r : ORel C.prog C.w ao o) {s' : Shared} (hs : ∃ h', s' = { s with heap := h' } ∧ (∀ b o', s.heap.get? b = some o' → h'.get? b = some o') ∧ h'.get? s.heap.objs.size = some o) :
    RelH C K (hp.put s.heap.objs.size ao) s' := by
  obtain ⟨h', rfl, hk, ho⟩ := hs
  refine ⟨R.base, fun a o' e => hk a o' (R.keepB a o' e), fun a o' e => let ⟨o'', ho, k⟩ := R.keep a o' e; ⟨o'', hk a o'' ho, k⟩, fun a ao' e => ?_, R.gens, R.drawn, R.os, Nat.le_trans R.big (Nat.le_of_lt (Heap.lt_size ho)), fun a ao e => ?_, R.frs⟩
  · unfold AHeap.put at e
    split at e
    · rename_i q; subst q; cases e
      refine ⟨?_, o, ho, r⟩
      cases e : K s.heap.objs.size with
      | none => rfl
      | some o' => obtain ⟨_, h, _⟩ := R.keep _ _ e; exact absurd (Heap.lt_size h) (Nat.lt_irrefl _)
    · obtain ⟨k, o', ho', r'⟩ := R.objs a ao' e
      exact ⟨k, o', hk _ _ ho', r'⟩
  · unfold AHeap.put at e
    split at e
    · rename_i q; subst q; exact R.big
    · exact R.low a ao e

/-! methods -/
theorem RelH.listTy {l : Addr} {as : List AV} (h : hp l = some (.list as)) : ∀ K s, RelH C K hp s → ∃ o, s.heap.get? l = some o ∧ o.cls = .type "list" ∧ o.dict = none := fun K s R => by
  obtain ⟨us, n, _, ho⟩ := R.list h; exact ⟨_, ho, rfl, rfl⟩

theorem CW.append {l : Addr} {v : Value} {as : List AV} {a : AV} {Q : AV → AHeap → Prop} (hl : hp l = some (.list as)) (hz : as.length < 100000) (i : Is a v) (h : Q .none (hp.put l (.list (as ++ [a])))) :
    CW C A Is (call (.builtin "list.append") [.ref l, v]) Q hp := fun K s R => by
  obtain ⟨us, n, j, ho⟩ := R.list hl
  exact call_meets F.slot_list_append ⟨_, ho, rfl⟩ F.entry_list_append (F.args_list_append_2 _ _) (list_append l us.toArray n v (by rw [List.size_toArray, j.len]; exact small_size hz))
    ⟨ho, .none, _, rfl, R.updList hl ho (us' := us ++ [v]) (by simp) (F2.append j (.cons i .nil)), h⟩
theorem CW.clear {l : Addr} {as : List AV} {Q : AV → AHeap → Prop} (hl : hp l = some (.list as)) (hz : as.length < 100000) (h : Q .none (hp.put l (.list []))) :
    CW C A Is (call (.builtin "list.clear") [.ref l]) Q hp := fun K s R => by
  obtain ⟨us, n, j, ho⟩ := R.list hl
  exact call_meets F.slot_list_clear ⟨_, ho, rfl⟩ F.entry_list_clear (F.args_list_clear_1 _) (AutoSeq1.list_clear_list_0 l us.toArray n (by rw [List.size_toArray, j.len]; exact small_size hz))
    ⟨ho, .none, _, rfl, R.updList hl ho (us' := []) (by simp) .nil, h⟩
theorem F2.eraseIdx {α β : Type} {R : α → β → Prop} {as : List α} {bs : List β} (h : F2 R as bs) : ∀ n, F2 R (as.eraseIdx n) (bs.eraseIdx n) := by
  induction h with
  | nil => intro n; exact .nil
  | cons r h ih => intro n; cases n with
    | zero => exact h
    | succ n => exact .cons r (ih n)
theorem CW.popAt {l : Addr} {k : Int} {t : Tok} {as : List AV} {a : AV} {Q : AV → AHeap → Prop} (hl : hp l = some (.list as)) (hz : as.length < 100000) (h0 : 0 ≤ k) (hx : as[k.toNat]? = some a)
    (h : Q a (hp.put l (.list (as.eraseIdx k.toNat)))) : CW C A Is (call (.builtin "list.pop") [.ref l, .int k t]) Q hp := fun K s R => by
  obtain ⟨us, n, j, ho⟩ := R.list hl
  obtain ⟨v, hv, i⟩ := F2.get j hx
  have hk : k.toNat < as.length := (List.getElem?_eq_some_iff.mp hx).1
  have hlen := j.len
  refine call_meets F.slot_list_pop ⟨_, ho, rfl⟩ F.entry_list_pop (F.args_list_pop_2 _ _) (MeetsSeq.list_pop_at l us.toArray n k t k.toNat v (fitsIndex_of h0 (by omega)) (seqIndex_of h0 (by rw [List.size_toArray]; omega))
    (by rw [List.getElem?_toArray]; exact hv) (by rw [List.size_toArray, j.len]; exact small_size hz)) ⟨ho, a, _, i, R.updList hl ho (us' := us.eraseIdx k.toNat) ?_ (F2.eraseIdx j _), h⟩
  simp
theorem CW.popLast {l : Addr} {as : List AV} {a : AV} {Q : AV → AHeap → Prop} (hl : hp l = some (.list (as ++ [a]))) (hz : as.length < 90000)
    (h : Q a (hp.put l (.list as))) : CW C A Is (call (.builtin "list.pop") [.ref l]) Q hp := fun K s R => by
  obtain ⟨us, n, j, ho⟩ := R.list hl
  have hx : (as ++ [a])[as.length]? = some a := by simp
  obtain ⟨v, hv, i⟩ := F2.get j hx
  have hlen : us.length = as.length + 1 := by rw [j.len]; simp
  refine call_meets F.slot_list_pop ⟨_, ho, rfl⟩ F.entry_list_pop (F.args_list_pop_1 _) (MeetsSeq.list_pop_last l us.toArray n v (by rw [List.size_toArray, List.getElem?_toArray, hlen]; exact hv) (by rw [List.size_toArray, hlen]; exact small_size (by omega)))
    ⟨ho, a, _, i, R.updList (as' := as) hl ho (us' := us.eraseIdx as.length) (by simp [hlen]) ?_, h⟩
  have := F2.eraseIdx j as.length
  rwa [show (as ++ [a]).eraseIdx as.length = as by rw [List.eraseIdx_append_of_length_le (Nat.le_refl _)]; simp] at this

/-! + in not in len truth -/
theorem CW.addList {l l' : Addr} {as as' : List AV} {Q : AV → AHeap → Prop} (hl : hp l = some (.list as)) (hl' : hp l' = some (.list as')) (hz : as.length + as'.length < 100000)
    (h : ∀ r, hp r = none → Q (.ref r) (hp.put r (.list (as ++ as')))) : CW C A Is (binaryOp .Add (.ref l) (.ref l')) Q hp := fun K s R => by
  obtain ⟨us, n, j, ho⟩ := R.list hl
  obtain ⟨us', n', j', ho'⟩ := R.list hl'
  refine P.add_list ho ho' ⟨.ref _, _, rfl, R.alloc (ao := .list (as ++ as')) ⟨us ++ us', 0, F2.append j j', by simp⟩ rfl, h _ R.fresh⟩ ?_
  rw [List.size_toArray, List.size_toArray, j.len, j'.len]; exact small_size hz

noncomputable def isI (k : Int) : Value → Bool
  | .int j _ => j == k
  | _ => false
theorem ints_shape {ns : List Int} {us : List Value} (h : IsL (ns.map .int) us) : ∀ y ∈ us, ∃ j t, y = .int j t := by
  induction ns generalizing us with
  | nil => cases h; intro y h; cases h
  | cons n ns ih =>
    cases h with
    | cons r h =>
      intro y hy
      rcases List.mem_cons.mp hy with rfl | hy
      · obtain ⟨t, rfl⟩ := r; exact ⟨n, t, rfl⟩
      · exact ih h y hy
theorem ints_any {ns : List Int} {us : List Value} (h : IsL (ns.map .int) us) (k : Int) : us.toArray.any (isI k) = decide (k ∈ ns) := by
  rw [List.any_toArray]
  induction ns generalizing us with
  | nil => cases h; rfl
  | cons n ns ih =>
    cases h with
    | cons r h =>
      obtain ⟨t, rfl⟩ := r
      rw [List.any_cons, ih h]
      simp only [isI, List.mem_cons, Bool.decide_or]
      congr 1
      by_cases q : n = k
      · simp [q]
      · simp [q, Ne.symm q]
theorem CW.inList {l : Addr} {k : Int} {t : Tok} {ns : List Int} {Q : AV → AHeap → Prop} (hl : hp l = some (.list (ns.map .int))) (h : Q (.bool (decide (k ∈ ns))) hp) :
    CW C A Is (compareOp .In (.int k t) (.ref l)) Q hp := fun K s R => by
  obtain ⟨us, n, j, ho⟩ := R.list hl
  refine SeqRoads2.in_list (isI k) (fun y hy => ?_) ho ⟨.bool _, hp, rfl, R, ?_⟩
  · obtain ⟨x, u, rfl⟩ := ints_shape j y (by simpa using hy); exact MeetsSeq.EqGives.int _ _ _ _
  · rw [ints_any j]; exact h
theorem CW.notInList {l : Addr} {k : Int} {t : Tok} {ns : List Int} {Q : AV → AHeap → Prop} (hl : hp l = some (.list (ns.map .int))) (h : Q (.bool (!decide (k ∈ ns))) hp) :
    CW C A Is (compareOp .NotIn (.int k t) (.ref l)) Q hp := fun K s R => by
  obtain ⟨us, n, j, ho⟩ := R.list hl
  refine SeqRoads2.notIn_list (isI k) (fun y hy => ?_) ho ⟨.bool _, hp, rfl, R, ?_⟩
  · obtain ⟨x, u, rfl⟩ := ints_shape j y (by simpa using hy); exact MeetsSeq.EqGives.int _ _ _ _
  · rw [ints_any j]; exact h
theorem CW.lenList {l : Addr} {as : List AV} {Q : AV → AHeap → Prop} (hl : hp l = some (.list as)) (hz : as.length < 100000) (h : Q (.int as.length) hp) : CW C A Is (call (.builtin "len") [.ref l]) Q hp := fun K s R => by
  obtain ⟨us, n, j, ho⟩ := R.list hl
  refine Calls.call_len_list ⟨_, ho, rfl, n, rfl⟩ (by rw [List.size_toArray, j.len]; omega) ⟨.int as.length, hp, ⟨_, by rw [List.size_toArray, j.len]⟩, R.toks _, h⟩
theorem CW.lenTup {l : Addr} {as : List AV} {Q : AV → AHeap → Prop} (hl : hp l = some (.tup as)) (hz : as.length < 100000) (h : Q (.int as.length) hp) : CW C A Is (call (.builtin "len") [.ref l]) Q hp := fun K s R => by
  obtain ⟨us, j, ho⟩ := R.tup hl
  refine len_tuple (items := us.toArray) ⟨_, ho, rfl, _, rfl⟩ (by rw [List.size_toArray, j.len]; omega) ⟨.int as.length, hp, ⟨_, by rw [List.size_toArray, j.len]⟩, R.toks _, h⟩
theorem CW.truthyList {l : Addr} {as : List AV} {Q : Bool → AHeap → Prop} (hl : hp l = some (.list as)) (hz : as.length < 100000) (h : Q (!as.isEmpty) hp) : CW C A IsB (truthy (.ref l)) Q hp := fun K s R => by
  obtain ⟨us, n, j, ho⟩ := R.list hl
  refine wpAny_truthy_list (items := us.toArray) ⟨_, ho, rfl, n, rfl⟩ (by rw [List.size_toArray, j.len]; omega) ⟨!as.isEmpty, hp, ?_, R.toks _, h⟩
  show _ = !us.toArray.isEmpty
  cases j <;> rfl

/-! list() and tuple() -/
theorem CW.listOfList {l : Addr} {as : List AV} {Q : AV → AHeap → Prop} (hl : hp l = some (.list as)) (hz : as.length < 100000) (h : ∀ r, hp r = none → Q (.ref r) (hp.put r (.list as))) :
    CW C A Is (call (.type "list") [.ref l]) Q hp := fun K s R => by
  obtain ⟨us, n, j, ho⟩ := R.list hl
  refine call_list_seq l (.inl rfl) ho rfl rfl (fun h' c' hk hg => ⟨.ref _, _, rfl, R.alloc' (ao := .list as) ⟨us, c', j, rfl⟩ ⟨h', rfl, hk, hg⟩, h _ R.fresh⟩) ?_
  rw [List.size_toArray, j.len]; exact small_size hz
theorem CW.listOfTup {l : Addr} {as : List AV} {Q : AV → AHeap → Prop} (hl : hp l = some (.tup as)) (hz : as.length < 100000) (h : ∀ r, hp r = none → Q (.ref r) (hp.put r (.list as))) :
    CW C A Is (call (.type "list") [.ref l]) Q hp := fun K s R => by
  obtain ⟨us, j, ho⟩ := R.tup hl
  refine call_list_seq l (.inr rfl) ho rfl rfl (fun h' c' hk hg => ⟨.ref _, _, rfl, R.alloc' (ao := .list as) ⟨us, c', j, rfl⟩ ⟨h', rfl, hk, hg⟩, h _ R.fresh⟩) ?_
  rw [List.size_toArray, j.len]; exact small_size hz
end

open Classical in
/-- one more object that stays as it is -/
noncomputable def Kadd (K : Addr → Option Obj) (it : Addr) (o : Obj) : Addr → Option Obj := fun a => if a = it then some o else K a

section
variable {C : Cx} {A : Around} {b : Str → Bool} {env : Env} {vs : Vars} {hp : AHeap} {K : Addr → Option Obj}

theorem Kadd_self {it : Addr} {o : Obj} : Kadd K it o it = some o := by simp [Kadd]
theorem Kadd_ne {it a : Addr} {o : Obj} (h : a ≠ it) : Kadd K it o a = K a := by simp [Kadd, h]
theorem Kadd_none {it a : Addr} {o : Obj} (h : Kadd K it o a = none) : a ≠ it ∧ K a = none := by
  by_cases q : a = it
  · rw [q, Kadd_self] at h; cases h
  · rw [Kadd_ne q] at h; exact ⟨q, h⟩

/-- apart: nothing of the frame's, nothing held -/
structure Apart (C : Cx) (K : Addr → Option Obj) (b : Str → Bool) (env : Env) (it : Addr) : Prop where
  frs : ∀ e ∈ C.fs, FrameIn C.h₀ K e
  frm : env.scope.kind ≠ .module ∧ ∃ L, env.frame = some L ∧ (L = env.locals ∨ ∃ o es ep, K L = some o ∧ o.data = .dict es ep ∧ C.h₀.get? L = none)
  k : K it = none
  base : C.h₀.get? it = none
  own : ¬ ownOf b env it
  bor : ∀ x c, CellName env x → env.cells.lookup x = some c → b x = true → c ≠ it

theorem Rel.apart {s : Shared} (R : Rel C K b env vs hp s) {it : Addr} (h : s.heap.objs.size ≤ it) : Apart C K b env it := by
  have lt : ∀ a o, s.heap.get? a = some o → a ≠ it := fun a o e q => by
    have := Heap.lt_size e; subst q; exact absurd this (Nat.not_lt.mpr h)
  refine ⟨R.h.frs, R.frm, ?_, ?_, ?_, ?_⟩
  · cases e : K it with
    | none => rfl
    | some o => obtain ⟨_, h, _⟩ := R.h.keep _ _ e; exact absurd rfl (lt _ _ h)
  · cases e : C.h₀.get? it with
    | none => rfl
    | some o => exact absurd rfl (lt _ o (R.h.keepB _ _ e))
  · rintro (q | ⟨x, hx, _, hc⟩)
    · obtain ⟨m, ⟨o, es, ep, ho, _⟩, _⟩ := R.loc; exact lt _ _ ho q.symm
    · obtain ⟨o, ov, ho, _⟩ := R.cel x _ hx hc; exact lt _ _ ho rfl
  · intro x c hx hc _
    obtain ⟨o, ov, ho, _⟩ := R.cel x _ hx hc; exact lt _ _ ho

theorem RelH.freeze {s : Shared} (R : RelH C K hp s) {it : Addr} {o : Obj} (ho : s.heap.get? it = some o) (hh : hp it = none) (hb : C.h₀.get? it = none) (hK : K it = none) : RelH C (Kadd K it o) hp s := by
  refine ⟨fun a o' e => ?_, R.keepB, fun a o' e => ?_, fun a ao e => ⟨?_, (R.objs a ao e).2⟩, R.gens, R.drawn, R.os, R.big, R.low, fun e he => ?_⟩
  · rw [Kadd_ne (fun q => by rw [q, hb] at e; cases e)]; exact R.base a o' e
  · by_cases q : a = it
    · rw [q, Kadd_self] at e; cases e; rw [q]; exact ⟨_, ho, .rfl⟩
    · rw [Kadd_ne q] at e; exact R.keep a o' e
  · rw [Kadd_ne (fun q => by rw [q, hh] at e; cases e)]; exact (R.objs a ao e).1
  · obtain ⟨h1, L, o', es, ep, h2, h3, h4⟩ := R.frs e he
    refine ⟨h1, L, o', es, ep, h2, ?_, h4⟩
    rw [Kadd_ne (fun q => by rw [q, hK] at h3; cases h3)]; exact h3

theorem Rel.freeze {s : Shared} (R : Rel C K b env vs hp s) {it : Addr} {o : Obj} (ho : s.heap.get? it = some o) (hh : hp it = none) (ap : Apart C K b env it) : Rel C (Kadd K it o) b env vs hp s := by
  refine ⟨R.h.freeze ho hh ap.base ap.k, R.hi, fun a q => ⟨?_, (R.own a q).2⟩, R.loc, fun x c hx hc => ?_, ⟨R.frm.1, ?_⟩⟩
  · have ne : a ≠ it := fun e => ap.own (by rw [← e]; exact q)
    rw [Kadd_ne ne]; exact (R.own a q).1
  · obtain ⟨o, ov, ho, hd, hv, hb⟩ := R.cel x c hx hc
    exact ⟨o, ov, ho, hd, hv, fun e => by obtain ⟨o₀, h1, h2⟩ := hb e; exact ⟨o₀, by rw [Kadd_ne (ap.bor x c hx hc e)]; exact h1, h2⟩⟩
  · obtain ⟨_, L, h2, h3⟩ := R.frm
    refine ⟨L, h2, h3.imp id ?_⟩
    rintro ⟨o', es, ep, h3, h4⟩
    exact ⟨o', es, ep, by rw [Kadd_ne (fun q => by rw [q, ap.k] at h3; cases h3)]; exact h3, h4⟩

theorem RelH.thaw {s : Shared} {it : Addr} {o : Obj} (R : RelH C (Kadd K it o) hp s) (hK : K it = none) (hb : C.h₀.get? it = none) (hf : ∀ e ∈ C.fs, FrameIn C.h₀ K e) : RelH C K hp s := by
  refine R.weaken (fun a o' e => ?_) (fun a o' e => R.keep a o' ?_) (fun a ao e => ⟨e, (Kadd_none (R.objs a ao e).1).2⟩) fun e he => ?_
  · have := R.base a o' e
    rwa [Kadd_ne (fun q => by rw [q, hb] at e; cases e)] at this
  · rw [Kadd_ne (fun q => by rw [q, hK] at e; cases e)]; exact e
  · exact hf e he
theorem Rel.thaw {s : Shared} {it : Addr} {o : Obj} (R : Rel C (Kadd K it o) b env vs hp s) (ap : Apart C K b env it) : Rel C K b env vs hp s := by
  refine ⟨R.h.thaw ap.k ap.base ap.frs, R.hi, fun a q => ⟨(Kadd_none (R.own a q).1).2, (R.own a q).2⟩, R.loc, fun x c hx hc => ?_, ap.frm⟩
  obtain ⟨o, ov, ho, hd, hv, hb⟩ := R.cel x c hx hc
  exact ⟨o, ov, ho, hd, hv, fun e => by obtain ⟨o₀, h1, h2⟩ := hb e; exact ⟨o₀, by rwa [Kadd_ne (ap.bor x c hx hc e)] at h1, h2⟩⟩

/-- all but the held one stays -/
theorem Rel.ext {s : Shared} {it : Addr} {o : Obj} (R : Rel C (Kadd K it o) b env vs hp s) (ap : Apart C K b env it) {h' : Heap} (hs : Heap.ExtBut it s.heap h') (tk : Nat) : Rel C K b env vs hp { s with heap := h', toks := tk } := by
  have ne : ∀ a, Kadd K it o a = none → a ≠ it := fun a e => (Kadd_none e).1
  have T := R.thaw ap
  have hL : env.locals ≠ it := fun e => ap.own (.inl e.symm)
  refine ⟨⟨T.h.base, fun a o' e => hs a o' (fun q => by rw [q, ap.base] at e; cases e) (T.h.keepB a o' e), fun a o' e => let ⟨o'', ho, k⟩ := T.h.keep a o' e; ⟨o'', hs a o'' (fun q => by rw [q, ap.k] at e; cases e) ho, k⟩, fun a ao e => ?_, R.h.gens, R.h.drawn, R.h.os, ?_, R.h.low, T.h.frs⟩, R.hi, T.own, ?_, fun x c hx hc => ?_, T.frm⟩
  · obtain ⟨k, o', ho', r⟩ := R.h.objs a ao e
    exact ⟨(Kadd_none k).2, o', hs a o' (ne a k) ho', r⟩
  · obtain ⟨m, ⟨o, es, ep, ho, r⟩, _⟩ := R.loc
    exact Nat.le_of_lt (Nat.lt_of_le_of_lt R.hi (Heap.lt_size (hs _ _ hL ho)))
  · obtain ⟨m, ⟨o, es, ep, ho, r⟩, q⟩ := R.loc
    exact ⟨m, ⟨o, es, ep, hs _ _ hL ho, r⟩, q⟩
  · obtain ⟨o, ov, ho, hd, hv, hb⟩ := T.cel x c hx hc
    refine ⟨o, ov, hs c o (fun e => ?_) ho, hd, hv, hb⟩
    cases hbx : b x with
    | false => exact ap.own (.inr ⟨x, hx, hbx, e ▸ hc⟩)
    | true => exact ap.bor x c hx hc hbx e

theorem Rel.hpNone {s : Shared} {it : Addr} {o : Obj} (R : Rel C (Kadd K it o) b env vs hp s) : hp it = none := by
  cases e : hp it with
  | none => rfl
  | some ao => have := (R.h.objs it ao e).1; rw [Kadd_self] at this; cases this

/-- what a loop walks over -/
structure Walker (C : Cx) (Src : AHeap → Prop) (items : List AV) (io : Nat → Obj → Prop) : Prop where
  next : ∀ {A : Around} {K : Addr → Option Obj} {hp : AHeap} {s : Shared} {it : Addr} {o : Obj} {i : Nat} {a : AV}, RelH C K hp s → Src hp → s.heap.get? it = some o → io i o → hp it = none → items[i]? = some a →
    ∀ (Q : Option Value → Shared → Prop) (E : Value → Shared → Prop), (∀ v h' o' tk, Is a v → h'.get? it = some o' → io (i + 1) o' → Heap.ExtBut it s.heap h' → Q (some v) { s with heap := h', toks := tk }) →
    wpAny (model C.prog C.w) A (pyNext (.ref it)) Q E s
  stop : ∀ {A : Around} {K : Addr → Option Obj} {hp : AHeap} {s : Shared} {it : Addr} {o : Obj} {i : Nat}, A.handled = none → RelH C K hp s → Src hp → s.heap.get? it = some o → io i o → hp it = none → items[i]? = none →
    ∀ (Q : Option Value → Shared → Prop) (E : Value → Shared → Prop), (∀ h' tk, Heap.ExtBut it s.heap h' → Q none { s with heap := h', toks := tk }) → wpAny (model C.prog C.w) A (pyNext (.ref it)) Q E s
  go : ∀ {A : Around} {s : Shared} {it : Addr} {o : Obj} {i : Nat} {target : Expr} {v : Value}, s.heap.get? it = some o → io i o → ∀ (Q : Unit → Shared → Prop) (E : Value → Shared → Prop), Q () s →
    wpAny (model C.prog C.w) A (letOwnedTupleGo target (.ref it) v) Q E s
  nd : ∀ i o, io i o → ∀ es ep, o.data ≠ .dict es ep
  self : ∀ {A : Around} {s : Shared} {it : Addr} {o : Obj} {i : Nat}, s.heap.get? it = some o → io i o → ∀ (Q : Value → Shared → Prop) (E : Value → Shared → Prop), Q (.ref it) s →
    wpAny (model C.prog C.w) A (pyIter (.ref it)) Q E s

noncomputable def Starts (C : Cx) (hp : AHeap) (v : Value) (io : Nat → Obj → Prop) : Prop :=
  ∀ (A : Around) (K : Addr → Option Obj) (s : Shared), RelH C K hp s → ∀ (Q : Value → Shared → Prop) (E : Value → Shared → Prop),
    (∀ it o h', h'.get? it = some o → io 0 o → (∀ b o, s.heap.get? b = some o → h'.get? b = some o) → s.heap.objs.size ≤ it → Q (.ref it) { s with heap := h' }) → wpAny (model C.prog C.w) A (pyIter v) Q E s

theorem AW.While0 {test : Expr} {body orelse : List Stmt} {pos : Pos} {Q : AFlow → Vars → AHeap → Prop} (I : Nat → Vars → AHeap → Prop)
    (turn : ∀ n vs hp, I n vs hp → AW C A b env IsB (isTrue test env (eval test env)) (fun c vs₁ hp₁ => if c then AW C A b env FlowIs (execs body env) (fun f vs₂ hp₂ => match f with
        | .next | .cont => ∃ m, m < n ∧ I m vs₂ hp₂
        | .brk => Q .next vs₂ hp₂
        | .ret a => Q (.ret a) vs₂ hp₂) vs₁ hp₁
      else AW C A b env FlowIs (execs orelse env) Q vs₁ hp₁) vs hp)
    (n : Nat) (h : I n vs hp) : AW C A b env FlowIs (exec (.While test body orelse pos) env) Q vs hp := fun K s R => by
  refine wpAny_While (codeAny_mono (R := fun r s' => match r with | .ok f => ∃ a vs' hp', FlowIs a f ∧ Rel C K b env vs' hp' s' ∧ Q a vs' hp' | .error _ => False) ?_ fun r s' z => by cases r <;> first | exact z | exact z.elim)
  refine codeAny_whileLoop (fun n s => ∃ vs hp, Rel C K b env vs hp s ∧ I n vs hp) (fun n s ⟨vs, hp, R, hI⟩ => ?_) n ⟨vs, hp, R, h⟩
  refine AW.elim (turn n vs hp hI) R (fun c s₁ c' vs₁ hp₁ i R₁ q => ?_)
  cases i
  cases c with
  | false =>
    exact wpAny_mono (q K s₁ R₁) (fun f s₂ z => z) fun _ _ x => x.elim
  | true =>
    refine AW.elim (q) R₁ (fun f s₂ f' vs₂ hp₂ j R₂ q₂ => ?_)
    cases f' with
    | next => cases j; obtain ⟨m, hm, hI⟩ := q₂; exact ⟨m, hm, vs₂, hp₂, R₂, hI⟩
    | cont => cases j; obtain ⟨m, hm, hI⟩ := q₂; exact ⟨m, hm, vs₂, hp₂, R₂, hI⟩
    | brk => cases j; exact ⟨.next, vs₂, hp₂, rfl, R₂, q₂⟩
    | ret a => obtain ⟨v, rfl, j⟩ := j; exact ⟨.ret a, vs₂, hp₂, ⟨v, rfl, j⟩, R₂, q₂⟩

theorem AW.For0 {target iter : Expr} {body orelse : List Stmt} {pos : Pos} {Q : AFlow → Vars → AHeap → Prop} (hh : A.handled = none)
    (h : AW C A b env Is (eval iter env) (fun x vs₁ hp₁ => ∃ Src items io, Walker C Src items io ∧ (∀ v, Is x v → Starts C hp₁ v io) ∧ ∃ I : Nat → Vars → AHeap → Prop, I 0 vs₁ hp₁ ∧ (∀ i vs hp, I i vs hp → Src hp) ∧
      (∀ i a vs hp, items[i]? = some a → I i vs hp → ∀ v, Is a v → AW C A b env IsU (assign target env v) (fun _ vs₂ hp₂ => AW C A b env FlowIs (execs body env) (fun f vs₃ hp₃ => match f with
          | .next | .cont => I (i + 1) vs₃ hp₃
          | .brk => Q .next vs₃ hp₃
          | .ret r => Q (.ret r) vs₃ hp₃) vs₂ hp₂) vs hp) ∧
      (∀ vs hp, I items.length vs hp → AW C A b env FlowIs (execs orelse env) Q vs hp)) vs hp)
    (hs : ∀ x, foldedSetIterable iter env x = Pure.pure x := by intro _; rfl) :
    AW C A b env FlowIs (exec (.For target iter body orelse pos) env) Q vs hp := fun K s R => by
  refine wpAny_For (AW.elim (h) R (fun xv s₁ x vs₁ hp₁ i R₁ ⟨Src, items, io, W, st, I, I0, IS, turn, fin⟩ => ?_)) hs
  refine st xv i A _ s₁ R₁.h _ _ fun it o h' ho hio hk hit => ?_
  have ap := R₁.apart hit
  have hh1 : hp₁ it = none := by
    cases e : hp₁ it with
    | none => rfl
    | some ao => exact absurd (Nat.lt_of_lt_of_le (R₁.h.lt e) hit) (Nat.lt_irrefl _)
  have R₂ : Rel C (Kadd K it o) b env vs₁ hp₁ { s₁ with heap := h' } :=
    Rel.freeze (R₁.grow (s' := { s₁ with heap := h' }) hk rfl rfl rfl (Nat.le_trans hit (Nat.le_of_lt (Heap.lt_size ho)))) ho hh1 ap
  refine codeAny_mono (R := fun r s' => match r with | .ok f => ∃ a vs' hp', FlowIs a f ∧ Rel C K b env vs' hp' s' ∧ Q a vs' hp' | .error _ => False) ?_ fun r s' z => by cases r <;> first | exact z | exact z.elim
  refine codeAny_forLoop_any (fun n s => ∃ i o vs hp, n + i = items.length ∧ io i o ∧ Rel C (Kadd K it o) b env vs hp s ∧ I i vs hp) (fun n s ⟨i, o, vs, hp, hn, hio, R, hI⟩ => ?_) items.length ⟨0, o, vs₁, hp₁, rfl, hio, R₂, I0⟩
  have hito : s.heap.get? it = some o := by
    obtain ⟨o', h1, h2⟩ := R.h.keep it o Kadd_self
    rw [h2.exact (W.nd i o hio)] at h1; exact h1
  cases e : items[i]? with
  | none =>
    refine W.stop hh R.h (IS i vs hp hI) hito hio R.hpNone e _ _ fun h'' tk hx => ?_
    have hil : i = items.length := by
      have := List.getElem?_eq_none_iff.mp e; omega
    subst hil
    refine wpAny_mono (fin vs hp hI K _ (R.ext ap hx tk)) (fun f s₂ z => z) fun _ _ x => x.elim
  | some a =>
    refine W.next R.h (IS i vs hp hI) hito hio R.hpNone e _ _ fun v h'' o' tk hv ho' hio' hx => ?_
    have R' : Rel C (Kadd K it o') b env vs hp { s with heap := h'', toks := tk } := Rel.freeze (R.ext ap hx tk) ho' R.hpNone ap
    refine W.go ho' hio' _ _ ?_
    refine AW.elim (turn i a vs hp e hI v hv) R' (fun _ s₂ _ vs₂ hp₂ _ R₂ q => ?_)
    refine AW.elim (q) R₂ (fun f s₃ f' vs₃ hp₃ j R₃ q₃ => ?_)
    have hlt : i < items.length := (List.getElem?_eq_some_iff.mp e).1
    cases f' with
    | next => cases j; exact ⟨n - 1, by omega, i + 1, o', vs₃, hp₃, by omega, hio', R₃, q₃⟩
    | cont => cases j; exact ⟨n - 1, by omega, i + 1, o', vs₃, hp₃, by omega, hio', R₃, q₃⟩
    | brk => cases j; exact ⟨.next, vs₃, hp₃, rfl, R₃.thaw ap, q₃⟩
    | ret r => obtain ⟨u, rfl, j⟩ := j; exact ⟨.ret r, vs₃, hp₃, ⟨u, rfl, j⟩, R₃.thaw ap, q₃⟩

/-- what a turn's ends ask, by another name -/
structure Lp (I' : Vars → AHeap → Prop) (Q QB : AFlow → Vars → AHeap → Prop) : Prop where
  next : ∀ vs hp, I' vs hp → QB .next vs hp
  cont : ∀ vs hp, I' vs hp → QB .cont vs hp
  brk : ∀ vs hp, Q .next vs hp → QB .brk vs hp
  ret : ∀ r vs hp, Q (.ret r) vs hp → QB (.ret r) vs hp
theorem AW.While {test : Expr} {body orelse : List Stmt} {pos : Pos} {Q : AFlow → Vars → AHeap → Prop} (I : Nat → Vars → AHeap → Prop)
    (turn : ∀ n vs hp, I n vs hp → ∀ QB, Lp (fun vs hp => ∃ m, m < n ∧ I m vs hp) Q QB → AW C A b env IsB (isTrue test env (eval test env)) (fun c vs₁ hp₁ => if c then AW C A b env FlowIs (execs body env) QB vs₁ hp₁ else AW C A b env FlowIs (execs orelse env) Q vs₁ hp₁) vs hp)
    (n : Nat) (h : I n vs hp) : AW C A b env FlowIs (exec (.While test body orelse pos) env) Q vs hp :=
  AW.While0 I (fun n vs hp hI => turn n vs hp hI _ ⟨fun _ _ x => x, fun _ _ x => x, fun _ _ x => x, fun _ _ _ x => x⟩) n h
theorem AW.For {target iter : Expr} {body orelse : List Stmt} {pos : Pos} {Q : AFlow → Vars → AHeap → Prop} (hh : A.handled = none)
    (h : AW C A b env Is (eval iter env) (fun x vs₁ hp₁ => ∃ Src items io, Walker C Src items io ∧ (∀ v, Is x v → Starts C hp₁ v io) ∧ ∃ I : Nat → Vars → AHeap → Prop, I 0 vs₁ hp₁ ∧ (∀ i vs hp, I i vs hp → Src hp) ∧
      (∀ i a vs hp, items[i]? = some a → I i vs hp → ∀ v, Is a v → ∀ QB, Lp (I (i + 1)) Q QB → AW C A b env IsU (assign target env v) (fun _ vs₂ hp₂ => AW C A b env FlowIs (execs body env) QB vs₂ hp₂) vs hp) ∧
      (∀ vs hp, I items.length vs hp → AW C A b env FlowIs (execs orelse env) Q vs hp)) vs hp)
    (hs : ∀ x, foldedSetIterable iter env x = Pure.pure x := by intro _; rfl) :
    AW C A b env FlowIs (exec (.For target iter body orelse pos) env) Q vs hp :=
  AW.For0 hh (AW.mono h fun x vs₁ hp₁ ⟨Src, items, io, W, st, I, I0, IS, turn, fin⟩ =>
    ⟨Src, items, io, W, st, I, I0, IS, fun i a vs hp ha hI v iv => turn i a vs hp ha hI v iv _ ⟨fun _ _ x => x, fun _ _ x => x, fun _ _ x => x, fun _ _ _ x => x⟩, fin⟩) hs
end

noncomputable def ioList (l : Addr) (i : Nat) (o : Obj) : Prop := o.cls = .type "list_iterator" ∧ o.data = .fields #[.ref l, .int i 0]
noncomputable def ioTup (l : Addr) (i : Nat) (o : Obj) : Prop := o.cls = .type "tuple_iterator" ∧ o.data = .fields #[.ref l, .int i 0]
noncomputable def ioKey (d : Addr) (n ep : Nat) (i : Nat) (o : Obj) : Prop := o.cls = .type "dict_keyiterator" ∧ o.data = .fields #[.ref d, .int i 0, .int n 0, .int ep 0]
noncomputable def ioVal (d : Addr) (n ep : Nat) (i : Nat) (o : Obj) : Prop := o.cls = .type "dict_valueiterator" ∧ o.data = .fields #[.ref d, .int i 0, .int n 0, .int ep 0]
noncomputable def ioRange (a : Int) (n : Nat) (i : Nat) (o : Obj) : Prop := o = { cls := .type "range_iterator", dict := none, data := .fields #[rawInt (a + i), rawInt (n - i), rawInt 1], slots := #[] }

theorem go_of {M : Model} {A : Around} {s : Shared} {it : Addr} {o : Obj} {target : Expr} {v : Value} {T : String} {fs : Array Value} (ho : s.heap.get? it = some o) (hc : o.cls = .type T) (hd : o.data = .fields fs)
    (hT : ["enumerate", "zip", "dict_itemiterator", "dict_reverseitemiterator", "odict_iterator", "itertools.zip_longest", "itertools.pairwise"].contains T = false)
    (Q : Unit → Shared → Prop) (E : Value → Shared → Prop) (h : Q () s) : wpAny M A (letOwnedTupleGo target (.ref it) v) Q E s := by
  unfold letOwnedTupleGo
  split
  · cases v <;> first | exact wpAny_pure h | skip
    refine wpAny_bind (wpAny_load ho ?_)
    rw [hc, hd]
    dsimp only
    rw [hT, Bool.false_and, if_neg (by simp)]
    exact wpAny_pure h
  · cases v <;> first | exact wpAny_pure h | skip
    refine wpAny_bind (wpAny_load ho ?_)
    rw [hc, hd]
    dsimp only
    rw [hT, Bool.false_and, if_neg (by simp)]
    exact wpAny_pure h
  · exact wpAny_pure h

section
variable {C : Cx} {A : Around} {b : Str → Bool} {env : Env} {vs : Vars} {hp : AHeap} {K : Addr → Option Obj}

theorem Walker.list {l : Addr} {as : List AV} : Walker C (fun hp => hp l = some (.list as)) as (ioList l) where
  next := fun {A K hp s it o i a} R hS ho hio hh e Q E hQ => by
    obtain ⟨us, n, j, hl⟩ := R.list hS
    obtain ⟨v, hv, hi⟩ := F2.get j e
    refine wpAny_pyNext_list_item (items := us.toArray) (x := v) ⟨o, ho, hio⟩ ⟨_, hl, rfl, n, rfl⟩ (by rw [List.getElem?_toArray]; exact hv) fun h' ⟨o', ho', r⟩ hs => ?_
    exact hQ v h' o' s.toks hi ho' r hs.extBut
  stop := fun {A K hp s it o i} hA R hS ho hio hh e Q E hQ => by
    obtain ⟨us, n, j, hl⟩ := R.list hS
    refine wpAny_pyNext_list_end (items := us.toArray) hA ⟨o, ho, hio⟩ ⟨_, hl, rfl, n, rfl⟩ ?_ fun h' hs => hQ h' s.toks hs
    rw [List.getElem?_toArray, List.getElem?_eq_none_iff, j.len]; exact List.getElem?_eq_none_iff.mp e
  go := fun ho hio Q E h => go_of ho hio.1 hio.2 (by decide) Q E h
  nd := fun i o hio es ep => by rw [hio.2]; exact fun h => by cases h
  self := fun ho hio Q E h => wpAny_pyIter_listiter ⟨_, ho, hio⟩ h
theorem Starts.list {l : Addr} {as : List AV} (h : hp l = some (.list as)) : Starts C hp (.ref l) (ioList l) := fun A K s R Q E hQ => by
  obtain ⟨us, n, j, hl⟩ := R.list h
  exact wpAny_pyIter_list (items := us.toArray) ⟨_, hl, rfl, n, rfl⟩ (hQ _ _ _ (Heap.get?_push_size _ rfl) ⟨rfl, rfl⟩ (fun b o e => Heap.get?_push_of_some _ e) (Nat.le_refl _))

theorem Walker.tup {l : Addr} {as : List AV} : Walker C (fun hp => hp l = some (.tup as)) as (ioTup l) where
  next := fun {A K hp s it o i a} R hS ho hio hh e Q E hQ => by
    obtain ⟨us, j, hl⟩ := R.tup hS
    obtain ⟨v, hv, hi⟩ := F2.get j e
    refine wpAny_pyNext_tuple_item (items := us.toArray) (x := v) ⟨o, ho, hio⟩ ⟨_, hl, rfl, _, rfl⟩ (by rw [List.getElem?_toArray]; exact hv) fun h' ⟨o', ho', r⟩ hs => ?_
    exact hQ v h' o' s.toks hi ho' r hs.extBut
  stop := fun {A K hp s it o i} hA R hS ho hio hh e Q E hQ => by
    obtain ⟨us, j, hl⟩ := R.tup hS
    refine wpAny_pyNext_tuple_end (items := us.toArray) hA ⟨o, ho, hio⟩ ⟨_, hl, rfl, _, rfl⟩ ?_ fun h' hs => hQ h' s.toks hs
    rw [List.getElem?_toArray, List.getElem?_eq_none_iff, j.len]; exact List.getElem?_eq_none_iff.mp e
  go := fun ho hio Q E h => go_of ho hio.1 hio.2 (by decide) Q E h
  nd := fun i o hio es ep => by rw [hio.2]; exact fun h => by cases h
  self := fun ho hio Q E h => wpAny_pyIter_tupleiter ⟨_, ho, hio⟩ h
theorem Starts.tup {l : Addr} {as : List AV} (h : hp l = some (.tup as)) : Starts C hp (.ref l) (ioTup l) := fun A K s R Q E hQ => by
  obtain ⟨us, j, hl⟩ := R.tup h
  exact wpAny_pyIter_tuple (items := us.toArray) ⟨_, hl, rfl, _, rfl⟩ (hQ _ _ _ (Heap.get?_push_size _ rfl) ⟨rfl, rfl⟩ (fun b o e => Heap.get?_push_of_some _ e) (Nat.le_refl _))

theorem RelH.dict {s : Shared} (R : RelH C K hp s) {d : Addr} {kvs : List (Int × AV)} {ep : Nat} (h : hp d = some (.dict kvs ep)) :
    ∃ us, IsP kvs us ∧ s.heap.DictAt (intKind C.prog C.w) d us ep ∧ (d == sysModules) = false := by
  obtain ⟨_, o, ho, us, i, es, r⟩ := R.objs d _ h
  refine ⟨us, i, ⟨o, es, ho, r⟩, ?_⟩
  have h1 := R.low d _ h
  have h2 := C.lo
  cases e : d == sysModules with
  | false => rfl
  | true =>
    have : d = sysModules := eq_of_beq e
    subst this
    exact absurd h2 (Nat.not_lt.mpr h1)

theorem isInt_is {k : Int} {v : Value} (h : Value.isInt k v = true) : Is (.int k) v := by
  cases v <;> simp_all [Value.isInt, Is]

theorem Walker.keys {d : Addr} {kvs : List (Int × AV)} {ep : Nat} : Walker C (fun hp => hp d = some (.dict kvs ep)) (kvs.map fun p => .int p.1) (ioKey d kvs.length ep) where
  next := fun {A K hp s it o i a} R hS ho hio hh e Q E hQ => by
    obtain ⟨us, j, hd, _⟩ := R.dict hS
    have hlen := F2.length j
    rw [List.getElem?_map] at e
    cases e' : kvs[i]? with
    | none => rw [e'] at e; cases e
    | some p =>
      rw [e'] at e; cases e
      obtain ⟨q, hq, hk, _⟩ := F2.get j e'
      refine wpAny_pyNext_dict_item (kvs := us) (k := q.1) (v := q.2) (by rw [hlen]; exact ⟨o, ho, hio⟩) hd hq fun key h' hkey ⟨o', ho', r⟩ hs => ?_
      rw [hlen] at r
      exact hQ key h' o' s.toks (by show Is (.int p.1) key; rw [hk]; exact isInt_is hkey) ho' r hs.extBut
  stop := fun {A K hp s it o i} hA R hS ho hio hh e Q E hQ => by
    obtain ⟨us, j, hd, _⟩ := R.dict hS
    have hlen := F2.length j
    refine wpAny_pyNext_dict_end (kvs := us) hA (by rw [hlen]; exact ⟨o, ho, hio⟩) hd ?_ fun h' hs => hQ h' s.toks hs
    rw [List.getElem?_eq_none_iff, hlen]; simpa using e
  go := fun ho hio Q E h => go_of ho hio.1 hio.2 (by decide) Q E h
  nd := fun i o hio es ep => by rw [hio.2]; exact fun h => by cases h
  self := fun ho hio Q E h => wpAny_pyIter_keyiter ⟨_, ho, hio⟩ h
theorem Starts.keys {d : Addr} {kvs : List (Int × AV)} {ep : Nat} (h : hp d = some (.dict kvs ep)) : Starts C hp (.ref d) (ioKey d kvs.length ep) := fun A K s R Q E hQ => by
  obtain ⟨us, j, hd, hlo⟩ := R.dict h
  have hlen := F2.length j
  exact wpAny_pyIter_dict (kvs := us) hlo hd (hQ _ _ _ (Heap.get?_push_size _ rfl) ⟨rfl, by show Data.fields _ = _; rw [hlen]; rfl⟩ (fun b o e => Heap.get?_push_of_some _ e) (Nat.le_refl _))

theorem Walker.vals {d : Addr} {kvs : List (Int × AV)} {ep : Nat} : Walker C (fun hp => hp d = some (.dict kvs ep)) (kvs.map fun p => p.2) (ioVal d kvs.length ep) where
  next := fun {A K hp s it o i a} R hS ho hio hh e Q E hQ => by
    obtain ⟨us, j, hd, _⟩ := R.dict hS
    have hlen := F2.length j
    rw [List.getElem?_map] at e
    cases e' : kvs[i]? with
    | none => rw [e'] at e; cases e
    | some p =>
      rw [e'] at e; cases e
      obtain ⟨q, hq, hk, hi⟩ := F2.get j e'
      refine wpAny_pyNext_values_item (kvs := us) (k := q.1) (v := q.2) (by rw [hlen]; exact ⟨o, ho, hio⟩) hd hq fun h' ⟨o', ho', r⟩ hs => ?_
      rw [hlen] at r
      exact hQ _ h' o' s.toks hi ho' r hs.extBut
  stop := fun {A K hp s it o i} hA R hS ho hio hh e Q E hQ => by
    obtain ⟨us, j, hd, _⟩ := R.dict hS
    have hlen := F2.length j
    refine wpAny_pyNext_values_end (kvs := us) hA (by rw [hlen]; exact ⟨o, ho, hio⟩) hd ?_ fun h' hs => hQ h' s.toks hs
    rw [List.getElem?_eq_none_iff, hlen]; simpa using e
  go := fun ho hio Q E h => go_of ho hio.1 hio.2 (by decide) Q E h
  nd := fun i o hio es ep => by rw [hio.2]; exact fun h => by cases h
  self := fun ho hio Q E h => wpAny_pyIter_valiter ⟨_, ho, hio⟩ h
theorem Starts.vals {d v : Addr} {kvs : List (Int × AV)} {ep : Nat} (h : hp d = some (.dict kvs ep)) (hv : hp v = some (.raw { cls := .type "dict_values", data := .fields #[.ref d] })) : Starts C hp (.ref v) (ioVal d kvs.length ep) := fun A K s R Q E hQ => by
  obtain ⟨us, j, hd, hlo⟩ := R.dict h
  have hlen := F2.length j
  obtain ⟨_, o, ho, rfl⟩ := R.objs v _ hv
  exact wpAny_pyIter_values (kvs := us) ⟨_, ho, rfl, rfl⟩ hd (hQ _ _ _ (Heap.get?_push_size _ rfl) ⟨rfl, by show Data.fields _ = _; rw [hlen]; rfl⟩ (fun b o e => Heap.get?_push_of_some _ e) (Nat.le_refl _))
theorem CW.values {d : Addr} {kvs : List (Int × AV)} {ep : Nat} {Q : AV → AHeap → Prop} (h : hp d = some (.dict kvs ep)) (hQ : ∀ v, hp v = none → Q (.ref v) (hp.put v (.raw { cls := .type "dict_values", data := .fields #[.ref d] }))) :
    CW C A Is (call (.builtin "dict.values") [.ref d]) Q hp := fun K s R => by
  obtain ⟨us, j, hd, hlo⟩ := R.dict h
  exact call_meetsIn F.slot_dict_values hd.dictOf.typeIs F.entry_dict_values (F.args_dict_values_1 _) (meets_dict_values (intKind C.prog C.w) d hlo)
    ⟨⟨_, hd.dictOf⟩, .ref _, _, rfl, R.alloc (ao := .raw _) rfl rfl, hQ _ R.fresh⟩

/-! ranges -/
noncomputable def rangeI (a : Int) (n : Nat) : List AV := (List.range n).map fun (i : Nat) => .int (a + (i : Int))
noncomputable def IsRangeO (a e : Int) (o : Obj) : Prop := ∃ t u v, o = { cls := .type "range", dict := none, data := .fields #[.int a t, .int e u, .int 1 v], slots := #[] }

theorem Walker.range {a : Int} {n : Nat} : Walker C (fun _ => True) (rangeI a n) (ioRange a n) where
  next := fun {A K hp s it o i x} R hS ho hio hh e Q E hQ => by
    cases hio
    have hi : i < n := by
      have := (List.getElem?_eq_some_iff.mp e).1; simpa [rangeI] using this
    have hx : x = .int (a + i) := by
      simp [rangeI, hi] at e; exact e.symm
    subst hx
    refine wpAny_pyNext_range_item ho (by omega) fun h' hit hs => ?_
    refine hQ _ h' _ (s.toks + 1) ⟨_, rfl⟩ hit ?_ hs.extBut
    show _ = _
    rw [show (a + (i : Int) + 1) = a + ((i + 1 : Nat) : Int) by omega, show ((n : Int) - i - 1) = (n : Int) - ((i + 1 : Nat) : Int) by omega]
  stop := fun {A K hp s it o i} hA R hS ho hio hh e Q E hQ => by
    cases hio
    have hi : n ≤ i := by simpa [rangeI] using e
    exact wpAny_pyNext_range_end hA ho (by omega) fun h' hs => hQ h' s.toks hs
  go := fun ho hio Q E h => by cases hio; exact go_of ho rfl rfl (by decide) Q E h
  nd := fun i o hio es ep => by cases hio; exact fun h => by cases h
  self := fun ho hio Q E h => by cases hio; exact wpAny_pyIter_rangeiter ho h

theorem Starts.range {r : Addr} {a e : Int} {n : Nat} {o : Obj} (h : hp r = some (.raw o)) (ho : IsRangeO a e o) (ha : -(2 ^ 62) ≤ a) (ha' : a < 2 ^ 62) (he : -(2 ^ 62) ≤ e) (he' : e < 2 ^ 62)
    (hn : (n : Int) = if a < e then e - a else 0) : Starts C hp (.ref r) (ioRange a n) := fun A K s R Q E hQ => by
  obtain ⟨t, u, v, rfl⟩ := ho
  obtain ⟨_, o', ho, rfl⟩ := R.objs r _ h
  refine wpAny_pyIter_range ho (small_one ha ha' he he') (hQ _ _ _ (Heap.get?_push_size _ rfl) ?_ (fun b o e => Heap.get?_push_of_some _ e) (Nat.le_refl _))
  show _ = _
  rw [rangeSize_one, ← hn]
  simp
theorem CW.range1 {k : Int} {t : Tok} {Q : AV → AHeap → Prop} (h : ∀ r o, hp r = none → IsRangeO 0 k o → Q (.ref r) (hp.put r (.raw o))) : CW C A Is (call (.type "range") [.int k t]) Q hp := fun K s R =>
  call_range_1 ⟨.ref _, _, rfl, (R.alloc (ao := .raw _) rfl rfl).toks _, h _ _ R.fresh ⟨_, _, _, rfl⟩⟩
theorem CW.range2 {j k : Int} {t u : Tok} {Q : AV → AHeap → Prop} (h : ∀ r o, hp r = none → IsRangeO j k o → Q (.ref r) (hp.put r (.raw o))) : CW C A Is (call (.type "range") [.int j t, .int k u]) Q hp := fun K s R =>
  call_range_2 ⟨.ref _, _, rfl, (R.alloc (ao := .raw _) rfl rfl).toks _, h _ _ R.fresh ⟨_, _, _, rfl⟩⟩
end

/-- a frame's names, by the scope's list -/
structure EnvIs (names : List (Str × NameKind)) (b : Str → Bool) (env : Env) : Prop where
  ok : EnvOk b env
  loc : ∀ x, names.lookup x = some .local → env.kindOf x = some .local
  cel : ∀ x, names.lookup x = some .cell → env.kindOf x = some .cell ∧ (env.cells.lookup x).isSome = true ∧ b x = false
  fre : ∀ x, names.lookup x = some .free → CellName env x ∧ (env.cells.lookup x).isSome = true
  glo : ∀ x, names.lookup x = some .globalImplicit → env.kindOf x = some .globalImplicit
  g : env.globals = mainGlobals
  bu : env.builtins = builtinsNs

section
variable {C : Cx} {A : Around} {b : Str → Bool} {env : Env} {vs : Vars} {hp : AHeap} {K : Addr → Option Obj} {names : List (Str × NameKind)}

theorem AW.nLocal {x : Str} {a : AV} {Q : AV → Vars → AHeap → Prop} (E : EnvIs names b env) (hk : names.lookup x = some .local) (hv : vs x = some a) (h : Q a vs hp) :
    AW C A b env Is (loadName env x) Q vs hp := AW.loadLocal E.ok (E.loc x hk) hv h
theorem AW.nCell {x : Str} {a : AV} {Q : AV → Vars → AHeap → Prop} (E : EnvIs names b env) (hk : names.lookup x = some .cell) (hv : vs x = some a) (h : Q a vs hp) :
    AW C A b env Is (loadName env x) Q vs hp := by
  obtain ⟨k, hc, _⟩ := E.cel x hk
  obtain ⟨c, hc⟩ := Option.isSome_iff_exists.mp hc
  exact AW.loadCell E.ok k hc hv h
theorem AW.nFree {x : Str} {a : AV} {Q : AV → Vars → AHeap → Prop} (E : EnvIs names b env) (hk : names.lookup x = some .free) (hv : vs x = some a) (h : Q a vs hp)
    (hn : (x == ("__classdict__" : Str)) = false := by decide) :
    AW C A b env Is (loadName env x) Q vs hp := by
  obtain ⟨k, hc⟩ := E.fre x hk
  obtain ⟨c, hc⟩ := Option.isSome_iff_exists.mp hc
  rcases k with k | k
  · exact AW.loadCell E.ok k hc hv h
  · exact AW.loadFree E.ok k hc hv h hn
theorem AW.nGlobal {x : Str} {v : Value} {a : AV} {Q : AV → Vars → AHeap → Prop} (E : EnvIs names b env) (hk : names.lookup x = some .globalImplicit)
    (e : nsIn C.K mainGlobals x = some (some v)) (i : Is a v) (h : Q a vs hp) : AW C A b env Is (loadName env x) Q vs hp := AW.loadGlobal E.ok (E.glo x hk) E.g e i h
theorem AW.nBuiltin {x : Str} {v : Value} {Q : AV → Vars → AHeap → Prop} (E : EnvIs names b env) (hk : names.lookup x = some .globalImplicit)
    (e : nsIn C.K mainGlobals x = some none) (hv : bootBuiltins x = some v) (hn : x ≠ "__name__") (h : Q (.raw v) vs hp) : AW C A b env Is (loadName env x) Q vs hp :=
  AW.loadBuiltin (a := .raw v) E.ok (E.glo x hk) E.g E.bu e hv hn rfl h
theorem AW.sLocal {x : Str} {v : Value} {a : AV} {Q : Unit → Vars → AHeap → Prop} (E : EnvIs names b env) (hk : names.lookup x = some .local) (i : Is a v) (h : Q () (vs.put x a) hp) :
    AW C A b env IsU (storeName env x v) Q vs hp := AW.storeLocal E.ok (E.loc x hk) i h
theorem AW.sCell {x : Str} {v : Value} {a : AV} {Q : Unit → Vars → AHeap → Prop} (E : EnvIs names b env) (hk : names.lookup x = some .cell) (i : Is a v) (h : Q () (vs.put x a) hp) :
    AW C A b env IsU (storeName env x v) Q vs hp := by
  obtain ⟨k, hc, hb⟩ := E.cel x hk
  obtain ⟨c, hc⟩ := Option.isSome_iff_exists.mp hc
  exact AW.storeCell E.ok k hc hb i h
theorem AW.assignName {x : Str} {pos : Pos} {v : Value} {Q : Unit → Vars → AHeap → Prop} (h : AW C A b env IsU (storeName env x v) Q vs hp) : AW C A b env IsU (assign (.Name x pos) env v) Q vs hp :=
  fun K s R => wpAny_assign_Name (h K s R)
theorem AW.exprS {e : Expr} {pos : Pos} {Q : AFlow → Vars → AHeap → Prop} (E : EnvIs names b env) (h : AW C A b env Is (eval e env) (fun _ vs₁ hp₁ => Q .next vs₁ hp₁) vs hp)
    (hs : swapsWith e none pos.line env = Pure.pure false := by with_unfolding_all rfl) :
    AW C A b env FlowIs (exec (.Expr e pos) env) Q vs hp := AW.ExprS h (by unfold interactive; rw [E.ok.kind]; rfl) hs

/-- a def called, its frame by the scope's names -/
theorem CC.fn {f : Addr} {o : Obj} {fd : FuncData} {body : List Stmt} {pos : List Value} {kw : List (Str × Value)} {Q : AV → AHeap → Prop}
    (hroom : A.depth < recursionLimit) (ho : C.K.lookup f = some o) (hd : o.data = .func fd) (hcd : codeIn C.K fd.code fd.qualname = true)
    (hbody : fd.body = .stmts body) (hclo : fd.closure = []) (hg : fd.globals = mainGlobals) (hb : fd.builtins = builtinsNs) (hnofree : (fd.scope.names.all fun p => p.2 != .free) = true)
    (hco : fd.scope.isCoroutine = false) (hgen : fd.scope.isGenerator = false) (hk : fd.scope.kind = .function)
    (h : CW C A.in1 IsBinds (bindArgs fd ⟨pos, kw⟩) (fun ab hp₁ => (ab.all fun p => fd.scope.names.lookup p.1 == some .local || fd.scope.names.lookup p.1 == some .cell) = true ∧
      ∀ env, EnvIs fd.scope.names nob env → env.frame = some env.locals → AW C (A.deeper env) nob env FlowIs (execs body env) (fun fl _ hp' => Q (retOf fl) hp') (bindV ab noVars) hp₁) hp) :
    CC C A (.ref f) ⟨pos, kw⟩ Q hp := by
  refine CC.callFn hroom ho hd hcd hbody hclo (CW.mono h fun ab hp₁ ⟨h1, h2⟩ => ⟨fun p hp => ?_, fun env L he EO => h2 env ?_ (by rw [he]; rfl)⟩) hco hgen hk
  · have := List.all_eq_true.mp h1 p hp
    simpa using this
  · have hkind : ∀ x, env.kindOf x = fd.scope.names.lookup x := fun x => by rw [he]; rfl
    refine ⟨EO, fun x e => (hkind x).trans e, fun x e => ⟨(hkind x).trans e, ?_, rfl⟩, fun x e => ?_, fun x e => (hkind x).trans e, by rw [he]; exact hg, by rw [he]; exact hb⟩
    · rw [he]; exact cellsFrom_has _ _ _ (.inr (mem_of_lookup e))
    · have := List.all_eq_true.mp hnofree _ (mem_of_lookup e)
      simp at this
end

noncomputable def clOf (env : Env) : List (Str × NameKind) → List (Str × Addr) → List (Str × Addr)
  | [], cs => cs
  | (n, k) :: r, cs => if k == .free then (match env.cells.lookup n with | some a => clOf env r ((n, a) :: cs) | none => clOf env r cs) else clOf env r cs

theorem closure_is {env : Env} {scope : Scope} (h : ∀ p ∈ scope.names, p.2 = .free → (env.cells.lookup p.1).isSome = true) : closureFor scope env = Pure.pure (clOf env scope.names []) := by
  have key : ∀ (names : List (Str × NameKind)) (cs : List (Str × Addr)) (f : Str × NameKind → List (Str × Addr) → Sem (ForInStep (List (Str × Addr)))),
      (∀ n k r, f (n, k) r = if k == .free then (do let a ← cellOf env n; Pure.pure (.yield ((n, a) :: r))) else Pure.pure (.yield r)) →
      (∀ p ∈ names, p.2 = .free → (env.cells.lookup p.1).isSome = true) → forIn names cs f = Pure.pure (clOf env names cs) := by
    intro names
    induction names with
    | nil => intro cs f hf _; rw [List.forIn_nil]; rfl
    | cons p r ih =>
      intro cs f hf hp
      obtain ⟨n, k⟩ := p
      have hr : ∀ p ∈ r, p.2 = .free → (env.cells.lookup p.1).isSome = true := fun p hm => hp p (.tail _ hm)
      rw [List.forIn_cons, hf]
      unfold clOf
      by_cases hk : k = .free
      · subst hk
        obtain ⟨a, ha⟩ := Option.isSome_iff_exists.mp (hp (n, .free) (.head _) rfl)
        have hc : cellOf env n = Pure.pure a := by unfold cellOf; rw [show env.cells.lookup n = some a from ha]
        have hff : (NameKind.free == NameKind.free) = true := rfl
        simp only [hff, if_true, hc, show env.cells.lookup n = some a from ha]
        exact ih _ f hf hr
      · have : (k == NameKind.free) = false := by simpa using hk
        rw [this]
        exact ih _ f hf hr
  unfold closureFor
  refine (congrArg (· >>= Pure.pure) (key scope.names [] _ (fun n k r => ?_) h)).trans rfl
  cases hk : k == NameKind.free <;> simp [hk]

theorem clOf_mem {env : Env} {x : Str} {c : Addr} : ∀ (names : List (Str × NameKind)) (cs : List (Str × Addr)), (x, c) ∈ clOf env names cs → (x, c) ∈ cs ∨ ((x, NameKind.free) ∈ names ∧ env.cells.lookup x = some c)
  | [], cs, h => .inl h
  | (n, k) :: r, cs, h => by
    unfold clOf at h
    split at h
    · rename_i hk
      have hk : k = .free := by simpa using hk
      subst hk
      split at h
      · rename_i a ha
        rcases clOf_mem r _ h with h | h
        · rcases List.mem_cons.mp h with e | e
          · cases e; exact .inr ⟨.head _, ha⟩
          · exact .inl e
        · exact .inr ⟨.tail _ h.1, h.2⟩
      · rcases clOf_mem r _ h with h | h
        · exact .inl h
        · exact .inr ⟨.tail _ h.1, h.2⟩
    · rcases clOf_mem r _ h with h | h
      · exact .inl h
      · exact .inr ⟨.tail _ h.1, h.2⟩
theorem clOf_has {env : Env} {x : Str} : ∀ (names : List (Str × NameKind)) (cs : List (Str × Addr)), ((cs.lookup x).isSome = true ∨ ((x, NameKind.free) ∈ names ∧ (env.cells.lookup x).isSome = true)) → ((clOf env names cs).lookup x).isSome = true
  | [], cs, h => by
    rcases h with h | ⟨h, _⟩
    · exact h
    · cases h
  | (n, k) :: r, cs, h => by
    have up : ∀ a, (cs.lookup x).isSome = true → (((n, a) :: cs).lookup x).isSome = true := fun a q => by
      rw [List.lookup_cons]; cases x == n
      · exact q
      · rfl
    unfold clOf
    split
    · split
      · rename_i a ha
        refine clOf_has r _ ?_
        rcases h with h | ⟨h, hc⟩
        · exact .inl (up a h)
        · rcases List.mem_cons.mp h with e | e
          · left; cases e; simp
          · exact .inr ⟨e, hc⟩
      · rename_i ha
        refine clOf_has r _ ?_
        rcases h with h | ⟨h, hc⟩
        · exact .inl h
        · rcases List.mem_cons.mp h with e | e
          · cases e; rw [ha] at hc; cases hc
          · exact .inr ⟨e, hc⟩
    · rename_i hk
      refine clOf_has r _ ?_
      rcases h with h | ⟨h, hc⟩
      · exact .inl h
      · rcases List.mem_cons.mp h with e | e
        · cases e; exact absurd rfl hk
        · exact .inr ⟨e, hc⟩

theorem cellsFrom_app : ∀ (names : List (Str × NameKind)) (n : Nat) (acc : List (Str × Addr)), cellsFrom n names acc = cellsFrom n names [] ++ acc
  | [], _, _ => rfl
  | (x, k) :: r, n, acc => by
    unfold cellsFrom
    split
    · rw [cellsFrom_app r (n + 1) ((x, n) :: acc), cellsFrom_app r (n + 1) [(x, n)], List.append_assoc]; rfl
    · exact cellsFrom_app r n acc
theorem cellsFrom_mem {x : Str} {c : Addr} : ∀ (names : List (Str × NameKind)) (n : Nat), (x, c) ∈ cellsFrom n names [] → (x, NameKind.cell) ∈ names
  | [], _, h => by cases h
  | (y, k) :: r, n, h => by
    unfold cellsFrom at h
    split at h
    · rename_i hk
      have hk : k = .cell := by simpa using hk
      subst hk
      rw [cellsFrom_app] at h
      rcases List.mem_append.mp h with h | h
      · exact .tail _ (cellsFrom_mem r _ h)
      · cases (List.mem_singleton.mp h); exact .head _
    · exact .tail _ (cellsFrom_mem r _ h)
theorem lookup_app {α : Type} {x : Str} : ∀ (l l' : List (Str × α)), (l ++ l').lookup x = (l.lookup x).or (l'.lookup x)
  | [], _ => rfl
  | (y, a) :: r, l' => by
    rw [List.cons_append, List.lookup_cons, List.lookup_cons]
    cases x == y
    · exact lookup_app r l'
    · rfl

section
variable {prog : Program} {w : World} {A : Around} {E : Value → Shared → Prop} {R : Result → Shared → Prop} {s : Shared}

theorem wpAny_newCompEnv {M : Model} {scope : Scope} {globals : Addr} {cl : List (Str × Addr)} {qual : Str} {outer : Env} {Q : Env → Shared → Prop}
    (hQ : ∀ h', h'.Ns s.heap.objs.size (fun _ => none) → (∀ b o, s.heap.get? b = some o → h'.get? b = some o) →
      CellsOk h' (s.heap.objs.size + 1) (cellsFrom (s.heap.objs.size + 1) scope.names []) →
      Q (newEnv scope s.heap.objs.size globals (cellsFrom (s.heap.objs.size + 1) scope.names [] ++ cl) qual none .none (some outer) builtinsNs) { s with heap := h' }) :
    wpAny M A (newFunctionEnv scope globals cl [] qual none .none (some outer)) Q E s := by
  simp only [newFunctionEnv, Option.isSome_some, if_true]
  refine wpAny_bind (wpAny_alloc ?_)
  refine wpAny_bind (wpAny_layCells _ (fun name kind cells => by cases hkc : kind == NameKind.cell <;> simp [hkc]) _ _ _ _ ?_)
  have ok := cellsFrom_ok scope.names (s.heap.push { cls := .type "dict", data := .dict #[] }) (s.heap.objs.size + 1) [] ⟨fun _ _ hm => (nomatch hm), List.Pairwise.nil⟩ (by rw [Heap.size_push]; exact Nat.le_refl _)
  rw [Heap.size_push] at ok
  rw [show ({ s with heap := s.heap.push { cls := .type "dict", data := .dict #[] } } : Shared).heap.objs.size = s.heap.objs.size + 1 from Heap.size_push ..]
  rw [cellsFrom_app]
  refine wpAny_bind ?_
  rw [List.forIn_nil]
  exact wpAny_pure (wpAny_pure (hQ _ ((Heap.Ns.new s.heap (.type "dict")).keeps (pushCells_keeps _ _)) (fun b o e => pushCells_keeps _ _ b o (Heap.get?_push_of_some _ e)) ok))

theorem codeAny_compLoop_any {elt target iter : Expr} {ifs : List Expr} {scope : Scope} {pos : Pos} {it acc : Value} {env : Env} (I : Nat → Shared → Prop)
    (turn : ∀ n s, I n s → wpAny (model prog w) A (pyNext it) (fun r s₁ => match r with
      | none => R (.ok .next) s₁
      | some v => wpAny (model prog w) A (letOwnedTupleGo target it v) (fun _ s₁' => wpAny (model prog w) A (assign target env v) (fun _ s₂ =>
          wpAny (model prog w) A (forIn ifs true fun c r => if r = true then do let ok ← isTrue c env (eval c env); Pure.pure (ForInStep.yield ok) else Pure.pure (ForInStep.yield r)) (fun ok s₃ =>
            if ok = true then wpAny (model prog w) A (eval elt env) (fun x s₄ =>
              wpAny (model prog w) A (call (.builtin "list.append") [acc, x]) (fun _ s₅ => ∃ m, m < n ∧ I m s₅) (fun _ _ => False) s₄) (fun _ _ => False) s₃
            else ∃ m, m < n ∧ I m s₃) (fun _ _ => False) s₂) (fun _ _ => False) s₁') (fun _ _ => False) s₁) (fun _ _ => False) s)
    (n : Nat) (h : I n s) :
    codeAny (model prog w) A (.compLoop (.ListComp elt [⟨target, iter, ifs, 0⟩] scope pos) 0 it acc env) R s := by
  refine codeAny_loop rfl I (fun n s hI => ?_) n h
  show wpAny _ A ((compTurn (.ListComp elt [⟨target, iter, ifs, 0⟩] scope pos) 0 it acc env).onRaise (fun x => do noteFrame x env; theTreesLotGoes x)) _ _ s
  refine wpAny_noted ?_
  rw [compTurn_list]
  refine wpAny_bind (wpAny_standAt (wpAny_bind (wpAny_mono (turn n s hI) (fun r s₁ h₁ => ?_) fun _ _ h' => h'.elim)))
  cases r with
  | none => exact wpAny_pure h₁
  | some v =>
    refine wpAny_bind (wpAny_mono h₁ (fun _ s₁' h₁' => ?_) fun _ _ h' => h'.elim)
    refine wpAny_bind (wpAny_mono h₁' (fun _ s₂ h₂ => wpAny_bind (wpAny_mono h₂ (fun ok s₃ h₃ => ?_) fun _ _ h' => h'.elim)) fun _ _ h' => h'.elim)
    cases ok with
    | false => exact wpAny_pure ⟨rfl, h₃⟩
    | true =>
      exact wpAny_bind (wpAny_bind (wpAny_mono h₃ (fun x s₄ h₄ => wpAny_bind (wpAny_mono h₄ (fun _ s₅ h₅ => wpAny_pure (wpAny_pure ⟨rfl, h₅⟩)) fun _ _ h' => h'.elim)) fun _ _ h' => h'.elim))
end

open Classical in
noncomputable def AHeap.del (hp : AHeap) (d : Addr) : AHeap := fun a => if a = d then none else hp a

section
variable {C : Cx} {A : Around} {b : Str → Bool} {env : Env} {vs : Vars} {hp : AHeap} {K : Addr → Option Obj}

theorem put_del {d : Addr} {x y : AObj} (h : hp d = none) : ((hp.put d x).put d y).del d = hp := by
  funext a
  unfold AHeap.del AHeap.put
  by_cases q : a = d
  · subst q; simp [h]
  · simp [q]

theorem Kadd_comm {x y : Addr} {o o' : Obj} (h : x ≠ y) : Kadd (Kadd K x o) y o' = Kadd (Kadd K y o') x o := by
  funext a
  unfold Kadd
  by_cases q : a = x
  · subst q; simp [h]
  · by_cases q' : a = y
    · subst q'; simp [q]
    · simp [q, q']

theorem RelH.unfreeze {s : Shared} {d : Addr} {o : Obj} {ao : AObj} (R : RelH C (Kadd K d o) hp s) (hK : K d = none) (hb : C.h₀.get? d = none) (hf : ∀ e ∈ C.fs, FrameIn C.h₀ K e) (hnd : ∀ es ep, o.data ≠ .dict es ep) (r : ORel C.prog C.w ao o) (lo : C.h₀.objs.size ≤ d) : RelH C K (hp.put d ao) s := by
  have T := R.thaw hK hb hf
  refine ⟨T.base, T.keepB, T.keep, fun a ao' e => ?_, T.gens, T.drawn, T.os, T.big, fun a ao' e => ?_, hf⟩
  · unfold AHeap.put at e
    split at e
    · rename_i q; subst q; cases e
      obtain ⟨o', h1, h2⟩ := R.keep _ _ Kadd_self
      rw [h2.exact hnd] at h1; exact ⟨hK, o, h1, r⟩
    · exact T.objs a ao' e
  · unfold AHeap.put at e
    split at e
    · rename_i q; subst q; exact lo
    · exact T.low a ao' e
theorem Rel.unfreeze {s : Shared} {d : Addr} {o : Obj} {ao : AObj} (R : Rel C (Kadd K d o) b env vs hp s) (ap : Apart C K b env d) (hnd : ∀ es ep, o.data ≠ .dict es ep) (r : ORel C.prog C.w ao o) (lo : C.h₀.objs.size ≤ d) : Rel C K b env vs (hp.put d ao) s := by
  have T := R.thaw ap
  refine ⟨R.h.unfreeze ap.k ap.base ap.frs hnd r lo, T.hi, fun a q => ⟨(T.own a q).1, ?_⟩, T.loc, T.cel, T.frm⟩
  unfold AHeap.put
  rw [if_neg (fun e => ap.own (by rw [← e]; exact q))]
  exact (T.own a q).2
theorem Rel.refreeze {s : Shared} {d : Addr} {ao : AObj} (R : Rel C K b env vs hp s) (e : hp d = some ao) : ∃ o, ORel C.prog C.w ao o ∧ Rel C (Kadd K d o) b env vs (hp.del d) s := by
  obtain ⟨kd, o, ho, r⟩ := R.h.objs d ao e
  have hb : C.h₀.get? d = none := by
    cases q : C.h₀.get? d with
    | none => rfl
    | some o' => have := R.h.base d o' q; rw [kd] at this; cases this
  refine ⟨o, r, ?_⟩
  have sub : ∀ a ao', hp.del d a = some ao' → hp a = some ao' ∧ a ≠ d := fun a ao' q => by
    unfold AHeap.del at q
    split at q
    · cases q
    · rename_i h; exact ⟨q, h⟩
  have R' : Rel C K b env vs (hp.del d) s := by
    refine ⟨⟨R.h.base, R.h.keepB, R.h.keep, fun a ao' q => R.h.objs a ao' (sub a ao' q).1, R.h.gens, R.h.drawn, R.h.os, R.h.big, fun a ao' q => R.h.low a ao' (sub a ao' q).1, R.h.frs⟩, R.hi, fun a q => ⟨(R.own a q).1, ?_⟩, R.loc, R.cel, R.frm⟩
    unfold AHeap.del; split
    · rfl
    · exact (R.own a q).2
  refine R'.freeze ho (by simp [AHeap.del]) ⟨R.h.frs, R.frm, kd, hb, fun q => ?_, fun x c hx hc hbx q => ?_⟩
  · rw [(R.own d q).2] at e; cases e
  · obtain ⟨o', ov, ho', hd, hv, hk⟩ := R.cel x c hx hc
    obtain ⟨o₀, h1, _⟩ := hk hbx; rw [q, kd] at h1; cases h1

/-! a comprehension's frame -/
noncomputable def compB (scope : Scope) : Str → Bool := fun x => !(scope.names.any fun p => p.1 == x && p.2 == .cell)
noncomputable def compOk (outer : List (Str × NameKind)) (scope : Scope) : Bool :=
  scope.kind == .function && decide ((scope.names.map (·.1)).Nodup) && (scope.names.all fun p => p.2 != .free || outer.lookup p.1 == some .cell || outer.lookup p.1 == some .free)
noncomputable def clVars (names : List (Str × NameKind)) (vs : Vars) : Vars := fun x => if names.lookup x = some .free then vs x else none
noncomputable def compEnvOf (scope : Scope) (env : Env) (L : Addr) : Env :=
  { newEnv scope L env.globals (cellsFrom (L + 1) scope.names [] ++ clOf env scope.names []) env.qual none .none (some env) builtinsNs with scope := relabel scope env }

theorem lookup_relabel {env : Env} {x : Str} : ∀ (names : List (Str × NameKind)),
    (names.map fun (n, k) => if (k == NameKind.free && env.scope.kind == .function && env.kindOf n == some .cell) then (n, NameKind.cell) else (n, k)).lookup x =
      (names.lookup x).map fun k => if (k == NameKind.free && env.scope.kind == .function && env.kindOf x == some .cell) then NameKind.cell else k
  | [] => rfl
  | (n, k) :: r => by
    rw [List.map_cons]
    dsimp only
    by_cases hx : x = n
    · subst hx
      have e : ((x, k) :: r).lookup x = some k := by simp
      rw [e]
      by_cases h : (k == NameKind.free && env.scope.kind == .function && env.kindOf x == some .cell) = true
      · rw [if_pos h, List.lookup_cons, beq_self_eq_true]; simp only [Option.map_some, if_pos h]
      · rw [if_neg h, List.lookup_cons, beq_self_eq_true]; simp only [Option.map_some, if_neg h]
    · have : (x == n) = false := by simp [hx]
      split <;> (rw [List.lookup_cons, List.lookup_cons, this]; exact lookup_relabel r)

theorem lookup_of_nodup {x : Str} {k : NameKind} : ∀ {l : List (Str × NameKind)}, (l.map (·.1)).Nodup → (x, k) ∈ l → l.lookup x = some k
  | (y, j) :: r, hn, h => by
    obtain ⟨h1, h2⟩ := List.nodup_cons.mp hn
    rw [List.lookup_cons]
    rcases List.mem_cons.mp h with e | e
    · cases e; simp
    · have : (x == y) = false := by
        simp only [beq_eq_false_iff_ne]; intro q; subst q; exact h1 (List.mem_map.mpr ⟨_, e, rfl⟩)
      rw [this]; exact lookup_of_nodup h2 e

theorem compB_false {scope : Scope} {x : Str} : compB scope x = false ↔ (x, NameKind.cell) ∈ scope.names := by
  unfold compB
  simp only [Bool.not_eq_false', List.any_eq_true, Bool.and_eq_true, beq_iff_eq]
  constructor
  · rintro ⟨⟨n, k⟩, hm, rfl, rfl⟩; exact hm
  · intro h; exact ⟨_, h, rfl, rfl⟩

structure CompFacts (outer : List (Str × NameKind)) (scope : Scope) (b : Str → Bool) (env : Env) : Prop where
  kind : scope.kind = .function
  nodup : (scope.names.map (·.1)).Nodup
  free : ∀ x, (x, NameKind.free) ∈ scope.names → CellName env x ∧ (env.cells.lookup x).isSome = true

theorem compFacts {outer : List (Str × NameKind)} {scope : Scope} (E : EnvIs outer b env) (h : compOk outer scope = true) : CompFacts outer scope b env := by
  unfold compOk at h
  simp only [Bool.and_eq_true, beq_iff_eq, decide_eq_true_eq] at h
  obtain ⟨⟨h1, h2⟩, h3⟩ := h
  refine ⟨h1, h2, fun x hx => ?_⟩
  have := List.all_eq_true.mp h3 _ hx
  simp at this
  rcases this with q | q
  · have := E.cel x q; exact ⟨.inl this.1, this.2.1⟩
  · exact E.fre x q

theorem comp_lookup_own {scope : Scope} {L : Addr} {x : Str} {c : Addr} (hx : (x, NameKind.cell) ∈ scope.names) (h : (compEnvOf scope env L).cells.lookup x = some c) : (x, c) ∈ cellsFrom (L + 1) scope.names [] := by
  have h' : (cellsFrom (L + 1) scope.names [] ++ clOf env scope.names []).lookup x = some c := h
  rw [lookup_app] at h'
  obtain ⟨d, hd⟩ := Option.isSome_iff_exists.mp (cellsFrom_has scope.names (L + 1) [] (x := x) (.inr hx))
  rw [hd] at h'
  cases h'
  exact mem_of_lookup hd
theorem comp_lookup_bor {scope : Scope} {L : Addr} {x : Str} {c : Addr} (hx : (x, NameKind.cell) ∉ scope.names) (h : (compEnvOf scope env L).cells.lookup x = some c) : (x, NameKind.free) ∈ scope.names ∧ env.cells.lookup x = some c := by
  have h' : (cellsFrom (L + 1) scope.names [] ++ clOf env scope.names []).lookup x = some c := h
  rw [lookup_app] at h'
  cases hd : (cellsFrom (L + 1) scope.names []).lookup x with
  | some d => exact absurd (cellsFrom_mem _ _ (mem_of_lookup hd)) hx
  | none =>
    rw [hd] at h'
    rcases clOf_mem _ _ (mem_of_lookup h') with q | q
    · cases q
    · exact q

theorem compEnvIs {outer : List (Str × NameKind)} {scope : Scope} {L : Addr} {h : Heap} (E : EnvIs outer b env) (F : CompFacts outer scope b env) (ok : CellsOk h (L + 1) (cellsFrom (L + 1) scope.names [])) :
    EnvIs scope.names (compB scope) (compEnvOf scope env L) := by
  have hk : ∀ x, (compEnvOf scope env L).kindOf x = (scope.names.lookup x).map fun k => if (k == NameKind.free && env.scope.kind == .function && env.kindOf x == some .cell) then NameKind.cell else k := fun x => lookup_relabel scope.names
  refine ⟨⟨F.kind, fun x c hx hb hc e => ?_, fun x y c hx hy hbx hby hcx hcy => ?_⟩, fun x e => by rw [hk, e]; rfl, fun x e => ⟨by rw [hk, e]; rfl, ?_, compB_false.mpr (mem_of_lookup e)⟩, fun x e => ⟨?_, ?_⟩, fun x e => by rw [hk, e]; rfl, E.g, E.bu⟩
  · have := (ok.empty x c (comp_lookup_own (compB_false.mp hb) hc)).2
    rw [e] at this; exact absurd this (Nat.not_succ_le_self L)
  · exact name_of_addr ok.apart (comp_lookup_own (compB_false.mp hbx) hcx) (comp_lookup_own (compB_false.mp hby) hcy)
  · show ((cellsFrom (L + 1) scope.names [] ++ clOf env scope.names []).lookup x).isSome = true
    rw [lookup_app]
    obtain ⟨d, hd⟩ := Option.isSome_iff_exists.mp (cellsFrom_has scope.names (L + 1) [] (x := x) (.inr (mem_of_lookup e)))
    rw [hd]; rfl
  · unfold CellName
    rw [hk, e]
    by_cases q : (NameKind.free == NameKind.free && env.scope.kind == .function && env.kindOf x == some .cell) = true
    · left; simp only [Option.map_some, if_pos q]
    · right; simp only [Option.map_some, if_neg q]
  · show ((cellsFrom (L + 1) scope.names [] ++ clOf env scope.names []).lookup x).isSome = true
    rw [lookup_app]
    have := clOf_has (env := env) scope.names [] (x := x) (.inr ⟨mem_of_lookup e, (F.free x (mem_of_lookup e)).2⟩)
    obtain ⟨d, hd⟩ := Option.isSome_iff_exists.mp this
    rw [hd]
    cases (cellsFrom (L + 1) scope.names []).lookup x <;> rfl
end

noncomputable def testsT (ifs : List Expr) (env : Env) : Sem Bool := forIn ifs true fun c r => if r = true then do let ok ← isTrue c env (eval c env); Pure.pure (ForInStep.yield ok) else Pure.pure (ForInStep.yield r)
noncomputable abbrev lstO (us : List Value) (n : Nat) : Obj := { cls := .type "list", data := .seq us.toArray n }

theorem ne_lg {a b n : Nat} (h1 : a < n) (h2 : n ≤ b) : a ≠ b := by omega
theorem ne_gl {a b n : Nat} (h1 : a < n) (h2 : n ≤ b) : b ≠ a := by omega
theorem succ_ge {a b : Nat} (h : a + 1 ≤ b) : a ≤ b := by omega

section
variable {C : Cx} {A : Around} {b : Str → Bool} {env : Env} {vs : Vars} {hp : AHeap} {K : Addr → Option Obj} {names : List (Str × NameKind)}

theorem AW.testsNil {Q : Bool → Vars → AHeap → Prop} (h : Q true vs hp) : AW C A b env IsB (testsT [] env) Q vs hp := fun K s R => wpAny_tests_nil ⟨true, vs, hp, rfl, R, h⟩
theorem AW.testsOne {c : Expr} {Q : Bool → Vars → AHeap → Prop} (h : AW C A b env IsB (isTrue c env (eval c env)) Q vs hp) : AW C A b env IsB (testsT [c] env) Q vs hp := fun K s R => wpAny_tests_one (h K s R)

/-- what is known of the names that a comprehension borrows -/
noncomputable def Bor (K : Addr → Option Obj) (scope : Scope) (cenv : Env) (vs : Vars) : Prop :=
  ∀ x c, (x, NameKind.cell) ∉ scope.names → cenv.cells.lookup x = some c → ∃ o ov, K c = some o ∧ o.data = .cell ov ∧ ∀ a, vs x = some a → ∃ v, ov = some v ∧ Is a v

theorem Rel.reset {scope : Scope} {L : Addr} {vs' : Vars} {s : Shared} (hn : (scope.names.map (·.1)).Nodup) (R : Rel C K (compB scope) (compEnvOf scope env L) vs' hp s) (B : Bor K scope (compEnvOf scope env L) vs) :
    Rel C K (compB scope) (compEnvOf scope env L) (clVars scope.names vs) hp s := by
  have hk : ∀ x, (compEnvOf scope env L).kindOf x = (scope.names.lookup x).map fun k => if (k == NameKind.free && env.scope.kind == .function && env.kindOf x == some .cell) then NameKind.cell else k := fun x => lookup_relabel scope.names
  refine ⟨R.h, R.hi, R.own, ?_, fun x c hx hc => ?_, R.frm⟩
  · obtain ⟨m, hns, hm⟩ := R.loc
    refine ⟨m, hns, fun x hx a e => ?_⟩
    unfold clVars at e
    split at e
    · rename_i hf
      rw [hk, hf] at hx
      by_cases q : (NameKind.free == NameKind.free && env.scope.kind == .function && env.kindOf x == some .cell) = true
      · simp only [Option.map_some, if_pos q] at hx; cases hx
      · simp only [Option.map_some, if_neg q] at hx; cases hx
    · cases e
  · obtain ⟨o, ov, ho, hd, hv, hb⟩ := R.cel x c hx hc
    by_cases hm : (x, NameKind.cell) ∈ scope.names
    · refine ⟨o, ov, ho, hd, fun a e => ?_, hb⟩
      unfold clVars at e
      rw [lookup_of_nodup hn hm] at e
      split at e
      · rename_i q; cases q
      · cases e
    · obtain ⟨o', ov', hK, hd', hv'⟩ := B x c hm hc
      obtain ⟨o'', h1, h2⟩ := R.h.keep c o' hK
      rw [ho] at h1; cases h1
      have h3 := h2.data
      rw [hd, hd'] at h3; cases h3
      refine ⟨o, ov, ho, hd, fun a e => hv' a ?_, hb⟩
      unfold clVars at e
      split at e
      · exact e
      · cases e

theorem comp_wp {elt target iter : Expr} {ifs : List Expr} {scope : Scope} {pos : Pos} {s : Shared} {xv : Value} {Src : AHeap → Prop} {items : List AV} {io : Nat → Obj → Prop} {I : Nat → List AV → AHeap → Prop} {RR : Value → Addr → Result → Shared → Prop}
    (E : EnvIs names b env) (F : CompFacts names scope b env) (hh : A.handled = none) (R : Rel C K b env vs hp s) (W : Walker (C.push env) Src items io) (st : Starts (C.push env) hp xv io)
    (I0 : I 0 [] hp) (IS : ∀ i ys hp, I i ys hp → Src hp ∧ ys.length < 90000)
    (turn : ∀ cenv, EnvIs scope.names (compB scope) cenv → ∀ i a ys hp, items[i]? = some a → I i ys hp → ∀ v, Is a v → AW (C.push env) A (compB scope) cenv IsU (assign target cenv v) (fun _ vs₂ hp₂ => AW (C.push env) A (compB scope) cenv IsB (testsT ifs cenv) (fun c vs₃ hp₃ =>
      if c then AW (C.push env) A (compB scope) cenv Is (eval elt cenv) (fun y _ hp₄ => I (i + 1) (ys ++ [y]) hp₄) vs₃ hp₃ else I (i + 1) ys hp₃) vs₂ hp₂) (clVars scope.names vs) hp)
    (fin : ∀ L oL m D ys hp' s', Apart C K b env L → (∀ (h' : Heap) o', h'.get? L = some o' → o'.data = oL.data → h'.Ns L m) → Rel C (Kadd K L oL) b env vs (hp'.put D (.list ys)) s' → hp' D = none → I items.length ys hp' → RR (.ref D) L (.ok .next) s') :
    wpAny (model C.prog C.w) A (pyIter xv) (fun it s₂ => wpAny (model C.prog C.w) A (newList []) (fun acc s₃ => wpAny (model C.prog C.w) A (newFunctionEnv scope env.globals (clOf env scope.names []) [] env.qual none .none (some env)) (fun cenv s₄ =>
      codeAny (model C.prog C.w) A (.compStart (.ListComp elt [⟨target, iter, ifs, 0⟩] scope pos) 0 it acc { cenv with scope := relabel scope env }) (RR acc cenv.locals) s₄) (fun _ _ => False) s₃) (fun _ _ => False) s₂) (fun _ _ => False) s := by
  refine st A _ s R.lend _ _ fun it o h₁ ho hio hk hit => ?_
  have apI := R.apart hit
  have sz1 : s.heap.objs.size ≤ h₁.objs.size := Nat.le_trans hit (Nat.le_of_lt (Heap.lt_size ho))
  refine wpAny_newObj_type ?_
  dsimp only
  have apD := R.apart sz1
  refine wpAny_newCompEnv fun h₃ hns hk₃ ok => ?_
  dsimp only at hns hk₃ ok ⊢
  have hL : (h₁.push { cls := .type "list", dict := none, data := .seq ([] : List Value).toArray }).objs.size = h₁.objs.size + 1 := Heap.size_push ..
  rw [hL] at hns ok ⊢
  have apL := R.apart (it := h₁.objs.size + 1) (Nat.le_succ_of_le sz1)
  have itD : it ≠ h₁.objs.size := fun e => Nat.lt_irrefl _ (e ▸ Heap.lt_size ho)
  have itL : it ≠ h₁.objs.size + 1 := fun e => by have := Heap.lt_size ho; rw [e] at this; exact Nat.lt_irrefl _ (Nat.lt_of_succ_lt this)
  have DL : h₁.objs.size ≠ h₁.objs.size + 1 := Nat.ne_of_lt (Nat.lt_succ_self _)
  have kAll : ∀ a o, s.heap.get? a = some o → h₃.get? a = some o := fun a o e => hk₃ _ _ (Heap.get?_push_of_some _ (hk a o e))
  have old : ∀ a, s.heap.objs.size ≤ a → hp a = none := fun a ha => by
    cases e : hp a with
    | none => rfl
    | some ao => exact absurd (Nat.lt_of_lt_of_le (R.h.lt e) ha) (Nat.lt_irrefl _)
  have hDo' : h₃.get? h₁.objs.size = some (lstO [] 0) := hk₃ _ _ (Heap.get?_push_size _ rfl)
  have hitlt' : it < h₁.objs.size := Heap.lt_size ho
  obtain ⟨D, hD⟩ : ∃ D, D = h₁.objs.size := ⟨_, rfl⟩
  rw [← hD] at sz1 apD hns ok apL itD itL DL hDo' hitlt' ⊢
  have hDo : h₃.get? D = some (lstO [] 0) := hDo'
  have hitlt : it < D := hitlt'
  have hIo : h₃.get? it = some o := hk₃ _ _ (Heap.get?_push_of_some _ ho)
  have lo1 : C.h₀.objs.size ≤ D := Nat.le_trans R.h.big sz1
  -- what is kept
  have K1 := R.lend
  have R1 : RelH (C.push env) (lend K (ownOf b env) s) hp { s with heap := h₃ } := K1.grow kAll rfl rfl rfl (Nat.le_of_lt (Nat.lt_of_le_of_lt (Nat.le_succ_of_le sz1) hns.lt))
  have k1none : ∀ a, s.heap.objs.size ≤ a → lend K (ownOf b env) s a = none := fun a ha => by
    cases e : lend K (ownOf b env) s a with
    | none => rfl
    | some o' => obtain ⟨_, h, _⟩ := K1.keep a o' e; exact absurd (Nat.lt_of_lt_of_le (Heap.lt_size h) ha) (Nat.lt_irrefl _)
  have R2 := R1.freeze hDo (old D sz1) apD.base (k1none D sz1)
  have R3 := R2.freeze hIo (old it hit) apI.base (by rw [Kadd_ne itD]; exact k1none it hit)
  have EI : EnvIs scope.names (compB scope) (compEnvOf scope env (D + 1)) := compEnvIs E F ok
  have B0 : Bor (lend K (ownOf b env) s) scope (compEnvOf scope env (D + 1)) vs := fun x c hx hc => by
    obtain ⟨hf, hc'⟩ := comp_lookup_bor hx hc
    obtain ⟨o', ov, ho', hd, hv, hb⟩ := R.cel x c (F.free x hf).1 hc'
    unfold Mine.lend
    split
    · exact ⟨o', ov, ho', hd, hv⟩
    · rename_i q
      cases e : b x with
      | true => obtain ⟨o₀, h1, h2⟩ := hb e; exact ⟨o₀, ov, h1, h2, hv⟩
      | false => exact absurd (.inr ⟨x, (F.free x hf).1, e, hc'⟩) q
  have Bk : ∀ o u n, Bor (Kadd (Kadd (lend K (ownOf b env) s) D (lstO u n)) it o) scope (compEnvOf scope env (D + 1)) vs := fun o u n x c hx hc => by
    obtain ⟨o', ov, h1, h2, h3⟩ := B0 x c hx hc
    obtain ⟨_, hk1, _⟩ := K1.keep c o' h1
    have hlt := Heap.lt_size hk1
    refine ⟨o', ov, ?_, h2, h3⟩
    rw [Kadd_ne (ne_lg hlt hit), Kadd_ne (ne_lg hlt sz1)]
    exact h1
  have cellGe : ∀ x c, (x, c) ∈ cellsFrom (D + 1 + 1) scope.names [] → D + 1 < c := fun x c hm => (ok.empty x c hm).2
  have Rin : Rel (C.push env) (Kadd (Kadd (lend K (ownOf b env) s) D (lstO [] 0)) it o) (compB scope) (compEnvOf scope env (D + 1)) (clVars scope.names vs) hp { s with heap := h₃ } := by
    refine Rel.reset (vs' := fun _ => none) F.nodup ⟨R3, Nat.le_succ_of_le lo1, fun a q => ?_, ⟨_, hns, fun x hx a e => by cases e⟩, fun x c hx hc => ?_, ⟨by show (relabel scope env).kind ≠ _; show scope.kind ≠ _; rw [F.kind]; decide, ?_⟩⟩ (Bk o [] 0)
    · have ha : D + 1 ≤ a := by
        rcases q with e | ⟨x, hx, hb, hc⟩
        · rw [e]; exact Nat.le_refl _
        · exact Nat.le_of_lt (cellGe x a (comp_lookup_own (compB_false.mp hb) hc))
      have h1 : s.heap.objs.size ≤ a := Nat.le_trans sz1 (succ_ge ha)
      refine ⟨?_, old a h1⟩
      rw [Kadd_ne (ne_gl hitlt (succ_ge ha)), Kadd_ne (ne_gl (Nat.lt_succ_self D) ha)]
      exact k1none a h1
    · by_cases hm : (x, NameKind.cell) ∈ scope.names
      · obtain ⟨o', ho', hd⟩ := (ok.empty x c (comp_lookup_own hm hc)).1
        refine ⟨o', none, ho', hd, fun a e => (by cases e), fun e => ?_⟩
        rw [compB_false.mpr hm] at e; cases e
      · obtain ⟨o', ov, h1, h2, h3⟩ := Bk o [] 0 x c hm hc
        obtain ⟨o'', h4, h5⟩ := R3.keep c o' h1
        exact ⟨o'', ov, h4, h5.data.trans h2, fun a e => (by cases e), fun _ => ⟨o', h1, h2⟩⟩
    · obtain ⟨_, L, o', es, ep, h2, h3, h4, h5⟩ := R3.frs env (.head _)
      exact ⟨L, h2, .inr ⟨o', es, ep, h3, h4, h5⟩⟩
  have EOin := EI.ok
  have loop : codeAny (model C.prog C.w) A (.compLoop (.ListComp elt [⟨target, iter, ifs, 0⟩] scope pos) 0 (.ref it) (.ref D) (compEnvOf scope env (D + 1))) (RR (.ref D) (D + 1)) { s with heap := h₃ } := by
    refine codeAny_compLoop_any (fun n s' => ∃ i ys us nn o hp, n + i = items.length ∧ io i o ∧ IsL ys us ∧ Rel (C.push env) (Kadd (Kadd (lend K (ownOf b env) s) D (lstO us nn)) it o) (compB scope) (compEnvOf scope env (D + 1)) (clVars scope.names vs) hp s' ∧ I i ys hp)
      (fun n s' ⟨i, ys, us, nn, o, hp, hn, hio, hys, R', hI⟩ => ?_) items.length ⟨0, [], [], 0, o, hp, rfl, hio, .nil, Rin, I0⟩
    have hito : s'.heap.get? it = some o := by
      obtain ⟨o', h1, h2⟩ := R'.h.keep it o Kadd_self
      rw [h2.exact (W.nd i o hio)] at h1; exact h1
    have nfr : ∀ e ∈ (C.push env).fs, FrameIn (C.push env).h₀ (lend K (ownOf b env) s) e := K1.frs
    have frK : ∀ (K' : Addr → Option Obj) x o', K' x = none → (∀ e ∈ (C.push env).fs, FrameIn (C.push env).h₀ K' e) → ∀ e ∈ (C.push env).fs, FrameIn (C.push env).h₀ (Kadd K' x o') e := fun K' x o' hx hf e he => by
      obtain ⟨h1, L, o₂, es, ep, h2, h3, h4⟩ := hf e he
      exact ⟨h1, L, o₂, es, ep, h2, by rw [Kadd_ne (fun q => by rw [q, hx] at h3; cases h3)]; exact h3, h4⟩
    have fmK : ∀ (K' : Addr → Option Obj), (∀ e ∈ (C.push env).fs, FrameIn (C.push env).h₀ K' e) → (compEnvOf scope env (D + 1)).scope.kind ≠ .module ∧ ∃ L, (compEnvOf scope env (D + 1)).frame = some L ∧ (L = (compEnvOf scope env (D + 1)).locals ∨ ∃ o es ep, K' L = some o ∧ o.data = .dict es ep ∧ (C.push env).h₀.get? L = none) := fun K' hf => by
      obtain ⟨_, L, o', es, ep, h2, h3, h4, h5⟩ := hf env (.head _)
      exact ⟨by show scope.kind ≠ _; rw [F.kind]; decide, L, h2, .inr ⟨o', es, ep, h3, h4, h5⟩⟩
    have fD := frK _ D (lstO us nn) (k1none D sz1) nfr
    have apIt : Apart (C.push env) (Kadd (lend K (ownOf b env) s) D (lstO us nn)) (compB scope) (compEnvOf scope env (D + 1)) it := by
      refine ⟨fD, fmK _ fD, by rw [Kadd_ne itD]; exact k1none it hit, apI.base, fun q => ?_, fun x c hx hc hb e => ?_⟩
      · have := (R'.own it q).1; rw [Kadd_self] at this; cases this
      · obtain ⟨o', ov, h1, _⟩ := B0 x c (fun q => by rw [compB_false.mpr q] at hb; cases hb) hc
        obtain ⟨_, hk1, _⟩ := K1.keep c o' h1
        exact ne_lg (Heap.lt_size hk1) hit e
    have apDD : ∀ o', Apart (C.push env) (Kadd (lend K (ownOf b env) s) it o') (compB scope) (compEnvOf scope env (D + 1)) D := fun o' => by
      have fI := frK _ it o' (k1none it hit) nfr
      refine ⟨fI, fmK _ fI, by rw [Kadd_ne (Ne.symm itD)]; exact k1none D sz1, apD.base, fun q => ?_, fun x c hx hc hb e => ?_⟩
      · have := (R'.own D q).1; rw [Kadd_comm (Ne.symm itD), Kadd_self] at this; cases this
      · obtain ⟨o', ov, h1, _⟩ := B0 x c (fun q => by rw [compB_false.mpr q] at hb; cases hb) hc
        obtain ⟨_, hk1, _⟩ := K1.keep c o' h1
        exact ne_lg (Heap.lt_size hk1) sz1 e
    obtain ⟨hSrc, hyl⟩ := IS i ys hp hI
    cases e : items[i]? with
    | none =>
      refine W.stop hh R'.h hSrc hito hio R'.hpNone e _ _ fun h'' tk hx => ?_
      have hil : i = items.length := by have := List.getElem?_eq_none_iff.mp e; omega
      subst hil
      have Rf := R'.ext apIt hx tk
      obtain ⟨m, hNs, _⟩ := Rf.loc
      obtain ⟨oL, es, ep, hoL, hdL, r⟩ := id hNs
      have hLnone := (Rf.own _ (.inl rfl)).2
      have hDnone : hp D = none := by
        cases q : hp D with
        | none => rfl
        | some ao => have := (Rf.h.objs D ao q).1; rw [Kadd_self] at this; cases this
      have Ru := Rf.h.unfreeze (k1none D sz1) apD.base nfr (fun es ep h => by cases h) (ao := .list ys) ⟨us, nn, hys, rfl⟩ lo1
      have Rb := R.back E.ok Ru
      refine fin (D + 1) oL m D ys hp _ apL (fun h' o' q hd => ⟨o', es, ep, q, hd.trans hdL, r⟩) (Rb.freeze hoL ?_ apL) hDnone hI
      unfold AHeap.put; rw [if_neg (Ne.symm DL)]; exact hLnone
    | some a =>
      refine W.next R'.h hSrc hito hio R'.hpNone e _ _ fun v h'' o' tk hv ho' hio' hx => ?_
      have Rn : Rel (C.push env) (Kadd (Kadd (lend K (ownOf b env) s) D (lstO us nn)) it o') (compB scope) (compEnvOf scope env (D + 1)) (clVars scope.names vs) hp { s' with heap := h'', toks := tk } := Rel.freeze (R'.ext apIt hx tk) ho' R'.hpNone apIt
      refine W.go ho' hio' _ _ ?_
      have hlt : i < items.length := (List.getElem?_eq_some_iff.mp e).1
      refine wpAny_mono (turn _ EI i a ys hp e hI v hv _ _ Rn) (fun _ s₂ ⟨_, vs₂, hp₂, _, R₂, q⟩ => ?_) fun _ _ x => x
      refine AW.elim (q) R₂ (fun c s₃ c' vs₃ hp₃ hc' R₃ q₃ => ?_)
      cases hc'
      cases c with
      | false =>
        rw [if_neg (by simp)]
        exact ⟨n - 1, by omega, i + 1, ys, us, nn, o', hp₃, by omega, hio', hys, R₃.reset F.nodup (Bk o' us nn), q₃⟩
      | true =>
        rw [if_pos rfl]
        refine AW.elim (q₃) R₃ (fun y s₄ y' vs₄ hp₄ hy R₄ q₄ => ?_)
        have hD4 : hp₄ D = none := by
          cases q : hp₄ D with
          | none => rfl
          | some ao => have := (R₄.h.objs D ao q).1; rw [Kadd_comm (Ne.symm itD), Kadd_self] at this; cases this
        rw [Kadd_comm (Ne.symm itD)] at R₄
        have R5 := R₄.unfreeze (apDD o') (fun es ep h => by cases h) (ao := .list ys) ⟨us, nn, hys, rfl⟩ lo1
        have R6 := AW.ofCW (Q := fun _ vs' hp' => vs' = vs₄ ∧ hp' = (hp₄.put D (.list ys)).put D (.list (ys ++ [y']))) (A := A) EOin (CW.append (l := D) (by simp [AHeap.put]) (by omega) hy ⟨rfl, rfl⟩) _ _ R5
        refine wpAny_mono R6 (fun _ s₅ ⟨_, vs₅, hp₅, _, R₅, e1, e2⟩ => ?_) fun _ _ x => x
        subst e1; subst e2
        obtain ⟨oD, hoD, Rz⟩ := R₅.refreeze (d := D) (ao := .list (ys ++ [y'])) (by simp [AHeap.put])
        obtain ⟨us', nn', hys', rfl⟩ := hoD
        rw [put_del hD4, Kadd_comm itD] at Rz
        exact ⟨n - 1, by omega, i + 1, ys ++ [y'], us', nn', o', hp₄, by omega, hio', hys', Rz.reset F.nodup (Bk o' us' nn'), q₄⟩
  exact codeAny_compStart_list loop (W.self hIo hio _ _ loop)
end
section
variable {C : Cx} {A : Around} {b : Str → Bool} {env : Env} {vs : Vars} {hp : AHeap} {K : Addr → Option Obj} {names : List (Str × NameKind)}

theorem comp_local {scope : Scope} (h : (scope.names.map (·.1)).Nodup) : ∀ x ∈ scope.names, x.2 = .local → scope.names.lookup x.1 = some .local := fun x hx e => by
  obtain ⟨n, k⟩ := x; dsimp at e; subst e; exact lookup_of_nodup h hx

/-- what a comprehension's turn asks, by other names -/
structure Ct (I' : List AV → AHeap → Prop) (ys : List AV) (QY : AV → AHeap → Prop) (QN : AHeap → Prop) : Prop where
  yes : ∀ y hp, I' (ys ++ [y]) hp → QY y hp
  no : ∀ hp, I' ys hp → QN hp
/-- the turns of a comprehension -/
noncomputable def CompTurns (C : Cx) (A : Around) (scope : Scope) (target elt : Expr) (ifs : List Expr) (vs : Vars) (items : List AV) (I : Nat → List AV → AHeap → Prop) : Prop :=
  ∀ cenv, EnvIs scope.names (compB scope) cenv → ∀ i a ys hp, items[i]? = some a → I i ys hp → ∀ v, Is a v → ∀ QY QN, Ct (I (i + 1)) ys QY QN → AW C A (compB scope) cenv IsU (assign target cenv v) (fun _ vs₂ hp₂ => AW C A (compB scope) cenv IsB (testsT ifs cenv) (fun c vs₃ hp₃ =>
      if c then AW C A (compB scope) cenv Is (eval elt cenv) (fun y _ hp₄ => QY y hp₄) vs₃ hp₃ else QN hp₃) vs₂ hp₂) (clVars scope.names vs) hp

theorem AW.ListComp {elt target iter : Expr} {ifs : List Expr} {scope : Scope} {pos : Pos} {Q : AV → Vars → AHeap → Prop} (E : EnvIs names b env) (hok : compOk names scope = true) (hh : A.handled = none)
    (h : AW C A b env Is (eval iter env) (fun x vs₁ hp₁ => ∃ Src items io, Walker (C.push env) Src items io ∧ (∀ v, Is x v → Starts (C.push env) hp₁ v io) ∧ ∃ I : Nat → List AV → AHeap → Prop, I 0 [] hp₁ ∧ (∀ i ys hp, I i ys hp → Src hp ∧ ys.length < 90000) ∧
      CompTurns (C.push env) A scope target elt ifs vs₁ items I ∧ (∀ ys hp, I items.length ys hp → ∀ r, hp r = none → Q (.ref r) vs₁ (hp.put r (.list ys)))) vs hp)
    (hs : ∀ x, foldedSetIterable iter env x = Pure.pure x := by intro _; rfl) :
    AW C A b env Is (eval (.ListComp elt [⟨target, iter, ifs, 0⟩] scope pos) env) Q vs hp := fun K s R => by
  have F := compFacts E hok
  rw [eval_ListComp]
  refine wpAny_comprehension_free rfl hs (closure_is fun p hp q => by obtain ⟨n, k⟩ := p; dsimp at q; subst q; exact (F.free n hp).2) F.kind (comp_local F.nodup) ?_
  refine AW.elim (h) R (fun xv s₁ x vs₁ hp₁ i R₁ ⟨Src, items, io, W, st, I, I0, IS, turn, fin⟩ => ?_)
  refine comp_wp E F hh R₁ W (st xv i) I0 IS (fun cenv E' i a ys hp ha hI v iv => turn cenv E' i a ys hp ha hI v iv _ _ ⟨fun _ _ x => x, fun _ x => x⟩) fun L oL m D ys hp' s' ap hN Rf hD hI => ?_
  obtain ⟨oL', hL1, hL2⟩ := Rf.h.keep L oL Kadd_self
  refine ⟨m, hN _ oL' hL1 hL2.data, fun h' hs => ⟨.ref D, vs₁, _, rfl, Rf.ext ap hs.extBut s'.toks, fin ys hp' hI D hD⟩⟩

theorem AW.AssignComp {x : Str} {elt target iter : Expr} {ifs : List Expr} {scope : Scope} {pos pos' spos : Pos} {Q : AFlow → Vars → AHeap → Prop} (E : EnvIs names b env) (hok : compOk names scope = true) (hh : A.handled = none)
    (hx : names.lookup x = some .local)
    (h : AW C A b env Is (eval iter env) (fun y vs₁ hp₁ => ∃ Src items io, Walker (C.push env) Src items io ∧ (∀ v, Is y v → Starts (C.push env) hp₁ v io) ∧ ∃ I : Nat → List AV → AHeap → Prop, I 0 [] hp₁ ∧ (∀ i ys hp, I i ys hp → Src hp ∧ ys.length < 90000) ∧
      CompTurns (C.push env) A scope target elt ifs vs₁ items I ∧ (∀ ys hp, I items.length ys hp → ∀ r, hp r = none → Q .next (vs₁.put x (.ref r)) (hp.put r (.list ys)))) vs hp)
    (hs : ∀ x, foldedSetIterable iter env x = Pure.pure x := by intro _; rfl)
    (hl : (pos'.line == pos.line) = true := by rfl) (hn : (scope.names.any fun p => p.1 == x && (p.2 == .local || p.2 == .cell)) = false := by rfl) :
    AW C A b env FlowIs (exec (.Assign [.Name x pos'] (.ListComp elt [⟨target, iter, ifs, 0⟩] scope pos) spos) env) Q vs hp := fun K s R => by
  have F := compFacts E hok
  have hbk : env.blockKind = .function := by unfold Env.blockKind; rw [E.ok.kind]; rfl
  have hsw : swapsWith (.ListComp elt [⟨target, iter, ifs, 0⟩] scope pos) (some (.Name x pos')) spos.line env = Pure.pure true := by
    show Pure.pure (env.blockKind == .function && env.kindOf x == some .local && pos'.line == pos.line && !(scope.names.any fun (n, k) => n == x && (k == .local || k == .cell))) = Pure.pure true
    rw [hbk, E.loc x hx, hl]
    have : (scope.names.any fun (n, k) => n == x && (k == .local || k == .cell)) = false := hn
    rw [this]; rfl
  rw [exec_Assign_Name_used _ _ _ _ hsw]
  refine wpAny_bind (wpAny_standAt (wpAny_bind ?_))
  show wpAny _ _ (comprehension _ _ _ _ _ _ _ _ >>= fun _ => Pure.pure ()) _ _ _
  refine wpAny_bind ?_
  refine wpAny_comprehension_free rfl hs (closure_is fun p hp q => by obtain ⟨n, k⟩ := p; dsimp at q; subst q; exact (F.free n hp).2) F.kind (comp_local F.nodup) ?_
  refine AW.elim (h) R (fun xv s₁ y vs₁ hp₁ i R₁ ⟨Src, items, io, W, st, I, I0, IS, turn, fin⟩ => ?_)
  refine comp_wp E F hh R₁ W (st xv i) I0 IS (fun cenv E' i a ys hp ha hI v iv => turn cenv E' i a ys hp ha hI v iv _ _ ⟨fun _ _ x => x, fun _ x => x⟩) fun L oL m D ys hp' s' ap hN Rf hD hI => ?_
  have sv : AW C A b env IsU (assign (.Name x pos') env (.ref D)) (fun _ vs₂ hp₂ => Q .next vs₂ hp₂) vs₁ (hp'.put D (.list ys)) := AW.assignName (AW.sLocal E hx (a := .ref D) rfl (fin ys hp' hI D hD))
  refine wpAny_mono (sv _ s' Rf) (fun _ s₂ ⟨_, vs₂, hp₂, _, R₂, q⟩ => ?_) fun _ _ x => x
  obtain ⟨oL', hL1, hL2⟩ := R₂.h.keep L oL Kadd_self
  refine ⟨m, hN _ oL' hL1 hL2.data, fun h' hs => wpAny_pure (wpAny_pure ⟨.next, vs₂, hp₂, rfl, R₂.ext ap hs.extBut s₂.toks, q⟩)⟩
end
section
variable {C : Cx} {A : Around} {b : Str → Bool} {env : Env} {vs : Vars} {hp : AHeap} {K : Addr → Option Obj} {names : List (Str × NameKind)}

/-! ints -/
theorem CW.addI {a k : Int} {t u : Tok} {Q : AV → AHeap → Prop} (h : Q (.int (a + k)) hp) : CW C A Is (binaryOp .Add (.int a t) (.int k u)) Q hp := fun K s R => add_int ⟨.int _, hp, ⟨_, rfl⟩, R.toks _, h⟩
theorem CW.subI {a k : Int} {t u : Tok} {Q : AV → AHeap → Prop} (h : Q (.int (a - k)) hp) : CW C A Is (binaryOp .Sub (.int a t) (.int k u)) Q hp := fun K s R => sub_int ⟨.int _, hp, ⟨_, rfl⟩, R.toks _, h⟩
theorem CW.modI {a k : Int} {t u : Tok} {Q : AV → AHeap → Prop} (hk : 0 < k) (h : Q (.int (a % k)) hp) : CW C A Is (binaryOp .Mod (.int a t) (.int k u)) Q hp := fun K s R =>
  mod_int' (by omega) ⟨.int (a % k), hp, ⟨_, by rw [Int.fmod_eq_emod_of_nonneg _ (by omega)]⟩, R.toks _, h⟩
theorem CW.divI {a k : Int} {t u : Tok} {Q : AV → AHeap → Prop} (hk : 0 < k) (hk' : k < 1000000) (h : Q (.int (a / k)) hp) : CW C A Is (binaryOp .FloorDiv (.int a t) (.int k u)) Q hp := fun K s R =>
  floordiv_int (by omega) ⟨.int (a / k), hp, ⟨_, by rw [Int.fdiv_eq_ediv_of_nonneg _ (by omega)]⟩, R.toks _, h⟩ (.inl (PyProof.noPylong_small (by omega)))
theorem CW.powI {k : Int} {t u : Tok} {Q : AV → AHeap → Prop} (hk : 0 ≤ k) (hk' : k ≤ 1000) (h : Q (.int (2 ^ k.toNat)) hp) : CW C A Is (binaryOp .Pow (.int 2 t) (.int k u)) Q hp := fun K s R =>
  pow_int_small hk (by omega) (by decide) ⟨.int _, hp, ⟨_, rfl⟩, R.toks _, h⟩
theorem CW.mulI {a k : Int} {t u : Tok} {Q : AV → AHeap → Prop} (hk : -1000000 < k) (hk' : k < 1000000) (h : Q (.int (a * k)) hp) : CW C A Is (binaryOp .Mult (.int a t) (.int k u)) Q hp := fun K s R => by
  exact mul_int ⟨.int _, hp, ⟨_, rfl⟩, R.toks _, h⟩ (IntMulOk.of_right (intBits_le_64 (by omega) (by omega)))
theorem CW.negI {a : Int} {t : Tok} {Q : AV → AHeap → Prop} (h : Q (.int (-a)) hp) : CW C A Is (unaryOp .USub (.int a t)) Q hp := fun K s R => neg_int ⟨.int _, hp, ⟨_, rfl⟩, R.toks _, h⟩
theorem CW.iaddI {a k : Int} {t u : Tok} {Q : AV → AHeap → Prop} (h : Q (.int (a + k)) hp) : CW C A Is (inplaceOp .Add (.int a t) (.int k u)) Q hp := fun K s R => iadd_int ⟨.int _, hp, ⟨_, rfl⟩, R.toks _, h⟩
theorem CW.isubI {a k : Int} {t u : Tok} {Q : AV → AHeap → Prop} (h : Q (.int (a - k)) hp) : CW C A Is (inplaceOp .Sub (.int a t) (.int k u)) Q hp := fun K s R => isub_int ⟨.int _, hp, ⟨_, rfl⟩, R.toks _, h⟩
theorem CW.eqI {a k : Int} {t u : Tok} {Q : AV → AHeap → Prop} (h : Q (.bool (decide (a = k))) hp) : CW C A Is (compareOp .Eq (.int a t) (.int k u)) Q hp := fun K s R => eq_int ⟨.bool (decide (a = k)), hp, by show _ = _; congr 1, R, h⟩
theorem CW.neI {a k : Int} {t u : Tok} {Q : AV → AHeap → Prop} (h : Q (.bool (!decide (a = k))) hp) : CW C A Is (compareOp .NotEq (.int a t) (.int k u)) Q hp := fun K s R => ne_int ⟨.bool (!decide (a = k)), hp, by show _ = _; congr 1, R, h⟩
theorem CW.ltI {a k : Int} {t u : Tok} {Q : AV → AHeap → Prop} (h : Q (.bool (decide (a < k))) hp) : CW C A Is (compareOp .Lt (.int a t) (.int k u)) Q hp := fun K s R => lt_int ⟨.bool _, hp, rfl, R, h⟩
theorem CW.geI {a k : Int} {t u : Tok} {Q : AV → AHeap → Prop} (h : Q (.bool (decide (k ≤ a))) hp) : CW C A Is (compareOp .GtE (.int a t) (.int k u)) Q hp := fun K s R => ge_int ⟨.bool _, hp, rfl, R, h⟩

theorem Rel.keeps {s : Shared} (R : Rel C K b env vs hp s) {h' : Heap} (hk : ∀ a o, s.heap.get? a = some o → h'.get? a = some o) (tk : Nat) : Rel C K b env vs hp { s with heap := h', toks := tk } := by
  obtain ⟨m, ⟨o, es, ep, ho, r⟩, q⟩ := R.loc
  have hb : C.h₀.objs.size ≤ h'.objs.size := Nat.le_of_lt (Nat.lt_of_le_of_lt R.hi (Heap.lt_size (hk _ _ ho)))
  exact ⟨⟨R.h.base, fun a o e => hk a o (R.h.keepB a o e), fun a o e => let ⟨o', ho, k⟩ := R.h.keep a o e; ⟨o', hk a o' ho, k⟩, fun a ao e => let ⟨k, o, ho, r⟩ := R.h.objs a ao e; ⟨k, o, hk a o ho, r⟩, R.h.gens, R.h.drawn, R.h.os, hb, R.h.low, R.h.frs⟩, R.hi, R.own,
    ⟨m, ⟨o, es, ep, hk _ _ ho, r⟩, q⟩, fun x c k e => let ⟨o, ov, ho, r⟩ := R.cel x c k e; ⟨o, ov, hk _ _ ho, r⟩, R.frm⟩
theorem AW.maxI {a k : Int} {t u : Tok} {Q : AV → Vars → AHeap → Prop} (hh : A.handled = none) (h : Q (.int (max a k)) vs hp) : AW C A b env Is (call (.builtin "max") [.int a t, .int k u]) Q vs hp := fun K s R =>
  max_two_ints hh fun h' tk hk => ⟨.int (max a k), vs, hp, by
    by_cases q : k > a
    · rw [if_pos q]; exact ⟨u, by rw [Int.max_eq_right (by omega)]⟩
    · rw [if_neg q]; exact ⟨t, by rw [Int.max_eq_left (by omega)]⟩, R.keeps hk tk, h⟩
theorem AW.minI {a k : Int} {t u : Tok} {Q : AV → Vars → AHeap → Prop} (hh : A.handled = none) (h : Q (.int (min a k)) vs hp) : AW C A b env Is (call (.builtin "min") [.int a t, .int k u]) Q vs hp := fun K s R =>
  min_two_ints hh fun h' tk hk => ⟨.int (min a k), vs, hp, by
    by_cases q : k < a
    · rw [if_pos q]; exact ⟨u, by rw [Int.min_eq_right (by omega)]⟩
    · rw [if_neg q]; exact ⟨t, by rw [Int.min_eq_left (by omega)]⟩, R.keeps hk tk, h⟩

/-! None -/
noncomputable def isNoneA : AV → Bool
  | .none => true
  | _ => false
theorem none_is {a : AV} {v : Value} (i : Is a v) (p : plainA a = true) : (v == Value.none) = isNoneA a := by
  cases a with
  | none => cases i; rfl
  | bool c => cases i; rfl
  | int n => obtain ⟨t, rfl⟩ := i; rfl
  | ref x => cases i; rfl
  | raw x => cases p
theorem CW.isNone {a : AV} {v : Value} {Q : AV → AHeap → Prop} (i : Is a v) (p : plainA a = true) (h : Q (.bool (isNoneA a)) hp) : CW C A Is (compareOp .Is v .none) Q hp := fun K s R =>
  is_none_gen ⟨.bool (isNoneA a), hp, by rw [none_is i p]; rfl, R, h⟩
theorem CW.isNotNone {a : AV} {v : Value} {Q : AV → AHeap → Prop} (i : Is a v) (p : plainA a = true) (h : Q (.bool (!isNoneA a)) hp) : CW C A Is (compareOp .IsNot v .none) Q hp := fun K s R =>
  isnot_none_gen ⟨.bool (!isNoneA a), hp, by rw [none_is i p]; rfl, R, h⟩
theorem CW.truthyNone {Q : Bool → AHeap → Prop} (h : Q false hp) : CW C A IsB (truthy .none) Q hp := fun K s R => by
  show wpAny _ _ (Pure.pure false) _ _ _
  exact wpAny_pure ⟨false, hp, rfl, R, h⟩

/-! dicts of ints -/
noncomputable def getA (kvs : List (Int × AV)) (k : Int) : Option AV := (kvs.find? fun p => p.1 = k).map (·.2)
noncomputable def putD (kvs : List (Int × AV)) (k : Int) (a : AV) : List (Int × AV) :=
  if kvs.any (fun p => p.1 = k) then kvs.map (fun p => if p.1 = k then (p.1, a) else p) else kvs ++ [(k, a)]
noncomputable def delA (kvs : List (Int × AV)) (k : Int) : List (Int × AV) := kvs.filter fun p => decide (p.1 ≠ k)

theorem IsP.get {kvs : List (Int × AV)} {us : List (Int × Value)} (h : IsP kvs us) (k : Int) : (getA kvs k = none → valueAt us k = none) ∧ ∀ a, getA kvs k = some a → ∃ v, valueAt us k = some v ∧ Is a v := by
  unfold getA valueAt
  induction h with
  | nil => exact ⟨fun _ => rfl, fun a e => by cases e⟩
  | @cons p q ps qs r _ ih =>
    rw [List.find?_cons, List.find?_cons, ← r.1]
    by_cases hk : p.1 = k
    · simp only [hk, decide_true]
      refine ⟨fun e => (by cases e), fun a e => ?_⟩
      cases e; exact ⟨_, rfl, r.2⟩
    · simp only [hk, decide_false]
      exact ih
theorem IsP.any {kvs : List (Int × AV)} {us : List (Int × Value)} (h : IsP kvs us) (k : Int) : (us.any fun p => decide (p.1 = k)) = kvs.any fun p => decide (p.1 = k) := by
  induction h with
  | nil => rfl
  | @cons p q ps qs r _ ih => rw [List.any_cons, List.any_cons, ih, r.1]
theorem IsP.put {kvs : List (Int × AV)} {us : List (Int × Value)} (h : IsP kvs us) (k : Int) {a : AV} {v : Value} (i : Is a v) : IsP (putD kvs k a) (stored us k v) := by
  unfold putD stored
  rw [h.any k]
  split
  · rename_i hq; clear hq
    induction h with
    | nil => exact .nil
    | @cons p q ps qs r _ ih =>
      rw [List.map_cons, List.map_cons, ← r.1]
      refine .cons ?_ ih
      by_cases hk : p.1 = k
      · rw [if_pos hk, if_pos hk]; exact ⟨rfl, i⟩
      · rw [if_neg hk, if_neg hk]; exact r
  · exact F2.append h (.cons ⟨rfl, i⟩ .nil)
theorem IsP.del {kvs : List (Int × AV)} {us : List (Int × Value)} (h : IsP kvs us) (k : Int) : IsP (delA kvs k) (without us k) := by
  unfold delA without
  induction h with
  | nil => exact .nil
  | @cons p q ps qs r _ ih =>
    rw [List.filter_cons, List.filter_cons, ← r.1]
    split
    · exact .cons r ih
    · exact ih

theorem RelH.putDict {s : Shared} (R : RelH C K hp s) {d : Addr} {ao : AObj} {kvs' : List (Int × AV)} {us' : List (Int × Value)} (h : hp d = some ao) {h' : Heap} (hs : Heap.SameBut d s.heap h') (hd : h'.DictOf (intKind C.prog C.w) d us') (j : IsP kvs' us') (tk : Nat) :
    ∃ ep, RelH C K (hp.put d (.dict kvs' ep)) { s with heap := h', toks := tk } := by
  obtain ⟨o, es, ep, ho, r⟩ := hd
  exact ⟨ep, R.change (ao' := .dict kvs' ep) h ho ⟨us', j, es, r⟩ hs.extBut (Nat.le_of_eq hs.1.symm) tk⟩

theorem CW.inDict {d : Addr} {k : Int} {t : Tok} {kvs : List (Int × AV)} {ep : Nat} {Q : AV → AHeap → Prop} (hd : hp d = some (.dict kvs ep)) (h : Q (.bool (getA kvs k).isSome) hp) : CW C A Is (compareOp .In (.int k t) (.ref d)) Q hp := fun K s R => by
  obtain ⟨us, j, hD, lo⟩ := R.dict hd
  refine wpAny_in_of (knd := intKind C.prog C.w) (k := k) (intKind_is _ _ _ _) lo hD.dictOf.mapOf ⟨.bool (getA kvs k).isSome, hp, ?_, R.toks _, h⟩
  show Value.bool _ = Value.bool _
  congr 1
  cases e : getA kvs k with
  | none => rw [(j.get k).1 e]; rfl
  | some a => obtain ⟨v, hv, _⟩ := (j.get k).2 a e; rw [hv]; rfl
theorem CW.notInDict {d : Addr} {k : Int} {t : Tok} {kvs : List (Int × AV)} {ep : Nat} {Q : AV → AHeap → Prop} (hd : hp d = some (.dict kvs ep)) (h : Q (.bool (!(getA kvs k).isSome)) hp) : CW C A Is (compareOp .NotIn (.int k t) (.ref d)) Q hp := fun K s R => by
  obtain ⟨us, j, hD, lo⟩ := R.dict hd
  refine wpAny_notIn_of (knd := intKind C.prog C.w) (k := k) (intKind_is _ _ _ _) lo hD.dictOf.mapOf ⟨.bool (!(getA kvs k).isSome), hp, ?_, R.toks _, h⟩
  show Value.bool _ = Value.bool _
  congr 1
  cases e : getA kvs k with
  | none => rw [(j.get k).1 e]; rfl
  | some a => obtain ⟨v, hv, _⟩ := (j.get k).2 a e; rw [hv]; rfl
theorem CW.subDict {value slice : Expr} {d : Addr} {k : Int} {t : Tok} {kvs : List (Int × AV)} {ep : Nat} {a : AV} {Q : AV → AHeap → Prop} (hd : hp d = some (.dict kvs ep)) (e : getA kvs k = some a) (h : Q a hp)
    (hs : subscripted slice false (.ref d) (.int k t) = operate [.ref d, .int k t] (getItem (.ref d) (.int k t)) := by with_unfolding_all rfl) : CW C A Is (subscriptTail value slice (.ref d) (.int k t)) Q hp := fun K s R => by
  obtain ⟨us, j, hD, lo⟩ := R.dict hd
  obtain ⟨v, hv, i⟩ := (j.get k).2 a e
  exact tail_any hD.dictOf.typeIs slot_dict_getitem.lookup (wpAny_getItem_of (knd := intKind C.prog C.w) (intKind_is _ _ _ _) hD.dictOf.mapOf hv ⟨a, hp, i, R.toks _, h⟩) hs
theorem CW.setDict {d : Addr} {k : Int} {t : Tok} {v : Value} {kvs : List (Int × AV)} {ep : Nat} {a : AV} {Q : Unit → AHeap → Prop} (hd : hp d = some (.dict kvs ep)) (hz : kvs.length < 100000) (i : Is a v)
    (h : ∀ ep', Q () (hp.put d (.dict (putD kvs k a) ep'))) : CW C A IsU (setItem (.ref d) (.int k t) v) Q hp := fun K s R => by
  obtain ⟨us, j, hD, lo⟩ := R.dict hd
  refine wpAny_setItem_pairs (knd := intKind C.prog C.w) (k := k) (intKind_is _ _ _ _) hD.dictOf (fun h' hd' hs => ?_) (by rw [F2.length j]; exact small_size hz)
  obtain ⟨ep', R'⟩ := R.putDict hd hs hd' (j.put k i) (s.toks + 1)
  exact ⟨(), _, trivial, R', h ep'⟩
theorem CW.getDict {d : Addr} {k : Int} {t : Tok} {kvs : List (Int × AV)} {ep : Nat} {Q : AV → AHeap → Prop} (hd : hp d = some (.dict kvs ep)) (h : Q ((getA kvs k).getD .none) hp) : CW C A Is (call (.builtin "dict.get") [.ref d, .int k t]) Q hp := fun K s R => by
  obtain ⟨us, j, hD, lo⟩ := R.dict hd
  refine call_meetsIn F.slot_dict_get hD.dictOf.typeIs F.entry_dict_get (F.args_dict_get_2 _ _) (meets_dict_get (intKind C.prog C.w) d (intKind_is _ _ _ _) lo) ⟨_, hD.dictOf.mapOf, (getA kvs k).getD .none, hp, ?_, R.toks _, h⟩
  cases e : getA kvs k with
  | none => rw [(j.get k).1 e]; rfl
  | some a => obtain ⟨v, hv, i⟩ := (j.get k).2 a e; rw [hv]; exact i
theorem CW.delDict {d : Addr} {k : Int} {t : Tok} {kvs : List (Int × AV)} {ep : Nat} {Q : Unit → AHeap → Prop} (hd : hp d = some (.dict kvs ep)) (hz : kvs.length < 100000) (e : (getA kvs k).isSome = true)
    (h : ∀ ep', Q () (hp.put d (.dict (delA kvs k) ep'))) : CW C A IsU (delItem (.ref d) (.int k t)) Q hp := fun K s R => by
  obtain ⟨us, j, hD, lo⟩ := R.dict hd
  obtain ⟨a, e⟩ := Option.isSome_iff_exists.mp e
  obtain ⟨v, hv, i⟩ := (j.get k).2 a e
  refine wpAny_delItem_slot hD.dictOf.typeIs (by decide) F.slot_dict_delitem (call_meetsIn F.slot_dict_delitem hD.dictOf.typeIs F.entry_dict_delitem (F.args_dict_delitem_2 _ _) (meets_dict_delitem_pairs (intKind C.prog C.w) d (intKind_is _ _ _ _))
    ⟨us, hD.dictOf, by rw [F2.length j]; exact small_size hz, by rw [hv]; rfl, fun h' hm hs => ?_⟩)
  obtain ⟨ep', R'⟩ := R.putDict hd hs hm (j.del k) (s.toks + 1)
  exact ⟨(), _, trivial, R', h ep'⟩

/-! sets of ints -/
theorem RelH.set {s : Shared} (R : RelH C K hp s) {d : Addr} {ks : List Int} (h : hp d = some (.set ks)) : s.heap.SetOf (intKind C.prog C.w) d (fun k => decide (k ∈ ks)) ks.length := by
  obtain ⟨_, o, ho, es, ep, t, r⟩ := R.objs d _ h; exact ⟨o, es, ep, t, ho, r⟩
theorem CW.newSet {Q : AV → AHeap → Prop} (h : ∀ r, hp r = none → Q (.ref r) (hp.put r (.set []))) : CW C A Is (call (.type "set") []) Q hp := fun K s R =>
  call_set_0 fun led => ⟨.ref _, _, rfl, R.alloc (ao := .set []) ⟨#[], 0, _, ⟨rfl, rfl, rfl⟩, rfl, fun e he => by simp at he, fun k => by simp, by decide, by rfl, rfl⟩ rfl, h _ R.fresh⟩
theorem CW.inSet {d : Addr} {k : Int} {t : Tok} {ks : List Int} {Q : AV → AHeap → Prop} (hd : hp d = some (.set ks)) (h : Q (.bool (decide (k ∈ ks))) hp) : CW C A Is (compareOp .In (.int k t) (.ref d)) Q hp := fun K s R =>
  wpAny_inSet_of (knd := intKind C.prog C.w) (k := k) (intKind_is _ _ _ _) rfl (R.set hd) ⟨.bool _, hp, rfl, R.toks _, h⟩
theorem CW.addSet {d : Addr} {k : Int} {t : Tok} {ks : List Int} {Q : AV → AHeap → Prop} (hd : hp d = some (.set ks)) (hk : k ∉ ks) (hz : ks.length + 1 < scanBound) (h : Q .none (hp.put d (.set (k :: ks)))) :
    CW C A Is (call (.builtin "set.add") [.ref d, .int k t]) Q hp := fun K s R => by
  refine call_set_add (knd := intKind C.prog C.w) (k := k) (intKind_is _ _ _ _) rfl (R.set hd) hz fun h' hs hS => ⟨.none, _, rfl, ?_, h⟩
  obtain ⟨o, es, ep, t, ho, r1, r2, r3, r4, r5, r6, r7⟩ := hS
  refine R.change (ao' := .set (k :: ks)) hd ho ⟨es, ep, t, r1, r2, r3, fun x => ?_, r5, r6, ?_⟩ hs.extBut (Nat.le_of_eq hs.1.symm) (s.toks + 1)
  · rw [← r4 x]; simp [List.mem_cons, or_comm]
  · rw [r7]; simp [hk]
end

/-- room for calls to come -/
structure Room (k : Nat) (A : Around) : Prop where
  h : A.handled = none
  d : A.depth + k < recursionLimit
  u : A.units + 10 * k + 200 < cLine
theorem Room.deeper {k : Nat} {A : Around} (r : Room (k + 1) A) (env : Env) : Room k (A.deeper env) :=
  ⟨r.h, by have := r.d; show A.depth + 1 + k < _; omega, by have := r.u; show A.units + 3 + 10 * k + 200 < _; omega⟩
theorem Room.make {k : Nat} {A : Around} (r : Room (k + 1) A) (c : Addr) (vals : List Value) : Room k (A.under (.builtin "type.__call__" ⟨.ref c :: vals, []⟩)) :=
  ⟨r.h, by have := r.d; show A.depth + 1 + k < _; omega, by have := r.u; show A.units + 1 + 10 * k + 200 < _; omega⟩
theorem Room.room {k : Nat} {A : Around} (r : Room k A) : A.depth < recursionLimit := by have := r.d; omega
theorem Room.less {k j : Nat} {A : Around} (r : Room k A) (h : j ≤ k) : Room j A := ⟨r.h, by have := r.d; omega, by have := r.u; omega⟩

theorem intsAre {ns : List Int} {us : List Value} (h : IsL (ns.map .int) us) : IntsAre us ns := by
  induction ns generalizing us with
  | nil => cases h; exact .nil
  | cons n ns ih =>
    cases h with
    | cons r h => obtain ⟨t, rfl⟩ := r; exact .cons n t (ih h)
theorem ofInts {ns : List Int} {us : List Value} (h : IntsAre us ns) : IsL (ns.map .int) us := by
  induction h with
  | nil => exact .nil
  | cons n t _ ih => exact .cons ⟨t, rfl⟩ ih

section
variable {C : Cx} {A : Around} {b : Str → Bool} {env : Env} {vs : Vars} {hp : AHeap} {K : Addr → Option Obj} {names : List (Str × NameKind)} {k : Nat}

theorem CW.eqInts {l l' : Addr} {ns ms : List Int} {Q : AV → AHeap → Prop} (r : Room k A) (hl : hp l = some (.list (ns.map .int))) (hl' : hp l' = some (.list (ms.map .int))) (h : Q (.bool (decide (ns = ms))) hp) :
    CW C A Is (compareOp .Eq (.ref l) (.ref l')) Q hp := fun K s R => by
  obtain ⟨us, n, j, ho⟩ := R.list hl
  obtain ⟨us', n', j', ho'⟩ := R.list hl'
  exact eq_intsK (vs := us) (us := us') ⟨_, ho, rfl, n, rfl⟩ (intsAre j) ⟨_, ho', rfl, n', rfl⟩ (intsAre j') (by have := r.u; omega) ⟨.bool _, hp, rfl, R, h⟩
theorem CW.neInts {l l' : Addr} {ns ms : List Int} {Q : AV → AHeap → Prop} (r : Room k A) (hl : hp l = some (.list (ns.map .int))) (hl' : hp l' = some (.list (ms.map .int))) (h : Q (.bool (!decide (ns = ms))) hp) :
    CW C A Is (compareOp .NotEq (.ref l) (.ref l')) Q hp := fun K s R => by
  obtain ⟨us, n, j, ho⟩ := R.list hl
  obtain ⟨us', n', j', ho'⟩ := R.list hl'
  exact ne_intsK (vs := us) (us := us') ⟨_, ho, rfl, n, rfl⟩ (intsAre j) ⟨_, ho', rfl, n', rfl⟩ (intsAre j') (by have := r.u; omega) ⟨.bool _, hp, rfl, R, h⟩
theorem CW.neEmpty {l l' : Addr} {as : List AV} {Q : AV → AHeap → Prop} (r : Room k A) (hl : hp l = some (.list as)) (hl' : hp l' = some (.list [])) (h : Q (.bool (!as.isEmpty)) hp) :
    CW C A Is (compareOp .NotEq (.ref l) (.ref l')) Q hp := fun K s R => by
  obtain ⟨us, n, j, ho⟩ := R.list hl
  obtain ⟨us', n', j', ho'⟩ := R.list hl'
  cases j'
  have hu := r.u
  cases j with
  | nil => exact SeqAt.RcNeAt.lists (items := #[]) (items2 := #[]) (e := fun _ => true) ⟨_, ho, rfl, n, rfl⟩ ⟨_, ho', rfl, n', rfl⟩ rfl (by omega) (fun j h1 => by simp at h1) _ _ _ _ ⟨.bool _, hp, rfl, R, h⟩
  | @cons a u as us r j => exact SeqAt.RcNeAt.lists_lengths (items := (u :: us).toArray) (items2 := #[]) ⟨_, ho, rfl, n, rfl⟩ ⟨_, ho', rfl, n', rfl⟩ (by simp) (by omega) _ _ _ _ ⟨.bool _, hp, rfl, R, h⟩
theorem CW.eqEmpty {l l' : Addr} {as : List AV} {Q : AV → AHeap → Prop} (r : Room k A) (hl : hp l = some (.list as)) (hl' : hp l' = some (.list [])) (h : Q (.bool as.isEmpty) hp) :
    CW C A Is (compareOp .Eq (.ref l) (.ref l')) Q hp := fun K s R => by
  obtain ⟨us, n, j, ho⟩ := R.list hl
  obtain ⟨us', n', j', ho'⟩ := R.list hl'
  cases j'
  have hu := r.u
  cases j with
  | nil => exact SeqAt.eq_listAt (items := #[]) (items2 := #[]) (e := fun _ => true) ⟨_, ho, rfl, n, rfl⟩ ⟨_, ho', rfl, n', rfl⟩ rfl (by omega) (fun j h1 => by simp at h1) ⟨.bool _, hp, rfl, R, h⟩
  | @cons a u as us r j => exact SeqAt.eq_list_lengthsAt (items := (u :: us).toArray) (items2 := #[]) ⟨_, ho, rfl, n, rfl⟩ ⟨_, ho', rfl, n', rfl⟩ (by simp) (by omega) ⟨.bool _, hp, rfl, R, h⟩

/-! slices -/
theorem IsPart_int {a : Int} {v : Value} (h : Is (.int a) v) : IsPart v (some a) := by obtain ⟨t, rfl⟩ := h; exact .int a t

theorem AW.sliceTail {value : Expr} {lower upper : Option Expr} {p : Pos} {l : Addr} {as cs : List AV} {lo hi : Option Int} {vl vu : Value} {Q : AV → Vars → AHeap → Prop}
    (hl : hp l = some (.list as)) (hz : as.length < 100000) (pl : IsPart vl lo) (pu : IsPart vu hi) (hc : ∀ us : List Value, IsL as us → ∃ ws, slicePick us.toArray lo hi none = ws.toArray ∧ IsL cs ws)
    (h : ∀ r, hp r = none → Q (.ref r) vs (hp.put r (.list cs))) {s : Shared} (R : Rel C K b env vs hp s) :
    wpAny (model C.prog C.w) A (subscriptTail value (.Slice lower upper none p) (.ref l) (.ref s.heap.objs.size)) (fun v s' => ∃ a vs' hp', Is a v ∧ Rel C K b env vs' hp' s' ∧ Q a vs' hp') (fun _ _ => False)
      { s with heap := s.heap.push { cls := .type "slice", data := .fields #[vl, vu, .none] } } := by
  obtain ⟨us, n, j, ho⟩ := R.h.list hl
  have hL : (s.heap.push { cls := .type "slice", data := .fields #[vl, vu, .none] }).IsList l us.toArray := ⟨_, Heap.get?_push_of_some _ ho, rfl, n, rfl⟩
  obtain ⟨ws, hw, hcs⟩ := hc us j
  have R1 := R.grow (s' := { s with heap := s.heap.push { cls := .type "slice", data := .fields #[vl, vu, .none] } }) (fun a o e => Heap.get?_push_of_some _ e) rfl rfl rfl (by show _ ≤ (s.heap.push _).objs.size; rw [Heap.size_push]; exact Nat.le_succ _)
  refine tail_any (s := { s with heap := s.heap.push { cls := .type "slice", data := .fields #[vl, vu, .none] } }) (ops := [.ref s.heap.objs.size, .ref l]) hL.typeIs slot_list_getitem.lookup
    (wpAny_getItem_list_slice hL (Heap.IsSliceOf.new ..) pl pu .none (by simp) ⟨.ref _, vs, _, rfl, R1.alloc (ao := .list cs) ⟨ws, 0, hcs, by rw [hw]⟩ rfl, h _ ?_⟩ (by rw [List.size_toArray, j.len]; exact small_size hz)) rfl
  exact R1.h.fresh

theorem AW.Subscript {value slice : Expr} {pos : Pos} {Q : AV → Vars → AHeap → Prop}
    (h : AW C A b env Is (eval value env) (fun x vs₁ hp₁ => AW C A b env Is (eval slice env) (fun y vs₂ hp₂ => ∀ o i, Is x o → Is y i → AW C A b env Is (subscriptTail value slice o i) Q vs₂ hp₂) vs₁ hp₁) vs hp) :
    AW C A b env Is (eval (.Subscript value slice pos) env) Q vs hp := fun K s R =>
  Subscript_ (AW.elim (h) R (fun o s₁ x vs₁ hp₁ i R₁ q => AW.elim (q) R₁ (fun u s₂ y vs₂ hp₂ j R₂ q₂ => q₂ o u i j K s₂ R₂)))

/-- xs[:e] -/
theorem AW.sliceTo {value e : Expr} {p pos : Pos} {Q : AV → Vars → AHeap → Prop}
    (h : AW C A b env Is (eval value env) (fun x vs₁ hp₁ => AW C A b env Is (eval e env) (fun y vs₂ hp₂ => ∃ l as n, x = .ref l ∧ hp₂ l = some (.list as) ∧ as.length < 100000 ∧ y = .int (n : Nat) ∧ ∀ r, hp₂ r = none → Q (.ref r) vs₂ (hp₂.put r (.list (as.take n)))) vs₁ hp₁) vs hp) :
    AW C A b env Is (eval (.Subscript value (.Slice none (some e) none p) pos) env) Q vs hp := fun K s R => by
  refine Subscript_ (AW.elim (h) R (fun o s₁ x vs₁ hp₁ i R₁ q => ?_))
  refine wpAny_Slice ?_
  try rw [evalPart_none]
  refine wpAny_pure (AW.elim (q) R₁ (fun u s₂ y vs₂ hp₂ j R₂ ⟨l, as, n, e1, hl, hz, e2, q₂⟩ => ?_))
  subst e1; subst e2; cases i
  try rw [evalPart_none]
  exact wpAny_pure (AW.sliceTail hl hz .none (IsPart_int j) (fun us hu => ⟨us.take n, by rw [slicePick_upto'], F2.take hu n⟩) q₂ R₂)
/-- xs[n:] -/
theorem AW.sliceFrom {value e : Expr} {p pos : Pos} {Q : AV → Vars → AHeap → Prop}
    (h : AW C A b env Is (eval value env) (fun x vs₁ hp₁ => AW C A b env Is (eval e env) (fun y vs₂ hp₂ => ∃ l as n, x = .ref l ∧ hp₂ l = some (.list as) ∧ as.length < 100000 ∧ y = .int (n : Nat) ∧ ∀ r, hp₂ r = none → Q (.ref r) vs₂ (hp₂.put r (.list (as.drop n)))) vs₁ hp₁) vs hp) :
    AW C A b env Is (eval (.Subscript value (.Slice (some e) none none p) pos) env) Q vs hp := fun K s R => by
  refine Subscript_ (AW.elim (h) R (fun o s₁ x vs₁ hp₁ i R₁ q => ?_))
  refine wpAny_Slice (AW.elim (q) R₁ (fun u s₂ y vs₂ hp₂ j R₂ ⟨l, as, n, e1, hl, hz, e2, q₂⟩ => ?_))
  subst e1; subst e2; cases i
  try rw [evalPart_none]
  refine wpAny_pure ?_
  try rw [evalPart_none]
  exact wpAny_pure (AW.sliceTail hl hz (IsPart_int j) .none (fun us hu => ⟨us.drop n, by rw [slicePick_from'], F2.drop hu n⟩) q₂ R₂)
/-- xs[-1:] -/
theorem AW.sliceLast {value e : Expr} {p pos : Pos} {Q : AV → Vars → AHeap → Prop}
    (h : AW C A b env Is (eval value env) (fun x vs₁ hp₁ => AW C A b env Is (eval e env) (fun y vs₂ hp₂ => ∃ l as, x = .ref l ∧ hp₂ l = some (.list as) ∧ as.length < 100000 ∧ y = .int (-1) ∧ ∀ r, hp₂ r = none → Q (.ref r) vs₂ (hp₂.put r (.list (as.drop (as.length - 1))))) vs₁ hp₁) vs hp) :
    AW C A b env Is (eval (.Subscript value (.Slice (some e) none none p) pos) env) Q vs hp := fun K s R => by
  refine Subscript_ (AW.elim (h) R (fun o s₁ x vs₁ hp₁ i R₁ q => ?_))
  refine wpAny_Slice (AW.elim (q) R₁ (fun u s₂ y vs₂ hp₂ j R₂ ⟨l, as, e1, hl, hz, e2, q₂⟩ => ?_))
  subst e1; subst e2; cases i
  try rw [evalPart_none]
  refine wpAny_pure ?_
  try rw [evalPart_none]
  refine wpAny_pure (AW.sliceTail hl hz (IsPart_int j) .none (fun us hu => ⟨us.drop (as.length - 1), ?_, F2.drop hu _⟩) q₂ R₂)
  have := slicePick_last us.toArray 1 (Nat.le_refl _)
  rw [show (-((1 : Nat) : Int)) = -1 from rfl] at this
  rw [this, List.size_toArray, hu.len]

/-! sorted, sum, list(range), tuple(list) -/
theorem AW.sortedList {l : Addr} {ns : List Int} {Q : AV → Vars → AHeap → Prop} (hl : hp l = some (.list (ns.map .int))) (hz : ns.length < 64)
    (h : ∀ (r : Addr) (ms : List Int), hp r = none → ms.Perm ns → ms.Pairwise (· ≤ ·) → Q (.ref r) vs (hp.put r (.list (ms.map .int)))) : AW C A b env Is (call (.builtin "sorted") [.ref l]) Q vs hp := fun K s R => by
  obtain ⟨us, n, j, ho⟩ := R.h.list hl
  refine sorted_ints (vs := us) ⟨_, ho, rfl, n, rfl⟩ (intsAre j) (by rw [j.len, List.length_map]; exact hz) fun out ms a1 a2 a3 => ?_
  obtain ⟨e, he⟩ := sortedAll_at s.heap us out
  have hp1 : hp (s.heap.objs.size + 1) = none := by
    cases q : hp (s.heap.objs.size + 1) with
    | none => rfl
    | some ao => exact absurd (R.h.lt q) (Nat.not_lt.mpr (Nat.le_succ _))
  have R1 := R.keeps (h' := sortedAll s.heap us out) (fun a o q => sortedAll_old q) s.toks
  have ap := R.apart (it := s.heap.objs.size + 1) (Nat.le_succ _)
  have R2 := R1.freeze he hp1 ap
  exact ⟨.ref _, vs, _, rfl, R2.unfreeze (ao := .list (ms.map .int)) ap (fun es ep h => by cases h) ⟨out.toList, e, ofInts a1, by simp⟩ (Nat.le_succ_of_le R.h.big), h _ ms hp1 a2 a3⟩
end

theorem sum_preSum : ∀ (ns : List Int) (f : Nat → Int), (∀ i, i < ns.length → f i = ns.getD i 0) → preSum f ns.length = ns.sum := by
  have key : ∀ (ns : List Int) (n : Nat) (f : Nat → Int), n ≤ ns.length → (∀ i, i < ns.length → f i = ns.getD i 0) → preSum f n = (ns.take n).sum := by
    intro ns n
    induction n with
    | zero => intro f _ _; simp [preSum]
    | succ n ih =>
      intro f hn hf
      have hlt : n < ns.length := hn
      rw [preSum, ih f (Nat.le_of_lt hlt) hf, hf n hlt, List.take_add_one, List.getElem?_eq_getElem hlt, List.sum_append]
      simp [hlt]
  intro ns f hf
  rw [key ns ns.length f (Nat.le_refl _) hf, List.take_length]

theorem meets_bool_new_list (l : Addr) (items : Array Value) (n : Nat) (hfit : (items.size : Int) < 2 ^ 63) : Meets (Builtin.«bool.__new__» ⟨[.type "bool", .ref l], []⟩)
    (fun _ R s => s.heap.get? l = some { cls := .type "list", dict := none, data := .seq items n, slots := #[] } ∧ R (.ok (.ret (.bool (!items.isEmpty)))) { s with toks := s.toks + 1 + 1 }) :=
  Meets.of_wp fun prog w A R s ⟨hl, hs⟩ => by
    obtain ⟨hp, g, d, tk, os⟩ := s
    have f1 := F.conv_sub_bool
    have hL : ({ heap := hp, gens := g, drawn := d, toks := tk, os := os } : Shared).heap.IsList l items := ⟨_, hl, rfl, n, rfl⟩
    repeat (any_goals (first | assumption | (refine wpAny_truthy_list hL hfit ?_) | wp_step))
    all_goals first | exact ⟨_, rfl, hs⟩ | skip

section
variable {C : Cx} {A : Around} {b : Str → Bool} {env : Env} {vs : Vars} {hp : AHeap} {K : Addr → Option Obj} {names : List (Str × NameKind)} {k : Nat}

theorem CW.boolList {l : Addr} {as : List AV} {Q : AV → AHeap → Prop} (hl : hp l = some (.list as)) (hz : as.length < 100000) (h : Q (.bool (!as.isEmpty)) hp) : CW C A Is (call (.type "bool") [.ref l]) Q hp := fun K s R => by
  obtain ⟨us, n, j, ho⟩ := R.list hl
  refine call_bool_1 (meets_bool_new_list l us.toArray n (by rw [List.size_toArray, j.len]; omega)) ⟨ho, rfl, .bool (!as.isEmpty), hp, ?_, R.toks _, h⟩
  show Value.bool (!us.toArray.isEmpty) = _
  cases j <;> rfl

theorem AW.sumList {l : Addr} {ns : List Int} {Q : AV → Vars → AHeap → Prop} (r : Room k A) (hl : hp l = some (.list (ns.map .int))) (h : Q (.int ns.sum) vs hp) : AW C A b env Is (call (.builtin "sum") [.ref l]) Q vs hp := fun K s R => by
  obtain ⟨us, n, j, ho⟩ := R.h.list hl
  have hlen : us.length = ns.length := by rw [j.len, List.length_map]
  have hL : s.heap.IsList l us.toArray := ⟨_, ho, rfl, n, rfl⟩
  have hne : l ≠ s.heap.objs.size := fun e => Nat.lt_irrefl _ (e ▸ Heap.lt_size ho)
  refine call_sum_walkG (wpAny_pyIter_list hL ⟨s.heap.objs.size, _, _, _, _, _, fun i => ns.getD i 0, rfl, Walks.list (A := A.in1) r.h _ l hne us.toArray, ⟨⟨_, Heap.get?_push_size _ rfl, rfl, rfl⟩, hL.push _⟩, ?_, fun i v hv => ?_, fun h' tk t' hk => ?_⟩)
  · intro b hb
    show _ < (s.heap.push _).objs.size
    rw [Heap.size_push]
    rcases List.mem_cons.mp hb with e | hb
    · rw [e]; exact Nat.lt_succ_self _
    · rw [List.mem_singleton.mp hb]; exact Nat.lt_succ_of_lt (Heap.lt_size ho)
  · rw [List.getElem?_toArray] at hv
    obtain ⟨a, ha, hi⟩ := F2.get' j hv
    rw [List.getElem?_map] at ha
    cases e : ns[i]? with
    | none => rw [e] at ha; cases ha
    | some m =>
      rw [e] at ha; cases ha
      obtain ⟨t, rfl⟩ := hi
      exact ⟨t, by simp [List.getD, e]⟩
  · refine ⟨.int ns.sum, vs, hp, ⟨t', ?_⟩, R.keeps (fun a o e => hk a o ?_ (Heap.get?_push_of_some _ e)) tk, h⟩
    · rw [List.size_toArray, hlen, sum_preSum ns _ fun i _ => rfl]
    · intro q; rw [List.mem_singleton.mp q] at e; exact Nat.lt_irrefl _ (Heap.lt_size e)

theorem AW.tupleOfList {l : Addr} {as : List AV} {Q : AV → Vars → AHeap → Prop} (hl : hp l = some (.list as)) (hz : as.length < 100000) (h : ∀ r, hp r = none → Q (.ref r) vs (hp.put r (.tup as))) :
    AW C A b env Is (call (.type "tuple") [.ref l]) Q vs hp := fun K s R => by
  obtain ⟨us, n, j, ho⟩ := R.h.list hl
  refine call_tuple_list (items := us.toArray) ⟨_, ho, rfl, n, rfl⟩ (fun h' hk => ?_) (by rw [List.size_toArray, j.len]; exact small_size hz)
  have R1 := R.keeps hk s.toks
  exact ⟨.ref _, vs, _, rfl, R1.alloc (ao := .tup as) ⟨us, j, rfl⟩ rfl, h _ R1.h.fresh⟩

theorem AW.listOfRange {r : Addr} {o : Obj} {a e : Int} {n : Nat} {Q : AV → Vars → AHeap → Prop} (rm : Room k A) (hr : hp r = some (.raw o)) (ho : IsRangeO a e o) (ha : -(2 ^ 62) ≤ a) (ha' : a < 2 ^ 62) (he : -(2 ^ 62) ≤ e) (he' : e < 2 ^ 62)
    (hn : (n : Int) = if a < e then e - a else 0) (hz : n < 100000) (h : ∀ x, hp x = none → Q (.ref x) vs (hp.put x (.list (rangeI a n)))) : AW C A b env Is (call (.type "list") [.ref r]) Q vs hp := fun K s R => by
  obtain ⟨t, u, v, rfl⟩ := ho
  obtain ⟨_, o', ho, rfl⟩ := R.h.objs r _ hr
  refine call_list_range rm.h ho (small_one ha ha' he he') (by rw [rangeSize_one, ← hn]) (by omega) fun h' tk acc c hk hS hacc => ?_
  have R1 := R.keeps hk tk
  have ap := R.apart (it := s.heap.objs.size) (Nat.le_refl _)
  have R2 := R1.freeze hS R.h.fresh ap
  refine ⟨.ref _, vs, _, rfl, R2.unfreeze (ao := .list (rangeI a n)) ap (fun es ep h => by cases h) ⟨acc.toList, c, ?_, by simp⟩ R.h.big, h _ R.h.fresh⟩
  have hl : acc.toList.length = n := by rw [Array.length_toList]; exact hacc.1
  have key : ∀ (us : List Value) (m : Nat), us.length = m → (∀ (i : Nat) (v : Value), us[i]? = some v → ∃ t, v = Value.int (a + (i : Int) * 1) t) → IsL (rangeI a m) us := by
    intro us m hm hv
    unfold rangeI
    have : ∀ (us : List Value) (j : Nat), (∀ (i : Nat) (v : Value), us[i]? = some v → ∃ t, v = Value.int (a + ((j + i : Nat) : Int)) t) → IsL ((List.range' j us.length).map fun (i : Nat) => AV.int (a + (i : Int))) us := by
      intro us
      induction us with
      | nil => intro j _; exact .nil
      | cons u us ih =>
        intro j hv
        rw [List.length_cons, List.range'_succ, List.map_cons]
        refine .cons ?_ (ih (j + 1) fun i v e => ?_)
        · obtain ⟨t, ht⟩ := hv 0 u rfl; exact ⟨t, by simpa using ht⟩
        · obtain ⟨t, ht⟩ := hv (i + 1) v (by simpa using e)
          exact ⟨t, by rw [ht]; congr 2; omega⟩
    have := this us 0 (fun i v e => by obtain ⟨t, ht⟩ := hv i v e; exact ⟨t, by rw [ht]; congr 2 <;> omega⟩)
    rw [hm, ← List.range_eq_range'] at this
    exact this
  exact key acc.toList n hl fun i v e => hacc.2 i v (by rw [← Array.getElem?_toList]; exact e)

theorem AW.assignPair {x y : Str} {p1 p2 pos : Pos} {q : Nat} {t : Addr} {a a' : AV} {Q : Unit → Vars → AHeap → Prop} (r : Room k A) (ht : hp t = some (.tup [a, a']))
    (h : ∀ u v, Is a u → Is a' v → AW C A b env IsU (storeName env x u) (fun _ vs₁ hp₁ => AW C A b env IsU (storeName env y v) Q vs₁ hp₁) vs hp) :
    AW C A b env IsU (assign (.Tuple [.Name x p1, .Name y p2] q pos) env (.ref t)) Q vs hp := fun K s R => by
  obtain ⟨us, j, ho⟩ := R.h.tup ht
  cases j with
  | cons i j => cases j with
    | cons i' j => cases j with
      | nil =>
        rename_i u v
        refine wpAny_assign_Tuple (items := #[u, v]) r.h ⟨_, ho, rfl, _, rfl⟩ rfl rfl fun h' hx => ?_
        have R1 := R.keeps (h' := h') (fun a o e => hx a o (fun q => by subst q; exact Nat.lt_irrefl _ (Heap.lt_size e)) e) s.toks
        refine wpAny_assignInOrder_more (wpAny_mono ((AW.assignName (h u v i i')) K _ R1) (fun _ s₁ ⟨_, vs₁, hp₁, _, R₁, q₁⟩ => ?_) fun _ _ x => x)
        refine wpAny_assignInOrder_more (wpAny_mono ((AW.assignName q₁) K _ R₁) (fun _ s₂ z => ?_) fun _ _ x => x)
        exact wpAny_assignInOrder_none z
end
theorem slot_li_ga : Slot "list_iterator" "__getattribute__" "object.__getattribute__" :=
  .of (owner := "object") (n := "__getattribute__") (by rw [typeLookup_type, builtinLookup_eq_fast]; kernel_rfl) (by decide +kernel) (by decide +kernel) (by decide +kernel)
    (by first | exact .inl (by decide +kernel) | exact .inr (by decide +kernel)) (by rw [isSubtype_type]; kernel_rfl)
theorem li_gh : typeLookup (.type "list_iterator") "__getattr__" = Pure.pure none := by rw [typeLookup_type, builtinLookup_eq_fast]; kernel_rfl
theorem type_li_next : typeOf (.builtin "list_iterator.__next__") = Pure.pure (.type "wrapper_descriptor") := by show builtinType _ = _; rw [builtinType_eq_fast]; kernel_rfl
theorem wd_get : typeLookup (.type "wrapper_descriptor") "__get__" = Pure.pure (some (.builtin "wrapper_descriptor.__get__")) := by rw [typeLookup_type, builtinLookup_eq_fast]; kernel_rfl
theorem wd_set : typeLookup (.type "wrapper_descriptor") "__set__" = Pure.pure none := by rw [typeLookup_type, builtinLookup_eq_fast]; kernel_rfl
theorem wd_del : typeLookup (.type "wrapper_descriptor") "__delete__" = Pure.pure none := by rw [typeLookup_type, builtinLookup_eq_fast]; kernel_rfl
theorem slot_wd_get : Slot "wrapper_descriptor" "__get__" "wrapper_descriptor.__get__" :=
  .of (owner := "wrapper_descriptor") (n := "__get__") (by rw [typeLookup_type, builtinLookup_eq_fast]; kernel_rfl) (by decide +kernel) (by decide +kernel) (by decide +kernel)
    (by first | exact .inl (by decide +kernel) | exact .inr (by decide +kernel)) (by rw [isSubtype_type]; kernel_rfl)
theorem entry_wd_get : entryFor table "wrapper_descriptor.__get__" = some Builtin.«wrapper_descriptor.__get__» := entryFor_of_tree (by kernel_rfl)
theorem args_wd_get (a b c : Value) : argsOk "wrapper_descriptor.__get__" ⟨[a, b, c], []⟩ := by unfold argsOk; kernel_rfl
theorem sub_li : isSubtype (.type "list_iterator") (.type "list_iterator") = Pure.pure true := by rw [isSubtype_type]; kernel_rfl
theorem li_next_lookup : typeLookup (.type "list_iterator") "__next__" = Pure.pure (some (.builtin "list_iterator.__next__")) := slot_listiter_next.lookup
theorem li_meets (it l : Addr) (i : Nat) (u : Tok) : Meets (Builtin.«object.__getattribute__» ⟨[.ref it, .str "__next__" u], []⟩)
    (fun A R s => s.heap.get? it = some { cls := .type "list_iterator", dict := none, data := .fields #[.ref l, .int i 0], slots := #[] } ∧
      R (.ok (.ret (.ref s.heap.objs.size))) { s with heap := s.heap.push { cls := .type "method-wrapper", data := .fields #[.builtin "list_iterator.__next__", .ref it] } }) :=
  Meets.of_wp fun prog w A R s hs => by
    obtain ⟨hp, g, d, tk, os⟩ := s
    obtain ⟨hx, hs⟩ := hs
    have hT : (⟨hp, g, d, tk, os⟩ : Shared).TypeIs (.ref it) "list_iterator" := ⟨_, hx, rfl⟩
    have f1 := li_next_lookup
    have f2 := type_li_next
    have f3 := wd_get
    have f4 := wd_set
    have f5 := wd_del
    unfold Builtin.«object.__getattribute__»
    repeat (any_goals (first | assumption | wp_step))
    have hT2 : (⟨hp, g, d, tk, os⟩ : Shared).TypeIs (.builtin "list_iterator.__next__") "wrapper_descriptor" := f2
    refine codeAny_call_builtin slot_wd_get.plain entry_wd_get (slot_wd_get.check _ _ _ _ _ _ _ _ hT2 (args_wd_get _ _ _) ?_)
    have f6 := sub_li
    unfold Builtin.«wrapper_descriptor.__get__»
    repeat (any_goals (first | assumption | wp_step))
    rw [show ".".intercalate ("list_iterator.__next__".cutAt '.').dropLast = "list_iterator" from by decide +kernel, sub_li]
    refine wpAny_pure ?_
    rw [if_neg (by simp)]
    refine wpAny_pure (wpAny_bind (wpAny_newObj_type ?_))
    exact wpAny_pure (wpAny_pure ⟨_, rfl, hs⟩)

noncomputable abbrev liO (l : Addr) (i : Nat) : Obj := { cls := .type "list_iterator", data := .fields #[.ref l, .int i 0] }
noncomputable abbrev mwO (it : Addr) : Obj := { cls := .type "method-wrapper", data := .fields #[.builtin "list_iterator.__next__", .ref it] }

theorem args_oga (a b : Value) : argsOk "object.__getattribute__" ⟨[a, b], []⟩ := by unfold argsOk; kernel_rfl
theorem entry_oga : entryFor table "object.__getattribute__" = some Builtin.«object.__getattribute__» := entryFor_of_tree (by kernel_rfl)

theorem getAttr_next {prog : Program} {w : World} {A : Around} {E : Value → Shared → Prop} {s : Shared} {it l : Addr} {i : Nat} {Q : Value → Shared → Prop} (hx : s.heap.get? it = some (liO l i))
    (h : Q (.ref s.heap.objs.size) { s with heap := s.heap.push (mwO it), toks := s.toks + 1 }) : wpAny (model prog w) A (getAttr (.ref it) "__next__" true) Q E s := by
  obtain ⟨hp, g, d, tk, os⟩ := s
  have hT : ∀ tk', (⟨hp, g, d, tk', os⟩ : Shared).TypeIs (.ref it) "list_iterator" := fun _ => ⟨_, hx, rfl⟩
  have f3 := slot_li_ga.lookup
  have f4 := slot_li_ga.bind (.ref it)
  have f5 := li_gh
  unfold getAttr getAttrBy
  repeat (any_goals (first | assumption | exact hT _ | ((with_reducible show wpAny _ _ (call (Value.builtin "object.__getattribute__") _ _) _ _ _); refine call_meets slot_li_ga (hT _) entry_oga (args_oga _ _) (li_meets it l i _) ⟨hx, ?_⟩) | wp_step))
  exact wpAny_pure h

theorem call_mw {prog : Program} {w : World} {A : Around} {s : Shared} {mw it : Addr} {R : Result → Shared → Prop} (ho : s.heap.get? mw = some (mwO it))
    (h : wpAny (model prog w) A.in1 (Builtin.«list_iterator.__next__» ⟨[.ref it], []⟩) (fun fin s' => match fin with | .done f => R (.ok f) s' | .again c' => c'.quiet = true ∧ codeAny (model prog w) A c' R s') (fun e s' => R (.error e) s') s) :
    codeAny (model prog w) A (.call (.ref mw) ⟨[], []⟩) R s := by
  refine codeAny_of_tree ?_
  show wpAny _ A.in1 (callAny (.ref mw) ⟨[], []⟩) _ _ s
  simp only [callAny]
  refine wpAny_bind (wpAny_load ho ?_)
  simp only [show (Value.type "method-wrapper" == Value.type "method" || Value.type "method-wrapper" == Value.type "builtin_function_or_method" || Value.type "method-wrapper" == Value.type "method-wrapper") = true by decide, if_true]
  show wpAny _ _ (if _ then _ else _) _ _ _
  rw [if_pos (by decide)]
  refine wpAny_bind (wpAny_of_eq (a := ()) (by first | kernel_rfl | rfl) ?_)
  refine wpAny_bind (wpAny_pure (wpAny_pure ⟨Code.quiet_builtin _ (by decide +kernel), codeAny_builtin entry_listiter_next ?_⟩))
  rw [Around.under_plainId slot_listiter_next.plain]
  exact h

theorem call_mw_item {prog : Program} {w : World} {A : Around} {s : Shared} {mw it l : Addr} {i : Nat} {us : List Value} {n : Nat} {x : Value} {R : Result → Shared → Prop} (ho : s.heap.get? mw = some (mwO it)) (hit : s.heap.get? it = some (liO l i))
    (hl : s.heap.get? l = some { cls := .type "list", data := .seq us.toArray n }) (hx : us[i]? = some x)
    (h : ∀ h', h'.get? it = some (liO l (i + 1)) → Heap.SameBut it s.heap h' → R (.ok (.ret x)) { s with heap := h' }) : codeAny (model prog w) A (.call (.ref mw) ⟨[], []⟩) R s := by
  refine call_mw ho ?_
  show wpAny _ _ (field (.ref it) 0 >>= _) _ _ s
  refine wpAny_bind (wpAny_field hit rfl (x := .ref l) rfl ?_)
  show wpAny _ _ (if (Value.ref l == Value.none) = true then _ else _) _ _ s
  rw [if_neg (show ¬ ((Value.ref l == Value.none) = true) from Bool.false_ne_true)]
  show wpAny _ _ (field (.ref it) 1 >>= _) _ _ s
  refine wpAny_bind (wpAny_field hit rfl (x := .int i 0) rfl ?_)
  show wpAny _ _ (seqItems? (.ref l) >>= _) _ _ s
  refine wpAny_bind (wpAny_seqItems hl rfl ?_)
  have hx' : us.toArray[i]? = some x := by rw [List.getElem?_toArray]; exact hx
  simp only [Int.toNat_natCast, hx']
  refine wpAny_bind (wpAny_setField hit rfl (by simp) (wpAny_pure (h _ ?_ (Heap.SameBut.update ..))))
  have := Heap.get?_update_self (Obj.mapFields (·.setIfInBounds 1 (rawInt ((i : Int) + 1)))) hit rfl
  rw [this]; rfl

theorem call_mw_stop {prog : Program} {w : World} {A : Around} {s : Shared} {mw it l : Addr} {i : Nat} {us : List Value} {n : Nat} {R : Result → Shared → Prop} (hh : A.handled = none) (ho : s.heap.get? mw = some (mwO it)) (hit : s.heap.get? it = some (liO l i))
    (hl : s.heap.get? l = some { cls := .type "list", data := .seq us.toArray n }) (hx : us[i]? = none)
    (h : ∀ h' e a, Heap.ExtBut it s.heap h' → s.heap.objs.size ≤ e → h'.get? e = some { cls := .type "StopIteration", data := .fields #[a, .none, .none, .none, .bool false, .none] } → R (.error (.ref e)) { s with heap := h' }) :
    codeAny (model prog w) A (.call (.ref mw) ⟨[], []⟩) R s := by
  refine call_mw ho ?_
  show wpAny _ _ (field (.ref it) 0 >>= _) _ _ s
  refine wpAny_bind (wpAny_field hit rfl (x := .ref l) rfl ?_)
  show wpAny _ _ (if (Value.ref l == Value.none) = true then _ else _) _ _ s
  rw [if_neg (show ¬ ((Value.ref l == Value.none) = true) from Bool.false_ne_true)]
  show wpAny _ _ (field (.ref it) 1 >>= _) _ _ s
  refine wpAny_bind (wpAny_field hit rfl (x := .int i 0) rfl ?_)
  show wpAny _ _ (seqItems? (.ref l) >>= _) _ _ s
  refine wpAny_bind (wpAny_seqItems hl rfl ?_)
  have hx' : us.toArray[i]? = none := by rw [List.getElem?_toArray]; exact hx
  simp only [Int.toNat_natCast, hx']
  refine wpAny_bind (wpAny_rule (wpAny_bind (wpAny_setField hit rfl (by simp) ?_)))
  show wpAny _ _ (newExc (.type "StopIteration") [] >>= _) _ _ _
  refine wpAny_bind ?_
  simp only [newExc, newTuple]
  refine wpAny_bind (wpAny_newObj_type ?_ (by size_fits))
  refine wpAny_bind (m := firstArgMember _ _) (wpAny_of_eq (a := Value.none) (by first | rfl | (simp only [firstArgMember]; rfl)) ?_)
  refine wpAny_newObj_type ?_ (by size_fits)
  simp only [raiseNew]
  refine wpAny_bind (wpAny_handled ?_)
  rw [show A.in1.handled = none from hh]
  refine wpAny_bind (wpAny_pure (wpAny_throw ?_))
  exact h _ _ _ (((Heap.SameBut.update ..).extBut.push _).push _) (by simp only [Heap.size_push, Heap.size_update]; exact Nat.le_succ _) (Heap.get?_push_size _ rfl)

noncomputable abbrev stopO (a tb : Value) : Obj := { cls := .type "StopIteration", data := .fields #[a, tb, .none, .none, .bool false, .none] }

theorem note_many {M : Model} {A : Around} {E : Value → Shared → Prop} {s : Shared} {base : Heap} {env : Env} {outer : List Env} {L e : Addr} {a : Value} {Q : Unit → Shared → Prop}
    (hfr : A.frames = some (env :: outer)) (hl : s.heap.FunFrames base (env :: outer)) (hf : env.frame = some L) (he : s.heap.get? e = some (stopO a .none))
    (h : ∀ h' T oT ts, (∀ b o, b ≠ e → b ∉ (env :: outer).filterMap (·.frame) → s.heap.get? b = some o → h'.get? b = some o) → (∀ b o, b ≠ e → s.heap.get? b = some o → ∃ sl, h'.get? b = some { o with slots := sl }) →
      s.heap.objs.size ≤ T → h'.get? e = some (stopO a (.ref T)) → h'.get? T = some oT → oT.data = .fields ts → 3 < ts.size → T ≠ e → Q () { s with heap := h' }) :
    wpAny M A (noteFrame (.ref e) env) Q E s := by
  have hene : e ∉ (env :: outer).filterMap (·.frame) := fun hm => by
    obtain ⟨_, o, ho, hnf⟩ := hl.mem hm
    rw [he] at ho; injection ho with ho; subst ho; exact hnf _ rfl
  unfold noteFrame
  simp only [hf]
  refine wpAny_bind (wpAny_field he rfl (x := .none) rfl ?_)
  rw [if_neg (by decide)]
  refine wpAny_bind (wpAny_frameOf_fun hfr hl hf fun h₁ hs₁ => ?_)
  refine wpAny_bind (wpAny_entryPlaceOf fun pl hpl => ?_)
  unfold EntryCells.newEntry newFields
  refine wpAny_bind (wpAny_newObj_type ?_ (hpl.sizeOk5 _ _ _ _ _))
  have he₁ : h₁.get? e = some (stopO a .none) := (hs₁.2.1 e hene).trans he
  have he₂ := Heap.get?_push_of_some (h := h₁) { cls := .type "traceback", dict := none, data := .fields ([Value.none, .ref L, .none, rawInt L, .none] ++ (if pl.isEmpty then List.replicate 6 Value.none else pl)).toArray } he₁
  refine wpAny_setField he₂ rfl (by simp) ?_
  have hTe : h₁.objs.size ≠ e := Nat.ne_of_gt (Heap.lt_size he₁)
  refine h _ h₁.objs.size { cls := .type "traceback", dict := none, data := .fields ([Value.none, .ref L, .none, rawInt L, .none] ++ (if pl.isEmpty then List.replicate 6 Value.none else pl)).toArray } _ (fun b o hbe hbF hb => ?_) (fun b o hbe hb => ?_) (by rw [hs₁.1]; exact Nat.le_refl _) ?_ ?_ rfl ?_ hTe
  · rw [Heap.get?_update_other _ _ (Ne.symm hbe)]
    exact Heap.get?_push_of_some _ ((hs₁.2.1 b hbF).trans hb)
  · obtain ⟨sl, hsl⟩ := hs₁.2.2 b o hb
    refine ⟨sl, ?_⟩
    rw [Heap.get?_update_other _ _ (Ne.symm hbe)]
    exact Heap.get?_push_of_some _ hsl
  · have := Heap.get?_update_self (Obj.mapFields (·.setIfInBounds 1 (Value.ref h₁.objs.size))) he₂ rfl
    rw [this]; rfl
  · rw [Heap.get?_update_other _ _ (Ne.symm hTe)]
    exact Heap.get?_push_size h₁ rfl
  · simp

section
variable {C : Cx} {A : Around} {b : Str → Bool} {env : Env} {vs : Vars} {hp : AHeap} {K : Addr → Option Obj} {names : List (Str × NameKind)} {k : Nat}

theorem Rel.apartHp {s : Shared} (R : Rel C K b env vs hp s) {d : Addr} {ao : AObj} (e : hp d = some ao) : Apart C K b env d := by
  obtain ⟨kd, _⟩ := R.h.objs d ao e
  refine ⟨R.h.frs, R.frm, kd, ?_, fun q => ?_, fun x c hx hc hbx q => ?_⟩
  · cases q : C.h₀.get? d with
    | none => rfl
    | some o' => have := R.h.base d o' q; rw [kd] at this; cases this
  · rw [(R.own d q).2] at e; cases e
  · obtain ⟨o', ov, ho', hd, hv, hk⟩ := R.cel x c hx hc
    obtain ⟨o₀, h1, _⟩ := hk hbx; rw [q, kd] at h1; cases h1

theorem Rel.funFrames {s : Shared} (R : Rel C K b env vs hp s) (hL : env.frame = some env.locals) : s.heap.FunFrames C.h₀ (env :: C.fs) := by
  refine ⟨R.frm.1, ?_, ?_⟩
  · obtain ⟨m, ⟨o, es, ep, ho, hd, _⟩, _⟩ := R.loc
    refine ⟨env.locals, o, hL, ?_, ho, fun vs => by rw [hd]; exact fun h => by cases h⟩
    cases q : C.h₀.get? env.locals with
    | none => rfl
    | some o' => exact absurd (Heap.lt_size q) (Nat.not_lt.mpr R.hi)
  · have := R.h.frs
    generalize C.fs = l at this
    induction l with
    | nil => trivial
    | cons e r ih =>
      obtain ⟨h1, L, o, es, ep, h2, h3, h4, h5⟩ := this e (.head _)
      obtain ⟨o', ho', hk⟩ := R.h.keep L o h3
      exact ⟨h1, ⟨L, o', h2, h5, ho', fun vs => by rw [hk.data, h4]; exact fun h => by cases h⟩, ih fun e he => this e (.tail _ he)⟩

theorem Rel.note {s : Shared} (R : Rel C K b env vs hp s) (hL : env.frame = some env.locals) {e : Addr} (ap : Apart C K b env e) (hpe : hp e = none) {h' : Heap}
    (h1 : ∀ b o, b ≠ e → b ∉ (env :: C.fs).filterMap (·.frame) → s.heap.get? b = some o → h'.get? b = some o) (h2 : ∀ b o, b ≠ e → s.heap.get? b = some o → ∃ sl, h'.get? b = some { o with slots := sl }) :
    Rel C K b env vs hp { s with heap := h' } := by
  have hF : ∀ a, a ∈ (env :: C.fs).filterMap (·.frame) → a = env.locals ∨ ∃ o es ep, K a = some o ∧ o.data = .dict es ep ∧ C.h₀.get? a = none := fun a ha => by
    obtain ⟨x, hx, hxa⟩ := List.mem_filterMap.mp ha
    rcases List.mem_cons.mp hx with rfl | hx
    · rw [hL] at hxa; cases hxa; exact .inl rfl
    · obtain ⟨_, L, o, es, ep, h2, h3, h4, h5⟩ := R.h.frs x hx
      rw [h2] at hxa; cases hxa; exact .inr ⟨o, es, ep, h3, h4, h5⟩
  have L0 := R.own _ (.inl rfl)
  have Lne : env.locals ≠ e := fun q => ap.own (.inl q.symm)
  obtain ⟨m, ⟨oL, es, ep, hoL, hdL, rL⟩, hm⟩ := R.loc
  obtain ⟨slL, hoL'⟩ := h2 _ _ Lne hoL
  refine ⟨⟨R.h.base, fun a o q => ?_, fun a o q => ?_, fun a ao q => ?_, R.h.gens, R.h.drawn, R.h.os, Nat.le_of_lt (Nat.lt_of_le_of_lt R.hi (Heap.lt_size hoL')), R.h.low, R.h.frs⟩, R.hi, R.own, ⟨m, ⟨_, es, ep, hoL', hdL, rL⟩, hm⟩, fun x c hx hc => ?_, R.frm⟩
  · refine h1 a o (fun h => by rw [h, ap.base] at q; cases q) (fun ha => ?_) (R.h.keepB a o q)
    rcases hF a ha with h | ⟨_, _, _, _, _, h⟩
    · have := R.h.base a o q; rw [h, L0.1] at this; cases this
    · rw [h] at q; cases q
  · obtain ⟨o', ho', hk⟩ := R.h.keep a o q
    have ane : a ≠ e := fun h => by rw [h, ap.k] at q; cases q
    by_cases ha : a ∈ (env :: C.fs).filterMap (·.frame)
    · rcases hF a ha with h | ⟨o₁, es', ep', h3, h4, _⟩
      · rw [h, L0.1] at q; cases q
      · rw [q] at h3; cases h3
        obtain ⟨sl, hs⟩ := h2 a o' ane ho'
        exact ⟨_, hs, hk.trans (.inr ⟨⟨es', ep', hk.data.trans h4⟩, sl, rfl⟩)⟩
    · exact ⟨o', h1 a o' ane ha ho', hk⟩
  · obtain ⟨kk, o', ho', r⟩ := R.h.objs a ao q
    refine ⟨kk, o', h1 a o' (fun h => by rw [h, hpe] at q; cases q) (fun ha => ?_) ho', r⟩
    rcases hF a ha with h | ⟨_, _, _, h, _⟩
    · rw [h, L0.2] at q; cases q
    · rw [kk] at h; cases h
  · obtain ⟨o, ov, ho, hd, hv, hb⟩ := R.cel x c hx hc
    have cne : c ≠ e := fun q => by
      cases hbx : b x with
      | false => exact ap.own (.inr ⟨x, hx, hbx, by rw [← q]; exact hc⟩)
      | true => exact ap.bor x c hx hc hbx q
    obtain ⟨sl, hs⟩ := h2 c o cne ho
    exact ⟨_, ov, hs, hd, hv, hb⟩

theorem CW.nextItem {mw it l : Addr} {i : Nat} {as : List AV} {a : AV} {Q : AV → AHeap → Prop} (hm : hp mw = some (.raw (mwO it))) (hi : hp it = some (.liter l i)) (hl : hp l = some (.list as)) (hx : as[i]? = some a)
    (h : Q a (hp.put it (.liter l (i + 1)))) : CW C A Is (call (.ref mw) []) Q hp := fun K s R => by
  obtain ⟨_, om, hom, rfl⟩ := R.objs mw _ hm
  obtain ⟨_, oi, hoi, rfl⟩ := R.objs it _ hi
  obtain ⟨us, n, j, hol⟩ := R.list hl
  obtain ⟨v, hv, iv⟩ := F2.get j hx
  refine wpAny_call (call_mw_item hom hoi hol hv fun h' hit hs => ⟨a, _, iv, ?_, h⟩)
  exact R.change (ao' := .liter l (i + 1)) hi hit rfl hs.extBut (Nat.le_of_eq hs.1.symm) s.toks

theorem Keeps.mw {mw it : Addr} (hm : hp mw = some (.raw (mwO it))) : Keeps C hp (.ref mw) := fun K s R => by
  obtain ⟨_, om, hom, rfl⟩ := R.objs mw _ hm
  exact ⟨.machine, .inr (.inl rfl), (Looks.ld (part := none) hom).andThen .now⟩

theorem AW.iterNext {it l : Addr} {i : Nat} {Q : AV → Vars → AHeap → Prop} (hi : hp it = some (.liter l i)) (h : ∀ mw, hp mw = none → Q (.ref mw) vs (hp.put mw (.raw (mwO it)))) :
    AW C A b env Is (getAttr (.ref it) "__next__" true) Q vs hp := fun K s R => by
  obtain ⟨_, oi, hoi, rfl⟩ := R.h.objs it _ hi
  exact getAttr_next hoi ⟨.ref _, vs, _, rfl, (R.alloc (ao := .raw (mwO it)) rfl rfl).toks _, h _ R.h.fresh⟩
theorem CW.iter {l : Addr} {as : List AV} {Q : AV → AHeap → Prop} (hl : hp l = some (.list as)) (h : ∀ it, hp it = none → Q (.ref it) (hp.put it (.liter l 0))) : CW C A Is (call (.builtin "iter") [.ref l]) Q hp := fun K s R => by
  obtain ⟨us, n, j, hol⟩ := R.list hl
  refine Calls.call_function_entry (by decide +kernel) (by decide +kernel) kdk_entry_iter (kdk_args_iter _) ?_
  unfold Builtin.«iter»
  refine wpAny_bind (m := someArgs "iter" 1 2 _) (wpAny_of_eq (a := [Value.ref l]) (by first | rfl | kernel_rfl!) ?_)
  show wpAny _ _ (pyIter (.ref l) >>= _) _ _ _
  refine wpAny_bind (wpAny_pyIter_list (items := us.toArray) ⟨_, hol, rfl, n, rfl⟩ ?_)
  exact wpAny_pure ⟨_, rfl, .ref _, _, rfl, R.alloc (ao := .liter l 0) rfl rfl, h _ R.fresh⟩
end

theorem stop_exc : isSubtype (.type "StopIteration") (.type "BaseException") = Pure.pure true := by rw [isSubtype_type]; kernel_rfl
theorem stop_nt : isSubtype (.type ((Manifest.find? "StopIteration").elim "type" fun x => x.metatype)) (.type "tuple") = Pure.pure false := by kernel_rfl
theorem stop_sub : isSubtype (.type "StopIteration") (.type "StopIteration") = Pure.pure true := by rw [isSubtype_type]; kernel_rfl
theorem stop_boot : bootBuiltins (Str.ofString "StopIteration") = some (.type "StopIteration") := by kernel_rfl

section
variable {C : Cx} {A : Around} {b : Str → Bool} {env : Env} {vs : Vars} {hp : AHeap} {K : Addr → Option Obj} {names : List (Str × NameKind)} {k : Nat}

theorem flight_none {M : Model} {A : Around} {E : Value → Shared → Prop} {s : Shared} {e T : Addr} {a : Value} {oT : Obj} {ts : Array Value} {Q : Unit → Shared → Prop} (he : s.heap.get? e = some (stopO a (.ref T))) (hT : s.heap.get? T = some oT) (hd : oT.data = .fields ts) (h3 : 3 < ts.size)
    (h : ∀ h' oT' ts', Heap.SameBut T s.heap h' → h'.get? T = some oT' → oT'.data = .fields ts' → 3 < ts'.size → Q () { s with heap := h' }) : wpAny M A (setFlight (.ref e) none) Q E s := by
  unfold setFlight
  refine wpAny_bind (wpAny_field he rfl (x := .ref T) rfl ?_)
  rw [if_pos (by simp)]
  refine wpAny_setField hT hd h3 (h _ _ _ (Heap.SameBut.update ..) (Heap.get?_update_self _ hT (Obj.isFreed_of_fields (Obj.data_mapFields hd _))) (Obj.data_mapFields hd _) (by simp [h3]))

inductive TryAt (C : Cx) (A : Around) (b : Str → Bool) (env : Env) (x : Str) (suite : List Stmt) (Q : AFlow → Vars → AHeap → Prop) (fa : AV) (vs₁ : Vars) (hp₁ : AHeap) : Prop where
  | mk (mw it l : Addr) (i : Nat) (as : List AV) (e1 : fa = .ref mw) (hm : hp₁ mw = some (.raw (mwO it))) (hi : hp₁ it = some (.liter l i)) (hl : hp₁ l = some (.list as))
    (hitem : ∀ a, as[i]? = some a → Q .brk (vs₁.put x a) (hp₁.put it (.liter l (i + 1))))
    (hstop : as[i]? = none → ∀ e, AW C (A.mark (some (.ref e))) b env FlowIs (execs suite env) Q vs₁ (hp₁.del it)) : TryAt C A b env x suite Q fa vs₁ hp₁

/-- try: x = f(); break; except StopIteration: suite -/
theorem AW.tryNext {x : Str} {f : Expr} {b₀ : Stmt} {suite : List Stmt} {p1 p2 p3 p4 p5 p6 p7 : Pos} {Q : AFlow → Vars → AHeap → Prop} (E : EnvIs names b env) (r : Room k A) (hA : A.frames = some (env :: C.fs)) (hL : env.frame = some env.locals)
    (hx : names.lookup x = some .local) (hS : names.lookup (Str.ofString "StopIteration") = some .globalImplicit) (hSK : nsIn C.K mainGlobals (Str.ofString "StopIteration") = some none)
    (h : AW C A b env Is (eval f env) (fun fa vs₁ hp₁ => TryAt C A b env x (b₀ :: suite) Q fa vs₁ hp₁) vs hp)
    (he : eval (.Call f [] [] p2) env = (do callWith p2 (← eval f env) [] (backTo p2 (starEach [] env)) (backToKw p2 (keywordEach [] env))) := by rfl)
    (hs : swapsWith (.Call f [] [] p2) (some (.Name x p1)) p3.line env = Pure.pure false := by rfl) :
    AW C A b env FlowIs (exec (.Try [.Assign [.Name x p1] (.Call f [] [] p2) p3, .Break p4] [.ExceptHandler (some (.Name (Str.ofString "StopIteration") p5)) none (b₀ :: suite) p6] [] [] p7) env) Q vs hp := fun K s R => by
  refine wpAny_Try_except (wpAny_execs_cons (wpAny_Assign_Name (Call_ (AW.elim h R fun fv s₁ fa vs₁ hp₁ i₁ R₁ q => ?_) he) hs))
  obtain ⟨mw, it, l, i, as, e1, hm, hi, hl, hitem, hstop⟩ := q
  subst e1; cases i₁
  refine callWith_of (P := fun g => g = s₁.heap) rfl (fun g e => e ▸ Keeps.mw hm K s₁ R₁.h) (evalArgs_nil3 ⟨rfl, ?_⟩)
  cases e : as[i]? with
  | some a =>
    have cw := AW.ofCW (Q := fun y vs' hp' => y = a ∧ vs' = vs₁ ∧ hp' = hp₁.put it (.liter l (i + 1))) (A := A) E.ok (CW.nextItem hm hi hl e ⟨rfl, rfl, rfl⟩) K s₁ R₁
    refine wpAny_mono (wp_noE cw) (fun v s₂ ⟨y, vs₂, hp₂, iv, R₂, e1, e2, e3⟩ => ?_) fun _ _ x => x
    subst e1; subst e2; subst e3
    have st : AW C A b env IsU (storeName env x v) (fun _ vs₃ hp₃ => Q .brk vs₃ hp₃) vs₂ (hp₁.put it (.liter l (i + 1))) := AW.sLocal E hx iv (hitem _ e)
    refine wpAny_mono (wp_noE (st K s₂ R₂)) (fun _ s₃ ⟨_, vs₃, hp₃, _, R₃, q⟩ => ?_) fun _ _ x => x
    exact wpAny_execs_cons (wpAny_Break ⟨.brk, vs₃, hp₃, rfl, R₃, q⟩)
  | none =>
    obtain ⟨_, om, hom, rfl⟩ := R₁.h.objs mw _ hm
    obtain ⟨_, oi, hoi, rfl⟩ := R₁.h.objs it _ hi
    obtain ⟨us, n, j, hol⟩ := R₁.h.list hl
    have hu : us[i]? = none := by rw [List.getElem?_eq_none_iff, j.len]; exact List.getElem?_eq_none_iff.mp e
    refine wpAny_call (call_mw_stop r.h hom hoi hol hu fun h₂ ex ar hext hex hexo => ?_)
    obtain ⟨oI, _, RF⟩ := R₁.refreeze hi
    have apI := R₁.apartHp hi
    have R₂ := RF.ext apI hext s₁.toks
    have apE : Apart C K b env ex := R₁.apart hex
    have hpE : (hp₁.del it) ex = none := by
      unfold AHeap.del; split
      · rfl
      · cases q : hp₁ ex with
        | none => rfl
        | some ao => exact absurd (R₁.h.lt q) (Nat.not_lt.mpr hex)
    refine note_many hA (R₂.funFrames hL) hL hexo fun h₃ T oT ts k1 k2 hT1 he3 hTo hTd hT3 hTe => ?_
    have R₃ := R₂.note hL apE hpE k1 k2
    refine flight_none (s := { s₁ with heap := h₃ }) he3 hTo hTd hT3 fun h₄ oT' ts' hs4 hT4 hT4d hT43 => ?_
    have apT : Apart C K b env T := R₂.apart hT1
    have hpT : (hp₁.del it) T = none := by
      cases q : (hp₁.del it) T with
      | none => rfl
      | some ao => exact absurd (R₂.h.lt q) (Nat.not_lt.mpr hT1)
    have R₄ : Rel C K b env vs₁ (hp₁.del it) { s₁ with heap := h₄ } := (R₃.freeze hTo hpT apT).ext apT hs4.extBut s₁.toks
    have he4 : h₄.get? ex = some (stopO ar (.ref T)) := hs4.extBut ex _ (Ne.symm hTe) he3
    have R₅ := R₄.freeze he4 hpE apE
    have apT' : Apart C (Kadd K ex (stopO ar (.ref T))) b env T := by
      refine ⟨R₅.h.frs, R₅.frm, by rw [Kadd_ne hTe]; exact apT.k, apT.base, apT.own, apT.bor⟩
    have R₆ := R₅.freeze hT4 hpT apT'
    refine wpAny_handleBy_builtin stop_exc stop_nt stop_sub ?_
    have nm : AW C (A.mark (some (.ref ex))) b env Is (eval (.Name (Str.ofString "StopIteration") p5) env) (fun a vs' hp' => a = .raw (.type "StopIteration") ∧ vs' = vs₁ ∧ hp' = hp₁.del it) vs₁ (hp₁.del it) :=
      AW.Name (AW.nBuiltin E hS hSK stop_boot (by decide) ⟨rfl, rfl, rfl⟩)
    refine wpAny_mono (wp_noE (nm _ _ R₆)) (fun c s₅ ⟨a, vs₅, hp₅, ia, R₇, e1, e2, e3⟩ => ?_) fun _ _ x => x
    subst e1; subst e2; subst e3; cases ia
    have nde : ∀ es ep, (stopO ar (.ref T)).data ≠ .dict es ep := fun es ep h => by cases h
    have hx5 : s₅.heap.get? ex = some (stopO ar (.ref T)) := by
      obtain ⟨o', h1, h2⟩ := R₇.h.keep ex (stopO ar (.ref T)) (by rw [Kadd_ne (Ne.symm hTe), Kadd_self])
      rw [h2.exact nde] at h1; exact h1
    have hT5 : s₅.heap.get? T = some oT' := by
      obtain ⟨o', h1, h2⟩ := R₇.h.keep T oT' Kadd_self
      rw [h2.exact (fun es ep h => by rw [hT4d] at h; cases h)] at h1; exact h1
    refine ⟨rfl, ⟨_, hx5, rfl⟩, ?_⟩
    rw [if_pos rfl]
    refine flight_none hx5 hT5 hT4d hT43 fun h₆ oT'' ts'' hs6 _ _ _ => ?_
    have R₈ : Rel C K b env vs₅ (hp₁.del it) { s₅ with heap := h₆ } := (R₇.ext apT' hs6.extBut s₅.toks).thaw apE
    exact wp_noE (hstop e ex K _ R₈)
end

theorem Vars.get_same {vs : Vars} {x : Str} {a : AV} : (vs.put x a) x = some a := by simp [Vars.put]
theorem Vars.get_ne {vs : Vars} {x y : Str} {a : AV} {r : Option AV} (h : (y == x) = false) (g : vs y = r) : (vs.put x a) y = r := by
  unfold Vars.put; rw [if_neg (by simpa using h)]; exact g
theorem AHeap.get_same {hp : AHeap} {a : Addr} {o : AObj} : (hp.put a o) a = some o := by simp [AHeap.put]
theorem AHeap.get_ne {hp : AHeap} {a b : Addr} {o : AObj} {r : Option AObj} (h : b ≠ a) (g : hp b = r) : (hp.put a o) b = r := by
  unfold AHeap.put; rw [if_neg h]; exact g
theorem AHeap.get_new {hp : AHeap} {a b : Addr} {o o' : AObj} (h : hp a = none) (g : hp b = some o') : (hp.put a o) b = some o' :=
  AHeap.get_ne (fun e => by rw [e, h] at g; cases g) g
theorem AHeap.ne_new {hp : AHeap} {a b : Addr} {o' : AObj} (h : hp a = none) (g : hp b = some o') : b ≠ a := fun e => by rw [e, h] at g; cases g

/-! the sorter's state -/
structure SS where
  x : Addr
  d : Addr
  n2i : Addr
  keys : List Int
  np : Int → Int
  sc : Int → List Int
  info : Int → Addr
  infod : Int → Addr
  scA : Int → Addr
  ready : Option (Addr × List Int)
  passed : Int
  finished : Int

noncomputable def upd {β : Type} (f : Int → β) (k : Int) (v : β) : Int → β := fun j => if j = k then v else f j
theorem upd_same {β : Type} {f : Int → β} {k : Int} {v : β} : upd f k v k = v := by simp [upd]
theorem upd_ne {β : Type} {f : Int → β} {k j : Int} {v : β} (h : j ≠ k) : upd f k v j = f j := by simp [upd, h]

noncomputable def readyV : Option (Addr × List Int) → AV
  | none => .none
  | some (a, _) => .ref a
noncomputable def SS.nsl (S : SS) : List (Str × AV) :=
  [(Str.ofString "_node2info", .ref S.n2i), (Str.ofString "_ready_nodes", readyV S.ready), (Str.ofString "_npassedout", .int S.passed), (Str.ofString "_nfinished", .int S.finished)]
noncomputable def SS.kvs (S : SS) : List (Int × AV) := S.keys.map fun k => (k, .ref (S.info k))
noncomputable def SS.nodeO (S : SS) (cN : Addr) (k : Int) : AObj := .slots cN (S.infod k) [some (.int k), some (.int (S.np k)), some (.ref (S.scA k))]

/-- cT, cN: the two classes -/
structure SAt (cT cN : Addr) (S : SS) (hp : AHeap) : Prop where
  inst : hp S.x = some (.inst cT S.d)
  dict : hp S.d = some (.ns S.nsl)
  n2i : ∃ ep, hp S.n2i = some (.dict S.kvs ep)
  node : ∀ k ∈ S.keys, hp (S.info k) = some (S.nodeO cN k)
  noded : ∀ k ∈ S.keys, hp (S.infod k) = some (.ns [])
  succ : ∀ k ∈ S.keys, hp (S.scA k) = some (.list ((S.sc k).map .int))
  ready : ∀ a l, S.ready = some (a, l) → hp a = some (.list (l.map .int))
  nodup : S.keys.Nodup
  infoI : ∀ k ∈ S.keys, ∀ j ∈ S.keys, S.info k = S.info j → k = j
  scI : ∀ k ∈ S.keys, ∀ j ∈ S.keys, S.scA k = S.scA j → k = j
  rdI : ∀ a l, S.ready = some (a, l) → ∀ k ∈ S.keys, S.scA k ≠ a
  infodI : ∀ k ∈ S.keys, S.infod k ≠ S.d

noncomputable def SS.foot (S : SS) (a : Addr) : Prop := a = S.x ∨ a = S.d ∨ a = S.n2i ∨ (∃ k ∈ S.keys, a = S.info k ∨ a = S.infod k ∨ a = S.scA k) ∨ ∃ l, S.ready = some (a, l)

/-- from S to S', what is not the sorter's stays -/
structure Steps (cT cN : Addr) (S : SS) (hp : AHeap) (S' : SS) (hp' : AHeap) : Prop where
  at_ : SAt cT cN S' hp'
  x : S'.x = S.x
  keep : ∀ a o, hp a = some o → ¬ S.foot a → hp' a = some o ∧ ¬ S'.foot a

section
variable {cT cN : Addr} {S S' S'' : SS} {hp hp' hp'' : AHeap}

theorem SAt.dom (h : SAt cT cN S hp) {a : Addr} (f : S.foot a) : ∃ o, hp a = some o := by
  rcases f with rfl | rfl | rfl | ⟨k, hk, rfl | rfl | rfl⟩ | ⟨l, hl⟩
  · exact ⟨_, h.inst⟩
  · exact ⟨_, h.dict⟩
  · obtain ⟨ep, e⟩ := h.n2i; exact ⟨_, e⟩
  · exact ⟨_, h.node k hk⟩
  · exact ⟨_, h.noded k hk⟩
  · exact ⟨_, h.succ k hk⟩
  · exact ⟨_, h.ready a l hl⟩
theorem SAt.notFoot (h : SAt cT cN S hp) {a : Addr} (e : hp a = none) : ¬ S.foot a := fun f => by obtain ⟨o, q⟩ := h.dom f; rw [e] at q; cases q
theorem Steps.refl (h : SAt cT cN S hp) : Steps cT cN S hp S hp := ⟨h, rfl, fun a o e n => ⟨e, n⟩⟩
theorem Steps.trans (h : Steps cT cN S hp S' hp') (h' : Steps cT cN S' hp' S'' hp'') : Steps cT cN S hp S'' hp'' :=
  ⟨h'.at_, h'.x.trans h.x, fun a o e n => let ⟨e1, n1⟩ := h.keep a o e n; h'.keep a o e1 n1⟩

/-- everything that was there is there: S stands -/
theorem SAt.of_ext (h : SAt cT cN S hp) (e : ∀ a o, S.foot a → hp a = some o → hp' a = some o) : SAt cT cN S hp' := by
  refine ⟨e _ _ (.inl rfl) h.inst, e _ _ (.inr (.inl rfl)) h.dict, ?_, fun k hk => e _ _ ?_ (h.node k hk), fun k hk => e _ _ ?_ (h.noded k hk), fun k hk => e _ _ ?_ (h.succ k hk), fun a l q => e _ _ ?_ (h.ready a l q), h.nodup, h.infoI, h.scI, h.rdI, h.infodI⟩
  · obtain ⟨ep, q⟩ := h.n2i; exact ⟨ep, e _ _ (.inr (.inr (.inl rfl))) q⟩
  · exact .inr (.inr (.inr (.inl ⟨k, hk, .inl rfl⟩)))
  · exact .inr (.inr (.inr (.inl ⟨k, hk, .inr (.inl rfl)⟩)))
  · exact .inr (.inr (.inr (.inl ⟨k, hk, .inr (.inr rfl)⟩)))
  · exact .inr (.inr (.inr (.inr ⟨l, q⟩)))
theorem Steps.fresh (h : SAt cT cN S hp) {r : Addr} {o : AObj} (e : hp r = none) : Steps cT cN S hp S (hp.put r o) :=
  ⟨h.of_ext fun a o' f q => AHeap.get_new e q, rfl, fun a o' q n => ⟨AHeap.get_new e q, n⟩⟩
/-- an object that is not the sorter's changes -/
theorem SAt.other (h : SAt cT cN S hp) {r : Addr} {o : AObj} (n : ¬ S.foot r) : SAt cT cN S (hp.put r o) :=
  h.of_ext fun a o' f q => AHeap.get_ne (fun e => n (e ▸ f)) q

theorem Steps.setNp (h : SAt cT cN S hp) {k : Int} (hk : k ∈ S.keys) (v : Int) :
    Steps cT cN S hp { S with np := upd S.np k v } (hp.put (S.info k) (.slots cN (S.infod k) [some (.int k), some (.int v), some (.ref (S.scA k))])) := by
  have ni := h.node k hk
  have ne : ∀ {a : Addr} {o : AObj}, hp a = some o → o ≠ S.nodeO cN k → a ≠ S.info k := fun e q w => by rw [w, ni] at e; cases e; exact q rfl
  have ff : ∀ a, ({ S with np := upd S.np k v } : SS).foot a ↔ S.foot a := fun a => Iff.rfl
  refine ⟨⟨AHeap.get_ne (ne h.inst (by intro q; cases q)) h.inst, AHeap.get_ne (ne h.dict (by intro q; cases q)) h.dict, ?_, fun j hj => ?_, fun j hj => AHeap.get_ne (ne (h.noded j hj) (by intro q; cases q)) (h.noded j hj),
    fun j hj => AHeap.get_ne (ne (h.succ j hj) (by intro q; cases q)) (h.succ j hj), fun a l q => AHeap.get_ne (ne (h.ready a l q) (by intro q; cases q)) (h.ready a l q), h.nodup, h.infoI, h.scI, h.rdI, h.infodI⟩, rfl,
    fun a o e n => ⟨AHeap.get_ne (fun w => n (w ▸ .inr (.inr (.inr (.inl ⟨k, hk, .inl rfl⟩))))) e, n⟩⟩
  · obtain ⟨ep, e⟩ := h.n2i; exact ⟨ep, AHeap.get_ne (ne e (by intro q; cases q)) e⟩
  · by_cases q : j = k
    · subst q
      show (hp.put (S.info j) _) (S.info j) = some (SS.nodeO _ cN j)
      rw [AHeap.get_same]; unfold SS.nodeO; simp [upd_same]
    · have : S.info j ≠ S.info k := fun w => q (h.infoI j hj k hk w)
      show (hp.put (S.info k) _) (S.info j) = some (SS.nodeO _ cN j)
      rw [AHeap.get_ne this (h.node j hj)]; unfold SS.nodeO; simp [upd_ne q]

theorem Steps.setSc (h : SAt cT cN S hp) {k : Int} (hk : k ∈ S.keys) (l : List Int) : Steps cT cN S hp { S with sc := upd S.sc k l } (hp.put (S.scA k) (.list (l.map .int))) := by
  have ni := h.succ k hk
  have ne : ∀ {a : Addr} {o : AObj}, hp a = some o → (∀ l, o ≠ .list l) → a ≠ S.scA k := fun e q w => by rw [w, ni] at e; cases e; exact q _ rfl
  refine ⟨⟨AHeap.get_ne (ne h.inst (by intro _ q; cases q)) h.inst, AHeap.get_ne (ne h.dict (by intro _ q; cases q)) h.dict, ?_, fun j hj => AHeap.get_ne (ne (h.node j hj) (by intro _ q; cases q)) (h.node j hj), fun j hj => AHeap.get_ne (ne (h.noded j hj) (by intro _ q; cases q)) (h.noded j hj),
    fun j hj => ?_, fun a l q => AHeap.get_ne (fun w => h.rdI a l q k hk w.symm) (h.ready a l q), h.nodup, h.infoI, h.scI, h.rdI, h.infodI⟩, rfl,
    fun a o e n => ⟨AHeap.get_ne (fun w => n (w ▸ .inr (.inr (.inr (.inl ⟨k, hk, .inr (.inr rfl)⟩))))) e, n⟩⟩
  · obtain ⟨ep, e⟩ := h.n2i; exact ⟨ep, AHeap.get_ne (ne e (by intro _ q; cases q)) e⟩
  · by_cases q : j = k
    · subst q
      show (hp.put (S.scA j) _) (S.scA j) = _
      rw [AHeap.get_same]; simp [upd_same]
    · have : S.scA j ≠ S.scA k := fun w => q (h.scI j hj k hk w)
      show (hp.put (S.scA k) _) (S.scA j) = _
      rw [AHeap.get_ne this (h.succ j hj)]; simp [upd_ne q]

/-- the object's own names, but for the ready list and the dict -/
theorem Steps.setNs (h : SAt cT cN S hp) (p f : Int) : Steps cT cN S hp { S with passed := p, finished := f } (hp.put S.d (.ns ({ S with passed := p, finished := f } : SS).nsl)) := by
  have ni := h.dict
  have ne : ∀ {a : Addr} {o : AObj}, hp a = some o → (∀ l, o ≠ .ns l) → a ≠ S.d := fun e q w => by rw [w, ni] at e; cases e; exact q _ rfl
  refine ⟨⟨AHeap.get_ne (ne h.inst (by intro _ q; cases q)) h.inst, AHeap.get_same, ?_, fun j hj => AHeap.get_ne (ne (h.node j hj) (by intro _ q; cases q)) (h.node j hj), fun j hj => AHeap.get_ne (h.infodI j hj) (h.noded j hj),
    fun j hj => AHeap.get_ne (ne (h.succ j hj) (by intro _ q; cases q)) (h.succ j hj), fun a l q => AHeap.get_ne (ne (h.ready a l q) (by intro _ q; cases q)) (h.ready a l q), h.nodup, h.infoI, h.scI, h.rdI, h.infodI⟩, rfl,
    fun a o e n => ⟨AHeap.get_ne (fun w => n (w ▸ .inr (.inl rfl))) e, n⟩⟩
  obtain ⟨ep, e⟩ := h.n2i; exact ⟨ep, AHeap.get_ne (ne e (by intro _ q; cases q)) e⟩

/-- the ready list's address stays -/
theorem Steps.setReady (h : SAt cT cN S hp) {a : Addr} {l : List Int} (hr : S.ready = some (a, l)) (l' : List Int) : Steps cT cN S hp { S with ready := some (a, l') } (hp.put a (.list (l'.map .int))) := by
  have ni := h.ready a l hr
  have ne : ∀ {b : Addr} {o : AObj}, hp b = some o → (∀ l, o ≠ .list l) → b ≠ a := fun e q w => by rw [w, ni] at e; cases e; exact q _ rfl
  refine ⟨⟨AHeap.get_ne (ne h.inst (by intro _ q; cases q)) h.inst, ?_, ?_, fun j hj => AHeap.get_ne (ne (h.node j hj) (by intro _ q; cases q)) (h.node j hj), fun j hj => AHeap.get_ne (ne (h.noded j hj) (by intro _ q; cases q)) (h.noded j hj),
    fun j hj => AHeap.get_ne (h.rdI a l hr j hj) (h.succ j hj), fun a' l'' q => ?_, h.nodup, h.infoI, h.scI, fun a' l'' q => ?_, h.infodI⟩, rfl,
    fun b o e n => ⟨AHeap.get_ne (fun w => n (w ▸ .inr (.inr (.inr (.inr ⟨l, hr⟩))))) e, fun f => n ?_⟩⟩
  · have := AHeap.get_ne (o := AObj.list (l'.map .int)) (ne h.dict (by intro _ q; cases q)) h.dict
    rw [this]; unfold SS.nsl; rw [hr]; rfl
  · obtain ⟨ep, e⟩ := h.n2i; exact ⟨ep, AHeap.get_ne (ne e (by intro _ q; cases q)) e⟩
  · cases q; exact AHeap.get_same
  · cases q; exact h.rdI a l hr
  · rcases f with f | f | f | f | ⟨l₂, f⟩
    · exact .inl f
    · exact .inr (.inl f)
    · exact .inr (.inr (.inl f))
    · exact .inr (.inr (.inr (.inl f)))
    · cases f; exact .inr (.inr (.inr (.inr ⟨l, hr⟩)))

/-- the ready list is first set -/
theorem Steps.newReady (h : Steps cT cN S hp S hp') {a : Addr} {l : List Int} (e0 : hp a = none) (e : hp' a = some (.list (l.map .int))) (nf : ¬ S.foot a) :
    Steps cT cN S hp { S with ready := some (a, l) } (hp'.put S.d (.ns ({ S with ready := some (a, l) } : SS).nsl)) := by
  have H := h.at_
  have ni := H.dict
  have ne : ∀ {b : Addr} {o : AObj}, hp' b = some o → (∀ l, o ≠ .ns l) → b ≠ S.d := fun e q w => by rw [w, ni] at e; cases e; exact q _ rfl
  refine ⟨⟨AHeap.get_ne (ne H.inst (by intro _ q; cases q)) H.inst, AHeap.get_same, ?_, fun j hj => AHeap.get_ne (ne (H.node j hj) (by intro _ q; cases q)) (H.node j hj), fun j hj => AHeap.get_ne (H.infodI j hj) (H.noded j hj),
    fun j hj => AHeap.get_ne (ne (H.succ j hj) (by intro _ q; cases q)) (H.succ j hj), fun a' l' q => ?_, H.nodup, H.infoI, H.scI, fun a' l' q j hj w => ?_, H.infodI⟩, rfl, fun b o e' n => ⟨?_, fun f => n ?_⟩⟩
  · obtain ⟨ep, e⟩ := H.n2i; exact ⟨ep, AHeap.get_ne (ne e (by intro _ q; cases q)) e⟩
  · cases q; exact AHeap.get_ne (ne e (by intro _ q; cases q)) e
  · cases q; exact nf (.inr (.inr (.inr (.inl ⟨j, hj, .inr (.inr w.symm)⟩))))
  · exact AHeap.get_ne (fun w => n (w ▸ .inr (.inl rfl))) (h.keep b o e' n).1
  · rcases f with f | f | f | f | ⟨l₂, f⟩
    · exact .inl f
    · exact .inr (.inl f)
    · exact .inr (.inr (.inl f))
    · exact .inr (.inr (.inr (.inl f)))
    · cases f; rw [e0] at e'; cases e'

theorem Steps.addNode (h : SAt cT cN S hp) {kk : Int} {i d l : Addr} {ep : Nat} (hk : kk ∉ S.keys) {hp1 : AHeap} (ext : ∀ a o, hp a = some o → hp1 a = some o) (fi : hp i = none) (fd : hp d = none) (fl : hp l = none)
    (oi : hp1 i = some (.slots cN d [some (.int kk), some (.int 0), some (.ref l)])) (od : hp1 d = some (.ns [])) (ol : hp1 l = some (.list [])) :
    Steps cT cN S hp { S with keys := S.keys ++ [kk], np := upd S.np kk 0, sc := upd S.sc kk [], info := upd S.info kk i, infod := upd S.infod kk d, scA := upd S.scA kk l } (hp1.put S.n2i (.dict (S.kvs ++ [(kk, .ref i)]) ep)) := by
  obtain ⟨ep0, en⟩ := h.n2i
  have ni := ext _ _ en
  have ne : ∀ {b : Addr} {o : AObj}, hp1 b = some o → (∀ l e, o ≠ .dict l e) → b ≠ S.n2i := fun e q w => by rw [w, ni] at e; cases e; exact q _ _ rfl
  have kne : ∀ j ∈ S.keys, j ≠ kk := fun j hj e => hk (e ▸ hj)
  have old : ∀ {P : Int → Prop}, (∀ j ∈ S.keys, P j) → P kk → ∀ j ∈ S.keys ++ [kk], P j := fun h1 h2 j hj => by
    rcases List.mem_append.mp hj with q | q
    · exact h1 j q
    · rw [List.mem_singleton.mp q]; exact h2
  refine ⟨⟨AHeap.get_ne (ne (ext _ _ h.inst) (by intro _ _ q; cases q)) (ext _ _ h.inst), AHeap.get_ne (ne (ext _ _ h.dict) (by intro _ _ q; cases q)) (ext _ _ h.dict), ⟨ep, ?_⟩, ?_, ?_, ?_,
    fun a l' q => AHeap.get_ne (ne (ext _ _ (h.ready a l' q)) (by intro _ _ q; cases q)) (ext _ _ (h.ready a l' q)), ?_, ?_, ?_, ?_, ?_⟩, rfl, fun a o e n => ⟨AHeap.get_ne (fun w => n (w ▸ .inr (.inr (.inl rfl)))) (ext _ _ e), fun f => n ?_⟩⟩
  · show (hp1.put S.n2i _) S.n2i = _
    rw [AHeap.get_same]
    congr 2
    unfold SS.kvs
    show _ = (S.keys ++ [kk]).map _
    rw [List.map_append]
    congr 1
    · exact List.map_congr_left fun j hj => by show _ = (j, AV.ref (upd S.info kk i j)); rw [upd_ne (kne j hj)]
    · simp [upd_same]
  · refine old (fun j hj => ?_) ?_
    · show (hp1.put S.n2i _) (upd S.info kk i j) = _
      rw [upd_ne (kne j hj), AHeap.get_ne (ne (ext _ _ (h.node j hj)) (by intro _ _ q; cases q)) (ext _ _ (h.node j hj))]
      unfold SS.nodeO
      simp [upd_ne (kne j hj)]
    · show (hp1.put S.n2i _) (upd S.info kk i kk) = _
      rw [upd_same, AHeap.get_ne (ne oi (by intro _ _ q; cases q)) oi]
      unfold SS.nodeO
      simp [upd_same]
  · refine old (fun j hj => ?_) ?_
    · show (hp1.put S.n2i _) (upd S.infod kk d j) = _
      rw [upd_ne (kne j hj)]; exact AHeap.get_ne (ne (ext _ _ (h.noded j hj)) (by intro _ _ q; cases q)) (ext _ _ (h.noded j hj))
    · show (hp1.put S.n2i _) (upd S.infod kk d kk) = _
      rw [upd_same]; exact AHeap.get_ne (ne od (by intro _ _ q; cases q)) od
  · refine old (fun j hj => ?_) ?_
    · show (hp1.put S.n2i _) (upd S.scA kk l j) = some (.list ((upd S.sc kk [] j).map .int))
      rw [upd_ne (kne j hj), upd_ne (kne j hj)]; exact AHeap.get_ne (ne (ext _ _ (h.succ j hj)) (by intro _ _ q; cases q)) (ext _ _ (h.succ j hj))
    · show (hp1.put S.n2i _) (upd S.scA kk l kk) = some (.list ((upd S.sc kk [] kk).map .int))
      rw [upd_same, upd_same]; exact AHeap.get_ne (ne ol (by intro _ _ q; cases q)) ol
  · refine List.nodup_append.mpr ⟨h.nodup, by simp, fun a ha b hb => ?_⟩
    rw [List.mem_singleton.mp hb]; exact kne a ha
  · refine old (fun j hj => old (fun j' hj' q => ?_) fun q => ?_) (old (fun j' hj' q => ?_) fun q => rfl)
    · simp only [upd_ne (kne j hj), upd_ne (kne j' hj')] at q; exact h.infoI j hj j' hj' q
    · simp only [upd_ne (kne j hj), upd_same] at q; have := h.node j hj; rw [q, fi] at this; cases this
    · simp only [upd_ne (kne j' hj'), upd_same] at q; have := h.node j' hj'; rw [← q, fi] at this; cases this
  · refine old (fun j hj => old (fun j' hj' q => ?_) fun q => ?_) (old (fun j' hj' q => ?_) fun q => rfl)
    · simp only [upd_ne (kne j hj), upd_ne (kne j' hj')] at q; exact h.scI j hj j' hj' q
    · simp only [upd_ne (kne j hj), upd_same] at q; have := h.succ j hj; rw [q, fl] at this; cases this
    · simp only [upd_ne (kne j' hj'), upd_same] at q; have := h.succ j' hj'; rw [← q, fl] at this; cases this
  · intro a l' q
    refine old (fun j hj => ?_) ?_
    · simp only [upd_ne (kne j hj)]; exact h.rdI a l' q j hj
    · simp only [upd_same]; intro w; have := h.ready a l' q; rw [← w, fl] at this; cases this
  · refine old (fun j hj => ?_) ?_
    · simp only [upd_ne (kne j hj)]; exact h.infodI j hj
    · simp only [upd_same]; intro w; have := h.dict; rw [← w, fd] at this; cases this
  · rcases f with f | f | f | ⟨j, hj, f⟩ | f
    · exact .inl f
    · exact .inr (.inl f)
    · exact .inr (.inr (.inl f))
    · rcases List.mem_append.mp hj with q | q
      · simp only [upd_ne (kne j q)] at f; exact .inr (.inr (.inr (.inl ⟨j, q, f⟩)))
      · rw [List.mem_singleton.mp q] at f
        simp only [upd_same] at f
        exfalso
        rcases f with f | f | f
        · rw [f, fi] at e; cases e
        · rw [f, fd] at e; cases e
        · rw [f, fl] at e; cases e
    · exact .inr (.inr (.inr (.inr f)))

theorem AHeap.put_put {hp : AHeap} {a : Addr} {o o' : AObj} : (hp.put a o).put a o' = hp.put a o' := by
  funext b; unfold AHeap.put; split <;> rfl
end

/-! the graph alone -/
structure Gr where
  keys : List Int
  np : Int → Int
  sc : Int → List Int
noncomputable def SS.gr (S : SS) : Gr := ⟨S.keys, S.np, S.sc⟩
noncomputable def ensure (g : Gr) (k : Int) : Gr := if k ∈ g.keys then g else ⟨g.keys ++ [k], upd g.np k 0, upd g.sc k []⟩
noncomputable def add0 (g : Gr) (k : Int) : Gr := ensure g k
noncomputable def add1 (g : Gr) (k p : Int) : Gr :=
  let g1 := ensure g k
  let g2 := ensure { g1 with np := upd g1.np k (g1.np k + 1) } p
  { g2 with sc := upd g2.sc p (g2.sc p ++ [k]) }
theorem mem_ensure {g : Gr} {k : Int} : k ∈ (ensure g k).keys := by
  unfold ensure; split
  · assumption
  · simp
theorem ensure_mono {g : Gr} {k j : Int} (h : j ∈ g.keys) : j ∈ (ensure g k).keys := by
  unfold ensure; split
  · exact h
  · exact List.mem_append_left _ h

theorem getA_kvs {S : SS} {k : Int} : getA S.kvs k = if k ∈ S.keys then some (.ref (S.info k)) else none := by
  unfold getA SS.kvs
  induction S.keys with
  | nil => rfl
  | cons j r ih =>
    rw [List.map_cons, List.find?_cons]
    by_cases h : j = k
    · subst h; simp
    · simp only [h, decide_false]
      rw [ih]
      have : (k ∈ j :: r) ↔ k ∈ r := by simp [Ne.symm h]
      by_cases q : k ∈ r
      · rw [if_pos q, if_pos (this.mpr q)]
      · rw [if_neg q, if_neg (fun w => q (this.mp w))]
theorem isRef {a : Addr} : Is (.ref a) (.ref a) := rfl
theorem isInt {k : Int} {t : Tok} : Is (.int k) (.int k t) := ⟨t, rfl⟩
theorem isNon : Is .none .none := rfl
theorem isBoo {c : Bool} : Is (.bool c) (.bool c) := rfl
noncomputable def AFlow.notNext : AFlow → Bool
  | .next => false
  | _ => true
theorem Nx.oth1 {C : Cx} {A : Around} {b : Str → Bool} {env : Env} {rest : List Stmt} {Q Q' : AFlow → Vars → AHeap → Prop} (n : Nx C A b env rest Q Q') {f : AFlow} {vs : Vars} {hp : AHeap} (h : f.notNext = true) (q : Q f vs hp) : Q' f vs hp :=
  n.oth f vs hp (fun e => by rw [e] at h; cases h) q
/-! an int, a ref is what it is -/
theorem isI_ref {a : Addr} {P : Value → Prop} (h : P (.ref a)) : ∀ v, Is (.ref a) v → P v := fun _ q => by cases q; exact h
theorem isI_int {i : Int} {P : Value → Prop} (h : ∀ t, P (.int i t)) : ∀ v, Is (.int i) v → P v := fun _ q => by obtain ⟨t, rfl⟩ := q; exact h t
theorem isI_none {P : Value → Prop} (h : P .none) : ∀ v, Is .none v → P v := fun _ q => by cases q; exact h
theorem isI_bool {c : Bool} {P : Value → Prop} (h : P (.bool c)) : ∀ v, Is (.bool c) v → P v := fun _ q => by cases q; exact h
theorem isI_raw {x : Value} {P : Value → Prop} (h : P x) : ∀ v, Is (.raw x) v → P v := fun _ q => by cases q; exact h
theorem isII_ii {i j : Int} {P : Value → Value → Prop} (h : ∀ t u, P (.int i t) (.int j u)) : ∀ v w, Is (.int i) v → Is (.int j) w → P v w := fun _ _ q r => by obtain ⟨t, rfl⟩ := q; obtain ⟨u, rfl⟩ := r; exact h t u
theorem isII_ri {a : Addr} {j : Int} {P : Value → Value → Prop} (h : ∀ u, P (.ref a) (.int j u)) : ∀ v w, Is (.ref a) v → Is (.int j) w → P v w := fun _ _ q r => by cases q; obtain ⟨u, rfl⟩ := r; exact h u
theorem isII_ir {a : Addr} {j : Int} {P : Value → Value → Prop} (h : ∀ u, P (.int j u) (.ref a)) : ∀ v w, Is (.int j) v → Is (.ref a) w → P v w := fun _ _ q r => by cases r; obtain ⟨u, rfl⟩ := q; exact h u
theorem isII_rr {a c : Addr} {P : Value → Value → Prop} (h : P (.ref a) (.ref c)) : ∀ v w, Is (.ref a) v → Is (.ref c) w → P v w := fun _ _ q r => by cases q; cases r; exact h
theorem isII_nr {a : Addr} {P : Value → Value → Prop} (h : P .none (.ref a)) : ∀ v w, Is .none v → Is (.ref a) w → P v w := fun _ _ q r => by cases q; cases r; exact h
theorem isII_rn {a : Addr} {P : Value → Value → Prop} (h : P (.ref a) .none) : ∀ v w, Is (.ref a) v → Is .none w → P v w := fun _ _ q r => by cases q; cases r; exact h
theorem isII_br {a : Addr} {c : Bool} {P : Value → Value → Prop} (h : P (.bool c) (.ref a)) : ∀ v w, Is (.bool c) v → Is (.ref a) w → P v w := fun _ _ q r => by cases q; cases r; exact h
section
variable {C : Cx} {A : Around} {hp : AHeap} {k : Nat} {b : Str → Bool} {env : Env} {vs : Vars} {names : List (Str × NameKind)}

theorem AW.assignSub {o i : Expr} {pos' : Pos} {w : Value} {Q : Unit → Vars → AHeap → Prop}
    (h : AW C A b env Is (eval o env) (fun x vs₂ hp₂ => AW C A b env Is (eval i env) (fun y vs₃ hp₃ => ∀ u v, Is x u → Is y v →
      AW C A b env IsU (setItem u v w) Q vs₃ hp₃) vs₂ hp₂) vs hp) :
    AW C A b env IsU (assign (.Subscript o i pos') env w) Q vs hp := fun K s R => by
  simp only [assign_Subscript]
  refine wpAny_bind (wpAny_holding (AW.elim (h) R (fun u s₂ x vs₂ hp₂ k₂ R₂ q₂ => ?_)))
  refine wpAny_bind (wpAny_holding (AW.elim (q₂) R₂ (fun v s₃ y vs₃ hp₃ k₃ R₃ q₃ => ?_)))
  refine wpAny_bind (wpAny_standAt ?_)
  refine wpAny_bind (wpAny_holding (AW.elim (q₃ u v k₂ k₃) R₃ (fun _ s₄ _ vs₄ hp₄ _ R₄ q₄ => ?_)))
  exact wpAny_release ⟨(), vs₄, hp₄, trivial, R₄, q₄⟩

theorem AW.call0 {fv : Value} {first : List Value} {pos : Pos} {Q : AV → Vars → AHeap → Prop} (E : EnvIs names b env) (hk : Keeps C hp fv)
    (h : AW C A b env Is (call fv (first ++ [])) Q vs hp) : AW C A b env Is (callWith pos fv first (backTo pos (starEach [] env)) []) Q vs hp := AW.callWith0 E.ok hk h
theorem AW.call1 {fv : Value} {first : List Value} {e : Expr} {pos : Pos} {Q : AV → Vars → AHeap → Prop} (E : EnvIs names b env)
    (h : AW C A b env Is (eval e env) (fun z vs₁ hp₁ => ∀ u, Is z u → Keeps C hp₁ fv ∧ AW C A b env Is (call fv (first ++ [u])) Q vs₁ hp₁) vs hp)
    (he : starEach [e] env = (false, eval e env) :: starEach [] env := by rfl) :
    AW C A b env Is (callWith pos fv first (backTo pos (starEach [e] env)) []) Q vs hp := by
  refine AW.callWithN E.ok (AW.argsCons (AW.mono h fun z vs₁ hp₁ q => AW.argsNil fun us ius => ?_) he) he
  cases ius with
  | cons i1 i2 => cases i2; exact q _ i1
theorem AW.call2 {fv : Value} {first : List Value} {e e' : Expr} {pos : Pos} {Q : AV → Vars → AHeap → Prop} (E : EnvIs names b env)
    (h : AW C A b env Is (eval e env) (fun z vs₁ hp₁ => AW C A b env Is (eval e' env) (fun y vs₂ hp₂ => ∀ u w, Is z u → Is y w → Keeps C hp₂ fv ∧ AW C A b env Is (call fv (first ++ [u, w])) Q vs₂ hp₂) vs₁ hp₁) vs hp)
    (he : starEach [e, e'] env = (false, eval e env) :: starEach [e'] env := by rfl) (he' : starEach [e'] env = (false, eval e' env) :: starEach [] env := by rfl) (hplain : (backTo pos (starEach [e'] env)).any (·.1) = false := by rfl) :
    AW C A b env Is (callWith pos fv first (backTo pos (starEach [e, e'] env)) []) Q vs hp := by
  refine AW.callWithN E.ok (AW.argsCons (AW.mono h fun z vs₁ hp₁ q => AW.argsCons (AW.mono q fun y vs₂ hp₂ q₂ => AW.argsNil fun us ius => ?_) he') he) he hplain
  cases ius with
  | cons i1 i2 => cases i2 with | cons i3 i4 => cases i4; exact q₂ _ _ i1 i3

theorem CW.bindsPeek {fd : FuncData} {args : Args} {ab : List (Str × AV)} {binds : List (Str × Value)} {Q : List (Str × AV) → AHeap → Prop} (e : ∀ S, peek C.K S (bindArgs fd args) = some binds) (i : IsBinds ab binds) (h : Q ab hp) :
    CW C A IsBinds (bindArgs fd args) Q hp := fun K s R => (Looks.of_peek (M := model C.prog C.w) R.inK (e _)).here ⟨ab, hp, i, R, h⟩
theorem F2.snoc {α β : Type} {R : α → β → Prop} {as : List α} {bs : List β} (h : F2 R as bs) {a : α} {y : β} (i : R a y) : F2 R (as ++ [a]) (bs ++ [y]) := by
  induction h with
  | nil => exact .cons i .nil
  | cons i' _ ih => exact .cons i' ih
theorem CW.bindsRest {fd : FuncData} {args : Args} {ab : List (Str × AV)} {binds : List (Str × Value)} {xs : List Value} {zs : List AV} {a : Str} {Q : List (Str × AV) → AHeap → Prop}
    (hb : bindArgs fd args = (newTuple xs >>= fun t => Pure.pure (binds ++ [(a, t)]))) (hz : xs.length ≤ sizeLine) (i : IsBinds ab binds) (j : IsL zs xs) (h : ∀ t, hp t = none → Q (ab ++ [(a, .ref t)]) (hp.put t (.tup zs))) :
    CW C A IsBinds (bindArgs fd args) Q hp := fun K s R => by
  rw [hb]
  refine wpAny_bind (wpAny_newTuple ?_ hz)
  refine wpAny_pure ⟨ab ++ [(a, .ref s.heap.objs.size)], hp.put s.heap.objs.size (.tup zs), ?_, R.alloc (ao := .tup zs) ⟨xs, j, rfl⟩ rfl, h _ R.fresh⟩
  exact F2.snoc i ⟨rfl, rfl⟩
end
section
variable {C : Cx} {A : Around} {b : Str → Bool} {env : Env} {vs : Vars} {hp : AHeap} {names : List (Str × NameKind)}
noncomputable def varK : NameKind → Bool
  | .local | .cell | .free => true
  | _ => false
noncomputable def varS : NameKind → Bool
  | .local | .cell => true
  | _ => false
theorem AW.nVar {x : Str} {pos : Pos} {κ : NameKind} {a : AV} {Q : AV → Vars → AHeap → Prop} (E : EnvIs names b env) (hk : names.lookup x = some κ) (hv : vs x = some a) (h : Q a vs hp)
    (hκ : varK κ = true := by rfl) (hn : (κ == .free && x == ("__classdict__" : Str)) = false := by rfl) (hd : (x == ("__debug__" : Str)) = false := by kernel_rfl) : AW C A b env Is (eval (.Name x pos) env) Q vs hp := by
  refine AW.Name ?_ hd
  cases κ <;> first | (cases hκ; done) | skip
  · exact AW.nLocal E hk hv h
  · exact AW.nCell E hk hv h
  · exact AW.nFree E hk hv h (by simpa using hn)
theorem AW.sVar {x : Str} {κ : NameKind} {v : Value} {a : AV} {Q : Unit → Vars → AHeap → Prop} (E : EnvIs names b env) (hk : names.lookup x = some κ) (i : Is a v) (h : Q () (vs.put x a) hp) (hκ : varS κ = true := by rfl) :
    AW C A b env IsU (storeName env x v) Q vs hp := by
  cases κ <;> first | (cases hκ; done) | skip
  · exact AW.sLocal E hk i h
  · exact AW.sCell E hk i h
theorem AW.nBui {x : Str} {pos : Pos} {v : Value} {Q : AV → Vars → AHeap → Prop} (E : EnvIs names b env) (hk : names.lookup x = some .globalImplicit) (e : nsIn C.K mainGlobals x = some none) (hv : bootBuiltins x = some v)
    (hn : (x == ("__name__" : Str)) = false) (hd : (x == ("__debug__" : Str)) = false) (h : Q (.raw v) vs hp) : AW C A b env Is (eval (.Name x pos) env) Q vs hp :=
  AW.Name (AW.nBuiltin E hk e hv (by simpa using hn) h) hd
end
theorem clVars_free {names : List (Str × NameKind)} {vs : Vars} {x : Str} {r : Option AV} (h : names.lookup x = some .free) (g : vs x = r) : clVars names vs x = r := by
  unfold clVars; rw [if_pos h]; exact g
noncomputable def nth : Nat → List Stmt → Option Stmt
  | _, [] => none
  | 0, x :: _ => some x
  | n + 1, _ :: r => nth n r
noncomputable def clB : Option Stmt → List Stmt
  | some (.ClassDef _ _ _ b ..) => b
  | _ => []
noncomputable def fnO (st : Option Stmt) (q : Str) (df pm cd : Value) : Obj := match st with
  | some (.FunctionDef n a b _ _ _ sc ..) => ⟨.type "function", none, .func ⟨n, q, a, .stmts b, sc, 3, [], df, .none, .none, pm, none, cd, .none, 0⟩, #[]⟩
  | _ => ⟨.none, none, .plain, #[]⟩
noncomputable def enK (P : Params) (x : String) (t : Nat) (v : Value) : DictEntry := ⟨PyData.keyHash P (.ofString x), .str (.ofString x) t, v⟩
noncomputable def KK (P : Params) : Frag := [
  (3, Obj.mk (.type "dict") none (Data.dict #[enK P "__name__" 165 (.str (.ofString "law_mg0006_01") 376), enK P "__doc__" 166 .none, enK P "__package__" 167 .none, enK P "__loader__" 168 (.builtin "__main__.__loader__#opaque"), enK P "__spec__" 169 .none, enK P "__annotations__" 170 (.ref 6), enK P "__builtins__" 171 (.ref 4), enK P "__file__" 173 (.str (.ofString "/claim/cut.py") 172), enK P "__cached__" 174 .none, enK P "_wall" 193 (.ref 21), enK P "_NODE_OUT" 198 (.int (-1) 197), enK P "_NODE_DONE" 201 (.int (-2) 200), enK P "_NodeInfo" 238 (.ref 40), enK P "CycleError" 256 (.ref 55), enK P "TopologicalSorter" 375 (.ref 137), enK P "_law_order" 388 (.ref 148), enK P "law" 394 (.ref 153)] 17) #[]),
  (35, Obj.mk (.type "code") none (Data.fields #[.str (.ofString "__init__") 218, .str (.ofString "_NodeInfo.__init__") 219, .str (.ofString "/claim/cut.py") 220, .int 10 0, .int 2 0, .int 0 0, .int 0 0, .int 3 0, .ref 30, .bool true, .int 181 0, .ref 31, .none, .ref 32, .ref 33, .ref 34, .int 223 0, .int 10 0, .str (.ofString "/claim/cut.py") 224]) #[]),
  (36, fnO (nth 1 (clB (nth 4 PySem.Challenge.pw_mg0006_01.main.body))) (Str.ofString "_NodeInfo.__init__") .none (.str (.ofString "cpy313.graphlib") 194) (.ref 35)),
  (39, Obj.mk (.type "dict") none (Data.dict #[enK P "__module__" 209 (.str (.ofString "cpy313.graphlib") 194), enK P "__firstlineno__" 213 (.int 7 212), enK P "__slots__" 217 (.ref 29), enK P "__init__" 225 (.ref 36), enK P "__static_attributes__" 229 (.ref 37), enK P "node" 231 (.ref 41), enK P "npredecessors" 233 (.ref 42), enK P "successors" 235 (.ref 43), enK P "__doc__" 236 .none] 5) #[]),
  (40, Obj.mk (.type "type") none (Data.cls (ClassData.mk (Str.ofString "_NodeInfo") [.type "object"] [.ref 40, .type "object"] 39 (Str.ofString "_NodeInfo") false [Str.ofString "node", Str.ofString "npredecessors", Str.ofString "successors"] [] false none false)) #[none, none, some (.str (.ofString "_NodeInfo") 202), some (.str (.ofString "_NodeInfo") 210), some (.builtin "object.__new__"), some (.bool false)]),
  (41, Obj.mk (.type "member_descriptor") none (Data.fields #[.str (.ofString "node") 230, .ref 40, .builtin "proto.slot", .builtin "proto.slot#set", .int 2 0]) #[]),
  (42, Obj.mk (.type "member_descriptor") none (Data.fields #[.str (.ofString "npredecessors") 232, .ref 40, .builtin "proto.slot", .builtin "proto.slot#set", .int 1 0]) #[]),
  (43, Obj.mk (.type "member_descriptor") none (Data.fields #[.str (.ofString "successors") 234, .ref 40, .builtin "proto.slot", .builtin "proto.slot#set", .int 0 0]) #[]),
  (66, Obj.mk (.type "tuple") none (Data.seq #[.none]) #[]),
  (72, Obj.mk (.type "code") none (Data.fields #[.str (.ofString "__init__") 269, .str (.ofString "TopologicalSorter.__init__") 270, .str (.ofString "/claim/cut.py") 271, .int 18 0, .int 2 0, .int 0 0, .int 0 0, .int 3 0, .ref 67, .bool true, .int 181 0, .ref 68, .none, .ref 69, .ref 70, .ref 71, .int 276 0, .int 18 0, .str (.ofString "/claim/cut.py") 277]) #[]),
  (73, fnO (nth 0 (clB (nth 6 PySem.Challenge.pw_mg0006_01.main.body))) (Str.ofString "TopologicalSorter.__init__") (.ref 66) (.str (.ofString "cpy313.graphlib") 194) (.ref 72)),
  (79, Obj.mk (.type "code") none (Data.fields #[.str (.ofString "_get_nodeinfo") 279, .str (.ofString "TopologicalSorter._get_nodeinfo") 280, .str (.ofString "/claim/cut.py") 281, .int 27 0, .int 2 0, .int 0 0, .int 0 0, .int 3 0, .ref 74, .bool true, .int 181 0, .ref 75, .none, .ref 76, .ref 77, .ref 78, .int 285 0, .int 27 0, .str (.ofString "/claim/cut.py") 286]) #[]),
  (80, fnO (nth 1 (clB (nth 6 PySem.Challenge.pw_mg0006_01.main.body))) (Str.ofString "TopologicalSorter._get_nodeinfo") .none (.str (.ofString "cpy313.graphlib") 194) (.ref 79)),
  (86, Obj.mk (.type "code") none (Data.fields #[.str (.ofString "add") 288, .str (.ofString "TopologicalSorter.add") 289, .str (.ofString "/claim/cut.py") 290, .int 32 0, .int 2 0, .int 0 0, .int 0 0, .int 7 0, .ref 81, .bool true, .int 181 0, .ref 82, .none, .ref 83, .ref 84, .ref 85, .int 297 0, .int 32 0, .str (.ofString "/claim/cut.py") 298]) #[]),
  (87, fnO (nth 2 (clB (nth 6 PySem.Challenge.pw_mg0006_01.main.body))) (Str.ofString "TopologicalSorter.add") .none (.str (.ofString "cpy313.graphlib") 194) (.ref 86)),
  (91, Obj.mk (.type "code") none (Data.fields #[.str (.ofString "prepare") 300, .str (.ofString "TopologicalSorter.prepare") 301, .str (.ofString "/claim/cut.py") 302, .int 41 0, .int 1 0, .int 0 0, .int 0 0, .int 3 0, .ref 88, .bool true, .int 181 0, .ref 89, .none, .none, .none, .ref 90, .int 303 0, .int 41 0, .str (.ofString "/claim/cut.py") 304]) #[]),
  (92, fnO (nth 3 (clB (nth 6 PySem.Challenge.pw_mg0006_01.main.body))) (Str.ofString "TopologicalSorter.prepare") .none (.str (.ofString "cpy313.graphlib") 194) (.ref 91)),
  (98, Obj.mk (.type "code") none (Data.fields #[.str (.ofString "get_ready") 306, .str (.ofString "TopologicalSorter.get_ready") 307, .str (.ofString "/claim/cut.py") 308, .int 49 0, .int 1 0, .int 0 0, .int 0 0, .int 3 0, .ref 93, .bool true, .int 181 0, .ref 94, .none, .ref 95, .ref 96, .ref 97, .int 313 0, .int 49 0, .str (.ofString "/claim/cut.py") 314]) #[]),
  (99, fnO (nth 4 (clB (nth 6 PySem.Challenge.pw_mg0006_01.main.body))) (Str.ofString "TopologicalSorter.get_ready") .none (.str (.ofString "cpy313.graphlib") 194) (.ref 98)),
  (105, Obj.mk (.type "code") none (Data.fields #[.str (.ofString "is_active") 316, .str (.ofString "TopologicalSorter.is_active") 317, .str (.ofString "/claim/cut.py") 318, .int 60 0, .int 1 0, .int 0 0, .int 0 0, .int 3 0, .ref 100, .bool true, .int 181 0, .ref 101, .none, .ref 102, .ref 103, .ref 104, .int 320 0, .int 60 0, .str (.ofString "/claim/cut.py") 321]) #[]),
  (106, fnO (nth 5 (clB (nth 6 PySem.Challenge.pw_mg0006_01.main.body))) (Str.ofString "TopologicalSorter.is_active") .none (.str (.ofString "cpy313.graphlib") 194) (.ref 105)),
  (119, Obj.mk (.type "code") none (Data.fields #[.str (.ofString "done") 330, .str (.ofString "TopologicalSorter.done") 331, .str (.ofString "/claim/cut.py") 332, .int 68 0, .int 1 0, .int 0 0, .int 0 0, .int 7 0, .ref 114, .bool true, .int 181 0, .ref 115, .none, .ref 116, .ref 117, .ref 118, .int 341 0, .int 68 0, .str (.ofString "/claim/cut.py") 342]) #[]),
  (120, fnO (nth 7 (clB (nth 6 PySem.Challenge.pw_mg0006_01.main.body))) (Str.ofString "TopologicalSorter.done") .none (.str (.ofString "cpy313.graphlib") 194) (.ref 119)),
  (126, Obj.mk (.type "code") none (Data.fields #[.str (.ofString "_find_cycle") 344, .str (.ofString "TopologicalSorter._find_cycle") 345, .str (.ofString "/claim/cut.py") 346, .int 91 0, .int 1 0, .int 0 0, .int 0 0, .int 3 0, .ref 121, .bool true, .int 181 0, .ref 122, .none, .ref 123, .ref 124, .ref 125, .int 354 0, .int 91 0, .str (.ofString "/claim/cut.py") 355]) #[]),
  (127, fnO (nth 8 (clB (nth 6 PySem.Challenge.pw_mg0006_01.main.body))) (Str.ofString "TopologicalSorter._find_cycle") .none (.str (.ofString "cpy313.graphlib") 194) (.ref 126)),
  (136, Obj.mk (.type "dict") none (Data.dict #[enK P "__module__" 264 (.str (.ofString "cpy313.graphlib") 194), enK P "__firstlineno__" 268 (.int 16 267), enK P "__init__" 278 (.ref 73), enK P "_get_nodeinfo" 287 (.ref 80), enK P "add" 299 (.ref 87), enK P "prepare" 305 (.ref 92), enK P "get_ready" 315 (.ref 99), enK P "is_active" 322 (.ref 106), enK P "__bool__" 329 (.ref 113), enK P "done" 343 (.ref 120), enK P "_find_cycle" 356 (.ref 127), enK P "static_order" 363 (.ref 134), enK P "__static_attributes__" 368 (.ref 135), enK P "__dict__" 370 (.ref 138), enK P "__weakref__" 372 (.ref 139), enK P "__doc__" 373 .none] 4) #[]),
  (137, Obj.mk (.type "type") none (Data.cls (ClassData.mk (Str.ofString "TopologicalSorter") [.type "object"] [.ref 137, .type "object"] 136 (Str.ofString "TopologicalSorter") true [] [] false none false)) #[none, none, some (.str (.ofString "TopologicalSorter") 257), some (.str (.ofString "TopologicalSorter") 265), some (.builtin "object.__new__"), some (.bool true)]),
  (138, Obj.mk (.type "getset_descriptor") none (Data.fields #[.str (.ofString "__dict__") 369, .ref 137, .builtin "function.__dict__", .builtin "function.__dict__#set"]) #[]),
  (147, Obj.mk (.type "code") none (Data.fields #[.str (.ofString "_law_order") 378, .str (.ofString "_law_order") 379, .str (.ofString "/claim/cut.py") 380, .int 123 0, .int 2 0, .int 0 0, .int 0 0, .int 3 0, .ref 142, .bool true, .int 181 0, .ref 143, .none, .ref 144, .ref 145, .ref 146, .int 386 0, .int 123 0, .str (.ofString "/claim/cut.py") 387]) #[]),
  (148, fnO (nth 8 PySem.Challenge.pw_mg0006_01.main.body) (Str.ofString "_law_order") .none (.str (.ofString "law_mg0006_01") 376) (.ref 147)),
  (152, Obj.mk (.type "code") none (Data.fields #[.str (.ofString "law") 389, .str (.ofString "law") 390, .str (.ofString "/claim/cut.py") 391, .int 132 0, .int 1 0, .int 0 0, .int 0 0, .int 3 0, .ref 149, .bool true, .int 181 0, .ref 150, .none, .none, .none, .ref 151, .int 392 0, .int 132 0, .str (.ofString "/claim/cut.py") 393]) #[]),
  (153, fnO (nth 9 PySem.Challenge.pw_mg0006_01.main.body) (Str.ofString "law") .none (.str (.ofString "law_mg0006_01") 376) (.ref 152))
]
noncomputable def vw : Program := view PySem.Challenge.pw_mg0006_01 [0, 2, 3, 4, 5, 6, 8, 9]
theorem LeftO.of_boot {p q : Program} {loose : List Str} {Xt : Shared → Bool} {α : Type} {Yf : Shared → α} {Ya : World → α} {N : Nat} (e : opening p = plainProg p.main.scope.names) (hN : Nat.ble 600 N = true) (f : ∀ s, fenceModules? p s = some s)
    (h : ∀ (w : World) (os : OsState), (topFrom treeTable p w N ⟨boot_heap w.params, Array.mk [], boot_drawn, boot_toks, os⟩).map (fun s => (openSeen q loose (importedModules p.main.body) Xt true s, Yf s)) = some (openGood q loose, Ya w)) : LeftO p q loose Xt Yf Ya N := fun w => by
  obtain ⟨s, e1, e2⟩ := Option.map_eq_some_iff.mp (boot_open e hN f w)
  have es : s = ⟨boot_heap w.params, Array.mk [], boot_drawn, boot_toks, s.os⟩ := by
    cases s
    simp only [Prod.mk.injEq] at e2
    obtain ⟨rfl, rfl, rfl, rfl⟩ := e2
    rfl
  rw [openEnds, e1, Option.bind_some, es]
  exact h w s.os
theorem left : LeftO (OpenRow.toRowW PySem.Challenge.rw_mg0006_01.row).prog vw [Str.ofString "_NodeInfo"] (fun s => xlAt vw [] s && recOk (RowW.records (OpenRow.toRowW PySem.Challenge.rw_mg0006_01.row)) s) (fun s => List.map s.heap.get? [3, 35, 36, 39, 40, 41, 42, 43, 66, 72, 73, 79, 80, 86, 87, 91, 92, 98, 99, 105, 106, 119, 120, 126, 127, 136, 137, 138, 147, 148, 152, 153]) (fun w => (KK w.params).map fun p => some p.2) 2346 :=
  LeftO.of_boot (by kernel_rfl) (by decide) (fun s => by kernel_rfl) fun w os => by
    unfold topFrom
    rw [PySem.W.Fast.te14082659384304107361, PySem.W.Fast.te14364793385576792824, PySem.W.Fast.te4187177175401517315]
    kernel_rfl


-- what a name holds
local macro_rules | `(tactic| walk_at "v") => `(tactic| first | (with_reducible exact Vars.get_same) | (with_reducible assumption) | ((with_reducible refine Vars.get_ne (by kernel_rfl) ?_); walk_at "v") | ((with_reducible refine clVars_free (by kernel_rfl) ?_); walk_at "v") | rfl)
-- what is stored
local macro_rules | `(tactic| walk_at "a") => `(tactic| first | assumption | exact isRef | exact isInt | exact isNon | exact isBoo)
local macro_rules | `(tactic| walk_at "s") => `(tactic| refine AW.sVar ‹EnvIs _ _ _› (by rfl) (by walk_at "a") ?_)
-- a fact of the text's own objects
local macro_rules | `(tactic| walk_at "k") => `(tactic| (rw [‹Cx.K _ = KK _›]; rfl))
-- a builtin's name
local macro_rules | `(tactic| walk_at "b") => `(tactic| (refine AW.nBui ‹EnvIs _ _ _› (by rfl) (by walk_at "k") rfl (by kernel_rfl) (by kernel_rfl) ?_; walk_at "i"))
-- an int, a ref, ... is what it is
local macro_rules | `(tactic| walk_at "i") => `(tactic| first | refine isI_ref ?_ | refine isI_int fun _ => ?_ | refine isI_none ?_ | refine isI_bool ?_ | refine isI_raw ?_)
local macro_rules | `(tactic| walk_at "ii") => `(tactic| first | refine isII_ii fun _ _ => ?_ | refine isII_ri fun _ => ?_ | refine isII_rr ?_ | refine isII_ir fun _ => ?_ | refine isII_nr ?_ | refine isII_rn ?_ | refine isII_br ?_ | (intro _ _ q q'; (first | (obtain ⟨_, q⟩ := q; subst q) | (subst q)); (first | (obtain ⟨_, q'⟩ := q'; subst q') | (subst q'))))
-- one step of an expression
local macro_rules | `(tactic| walk_at "n") => `(tactic| refine AW.nVar ‹EnvIs _ _ _› (by rfl) (by walk_at "v") ?_)
local macro_rules | `(tactic| walk_at "e") => `(tactic| first | (with_reducible first | refine AW.cInt ?_ | refine AW.cNone ?_ | refine AW.Attribute ?_ | refine AW.MethodCall (EnvIs.ok ‹EnvIs _ _ _›) ?_ | refine AW.Call ?_ | refine AW.NamedExpr ?_ | refine AW.Subscript ?_ | refine AW.BinOp ?_) | walk_at "n")
-- one statement
local macro_rules | `(tactic| walk_at "xx") => `(tactic| first | (with_reducible first | refine AW.AssignName ?_ | refine AW.AssignAttr ?_ | refine AW.AssignSub ?_ | refine AW.If ?_ | refine AW.Return ?_ | refine AW.exprS ‹EnvIs _ _ _› ?_ | refine AW.AugName ?_ | refine AW.AugAttr ?_) | refine AW.AugSub ?_)
local macro_rules | `(tactic| walk_at "c") => `(tactic| ((try (with_reducible refine Nx.next (by assumption) _ _ ?_)); (try (with_reducible refine Lp.next (by assumption) _ _ ?_))))
local macro_rules | `(tactic| walk_at "o") => `(tactic| ((repeat (refine Nx.oth1 (by with_reducible assumption) (by rfl) ?_)); (try first | (with_reducible refine Lp.brk (by assumption) _ _ ?_) | (with_reducible refine Lp.cont (by assumption) _ _ ?_))))
local macro_rules | `(tactic| walk_at "y") => `(tactic| with_reducible first | refine Ct.yes (by assumption) _ _ ?_ | refine Ct.no (by assumption) _ ?_)
local macro_rules | `(tactic| walk_at "x") => `(tactic| first | ((with_reducible refine AW.execsNil ?_); walk_at "c") | (with_reducible refine AW.execsRet ?_) | ((with_reducible refine AW.execsBrk ?_); walk_at "o") | ((with_reducible refine AW.execsCont ?_); walk_at "o") | (refine AW.execsCons fun _ _ => ?_; walk_at "xx") | (refine AW.execsNil ?_; walk_at "c") | ((with_reducible refine Nx.next (by assumption) _ _ ?_); walk_at "x"))



section
variable {C : Cx} {A : Around} {hp : AHeap} {k : Nat} {S : SS} {b : Str → Bool} {env : Env} {vs : Vars} {names : List (Str × NameKind)}
theorem nodeInit (hK : C.K = KK C.w.params) (r : Room (k + 1) A) {x d : Addr} {kk : Int} {t : Tok} {Q : AV → AHeap → Prop} (hx : hp x = some (.slots 40 d [])) (hd : hp d = some (.ns []))
    (h : ∀ l hp', hp l = none → hp' x = some (.slots 40 d [some (.int kk), some (.int 0), some (.ref l)]) → hp' l = some (.list []) → (∀ a o, a ≠ x → hp a = some o → hp' a = some o) → Q .none hp') :
    CC C A (.ref 36) ⟨[.ref x, .int kk t], []⟩ Q hp := by
  refine CC.fn r.room (by walk_at "k") rfl (by walk_at "k") rfl rfl rfl rfl rfl rfl rfl rfl ?_
  refine CW.bindsTo (ab := [(Str.ofString "self", .ref x), (Str.ofString "node", .int kk)]) rfl (.cons ⟨rfl, rfl⟩ (.cons ⟨rfl, t, rfl⟩ .nil)) ⟨rfl, fun env E hf => ?_⟩
  dsimp only at E
  -- self.node = node
  walk_at "c"; refine AW.execsCons fun _ _ => (AW.AssignAttr ?_)
  walk_at "n"; walk_at "n"
  intro u v iu iv; cases iu
  refine AW.setAttrSlot (p := 41) (k := 0) (l' := [some (.int kk)]) E.ok hx hd iv (by decide) (by walk_at "k") (by walk_at "k") (by walk_at "k") (by walk_at "k") (by walk_at "k") rfl ?_
  -- self.npredecessors = 0
  walk_at "c"; refine AW.execsCons fun _ _ => (AW.AssignAttr (AW.cInt ?_))
  walk_at "n"
  intro u v iu iv; cases iu
  have hd1 : ∀ {o : AObj}, (hp.put x o) d = some (.ns []) := AHeap.get_ne (fun e => by rw [e, hx] at hd; cases hd) hd
  refine AW.setAttrSlot (p := 42) (k := 1) (l' := [some (.int kk), some (.int 0)]) E.ok AHeap.get_same hd1 iv (by decide) (by walk_at "k") (by walk_at "k") (by walk_at "k") (by walk_at "k") (by walk_at "k") rfl ?_
  rw [AHeap.put_put]
  -- self.successors = []
  walk_at "c"; refine AW.execsCons fun _ _ => (AW.AssignAttr (AW.ListD (AW.splicedNil ⟨by decide, fun l hl => ?_⟩)))
  walk_at "n"
  intro u v iu iv; cases iu
  have lx : l ≠ x := fun e => by rw [e, AHeap.get_same] at hl; cases hl
  have hl0 : hp l = none := by rw [AHeap.get_ne lx rfl] at hl; exact hl
  refine AW.setAttrSlot (p := 43) (k := 2) (l' := [some (.int kk), some (.int 0), some (.ref l)]) E.ok (AHeap.get_new hl AHeap.get_same) (AHeap.get_new hl hd1) iv (by decide) (by walk_at "k") (by walk_at "k") (by walk_at "k") (by walk_at "k") (by walk_at "k") rfl ?_
  walk_at "x"
  refine h l _ hl0 AHeap.get_same (AHeap.get_ne lx AHeap.get_same) fun a o ax e => ?_
  exact AHeap.get_ne ax (AHeap.get_ne (fun q => by rw [q, hl0] at e; cases e) (AHeap.get_ne ax e))

theorem nodeMake (hK : C.K = KK C.w.params) (r : Room (k + 2) A) {kk : Int} {t : Tok} {Q : AV → AHeap → Prop}
    (h : ∀ i d l hp', hp i = none → hp d = none → hp l = none → hp' i = some (.slots 40 d [some (.int kk), some (.int 0), some (.ref l)]) → hp' d = some (.ns []) → hp' l = some (.list []) → (∀ a o, hp a = some o → hp' a = some o) → Q (.ref i) hp') :
    CC C A (.ref 40) ⟨[.int kk t], []⟩ Q hp := by
  refine CC.make (ao := fun d => .slots 40 d []) (fun d => ⟨[], .nil, rfl⟩) (by walk_at "k") (by walk_at "k") (by walk_at "k") fun x d hx hd xd => ?_
  have hd1 : ((hp.put d (.ns [])).put x (.slots 40 d [])) d = some (.ns []) := AHeap.get_ne (Ne.symm xd) AHeap.get_same
  refine nodeInit hK (r.make _ _) AHeap.get_same hd1 fun l hp' hl ox ol keep => ⟨rfl, ?_⟩
  have lx : l ≠ x := fun e => by rw [e, AHeap.get_same] at hl; cases hl
  have ld : l ≠ d := fun e => by rw [e, hd1] at hl; cases hl
  refine h x d l hp' hx hd (by rw [AHeap.get_ne lx rfl, AHeap.get_ne ld rfl] at hl; exact hl) ox (keep d _ (Ne.symm xd) hd1) ol fun a o e => ?_
  exact keep a o (fun q => by rw [q, hx] at e; cases e) (AHeap.get_ne (fun q => by rw [q, hx] at e; cases e) (AHeap.get_new hd e))

theorem selfGet (hK : C.K = KK C.w.params) (h : SAt 137 40 S hp) {name : Str} {a : AV} {ex : Bool} {Q : AV → Vars → AHeap → Prop} (hl : S.nsl.lookup name = some a) (pl : plainA a = true) (hf : findIn (KK C.w.params) (.ref 137) name = some none) (hQ : Q a vs hp) :
    AW C A b env Is (getAttr (.ref S.x) name ex) Q vs hp :=
  AW.getAttrNs (attr := none) h.inst h.dict hl pl (by walk_at "k") (by walk_at "k") (by rw [hK]; exact hf) (by walk_at "k") hQ

/-- a call of one of the sorter's own methods -/
theorem selfCall (hK : C.K = KK C.w.params) (h : SAt 137 40 S hp) {name : Str} {f : Addr} (hl : S.nsl.lookup name = none) (hf : findIn (KK C.w.params) (.ref 137) name = some (some (.ref f))) (ht : isFn (KK C.w.params) (.ref f) = true) : Meth C hp (.ref S.x) name (.ref f) :=
  Meth.inst h.inst h.dict hl (by walk_at "k") (by rw [hK]; exact hf) (by rw [hK]; exact ht)

theorem Meth.dict {a : Addr} {kvs : List (Int × AV)} {ep : Nat} {name : Str} {id : String} (hn : hp a = some (.dict kvs ep)) (slot : Slot "dict" name id) (hty : typeOf (.builtin id) = Pure.pure (.type "method_descriptor")) : Meth C hp (.ref a) name (.builtin id) :=
  Meth.builtin (T := "dict") (fun K s R => by obtain ⟨us, j, ⟨o, es, ho, hc, _⟩, _⟩ := R.dict hn; exact ⟨o, ho, hc.1, hc.2.1⟩) F.plainAttrs_dict slot hty
theorem SS.kvs_len (S : SS) : S.kvs.length = S.keys.length := by unfold SS.kvs; simp
theorem putD_new {kk : Int} {a : AV} (hm : kk ∉ S.keys) : putD S.kvs kk a = S.kvs ++ [(kk, a)] := by
  unfold putD
  rw [if_neg]
  simp only [SS.kvs, List.any_map, List.any_eq_true, not_exists, not_and]
  intro j hj q
  have q : j = kk := by simpa using q
  exact hm (q ▸ hj)

theorem getInfo (hK : C.K = KK C.w.params) (r : Room (k + 3) A) (h : SAt 137 40 S hp) {kk : Int} {t : Tok} {Q : AV → AHeap → Prop} (hz : S.keys.length < 1000)
    (hQ : ∀ S' hp', Steps 137 40 S hp S' hp' → S'.gr = ensure S.gr kk → S'.ready = S.ready → S'.passed = S.passed → S'.finished = S.finished → Q (.ref (S'.info kk)) hp') :
    CC C A (.ref 80) ⟨[.ref S.x, .int kk t], []⟩ Q hp := by
  refine CC.fn r.room (by walk_at "k") rfl (by walk_at "k") rfl rfl rfl rfl rfl rfl rfl rfl ?_
  refine CW.bindsTo (ab := [(Str.ofString "self", .ref S.x), (Str.ofString "node", .int kk)]) rfl (.cons ⟨rfl, rfl⟩ (.cons ⟨rfl, t, rfl⟩ .nil)) ⟨rfl, fun env E hf => ?_⟩
  dsimp only at E
  have rd := r.deeper env
  obtain ⟨ep, hn⟩ := h.n2i
  walk_at "x"
  refine AW.isTrue_Compare1 ?_
  walk_at "e"; walk_at "e"; walk_at "e"; walk_at "e"; walk_at "i"
  refine selfGet hK h rfl rfl rfl ?_
  walk_at "i"
  refine ⟨.builtin "dict.get", Meth.dict hn F.slot_dict_get F.type_dict_get, ?_⟩
  refine AW.call1 E ?_
  walk_at "e"; walk_at "i"
  refine ⟨Keeps.builtin, AW.ofCW E.ok (CW.getDict hn ?_)⟩
  rw [getA_kvs]
  intro v iv
  refine AW.assignName ?_
  walk_at "s"
  refine AW.cNone fun v u iv' iu => ?_
  cases iu
  by_cases hm : kk ∈ S.keys
  · rw [if_pos hm] at iv' ⊢
    refine AW.ofCW E.ok (CW.isNone iv' rfl ⟨false, rfl, ?_⟩)
    walk_at "x"; walk_at "x"; walk_at "e"
    exact hQ S hp (.refl h) (by unfold ensure; exact (if_pos hm).symm) rfl rfl rfl
  · rw [if_neg hm] at iv' ⊢
    refine AW.ofCW E.ok (CW.isNone iv' rfl ⟨true, rfl, ?_⟩)
    walk_at "c"; refine AW.execsCons fun _ _ => (AW.AssignTwo ?_)
    walk_at "e"
    refine AW.Name (AW.nGlobal (v := .ref 40) (a := .ref 40) E rfl (by walk_at "k") rfl ?_) rfl
    walk_at "i"
    refine AW.call1 E ?_
    walk_at "e"; walk_at "i"
    refine ⟨Keeps.fn (by walk_at "k"), AW.ofCW E.ok (CC.cw (nodeMake (C := C.push env) hK rd fun i d l hp' hi hd hl oi od ol ext => ?_))⟩
    walk_at "i"
    refine AW.assignSub ?_
    walk_at "e"; walk_at "e"; walk_at "i"
    have h1 : SAt 137 40 S hp' := h.of_ext fun a o _ q => ext a o q
    refine selfGet hK h1 rfl rfl rfl ?_
    walk_at "e"; walk_at "ii"
    refine AW.ofCW E.ok (CW.setDict (a := .ref i) (ext _ _ hn) (by rw [S.kvs_len]; omega) rfl fun ep' => ?_)
    rw [putD_new hm]
    refine AW.assignName ?_
    walk_at "s"
    walk_at "x"; walk_at "x"; walk_at "e"
    have q := hQ _ _ (Steps.addNode (ep := ep') h hm ext hi hd hl oi od ol) (by show _ = ensure S.gr kk; unfold ensure; exact (if_neg hm).symm) rfl rfl rfl
    dsimp only at q
    rw [upd_same] at q
    exact q

/-- a node's own fields -/
theorem npGet (hK : C.K = KK C.w.params) (h : SAt 137 40 S hp) {j : Int} (hj : j ∈ S.keys) {ex : Bool} {Q : AV → Vars → AHeap → Prop} (hQ : Q (.int (S.np j)) vs hp) : AW C A b env Is (getAttr (.ref (S.info j)) (Str.ofString "npredecessors") ex) Q vs hp :=
  AW.getAttrSlot (p := 42) (k := 1) (h.node j hj) (h.noded j hj) rfl rfl (by walk_at "k") (fun n => by walk_at "k") (by walk_at "k") hQ
theorem nodeGet (hK : C.K = KK C.w.params) (h : SAt 137 40 S hp) {j : Int} (hj : j ∈ S.keys) {ex : Bool} {Q : AV → Vars → AHeap → Prop} (hQ : Q (.int j) vs hp) : AW C A b env Is (getAttr (.ref (S.info j)) (Str.ofString "node") ex) Q vs hp :=
  AW.getAttrSlot (p := 41) (k := 0) (h.node j hj) (h.noded j hj) rfl rfl (by walk_at "k") (fun n => by walk_at "k") (by walk_at "k") hQ
theorem scGet (hK : C.K = KK C.w.params) (h : SAt 137 40 S hp) {j : Int} (hj : j ∈ S.keys) {ex : Bool} {Q : AV → Vars → AHeap → Prop} (hQ : Q (.ref (S.scA j)) vs hp) : AW C A b env Is (getAttr (.ref (S.info j)) (Str.ofString "successors") ex) Q vs hp :=
  AW.getAttrSlot (p := 43) (k := 2) (h.node j hj) (h.noded j hj) rfl rfl (by walk_at "k") (fun n => by walk_at "k") (by walk_at "k") hQ
theorem npSet (hK : C.K = KK C.w.params) (E : EnvIs names b env) (h : SAt 137 40 S hp) {j v : Int} {t : Tok} (hj : j ∈ S.keys) {Q : Unit → Vars → AHeap → Prop} (hQ : ∀ hp', Steps 137 40 S hp { S with np := upd S.np j v } hp' → Q () vs hp') : AW C A b env IsU (setAttr (.ref (S.info j)) (Str.ofString "npredecessors") (.int v t)) Q vs hp :=
  AW.setAttrSlot (p := 42) (k := 1) E.ok (h.node j hj) (h.noded j hj) isInt (by decide) (by walk_at "k") (by walk_at "k") (by walk_at "k") (by walk_at "k") (by walk_at "k") rfl (hQ _ (Steps.setNp h hj v))
theorem Meth.list {a : Addr} {as : List AV} {name : Str} {id : String} (hn : hp a = some (.list as)) (slot : Slot "list" name id) (hty : typeOf (.builtin id) = Pure.pure (.type "method_descriptor")) : Meth C hp (.ref a) name (.builtin id) :=
  Meth.builtin (RelH.listTy hn) F.plainAttrs_list slot hty
/-- an append to a node's successors -/
theorem scAppend (E : EnvIs names b env) (h : SAt 137 40 S hp) {j v : Int} {t : Tok} (hj : j ∈ S.keys) (hz : (S.sc j).length < 100000) {Q : AV → Vars → AHeap → Prop} (hQ : ∀ hp', Steps 137 40 S hp { S with sc := upd S.sc j (S.sc j ++ [v]) } hp' → Q .none vs hp') :
    AW C A b env Is (call (.builtin "list.append") [.ref (S.scA j), .int v t]) Q vs hp := by
  refine AW.ofCW E.ok (CW.append (h.succ j hj) (by simpa using hz) isInt ?_)
  have := hQ _ (Steps.setSc h hj (S.sc j ++ [v]))
  rwa [List.map_append] at this

noncomputable def addP (g : Gr) (k : Int) (ps : List Int) : Gr :=
  ps.foldl (fun g p => { ensure g p with sc := upd (ensure g p).sc p ((ensure g p).sc p ++ [k]) }) { ensure g k with np := upd (ensure g k).np k ((ensure g k).np k + ps.length) }
theorem ensure_len {g : Gr} {k : Int} : (ensure g k).keys.length ≤ g.keys.length + 1 := by
  unfold ensure; split <;> simp
theorem ensure_sc {g : Gr} {k : Int} {n : Nat} (hn : 0 < n) (h : ∀ j ∈ g.keys, (g.sc j).length < n) : ∀ j ∈ (ensure g k).keys, ((ensure g k).sc j).length < n := by
  unfold ensure
  split
  · exact h
  · intro j hj
    rcases List.mem_append.mp hj with q | q
    · show (upd g.sc k [] j).length < n
      unfold upd; split
      · exact hn
      · exact h j q
    · rw [List.mem_singleton.mp q]; show (upd g.sc k [] k).length < n
      rw [upd_same]; exact hn

theorem addSpec (hK : C.K = KK C.w.params) (r : Room (k + 4) A) (h : SAt 137 40 S hp) (hr : S.ready = none) {kk : Int} {t : Tok} {ps : List Int} {us : List Value} (ius : IsL (ps.map .int) us) {Q : AV → AHeap → Prop}
    (hps : ps.length ≤ 1) (hz : S.keys.length < 900) (hs : ∀ j ∈ S.keys, (S.sc j).length < 900)
    (hQ : ∀ S' hp', Steps 137 40 S hp S' hp' → S'.gr = addP S.gr kk ps → S'.ready = none → S'.passed = S.passed → S'.finished = S.finished → Q .none hp') :
    CC C A (.ref 87) ⟨.ref S.x :: .int kk t :: us, []⟩ Q hp := by
  refine CC.fn r.room (by walk_at "k") rfl (by walk_at "k") rfl rfl rfl rfl rfl rfl rfl rfl ?_
  have hl : us.length = ps.length := by rw [F2.length ius]; simp
  refine CW.bindsRest (ab := [(Str.ofString "self", .ref S.x), (Str.ofString "node", .int kk)]) (binds := [(Str.ofString "self", .ref S.x), (Str.ofString "node", .int kk t)]) (xs := us) (a := Str.ofString "predecessors") (by rcases us with _ | ⟨u, _ | ⟨_, _⟩⟩ <;> first | rfl | (simp at hl; omega)) ?_ (.cons ⟨rfl, rfl⟩ (.cons ⟨rfl, t, rfl⟩ .nil)) ius fun tt htt => ⟨rfl, fun env E hf => ?_⟩
  · refine small_size ?_
    show us.length < 100000
    omega
  dsimp only at E
  have rd := r.deeper env
  have h0 : SAt 137 40 S (hp.put tt (.tup (ps.map .int))) := (Steps.fresh h htt).at_
  have ft : ¬ S.foot tt := h.notFoot htt
  -- if self._ready_nodes is not None
  walk_at "x"
  refine AW.isTrue_Compare1 ?_
  walk_at "e"; walk_at "e"; walk_at "i"
  refine selfGet (a := .none) hK h0 (by unfold SS.nsl; rw [hr]; rfl) rfl rfl (AW.cNone ?_)
  walk_at "ii"
  refine AW.ofCW E.ok (CW.isNotNone isNon rfl ⟨false, rfl, ?_⟩)
  walk_at "x"
  -- nodeinfo = self._get_nodeinfo(node)
  walk_at "x"; walk_at "e"; walk_at "e"; walk_at "i"
  refine ⟨_, selfCall hK h0 (f := 80) rfl rfl rfl, AW.call1 E ?_⟩
  walk_at "e"; walk_at "i"
  refine ⟨Keeps.fn (by walk_at "k"), AW.ofCW E.ok (CC.cw (getInfo (C := C.push env) hK rd h0 (by omega) fun S1 hp1 st1 g1 r1 p1 f1 => ?_))⟩
  walk_at "i"
  walk_at "s"
  have k1 : kk ∈ S1.keys := by show kk ∈ S1.gr.keys; rw [g1]; exact mem_ensure
  have ⟨ot1, nf1⟩ := st1.keep tt _ AHeap.get_same ft
  -- nodeinfo.npredecessors += len(predecessors)
  walk_at "x"; walk_at "e"; walk_at "i"
  refine npGet hK st1.at_ k1 ?_
  walk_at "e"
  walk_at "b"
  refine AW.call1 E ?_
  walk_at "e"; walk_at "i"
  refine ⟨Keeps.builtin, AW.ofCW E.ok (CW.lenTup ot1 (by simp; omega) ?_)⟩
  walk_at "ii"
  refine AW.ofCW E.ok (CW.iaddI ?_)
  walk_at "i"
  refine npSet hK E st1.at_ k1 fun hp2 st2 => ?_
  have st12 := st1.trans st2
  have ⟨ot2, nf2⟩ := st2.keep tt _ ot1 nf1
  -- the loop
  walk_at "c"; refine AW.execsCons fun _ _ => (AW.For rd.h ?_)
  walk_at "e"
  let gi : Nat → Gr := fun i => (ps.take i).foldl (fun g p => { ensure g p with sc := upd (ensure g p).sc p ((ensure g p).sc p ++ [kk]) }) { ensure S.gr kk with np := upd (ensure S.gr kk).np kk ((ensure S.gr kk).np kk + ps.length) }
  refine ⟨_, ps.map .int, _, Walker.tup (l := tt), fun v iv => by cases iv; exact Starts.tup ot2, fun i vs hp3 => ∃ S3, Steps 137 40 S (hp.put tt (.tup (ps.map .int))) S3 hp3 ∧ S3.gr = gi i ∧ S3.ready = none ∧ S3.passed = S.passed ∧ S3.finished = S.finished ∧
    vs (Str.ofString "self") = some (.ref S.x) ∧ vs (Str.ofString "node") = some (.int kk), ?_, ?_, ?_, ?_⟩
  · refine ⟨_, st12, ?_, r1.trans hr, p1, f1, by walk_at "v", by walk_at "v"⟩
    show (⟨S1.gr.keys, upd S1.gr.np kk (S1.gr.np kk + _), S1.gr.sc⟩ : Gr) = gi 0
    rw [g1, List.length_map]
    rfl
  · rintro i vs hp3 ⟨S3, st3, _⟩
    exact (st3.keep tt _ AHeap.get_same ft).1
  · rintro i a vs hp3 ha ⟨S3, st3, g3, r3, p3, f3, vs1, vs2⟩ v iv _ _
    have hi : i < ps.length := by have := (List.getElem?_eq_some_iff.mp ha).1; simpa using this
    have i0 : i = 0 := by omega
    subst i0
    obtain ⟨p, hp⟩ : ∃ p, ps = [p] := by
      rcases ps with _ | ⟨p, _ | ⟨_, _⟩⟩
      · exact absurd hi (by simp)
      · exact ⟨p, rfl⟩
      · simp at hps
    subst hp
    cases ha
    have kz : S3.keys.length < 1000 := by
      show S3.gr.keys.length < 1000
      rw [g3]
      have := ensure_len (g := S.gr) (k := kk)
      exact Nat.lt_of_le_of_lt this (by show S.keys.length + 1 < 1000; omega)
    have sz : ∀ j ∈ S3.gr.keys, (S3.gr.sc j).length < 900 := by
      rw [g3]
      exact ensure_sc (by decide) hs
    refine AW.assignName ?_
    walk_at "s"
    walk_at "x"; walk_at "e"; walk_at "e"; walk_at "i"
    rw [← st3.x]
    refine ⟨_, selfCall hK st3.at_ (f := 80) rfl rfl rfl, AW.call1 E ?_⟩
    walk_at "e"; walk_at "i"
    refine ⟨Keeps.fn (by walk_at "k"), AW.ofCW E.ok (CC.cw (getInfo (C := C.push env) hK rd st3.at_ kz fun S4 hp4 st4 g4 r4 p4 f4 => ?_))⟩
    walk_at "i"
    walk_at "s"
    have k4 : p ∈ S4.keys := by show p ∈ S4.gr.keys; rw [g4]; exact mem_ensure
    walk_at "x"; walk_at "e"; walk_at "e"; walk_at "e"; walk_at "i"
    refine scGet hK st4.at_ k4 ?_
    walk_at "i"
    refine ⟨_, Meth.list (st4.at_.succ p k4) F.slot_list_append F.type_list_append, AW.call1 E ?_⟩
    walk_at "e"; walk_at "i"
    refine ⟨Keeps.builtin, scAppend E st4.at_ k4 ?_ fun hp5 st5 => ?_⟩
    · have := ensure_sc (k := p) (by decide) sz p mem_ensure
      rw [← g4] at this
      exact Nat.lt_trans this (by decide)
    walk_at "x"
    refine ⟨_, (st3.trans st4).trans st5, ?_, r4.trans r3, p4.trans p3, f4.trans f3, by walk_at "v", by walk_at "v"⟩
    show (⟨S4.gr.keys, S4.gr.np, upd S4.gr.sc p (S4.gr.sc p ++ [kk])⟩ : Gr) = gi 1
    rw [g4, g3]
    rfl
  · rintro vs hp3 ⟨S3, st3, g3, r3, p3, f3, vs1, vs2⟩
    walk_at "x"; walk_at "x"
    refine hQ S3 hp3 ?_ ?_ r3 p3 f3
    · exact (Steps.fresh h htt).trans st3
    · rw [g3]; show gi (ps.map AV.int).length = _
      unfold addP
      simp only [gi, List.length_map, List.take_length]
end


section
variable {C : Cx} {A : Around} {hp : AHeap} {k : Nat} {S : SS} {b : Str → Bool} {env : Env} {vs : Vars} {names : List (Str × NameKind)}
noncomputable def SS.empty (x d n : Addr) : SS := { x := x, d := d, n2i := n, keys := [], np := fun _ => 0, sc := fun _ => [], info := fun _ => 0, infod := fun _ => 0, scA := fun _ => 0, ready := none, passed := 0, finished := 0 }

theorem sortInit (hK : C.K = KK C.w.params) (r : Room (k + 1) A) {x d : Addr} {Q : AV → AHeap → Prop} (hx : hp x = some (.inst 137 d)) (hd : hp d = some (.ns [])) (xd : x ≠ d)
    (h : ∀ n hp', hp n = none → hp' d = some (.ns (SS.empty x d n).nsl) → hp' n = some (.dict [] 0) → (∀ a o, a ≠ d → hp a = some o → hp' a = some o) → Q .none hp') :
    CC C A (.ref 73) ⟨[.ref x], []⟩ Q hp := by
  refine CC.fn r.room (by walk_at "k") rfl (by walk_at "k") rfl rfl rfl rfl rfl rfl rfl rfl ?_
  refine CW.bindsPeek (ab := [(Str.ofString "self", .ref x), (Str.ofString "graph", .none)]) (binds := [(Str.ofString "self", .ref x), (Str.ofString "graph", .none)]) (fun S => by walk_at "k") (.cons ⟨rfl, rfl⟩ (.cons ⟨rfl, rfl⟩ .nil)) ⟨rfl, fun env E hf => ?_⟩
  dsimp only at E
  -- self._node2info = {}
  walk_at "c"; refine AW.execsCons fun _ _ => (AW.AssignAttr (AW.DictEmpty fun n hn => ?_))
  walk_at "n"; walk_at "ii"
  have nd : n ≠ d := fun e => by rw [e, hd] at hn; cases hn
  have nx : n ≠ x := fun e => by rw [e, hx] at hn; cases hn
  refine AW.setAttrNs (a := .ref n) E.ok (AHeap.get_new hn hx) (AHeap.get_new hn hd) isRef (Nat.le_of_ble_eq_true rfl) (by walk_at "k") (by walk_at "k") (by walk_at "k") (by walk_at "k") ?_
  -- self._ready_nodes = None
  walk_at "c"; refine AW.execsCons fun _ _ => (AW.AssignAttr (AW.cNone ?_))
  walk_at "n"; walk_at "ii"
  refine AW.setAttrNs (a := .none) E.ok (AHeap.get_ne xd (AHeap.get_new hn hx)) AHeap.get_same isNon (Nat.le_of_ble_eq_true rfl) (by walk_at "k") (by walk_at "k") (by walk_at "k") (by walk_at "k") ?_
  rw [AHeap.put_put]
  -- self._npassedout = 0
  walk_at "c"; refine AW.execsCons fun _ _ => (AW.AssignAttr (AW.cInt ?_))
  walk_at "n"; walk_at "ii"
  refine AW.setAttrNs (a := .int 0) E.ok (AHeap.get_ne xd (AHeap.get_new hn hx)) AHeap.get_same isInt (Nat.le_of_ble_eq_true rfl) (by walk_at "k") (by walk_at "k") (by walk_at "k") (by walk_at "k") ?_
  rw [AHeap.put_put]
  -- self._nfinished = 0
  walk_at "c"; refine AW.execsCons fun _ _ => (AW.AssignAttr (AW.cInt ?_))
  walk_at "n"; walk_at "ii"
  refine AW.setAttrNs (a := .int 0) E.ok (AHeap.get_ne xd (AHeap.get_new hn hx)) AHeap.get_same isInt (Nat.le_of_ble_eq_true rfl) (by walk_at "k") (by walk_at "k") (by walk_at "k") (by walk_at "k") ?_
  rw [AHeap.put_put]
  -- if graph is not None
  walk_at "x"
  refine AW.isTrue_Compare1 ?_
  walk_at "e"
  refine AW.cNone ?_
  walk_at "ii"
  refine AW.ofCW E.ok (CW.isNotNone isNon rfl ⟨false, rfl, ?_⟩)
  walk_at "x"; walk_at "x"
  refine h n _ hn AHeap.get_same (AHeap.get_ne nd AHeap.get_same) fun a o ax e => ?_
  exact AHeap.get_ne ax (AHeap.get_new hn e)

/-- a new sorter -/
theorem sortMake (hK : C.K = KK C.w.params) (r : Room (k + 2) A) {Q : AV → AHeap → Prop}
    (h : ∀ S hp', SAt 137 40 S hp' → S.gr = ⟨[], fun _ => 0, fun _ => []⟩ → S.ready = none → S.passed = 0 → S.finished = 0 → (∀ a o, hp a = some o → hp' a = some o ∧ ¬ S.foot a) → Q (.ref S.x) hp') :
    CC C A (.ref 137) ⟨[], []⟩ Q hp := by
  refine CC.make (ao := fun d => .inst 137 d) (fun d => rfl) (by walk_at "k") (by walk_at "k") (by walk_at "k") fun x d hx hd xd => ?_
  have hd1 : ((hp.put d (.ns [])).put x (.inst 137 d)) d = some (.ns []) := AHeap.get_ne (Ne.symm xd) AHeap.get_same
  refine sortInit hK (r.make _ _) AHeap.get_same hd1 xd fun n hp' hn od on keep => ⟨rfl, ?_⟩
  have nx : n ≠ x := fun e => by rw [e, AHeap.get_same] at hn; cases hn
  have nd : n ≠ d := fun e => by rw [e, hd1] at hn; cases hn
  have hn0 : hp n = none := by rw [AHeap.get_ne nx rfl, AHeap.get_ne nd rfl] at hn; exact hn
  refine h (SS.empty x d n) hp' ⟨keep x _ xd AHeap.get_same, od, ⟨0, on⟩, ?_, ?_, ?_, ?_, .nil, ?_, ?_, ?_, ?_⟩ rfl rfl rfl rfl fun a o e => ?_
  · intro j hj; cases hj
  · intro j hj; cases hj
  · intro j hj; cases hj
  · intro a l q; cases q
  · intro j hj; cases hj
  · intro j hj; cases hj
  · intro a l q; cases q
  · intro j hj; cases hj
  · have ax : a ≠ x := fun q => by rw [q, hx] at e; cases e
    have ad : a ≠ d := fun q => by rw [q, hd] at e; cases e
    have an : a ≠ n := fun q => by rw [q, hn0] at e; cases e
    refine ⟨keep a o ad (AHeap.get_ne ax (AHeap.get_ne ad e)), fun f => ?_⟩
    rcases f with f | f | f | ⟨j, hj, _⟩ | ⟨l, f⟩
    · exact ax f
    · exact ad f
    · exact an f
    · cases hj
    · cases f
end


section
variable {C : Cx} {A : Around} {hp : AHeap} {k : Nat} {S : SS} {b : Str → Bool} {env : Env} {vs : Vars} {names : List (Str × NameKind)}
/-- self.f = an int -/
theorem selfSet (hK : C.K = KK C.w.params) (E : EnvIs names b env) (h : SAt 137 40 S hp) {p f : Int} {name : Str} {v : Int} {t : Tok} {Q : Unit → Vars → AHeap → Prop} (he : putA name (.int v) S.nsl = ({ S with passed := p, finished := f } : SS).nsl)
    (ht : takerIn (KK C.w.params) 137 name = some none) (hQ : ∀ hp', Steps 137 40 S hp { S with passed := p, finished := f } hp' → Q () vs hp') : AW C A b env IsU (setAttr (.ref S.x) name (.int v t)) Q vs hp := by
  refine AW.setAttrNs (a := .int v) E.ok h.inst h.dict isInt (by rw [he]; exact Nat.le_of_ble_eq_true rfl) (by walk_at "k") (by walk_at "k") (by rw [hK]; exact ht) (by walk_at "k") ?_
  rw [he]
  exact hQ _ (Steps.setNs h p f)

theorem n2iSub {value slice : Expr} (E : EnvIs names b env) (h : SAt 137 40 S hp) {j : Int} {t : Tok} (hj : j ∈ S.keys) {Q : AV → Vars → AHeap → Prop} (hQ : Q (.ref (S.info j)) vs hp)
    (hs : subscripted slice false (.ref S.n2i) (.int j t) = operate [.ref S.n2i, .int j t] (getItem (.ref S.n2i) (.int j t)) := by with_unfolding_all rfl) :
    AW C A b env Is (subscriptTail value slice (.ref S.n2i) (.int j t)) Q vs hp := by
  obtain ⟨ep, hn⟩ := h.n2i
  exact AW.ofCW E.ok (CW.subDict hn (by rw [getA_kvs, if_pos hj]) hQ hs)

noncomputable def outNp (np : Int → Int) (l : List Int) : Int → Int := fun j => if j ∈ l then -1 else np j

theorem readySpec (hK : C.K = KK C.w.params) (r : Room (k + 1) A) (h : SAt 137 40 S hp) {a : Addr} {l : List Int} (hr : S.ready = some (a, l)) (hl : ∀ j ∈ l, j ∈ S.keys) (hz : l.length < 1000) {Q : AV → AHeap → Prop}
    (hQ : ∀ t S' hp', Steps 137 40 S hp S' hp' → S'.gr = ⟨S.keys, outNp S.np l, S.sc⟩ → S'.ready = some (a, []) → S'.passed = S.passed + l.length → S'.finished = S.finished → hp t = none → hp' t = some (.tup (l.map .int)) → ¬ S'.foot t → Q (.ref t) hp') :
    CC C A (.ref 99) ⟨[.ref S.x], []⟩ Q hp := by
  refine CC.fn r.room (by walk_at "k") rfl (by walk_at "k") rfl rfl rfl rfl rfl rfl rfl rfl ?_
  refine CW.bindsTo (ab := [(Str.ofString "self", .ref S.x)]) rfl (.cons ⟨rfl, rfl⟩ .nil) ⟨rfl, fun env E hf => ?_⟩
  dsimp only at E
  have rd := r.deeper env
  -- if self._ready_nodes is None
  walk_at "x"
  refine AW.isTrue_Compare1 ?_
  walk_at "e"; walk_at "e"; walk_at "i"
  refine selfGet (a := .ref a) hK h (by unfold SS.nsl; rw [hr]; rfl) rfl rfl (AW.cNone ?_)
  walk_at "ii"
  refine AW.ofCW E.ok (CW.isNone isRef rfl ⟨false, rfl, ?_⟩)
  walk_at "x"
  -- result = tuple(self._ready_nodes)
  walk_at "x"; walk_at "e"
  walk_at "b"
  refine AW.call1 E ?_
  walk_at "e"; walk_at "e"; walk_at "i"
  refine selfGet (a := .ref a) hK h (by unfold SS.nsl; rw [hr]; rfl) rfl rfl ?_
  walk_at "i"
  refine ⟨Keeps.type, AW.tupleOfList (h.ready a l hr) (by rw [List.length_map]; omega) fun t ht => ?_⟩
  have ft : ¬ S.foot t := h.notFoot ht
  have st0 := Steps.fresh (o := .tup (l.map .int)) h ht
  walk_at "i"; walk_at "s"
  -- n2i = self._node2info
  walk_at "x"; walk_at "e"; walk_at "e"; walk_at "i"
  refine selfGet (a := .ref S.n2i) hK st0.at_ rfl rfl rfl ?_
  walk_at "i"; walk_at "s"
  -- the loop
  walk_at "c"; refine AW.execsCons fun _ _ => (AW.For rd.h ?_)
  walk_at "e"
  refine ⟨_, l.map .int, _, Walker.tup (l := t), fun v iv => by cases iv; exact Starts.tup AHeap.get_same, fun i vs hp3 => ∃ S3, Steps 137 40 S (hp.put t (.tup (l.map .int))) S3 hp3 ∧ S3 = { S with np := outNp S.np (l.take i) } ∧
    vs (Str.ofString "self") = some (.ref S.x) ∧ vs (Str.ofString "result") = some (.ref t) ∧ vs (Str.ofString "n2i") = some (.ref S.n2i), ?_, ?_, ?_, ?_⟩
  · refine ⟨S, .refl st0.at_, ?_, by walk_at "v", by walk_at "v", by walk_at "v"⟩
    have : outNp S.np (l.take 0) = S.np := by funext j; simp [outNp]
    rw [this]
  · rintro i vs hp3 ⟨S3, st3, _⟩
    exact (st3.keep t _ AHeap.get_same ft).1
  · rintro i a' vs hp3 ha ⟨S3, st3, e3, vs1, vs2, vs3⟩ v iv _ _
    rw [List.getElem?_map] at ha
    cases hj : l[i]? with
    | none => rw [hj] at ha; cases ha
    | some j =>
      rw [hj] at ha; cases ha
      have jk : j ∈ S3.keys := by subst e3; exact hl j (List.mem_of_getElem? hj)
      have en : S3.n2i = S.n2i := by subst e3; rfl
      refine AW.assignName ?_
      walk_at "s"
      walk_at "x"
      refine AW.Name (AW.nGlobal (a := .int (-1)) E rfl (by walk_at "k") isInt ?_) rfl
      walk_at "e"; walk_at "e"; walk_at "e"; walk_at "ii"
      rw [← en]
      refine n2iSub E st3.at_ jk ?_
      walk_at "ii"
      refine npSet hK E st3.at_ jk fun hp4 st4 => ?_
      walk_at "x"
      refine ⟨_, st3.trans st4, ?_, by walk_at "v", by walk_at "v", by first | walk_at "v" | (rw [en]; walk_at "v")⟩
      subst e3
      show ({ S with np := upd (outNp S.np (l.take i)) j (-1) } : SS) = { S with np := outNp S.np (l.take (i + 1)) }
      congr 1
      funext m
      unfold upd outNp
      have : l.take (i + 1) = l.take i ++ [j] := by rw [List.take_add_one, hj]; rfl
      rw [this]
      by_cases q : m = j
      · simp [q]
      · by_cases q' : m ∈ l.take i <;> simp [q, q']
  · rintro vs hp3 ⟨S3, st3, e3, vs1, vs2, vs3⟩
    have e3' : S3 = { S with np := outNp S.np l } := by rw [e3]; simp
    have ⟨ot3, nf3⟩ := st3.keep t _ AHeap.get_same ft
    have hr3 : S3.ready = some (a, l) := by rw [e3]; exact hr
    have hx3 : S3.x = S.x := by rw [e3]
    have hr3' : S3.nsl.lookup (Str.ofString "_ready_nodes") = some (.ref a) := by unfold SS.nsl; rw [hr3]; rfl
    rw [← hx3] at vs1
    walk_at "x"
    -- self._ready_nodes.clear()
    walk_at "x"; walk_at "e"; walk_at "e"; walk_at "e"; walk_at "i"
    refine selfGet (a := .ref a) hK st3.at_ hr3' rfl rfl ?_
    walk_at "i"
    refine ⟨_, Meth.list (st3.at_.ready a l hr3) F.slot_list_clear F.type_list_clear, AW.call0 E Keeps.builtin ?_⟩
    refine AW.ofCW E.ok (CW.clear (st3.at_.ready a l hr3) (by rw [List.length_map]; omega) ?_)
    have st4 := Steps.setReady st3.at_ hr3 []
    have ⟨ot4, nf4⟩ := st4.keep t _ ot3 nf3
    -- self._npassedout += len(result)
    walk_at "x"; walk_at "e"; walk_at "i"
    refine selfGet (a := .int S3.passed) (name := Str.ofString "_npassedout") (S := { S3 with ready := some (a, []) }) hK st4.at_ rfl rfl rfl ?_
    walk_at "e"
    walk_at "b"
    refine AW.call1 E ?_
    walk_at "e"; walk_at "i"
    refine ⟨Keeps.builtin, AW.ofCW E.ok (CW.lenTup ot4 (by rw [List.length_map]; omega) ?_)⟩
    walk_at "ii"
    refine AW.ofCW E.ok (CW.iaddI ?_)
    walk_at "i"
    refine selfSet (name := Str.ofString "_npassedout") (S := { S3 with ready := some (a, []) }) (p := S3.passed + (l.map AV.int).length) (f := S3.finished) hK E st4.at_ rfl rfl fun hp5 st5 => ?_
    walk_at "x"; walk_at "e"
    have ⟨ot5, nf5⟩ := st5.keep t _ ot4 nf4
    refine hQ t _ hp5 (((st0.trans st3).trans st4).trans st5) ?_ rfl ?_ ?_ ht ot5 nf5
    · rw [e3']; rfl
    · rw [e3', List.length_map]
    · rw [e3']

theorem activeSpec (hK : C.K = KK C.w.params) (r : Room (k + 1) A) (h : SAt 137 40 S hp) {a : Addr} {l : List Int} (hr : S.ready = some (a, l)) (hz : l.length < 1000) {Q : AV → AHeap → Prop}
    (hQ : Q (.bool (decide (S.finished < S.passed) || !l.isEmpty)) hp) :
    CC C A (.ref 106) ⟨[.ref S.x], []⟩ Q hp := by
  refine CC.fn r.room (by walk_at "k") rfl (by walk_at "k") rfl rfl rfl rfl rfl rfl rfl rfl ?_
  refine CW.bindsTo (ab := [(Str.ofString "self", .ref S.x)]) rfl (.cons ⟨rfl, rfl⟩ .nil) ⟨rfl, fun env E hf => ?_⟩
  dsimp only at E
  walk_at "x"
  refine AW.isTrue_Compare1 ?_
  walk_at "e"; walk_at "e"; walk_at "i"
  refine selfGet (a := .ref a) hK h (by unfold SS.nsl; rw [hr]; rfl) rfl rfl (AW.cNone ?_)
  walk_at "ii"
  refine AW.ofCW E.ok (CW.isNone isRef rfl ⟨false, rfl, ?_⟩)
  walk_at "x"
  walk_at "x"
  refine AW.Or2 (AW.Compare1 ?_)
  walk_at "e"; walk_at "e"; walk_at "i"
  refine selfGet (a := .int S.finished) hK h rfl rfl rfl ?_
  walk_at "e"; walk_at "e"; walk_at "i"
  refine selfGet (a := .int S.passed) hK h rfl rfl rfl ?_
  walk_at "ii"
  refine AW.ofCW E.ok (CW.ltI ⟨_, rfl, ?_⟩)
  by_cases q : S.finished < S.passed
  · simp only [q, decide_true, if_true]
    simp only [q, decide_true, Bool.true_or] at hQ
    exact hQ
  · simp only [q, decide_false]
    simp only [q, decide_false, Bool.false_or] at hQ
    rw [if_neg (by decide)]
    walk_at "e"
    walk_at "b"
    refine AW.call1 E ?_
    walk_at "e"; walk_at "e"; walk_at "i"
    refine selfGet (a := .ref a) hK h (by unfold SS.nsl; rw [hr]; rfl) rfl rfl ?_
    walk_at "i"
    refine ⟨Keeps.type, AW.ofCW E.ok (CW.boolList (h.ready a l hr) (by rw [List.length_map]; omega) ?_)⟩
    rw [List.isEmpty_map]
    exact hQ
end


section
variable {C : Cx} {A : Around} {hp : AHeap} {k : Nat} {S : SS} {b : Str → Bool} {env : Env} {vs : Vars} {names : List (Str × NameKind)}
noncomputable def dec1 (st : (Int → Int) × List Int) (s : Int) : (Int → Int) × List Int := (upd st.1 s (st.1 s - 1), if st.1 s - 1 = 0 then st.2 ++ [s] else st.2)
theorem dec1_len (st : (Int → Int) × List Int) (s : Int) : (dec1 st s).2.length ≤ st.2.length + 1 := by unfold dec1; split <;> simp
theorem dec1_zero {st : (Int → Int) × List Int} {s : Int} (z : st.1 s - 1 = 0) : dec1 st s = (upd st.1 s (st.1 s - 1), st.2 ++ [s]) := by unfold dec1; rw [if_pos z]
theorem dec1_nz {st : (Int → Int) × List Int} {s : Int} (z : ¬ st.1 s - 1 = 0) : dec1 st s = (upd st.1 s (st.1 s - 1), st.2) := by unfold dec1; rw [if_neg z]
theorem decs_len : ∀ (l : List Int) (st : (Int → Int) × List Int), (l.foldl dec1 st).2.length ≤ st.2.length + l.length
  | [], st => by simp
  | s :: r, st => by
    have h1 := decs_len r (dec1 st s)
    have h2 := dec1_len st s
    simp only [List.foldl_cons, List.length_cons]
    omega

theorem doneSpec (hK : C.K = KK C.w.params) (r : Room (k + 1) A) (h : SAt 137 40 S hp) {a : Addr} {l : List Int} (hr : S.ready = some (a, l)) {kk : Int} {t : Tok} (hk : kk ∈ S.keys) (hn : S.np kk = -1) (hs : ∀ j ∈ S.sc kk, j ∈ S.keys) (hz : l.length + (S.sc kk).length < 1000) {Q : AV → AHeap → Prop}
    (hQ : ∀ S' hp', Steps 137 40 S hp S' hp' → S'.gr = ⟨S.keys, ((S.sc kk).foldl dec1 (upd S.np kk (-2), l)).1, S.sc⟩ → S'.ready = some (a, ((S.sc kk).foldl dec1 (upd S.np kk (-2), l)).2) → S'.passed = S.passed → S'.finished = S.finished + 1 → Q .none hp') :
    CC C A (.ref 120) ⟨[.ref S.x, .int kk t], []⟩ Q hp := by
  refine CC.fn r.room (by walk_at "k") rfl (by walk_at "k") rfl rfl rfl rfl rfl rfl rfl rfl ?_
  refine CW.bindsRest (ab := [(Str.ofString "self", .ref S.x)]) (binds := [(Str.ofString "self", .ref S.x)]) (xs := [.int kk t]) (zs := [.int kk]) (a := Str.ofString "nodes") rfl ?_ (.cons ⟨rfl, rfl⟩ .nil) (.cons isInt .nil) fun tt htt => ⟨rfl, fun env E hf => ?_⟩
  · exact small_size (show 1 < 100000 by decide)
  dsimp only at E
  have rd := r.deeper env
  have st0 := Steps.fresh (o := .tup [.int kk]) h htt
  have ft : ¬ S.foot tt := h.notFoot htt
  -- if self._ready_nodes is None
  walk_at "x"
  refine AW.isTrue_Compare1 ?_
  walk_at "e"; walk_at "e"; walk_at "i"
  refine selfGet (a := .ref a) hK st0.at_ (by unfold SS.nsl; rw [hr]; rfl) rfl rfl (AW.cNone ?_)
  walk_at "ii"
  refine AW.ofCW E.ok (CW.isNone isRef rfl ⟨false, rfl, ?_⟩)
  walk_at "x"
  -- n2i = self._node2info
  walk_at "x"; walk_at "e"; walk_at "e"; walk_at "i"
  refine selfGet (a := .ref S.n2i) hK st0.at_ rfl rfl rfl ?_
  walk_at "i"; walk_at "s"
  -- the outer loop
  walk_at "c"; refine AW.execsCons fun _ _ => (AW.For rd.h ?_)
  walk_at "e"
  refine ⟨_, [.int kk], _, Walker.tup (l := tt), fun v iv => by cases iv; exact Starts.tup AHeap.get_same, fun i vs hp3 => ∃ S3, Steps 137 40 S (hp.put tt (.tup [.int kk])) S3 hp3 ∧
    (if i = 0 then S3 = S ∧ hp3 = hp.put tt (.tup [.int kk]) else S3.gr = ⟨S.keys, ((S.sc kk).foldl dec1 (upd S.np kk (-2), l)).1, S.sc⟩ ∧ S3.ready = some (a, ((S.sc kk).foldl dec1 (upd S.np kk (-2), l)).2) ∧ S3.passed = S.passed ∧ S3.finished = S.finished + 1) ∧
    vs (Str.ofString "self") = some (.ref S.x) ∧ vs (Str.ofString "n2i") = some (.ref S.n2i), ?_, ?_, ?_, ?_⟩
  · exact ⟨S, .refl st0.at_, ⟨rfl, rfl⟩, by walk_at "v", by walk_at "v"⟩
  · rintro i vs hp3 ⟨S3, st3, _⟩
    exact (st3.keep tt _ AHeap.get_same ft).1
  · rintro i a' vs hp3 ha ⟨S3, st3, e3, vs1, vs2⟩ v iv _ _
    have i0 : i = 0 := by have := (List.getElem?_eq_some_iff.mp ha).1; simpa using this
    subst i0
    rw [if_pos rfl] at e3
    obtain ⟨rfl, rfl⟩ := e3
    cases ha
    refine AW.assignName ?_
    walk_at "s"
    -- if (nodeinfo := n2i.get(node)) is None
    walk_at "x"
    refine AW.isTrue_Compare1 ?_
    walk_at "e"; walk_at "e"; walk_at "e"; walk_at "i"
    obtain ⟨ep, hn2⟩ := st0.at_.n2i
    refine ⟨.builtin "dict.get", Meth.dict hn2 F.slot_dict_get F.type_dict_get, ?_⟩
    refine AW.call1 E ?_
    walk_at "e"; walk_at "i"
    refine ⟨Keeps.builtin, AW.ofCW E.ok (CW.getDict hn2 ?_)⟩
    rw [getA_kvs, if_pos hk]
    intro v iv
    cases iv
    refine AW.assignName ?_
    walk_at "s"
    refine AW.cNone ?_
    walk_at "ii"
    refine AW.ofCW E.ok (CW.isNone isRef rfl ⟨false, rfl, ?_⟩)
    walk_at "x"
    -- stat = nodeinfo.npredecessors
    walk_at "x"; walk_at "e"; walk_at "e"; walk_at "i"
    refine npGet hK st0.at_ hk ?_
    walk_at "i"; walk_at "s"
    -- if stat != _NODE_OUT
    walk_at "x"
    refine AW.isTrue_Compare1 ?_
    walk_at "e"
    refine AW.Name (AW.nGlobal (a := .int (-1)) E rfl (by walk_at "k") isInt ?_) rfl
    walk_at "ii"
    refine AW.ofCW E.ok (CW.neI ⟨_, rfl, ?_⟩)
    rw [hn]
    rw [if_neg (by decide)]
    walk_at "x"
    -- nodeinfo.npredecessors = _NODE_DONE
    walk_at "x"
    refine AW.Name (AW.nGlobal (a := .int (-2)) E rfl (by walk_at "k") isInt ?_) rfl
    walk_at "e"; walk_at "ii"
    refine npSet hK E st0.at_ hk fun hp4 st4 => ?_
    -- the inner loop
    walk_at "c"; refine AW.execsCons fun _ _ => (AW.For rd.h ?_)
    walk_at "e"; walk_at "e"; walk_at "i"
    refine scGet (S := { S3 with np := upd S3.np kk (-2) }) hK st4.at_ hk ?_
    refine ⟨_, (S3.sc kk).map .int, _, Walker.list (l := S3.scA kk), fun v iv => by cases iv; exact Starts.list (st4.at_.succ kk hk), fun i vs hp5 => ∃ S5, Steps 137 40 S3 (hp.put tt (.tup [.int kk])) S5 hp5 ∧
      S5 = { S3 with np := (((S3.sc kk).take i).foldl dec1 (upd S3.np kk (-2), l)).1, ready := some (a, (((S3.sc kk).take i).foldl dec1 (upd S3.np kk (-2), l)).2) } ∧
      vs (Str.ofString "self") = some (.ref S3.x) ∧ vs (Str.ofString "n2i") = some (.ref S3.n2i), ?_, ?_, ?_, ?_⟩
    · refine ⟨_, st4, ?_, by walk_at "v", by walk_at "v"⟩
      simp only [List.take_zero, List.foldl_nil, hr]
    · rintro i vs hp5 ⟨S5, st5, e5, _⟩
      have := st5.at_.succ kk (by rw [e5]; exact hk)
      rw [e5] at this; exact this
    · rintro i a' vs hp5 ha ⟨S5, st5, e5, vs1, vs2⟩ v iv _ _
      rw [List.getElem?_map] at ha
      cases hj : (S3.sc kk)[i]? with
      | none => rw [hj] at ha; cases ha
      | some j =>
        rw [hj] at ha; cases ha
        have hil : i < (S3.sc kk).length := (List.getElem?_eq_some_iff.mp hj).1
        have jk : j ∈ S5.keys := by rw [e5]; exact hs j (List.mem_of_getElem? hj)
        have en : S5.n2i = S3.n2i := by rw [e5]
        have ex : S5.x = S3.x := by rw [e5]
        rw [← en] at vs2
        refine AW.assignName ?_
        walk_at "s"
        -- successor_info = n2i[successor]
        walk_at "x"; walk_at "e"; walk_at "e"; walk_at "e"; walk_at "ii"
        refine n2iSub E st5.at_ jk ?_
        walk_at "i"; walk_at "s"
        -- successor_info.npredecessors -= 1
        walk_at "x"; walk_at "e"; walk_at "i"
        refine npGet hK st5.at_ jk ?_
        walk_at "e"; walk_at "ii"
        refine AW.ofCW E.ok (CW.isubI ?_)
        walk_at "i"
        refine npSet hK E st5.at_ jk fun hp6 st6 => ?_
        -- if successor_info.npredecessors == 0
        walk_at "x"
        refine AW.isTrue_Compare1 ?_
        walk_at "e"; walk_at "e"; walk_at "i"
        refine npGet (S := { S5 with np := upd S5.np j (S5.np j - 1) }) hK st6.at_ jk ?_
        walk_at "e"; walk_at "ii"
        refine AW.ofCW E.ok (CW.eqI ⟨_, rfl, ?_⟩)
        have tk : (S3.sc kk).take (i + 1) = (S3.sc kk).take i ++ [j] := by rw [List.take_add_one, hj]; rfl
        have fin : ∀ {m}, (((S3.sc kk).take (i + 1)).foldl dec1 m) = dec1 (((S3.sc kk).take i).foldl dec1 m) j := by intro m; rw [tk, List.foldl_append]; rfl
        have hr5 : S5.ready = some (a, (((S3.sc kk).take i).foldl dec1 (upd S3.np kk (-2), l)).2) := by rw [e5]
        have np5 : S5.np = (((S3.sc kk).take i).foldl dec1 (upd S3.np kk (-2), l)).1 := by rw [e5]
        by_cases z : S5.np j - 1 = 0
        · rw [if_pos (by show decide (upd S5.np j (S5.np j - 1) j = 0) = true; rw [upd_same]; exact decide_eq_true z)]
          -- self._ready_nodes.append(successor)
          rw [← ex] at vs1
          walk_at "x"; walk_at "e"; walk_at "e"; walk_at "e"; walk_at "i"
          refine selfGet (S := { S5 with np := upd S5.np j (S5.np j - 1) }) (a := .ref a) (name := Str.ofString "_ready_nodes") hK st6.at_ (by unfold SS.nsl; dsimp only; rw [hr5]; rfl) rfl rfl ?_
          walk_at "i"
          have hrl := st6.at_.ready a _ hr5
          refine ⟨_, Meth.list hrl F.slot_list_append F.type_list_append, AW.call1 E ?_⟩
          walk_at "e"; walk_at "i"
          refine ⟨Keeps.builtin, AW.ofCW E.ok (CW.append hrl ?_ isInt ?_)⟩
          · rw [List.length_map]
            have := decs_len ((S3.sc kk).take i) (upd S3.np kk (-2), l)
            rw [List.length_take] at this
            dsimp only at this
            omega
          walk_at "x"; walk_at "x"
          have st7 := Steps.setReady (S := { S5 with np := upd S5.np j (S5.np j - 1) }) st6.at_ hr5 ((((S3.sc kk).take i).foldl dec1 (upd S3.np kk (-2), l)).2 ++ [j])
          rw [List.map_append] at st7
          refine ⟨_, (st5.trans st6).trans st7, ?_, by first | walk_at "v" | (rw [← ex]; walk_at "v"), by first | walk_at "v" | (rw [← en]; walk_at "v")⟩
          subst e5
          rw [fin, dec1_zero z]
        · rw [if_neg (by show ¬ decide (upd S5.np j (S5.np j - 1) j = 0) = true; rw [upd_same]; exact fun q => z (of_decide_eq_true q))]
          walk_at "x"; walk_at "x"
          refine ⟨_, st5.trans st6, ?_, by walk_at "v", by first | walk_at "v" | (rw [← en]; walk_at "v")⟩
          subst e5
          rw [fin, dec1_nz z]
    · rintro vs hp5 ⟨S5, st5, e5, vs1, vs2⟩
      rw [List.length_map, List.take_length] at e5
      have ex : S5.x = S3.x := by rw [e5]
      walk_at "x"
      -- self._nfinished += 1
      rw [← ex] at vs1
      walk_at "x"; walk_at "e"; walk_at "i"
      refine selfGet (a := .int S5.finished) (name := Str.ofString "_nfinished") hK st5.at_ rfl rfl rfl ?_
      walk_at "e"; walk_at "ii"
      refine AW.ofCW E.ok (CW.iaddI ?_)
      walk_at "i"
      refine selfSet (p := S5.passed) (f := S5.finished + 1) hK E st5.at_ rfl rfl fun hp6 st6 => ?_
      walk_at "x"
      refine ⟨_, st5.trans st6, ?_, by rw [← ex]; exact vs1, vs2⟩
      rw [if_neg (by decide), e5]
      exact ⟨rfl, rfl, rfl, rfl⟩
  · rintro vs hp3 ⟨S3, st3, e3, vs1, vs2⟩
    rw [if_neg (fun q : [AV.int kk].length = 0 => by cases q)] at e3
    walk_at "x"; walk_at "x"
    exact hQ S3 hp3 (st0.trans st3) e3.1 e3.2.1 e3.2.2.1 e3.2.2.2
end

structure GOk (g : Gr) : Prop where
  nodup : g.keys.Nodup
  scK : ∀ k ∈ g.keys, ∀ j ∈ g.sc k, j ∈ g.keys
  up : ∀ k ∈ g.keys, ∀ j ∈ g.sc k, k < j
  kz : g.keys.length < 900
  sz : ∀ k ∈ g.keys, (g.sc k).length < 900

/-- one entry of the two stacks -/
structure Fm where
  n : Int
  mw : Addr
  it : Addr
  i : Nat

noncomputable def wt (g : Gr) (seen : List Int) : Nat := ((g.keys.filter fun k => decide (k ∉ seen)).map fun k => (g.sc k).length + 1).sum
noncomputable def vt (g : Gr) (fr : List Fm) : Nat := (fr.map fun f => (g.sc f.n).length - f.i).sum

theorem wt_add {g : Gr} {seen : List Int} {k : Int} (nd : g.keys.Nodup) (hk : k ∈ g.keys) (hs : k ∉ seen) : wt g seen = wt g (k :: seen) + (g.sc k).length + 1 := by
  unfold wt
  generalize g.keys = l at nd hk
  induction l with
  | nil => cases hk
  | cons a r ih =>
    rw [List.nodup_cons] at nd
    by_cases e : a = k
    · subst e
      have h1 : (a :: r).filter (fun k => decide (k ∉ seen)) = a :: r.filter (fun k => decide (k ∉ seen)) := by rw [List.filter_cons, if_pos (by simpa using hs)]
      have h2 : (a :: r).filter (fun k => decide (k ∉ a :: seen)) = r.filter (fun k => decide (k ∉ seen)) := by
        rw [List.filter_cons, if_neg (by simp)]
        refine List.filter_congr fun x hx => ?_
        have : x ≠ a := fun e => nd.1 (e ▸ hx)
        simp [this]
      rw [h1, h2, List.map_cons, List.sum_cons]; omega
    · have hk' : k ∈ r := by rcases List.mem_cons.mp hk with q | q; exact absurd q.symm e; exact q
      have ih := ih nd.2 hk'
      by_cases q : a ∈ seen
      · rw [List.filter_cons, if_neg (by simpa using q), List.filter_cons, if_neg (by simp [q])]; exact ih
      · rw [List.filter_cons, if_pos (by simpa using q), List.filter_cons, if_pos (by simp [q, e]), List.map_cons, List.sum_cons, List.map_cons, List.sum_cons]; omega

theorem vt_app {g : Gr} {fr : List Fm} {f : Fm} : vt g (fr ++ [f]) = vt g fr + ((g.sc f.n).length - f.i) := by unfold vt; simp

structure FC (S : SS) (hp0 hp : AHeap) (a1 a2 a3 a4 : Addr) (fr : List Fm) (seen : List Int) : Prop where
  ext : ∀ a o, hp0 a = some o → hp a = some o
  f1 : hp0 a1 = none
  f2 : hp0 a2 = none
  f3 : hp0 a3 = none
  f4 : hp0 a4 = none
  o1 : hp a1 = some (.list (fr.map fun f => .int f.n))
  o2 : hp a2 = some (.list (fr.map fun f => .ref f.mw))
  o3 : hp a3 = some (.set seen)
  o4 : ∃ kvs ep, hp a4 = some (.dict kvs ep) ∧ kvs.map (·.1) = fr.map (·.n)
  n12 : a1 ≠ a2
  mw : ∀ f ∈ fr, hp f.mw = some (.raw (mwO f.it)) ∧ hp f.it = some (.liter (S.scA f.n) f.i) ∧ hp0 f.it = none
  it : (fr.map Fm.it).Nodup
  keys : ∀ f ∈ fr, f.n ∈ S.keys
  inc : fr.Pairwise (fun f g => f.n < g.n)
  sn : seen.Nodup
  sk : ∀ k ∈ seen, k ∈ S.keys

theorem ne_objs {hp : AHeap} {a b : Addr} {o o' : AObj} (h : hp a = some o) (h' : hp b = some o') (n : o ≠ o') : a ≠ b := fun e => by
  subst e; rw [h] at h'; cases h'; exact n rfl
theorem ne_none {hp : AHeap} {a b : Addr} {o : AObj} (h : hp a = some o) (h' : hp b = none) : a ≠ b := fun e => by
  subst e; rw [h] at h'; cases h'
theorem AHeap.del_ne {hp : AHeap} {a d : Addr} {r : Option AObj} (h : a ≠ d) (g : hp a = r) : (hp.del d) a = r := by
  unfold AHeap.del; rw [if_neg h]; exact g

section
variable {S : SS} {hp0 hp : AHeap} {a1 a2 a3 a4 : Addr} {fr : List Fm} {seen : List Int}

theorem FC.len (h : FC S hp0 hp a1 a2 a3 a4 fr seen) : fr.length ≤ S.keys.length := by
  have nd : (fr.map Fm.n).Nodup := by
    rw [List.nodup_iff_pairwise_ne, List.pairwise_map]
    exact h.inc.imp fun q => by omega
  have := nd.length_le_of_subset (l₂ := S.keys) fun x hx => by
    obtain ⟨f, hf, rfl⟩ := List.mem_map.mp hx; exact h.keys f hf
  simpa using this
theorem FC.slen (h : FC S hp0 hp a1 a2 a3 a4 fr seen) : seen.length ≤ S.keys.length := h.sn.length_le_of_subset fun x hx => h.sk x hx

theorem FC.adv {f : Fm} (h : FC S hp0 hp a1 a2 a3 a4 (fr ++ [f]) seen) :
    FC S hp0 (hp.put f.it (.liter (S.scA f.n) (f.i + 1))) a1 a2 a3 a4 (fr ++ [{ f with i := f.i + 1 }]) seen := by
  obtain ⟨m1, m2, m3⟩ := h.mw f (by simp)
  obtain ⟨kvs, ep, o4, k4⟩ := h.o4
  refine ⟨fun a o e => AHeap.get_ne (ne_none e m3) (h.ext a o e), h.f1, h.f2, h.f3, h.f4, ?_, ?_, AHeap.get_ne (ne_objs h.o3 m2 (by intro q; cases q)) h.o3, ⟨kvs, ep, AHeap.get_ne (ne_objs o4 m2 (by intro q; cases q)) o4, ?_⟩, h.n12, ?_, ?_, ?_, ?_, h.sn, h.sk⟩
  · rw [AHeap.get_ne (ne_objs h.o1 m2 (by intro q; cases q)) h.o1]; simp
  · rw [AHeap.get_ne (ne_objs h.o2 m2 (by intro q; cases q)) h.o2]; simp
  · rw [k4]; simp
  · intro g hg
    rcases List.mem_append.mp hg with q | q
    · obtain ⟨g1, g2, g3⟩ := h.mw g (List.mem_append_left _ q)
      refine ⟨AHeap.get_ne (ne_objs g1 m2 (by intro q; cases q)) g1, AHeap.get_ne ?_ g2, g3⟩
      intro e
      have := h.it
      rw [List.map_append, List.nodup_append] at this
      exact this.2.2 g.it (List.mem_map_of_mem q) f.it (by simp) e
    · rw [List.mem_singleton.mp q]
      exact ⟨AHeap.get_ne (ne_objs m1 m2 (by intro q; cases q)) m1, AHeap.get_same, m3⟩
  · have := h.it; simpa using this
  · intro g hg
    rcases List.mem_append.mp hg with q | q
    · exact h.keys g (List.mem_append_left _ q)
    · rw [List.mem_singleton.mp q]; exact h.keys f (by simp)
  · have := h.inc
    rw [List.pairwise_append] at this ⊢
    refine ⟨this.1, by simp, fun a ha b hb => ?_⟩
    rw [List.mem_singleton.mp hb]; exact this.2.2 a ha f (by simp)

theorem FC.pop {f : Fm} (h : FC S hp0 hp a1 a2 a3 a4 (fr ++ [f]) seen) {kvs : List (Int × AV)} {ep ep' : Nat} (o4 : hp a4 = some (.dict kvs ep)) :
    FC S hp0 ((((hp.del f.it).put a1 (.list (fr.map fun f => .int f.n))).put a4 (.dict (delA kvs f.n) ep')).put a2 (.list (fr.map fun f => .ref f.mw))) a1 a2 a3 a4 fr seen := by
  obtain ⟨m1, m2, m3⟩ := h.mw f (by simp)
  have k4 : kvs.map (·.1) = (fr ++ [f]).map (·.n) := by
    obtain ⟨kvs', ep', o4', k4⟩ := h.o4; rw [o4] at o4'; cases o4'; exact k4
  have n14 : a1 ≠ a4 := ne_objs h.o1 o4 (by intro q; cases q)
  have n24 : a2 ≠ a4 := ne_objs h.o2 o4 (by intro q; cases q)
  have base : ∀ a o, hp a = some o → a ≠ f.it → a ≠ a1 → a ≠ a4 → a ≠ a2 → ((((hp.del f.it).put a1 (.list (fr.map fun f => .int f.n))).put a4 (.dict (delA kvs f.n) ep')).put a2 (.list (fr.map fun f => .ref f.mw))) a = some o :=
    fun a o e q1 q2 q3 q4 => AHeap.get_ne q4 (AHeap.get_ne q3 (AHeap.get_ne q2 (AHeap.del_ne q1 e)))
  refine ⟨fun a o e => base a o (h.ext a o e) (ne_none e m3) (ne_none e h.f1) (ne_none e h.f4) (ne_none e h.f2), h.f1, h.f2, h.f3, h.f4, AHeap.get_ne h.n12 (AHeap.get_ne n14 AHeap.get_same), AHeap.get_same,
    base _ _ h.o3 (ne_objs h.o3 m2 (by intro q; cases q)) (ne_objs h.o3 h.o1 (by intro q; cases q)) (ne_objs h.o3 o4 (by intro q; cases q)) (ne_objs h.o3 h.o2 (by intro q; cases q)),
    ⟨_, _, AHeap.get_ne (Ne.symm n24) AHeap.get_same, ?_⟩, h.n12, fun g hg => ?_, ?_, fun g hg => h.keys g (List.mem_append_left _ hg), (List.pairwise_append.mp h.inc).1, h.sn, h.sk⟩
  · unfold delA
    have : (kvs.filter fun p => decide (p.1 ≠ f.n)).map (·.1) = (kvs.map (·.1)).filter (fun x => decide (x ≠ f.n)) := by rw [List.filter_map]; rfl
    rw [this, k4, List.map_append, List.filter_append]
    have e1 : (fr.map Fm.n).filter (fun x => decide (x ≠ f.n)) = fr.map Fm.n := by
      rw [List.filter_eq_self]
      intro x hx
      obtain ⟨g, hg, rfl⟩ := List.mem_map.mp hx
      have := (List.pairwise_append.mp h.inc).2.2 g hg f (by simp)
      simp; omega
    rw [e1]; simp
  · obtain ⟨g1, g2, g3⟩ := h.mw g (List.mem_append_left _ hg)
    have ni : g.it ≠ f.it := fun e => by
      have := h.it
      rw [List.map_append, List.nodup_append] at this
      exact this.2.2 g.it (List.mem_map_of_mem hg) f.it (by simp) e
    refine ⟨base _ _ g1 (ne_objs g1 m2 (by intro q; cases q)) (ne_objs g1 h.o1 (by intro q; cases q)) (ne_objs g1 o4 (by intro q; cases q)) (ne_objs g1 h.o2 (by intro q; cases q)),
      base _ _ g2 ni (ne_objs g2 h.o1 (by intro q; cases q)) (ne_objs g2 o4 (by intro q; cases q)) (ne_objs g2 h.o2 (by intro q; cases q)), g3⟩
  · have := h.it; rw [List.map_append, List.nodup_append] at this; exact this.1

theorem FC.push (h : FC S hp0 hp a1 a2 a3 a4 fr seen) {nd : Int} {mw it : Addr} {kvs : List (Int × AV)} {ep ep' : Nat} (o4 : hp a4 = some (.dict kvs ep)) {v : AV} (hk : nd ∈ S.keys) (hs : nd ∉ seen) (hl : ∀ f ∈ fr, f.n < nd)
    (hit : (hp.put a3 (.set (nd :: seen))) it = none) (hmw : ((hp.put a3 (.set (nd :: seen))).put it (.liter (S.scA nd) 0)) mw = none) :
    FC S hp0 ((((((hp.put a3 (.set (nd :: seen))).put it (.liter (S.scA nd) 0)).put mw (.raw (mwO it))).put a2 (.list ((fr.map fun f => .ref f.mw) ++ [.ref mw]))).put a4 (.dict (putD kvs nd v) ep')).put a1 (.list ((fr.map fun f => .int f.n) ++ [.int nd]))) a1 a2 a3 a4
      (fr ++ [⟨nd, mw, it, 0⟩]) (nd :: seen) := by
  have k4 : kvs.map (·.1) = fr.map (·.n) := by
    obtain ⟨kvs', ep', o4', k4⟩ := h.o4; rw [o4] at o4'; cases o4'; exact k4
  have n14 : a1 ≠ a4 := ne_objs h.o1 o4 (by intro q; cases q)
  have n24 : a2 ≠ a4 := ne_objs h.o2 o4 (by intro q; cases q)
  have n31 : a3 ≠ a1 := ne_objs h.o3 h.o1 (by intro q; cases q)
  have n32 : a3 ≠ a2 := ne_objs h.o3 h.o2 (by intro q; cases q)
  have n34 : a3 ≠ a4 := ne_objs h.o3 o4 (by intro q; cases q)
  have it3 : it ≠ a3 := fun e => by rw [e, AHeap.get_same] at hit; cases hit
  have hit0 : hp it = none := by rwa [AHeap.get_ne it3 rfl] at hit
  have mwi : mw ≠ it := fun e => by rw [e, AHeap.get_same] at hmw; cases hmw
  have mw3 : mw ≠ a3 := fun e => by rw [e, AHeap.get_ne (Ne.symm it3) AHeap.get_same] at hmw; cases hmw
  have hmw0 : hp mw = none := by rwa [AHeap.get_ne mwi (AHeap.get_ne mw3 rfl)] at hmw
  have base : ∀ a o, hp a = some o → a ≠ a3 → a ≠ a2 → a ≠ a4 → a ≠ a1 → ((((((hp.put a3 (.set (nd :: seen))).put it (.liter (S.scA nd) 0)).put mw (.raw (mwO it))).put a2 (.list ((fr.map fun f => .ref f.mw) ++ [.ref mw]))).put a4 (.dict (putD kvs nd v) ep')).put a1 (.list ((fr.map fun f => .int f.n) ++ [.int nd]))) a = some o :=
    fun a o e q1 q2 q3 q4 => AHeap.get_ne q4 (AHeap.get_ne q3 (AHeap.get_ne q2 (AHeap.get_ne (ne_none e hmw0) (AHeap.get_ne (ne_none e hit0) (AHeap.get_ne q1 e)))))
  have fit : hp0 it = none := by
    cases e : hp0 it with
    | none => rfl
    | some o => rw [h.ext _ _ e] at hit0; cases hit0
  refine ⟨fun a o e => base a o (h.ext a o e) (ne_none e h.f3) (ne_none e h.f2) (ne_none e h.f4) (ne_none e h.f1), h.f1, h.f2, h.f3, h.f4, ?_, ?_, ?_, ⟨_, _, AHeap.get_ne (Ne.symm n14) AHeap.get_same, ?_⟩, h.n12, fun g hg => ?_, ?_, fun g hg => ?_, ?_, List.nodup_cons.mpr ⟨hs, h.sn⟩, fun k hk' => ?_⟩
  · rw [AHeap.get_same]; simp
  · rw [AHeap.get_ne (Ne.symm h.n12) (AHeap.get_ne n24 AHeap.get_same)]; simp
  · exact AHeap.get_ne n31 (AHeap.get_ne n34 (AHeap.get_ne n32 (AHeap.get_ne (Ne.symm mw3) (AHeap.get_ne (Ne.symm it3) AHeap.get_same))))
  · have hn : (kvs.any fun p => decide (p.1 = nd)) = false := by
      rw [List.any_eq_false]
      intro p hp q
      have hm : p.1 ∈ fr.map Fm.n := by rw [← k4]; exact List.mem_map_of_mem hp
      obtain ⟨g, hg, e⟩ := List.mem_map.mp hm
      have := hl g hg
      rw [of_decide_eq_true q] at e
      omega
    unfold putD
    rw [if_neg (by rw [hn]; simp)]
    rw [List.map_append, k4, List.map_append]; rfl
  · rcases List.mem_append.mp hg with q | q
    · obtain ⟨g1, g2, g3⟩ := h.mw g q
      refine ⟨base _ _ g1 (ne_objs g1 h.o3 (by intro q; cases q)) (ne_objs g1 h.o2 (by intro q; cases q)) (ne_objs g1 o4 (by intro q; cases q)) (ne_objs g1 h.o1 (by intro q; cases q)),
        base _ _ g2 (ne_objs g2 h.o3 (by intro q; cases q)) (ne_objs g2 h.o2 (by intro q; cases q)) (ne_objs g2 o4 (by intro q; cases q)) (ne_objs g2 h.o1 (by intro q; cases q)), g3⟩
    · rw [List.mem_singleton.mp q]
      have ne_hp : ∀ {a : Addr} {o : AObj}, hp a = some o → it ≠ a ∧ mw ≠ a := fun e => ⟨Ne.symm (ne_none e hit0), Ne.symm (ne_none e hmw0)⟩
      obtain ⟨i1, w1⟩ := ne_hp h.o1
      obtain ⟨i2, w2⟩ := ne_hp h.o2
      obtain ⟨i4, w4⟩ := ne_hp o4
      refine ⟨AHeap.get_ne w1 (AHeap.get_ne w4 (AHeap.get_ne w2 AHeap.get_same)), AHeap.get_ne i1 (AHeap.get_ne i4 (AHeap.get_ne i2 (AHeap.get_ne (Ne.symm mwi) AHeap.get_same))), fit⟩
  · rw [List.map_append, List.nodup_append]
    refine ⟨h.it, by simp, fun a ha b hb e => ?_⟩
    obtain ⟨g, hg, rfl⟩ := List.mem_map.mp ha
    obtain ⟨_, g2, _⟩ := h.mw g hg
    have : b = it := by simpa using hb
    rw [e, this, hit0] at g2; cases g2
  · rcases List.mem_append.mp hg with q | q
    · exact h.keys g q
    · rw [List.mem_singleton.mp q]; exact hk
  · rw [List.pairwise_append]
    refine ⟨h.inc, by simp, fun a ha b hb => ?_⟩
    rw [List.mem_singleton.mp hb]; exact hl a ha
  · rcases List.mem_cons.mp hk' with q | q
    · rw [q]; exact hk
    · exact h.sk k q
end


section
variable {C : Cx} {A : Around} {hp : AHeap} {k : Nat} {S : SS} {b : Str → Bool} {env : Env} {vs : Vars} {names : List (Str × NameKind)}
theorem AW.DeleteSub {o i : Expr} {pos pos' : Pos} {Q : AFlow → Vars → AHeap → Prop}
    (h : AW C A b env Is (eval o env) (fun x vs₁ hp₁ => AW C A b env Is (eval i env) (fun y vs₂ hp₂ => ∀ u v, Is x u → Is y v → AW C A b env IsU (delItem u v) (fun _ vs₃ hp₃ => Q .next vs₃ hp₃) vs₂ hp₂) vs₁ hp₁) vs hp) :
    AW C A b env FlowIs (exec (.Delete [.Subscript o i pos'] pos) env) Q vs hp := fun K s R =>
  wpAny_Delete (wpAny_deleteEach_cons (delete_Subscript (wpAny_mono (h K s R) (fun u s₁ ⟨x, vs₁, hp₁, k₁, R₁, q₁⟩ => wpAny_mono (q₁ K s₁ R₁) (fun v s₂ ⟨y, vs₂, hp₂, k₂, R₂, q₂⟩ =>
    wpAny_mono (q₂ u v k₁ k₂ K s₂ R₂) (fun _ s₃ ⟨_, vs₃, hp₃, _, R₃, q₃⟩ => wpAny_deleteEach_nil ⟨.next, vs₃, hp₃, rfl, R₃, q₃⟩) fun _ _ x => x) fun _ _ x => x) fun _ _ x => x)))
theorem AW.truthyB {c : Bool} {Q : Bool → Vars → AHeap → Prop} (h : Q c vs hp) : AW C A b env IsB (truthy (.bool c)) Q vs hp := fun K s R => wpAny_truthy_bool ⟨c, vs, hp, rfl, R, h⟩
theorem Meth.set {a : Addr} {ks : List Int} {name : Str} {id : String} (hn : hp a = some (.set ks)) (slot : Slot "set" name id) (hty : typeOf (.builtin id) = Pure.pure (.type "method_descriptor")) : Meth C hp (.ref a) name (.builtin id) :=
  Meth.builtin (T := "set") (fun K s R => by obtain ⟨o, es, ep, t, ho, hc, _⟩ := R.set hn; exact ⟨o, ho, hc.1, hc.2.1⟩) F.plainAttrs_set slot hty

noncomputable def FCV (S : SS) (a1 a2 a3 a4 : Addr) (vs : Vars) : Prop :=
  vs (Str.ofString "n2i") = some (.ref S.n2i) ∧ vs (Str.ofString "stack") = some (.ref a1) ∧ vs (Str.ofString "itstack") = some (.ref a2) ∧ vs (Str.ofString "seen") = some (.ref a3) ∧ vs (Str.ofString "node2stacki") = some (.ref a4)
theorem FCV.node {a1 a2 a3 a4 : Addr} (h : FCV S a1 a2 a3 a4 vs) {v : AV} : FCV S a1 a2 a3 a4 (vs.put (Str.ofString "node") v) := by
  obtain ⟨h1, h2, h3, h4, h5⟩ := h
  exact ⟨Vars.get_ne (by rfl) h1, Vars.get_ne (by rfl) h2, Vars.get_ne (by rfl) h3, Vars.get_ne (by rfl) h4, Vars.get_ne (by rfl) h5⟩

set_option maxHeartbeats 4000000 in
theorem cycleSpec (hK : C.K = KK C.w.params) (r : Room (k + 1) A) (hfr : A.frames = some C.fs) (h : SAt 137 40 S hp) (ok : GOk S.gr) {Q : AV → AHeap → Prop}
    (hQ : ∀ hp', (∀ a o, hp a = some o → hp' a = some o) → Q .none hp') :
    CC C A (.ref 127) ⟨[.ref S.x], []⟩ Q hp := by
  refine CC.fn r.room (by walk_at "k") rfl (by walk_at "k") rfl rfl rfl rfl rfl rfl rfl rfl ?_
  refine CW.bindsTo (ab := [(Str.ofString "self", .ref S.x)]) rfl (.cons ⟨rfl, rfl⟩ .nil) ⟨rfl, fun env E hf => ?_⟩
  dsimp only at E
  have rd := r.deeper env
  have hA : (A.deeper env).frames = some (env :: C.fs) := by show A.frames.map _ = _; rw [hfr]; rfl
  -- n2i = self._node2info
  walk_at "x"; walk_at "e"; walk_at "e"; walk_at "i"
  refine selfGet (a := .ref S.n2i) hK h rfl rfl rfl ?_
  walk_at "i"; walk_at "s"
  -- stack = []
  walk_at "c"; refine AW.execsCons fun _ _ => (AW.AssignName (AW.ListD (AW.splicedNil ⟨by decide, fun a1 ha1 => ?_⟩)))
  walk_at "i"; walk_at "s"
  -- itstack = []
  walk_at "c"; refine AW.execsCons fun _ _ => (AW.AssignName (AW.ListD (AW.splicedNil ⟨by decide, fun a2 ha2 => ?_⟩)))
  walk_at "i"; walk_at "s"
  -- seen = set()
  walk_at "x"; walk_at "e"
  walk_at "b"
  refine AW.call0 E Keeps.type (AW.ofCW E.ok (CW.newSet fun a3 ha3 => ?_))
  walk_at "i"; walk_at "s"
  -- node2stacki = {}
  walk_at "c"; refine AW.execsCons fun _ _ => (AW.AssignName (AW.DictEmpty fun a4 ha4 => ?_))
  walk_at "i"; walk_at "s"
  have n21 : a2 ≠ a1 := fun e => by rw [e, AHeap.get_same] at ha2; cases ha2
  have n32 : a3 ≠ a2 := fun e => by rw [e, AHeap.get_same] at ha3; cases ha3
  have n31 : a3 ≠ a1 := fun e => by rw [e, AHeap.get_ne (Ne.symm n21) AHeap.get_same] at ha3; cases ha3
  have n43 : a4 ≠ a3 := fun e => by rw [e, AHeap.get_same] at ha4; cases ha4
  have n42 : a4 ≠ a2 := fun e => by rw [e, AHeap.get_ne (Ne.symm n32) AHeap.get_same] at ha4; cases ha4
  have n41 : a4 ≠ a1 := fun e => by rw [e, AHeap.get_ne (Ne.symm n31) (AHeap.get_ne (Ne.symm n21) AHeap.get_same)] at ha4; cases ha4
  have ha2' : hp a2 = none := by rwa [AHeap.get_ne n21 rfl] at ha2
  have ha3' : hp a3 = none := by rwa [AHeap.get_ne n32 (AHeap.get_ne n31 rfl)] at ha3
  have ha4' : hp a4 = none := by rwa [AHeap.get_ne n43 (AHeap.get_ne n42 (AHeap.get_ne n41 rfl))] at ha4
  have fc0 : FC S hp ((((hp.put a1 (.list [])).put a2 (.list [])).put a3 (.set [])).put a4 (.dict [] 0)) a1 a2 a3 a4 [] [] := by
    refine ⟨fun a o e => AHeap.get_new ha4 (AHeap.get_new ha3 (AHeap.get_new ha2 (AHeap.get_new ha1 e))), ha1, ha2', ha3', ha4', ?_, ?_, AHeap.get_ne (Ne.symm n43) AHeap.get_same, ⟨[], 0, AHeap.get_same, rfl⟩, Ne.symm n21, ?_, .nil, ?_, .nil, .nil, ?_⟩
    · exact AHeap.get_ne (Ne.symm n41) (AHeap.get_ne (Ne.symm n31) (AHeap.get_ne (Ne.symm n21) AHeap.get_same))
    · exact AHeap.get_ne (Ne.symm n42) (AHeap.get_ne (Ne.symm n32) AHeap.get_same)
    · intro f hf; cases hf
    · intro f hf; cases hf
    · intro f hf; cases hf
  obtain ⟨ep, hn2⟩ := h.n2i
  -- the outer loop
  walk_at "c"; refine AW.execsCons fun _ _ => (AW.For rd.h ?_)
  walk_at "e"
  refine ⟨_, S.kvs.map (fun p => .int p.1), _, Walker.keys (d := S.n2i) (kvs := S.kvs) (ep := ep), fun v iv => by cases iv; exact Starts.keys (fc0.ext _ _ hn2), fun i vs hp1 => ∃ seen, FC S hp hp1 a1 a2 a3 a4 [] seen ∧ FCV S a1 a2 a3 a4 vs, ?_, ?_, ?_, ?_⟩
  · exact ⟨[], fc0, by walk_at "v", by walk_at "v", by walk_at "v", by walk_at "v", by walk_at "v"⟩
  · rintro i vs hp1 ⟨seen, fc, _⟩
    exact fc.ext _ _ hn2
  · rintro i a' vs hp1 ha ⟨seen, fc, vv⟩ v iv _ _
    obtain ⟨nd, rfl, hnd⟩ : ∃ nd, a' = .int nd ∧ nd ∈ S.keys := by
      rw [List.getElem?_map] at ha
      cases e : S.kvs[i]? with
      | none => rw [e] at ha; cases ha
      | some p =>
        rw [e] at ha; cases ha
        refine ⟨p.1, rfl, ?_⟩
        have := List.mem_of_getElem? e
        obtain ⟨j, hj, e⟩ := List.mem_map.mp this
        rw [← e]; exact hj
    obtain ⟨t, rfl⟩ := iv
    refine AW.assignName ?_
    walk_at "s"
    have vv1 := vv.node (v := .int nd)
    obtain ⟨v1, v2, v3, v4, v5⟩ := vv1
    -- if node in seen: continue
    walk_at "x"
    refine AW.isTrue_Compare1 ?_
    walk_at "e"; walk_at "e"; walk_at "ii"
    refine AW.ofCW E.ok (CW.inSet fc.o3 ⟨_, rfl, ?_⟩)
    by_cases q : nd ∈ seen
    · rw [if_pos (by simpa using q)]
      walk_at "x"
      exact ⟨seen, fc, v1, v2, v3, v4, v5⟩
    · rw [if_neg (by simpa using q)]
      walk_at "x"
      -- while True
      walk_at "c"; refine AW.execsCons fun _ _ => (AW.While (fun n vs hp1 => ∃ nd fr seen, vs (Str.ofString "node") = some (.int nd) ∧ nd ∈ S.keys ∧ (∀ f ∈ fr, f.n < nd) ∧ FC S hp hp1 a1 a2 a3 a4 fr seen ∧ n = wt S.gr seen + vt S.gr fr ∧ FCV S a1 a2 a3 a4 vs) ?_ _ ⟨nd, [], seen, by walk_at "v", hnd, (fun f hf => by cases hf), fc, rfl, v1, v2, v3, v4, v5⟩)
      clear v1 v2 v3 v4 v5 vv q fc
      rintro n vs hp1 ⟨nd, fr, seen, vn, hnd, hlt, fc, rfl, v1, v2, v3, v4, v5⟩ _ _
      refine AW.isTrue_value (AW.cBool ?_)
      intro _ q; cases q
      refine AW.truthyB ?_
      rw [if_pos rfl]
      walk_at "c"; refine AW.execsCons fun _ _ => (AW.mono (Q := fun f vs' hp2 => f = .next ∧ ∃ fr' seen', FC S hp hp2 a1 a2 a3 a4 fr' seen' ∧ wt S.gr seen' + vt S.gr fr' ≤ wt S.gr seen + vt S.gr fr ∧ FCV S a1 a2 a3 a4 vs') ?_ ?_)
      · refine AW.If (AW.isTrue_Compare1 ?_)
        walk_at "e"; walk_at "e"; walk_at "ii"
        refine AW.ofCW E.ok (CW.inSet fc.o3 ⟨_, rfl, ?_⟩)
        by_cases q : nd ∈ seen
        · rw [if_pos (by simpa using q)]
          walk_at "c"; refine AW.execsCons fun _ _ => (AW.If (AW.isTrue_Compare1 ?_))
          walk_at "e"; walk_at "e"; walk_at "ii"
          obtain ⟨kvs, ep4, o4, k4⟩ := fc.o4
          refine AW.ofCW E.ok (CW.inDict o4 ⟨_, rfl, ?_⟩)
          have : (getA kvs nd).isSome = false := by
            cases e : getA kvs nd with
            | none => rfl
            | some a =>
              exfalso
              unfold getA at e
              cases e' : kvs.find? (fun p => decide (p.1 = nd)) with
              | none => rw [e'] at e; cases e
              | some p =>
                have hp := List.mem_of_find?_eq_some e'
                have hq : p.1 = nd := by have := List.find?_some e'; simpa using this
                have hm : p.1 ∈ fr.map Fm.n := by rw [← k4]; exact List.mem_map_of_mem hp
                obtain ⟨g, hg, e⟩ := List.mem_map.mp hm
                have := hlt g hg
                omega
          rw [this, if_neg (by decide)]
          walk_at "x"; walk_at "x"
          exact ⟨rfl, fr, seen, fc, Nat.le_refl _, v1, v2, v3, v4, v5⟩
        · rw [if_neg (by simpa using q)]
          -- seen.add(node)
          walk_at "x"; walk_at "e"; walk_at "e"; walk_at "i"
          refine ⟨_, Meth.set fc.o3 F.slot_set_add F.type_set_add, AW.call1 E ?_⟩
          walk_at "e"; walk_at "i"
          have sl := fc.slen
          have fl := fc.len
          have kz := ok.kz
          replace kz : S.keys.length < 900 := kz
          refine ⟨Keeps.builtin, AW.ofCW E.ok (CW.addSet fc.o3 q (by show _ < _; unfold scanBound; omega) ?_)⟩
          have hat : SAt 137 40 S (hp1.put a3 (.set (nd :: seen))) := by
            refine (h.of_ext fun a o f e => ?_)
            exact AHeap.get_ne (ne_none e fc.f3) (fc.ext a o e)
          -- itstack.append(iter(n2i[node].successors).__next__)
          walk_at "x"; walk_at "e"; walk_at "e"; walk_at "i"
          have o2' : (hp1.put a3 (.set (nd :: seen))) a2 = some (.list (fr.map fun f => .ref f.mw)) := AHeap.get_ne (ne_objs fc.o2 fc.o3 (by intro q; cases q)) fc.o2
          refine ⟨_, Meth.list o2' F.slot_list_append F.type_list_append, AW.call1 E ?_⟩
          walk_at "e"; walk_at "e"
          walk_at "b"
          refine AW.call1 E ?_
          walk_at "e"; walk_at "e"; walk_at "e"; walk_at "e"; walk_at "ii"
          refine n2iSub E hat hnd ?_
          walk_at "i"
          refine scGet hK hat hnd ?_
          walk_at "i"
          refine ⟨Keeps.builtin, AW.ofCW E.ok (CW.iter (hat.succ nd hnd) fun it hit => ?_)⟩
          walk_at "i"
          refine AW.iterNext AHeap.get_same fun mw hmw => ?_
          walk_at "i"
          have o2'' := AHeap.get_new (o := AObj.raw (mwO it)) hmw (AHeap.get_new (o := AObj.liter (S.scA nd) 0) hit o2')
          refine ⟨Keeps.builtin, AW.ofCW E.ok (CW.append o2'' (by rw [List.length_map]; omega) isRef ?_)⟩
          -- node2stacki[node] = len(stack)
          walk_at "x"
          refine AW.Call ?_
          walk_at "b"
          refine AW.call1 E ?_
          walk_at "e"; walk_at "i"
          have o1' : ∀ l, ((((hp1.put a3 (.set (nd :: seen))).put it (.liter (S.scA nd) 0)).put mw (.raw (mwO it))).put a2 (.list l)) a1 = some (.list (fr.map fun f => .int f.n)) := fun l =>
            AHeap.get_ne fc.n12 (AHeap.get_new hmw (AHeap.get_new hit (AHeap.get_ne (ne_objs fc.o1 fc.o3 (by intro q; cases q)) fc.o1)))
          refine ⟨Keeps.builtin, AW.ofCW E.ok (CW.lenList (o1' _) (by rw [List.length_map]; omega) ?_)⟩
          obtain ⟨kvs, ep4, o4, k4⟩ := fc.o4
          have o4' : ∀ l, ((((hp1.put a3 (.set (nd :: seen))).put it (.liter (S.scA nd) 0)).put mw (.raw (mwO it))).put a2 (.list l)) a4 = some (.dict kvs ep4) := fun l =>
            AHeap.get_ne (ne_objs o4 fc.o2 (by intro q; cases q)) (AHeap.get_new hmw (AHeap.get_new hit (AHeap.get_ne (ne_objs o4 fc.o3 (by intro q; cases q)) o4)))
          walk_at "e"; walk_at "e"
          intro u v w iu iv iw
          obtain ⟨_, iv⟩ := iv; subst iv; subst iu
          have kl : kvs.length = fr.length := by have := congrArg List.length k4; simpa using this
          refine AW.ofCW E.ok (CW.setDict (o4' _) (by rw [kl]; omega) iw fun ep' => ?_)
          -- stack.append(node)
          walk_at "x"; walk_at "e"; walk_at "e"; walk_at "i"
          have o1'' : ∀ l kv, (((((hp1.put a3 (.set (nd :: seen))).put it (.liter (S.scA nd) 0)).put mw (.raw (mwO it))).put a2 (.list l)).put a4 (.dict kv ep')) a1 = some (.list (fr.map fun f => .int f.n)) := fun l kv =>
            AHeap.get_ne (ne_objs fc.o1 o4 (by intro q; cases q)) (o1' l)
          refine ⟨_, Meth.list (o1'' _ _) F.slot_list_append F.type_list_append, AW.call1 E ?_⟩
          walk_at "e"; walk_at "i"
          refine ⟨Keeps.builtin, AW.ofCW E.ok (CW.append (o1'' _ _) (by rw [List.length_map]; omega) isInt ?_)⟩
          walk_at "x"
          have fp := fc.push (ep' := ep') o4 (v := .int (fr.map fun f => AV.int f.n).length) hnd q hlt hit hmw
          refine ⟨rfl, _, _, fp, ?_, v1, v2, v3, v4, v5⟩
          rw [vt_app]
          have := wt_add (g := S.gr) ok.nodup hnd q
          show wt S.gr (nd :: seen) + (vt S.gr fr + ((S.gr.sc nd).length - 0)) ≤ _
          omega
      · clear v1 v2 v3 v4 v5 vn hlt
        rintro f vs1 hp2 ⟨rfl, fr1, seen1, fc1, hw, vv⟩
        walk_at "c"
        walk_at "c"; refine AW.execsCons fun _ _ => (AW.While (fun m vs hp3 => ∃ fr2, m = fr2.length ∧ FC S hp hp3 a1 a2 a3 a4 fr2 seen1 ∧ vt S.gr fr2 = vt S.gr fr1 ∧ FCV S a1 a2 a3 a4 vs) ?_ _ ⟨fr1, rfl, fc1, rfl, vv⟩)
        clear vv
        rintro m vs2 hp3 ⟨fr2, rfl, fc2, hv, vv⟩ _ _
        obtain ⟨v1, v2, v3, v4, v5⟩ := id vv
        have fl := fc2.len
        have kz := ok.kz
        replace kz : S.keys.length < 900 := kz
        refine AW.isTrue_value ?_
        walk_at "n"; walk_at "i"
        refine AW.ofCW E.ok (CW.truthyList fc2.o1 (by rw [List.length_map]; omega) ?_)
        rcases List.eq_nil_or_concat fr2 with rfl | ⟨fr3, f, rfl⟩
        · rw [if_neg (by decide)]
          walk_at "x"; walk_at "x"
          exact ⟨seen1, fc2, vv⟩
        · rw [List.concat_eq_append] at *
          rw [if_pos (by simp)]
          walk_at "c"; refine AW.execsCons fun _ _ => (AW.tryNext E rd hA hf rfl rfl (by walk_at "k") ?_)
          walk_at "e"; walk_at "e"
          refine AW.UnaryOp (AW.cInt ?_)
          walk_at "i"
          refine AW.ofCW E.ok (CW.negI ?_)
          walk_at "ii"
          obtain ⟨m1, m2, m3⟩ := fc2.mw f (by simp)
          have o2 := fc2.o2
          rw [List.map_append] at o2
          rw [List.length_append, List.length_singleton] at fl
          have hfk := fc2.keys f (by simp)
          have hsc : hp3 (S.scA f.n) = some (.list ((S.sc f.n).map .int)) := fc2.ext _ _ (h.succ f.n hfk)
          refine AW.ofCW E.ok (CW.subListLast o2 (by rw [List.length_map]; omega) ⟨f.mw, f.it, S.scA f.n, f.i, (S.sc f.n).map .int, rfl, m1, m2, hsc, fun a ha => ?_, fun ha e => ?_⟩)
          · rw [List.getElem?_map] at ha
            cases hj : (S.sc f.n)[f.i]? with
            | none => rw [hj] at ha; cases ha
            | some j =>
              rw [hj] at ha; cases ha
              have hjl := (List.getElem?_eq_some_iff.mp hj).1
              have hjm := List.mem_of_getElem? hj
              have hup : f.n < j := ok.up f.n hfk j hjm
              walk_at "o"; walk_at "x"
              refine ⟨wt S.gr seen1 + vt S.gr (fr3 ++ [{ f with i := f.i + 1 }]), ?_, j, _, seen1, by walk_at "v", ok.scK f.n hfk j hjm, fun g hg => ?_, fc2.adv, rfl, vv.node⟩
              · have e1 := vt_app (g := S.gr) (fr := fr3) (f := f)
                have e2 := vt_app (g := S.gr) (fr := fr3) (f := { f with i := f.i + 1 })
                have e3 : (S.gr.sc f.n).length = (S.sc f.n).length := rfl
                dsimp only at e2
                omega
              · rcases List.mem_append.mp hg with q | q
                · have := (List.pairwise_append.mp fc2.inc).2.2 g q f (by simp)
                  omega
                · rw [List.mem_singleton.mp q]; exact hup
          · rw [List.getElem?_map] at ha
            have ha : (S.sc f.n).length ≤ f.i := by
              cases q : (S.sc f.n)[f.i]? with
              | none => exact List.getElem?_eq_none_iff.mp q
              | some j => rw [q] at ha; cases ha
            have od : ∀ a o, hp3 a = some o → a ≠ f.it → (hp3.del f.it) a = some o := fun a o e n => AHeap.del_ne n e
            -- del node2stacki[stack.pop()]
            walk_at "c"; refine AW.execsCons fun _ _ => (AW.DeleteSub ?_)
            walk_at "e"; walk_at "e"; walk_at "e"; walk_at "i"
            have o1 : (hp3.del f.it) a1 = some (.list (fr3.map (fun f => AV.int f.n) ++ [.int f.n])) := by
              have := fc2.o1
              rw [List.map_append] at this
              exact od _ _ this (ne_objs this m2 (by intro q; cases q))
            refine ⟨_, Meth.list o1 F.slot_list_pop F.type_list_pop, AW.call0 E Keeps.builtin ?_⟩
            refine AW.ofCW E.ok (CW.popLast o1 (by rw [List.length_map]; omega) ?_)
            walk_at "ii"
            obtain ⟨kvs, ep4, o4, k4⟩ := fc2.o4
            have o4' : ((hp3.del f.it).put a1 (.list (fr3.map fun f => AV.int f.n))) a4 = some (.dict kvs ep4) := AHeap.get_ne (ne_objs o4 fc2.o1 (by intro q; cases q)) (od _ _ o4 (ne_objs o4 m2 (by intro q; cases q)))
            have kl : kvs.length = fr3.length + 1 := by have := congrArg List.length k4; simpa using this
            refine AW.ofCW E.ok (CW.delDict o4' (by rw [kl]; omega) ?_ fun ep' => ?_)
            · have hm : f.n ∈ kvs.map (·.1) := by rw [k4]; simp
              obtain ⟨p, hp, e⟩ := List.mem_map.mp hm
              unfold getA
              cases q : kvs.find? (fun p => decide (p.1 = f.n)) with
              | none => exact absurd (List.find?_eq_none.mp q p hp) (by simpa using e)
              | some _ => rfl
            -- itstack.pop()
            walk_at "x"; walk_at "e"; walk_at "e"; walk_at "i"
            have o2' : (((hp3.del f.it).put a1 (.list (fr3.map fun f => AV.int f.n))).put a4 (.dict (delA kvs f.n) ep')) a2 = some (.list (fr3.map (fun f => AV.ref f.mw) ++ [.ref f.mw])) :=
              AHeap.get_ne (ne_objs o2 o4 (by intro q; cases q)) (AHeap.get_ne (Ne.symm fc2.n12) (od _ _ o2 (ne_objs o2 m2 (by intro q; cases q))))
            refine ⟨_, Meth.list o2' F.slot_list_pop F.type_list_pop, AW.call0 E Keeps.builtin ?_⟩
            refine AW.ofCW E.ok (CW.popLast o2' (by rw [List.length_map]; omega) ?_)
            walk_at "x"; walk_at "x"
            refine ⟨fr3.length, by simp, fr3, rfl, fc2.pop o4, ?_, vv⟩
            rw [← hv, vt_app]
            have e3 : (S.gr.sc f.n).length = (S.sc f.n).length := rfl
            omega
  · rintro vs hp1 ⟨seen, fc, vv⟩
    walk_at "x"; walk_at "x"; walk_at "e"
    exact hQ hp1 fc.ext
end


section
variable {C : Cx} {A : Around} {hp : AHeap} {k : Nat} {S : SS} {b : Str → Bool} {env : Env} {vs : Vars} {names : List (Str × NameKind)}
theorem Steps.ext {cT cN : Addr} {S' : SS} {hp' hp'' : AHeap} (h : Steps cT cN S hp S' hp') (e : ∀ a o, hp' a = some o → hp'' a = some o) : Steps cT cN S hp S' hp'' :=
  ⟨h.at_.of_ext fun a o _ q => e a o q, h.x, fun a o q n => ⟨e a o (h.keep a o q n).1, (h.keep a o q n).2⟩⟩

noncomputable def SS.free (S : SS) : List Int := S.keys.filter fun k => decide (S.np k = 0)

set_option maxHeartbeats 4000000 in
theorem prepareSpec (hK : C.K = KK C.w.params) (r : Room (k + 2) A) (hfr : A.frames = some C.fs) (h : SAt 137 40 S hp) (hr : S.ready = none) (ok : GOk S.gr) {Q : AV → AHeap → Prop}
    (hQ : ∀ a hp', Steps 137 40 S hp { S with ready := some (a, S.free) } hp' → Q .none hp') :
    CC C A (.ref 92) ⟨[.ref S.x], []⟩ Q hp := by
  refine CC.fn r.room (by walk_at "k") rfl (by walk_at "k") rfl rfl rfl rfl rfl rfl rfl rfl ?_
  refine CW.bindsTo (ab := [(Str.ofString "self", .ref S.x)]) rfl (.cons ⟨rfl, rfl⟩ .nil) ⟨rfl, fun env E hf => ?_⟩
  dsimp only at E
  have rd := r.deeper env
  obtain ⟨ep, hn⟩ := h.n2i
  have kz : S.keys.length < 900 := ok.kz
  -- if self._ready_nodes is not None
  walk_at "x"
  refine AW.isTrue_Compare1 ?_
  walk_at "e"; walk_at "e"; walk_at "i"
  refine selfGet (a := .none) hK h (by unfold SS.nsl; rw [hr]; rfl) rfl rfl (AW.cNone ?_)
  walk_at "ii"
  refine AW.ofCW E.ok (CW.isNotNone isNon rfl ⟨false, rfl, ?_⟩)
  walk_at "x"
  -- self._ready_nodes = [..]
  walk_at "c"; refine AW.execsCons fun _ _ => (AW.AssignAttr (AW.ListComp E rfl rd.h ?_))
  walk_at "e"; walk_at "e"; walk_at "e"; walk_at "i"
  refine selfGet (a := .ref S.n2i) hK h rfl rfl rfl ?_
  walk_at "i"
  refine ⟨_, Meth.dict hn F.slot_dict_values F.type_dict_values, AW.call0 E Keeps.builtin (AW.ofCW E.ok (CW.values hn fun vw hvw => ?_))⟩
  have st0 := Steps.fresh (o := .raw { cls := .type "dict_values", data := .fields #[.ref S.n2i] }) h hvw
  refine ⟨_, S.kvs.map (fun p => p.2), _, Walker.vals (d := S.n2i) (kvs := S.kvs) (ep := ep), fun v iv => by cases iv; exact Starts.vals (AHeap.get_new hvw hn) AHeap.get_same,
    fun i ys hp1 => ys = ((S.keys.take i).filter fun k => decide (S.np k = 0)).map .int ∧ ∀ a o, (hp.put vw (.raw { cls := .type "dict_values", data := .fields #[.ref S.n2i] })) a = some o → hp1 a = some o, ?_, ?_, ?_, ?_⟩
  · exact ⟨rfl, fun a o e => e⟩
  · rintro i ys hp1 ⟨rfl, ext⟩
    refine ⟨ext _ _ (AHeap.get_new hvw hn), ?_⟩
    rw [List.length_map]
    have := List.length_filter_le (fun k => decide (S.np k = 0)) (S.keys.take i)
    rw [List.length_take] at this
    omega
  · rintro cenv E' i a ys hp1 ha ⟨rfl, ext⟩ v iv _ _ _
    obtain ⟨nd, hnd, rfl⟩ : ∃ nd, S.keys[i]? = some nd ∧ a = .ref (S.info nd) := by
      unfold SS.kvs at ha
      rw [List.map_map, List.getElem?_map] at ha
      cases e : S.keys[i]? with
      | none => rw [e] at ha; cases ha
      | some p => rw [e] at ha; cases ha; exact ⟨p, rfl, rfl⟩
    have hk := List.mem_of_getElem? hnd
    have h1 : SAt 137 40 S hp1 := st0.at_.of_ext fun a o _ q => ext a o q
    cases iv
    refine AW.assignName ?_
    refine AW.sLocal E' rfl isRef ?_
    refine AW.testsOne (AW.isTrue_Compare1 ?_)
    walk_at "e"
    refine AW.Name (AW.nLocal E' rfl (by walk_at "v") ?_) rfl
    walk_at "i"
    refine npGet (C := C.push env) hK h1 hk ?_
    walk_at "e"; walk_at "ii"
    refine AW.ofCW E'.ok (CW.eqI ⟨_, rfl, ?_⟩)
    have tk : S.keys.take (i + 1) = S.keys.take i ++ [nd] := by rw [List.take_add_one, hnd]; rfl
    by_cases z : S.np nd = 0
    · rw [if_pos (by simpa using z)]
      walk_at "e"
      refine AW.Name (AW.nLocal E' rfl (by walk_at "v") ?_) rfl
      walk_at "i"
      refine nodeGet (C := C.push env) hK h1 hk ?_
      walk_at "y"
      refine ⟨?_, ext⟩
      rw [tk, List.filter_append, List.map_append]
      simp [z]
    · rw [if_neg (by simpa using z)]
      walk_at "y"
      refine ⟨?_, ext⟩
      rw [tk, List.filter_append, List.map_append]
      simp [z]
  · rintro ys hp1 ⟨rfl, ext⟩ a ha
    rw [List.length_map, SS.kvs_len, List.take_length]
    walk_at "n"; walk_at "ii"
    have hext : ∀ b o, hp b = some o → (hp1.put a (.list (S.free.map .int))) b = some o := fun b o e => AHeap.get_new ha (ext b o (AHeap.get_new hvw e))
    have st1 : Steps 137 40 S hp S (hp1.put a (.list (S.free.map .int))) := (Steps.refl h).ext hext
    have ha0 : hp a = none := by
      cases e : hp a with
      | none => rfl
      | some o => rw [ext a o (AHeap.get_new hvw e)] at ha; cases ha
    have st2 := Steps.newReady (l := S.free) st1 ha0 AHeap.get_same (h.notFoot ha0)
    refine AW.setAttrNs (a := .ref a) E.ok st1.at_.inst st1.at_.dict isRef (by exact Nat.le_of_ble_eq_true rfl) (by walk_at "k") (by walk_at "k") (by walk_at "k") (by walk_at "k") ?_
    have en : putA (Str.ofString "_ready_nodes") (.ref a) S.nsl = ({ S with ready := some (a, S.free) } : SS).nsl := rfl
    rw [en]
    -- cycle = self._find_cycle()
    walk_at "x"; walk_at "e"; walk_at "e"; walk_at "i"
    refine ⟨_, selfCall (S := { S with ready := some (a, S.free) }) hK st2.at_ (f := 127) rfl rfl rfl, AW.call0 E (Keeps.fn (by walk_at "k")) ?_⟩
    refine AW.ofCW E.ok (CC.cw (cycleSpec (S := { S with ready := some (a, S.free) }) (C := C.push env) hK rd (by show A.frames.map _ = _; rw [hfr]; rfl) st2.at_ ok fun hp3 ext3 => ?_))
    walk_at "i"; walk_at "s"
    -- if cycle
    walk_at "x"
    refine AW.isTrue_value ?_
    walk_at "n"; walk_at "i"
    refine AW.ofCW E.ok (CW.truthyNone ?_)
    rw [if_neg (by decide)]
    walk_at "x"; walk_at "x"
    exact hQ a hp3 (st2.ext ext3)
end

noncomputable def cnt (sc : Int → List Int) (ks D : List Int) (k : Int) : Nat := ((ks.filter fun p => decide (p ∉ D)).map fun p => (sc p).count k).sum

theorem cnt_snoc {sc : Int → List Int} {ks D : List Int} {k j : Int} (nd : ks.Nodup) (hk : k ∈ ks) (hd : k ∉ D) : cnt sc ks D j = cnt sc ks (D ++ [k]) j + (sc k).count j := by
  unfold cnt
  induction ks with
  | nil => cases hk
  | cons a r ih =>
    rw [List.nodup_cons] at nd
    by_cases e : a = k
    · subst e
      have h1 : (a :: r).filter (fun p => decide (p ∉ D)) = a :: r.filter (fun p => decide (p ∉ D)) := by rw [List.filter_cons, if_pos (by simpa using hd)]
      have h2 : (a :: r).filter (fun p => decide (p ∉ D ++ [a])) = r.filter (fun p => decide (p ∉ D)) := by
        rw [List.filter_cons, if_neg (by simp)]
        refine List.filter_congr fun x hx => ?_
        have : x ≠ a := fun e => nd.1 (e ▸ hx)
        simp [this]
      rw [h1, h2, List.map_cons, List.sum_cons]; omega
    · have hk' : k ∈ r := by rcases List.mem_cons.mp hk with q | q; exact absurd q.symm e; exact q
      have ih := ih nd.2 hk'
      by_cases q : a ∈ D
      · rw [List.filter_cons, if_neg (by simpa using q), List.filter_cons, if_neg (by simp [q])]; exact ih
      · rw [List.filter_cons, if_pos (by simpa using q), List.filter_cons, if_pos (by simp [q, e]), List.map_cons, List.sum_cons, List.map_cons, List.sum_cons]; omega

theorem sum_zero : ∀ (l : List Nat), l.sum = 0 ↔ ∀ x ∈ l, x = 0
  | [] => by simp
  | a :: l => by rw [List.sum_cons, List.forall_mem_cons, ← sum_zero l]; omega

theorem cnt_zero {sc : Int → List Int} {ks D : List Int} {k : Int} (h : cnt sc ks D k = 0) : ∀ p ∈ ks, k ∈ sc p → p ∈ D := fun p hp hk => by
  by_cases q : p ∈ D
  · exact q
  · exfalso
    unfold cnt at h
    have hm : (sc p).count k ∈ (ks.filter fun p => decide (p ∉ D)).map fun p => (sc p).count k := List.mem_map_of_mem (List.mem_filter.mpr ⟨hp, by simpa using q⟩)
    have h0 := (sum_zero _).mp h _ hm
    exact absurd (List.count_pos_iff.mpr hk) (by omega)
theorem cnt_zero' {sc : Int → List Int} {ks D : List Int} {k : Int} (h : ∀ p ∈ ks, k ∈ sc p → p ∈ D) : cnt sc ks D k = 0 := by
  unfold cnt
  rw [sum_zero]
  intro x hx
  obtain ⟨p, hp, rfl⟩ := List.mem_map.mp hx
  obtain ⟨hp, hd⟩ := List.mem_filter.mp hp
  rw [List.count_eq_zero]
  intro hk
  exact absurd (h p hp hk) (by simpa using hd)

theorem decs (l : List Int) : ∀ (f : Int → Int) (R : List Int), (∀ j ∈ l, (l.count j : Int) ≤ f j) →
    ∃ X : List Int, l.foldl dec1 (f, R) = (fun j => f j - l.count j, R ++ X) ∧ X.Nodup ∧ ∀ j, j ∈ X ↔ j ∈ l ∧ f j = l.count j := by
  induction l with
  | nil => intro f R h; exact ⟨[], by simp, .nil, by simp⟩
  | cons s r ih =>
    intro f R h
    have hs : ((s :: r).count s : Int) ≤ f s := h s (by simp)
    rw [List.count_cons_self] at hs
    have hr : ∀ j ∈ r, (r.count j : Int) ≤ upd f s (f s - 1) j := fun j hj => by
      by_cases e : j = s
      · subst e; rw [upd_same]; omega
      · rw [upd_ne e]; have := h j (by simp [hj]); rw [List.count_cons_of_ne (fun q => e q.symm)] at this; exact this
    have fe : ∀ {R'}, ((fun j => upd f s (f s - 1) j - (r.count j : Int), R') : (Int → Int) × List Int) = (fun j => f j - ((s :: r).count j : Int), R') := by
      intro R'; congr 1; funext j
      by_cases e : j = s
      · subst e; rw [upd_same, List.count_cons_self]; omega
      · rw [upd_ne e, List.count_cons_of_ne (fun q => e q.symm)]
    by_cases z : f s - 1 = 0
    · obtain ⟨X, h1, h2, h3⟩ := ih (upd f s (f s - 1)) (R ++ [s]) hr
      have c0 : r.count s = 0 := by omega
      have sr : s ∉ r := List.count_eq_zero.mp c0
      refine ⟨s :: X, ?_, List.nodup_cons.mpr ⟨fun q => sr ((h3 s).mp q).1, h2⟩, fun j => ?_⟩
      · rw [List.foldl_cons]
        have : dec1 (f, R) s = (upd f s (f s - 1), R ++ [s]) := dec1_zero z
        rw [this, h1, fe]; simp
      · by_cases e : j = s
        · subst e; simp [c0]; omega
        · rw [List.mem_cons, h3, upd_ne e, List.count_cons_of_ne (fun q => e q.symm), List.mem_cons]
          simp [e]
    · obtain ⟨X, h1, h2, h3⟩ := ih (upd f s (f s - 1)) R hr
      refine ⟨X, ?_, h2, fun j => ?_⟩
      · rw [List.foldl_cons]
        have : dec1 (f, R) s = (upd f s (f s - 1), R) := dec1_nz z
        rw [this, h1, fe]
      · by_cases e : j = s
        · subst e
          rw [h3, upd_same, List.count_cons_self]
          constructor
          · rintro ⟨a, b⟩; exact ⟨by simp, by omega⟩
          · rintro ⟨a, b⟩
            have : 0 < r.count j := by omega
            exact ⟨List.count_pos_iff.mp this, by omega⟩
        · rw [h3, upd_ne e, List.count_cons_of_ne (fun q => e q.symm), List.mem_cons]
          simp [e]

structure OS (ks : List Int) (sc : Int → List Int) (np : Int → Int) (D W : List Int) : Prop where
  nd : (D ++ W).Nodup
  sub : ∀ k ∈ D ++ W, k ∈ ks
  npD : ∀ k ∈ D, np k = -2
  npW : ∀ k ∈ W, np k = -1
  np : ∀ k ∈ ks, k ∉ D → k ∉ W → np k = cnt sc ks D k ∧ 0 < cnt sc ks D k
  z : ∀ k ∈ D ++ W, cnt sc ks D k = 0
  topo : ∀ (i : Nat) (k : Int), D[i]? = some k → ∀ p ∈ ks, k ∈ sc p → p ∈ D.take i

theorem OS.init {ks : List Int} {sc : Int → List Int} {np : Int → Int} (nd : ks.Nodup) (h : ∀ k ∈ ks, np k = cnt sc ks [] k) : OS ks sc (outNp np (ks.filter fun k => decide (np k = 0))) [] (ks.filter fun k => decide (np k = 0)) where
  nd := by rw [List.nil_append]; exact List.Pairwise.sublist (List.filter_sublist) nd
  sub := fun k hk => by rw [List.nil_append] at hk; exact (List.mem_filter.mp hk).1
  npD := fun k hk => by cases hk
  npW := fun k hk => by unfold outNp; rw [if_pos hk]
  np := fun k hk _ hw => by
    unfold outNp
    rw [if_neg hw]
    refine ⟨h k hk, ?_⟩
    have : np k ≠ 0 := fun e => hw (List.mem_filter.mpr ⟨hk, by simpa using e⟩)
    have := h k hk
    omega
  z := fun k hk => by
    obtain ⟨h1, h2⟩ := List.mem_filter.mp (show k ∈ ks.filter fun k => decide (np k = 0) by rwa [List.nil_append] at hk)
    have := h k h1
    have : np k = 0 := by simpa using h2
    omega
  topo := fun i k e => by simp at e

theorem OS.step {ks : List Int} {sc : Int → List Int} {np : Int → Int} {D W : List Int} (o : OS ks sc np D W) (nd : ks.Nodup) (hsc : ∀ k ∈ ks, ∀ j ∈ sc k, j ∈ ks) {i : Nat} {k : Int} (hi : W[i]? = some k) :
    ∃ np1 X, (sc k).foldl dec1 (upd np k (-2), []) = (np1, X) ∧ (∀ j ∈ X, j ∈ ks) ∧ X.length ≤ (sc k).length ∧ OS ks sc (outNp np1 X) (D ++ [k]) (W.eraseIdx i ++ X) := by
  have kW := List.mem_of_getElem? hi
  have hil := (List.getElem?_eq_some_iff.mp hi).1
  have nd0 := o.nd
  rw [List.nodup_append] at nd0
  obtain ⟨ndD, ndW, dj⟩ := nd0
  have kD : k ∉ D := fun q => dj k q k kW rfl
  have kks := o.sub k (by simp [kW])
  have eW : W = W.take i ++ k :: W.drop (i + 1) := by
    have h1 := List.take_append_drop i W
    have h2 : W.drop i = k :: W.drop (i + 1) := by
      rw [List.drop_eq_getElem_cons hil]; congr 1
      rw [List.getElem?_eq_getElem hil] at hi; exact Option.some.inj hi
    rw [h2] at h1; exact h1.symm
  have eE : W.eraseIdx i = W.take i ++ W.drop (i + 1) := List.eraseIdx_eq_take_drop_succ W i
  have memW : ∀ j, j ∈ W ↔ j = k ∨ j ∈ W.eraseIdx i := fun j => by
    rw [eE]
    conv => lhs; rw [eW]
    simp only [List.mem_append, List.mem_cons]
    constructor
    · rintro (h | h | h)
      · exact .inr (.inl h)
      · exact .inl h
      · exact .inr (.inr h)
    · rintro (h | h | h)
      · exact .inr (.inl h)
      · exact .inl h
      · exact .inr (.inr h)
  have ndE : (k :: W.eraseIdx i).Nodup := by
    rw [eW] at ndW
    rw [eE]
    rw [List.nodup_append] at ndW
    obtain ⟨a, b, c⟩ := ndW
    rw [List.nodup_cons] at b
    rw [List.nodup_cons]
    refine ⟨fun q => ?_, List.nodup_append.mpr ⟨a, b.2, fun x hx y hy => c x hx y (by simp [hy])⟩⟩
    rcases List.mem_append.mp q with q | q
    · exact c k q k (by simp) rfl
    · exact b.1 q
  rw [List.nodup_cons] at ndE
  -- the successors
  have cs : ∀ j, cnt sc ks D j = cnt sc ks (D ++ [k]) j + (sc k).count j := fun j => cnt_snoc nd kks kD
  have far : ∀ j ∈ sc k, j ∉ D ∧ j ∉ W ∧ j ≠ k := fun j hj => by
    have c : 0 < cnt sc ks D j := by have := cs j; have := List.count_pos_iff.mpr hj; omega
    refine ⟨fun q => ?_, fun q => ?_, fun q => ?_⟩
    · have := o.z j (by simp [q]); omega
    · have := o.z j (by simp [q]); omega
    · have := o.z k (by simp [kW]); rw [q] at c; omega
  have hge : ∀ j ∈ sc k, ((sc k).count j : Int) ≤ upd np k (-2) j := fun j hj => by
    obtain ⟨f1, f2, f3⟩ := far j hj
    rw [upd_ne f3, (o.np j (hsc k kks j hj) f1 f2).1]
    have := cs j; omega
  obtain ⟨X, h1, h2, h3⟩ := decs (sc k) (upd np k (-2)) [] hge
  rw [List.nil_append] at h1
  have XS : ∀ j ∈ X, j ∈ sc k ∧ cnt sc ks (D ++ [k]) j = 0 := fun j hj => by
    obtain ⟨a, b⟩ := (h3 j).mp hj
    obtain ⟨f1, f2, f3⟩ := far j a
    rw [upd_ne f3, (o.np j (hsc k kks j a) f1 f2).1] at b
    have := cs j
    exact ⟨a, by omega⟩
  refine ⟨_, X, h1, fun j hj => hsc k kks j (XS j hj).1, h2.length_le_of_subset fun j hj => (XS j hj).1, ?_⟩
  have memN : ∀ j, j ∈ (D ++ [k]) ++ (W.eraseIdx i ++ X) ↔ (j ∈ D ∨ j ∈ W) ∨ j ∈ X := fun j => by
    rw [memW]; simp only [List.mem_append, List.mem_singleton]
    constructor
    · rintro ((h | h) | h | h)
      · exact .inl (.inl h)
      · exact .inl (.inr (.inl h))
      · exact .inl (.inr (.inr h))
      · exact .inr h
    · rintro ((h | h | h) | h)
      · exact .inl (.inl h)
      · exact .inl (.inr h)
      · exact .inr (.inl h)
      · exact .inr (.inr h)
  refine ⟨?_, fun j hj => ?_, fun j hj => ?_, fun j hj => ?_, fun j hj hjD hjW => ?_, fun j hj => ?_, fun m j hm p hp hpj => ?_⟩
  · rw [List.nodup_append]
    refine ⟨List.nodup_append.mpr ⟨ndD, by simp, fun a ha b hb e => ?_⟩, List.nodup_append.mpr ⟨ndE.2, h2, fun a ha b hb e => ?_⟩, fun a ha b hb e => ?_⟩
    · rw [List.mem_singleton.mp hb] at e; exact kD (e ▸ ha)
    · subst e; exact (far a (XS a hb).1).2.1 ((memW a).mpr (.inr ha))
    · subst e
      rcases List.mem_append.mp hb with hb | hb
      · rcases List.mem_append.mp ha with ha | ha
        · exact dj a ha a ((memW a).mpr (.inr hb)) rfl
        · rw [List.mem_singleton.mp ha] at hb; exact ndE.1 hb
      · obtain ⟨f1, f2, f3⟩ := far a (XS a hb).1
        rcases List.mem_append.mp ha with ha | ha
        · exact f1 ha
        · exact f3 (List.mem_singleton.mp ha)
  · rcases (memN j).mp hj with (q | q) | q
    · exact o.sub j (by simp [q])
    · exact o.sub j (by simp [q])
    · exact hsc k kks j (XS j q).1
  · have jX : j ∉ X := fun q => by
      obtain ⟨f1, f2, f3⟩ := far j (XS j q).1
      rcases List.mem_append.mp hj with hj | hj
      · exact f1 hj
      · exact f3 (List.mem_singleton.mp hj)
    unfold outNp
    rw [if_neg jX]
    rcases List.mem_append.mp hj with hj | hj
    · have c0 : (sc k).count j = 0 := List.count_eq_zero.mpr fun q => (far j q).1 hj
      show upd np k (-2) j - ((sc k).count j : Int) = _
      rw [c0, upd_ne (show j ≠ k from fun e => kD (e ▸ hj)), o.npD j hj]; rfl
    · rw [List.mem_singleton.mp hj]
      have c0 : (sc k).count k = 0 := List.count_eq_zero.mpr fun q => (far k q).2.2 rfl
      show upd np k (-2) k - ((sc k).count k : Int) = _
      rw [c0, upd_same]; rfl
  · unfold outNp
    by_cases jX : j ∈ X
    · rw [if_pos jX]
    · rw [if_neg jX]
      have hj : j ∈ W.eraseIdx i := by rcases List.mem_append.mp hj with q | q; exact q; exact absurd q jX
      have jW := (memW j).mpr (.inr hj)
      have c0 : (sc k).count j = 0 := List.count_eq_zero.mpr fun q => (far j q).2.1 jW
      show upd np k (-2) j - ((sc k).count j : Int) = _
      rw [c0, upd_ne (show j ≠ k from fun e => ndE.1 (e ▸ hj)), o.npW j jW]; rfl
  · have jX : j ∉ X := fun q => hjW (List.mem_append_right _ q)
    have jD : j ∉ D := fun q => hjD (by simp [q])
    have jk : j ≠ k := fun q => hjD (by simp [q])
    have jW : j ∉ W := fun q => by rcases (memW j).mp q with q | q; exact jk q; exact hjW (List.mem_append_left _ q)
    unfold outNp
    rw [if_neg jX]
    show upd np k (-2) j - ((sc k).count j : Int) = _ ∧ _
    rw [upd_ne jk, (o.np j hj jD jW).1]
    have := cs j
    refine ⟨by omega, ?_⟩
    by_cases q : j ∈ sc k
    · have : ¬ (upd np k (-2) j = (sc k).count j) := fun e => jX ((h3 j).mpr ⟨q, e⟩)
      rw [upd_ne jk, (o.np j hj jD jW).1] at this
      omega
    · have c0 : (sc k).count j = 0 := List.count_eq_zero.mpr q
      have := (o.np j hj jD jW).2
      omega
  · rcases (memN j).mp hj with (q | q) | q
    · have := o.z j (by simp [q]); have := cs j; omega
    · have := o.z j (by simp [q]); have := cs j; omega
    · exact (XS j q).2
  · by_cases q : m < D.length
    · rw [List.getElem?_append_left q] at hm
      rw [List.take_append_of_le_length (Nat.le_of_lt q)]
      exact o.topo m j hm p hp hpj
    · have hml := (List.getElem?_eq_some_iff.mp hm).1
      rw [List.length_append, List.length_singleton] at hml
      have e : m = D.length := by omega
      subst e
      have : j = k := by simpa using hm.symm
      subst this
      rw [List.take_append_of_le_length (Nat.le_refl _), List.take_length]
      exact cnt_zero (o.z j (by simp [kW])) p hp hpj

theorem exists_min : ∀ (l : List Int), l ≠ [] → ∃ m ∈ l, ∀ x ∈ l, m ≤ x
  | [], h => absurd rfl h
  | [a], _ => ⟨a, by simp, by simp⟩
  | a :: b :: l, _ => by
    obtain ⟨m, hm, h⟩ := exists_min (b :: l) (by simp)
    by_cases q : a ≤ m
    · exact ⟨a, by simp, fun x hx => by rcases List.mem_cons.mp hx with e | e; omega; have := h x e; omega⟩
    · exact ⟨m, by simp at hm ⊢; exact .inr hm, fun x hx => by rcases List.mem_cons.mp hx with e | e; omega; exact h x e⟩

theorem OS.all {ks : List Int} {sc : Int → List Int} {np : Int → Int} {D : List Int} (o : OS ks sc np D []) (up : ∀ k ∈ ks, ∀ j ∈ sc k, k < j) : ∀ k, k ∈ D ↔ k ∈ ks := by
  have key : ks.filter (fun k => decide (k ∉ D)) = [] := by
    by_cases q : ks.filter (fun k => decide (k ∉ D)) = []
    · exact q
    · exfalso
      obtain ⟨m, hm, h⟩ := exists_min _ q
      obtain ⟨h1, h2⟩ := List.mem_filter.mp hm
      have h2 : m ∉ D := by simpa using h2
      have h3 := (o.np m h1 h2 (by simp)).2
      have h4 : cnt sc ks D m = 0 := cnt_zero' fun p hp hpm => by
        by_cases e : p ∈ D
        · exact e
        · exfalso
          have := h p (List.mem_filter.mpr ⟨hp, by simpa using e⟩)
          have := up p hp m hpm
          omega
      omega
  intro k
  refine ⟨fun h => o.sub k (by simpa using h), fun h => ?_⟩
  by_cases q : k ∈ D
  · exact q
  · have : k ∈ ks.filter (fun k => decide (k ∉ D)) := List.mem_filter.mpr ⟨h, by simpa using q⟩
    rw [key] at this; cases this


section
variable {C : Cx} {A : Around} {hp : AHeap} {k : Nat} {S : SS} {b : Str → Bool} {env : Env} {vs : Vars} {names : List (Str × NameKind)}
theorem eraseIdx_map_ {α β : Type} (f : α → β) : ∀ (l : List α) (i : Nat), (l.map f).eraseIdx i = (l.eraseIdx i).map f
  | [], i => rfl
  | a :: l, 0 => rfl
  | a :: l, i + 1 => congrArg (f a :: ·) (eraseIdx_map_ f l i)
/-- a: none of what stood aside -/
noncomputable def Anew (S : SS) (hp : AHeap) (a : Addr) : Prop := ∀ b o, hp b = some o → ¬ S.foot b → b ≠ a
theorem Steps.anew {cT cN : Addr} {S' : SS} {hp' : AHeap} (h : Steps cT cN S hp S' hp') {a : Addr} (e : hp' a = none) : Anew S hp a := fun b o q n => ne_none (h.keep b o q n).1 e
theorem Steps.putNew {cT cN : Addr} {S' : SS} {hp' : AHeap} (h : Steps cT cN S hp S' hp') {a : Addr} {o : AObj} (e : Anew S hp a) (n : ¬ S'.foot a) : Steps cT cN S hp S' (hp'.put a o) :=
  ⟨h.at_.other n, h.x, fun b o' q m => ⟨AHeap.get_ne (e b o' q m) (h.keep b o' q m).1, (h.keep b o' q m).2⟩⟩

/-- waiting, between the turns -/
structure LO (S : SS) (hp hp1 : AHeap) (cA oA wA : Addr) (cells D W : List Int) (a : Addr) (S1 : SS) : Prop where
  st : Steps 137 40 S hp S1 hp1
  keys : S1.keys = S.keys
  sc : S1.sc = S.sc
  os : OS S.keys S.sc S1.np D W
  ready : S1.ready = some (a, [])
  passed : S1.passed = ((D ++ W).length : Nat)
  finished : S1.finished = (D.length : Nat)
  fo : hp oA = none
  fw : Anew S hp wA
  no : ¬ S1.foot oA
  nw : ¬ S1.foot wA
  ow : oA ≠ wA
  oo : hp1 oA = some (.list (D.map .int))
  wo : hp1 wA = some (.list (W.map .int))

theorem emod_get {cells : List Int} (h : cells ≠ []) (n : Nat) : 0 ≤ (n : Int) % (cells.length : Int) ∧ ∃ c, cells[((n : Int) % (cells.length : Int)).toNat]? = some c := by
  have hl : 0 < cells.length := List.length_pos_iff.mpr h
  have h1 := Int.emod_nonneg (n : Int) (b := (cells.length : Int)) (by omega)
  have h2 := Int.emod_lt_of_pos (n : Int) (b := (cells.length : Int)) (by omega)
  exact ⟨h1, _, List.getElem?_eq_getElem (by omega)⟩
theorem emod_get' {ws : List Int} (h : ws ≠ []) (c : Int) : 0 ≤ c % (ws.length : Int) ∧ ∃ k, ws[(c % (ws.length : Int)).toNat]? = some k := by
  have hl : 0 < ws.length := List.length_pos_iff.mpr h
  have h1 := Int.emod_nonneg c (b := (ws.length : Int)) (by omega)
  have h2 := Int.emod_lt_of_pos c (b := (ws.length : Int)) (by omega)
  exact ⟨h1, _, List.getElem?_eq_getElem (by omega)⟩

noncomputable def LOV (S : SS) (cA oA wA : Addr) (vs : Vars) : Prop :=
  vs (Str.ofString "sorter") = some (.ref S.x) ∧ vs (Str.ofString "cells") = some (.ref cA) ∧ vs (Str.ofString "order") = some (.ref oA) ∧ vs (Str.ofString "waiting") = some (.ref wA)

set_option maxHeartbeats 4000000 in
theorem orderSpec (hK : C.K = KK C.w.params) (r : Room (k + 2) A) (h : SAt 137 40 S hp) {a cA : Addr} (hr : S.ready = some (a, S.free)) (hp0 : S.passed = 0) (hf0 : S.finished = 0) (ok : GOk S.gr)
    (hcnt : ∀ k ∈ S.keys, S.np k = cnt S.sc S.keys [] k) {cells : List Int} (hc : hp cA = some (.list (cells.map .int))) (hcz : cells ≠ []) (hcl : cells.length < 1000) (hcf : ¬ S.foot cA) {Q : AV → AHeap → Prop}
    (hQ : ∀ (o : Addr) (D : List Int) (S' : SS) (hp' : AHeap), Steps 137 40 S hp S' hp' → S'.ready = some (a, []) → S'.passed = S'.finished → hp o = none → ¬ S'.foot o → hp' o = some (.list (D.map .int)) → D.Nodup → (∀ k, k ∈ D ↔ k ∈ S.keys) →
      (∀ (i : Nat) (k : Int), D[i]? = some k → ∀ p ∈ S.keys, k ∈ S.sc p → p ∈ D.take i) → Q (.ref o) hp') :
    CC C A (.ref 148) ⟨[.ref S.x, .ref cA], []⟩ Q hp := by
  refine CC.fn r.room (by walk_at "k") rfl (by walk_at "k") rfl rfl rfl rfl rfl rfl rfl rfl ?_
  refine CW.bindsTo (ab := [(Str.ofString "sorter", .ref S.x), (Str.ofString "cells", .ref cA)]) rfl (.cons ⟨rfl, rfl⟩ (.cons ⟨rfl, rfl⟩ .nil)) ⟨rfl, fun env E hf => ?_⟩
  dsimp only at E
  have rd := r.deeper env
  have kz : S.keys.length < 900 := ok.kz
  have frl : S.free.length ≤ S.keys.length := List.length_filter_le _ _
  -- order = []
  walk_at "c"; refine AW.execsCons fun _ _ => (AW.AssignName (AW.ListD (AW.splicedNil ⟨by decide, fun oA hoA => ?_⟩)))
  walk_at "i"; walk_at "s"
  have st0 := Steps.fresh (o := .list []) h hoA
  -- waiting = list(sorter.get_ready())
  walk_at "x"; walk_at "e"
  walk_at "b"
  refine AW.call1 E ?_
  walk_at "e"; walk_at "e"; walk_at "i"
  refine ⟨_, selfCall hK st0.at_ (f := 99) rfl rfl rfl, AW.call0 E (Keeps.fn (by walk_at "k")) ?_⟩
  refine AW.ofCW E.ok (CC.cw (readySpec (C := C.push env) hK rd st0.at_ hr (fun j hj => (List.mem_filter.mp hj).1) (by omega) fun t S1 hp1 st1 g1 r1 p1 f1 ft ot nt => ?_))
  walk_at "i"
  refine ⟨Keeps.type, AW.ofCW E.ok (CW.listOfTup ot (by rw [List.length_map]; omega) fun wA hwA => ?_)⟩
  walk_at "i"; walk_at "s"
  have ⟨oo1, no1⟩ := st1.keep oA _ AHeap.get_same (h.notFoot hoA)
  have cne : cA ≠ oA := ne_none hc hoA
  have st01 := st0.trans st1
  have lo : LO S hp (hp1.put wA (.list (S.free.map .int))) cA oA wA cells [] S.free a S1 := by
    refine ⟨st01.putNew (st01.anew hwA) (st1.at_.notFoot hwA), ?_, ?_, ?_, r1, ?_, ?_, hoA, st01.anew hwA, no1, st1.at_.notFoot hwA, ne_none oo1 hwA, AHeap.get_new hwA oo1, AHeap.get_same⟩
    · show S1.gr.keys = _; rw [g1]
    · show S1.gr.sc = _; rw [g1]
    · show OS S.keys S.sc S1.gr.np [] S.free
      rw [g1]; exact OS.init ok.nodup hcnt
    · rw [p1, hp0]; simp
    · rw [f1, hf0]; rfl
  have lov : LOV S cA oA wA (((bindV [(Str.ofString "sorter", AV.ref S.x), (Str.ofString "cells", AV.ref cA)] noVars).put (Str.ofString "order") (.ref oA)).put (Str.ofString "waiting") (.ref wA)) := ⟨by walk_at "v", by walk_at "v", by walk_at "v", by walk_at "v"⟩
  -- while waiting != []
  walk_at "c"; refine AW.execsCons fun _ _ => (AW.While (fun n vs hp2 => ∃ S2 D W wA, n = S.keys.length - D.length ∧ LO S hp hp2 cA oA wA cells D W a S2 ∧ LOV S cA oA wA vs) ?_ _ ⟨S1, [], S.free, wA, rfl, lo, lov⟩)
  clear lov lo st01 cne oo1 no1 hwA wA ot nt ft f1 p1 r1 g1 st1 hp1 S1 t st0
  rintro n vs hp2 ⟨S2, D, W, wA, rfl, lo, v1, v2, v3, v4⟩ _ _
  refine AW.isTrue_Compare1 ?_
  walk_at "e"
  refine AW.ListD (AW.splicedNil ⟨by decide, fun eA heA => ?_⟩)
  walk_at "ii"
  refine AW.ofCW E.ok (CW.neEmpty rd (AHeap.get_new heA lo.wo) AHeap.get_same ⟨_, rfl, ?_⟩)
  rw [List.isEmpty_map]
  have nl : (D ++ W).length ≤ S.keys.length := lo.os.nd.length_le_of_subset lo.os.sub
  rw [List.length_append] at nl
  have ste := lo.st.putNew (o := .list []) (lo.st.anew heA) (lo.st.at_.notFoot heA)
  have lo' : LO S hp (hp2.put eA (.list [])) cA oA wA cells D W a S2 := ⟨ste, lo.keys, lo.sc, lo.os, lo.ready, lo.passed, lo.finished, lo.fo, lo.fw, lo.no, lo.nw, lo.ow, AHeap.get_new heA lo.oo, AHeap.get_new heA lo.wo⟩
  clear lo ste
  generalize hp2.put eA (.list []) = hp3 at lo'
  obtain ⟨st, keys, sc, os, ready, passed, finished, fo, fw, no, nw, ow, oo, wo⟩ := lo'
  by_cases hW : W = []
  · subst hW
    rw [if_neg (by decide)]
    walk_at "x"; walk_at "x"; walk_at "e"
    have oa := os.all ok.up
    refine hQ oA D S2 hp3 st ready ?_ fo no oo (by have := os.nd; rwa [List.append_nil] at this) oa os.topo
    rw [passed, finished, List.append_nil]
  · have hWe : (!W.isEmpty) = true := by cases W with | nil => exact absurd rfl hW | cons => rfl
    rw [if_pos hWe]
    -- place = waiting.pop(cells[len(order) % len(cells)] % len(waiting))
    have ⟨co, nc⟩ := st.keep cA _ hc hcf
    obtain ⟨c0, c, hcg⟩ := emod_get hcz (D.map AV.int).length
    obtain ⟨w0, kk, hkk⟩ := emod_get' hW c
    have hclp : 0 < cells.length := List.length_pos_iff.mpr hcz
    have hWp : 0 < W.length := List.length_pos_iff.mpr hW
    walk_at "x"; walk_at "e"; walk_at "e"; walk_at "i"
    refine ⟨_, Meth.list wo F.slot_list_pop F.type_list_pop, AW.call1 E ?_⟩
    walk_at "e"; walk_at "e"; walk_at "e"; walk_at "e"; walk_at "e"
    walk_at "b"
    refine AW.call1 E ?_
    walk_at "e"; walk_at "i"
    refine ⟨Keeps.builtin, AW.ofCW E.ok (CW.lenList oo (by rw [List.length_map]; omega) ?_)⟩
    walk_at "e"
    walk_at "b"
    refine AW.call1 E ?_
    walk_at "e"; walk_at "i"
    refine ⟨Keeps.builtin, AW.ofCW E.ok (CW.lenList co (by rw [List.length_map]; omega) ?_)⟩
    walk_at "ii"
    refine AW.ofCW E.ok (CW.modI (by rw [List.length_map]; omega) ?_)
    rw [List.length_map (as := cells)]
    walk_at "ii"
    refine AW.ofCW E.ok (CW.subList (a := .int c) co c0 (by rw [List.length_map]; omega) (by rw [List.getElem?_map, hcg]; rfl) ?_)
    walk_at "e"
    walk_at "b"
    refine AW.call1 E ?_
    walk_at "e"; walk_at "i"
    refine ⟨Keeps.builtin, AW.ofCW E.ok (CW.lenList wo (by rw [List.length_map]; omega) ?_)⟩
    walk_at "ii"
    refine AW.ofCW E.ok (CW.modI (by rw [List.length_map]; omega) ?_)
    rw [List.length_map]
    walk_at "i"
    refine ⟨Keeps.builtin, AW.ofCW E.ok (CW.popAt (a := .int kk) wo (by rw [List.length_map]; omega) w0 (by rw [List.getElem?_map, hkk]; rfl) ?_)⟩
    rw [eraseIdx_map_]
    walk_at "i"; walk_at "s"
    have kW := List.mem_of_getElem? hkk
    have kS : kk ∈ S.keys := os.sub kk (by simp [kW])
    have wl : (W.eraseIdx (c % (W.length : Int)).toNat).length + 1 = W.length := by
      rw [List.length_eraseIdx_of_lt (List.getElem?_eq_some_iff.mp hkk).1]; omega
    obtain ⟨np1, X, fe, Xk, Xl, os'⟩ := os.step ok.nodup ok.scK hkk
    replace Xl : X.length ≤ (S.sc kk).length := Xl
    have Sl : (S.sc kk).length < 900 := ok.sz kk kS
    have st3 := st.putNew (o := .list ((W.eraseIdx (c % (W.length : Int)).toNat).map .int)) fw nw
    have wo3 : (hp3.put wA (.list ((W.eraseIdx (c % (W.length : Int)).toNat).map .int))) wA = some (.list ((W.eraseIdx (c % (W.length : Int)).toNat).map .int)) := AHeap.get_same
    have oo3 := AHeap.get_ne (o := AObj.list ((W.eraseIdx (c % (W.length : Int)).toNat).map .int)) ow oo
    generalize hp3.put wA (.list ((W.eraseIdx (c % (W.length : Int)).toNat).map .int)) = hp4 at st3 wo3 oo3 ⊢
    -- order.append(place)
    walk_at "x"; walk_at "e"; walk_at "e"; walk_at "i"
    refine ⟨_, Meth.list oo3 F.slot_list_append F.type_list_append, AW.call1 E ?_⟩
    walk_at "e"; walk_at "i"
    refine ⟨Keeps.builtin, AW.ofCW E.ok (CW.append oo3 (by rw [List.length_map]; omega) isInt ?_)⟩
    have st4 := st3.putNew (o := .list (D.map .int ++ [.int kk])) (fun b o q _ => ne_none q fo) no
    have oo4 : (hp4.put oA (.list (D.map .int ++ [.int kk]))) oA = some (.list (D.map .int ++ [.int kk])) := AHeap.get_same
    have wo4 := AHeap.get_ne (o := AObj.list (D.map .int ++ [.int kk])) (Ne.symm ow) wo3
    generalize hp4.put oA (.list (D.map .int ++ [.int kk])) = hp5 at st4 wo4 oo4 ⊢
    -- sorter.done(place)
    rw [← st4.x] at v1
    walk_at "x"; walk_at "e"; walk_at "e"; walk_at "i"
    refine ⟨_, selfCall hK st4.at_ (f := 120) rfl rfl rfl, AW.call1 E ?_⟩
    walk_at "e"; walk_at "i"
    refine ⟨Keeps.fn (by walk_at "k"), AW.ofCW E.ok (CC.cw (doneSpec (C := C.push env) hK rd st4.at_ ready (kk := kk) (by rw [keys]; exact kS) (os.npW kk kW) (by rw [sc, keys]; exact ok.scK kk kS) (by rw [sc]; simp only [List.length_nil]; omega) fun S5 hp5 st5 g5 r5 p5 f5 => ?_))⟩
    rw [sc, keys, fe] at g5
    rw [sc, fe] at r5
    dsimp only at g5 r5
    have ⟨oo5, no5⟩ := st5.keep oA _ oo4 no
    have ⟨wo5, nw5⟩ := st5.keep wA _ wo4 nw
    have st45 := st4.trans st5
    -- waiting = waiting + list(sorter.get_ready())
    rw [← st5.x] at v1
    walk_at "x"; walk_at "e"; walk_at "e"; walk_at "e"
    walk_at "b"
    refine AW.call1 E ?_
    walk_at "e"; walk_at "e"; walk_at "i"
    refine ⟨_, selfCall hK st5.at_ (f := 99) rfl rfl rfl, AW.call0 E (Keeps.fn (by walk_at "k")) ?_⟩
    have k5 : S5.keys = S.keys := by show S5.gr.keys = _; rw [g5]
    have n5 : S5.np = np1 := by show S5.gr.np = _; rw [g5]
    have s5 : S5.sc = S.sc := by show S5.gr.sc = _; rw [g5]
    refine AW.ofCW E.ok (CC.cw (readySpec (C := C.push env) hK rd st5.at_ r5 (fun j hj => by rw [k5]; exact Xk j hj) (by omega) fun t S6 hp6 st6 g6 r6 p6 f6 ft ot nt => ?_))
    have ⟨oo6, no6⟩ := st6.keep oA _ oo5 no5
    have ⟨wo6, nw6⟩ := st6.keep wA _ wo5 nw5
    have st46 := st45.trans st6
    walk_at "i"
    refine ⟨Keeps.type, AW.ofCW E.ok (CW.listOfTup ot (by rw [List.length_map]; omega) fun lA hlA => ?_)⟩
    walk_at "ii"
    have st7 := st46.putNew (o := .list (X.map .int)) (st46.anew hlA) (st6.at_.notFoot hlA)
    refine AW.ofCW E.ok (CW.addList (AHeap.get_new hlA wo6) AHeap.get_same (by rw [List.length_map, List.length_map]; omega) fun zA hzA => ?_)
    have st8 := st7.putNew (o := .list ((W.eraseIdx (c % (W.length : Int)).toNat).map .int ++ X.map .int)) (st7.anew hzA) (st7.at_.notFoot hzA)
    walk_at "i"; walk_at "s"
    walk_at "x"
    have oo7 := AHeap.get_new (o := AObj.list (X.map .int)) hlA oo6
    refine ⟨S.keys.length - (D ++ [kk]).length, ?_, S6, D ++ [kk], W.eraseIdx (c % (W.length : Int)).toNat ++ X, zA, rfl, ⟨st8, ?_, ?_, ?_, r6, ?_, ?_, fo, st7.anew hzA, no6, st7.at_.notFoot hzA, ne_none oo7 hzA, ?_, ?_⟩, ?_, by walk_at "v", by walk_at "v", by walk_at "v"⟩
    · rw [List.length_append, List.length_singleton]; omega
    · show S6.gr.keys = _; rw [g6]; exact k5
    · show S6.gr.sc = _; rw [g6]; exact s5
    · show OS S.keys S.sc S6.gr.np _ _
      rw [g6, n5]; exact os'
    · rw [p6, p5, passed]
      simp only [List.length_append, List.length_singleton]
      omega
    · rw [f6, f5, finished]
      simp only [List.length_append, List.length_singleton]
      omega
    · rw [AHeap.get_new hzA oo7]; simp
    · rw [AHeap.get_same, List.map_append]
    · rw [st5.x, st4.x] at v1
      walk_at "v"
end

/-- a graph that the edges es have built, over the nodes U -/
structure GI (U : List Int) (g : Gr) (es : List (Int × Int)) : Prop where
  nodup : g.keys.Nodup
  sub : ∀ k ∈ g.keys, k ∈ U
  mem : ∀ p k, (p, k) ∈ es ↔ p ∈ g.keys ∧ k ∈ g.sc p
  scK : ∀ p ∈ g.keys, ∀ k ∈ g.sc p, k ∈ g.keys
  np : ∀ k ∈ g.keys, g.np k = cnt g.sc g.keys [] k
  len : ∀ p ∈ g.keys, (g.sc p).length ≤ es.length

theorem GI.empty (U : List Int) : GI U ⟨[], fun _ => 0, fun _ => []⟩ [] :=
  ⟨.nil, (fun k hk => by cases hk), fun p k => by simp, (fun p hp => by cases hp), (fun k hk => by cases hk), (fun p hp => by cases hp)⟩

theorem cnt_congr {sc sc' : Int → List Int} {ks : List Int} {k : Int} (h : ∀ p ∈ ks, (sc p).count k = (sc' p).count k) : cnt sc ks [] k = cnt sc' ks [] k := by
  unfold cnt
  congr 1
  refine List.map_congr_left fun p hp => ?_
  exact h p (List.mem_filter.mp hp).1
theorem cnt_key {sc : Int → List Int} {ks : List Int} {j k : Int} : cnt sc (ks ++ [j]) [] k = cnt sc ks [] k + (sc j).count k := by
  unfold cnt; simp
theorem cnt_absent {sc : Int → List Int} {ks : List Int} {k : Int} (h : ∀ p ∈ ks, k ∉ sc p) : cnt sc ks [] k = 0 := cnt_zero' fun p hp hk => absurd hk (h p hp)

theorem GI.ensure {U : List Int} {g : Gr} {es : List (Int × Int)} (h : GI U g es) {k : Int} (hk : k ∈ U) : GI U (ensure g k) es := by
  unfold Mine.ensure
  by_cases q : k ∈ g.keys
  · rw [if_pos q]; exact h
  · rw [if_neg q]
    have ne : ∀ p ∈ g.keys, p ≠ k := fun p hp e => q (e ▸ hp)
    have sce : ∀ p ∈ g.keys, upd g.sc k [] p = g.sc p := fun p hp => upd_ne (ne p hp)
    refine ⟨?_, fun j hj => ?_, fun p j => ?_, fun p hp j hj => ?_, fun j hj => ?_, fun p hp => ?_⟩
    · rw [List.nodup_append]
      exact ⟨h.nodup, by simp, fun a ha b hb => by rw [List.mem_singleton.mp hb]; exact ne a ha⟩
    · rcases List.mem_append.mp hj with e | e
      · exact h.sub j e
      · rw [List.mem_singleton.mp e]; exact hk
    · rw [h.mem]
      constructor
      · rintro ⟨a, b⟩; exact ⟨List.mem_append_left _ a, by show j ∈ upd g.sc k [] p; rw [sce p a]; exact b⟩
      · rintro ⟨a, b⟩
        rcases List.mem_append.mp a with e | e
        · exact ⟨e, by have : j ∈ upd g.sc k [] p := b; rwa [sce p e] at this⟩
        · rw [List.mem_singleton.mp e] at b
          have : j ∈ upd g.sc k [] k := b
          rw [upd_same] at this; cases this
    · rcases List.mem_append.mp hp with e | e
      · have : j ∈ upd g.sc k [] p := hj
        rw [sce p e] at this
        exact List.mem_append_left _ (h.scK p e j this)
      · rw [List.mem_singleton.mp e] at hj
        have : j ∈ upd g.sc k [] k := hj
        rw [upd_same] at this; cases this
    · show upd g.np k 0 j = (cnt (upd g.sc k []) (g.keys ++ [k]) [] j : Nat)
      rw [cnt_key, upd_same, cnt_congr (sc' := g.sc) fun p hp => by rw [sce p hp]]
      rcases List.mem_append.mp hj with e | e
      · rw [upd_ne (ne j e), h.np j e]; simp
      · rw [List.mem_singleton.mp e, upd_same, cnt_absent fun p hp hm => q (h.scK p hp k hm)]; simp
    · rcases List.mem_append.mp hp with e | e
      · show (upd g.sc k [] p).length ≤ _
        rw [sce p e]; exact h.len p e
      · rw [List.mem_singleton.mp e]; show (upd g.sc k [] k).length ≤ _; rw [upd_same]; simp

theorem ensure_keys_mono {g : Gr} {k : Int} : ∀ j ∈ g.keys, j ∈ (ensure g k).keys := fun j hj => ensure_mono hj

theorem addP0 {g : Gr} {k : Int} : addP g k [] = ensure g k := by
  unfold addP
  simp only [List.foldl_nil, List.length_nil]
  have : upd (ensure g k).np k ((ensure g k).np k + ((0 : Nat) : Int)) = (ensure g k).np := by
    funext j; unfold upd; split
    · rename_i e; rw [e]; simp
    · rfl
  rw [this]

theorem GI.add0 {U : List Int} {g : Gr} {es : List (Int × Int)} (h : GI U g es) {k : Int} (hk : k ∈ U) : GI U (addP g k []) es ∧ k ∈ (addP g k []).keys ∧ ∀ j ∈ g.keys, j ∈ (addP g k []).keys := by
  rw [addP0]; exact ⟨h.ensure hk, mem_ensure, ensure_keys_mono⟩

theorem GI.add1 {U : List Int} {g : Gr} {es : List (Int × Int)} (h : GI U g es) {k p : Int} (hk : k ∈ U) (hp : p ∈ U) : GI U (addP g k [p]) (es ++ [(p, k)]) ∧ k ∈ (addP g k [p]).keys ∧ ∀ j ∈ g.keys, j ∈ (addP g k [p]).keys := by
  have h2 := (h.ensure hk).ensure hp
  have kk : k ∈ (Mine.ensure g k).keys := mem_ensure
  -- the count of k, raised ahead
  have e : addP g k [p] = { keys := (Mine.ensure (Mine.ensure g k) p).keys, np := upd (Mine.ensure (Mine.ensure g k) p).np k ((Mine.ensure (Mine.ensure g k) p).np k + 1), sc := upd (Mine.ensure (Mine.ensure g k) p).sc p ((Mine.ensure (Mine.ensure g k) p).sc p ++ [k]) } := by
    unfold addP
    simp only [List.foldl_cons, List.foldl_nil, List.length_singleton]
    generalize Mine.ensure g k = g1 at kk
    unfold Mine.ensure
    dsimp only
    by_cases q : p ∈ g1.keys
    · rw [if_pos q, if_pos q]; rfl
    · rw [if_neg q, if_neg q]
      have pk : k ≠ p := fun e => q (e ▸ kk)
      congr 1
      funext j
      unfold upd
      by_cases a : j = p
      · have : ¬ j = k := fun b => pk (b.symm.trans a)
        simp [a, Ne.symm pk]
      · by_cases b : j = k
        · subst b; simp [pk]
        · simp [a, b]
  rw [e]
  have kk2 : k ∈ (Mine.ensure (Mine.ensure g k) p).keys := ensure_mono kk
  have pp2 : p ∈ (Mine.ensure (Mine.ensure g k) p).keys := mem_ensure
  have mono : ∀ j ∈ g.keys, j ∈ (Mine.ensure (Mine.ensure g k) p).keys := fun j hj => ensure_mono (ensure_mono hj)
  generalize Mine.ensure (Mine.ensure g k) p = g2 at h2 kk2 pp2 mono
  refine ⟨⟨h2.nodup, h2.sub, fun a j => ?_, fun a ha j hj => ?_, fun j hj => ?_, fun a ha => ?_⟩, kk2, mono⟩
  · rw [List.mem_append, h2.mem, List.mem_singleton]
    show _ ↔ a ∈ g2.keys ∧ j ∈ upd g2.sc p (g2.sc p ++ [k]) a
    by_cases q : a = p
    · subst q
      rw [upd_same, List.mem_append, List.mem_singleton]
      constructor
      · rintro (⟨x, y⟩ | e)
        · exact ⟨x, .inl y⟩
        · cases e; exact ⟨pp2, .inr rfl⟩
      · rintro ⟨x, y | y⟩
        · exact .inl ⟨x, y⟩
        · exact .inr (by rw [y])
    · rw [upd_ne q]
      constructor
      · rintro (x | e)
        · exact x
        · cases e; exact absurd rfl q
      · exact .inl
  · have hj : j ∈ upd g2.sc p (g2.sc p ++ [k]) a := hj
    by_cases q : a = p
    · subst q
      rw [upd_same, List.mem_append, List.mem_singleton] at hj
      rcases hj with hj | hj
      · exact h2.scK a ha j hj
      · rw [hj]; exact kk2
    · rw [upd_ne q] at hj; exact h2.scK a ha j hj
  · show upd g2.np k (g2.np k + 1) j = (cnt (upd g2.sc p (g2.sc p ++ [k])) g2.keys [] j : Nat)
    have key : ∀ ks : List Int, ks.Nodup → p ∈ ks → cnt (upd g2.sc p (g2.sc p ++ [k])) ks [] j = cnt g2.sc ks [] j + (if j = k then 1 else 0) := by
      intro ks
      have f : ∀ (sc : Int → List Int) (a : Int) (r : List Int), cnt sc (a :: r) [] j = (sc a).count j + cnt sc r [] j := fun sc a r => by unfold cnt; simp
      induction ks with
      | nil => intro _ h; cases h
      | cons a r ih =>
        intro nd hm
        rw [List.nodup_cons] at nd
        rw [f, f]
        by_cases q : a = p
        · subst q
          rw [upd_same, cnt_congr (sc' := g2.sc) (ks := r) fun x hx => by rw [upd_ne (show x ≠ a from fun e => nd.1 (e ▸ hx))]]
          rw [List.count_append]
          by_cases w : j = k
          · subst w; simp; omega
          · have : List.count j [k] = 0 := List.count_eq_zero.mpr (by simpa using w)
            rw [this, if_neg w]; omega
        · have hm' : p ∈ r := by rcases List.mem_cons.mp hm with e | e; exact absurd e.symm q; exact e
          rw [upd_ne q, ih nd.2 hm']; omega
    rw [key g2.keys h2.nodup pp2]
    by_cases w : j = k
    · subst w; rw [upd_same, if_pos rfl, h2.np j hj]; omega
    · rw [upd_ne w, if_neg w, h2.np j hj]; omega
  · show (upd g2.sc p (g2.sc p ++ [k]) a).length ≤ _
    rw [List.length_append, List.length_singleton]
    by_cases q : a = p
    · subst q; rw [upd_same, List.length_append, List.length_singleton]; have := h2.len a ha; omega
    · rw [upd_ne q]; have := h2.len a ha; omega

theorem GI.ok {U : List Int} {g : Gr} {es : List (Int × Int)} (h : GI U g es) (hu : U.length < 900) (he : es.length < 900) (up : ∀ q ∈ es, q.1 < q.2) : GOk g :=
  ⟨h.nodup, h.scK, fun k hk j hj => up (k, j) ((h.mem k j).mpr ⟨hk, hj⟩), Nat.lt_of_le_of_lt (h.nodup.length_le_of_subset h.sub) hu, fun k hk => Nat.lt_of_le_of_lt (h.len k hk) he⟩
section
variable {C : Cx} {A : Around} {b : Str → Bool} {env : Env} {vs : Vars} {hp : AHeap} {K : Addr → Option Obj} {names : List (Str × NameKind)} {k : Nat}

theorem Room.plainU {k : Nat} {A : Around} (r : Room k A) : A.units + 200 < cLine := by have := r.u; omega

/-- the script, as it was given -/
theorem AW.sliceToBase {value e : Expr} {p pos : Pos} {l : Addr} {ns : List Int} {us : List Value} {n : Nat} {Q : AV → Vars → AHeap → Prop} (hL : C.h₀.IsList l us.toArray) (hI : IntsAre us ns) (hz : ns.length < 100000)
    (h : AW C A b env Is (eval value env) (fun x vs₁ hp₁ => x = .ref l ∧ AW C A b env Is (eval e env) (fun y vs₂ hp₂ => y = .int (n : Nat) ∧ ∀ r, hp₂ r = none → Q (.ref r) vs₂ (hp₂.put r (.list ((ns.take n).map .int)))) vs₁ hp₁) vs hp) :
    AW C A b env Is (eval (.Subscript value (.Slice none (some e) none p) pos) env) Q vs hp := fun K s R => by
  refine Subscript_ (wpAny_mono (h K s R) (fun o s₁ ⟨x, vs₁, hp₁, i, R₁, e1, q⟩ => ?_) fun _ _ x => x)
  refine wpAny_Slice ?_
  try rw [evalPart_none]
  refine wpAny_pure (wpAny_mono (q K s₁ R₁) (fun u s₂ ⟨y, vs₂, hp₂, j, R₂, e2, q₂⟩ => ?_) fun _ _ x => x)
  subst e1; subst e2; cases i
  try rw [evalPart_none]
  refine wpAny_pure ?_
  have hz' : us.length = ns.length := by have := (ofInts hI).len; simpa using this
  obtain ⟨ol, hol, hcl, nl, hdl⟩ := hL
  have hol2 := R₂.h.keepB _ _ hol
  have hL2 : (s₂.heap.push { cls := .type "slice", data := .fields #[.none, u, .none] }).IsList l us.toArray := ⟨ol, Heap.get?_push_of_some _ hol2, hcl, nl, hdl⟩
  have R1 := R₂.grow (s' := { s₂ with heap := s₂.heap.push { cls := .type "slice", data := .fields #[.none, u, .none] } }) (fun a o e => Heap.get?_push_of_some _ e) rfl rfl rfl (by show _ ≤ (s₂.heap.push _).objs.size; rw [Heap.size_push]; exact Nat.le_succ _)
  refine tail_any (s := { s₂ with heap := s₂.heap.push { cls := .type "slice", data := .fields #[.none, u, .none] } }) (ops := [.ref s₂.heap.objs.size, .ref l]) hL2.typeIs slot_list_getitem.lookup
    (wpAny_getItem_list_slice hL2 (Heap.IsSliceOf.new ..) .none (IsPart_int j) .none (by simp) ⟨.ref _, vs₂, _, rfl, R1.alloc (ao := .list ((ns.take n).map .int)) ⟨us.take n, 0, ?_, by rw [slicePick_upto']⟩ rfl, q₂ _ R1.h.fresh⟩ (by rw [List.size_toArray, hz']; exact small_size hz)) rfl
  rw [List.map_take]
  exact F2.take (ofInts hI) n

/-- x = [..], x a cell -/
theorem AW.AssignCompC {x : Str} {elt target iter : Expr} {ifs : List Expr} {scope : Scope} {pos pos' spos : Pos} {Q : AFlow → Vars → AHeap → Prop} (E : EnvIs names b env) (hok : compOk names scope = true) (hh : A.handled = none)
    (hx : names.lookup x = some .cell)
    (h : AW C A b env Is (eval iter env) (fun y vs₁ hp₁ => ∃ Src items io, Walker (C.push env) Src items io ∧ (∀ v, Is y v → Starts (C.push env) hp₁ v io) ∧ ∃ I : Nat → List AV → AHeap → Prop, I 0 [] hp₁ ∧ (∀ i ys hp, I i ys hp → Src hp ∧ ys.length < 90000) ∧
      CompTurns (C.push env) A scope target elt ifs vs₁ items I ∧ (∀ ys hp, I items.length ys hp → ∀ r, hp r = none → Q .next (vs₁.put x (.ref r)) (hp.put r (.list ys)))) vs hp)
    (hs : ∀ x, foldedSetIterable iter env x = Pure.pure x := by intro _; rfl) :
    AW C A b env FlowIs (exec (.Assign [.Name x pos'] (.ListComp elt [⟨target, iter, ifs, 0⟩] scope pos) spos) env) Q vs hp := by
  have hbk : env.blockKind = .function := by unfold Env.blockKind; rw [E.ok.kind]; rfl
  have hsw : swapsWith (.ListComp elt [⟨target, iter, ifs, 0⟩] scope pos) (some (.Name x pos')) spos.line env = Pure.pure false := by
    show Pure.pure (env.blockKind == .function && env.kindOf x == some .local && pos'.line == pos.line && !(scope.names.any fun (n, k) => n == x && (k == .local || k == .cell))) = Pure.pure false
    rw [(E.cel x hx).1]
    have : ((some NameKind.cell == some NameKind.local) : Bool) = false := by decide
    rw [this]; simp
  refine AW.AssignName (AW.ListComp E hok hh (AW.mono h fun y vs₁ hp₁ ⟨Src, items, io, W, st, I, I0, IS, turn, fin⟩ => ⟨Src, items, io, W, st, I, I0, IS, turn, fun ys hp' hI r hr v iv => ?_⟩) hs) hsw
  exact AW.sCell E hx iv (fin ys hp' hI r hr)

theorem CW.getItemList {l : Addr} {i : Int} {t : Tok} {as : List AV} {a : AV} {Q : AV → AHeap → Prop} (hl : hp l = some (.list as)) (h0 : 0 ≤ i) (hz : as.length < 100000) (hx : as[i.toNat]? = some a) (h : Q a hp) :
    CW C A Is (getItem (.ref l) (.int i t)) Q hp := fun K s R => by
  obtain ⟨us, n, j, ho⟩ := R.list hl
  obtain ⟨v, hv, iv⟩ := F2.get j hx
  have : i.toNat < as.length := (List.getElem?_eq_some_iff.mp hx).1
  exact wpAny_getItem_list ⟨_, ho, rfl, n, rfl⟩ h0 (by omega) (by rw [List.getElem?_toArray]; exact hv) ⟨a, hp, iv, R, h⟩

theorem AW.sortedDict {d : Addr} {kvs : List (Int × AV)} {ep : Nat} {Q : AV → Vars → AHeap → Prop} (rm : Room k A) (hd : hp d = some (.dict kvs ep)) (hz : kvs.length < 64)
    (h : ∀ (r : Addr) (ms : List Int), hp r = none → ms.Perm (kvs.map (·.1)) → ms.Pairwise (· ≤ ·) → Q (.ref r) vs (hp.put r (.list (ms.map .int)))) : AW C A b env Is (call (.builtin "sorted") [.ref d]) Q vs hp := fun K s R => by
  obtain ⟨us, j, hD, lo⟩ := R.h.dict hd
  have hlen := F2.length j
  refine Calls.call_function_entry kind_sorted plain_sorted entry_sorted (args_sorted1 _) ?_
  unfold Builtin.«sorted»
  refine wpAny_bind (m := checkCount "sorted" 1 1 _) (wpAny_pure ?_)
  refine wpAny_bind (kdu_collect (A := A.in1) (kdl_dict (knd := intKind C.prog C.w) (kvs := us) (ep := ep) lo) rm.h hD (by rw [hlen]; exact small_size (by omega)) fun h' tk acc hk hacc => ?_)
  have hl : acc.toList.length = kvs.length := by rw [Array.length_toList, ← hlen]; exact hacc.1
  refine wpAny_bind (wpAny_newList ?_ (by rw [hl]; exact small_size (by omega)))
  have hI : IntsAre acc.toList (kvs.map (·.1)) := by
    refine intsAre ?_
    rw [List.map_map]
    have key : ∀ (ks : List (Int × AV)) (ws : List Value), ws.length = ks.length → (∀ (i : Nat) (v : Value), ws[i]? = some v → ∃ p, ks[i]? = some p ∧ Is (.int p.1) v) → IsL (ks.map (AV.int ∘ fun p => p.1)) ws := by
      intro ks
      induction ks with
      | nil => intro ws hl _; cases ws with | nil => exact .nil | cons => simp at hl
      | cons p ks ih =>
        intro ws hl hv
        cases ws with
        | nil => simp at hl
        | cons v ws =>
          obtain ⟨q, hq, iq⟩ := hv 0 v rfl
          cases hq
          exact .cons iq (ih ws (by simpa using hl) fun i u hu => hv (i + 1) u hu)
    refine key kvs acc.toList hl fun i v hv => ?_
    obtain ⟨q, x, hq, hkk⟩ := hacc.2 i v (by rw [← Array.getElem?_toList]; exact hv)
    obtain ⟨p, hp, e, _⟩ := F2.get' j hq
    exact ⟨p, hp, by rw [e]; exact isInt_is hkk⟩
  have hoL : (h'.push { cls := .type "list", data := .seq acc.toList.toArray }).get? h'.objs.size = some (seqObj "list" acc.toList.toArray 0) := Heap.get?_push_size _ rfl
  refine wpAny_bind (wpAny_holding (wpAny_call_entry slot_list_sort ⟨_, hoL, rfl⟩ entry_list_sort (list_sort_tree hoL hI (by rw [hl]; exact hz) fun out ns' a1 a2 a3 => ⟨_, rfl, ?_⟩) (args_list_sort _)))
  refine wpAny_pure ⟨_, rfl, ?_⟩
  obtain ⟨e, he⟩ := sortedHeap_at (out := out) hoL
  have szl : ∀ a ao, hp a = some ao → a < h'.objs.size := fun a ao e => by obtain ⟨_, o, ho, _⟩ := R.h.objs a ao e; exact Heap.lt_size (hk _ _ ho)
  have hp1 : hp h'.objs.size = none := by
    cases q : hp h'.objs.size with
    | none => rfl
    | some ao => exact absurd (szl _ _ q) (Nat.lt_irrefl _)
  have old : ∀ a o, s.heap.get? a = some o → (sortedHeap (h'.push { cls := .type "list", data := .seq acc.toList.toArray }) h'.objs.size acc.toList out).get? a = some o := fun a o q => by
    have hlt := Heap.lt_size (hk a o q)
    rw [sortedHeap_old (Nat.ne_of_lt hlt) (by rw [Heap.size_push]; exact Nat.lt_succ_of_lt hlt)]
    exact Heap.get?_push_of_some _ (hk a o q)
  have R0 := R.keeps hk tk
  have ap0 := R0.apart (it := h'.objs.size) (Nat.le_refl _)
  have R1 := R.keeps (h' := sortedHeap (h'.push { cls := .type "list", data := .seq acc.toList.toArray }) h'.objs.size acc.toList out) old tk
  have R2 := R1.freeze he hp1 ap0
  exact ⟨.ref _, vs, _, rfl, R2.unfreeze (ao := .list (ns'.map .int)) ap0 (fun es ep h => by cases h) ⟨out.toList, e, ofInts a1, by simp⟩ R0.h.big, h _ ns' hp1 a2 a3⟩
end



/-- the law's call -/
noncomputable def LawAt (K0 : Params → Frag) (prog : Program) (f : Addr) (n : Nat) : Prop :=
  ∀ (C : Cx) (l : Addr) (ns : List Int) (us : List Value), C.prog = prog → C.K = K0 C.w.params → C.fs = [] → C.h₀.IsList l us.toArray → IntsAre us ns → ns.length ≤ n →
    CC C callerA (.ref f) ⟨[.ref l], []⟩ (fun a _ => a = .bool true) (fun _ => none)

theorem law_end {c : ClaimW} {cl : Str → Option Addr} {mean : ExcName → Option Value} {args : List WData} {C : Cx} {s₁ : Shared} (hs : C.s₀ = s₁) (hh : C.h₀ = s₁.heap) (hg : s₁.gens = #[]) (hn : ∀ cls, c.raises args cls = false) (hp : c.post args (.bool true) args = true) {A : Around} {f : Value} {ar : Args}
    (h : CC C A f ar (fun a _ => a = .bool true) (fun _ => none)) (hfs : C.fs = []) : codeAny (model C.prog C.w) A (.call f ar) (GoodW c cl mean args s₁) s₁ := by
  subst hs
  have R : RelH C (fun a => C.h₀.get? a) (fun _ => none) C.s₀ := by
    refine ⟨fun a o e => e, fun a o e => by rw [← hh]; exact e, fun a o e => ⟨o, by rw [← hh]; exact e, .rfl⟩, fun a ao e => by (cases e), rfl, rfl, rfl, by rw [hh]; exact Nat.le_refl _, fun a ao e => by (cases e), fun e he => by rw [hfs] at he; cases he⟩
  refine codeAny_mono (h _ _ R) fun r s' z => ?_
  rcases r with e | (_ | _ | _ | v)
  · exact z.elim
  · exact z.elim
  · exact z.elim
  · exact z.elim
  · obtain ⟨a, hp', i, R', rfl⟩ := z
    cases i
    exact ⟨.inl ⟨_, _, _, rfl, hn, .bool true, hp, unshared_nil⟩, fun b o e => R'.keepB b o (by rw [hh]; exact e), R'.os, R'.gens.trans hg⟩


/-! rows of what leads where -/
noncomputable def grow (f : Nat → List Nat) (row l : List Nat) : List Nat := l.foldl (fun row one => row ++ (f one).filter fun x => decide (x ∉ row)) row
theorem grow_snoc {f : Nat → List Nat} {row l : List Nat} {a : Nat} : grow f row (l ++ [a]) = grow f row l ++ (f a).filter fun x => decide (x ∉ grow f row l) := by unfold grow; rw [List.foldl_append]; rfl
theorem grow_mem {f : Nat → List Nat} {x : Nat} : ∀ (l row : List Nat), x ∈ grow f row l ↔ x ∈ row ∨ ∃ a ∈ l, x ∈ f a
  | [], row => by simp [grow]
  | a :: l, row => by
    show x ∈ grow f (row ++ (f a).filter fun x => decide (x ∉ row)) l ↔ _
    rw [grow_mem l, List.mem_append, List.mem_filter]
    constructor
    · rintro ((h | h) | ⟨b, hb, h⟩)
      · exact .inl h
      · exact .inr ⟨a, by simp, h.1⟩
      · exact .inr ⟨b, by simp [hb], h⟩
    · rintro (h | ⟨b, hb, h⟩)
      · exact .inl (.inl h)
      · rcases List.mem_cons.mp hb with e | e
        · subst e
          by_cases q : x ∈ row
          · exact .inl (.inl q)
          · exact .inl (.inr ⟨h, by simpa using q⟩)
        · exact .inr ⟨b, e, h⟩
theorem grow_nodup {f : Nat → List Nat} : ∀ (l row : List Nat), row.Nodup → (∀ a ∈ l, (f a).Nodup) → (grow f row l).Nodup
  | [], row, h, _ => h
  | a :: l, row, h, hf => by
    refine grow_nodup l _ ?_ fun b hb => hf b (by simp [hb])
    rw [List.nodup_append]
    refine ⟨h, List.Pairwise.sublist List.filter_sublist (hf a (by simp)), fun x hx y hy e => ?_⟩
    subst e
    have := (List.mem_filter.mp hy).2
    exact absurd hx (by simpa using this)

noncomputable def psts (nd : Nat → List Nat) : Nat → List (List Nat)
  | 0 => []
  | n + 1 => psts nd n ++ [grow (fun one => (psts nd n).getD one []) [n] (nd n)]
noncomputable def pst (nd : Nat → List Nat) (i : Nat) : List Nat := (psts nd (i + 1)).getD i []
theorem psts_len {nd : Nat → List Nat} : ∀ n, (psts nd n).length = n
  | 0 => rfl
  | n + 1 => by rw [psts, List.length_append, psts_len n]; rfl
theorem psts_get {nd : Nat → List Nat} {i : Nat} : ∀ n, i < n → (psts nd n).getD i [] = pst nd i := by
  intro n
  induction n with
  | zero => intro h; omega
  | succ n ih =>
    intro h
    by_cases e : i = n
    · subst e; rfl
    · rw [← ih (by omega), psts]
      simp only [List.getD_eq_getElem?_getD]
      rw [List.getElem?_append_left (by rw [psts_len]; omega)]
theorem psts_get? {nd : Nat → List Nat} {i n : Nat} (h : i < n) : (psts nd n)[i]? = some (pst nd i) := by
  have := psts_get (nd := nd) n h
  rw [List.getElem?_eq_getElem (by rw [psts_len]; exact h)]
  rw [List.getD_eq_getElem?_getD, List.getElem?_eq_getElem (by rw [psts_len]; exact h)] at this
  exact congrArg some this
theorem grow_congr {f g : Nat → List Nat} : ∀ (l row : List Nat), (∀ a ∈ l, f a = g a) → grow f row l = grow g row l
  | [], row, _ => rfl
  | a :: l, row, h => by
    show grow f (row ++ (f a).filter _) l = grow g (row ++ (g a).filter _) l
    rw [h a (by simp)]; exact grow_congr l _ fun b hb => h b (by simp [hb])
theorem pst_eq {nd : Nat → List Nat} {i : Nat} (h : ∀ one ∈ nd i, one < i) : pst nd i = grow (pst nd) [i] (nd i) := by
  have : pst nd i = grow (fun one => (psts nd i).getD one []) [i] (nd i) := by
    unfold pst
    rw [psts, List.getD_eq_getElem?_getD, List.getElem?_append_right (by rw [psts_len]; exact Nat.le_refl _), psts_len]
    simp
  rw [this]
  exact grow_congr _ _ fun a ha => psts_get i (h a ha)
theorem psts_succ {nd : Nat → List Nat} {n : Nat} (h : ∀ one ∈ nd n, one < n) : psts nd (n + 1) = psts nd n ++ [pst nd n] := by
  rw [pst_eq h, psts]
  congr 2
  exact grow_congr _ _ fun a ha => psts_get n (h a ha)
theorem pst_facts {nd : Nat → List Nat} (h : ∀ i, ∀ one ∈ nd i, one < i) : ∀ n i, i < n → (pst nd i).Nodup ∧ (∀ x ∈ pst nd i, x ≤ i) ∧ i ∈ pst nd i := by
  intro n
  induction n with
  | zero => intro i hi; omega
  | succ n ih =>
    intro i hi
    have low : ∀ a ∈ nd i, a < n := fun a ha => by have := h i a ha; omega
    rw [pst_eq (h i)]
    refine ⟨grow_nodup _ _ (by simp) fun a ha => (ih a (low a ha)).1, fun x hx => ?_, (grow_mem _ _).mpr (.inl (by simp))⟩
    rcases (grow_mem _ _).mp hx with q | ⟨a, ha, q⟩
    · rw [List.mem_singleton.mp q]; exact Nat.le_refl _
    · have := (ih a (low a ha)).2.1 x q
      have := h i a ha
      omega
theorem pst_nodup {nd : Nat → List Nat} (h : ∀ i, ∀ one ∈ nd i, one < i) (i : Nat) : (pst nd i).Nodup := (pst_facts h (i + 1) i (by omega)).1
theorem pst_le {nd : Nat → List Nat} (h : ∀ i, ∀ one ∈ nd i, one < i) {i x : Nat} (hx : x ∈ pst nd i) : x ≤ i := (pst_facts h (i + 1) i (by omega)).2.1 x hx
theorem pst_self {nd : Nat → List Nat} (h : ∀ i, ∀ one ∈ nd i, one < i) (i : Nat) : i ∈ pst nd i := (pst_facts h (i + 1) i (by omega)).2.2
theorem pst_mem {nd : Nat → List Nat} (h : ∀ i, ∀ one ∈ nd i, one < i) {i x : Nat} : x ∈ pst nd i ↔ x = i ∨ ∃ a ∈ nd i, x ∈ pst nd a := by
  rw [pst_eq (h i), grow_mem, List.mem_singleton]

noncomputable def ci (l : List Nat) : List Int := l.map Int.ofNat
theorem ci_mem {l : List Nat} {n : Nat} : (n : Int) ∈ ci l ↔ n ∈ l := by
  unfold ci
  rw [List.mem_map]
  constructor
  · rintro ⟨a, h, e⟩
    have e : (a : Int) = (n : Int) := e
    have : a = n := by omega
    rw [← this]; exact h
  · intro h; exact ⟨n, h, rfl⟩
theorem ci_app {l l' : List Nat} : ci (l ++ l') = ci l ++ ci l' := by unfold ci; simp
theorem ci_len {l : List Nat} : (ci l).length = l.length := by unfold ci; simp
theorem ci_get {l : List Nat} {i : Nat} : (ci l)[i]? = (l[i]?).map Int.ofNat := by unfold ci; simp
/-! the first law's mathematics -/
noncomputable def hnd (cells : List Int) (i : Nat) : Int := cells.getD i 0 % 3
noncomputable def hrd (cells : List Int) (i : Nat) : Nat := (cells.getD i 0 / 3 % ((i : Int) + 1)).toNat
noncomputable def prv (cells : List Int) (i : Nat) : List Nat := (List.range i).filter fun j => decide (hnd cells j = hnd cells i)
noncomputable def row1 (cells : List Int) (i : Nat) : List Nat := (prv cells i).drop ((prv cells i).length - 1)
noncomputable def need (cells : List Int) (i : Nat) : List Nat := if hrd cells i < i then row1 cells i ++ [hrd cells i] else row1 cells i
noncomputable def cnh (cells : List Int) (h : Int) (B : Nat) : Nat := ((List.range B).filter fun j => decide (hnd cells j = h)).length
noncomputable def vcl (cells : List Int) (i : Nat) (h : Int) : Nat := ((pst (need cells) i).filter fun j => decide (hnd cells j = h)).length

section
variable {cells : List Int}
theorem row1_nil {i : Nat} (h : prv cells i = []) : row1 cells i = [] := by unfold row1; rw [h]; rfl
theorem row1_last {i : Nat} (h : prv cells i ≠ []) : ∃ r, row1 cells i = [r] ∧ r < i ∧ hnd cells r = hnd cells i ∧ ∀ x, x < i → hnd cells x = hnd cells i → x ≤ r := by
  have hl : 0 < (prv cells i).length := List.length_pos_iff.mpr h
  have e : row1 cells i = [(prv cells i)[(prv cells i).length - 1]] := by
    unfold row1
    rw [List.drop_eq_getElem_cons (by omega)]
    congr 1
    rw [List.drop_eq_nil_iff]; omega
  have hm := List.getElem_mem (l := prv cells i) (n := (prv cells i).length - 1) (by omega)
  obtain ⟨h1, h2⟩ := List.mem_filter.mp hm
  refine ⟨_, e, by simpa using h1, by simpa using h2, fun x hx hh => ?_⟩
  have hxm : x ∈ prv cells i := List.mem_filter.mpr ⟨by simpa using hx, by simpa using hh⟩
  obtain ⟨j, hj, e⟩ := List.getElem_of_mem hxm
  have pw : (prv cells i).Pairwise (· < ·) := List.Pairwise.sublist List.filter_sublist List.pairwise_lt_range
  by_cases q : j = (prv cells i).length - 1
  · subst q; omega
  · have := List.pairwise_iff_getElem.mp pw j ((prv cells i).length - 1) hj (by omega) (by omega)
    omega
theorem need_lt : ∀ i, ∀ one ∈ need cells i, one < i := fun i one h => by
  have r1 : ∀ x ∈ row1 cells i, x < i := fun x hx => by
    have := List.mem_of_mem_drop hx
    simpa using (List.mem_filter.mp this).1
  unfold need at h
  split at h
  · rcases List.mem_append.mp h with q | q
    · exact r1 one q
    · rw [List.mem_singleton.mp q]; assumption
  · exact r1 one h
theorem need_len (i : Nat) : (need cells i).length ≤ 2 := by
  have r1 : (row1 cells i).length ≤ 1 := by unfold row1; rw [List.length_drop]; omega
  unfold need; split
  · rw [List.length_append, List.length_singleton]; omega
  · omega
theorem row1_need {i r : Nat} (h : row1 cells i = [r]) : r ∈ need cells i := by
  unfold need; split <;> simp [h]

theorem cnh_succ {h : Int} {B : Nat} : cnh cells h (B + 1) = cnh cells h B + if hnd cells B = h then 1 else 0 := by
  unfold cnh
  rw [List.range_succ, List.filter_append, List.length_append]
  by_cases q : hnd cells B = h <;> simp [q]
theorem cnh_mono {h : Int} {B B' : Nat} (hb : B ≤ B') : cnh cells h B ≤ cnh cells h B' := by
  induction hb with
  | refl => exact Nat.le_refl _
  | step _ ih => rw [cnh_succ]; omega
theorem cnh_eq {h : Int} {B B' : Nat} (hb : B ≤ B') (n : ∀ x, B ≤ x → x < B' → hnd cells x ≠ h) : cnh cells h B' = cnh cells h B := by
  induction hb with
  | refl => rfl
  | step q ih =>
    rename_i m
    rw [cnh_succ, if_neg (n m q (by omega)), Nat.add_zero]
    exact ih fun x h1 h2 => n x h1 (by omega)
theorem cnh_max {h : Int} {B B' : Nat} : cnh cells h (max B B') = max (cnh cells h B) (cnh cells h B') := by
  by_cases q : B ≤ B'
  · rw [Nat.max_eq_right q, Nat.max_eq_right (cnh_mono q)]
  · have q : B' ≤ B := by omega
    rw [Nat.max_eq_left q, Nat.max_eq_left (cnh_mono q)]

/-- the past of one hand: all up to some event -/
theorem seg : ∀ n i, i < n → ∀ h, ∃ B, B ≤ i + 1 ∧ (h = hnd cells i → B = i + 1) ∧ ∀ x, hnd cells x = h → (x ∈ pst (need cells) i ↔ x < B) := by
  intro n
  induction n with
  | zero => intro i hi; omega
  | succ n ih =>
    intro i hi h
    by_cases e : h = hnd cells i
    · subst e
      refine ⟨i + 1, Nat.le_refl _, fun _ => rfl, fun x hx => ⟨fun q => by have := pst_le need_lt q; omega, fun q => ?_⟩⟩
      rw [pst_mem need_lt]
      by_cases xi : x = i
      · exact .inl xi
      · right
        have xl : x < i := by omega
        have hp : prv cells i ≠ [] := fun q => by
          have : x ∈ prv cells i := List.mem_filter.mpr ⟨by simpa using xl, by simpa using hx⟩
          rw [q] at this; cases this
        obtain ⟨r, h1, h2, h3, h4⟩ := row1_last hp
        refine ⟨r, row1_need h1, ?_⟩
        obtain ⟨B, b1, b2, b3⟩ := ih r (by omega) (hnd cells i)
        rw [b3 x hx, b2 h3.symm]
        have := h4 x xl hx
        omega
    · have key : ∀ l : List Nat, (∀ a ∈ l, a < i) → ∃ B, B ≤ i + 1 ∧ ∀ x, hnd cells x = h → ((∃ a ∈ l, x ∈ pst (need cells) a) ↔ x < B) := by
        intro l
        induction l with
        | nil => intro _; exact ⟨0, by omega, fun x _ => by simp⟩
        | cons a l ihl =>
          intro hl
          obtain ⟨B, b1, b2⟩ := ihl fun c hc => hl c (by simp [hc])
          have ha := hl a (by simp)
          obtain ⟨B', c1, _, c3⟩ := ih a (by omega) h
          refine ⟨max B B', by omega, fun x hx => ?_⟩
          have e1 := b2 x hx
          have e2 := c3 x hx
          constructor
          · rintro ⟨c, hc, q⟩
            rcases List.mem_cons.mp hc with w | w
            · subst w; have := e2.mp q; omega
            · have := e1.mp ⟨c, w, q⟩; omega
          · intro q
            by_cases w : x < B
            · obtain ⟨c, hc, q⟩ := e1.mpr w; exact ⟨c, by simp [hc], q⟩
            · exact ⟨a, by simp, e2.mpr (by omega)⟩
      obtain ⟨B, b1, b2⟩ := key (need cells i) (need_lt i)
      refine ⟨B, b1, fun q => absurd q e, fun x hx => ?_⟩
      rw [← b2 x hx, pst_mem need_lt]
      have : x ≠ i := fun q => e (by rw [← hx, q])
      simp [this]

theorem vcl_eq {i B : Nat} {h : Int} (hb : ∀ x, hnd cells x = h → (x ∈ pst (need cells) i ↔ x < B)) : vcl cells i h = cnh cells h B := by
  unfold vcl cnh
  refine Nat.le_antisymm ?_ ?_
  · refine List.Nodup.length_le_of_subset (List.Pairwise.sublist List.filter_sublist (pst_nodup need_lt i)) fun x hx => ?_
    obtain ⟨h1, h2⟩ := List.mem_filter.mp hx
    have h2 : hnd cells x = h := by simpa using h2
    exact List.mem_filter.mpr ⟨by simpa using (hb x h2).mp h1, by simpa using h2⟩
  · refine List.Nodup.length_le_of_subset (List.Pairwise.sublist List.filter_sublist List.nodup_range) fun x hx => ?_
    obtain ⟨h1, h2⟩ := List.mem_filter.mp hx
    have h2 : hnd cells x = h := by simpa using h2
    exact List.mem_filter.mpr ⟨(hb x h2).mpr (by simpa using h1), by simpa using h2⟩

noncomputable def mxs (cells : List Int) (h : Int) (l : List Nat) : Nat := l.foldl (fun m one => max m (vcl cells one h)) 0

theorem mxs_snoc {h : Int} {l : List Nat} {a : Nat} : mxs cells h (l ++ [a]) = max (mxs cells h l) (vcl cells a h) := by unfold mxs; rw [List.foldl_append]; rfl
theorem foldmax : ∀ (f : Nat → Nat) (l : List Nat) (m : Nat), m ≤ l.foldl (fun m a => max m (f a)) m ∧ (∀ a ∈ l, f a ≤ l.foldl (fun m a => max m (f a)) m) ∧ (l.foldl (fun m a => max m (f a)) m = m ∨ ∃ a ∈ l, l.foldl (fun m a => max m (f a)) m = f a) := by
  intro f l
  induction l with
  | nil => intro m; exact ⟨Nat.le_refl _, by simp, .inl rfl⟩
  | cons a l ih =>
    intro m
    obtain ⟨h1, h2, h3⟩ := ih (max m (f a))
    rw [List.foldl_cons]
    refine ⟨by omega, fun b hb => ?_, ?_⟩
    · rcases List.mem_cons.mp hb with e | e
      · subst e; omega
      · exact h2 b e
    · rcases h3 with h3 | ⟨b, hb, h3⟩
      · by_cases q : m ≤ f a
        · right; exact ⟨a, by simp, by rw [h3]; omega⟩
        · left; rw [h3]; omega
      · right; exact ⟨b, by simp [hb], h3⟩

/-- Mattern, Fidge -/
theorem clock_step (i : Nat) (h : Int) : mxs cells h (need cells i) + (if hnd cells i = h then 1 else 0) = vcl cells i h := by
  obtain ⟨B, b1, b2, b3⟩ := seg (cells := cells) (i + 1) i (by omega) h
  rw [vcl_eq b3]
  have fm := foldmax (fun a => vcl cells a h) (need cells i) 0
  obtain ⟨f1, f2, f3⟩ := fm
  change _ ≤ mxs cells h (need cells i) at f1
  change ∀ a ∈ need cells i, vcl cells a h ≤ mxs cells h (need cells i) at f2
  change mxs cells h (need cells i) = 0 ∨ ∃ a ∈ need cells i, mxs cells h (need cells i) = vcl cells a h at f3
  by_cases e : hnd cells i = h
  · subst e
    rw [b2 rfl, cnh_succ, if_pos rfl]
    congr 1
    refine Nat.le_antisymm ?_ ?_
    · rcases f3 with f3 | ⟨a, ha, f3⟩
      · rw [f3]; exact Nat.zero_le _
      · rw [f3]
        obtain ⟨B', c1, _, c3⟩ := seg (cells := cells) (a + 1) a (by omega) (hnd cells i)
        rw [vcl_eq c3]
        have := need_lt i a ha
        exact cnh_mono (by omega)
    · by_cases hp : prv cells i = []
      · have : cnh cells (hnd cells i) i = 0 := by
          unfold cnh
          have : prv cells i = (List.range i).filter fun j => decide (hnd cells j = hnd cells i) := rfl
          rw [← this, hp]; rfl
        rw [this]; exact Nat.zero_le _
      · obtain ⟨r, h1, h2, h3, h4⟩ := row1_last hp
        have hv := f2 r (row1_need h1)
        obtain ⟨B', c1, c2, c3⟩ := seg (cells := cells) (r + 1) r (by omega) (hnd cells i)
        rw [vcl_eq c3, c2 h3.symm] at hv
        rw [cnh_eq (B := r + 1) (B' := i) (by omega) fun x q1 q2 q3 => by have := h4 x q2 q3; omega]
        exact hv
  · rw [if_neg e, Nat.add_zero]
    refine Nat.le_antisymm ?_ ?_
    · rcases f3 with f3 | ⟨a, ha, f3⟩
      · rw [f3]; exact Nat.zero_le _
      · rw [f3]
        refine (List.Nodup.length_le_of_subset (List.Pairwise.sublist List.filter_sublist (pst_nodup need_lt a)) (l₂ := (List.range B).filter fun j => decide (hnd cells j = h)) fun x hx => ?_)
        obtain ⟨h1, h2⟩ := List.mem_filter.mp hx
        have h2 : hnd cells x = h := by simpa using h2
        exact List.mem_filter.mpr ⟨by simpa using (b3 x h2).mp ((pst_mem need_lt).mpr (.inr ⟨a, ha, h1⟩)), by simpa using h2⟩
    · -- the last of the hand below B is in one of the pasts
      by_cases z : cnh cells h B = 0
      · rw [z]; exact Nat.zero_le _
      · have ex : ∃ x, x < B ∧ hnd cells x = h ∧ cnh cells h B = cnh cells h (x + 1) := by
          have : ∀ B, cnh cells h B ≠ 0 → ∃ x, x < B ∧ hnd cells x = h ∧ cnh cells h B = cnh cells h (x + 1) := by
            intro B
            induction B with
            | zero => intro q; exact absurd rfl q
            | succ B ih =>
              intro q
              by_cases w : hnd cells B = h
              · exact ⟨B, by omega, w, rfl⟩
              · rw [cnh_succ, if_neg w, Nat.add_zero] at q ⊢
                obtain ⟨x, x1, x2, x3⟩ := ih q
                exact ⟨x, by omega, x2, x3⟩
          exact this B z
        obtain ⟨x, x1, x2, x3⟩ := ex
        have xm := (b3 x x2).mpr x1
        rcases (pst_mem need_lt).mp xm with q | ⟨a, ha, q⟩
        · exact absurd (q ▸ x2) e
        · obtain ⟨B', c1, c2, c3⟩ := seg (cells := cells) (a + 1) a (by omega) h
          have := f2 a ha
          rw [vcl_eq c3] at this
          have l := (c3 x x2).mp q
          rw [x3]
          exact Nat.le_trans (cnh_mono l) this
end


section
variable {C : Cx} {A : Around} {hp : AHeap} {k : Nat} {S : SS} {b : Str → Bool} {env : Env} {vs : Vars} {names : List (Str × NameKind)}
noncomputable abbrev N1 : List (Str × NameKind) := [(Str.ofString "script", .local), (Str.ofString "cells", .local), (Str.ofString "many", .local), (Str.ofString "hands", .cell), (Str.ofString "needs", .local), (Str.ofString "place", .local), (Str.ofString "hand", .cell), (Str.ofString "heard", .local), (Str.ofString "row", .cell), (Str.ofString "sorter", .local), (Str.ofString "odd", .local), (Str.ofString "turn", .local), (Str.ofString "one", .cell), (Str.ofString "clocks", .cell), (Str.ofString "clock", .cell), (Str.ofString "past", .local), (Str.ofString "len", .globalImplicit), (Str.ofString "range", .globalImplicit), (Str.ofString "TopologicalSorter", .globalImplicit), (Str.ofString "sum", .globalImplicit), (Str.ofString "_law_order", .globalImplicit), (Str.ofString "sorted", .globalImplicit), (Str.ofString "list", .globalImplicit)]
noncomputable def bodyOf (K : Frag) (f : Addr) : List Stmt := match K.lookup f with | some ⟨_, _, .func fd, _⟩ => (match fd.body with | .stmts b => b | _ => []) | _ => []
noncomputable abbrev B1 (C : Cx) : List Stmt := bodyOf (KK C.w.params) 153

/-- what the law has built: hands, needs -/
structure P1 (cells : List Int) (n : Nat) (hp : AHeap) (cA hA nA : Addr) (rs : List Addr) : Prop where
  co : hp cA = some (.list (cells.map .int))
  ho : hp hA = some (.list (((List.range n).map (hnd cells)).map .int))
  no : hp nA = some (.list (rs.map .ref))
  len : rs.length = n
  row : ∀ i r, rs[i]? = some r → hp r = some (.list ((ci (need cells i)).map .int))
  nch : cA ≠ hA
  ncn : cA ≠ nA
  nhn : hA ≠ nA
  nr : ∀ (i : Nat) r, rs[i]? = some r → r ≠ hA ∧ r ≠ nA

theorem P1.keep {cells : List Int} {n : Nat} {hp hp' : AHeap} {cA hA nA : Addr} {rs : List Addr} (h : P1 cells n hp cA hA nA rs) (k : ∀ a o, hp a = some o → hp' a = some o) : P1 cells n hp' cA hA nA rs :=
  ⟨k _ _ h.co, k _ _ h.ho, k _ _ h.no, h.len, fun i r e => k _ _ (h.row i r e), h.nch, h.ncn, h.nhn, h.nr⟩


/-- the law's names, by then -/
structure V1 (n : Nat) (cA hA nA : Addr) (vs : Vars) : Prop where
  cells : vs (Str.ofString "cells") = some (.ref cA)
  many : vs (Str.ofString "many") = some (.int (n : Nat))
  hands : vs (Str.ofString "hands") = some (.ref hA)
  needs : vs (Str.ofString "needs") = some (.ref nA)

set_option maxHeartbeats 4000000 in
theorem phA1 {cells : List Int} {cA : Addr} (hK : C.K = KK C.w.params) (rd : Room k A) (E : EnvIs N1 nob env) (hmany : cells.length ≤ 12) (hco : hp cA = some (.list (cells.map .int)))
    (w1 : vs (Str.ofString "cells") = some (.ref cA)) (w2 : vs (Str.ofString "many") = some (.int (cells.length : Nat))) {Q : AFlow → Vars → AHeap → Prop}
    (h : ∀ hA nA rs vs' hp', P1 cells cells.length hp' cA hA nA rs → V1 cells.length cA hA nA vs' → AW C A nob env FlowIs (execs ((B1 C).drop 5) env) Q vs' hp') :
    AW C A nob env FlowIs (execs ((B1 C).drop 2) env) Q vs hp := by
  -- hands = []; needs = []
  walk_at "c"; refine AW.execsCons fun _ _ => (AW.AssignName (AW.ListD (AW.splicedNil ⟨by decide, fun hA hhA => ?_⟩)))
  walk_at "i"; walk_at "s"
  walk_at "c"; refine AW.execsCons fun _ _ => (AW.AssignName (AW.ListD (AW.splicedNil ⟨by decide, fun nA hnA => ?_⟩)))
  walk_at "i"; walk_at "s"
  have nh : nA ≠ hA := fun e => by rw [e, AHeap.get_same] at hnA; cases hnA
  have p10 : P1 cells 0 ((hp.put hA (.list [])).put nA (.list [])) cA hA nA [] :=
    ⟨AHeap.get_new hnA (AHeap.get_new hhA hco), AHeap.get_ne (Ne.symm nh) AHeap.get_same, AHeap.get_same, rfl, (fun i r e => by simp at e), ne_none hco hhA, ne_none (AHeap.get_new hhA hco) hnA, Ne.symm nh, fun i r e => by simp at e⟩
  -- the first loop
  walk_at "c"; refine AW.execsCons fun _ _ => (AW.For rd.h ?_)
  walk_at "e"
  walk_at "b"
  refine AW.call1 E ?_
  walk_at "e"; walk_at "i"
  refine ⟨Keeps.type, AW.ofCW E.ok (CW.range1 fun rA oR hrA hoR => ?_)⟩
  have p10' := p10.keep (hp' := ((hp.put hA (.list [])).put nA (.list [])).put rA (.raw oR)) fun a o e => AHeap.get_new hrA e
  refine ⟨_, rangeI 0 cells.length, _, Walker.range (a := 0) (n := cells.length), fun v iv => by cases iv; exact Starts.range AHeap.get_same hoR (by omega) (by omega) (by omega) (by omega) (by split <;> omega),
    fun i vs hp1 => ∃ rs, P1 cells i hp1 cA hA nA rs ∧ V1 cells.length cA hA nA vs, ?_, ?_, ?_, ?_⟩
  · exact ⟨[], p10', by walk_at "v", by walk_at "v", by walk_at "v", by walk_at "v"⟩
  · intro i vs hp _; trivial
  · rintro i a' vs hp1 ha ⟨rs, p1, v1, v2, v3, v4⟩ v iv _ _
    have hi : i < cells.length := by have := (List.getElem?_eq_some_iff.mp ha).1; simpa [rangeI] using this
    have ea : a' = .int (i : Nat) := by simp [rangeI, hi] at ha; exact ha.symm
    subst ea
    obtain ⟨t, rfl⟩ := iv
    have hci : (cells.map AV.int)[((i : Nat) : Int).toNat]? = some (.int (cells.getD i 0)) := by
      rw [Int.toNat_natCast, List.getElem?_map, List.getElem?_eq_getElem hi]
      simp [List.getD_eq_getElem?_getD, List.getElem?_eq_getElem hi]
    refine AW.assignName ?_
    walk_at "s"
    -- hand = cells[place] % 3
    walk_at "x"; walk_at "e"; walk_at "e"; walk_at "e"; walk_at "e"; walk_at "ii"
    refine AW.ofCW E.ok (CW.subList p1.co (by omega) (by rw [List.length_map]; omega) hci ?_)
    walk_at "e"; walk_at "ii"
    refine AW.ofCW E.ok (CW.modI (by decide) ?_)
    walk_at "i"; walk_at "s"
    -- heard = cells[place] // 3 % (place + 1)
    walk_at "x"; walk_at "e"; walk_at "e"; walk_at "e"; walk_at "e"; walk_at "e"; walk_at "ii"
    refine AW.ofCW E.ok (CW.subList p1.co (by omega) (by rw [List.length_map]; omega) hci ?_)
    walk_at "e"; walk_at "ii"
    refine AW.ofCW E.ok (CW.divI (by decide) (by decide) ?_)
    walk_at "e"; walk_at "e"; walk_at "e"; walk_at "ii"
    refine AW.ofCW E.ok (CW.addI ?_)
    walk_at "ii"
    refine AW.ofCW E.ok (CW.modI (by omega) ?_)
    walk_at "i"; walk_at "s"
    have hh : cells.getD i 0 / 3 % ((i : Nat) + 1 : Int) = (hrd cells i : Nat) := by
      unfold hrd
      have := Int.emod_nonneg (cells.getD i 0 / 3) (b := (i : Int) + 1) (by omega)
      omega
    rw [hh]
    -- row = [..][-1:]
    walk_at "x"
    refine AW.sliceLast (AW.ListComp E rfl rd.h ?_)
    walk_at "e"
    walk_at "b"
    refine AW.call1 E ?_
    walk_at "e"; walk_at "i"
    refine ⟨Keeps.type, AW.ofCW E.ok (CW.range1 fun rB oB hrB hoB => ?_)⟩
    refine ⟨_, rangeI 0 i, _, Walker.range (a := 0) (n := i), fun v iv => by cases iv; exact Starts.range AHeap.get_same hoB (by omega) (by omega) (by omega) (by omega) (by split <;> omega),
      fun j ys hp2 => (∀ a o, (hp1.put rB (.raw oB)) a = some o → hp2 a = some o) ∧ j ≤ i ∧ ys = (ci ((List.range j).filter fun x => decide (hnd cells x = hnd cells i))).map .int, ?_, ?_, ?_, ?_⟩
    · exact ⟨fun a o e => e, by omega, rfl⟩
    · rintro j ys hp2 ⟨ext, hj, rfl⟩
      refine ⟨trivial, ?_⟩
      rw [List.length_map, ci_len]
      have := List.length_filter_le (fun x => decide (hnd cells x = hnd cells i)) (List.range j)
      rw [List.length_range] at this
      omega
    · rintro cenv E' j a' ys hp2 ha' ⟨ext, hj, rfl⟩ v iv _ _ _
      have hji : j < i := by have := (List.getElem?_eq_some_iff.mp ha').1; simpa [rangeI] using this
      have ea : a' = .int (j : Nat) := by simp [rangeI, hji] at ha'; exact ha'.symm
      subst ea
      obtain ⟨t, rfl⟩ := iv
      have p2 := p1.keep fun a o e => ext a o (AHeap.get_new hrB e)
      refine AW.assignName ?_
      walk_at "s"
      refine AW.testsOne (AW.isTrue_Compare1 ?_)
      walk_at "e"; walk_at "e"; walk_at "e"; walk_at "ii"
      refine AW.ofCW E'.ok (CW.subList (a := .int (hnd cells j)) p2.ho (by omega) (by simp; omega) (by rw [Int.toNat_natCast]; simp [hji]) ?_)
      walk_at "e"; walk_at "ii"
      refine AW.ofCW E'.ok (CW.eqI ⟨_, rfl, ?_⟩)
      have sc : (List.range (j + 1)).filter (fun x => decide (hnd cells x = hnd cells i)) = (List.range j).filter (fun x => decide (hnd cells x = hnd cells i)) ++ (if hnd cells j = hnd cells i then [j] else []) := by
        rw [List.range_succ, List.filter_append]
        congr 1
        by_cases q : hnd cells j = hnd cells i <;> simp [q]
      by_cases q : hnd cells j = hnd cells i
      · rw [if_pos (by exact decide_eq_true q)]
        walk_at "e"
        walk_at "y"
        refine ⟨ext, by omega, ?_⟩
        rw [sc, if_pos q, ci_app, List.map_append]; rfl
      · rw [if_neg (by exact fun w => q (of_decide_eq_true w))]
        walk_at "y"
        refine ⟨ext, by omega, ?_⟩
        rw [sc, if_neg q, List.append_nil]
    · rw [show (rangeI 0 i).length = i by simp [rangeI]]
      rintro ys hp2 ⟨ext, _, rfl⟩ yA hyA
      refine AW.UnaryOp (AW.cInt ?_)
      walk_at "i"
      refine AW.ofCW E.ok (CW.negI ?_)
      have hpl : ((List.range i).filter fun x => decide (hnd cells x = hnd cells i)).length ≤ i := by
        have := List.length_filter_le (fun x => decide (hnd cells x = hnd cells i)) (List.range i)
        rwa [List.length_range] at this
      refine ⟨yA, _, rfl, AHeap.get_same, by rw [List.length_map, ci_len]; omega, rfl, fun sA hsA => ?_⟩
      walk_at "i"; walk_at "s"
      have hs : ((ci ((List.range i).filter fun x => decide (hnd cells x = hnd cells i))).map AV.int).drop (((ci ((List.range i).filter fun x => decide (hnd cells x = hnd cells i))).map AV.int).length - 1) = (ci (row1 cells i)).map .int := by
        unfold row1 prv ci
        rw [List.map_map, List.length_map, ← List.map_drop, List.map_map]
      rw [hs]
      have p3 := (p1.keep fun a o e => ext a o (AHeap.get_new hrB e)).keep (hp' := (hp2.put yA (.list ((ci ((List.range i).filter fun x => decide (hnd cells x = hnd cells i))).map AV.int))).put sA (.list ((ci (row1 cells i)).map .int))) fun a o e => AHeap.get_new hsA (AHeap.get_new hyA e)
      have so : ((hp2.put yA (.list ((ci ((List.range i).filter fun x => decide (hnd cells x = hnd cells i))).map AV.int))).put sA (.list ((ci (row1 cells i)).map .int))) sA = some (.list ((ci (row1 cells i)).map .int)) := AHeap.get_same
      have nsh : sA ≠ hA := fun e => by rw [e] at hsA; have := AHeap.get_new (o := AObj.list ((ci ((List.range i).filter fun x => decide (hnd cells x = hnd cells i))).map AV.int)) hyA (ext _ _ (AHeap.get_new hrB p1.ho)); rw [hsA] at this; cases this
      have nsn : sA ≠ nA := fun e => by rw [e] at hsA; have := AHeap.get_new (o := AObj.list ((ci ((List.range i).filter fun x => decide (hnd cells x = hnd cells i))).map AV.int)) hyA (ext _ _ (AHeap.get_new hrB p1.no)); rw [hsA] at this; cases this
      generalize ((hp2.put yA _).put sA _) = hp3 at p3 so ⊢
      clear hsA hyA ext hp2 hs
      -- hands.append(hand)
      walk_at "x"; walk_at "e"; walk_at "e"; walk_at "i"
      refine ⟨_, Meth.list p3.ho F.slot_list_append F.type_list_append, AW.call1 E ?_⟩
      walk_at "e"; walk_at "i"
      refine ⟨Keeps.builtin, AW.ofCW E.ok (CW.append p3.ho (by simp; omega) isInt ?_)⟩
      -- needs.append(..)
      have ho3 := AHeap.get_ne (o := AObj.list (((List.range i).map (hnd cells)).map .int ++ [.int (cells.getD i 0 % 3)])) nsh so
      have n_hA : nA ≠ hA := nh
      have no3 := AHeap.get_ne (o := AObj.list (((List.range i).map (hnd cells)).map .int ++ [.int (cells.getD i 0 % 3)])) n_hA p3.no
      have rsl := p1.len
      walk_at "x"; walk_at "e"; walk_at "e"; walk_at "i"
      refine ⟨_, Meth.list no3 F.slot_list_append F.type_list_append, AW.call1 E ?_⟩
      refine AW.IfExp (AW.isTrue_Compare1 ?_)
      walk_at "e"; walk_at "e"; walk_at "ii"
      refine AW.ofCW E.ok (CW.ltI ⟨_, rfl, ?_⟩)
      have hcast : decide (((hrd cells i : Nat) : Int) < ((i : Nat) : Int)) = decide (hrd cells i < i) := by simp
      rw [hcast]
      -- what is appended
      have nd : need cells i = if hrd cells i < i then row1 cells i ++ [hrd cells i] else row1 cells i := rfl
      have fin : ∀ (rA : Addr) (hp4 : AHeap), (∀ a o, (hp3.put hA (.list (((List.range i).map (hnd cells)).map .int ++ [.int (cells.getD i 0 % 3)]))) a = some o → hp4 a = some o) → hp4 rA = some (.list ((ci (need cells i)).map .int)) → rA ≠ hA → rA ≠ nA →
          P1 cells (i + 1) (hp4.put nA (.list (rs.map .ref ++ [.ref rA]))) cA hA nA (rs ++ [rA]) := fun rA hp4 ext4 hr neh nen => by
        refine ⟨?_, ?_, ?_, by rw [List.length_append, rsl]; rfl, fun j x hj => ?_, p3.nch, p3.ncn, p3.nhn, fun j x hj => ?_⟩
        · exact AHeap.get_ne p3.ncn (ext4 _ _ (AHeap.get_ne p3.nch p3.co))
        · rw [AHeap.get_ne p3.nhn (ext4 _ _ AHeap.get_same), List.range_succ]
          simp [hnd]
        · rw [AHeap.get_same, List.map_append]; rfl
        · by_cases q : j < rs.length
          · rw [List.getElem?_append_left q] at hj
            obtain ⟨n1, n2⟩ := p3.nr j x hj
            exact AHeap.get_ne n2 (ext4 _ _ (AHeap.get_ne n1 (p3.row j x hj)))
          · rw [List.getElem?_append_right (by omega)] at hj
            have e := (List.getElem?_eq_some_iff.mp hj).1
            rw [List.length_singleton] at e
            have e0 : j = i := by omega
            subst e0
            rw [rsl, Nat.sub_self] at hj
            cases hj
            exact AHeap.get_ne nen hr
        · by_cases q : j < rs.length
          · rw [List.getElem?_append_left q] at hj
            exact p3.nr j x hj
          · rw [List.getElem?_append_right (by omega)] at hj
            have e := (List.getElem?_eq_some_iff.mp hj).1
            rw [List.length_singleton] at e
            have e0 : j - rs.length = 0 := by omega
            rw [e0] at hj
            cases hj
            exact ⟨neh, nen⟩
      by_cases q : hrd cells i < i
      · rw [if_pos (decide_eq_true q)]
        walk_at "e"; walk_at "e"
        refine AW.ListD (AW.argsCons ?_ (by rfl))
        walk_at "e"
        refine AW.argsNil ⟨small_size (show 1 < 100000 by decide), fun bA hbA => ?_⟩
        walk_at "ii"
        have so4 := AHeap.get_new (o := AObj.list [.int (hrd cells i : Nat)]) hbA ho3
        refine AW.ofCW E.ok (CW.addList so4 AHeap.get_same ?_ fun zA hzA => ?_)
        · rw [List.length_map, ci_len]
          have : (row1 cells i).length ≤ 1 := by unfold row1; rw [List.length_drop]; omega
          show _ + 1 < _
          omega
        walk_at "i"
        have no4 := AHeap.get_new (o := AObj.list ((ci (row1 cells i)).map .int ++ [.int (hrd cells i : Nat)])) hzA (AHeap.get_new (o := AObj.list [.int (hrd cells i : Nat)]) hbA no3)
        refine ⟨Keeps.builtin, AW.ofCW E.ok (CW.append no4 (by simp; omega) isRef ?_)⟩
        walk_at "x"
        refine ⟨_, fin zA _ (fun a o e => AHeap.get_new hzA (AHeap.get_new hbA e)) ?_ ?_ ?_, by walk_at "v", by walk_at "v", by walk_at "v", by walk_at "v"⟩
        · rw [AHeap.get_same, nd, if_pos q, ci_app, List.map_append]; rfl
        · exact (ne_none (AHeap.get_new (o := AObj.list [.int (hrd cells i : Nat)]) hbA (AHeap.get_same (hp := hp3) (a := hA))) hzA).symm
        · exact (ne_none (AHeap.get_new (o := AObj.list [.int (hrd cells i : Nat)]) hbA no3) hzA).symm
      · rw [if_neg (fun w => q (of_decide_eq_true w))]
        walk_at "e"; walk_at "i"
        refine ⟨Keeps.builtin, AW.ofCW E.ok (CW.append no3 (by simp; omega) isRef ?_)⟩
        walk_at "x"
        refine ⟨_, fin sA _ (fun a o e => e) ?_ nsh nsn, by walk_at "v", by walk_at "v", by walk_at "v", by walk_at "v"⟩
        rw [nd, if_neg q]; exact ho3
  · rintro vs hp1 ⟨rs, p1, vv⟩
    rw [show (rangeI 0 cells.length).length = cells.length by simp [rangeI]] at p1
    walk_at "x"
    exact h hA nA rs vs hp1 p1 vv
end


section
variable {C : Cx} {A : Around} {hp : AHeap} {k : Nat} {S : SS} {b : Str → Bool} {env : Env} {vs : Vars} {names : List (Str × NameKind)}
noncomputable def Side (S : SS) (l : List Addr) : Prop := ∀ a ∈ l, ¬ S.foot a

theorem P1.steps {cells : List Int} {n : Nat} {S' : SS} {hp' : AHeap} {cA hA nA : Addr} {rs : List Addr} (h : P1 cells n hp cA hA nA rs) (sd : Side S (cA :: hA :: nA :: rs)) (st : Steps 137 40 S hp S' hp') :
    P1 cells n hp' cA hA nA rs ∧ Side S' (cA :: hA :: nA :: rs) := by
  have hx : ∀ a ∈ cA :: hA :: nA :: rs, ∃ o, hp a = some o := by
    intro a ha
    rcases List.mem_cons.mp ha with e | ha
    · rw [e]; exact ⟨_, h.co⟩
    · rcases List.mem_cons.mp ha with e | ha
      · rw [e]; exact ⟨_, h.ho⟩
      · rcases List.mem_cons.mp ha with e | ha
        · rw [e]; exact ⟨_, h.no⟩
        · obtain ⟨i, hi⟩ := List.getElem?_of_mem ha; exact ⟨_, h.row i a hi⟩
  have kp : ∀ a ∈ cA :: hA :: nA :: rs, ∀ o, hp a = some o → hp' a = some o := fun a ha o e => (st.keep a o e (sd a ha)).1
  refine ⟨⟨kp _ (by simp) _ h.co, kp _ (by simp) _ h.ho, kp _ (by simp) _ h.no, h.len, fun i r e => kp r ?_ _ (h.row i r e), h.nch, h.ncn, h.nhn, h.nr⟩, fun a ha => ?_⟩
  · simp [List.mem_of_getElem? e]
  · obtain ⟨o, ho⟩ := hx a ha
    exact (st.keep a o ho (sd a ha)).2

noncomputable def U1 (n : Nat) : List Int := ci (List.range n)
theorem U1_len {n : Nat} : (U1 n).length = n := by unfold U1; rw [ci_len, List.length_range]
theorem U1_mem {n i : Nat} : (i : Int) ∈ U1 n ↔ i < n := by unfold U1; rw [ci_mem, List.mem_range]
noncomputable def plc (n : Nat) (odd : Bool) (i : Nat) : Nat := if odd then n - 1 - i else i

/-- the sorter, while it is built -/
structure BG (n : Nat) (S : SS) (es : List (Int × Int)) (m : Nat) : Prop where
  gi : GI (U1 n) S.gr es
  ready : S.ready = none
  passed : S.passed = 0
  finished : S.finished = 0
  up : ∀ e ∈ es, e.1 < e.2
  len : es.length ≤ m

theorem BG.kz {n m : Nat} {S : SS} {es : List (Int × Int)} (h : BG n S es m) : S.keys.length ≤ n := by
  have := h.gi.nodup.length_le_of_subset h.gi.sub
  rwa [U1_len] at this
theorem BG.sz {n m : Nat} {S : SS} {es : List (Int × Int)} (h : BG n S es m) : ∀ j ∈ S.keys, (S.sc j).length ≤ m := fun j hj => Nat.le_trans (h.gi.len j hj) h.len

set_option maxHeartbeats 4000000 in
theorem phB1 {cells : List Int} {cA hA nA : Addr} {rs : List Addr} (hK : C.K = KK C.w.params) (rd : Room (k + 6) A) (hfr : A.frames = some (env :: C.fs)) (E : EnvIs N1 nob env) (hmany : cells.length ≤ 12) (hpos : 3 ≤ cells.length)
    (p1 : P1 cells cells.length hp cA hA nA rs) (vv : V1 cells.length cA hA nA vs) {Q : AFlow → Vars → AHeap → Prop}
    (h : ∀ S es a vs' hp', SAt 137 40 S hp' → P1 cells cells.length hp' cA hA nA rs → Side S (cA :: hA :: nA :: rs) → GI (U1 cells.length) S.gr es → (∀ e ∈ es, e.1 < e.2) → es.length ≤ 36 →
      (∀ i : Nat, i < cells.length → (i : Int) ∈ S.keys ∧ ∀ one ∈ need cells i, ((one : Int), (i : Int)) ∈ es) → S.ready = some (a, S.free) → S.passed = 0 → S.finished = 0 →
      V1 cells.length cA hA nA vs' → vs' (Str.ofString "sorter") = some (.ref S.x) → AW C A nob env FlowIs (execs ((B1 C).drop 9) env) Q vs' hp') :
    AW C A nob env FlowIs (execs ((B1 C).drop 5) env) Q vs hp := by
  obtain ⟨v1, v2, v3, v4⟩ := vv
  -- sorter = TopologicalSorter()
  walk_at "x"
  refine AW.Call ?_
  refine AW.Name (AW.nGlobal (v := .ref 137) (a := .ref 137) E rfl (by walk_at "k") rfl ?_) rfl
  walk_at "i"
  refine AW.call0 E (Keeps.fn (by walk_at "k")) (AW.ofCW E.ok (CC.cw (sortMake (C := C.push env) hK (rd.less (by omega : 2 ≤ k + 6)) fun S0 hp0 hat hg hr hps hfn ext => ?_)))
  walk_at "i"; walk_at "s"
  have p10 := p1.keep fun a o e => (ext a o e).1
  have sd0 : Side S0 (cA :: hA :: nA :: rs) := by
    intro a ha
    rcases List.mem_cons.mp ha with e | ha
    · rw [e]; exact (ext _ _ p1.co).2
    · rcases List.mem_cons.mp ha with e | ha
      · rw [e]; exact (ext _ _ p1.ho).2
      · rcases List.mem_cons.mp ha with e | ha
        · rw [e]; exact (ext _ _ p1.no).2
        · obtain ⟨i, hi⟩ := List.getElem?_of_mem ha; exact (ext _ _ (p1.row i a hi)).2
  -- odd = sum(cells) % 2 == 1
  walk_at "x"
  refine AW.Compare1 ?_
  walk_at "e"; walk_at "e"; walk_at "b"
  refine AW.call1 E ?_
  walk_at "e"; walk_at "i"
  refine ⟨Keeps.builtin, AW.sumList rd p10.co ?_⟩
  walk_at "e"; walk_at "ii"
  refine AW.ofCW E.ok (CW.modI (by decide) ?_)
  walk_at "e"; walk_at "ii"
  refine AW.ofCW E.ok (CW.eqI ?_)
  intro _ q; cases q
  walk_at "s"
  generalize decide (cells.sum % 2 = 1) = odd
  -- the turns
  walk_at "c"; refine AW.execsCons fun _ _ => (AW.For rd.h ?_)
  walk_at "e"; walk_at "b"
  refine AW.call1 E ?_
  walk_at "e"; walk_at "i"
  refine ⟨Keeps.type, AW.ofCW E.ok (CW.range1 fun rA oR hrA hoR => ?_)⟩
  have st0 : Steps 137 40 S0 hp0 S0 (hp0.put rA (.raw oR)) := Steps.fresh hat hrA
  have bg0 : BG cells.length S0 [] 0 := ⟨by rw [hg]; exact GI.empty _, hr, hps, hfn, (fun e he => by cases he), Nat.le_refl _⟩
  refine ⟨_, rangeI 0 cells.length, _, Walker.range (a := 0) (n := cells.length), fun v iv => by cases iv; exact Starts.range AHeap.get_same hoR (by omega) (by omega) (by omega) (by omega) (by split <;> omega),
    fun i vs hp1 => ∃ S es, Steps 137 40 S0 hp0 S hp1 ∧ BG cells.length S es (2 * i) ∧ (∀ j : Nat, j < i → ((plc cells.length odd j : Nat) : Int) ∈ S.keys ∧ ∀ one ∈ need cells (plc cells.length odd j), ((one : Int), ((plc cells.length odd j : Nat) : Int)) ∈ es) ∧
      V1 cells.length cA hA nA vs ∧ vs (Str.ofString "sorter") = some (.ref S.x) ∧ vs (Str.ofString "odd") = some (.bool odd), ?_, ?_, ?_, ?_⟩
  · exact ⟨S0, [], st0, bg0, (fun j hj => by omega), ⟨by walk_at "v", by walk_at "v", by walk_at "v", by walk_at "v"⟩, by walk_at "v", by walk_at "v"⟩
  · intro i vs hp _; trivial
  · rintro i a' vs hp1 ha ⟨S, es, st, bg, ed, ⟨v1, v2, v3, v4⟩, v5, v6⟩ v iv _ _
    have hi : i < cells.length := by have := (List.getElem?_eq_some_iff.mp ha).1; simpa [rangeI] using this
    have ea : a' = .int (i : Nat) := by simp [rangeI, hi] at ha; exact ha.symm
    subst ea
    obtain ⟨t, rfl⟩ := iv
    refine AW.assignName ?_
    walk_at "s"
    obtain ⟨p, hp⟩ : ∃ p, p = plc cells.length odd i := ⟨_, rfl⟩
    have hpl : p < cells.length := by rw [hp]; unfold plc; split <;> omega
    -- place = ..
    walk_at "c"; refine AW.execsCons fun _ _ => (AW.mono (Q := fun f vs' hp' => f = .next ∧ hp' = hp1 ∧ V1 cells.length cA hA nA vs' ∧ vs' (Str.ofString "sorter") = some (.ref S.x) ∧ vs' (Str.ofString "odd") = some (.bool odd) ∧ vs' (Str.ofString "place") = some (.int (p : Nat))) ?_ ?_)
    · refine AW.AssignName (AW.IfExp (AW.isTrue_value ?_))
      walk_at "e"
      intro _ q; cases q
      refine AW.truthyB ?_
      cases odd with
      | true =>
        rw [if_pos rfl]
        walk_at "e"; walk_at "e"; walk_at "e"; walk_at "e"; walk_at "ii"
        refine AW.ofCW E.ok (CW.subI ?_)
        walk_at "e"; walk_at "ii"
        refine AW.ofCW E.ok (CW.subI ?_)
        rw [show (((cells.length : Nat) : Int) - 1 - ((i : Nat) : Int)) = (p : Nat) by rw [hp]; unfold plc; rw [if_pos rfl]; omega]
        walk_at "i"; walk_at "s"
        exact ⟨rfl, rfl, ⟨by walk_at "v", by walk_at "v", by walk_at "v", by walk_at "v"⟩, by walk_at "v", by walk_at "v", by walk_at "v"⟩
      | false =>
        rw [if_neg (by decide)]
        walk_at "e"
        rw [show i = p by rw [hp]; rfl]
        walk_at "i"; walk_at "s"
        exact ⟨rfl, rfl, ⟨by walk_at "v", by walk_at "v", by walk_at "v", by walk_at "v"⟩, by walk_at "v", by walk_at "v", by walk_at "v"⟩
    clear v1 v2 v3 v4 v5 v6
    rintro f vs1 _ ⟨rfl, rfl, ⟨v1, v2, v3, v4⟩, v5, v6, v7⟩
    walk_at "c"
    -- sorter.add(place)
    have kz := bg.kz
    have sz := bg.sz
    walk_at "x"; walk_at "e"; walk_at "e"; walk_at "i"
    refine ⟨_, selfCall hK st.at_ (f := 87) rfl rfl rfl, AW.call1 E ?_⟩
    walk_at "e"; walk_at "i"
    refine ⟨Keeps.fn (by walk_at "k"), AW.ofCW E.ok (CC.cw (addSpec (C := C.push env) hK (rd.less (by omega : 4 ≤ k + 6)) st.at_ bg.ready (ps := []) (us := []) .nil (by decide) (by omega) (fun j hj => by have := sz j hj; omega) fun S2 hp2 st2 g2 r2 q2 f2 => ?_))⟩
    obtain ⟨gi2, kp2, mono2⟩ := bg.gi.add0 (k := (p : Nat)) (U1_mem.mpr hpl)
    rw [← g2] at gi2 kp2 mono2
    have bg2 : BG cells.length S2 es (2 * i) := ⟨gi2, r2, q2.trans bg.passed, f2.trans bg.finished, bg.up, bg.len⟩
    have stA := st.trans st2
    rw [← st2.x] at v5
    -- for one in needs[place]
    obtain ⟨p12, sd2⟩ := p10.steps sd0 stA
    obtain ⟨rp, hrp⟩ : ∃ r, rs[p]? = some r := ⟨_, List.getElem?_eq_getElem (by rw [p1.len]; exact hpl)⟩
    walk_at "c"; refine AW.execsCons fun _ _ => (AW.For rd.h ?_)
    walk_at "e"; walk_at "e"; walk_at "e"; walk_at "ii"
    refine AW.ofCW E.ok (CW.subList (a := .ref rp) p12.no (by omega) (by rw [List.length_map, p1.len]; omega) (by rw [Int.toNat_natCast, List.getElem?_map, hrp]; rfl) ?_)
    refine ⟨_, (ci (need cells p)).map .int, _, Walker.list (l := rp), fun v iv => by cases iv; exact Starts.list (p12.row p rp hrp),
      fun j vs hp3 => ∃ S3 es3, Steps 137 40 S0 hp0 S3 hp3 ∧ BG cells.length S3 es3 (2 * i + j) ∧ (p : Int) ∈ S3.keys ∧ (∀ x ∈ S.keys, x ∈ S3.keys) ∧ (∀ e ∈ es, e ∈ es3) ∧ (∀ m one, m < j → (need cells p)[m]? = some one → ((one : Int), (p : Int)) ∈ es3) ∧
        V1 cells.length cA hA nA vs ∧ vs (Str.ofString "sorter") = some (.ref S3.x) ∧ vs (Str.ofString "odd") = some (.bool odd) ∧ vs (Str.ofString "place") = some (.int (p : Nat)), ?_, ?_, ?_, ?_⟩
    · exact ⟨S2, es, stA, bg2, kp2, mono2, fun e he => he, (fun m one hm => by omega), ⟨v1, v2, v3, v4⟩, v5, v6, v7⟩
    · rintro j vs hp3 ⟨S3, es3, st3, _⟩
      exact (p10.steps sd0 st3).1.row p rp hrp
    · clear v1 v2 v3 v4 v5 v6 v7 bg2 gi2 kp2 mono2
      rintro j a' vs hp3 ha3 ⟨S3, es3, st3, bg3, kp3, mono3, sub3, ed3, ⟨v1, v2, v3, v4⟩, v5, v6, v7⟩ v iv _ _
      obtain ⟨one, hone, rfl⟩ : ∃ one, (need cells p)[j]? = some one ∧ a' = .int (one : Nat) := by
        rw [List.getElem?_map, ci_get] at ha3
        cases e : (need cells p)[j]? with
        | none => rw [e] at ha3; cases ha3
        | some one => rw [e] at ha3; cases ha3; exact ⟨one, rfl, rfl⟩
      have hmem := List.mem_of_getElem? hone
      have hlt := need_lt p one hmem
      have hjl : j < 2 := Nat.lt_of_lt_of_le (List.getElem?_eq_some_iff.mp hone).1 (need_len p)
      obtain ⟨t, rfl⟩ := iv
      refine AW.assignName ?_
      walk_at "s"
      have kz3 := bg3.kz
      have sz3 := bg3.sz
      -- sorter.add(place, one)
      walk_at "x"; walk_at "e"; walk_at "e"; walk_at "i"
      refine ⟨_, selfCall hK st3.at_ (f := 87) rfl rfl rfl, AW.call2 E ?_⟩
      walk_at "e"; walk_at "e"; walk_at "ii"
      refine ⟨Keeps.fn (by walk_at "k"), AW.ofCW E.ok (CC.cw (addSpec (C := C.push env) hK (rd.less (by omega : 4 ≤ k + 6)) st3.at_ bg3.ready (ps := [(one : Nat)]) (.cons ⟨_, rfl⟩ .nil) (Nat.le_refl _) (by omega) (fun j hj => by have := sz3 j hj; omega) fun S4 hp4 st4 g4 r4 q4 f4 => ?_))⟩
      obtain ⟨gi4, kp4, mono4⟩ := bg3.gi.add1 (k := (p : Nat)) (p := (one : Nat)) (U1_mem.mpr hpl) (U1_mem.mpr (by omega))
      rw [← g4] at gi4 kp4 mono4
      rw [← st4.x] at v5
      walk_at "x"
      refine ⟨S4, es3 ++ [((one : Int), (p : Int))], st3.trans st4, ⟨gi4, r4, q4.trans bg3.passed, f4.trans bg3.finished, fun e he => ?_, ?_⟩, kp4, fun x hx => mono4 x (mono3 x hx), fun e he => List.mem_append_left _ (sub3 e he), fun m one' hm hone' => ?_,
        ⟨by walk_at "v", by walk_at "v", by walk_at "v", by walk_at "v"⟩, by walk_at "v", by walk_at "v", by walk_at "v"⟩
      · rcases List.mem_append.mp he with q | q
        · exact bg3.up e q
        · rw [List.mem_singleton.mp q]; show (one : Int) < (p : Int); omega
      · have := bg3.len; rw [List.length_append, List.length_singleton]; omega
      · by_cases q : m = j
        · subst q; rw [hone] at hone'; cases hone'; simp
        · exact List.mem_append_left _ (ed3 m one' (by omega) hone')
    · clear v1 v2 v3 v4 v5 v6 v7 bg2 gi2 kp2 mono2
      rintro vs hp3 ⟨S3, es3, st3, bg3, kp3, mono3, sub3, ed3, vv, v5, v6, v7⟩
      rw [List.length_map, ci_len] at bg3 ed3
      walk_at "x"; walk_at "x"
      have nl := need_len (cells := cells) p
      refine ⟨S3, es3, st3, ⟨bg3.gi, bg3.ready, bg3.passed, bg3.finished, bg3.up, by have := bg3.len; omega⟩, fun j hj => ?_, vv, v5, v6⟩
      by_cases q : j = i
      · subst q
        rw [← hp]
        refine ⟨kp3, fun one hone => ?_⟩
        obtain ⟨m, hm⟩ := List.getElem?_of_mem hone
        exact ed3 m one (List.getElem?_eq_some_iff.mp hm).1 hm
      · obtain ⟨e1, e2⟩ := ed j (by omega)
        exact ⟨mono3 _ e1, fun one ho => sub3 _ (e2 one ho)⟩
  · rintro vs hp1 ⟨S, es, st, bg, ed, ⟨v1, v2, v3, v4⟩, v5, v6⟩
    rw [show (rangeI 0 cells.length).length = cells.length by simp [rangeI]] at bg ed
    obtain ⟨p11, sd1⟩ := p10.steps sd0 st
    have gok : GOk S.gr := bg.gi.ok (by rw [U1_len]; omega) (by have := bg.len; omega) bg.up
    walk_at "x"
    -- sorter.prepare()
    walk_at "x"; walk_at "e"; walk_at "e"; walk_at "i"
    refine ⟨_, selfCall hK st.at_ (f := 92) rfl rfl rfl, AW.call0 E (Keeps.fn (by walk_at "k")) ?_⟩
    refine AW.ofCW E.ok (CC.cw (prepareSpec (C := C.push env) hK (rd.less (by omega : 2 ≤ k + 6)) hfr st.at_ bg.ready gok fun a hp2 st2 => ?_))
    obtain ⟨p12, sd2⟩ := p11.steps sd1 st2
    walk_at "c"
    refine h _ es a _ hp2 st2.at_ p12 sd2 bg.gi bg.up (by have := bg.len; omega) (fun i hi => ?_) rfl bg.passed bg.finished ⟨v1, v2, v3, v4⟩ v5
    obtain ⟨j, hj, e⟩ : ∃ j, j < cells.length ∧ plc cells.length odd j = i := by
      cases odd with
      | true => exact ⟨cells.length - 1 - i, by omega, by unfold plc; rw [if_pos rfl]; omega⟩
      | false => exact ⟨i, hi, rfl⟩
    have := ed j hj
    rw [e] at this
    exact this
end


section
variable {C : Cx} {A : Around} {hp : AHeap} {k : Nat} {S : SS} {b : Str → Bool} {env : Env} {vs : Vars} {names : List (Str × NameKind)}
/-- three ints -/
noncomputable def F3 (f : Int → Nat) : List AV := [.int (f 0 : Nat), .int (f 1 : Nat), .int (f 2 : Nat)]
theorem F3_get {f : Int → Nat} {h : Int} (h0 : 0 ≤ h) (h3 : h < 3) : (F3 f)[h.toNat]? = some (.int (f h : Nat)) := by
  have : h = 0 ∨ h = 1 ∨ h = 2 := by omega
  rcases this with rfl | rfl | rfl <;> rfl
theorem F3_set {f : Int → Nat} {h : Int} (h0 : 0 ≤ h) (h3 : h < 3) : (F3 f).set h.toNat (.int ((f h : Nat) + 1)) = F3 fun x => f x + if h = x then 1 else 0 := by
  have : h = 0 ∨ h = 1 ∨ h = 2 := by omega
  rcases this with rfl | rfl | rfl <;> rfl
theorem F3_range {f : Int → Nat} : (List.range 3).map (fun (h : Nat) => AV.int (f (h : Int) : Nat)) = F3 f := rfl

/-- the clocks of those that are done -/
structure CK (cells : List Int) (Dn : List Nat) (hp : AHeap) (kA : Addr) (kvs : List (Int × AV)) : Prop where
  dict : ∃ ep, hp kA = some (.dict kvs ep)
  keys : kvs.map (·.1) = ci Dn
  val : ∀ i ∈ Dn, ∃ r, getA kvs (i : Nat) = some (.ref r) ∧ hp r = some (.list (F3 (vcl cells i)))

theorem getA_put_same {kvs : List (Int × AV)} {k : Int} {a : AV} (h : k ∉ kvs.map (·.1)) : getA (kvs ++ [(k, a)]) k = some a := by
  unfold getA
  rw [List.find?_append]
  have : kvs.find? (fun p => decide (p.1 = k)) = none := by
    rw [List.find?_eq_none]
    intro p hp q
    exact h (List.mem_map.mpr ⟨p, hp, by simpa using q⟩)
  rw [this]; simp
theorem getA_put_ne {kvs : List (Int × AV)} {k j : Int} {a : AV} (h : j ≠ k) : getA (kvs ++ [(k, a)]) j = getA kvs j := by
  unfold getA
  rw [List.find?_append]
  have : [(k, a)].find? (fun p => decide (p.1 = j)) = none := by simp [Ne.symm h]
  rw [this, Option.or_none]
theorem putD_fresh {kvs : List (Int × AV)} {k : Int} {a : AV} (h : k ∉ kvs.map (·.1)) : putD kvs k a = kvs ++ [(k, a)] := by
  unfold putD
  rw [if_neg]
  rw [List.any_eq_true]
  rintro ⟨p, hp, q⟩
  exact h (List.mem_map.mpr ⟨p, hp, by simpa using q⟩)

theorem toNats {D : List Int} {n : Nat} (h : ∀ k ∈ D, k ∈ U1 n) : ∃ Dn : List Nat, D = ci Dn ∧ ∀ i ∈ Dn, i < n := by
  induction D with
  | nil => exact ⟨[], rfl, by simp⟩
  | cons k D ih =>
    obtain ⟨Dn, e, hl⟩ := ih fun j hj => h j (by simp [hj])
    have hk := h k (by simp)
    unfold U1 ci at hk
    obtain ⟨i, hi, ei⟩ := List.mem_map.mp hk
    refine ⟨i :: Dn, by rw [e, ← ei]; rfl, fun j hj => ?_⟩
    rcases List.mem_cons.mp hj with q | q
    · rw [q]; simpa using hi
    · exact hl j q
theorem ci_take {l : List Nat} {n : Nat} : (ci l).take n = ci (l.take n) := by unfold ci; rw [List.map_take]
theorem ci_nodup {l : List Nat} (h : (ci l).Nodup) : l.Nodup := by
  unfold ci at h
  rw [List.nodup_iff_pairwise_ne, List.pairwise_map] at h
  exact h.imp fun q e => q (by rw [e])

set_option maxHeartbeats 4000000 in
theorem phC1 {cells : List Int} {cA hA nA : Addr} {rs : List Addr} {es : List (Int × Int)} {a : Addr} (hK : C.K = KK C.w.params) (rd : Room (k + 6) A) (E : EnvIs N1 nob env) (hmany : cells.length ≤ 12) (hpos : 3 ≤ cells.length)
    (hat : SAt 137 40 S hp) (p1 : P1 cells cells.length hp cA hA nA rs) (sd : Side S (cA :: hA :: nA :: rs)) (gi : GI (U1 cells.length) S.gr es) (up : ∀ e ∈ es, e.1 < e.2) (el : es.length ≤ 36)
    (ed : ∀ i : Nat, i < cells.length → (i : Int) ∈ S.keys ∧ ∀ one ∈ need cells i, ((one : Int), (i : Int)) ∈ es) (hr : S.ready = some (a, S.free)) (hps : S.passed = 0) (hfn : S.finished = 0)
    (vv : V1 cells.length cA hA nA vs) (vS : vs (Str.ofString "sorter") = some (.ref S.x)) {Q : AFlow → Vars → AHeap → Prop}
    (h : ∀ S' kA kvs Dn vs' hp', SAt 137 40 S' hp' → P1 cells cells.length hp' cA hA nA rs → S'.ready = some (a, []) → S'.passed = S'.finished → Dn.Nodup → (∀ i, i ∈ Dn ↔ i < cells.length) → CK cells Dn hp' kA kvs →
      V1 cells.length cA hA nA vs' → vs' (Str.ofString "sorter") = some (.ref S'.x) → vs' (Str.ofString "clocks") = some (.ref kA) → AW C A nob env FlowIs (execs ((B1 C).drop 11) env) Q vs' hp') :
    AW C A nob env FlowIs (execs ((B1 C).drop 9) env) Q vs hp := by
  obtain ⟨v1, v2, v3, v4⟩ := vv
  -- clocks = {}
  walk_at "x"
  refine AW.DictEmpty fun kA hkA => ?_
  walk_at "i"; walk_at "s"
  have st0 := Steps.fresh (o := .dict [] 0) hat hkA
  obtain ⟨p10, sd0⟩ := p1.steps sd st0
  have gok : GOk S.gr := gi.ok (by rw [U1_len]; omega) (by omega) up
  -- for place in _law_order(sorter, cells)
  walk_at "c"; refine AW.execsCons fun _ _ => (AW.For rd.h ?_)
  refine AW.Call ?_
  refine AW.Name (AW.nGlobal (v := .ref 148) (a := .ref 148) E rfl (by walk_at "k") rfl ?_) rfl
  walk_at "i"
  refine AW.call2 E ?_
  walk_at "e"; walk_at "e"; walk_at "ii"
  refine ⟨Keeps.fn (by walk_at "k"), AW.ofCW E.ok (CC.cw (orderSpec (C := C.push env) hK (rd.less (by omega : 2 ≤ k + 6)) st0.at_ hr hps hfn gok gi.np p10.co (by intro e; rw [e] at hpos; simp at hpos) (by omega) (sd0 cA (by simp)) fun oA D S' hp' st hr' hpf hoA noA oo nd mem topo => ?_))⟩
  obtain ⟨p1', sd'⟩ := p10.steps sd0 st
  obtain ⟨ko', nk'⟩ := st.keep kA _ AHeap.get_same (hat.notFoot hkA)
  obtain ⟨Dn, rfl, Dl⟩ := toNats (n := cells.length) fun k hk => gi.sub k ((mem k).mp hk)
  have Dnd := ci_nodup nd
  have Dm : ∀ i, i ∈ Dn ↔ i < cells.length := fun i => ⟨Dl i, fun hi => by rw [← ci_mem, mem]; exact (ed i hi).1⟩
  have Dt : ∀ (m i : Nat), Dn[m]? = some i → ∀ one ∈ need cells i, one ∈ Dn.take m := fun m i hm one ho => by
    have hi := Dl i (List.mem_of_getElem? hm)
    have he := (ed i hi).2 one ho
    obtain ⟨h1, h2⟩ := (gi.mem _ _).mp he
    have := topo m (i : Int) (by rw [ci_get, hm]; rfl) one h1 h2
    rw [ci_take, ci_mem] at this
    exact this
  have noK : kA ≠ oA := fun e => by rw [e] at ko'; rw [oo] at ko'; cases ko'
  have hS' : S'.x = S.x := st.x
  rw [← hS'] at vS
  have hkAne : ∀ b ∈ cA :: hA :: nA :: rs, b ≠ kA := fun b hb => by
    rcases List.mem_cons.mp hb with e | hb
    · rw [e]; exact ne_none p1.co hkA
    · rcases List.mem_cons.mp hb with e | hb
      · rw [e]; exact ne_none p1.ho hkA
      · rcases List.mem_cons.mp hb with e | hb
        · rw [e]; exact ne_none p1.no hkA
        · obtain ⟨i, hi⟩ := List.getElem?_of_mem hb; exact ne_none (p1.row i b hi) hkA
  have P1of : ∀ hp2 : AHeap, (∀ b o, hp' b = some o → b ≠ kA → hp2 b = some o) → P1 cells cells.length hp2 cA hA nA rs := fun hp2 ext =>
    ⟨ext _ _ p1'.co (hkAne _ (by simp)), ext _ _ p1'.ho (hkAne _ (by simp)), ext _ _ p1'.no (hkAne _ (by simp)), p1'.len, fun i r e => ext _ _ (p1'.row i r e) (hkAne _ (by simp [List.mem_of_getElem? e])), p1'.nch, p1'.ncn, p1'.nhn, p1'.nr⟩
  have Dlen : Dn.length ≤ cells.length := by
    have := Dnd.length_le_of_subset (l₂ := List.range cells.length) fun i hi => by simpa using Dl i hi
    simpa using this
  refine ⟨_, (ci Dn).map .int, _, Walker.list (l := oA), fun v iv => by cases iv; exact Starts.list oo,
    fun m vs hp2 => ∃ kvs, (∀ b o, hp' b = some o → b ≠ kA → hp2 b = some o) ∧ CK cells (Dn.take m) hp2 kA kvs ∧ V1 cells.length cA hA nA vs ∧ vs (Str.ofString "sorter") = some (.ref S'.x) ∧ vs (Str.ofString "clocks") = some (.ref kA), ?_, ?_, ?_, ?_⟩
  · exact ⟨[], fun b o e _ => e, ⟨⟨0, ko'⟩, rfl, fun i hi => by simp at hi⟩, ⟨by walk_at "v", by walk_at "v", by walk_at "v", by walk_at "v"⟩, by walk_at "v", by walk_at "v"⟩
  · rintro m vs hp2 ⟨kvs, ext, _⟩
    exact ext _ _ oo (Ne.symm noK)
  · clear v1 v2 v3 v4 vS
    rintro m a' vs hp2 ha ⟨kvs, ext, ck, ⟨v1, v2, v3, v4⟩, v5, v6⟩ v iv _ _
    obtain ⟨n, hn, rfl⟩ : ∃ n, Dn[m]? = some n ∧ a' = .int (n : Nat) := by
      rw [List.getElem?_map, ci_get] at ha
      cases e : Dn[m]? with
      | none => rw [e] at ha; cases ha
      | some n => rw [e] at ha; cases ha; exact ⟨n, rfl, rfl⟩
    have hnl := Dl n (List.mem_of_getElem? hn)
    obtain ⟨t, rfl⟩ := iv
    have p2 := P1of hp2 ext
    obtain ⟨rp, hrp⟩ : ∃ r, rs[n]? = some r := ⟨_, List.getElem?_eq_getElem (by rw [p1.len]; exact hnl)⟩
    refine AW.assignName ?_
    walk_at "s"
    -- clock = [0, 0, 0]
    walk_at "x"
    refine AW.ListD (AW.argsCons (AW.cInt (AW.argsCons (AW.cInt (AW.argsCons (AW.cInt (AW.argsNil ⟨by decide, fun c0 hc0 => ?_⟩)) (by rfl))) (by rfl))) (by rfl))
    walk_at "i"; walk_at "s"
    -- for one in needs[place]
    walk_at "c"; refine AW.execsCons fun _ _ => (AW.For rd.h ?_)
    walk_at "e"; walk_at "e"; walk_at "e"; walk_at "ii"
    have p20 := p2.keep (hp' := hp2.put c0 (.list [.int 0, .int 0, .int 0])) fun b o e => AHeap.get_new hc0 e
    refine AW.ofCW E.ok (CW.subList (a := .ref rp) p20.no (by omega) (by rw [List.length_map, p1.len]; omega) (by rw [Int.toNat_natCast, List.getElem?_map, hrp]; rfl) ?_)
    refine ⟨_, (ci (need cells n)).map .int, _, Walker.list (l := rp), fun v iv => by cases iv; exact Starts.list (p20.row n rp hrp),
      fun j vs hp3 => ∃ c, (∀ b o, hp2 b = some o → hp3 b = some o) ∧ hp2 c = none ∧ hp3 c = some (.list (F3 fun h => mxs cells h ((need cells n).take j))) ∧
        V1 cells.length cA hA nA vs ∧ vs (Str.ofString "sorter") = some (.ref S'.x) ∧ vs (Str.ofString "clocks") = some (.ref kA) ∧ vs (Str.ofString "place") = some (.int (n : Nat)) ∧ vs (Str.ofString "clock") = some (.ref c), ?_, ?_, ?_, ?_⟩
    · exact ⟨c0, fun b o e => AHeap.get_new hc0 e, hc0, AHeap.get_same, ⟨by walk_at "v", by walk_at "v", by walk_at "v", by walk_at "v"⟩, by walk_at "v", by walk_at "v", by walk_at "v", by walk_at "v"⟩
    · rintro j vs hp3 ⟨c, e3, _⟩
      exact e3 _ _ (p2.row n rp hrp)
    · clear v1 v2 v3 v4 v5 v6
      rintro j a' vs hp3 ha3 ⟨c, e3, hc, oc, ⟨v1, v2, v3, v4⟩, v5, v6, v7, v8⟩ v iv _ _
      obtain ⟨one, hone, rfl⟩ : ∃ one, (need cells n)[j]? = some one ∧ a' = .int (one : Nat) := by
        rw [List.getElem?_map, ci_get] at ha3
        cases e : (need cells n)[j]? with
        | none => rw [e] at ha3; cases ha3
        | some one => rw [e] at ha3; cases ha3; exact ⟨one, rfl, rfl⟩
      obtain ⟨r1, g1, o1⟩ := ck.val one (Dt m n hn one (List.mem_of_getElem? hone))
      obtain ⟨ep, od⟩ := ck.dict
      obtain ⟨t, rfl⟩ := iv
      refine AW.assignName ?_
      walk_at "s"
      -- if one not in clocks
      walk_at "x"
      refine AW.isTrue_Compare1 ?_
      walk_at "e"; walk_at "e"; walk_at "ii"
      refine AW.ofCW E.ok (CW.notInDict (e3 _ _ od) ⟨_, rfl, ?_⟩)
      rw [g1]
      rw [if_neg (by simp)]
      walk_at "x"
      -- clock = [max(..) for hand in range(3)]
      walk_at "c"; refine AW.execsCons fun _ _ => (AW.AssignCompC E rfl rd.h rfl ?_)
      walk_at "e"; walk_at "b"
      refine AW.call1 E ?_
      walk_at "e"; walk_at "i"
      refine ⟨Keeps.type, AW.ofCW E.ok (CW.range1 fun rB oB hrB hoB => ?_)⟩
      refine ⟨_, rangeI 0 3, _, Walker.range (a := 0) (n := 3), fun v iv => by cases iv; exact Starts.range AHeap.get_same hoB (by omega) (by omega) (by omega) (by omega) (by decide),
        fun i ys hp4 => (∀ b o, (hp3.put rB (.raw oB)) b = some o → hp4 b = some o) ∧ i ≤ 3 ∧ ys = (List.range i).map (fun (h : Nat) => AV.int (mxs cells (h : Int) ((need cells n).take (j + 1)) : Nat)), ?_, ?_, ?_, ?_⟩
      · exact ⟨fun b o e => e, by omega, rfl⟩
      · rintro i ys hp4 ⟨_, hi, rfl⟩
        refine ⟨trivial, ?_⟩
        rw [List.length_map, List.length_range]; omega
      · rintro cenv E' i a' ys hp4 ha4 ⟨e4, hi, rfl⟩ v iv _ _ _
        have hi3 : i < 3 := by have := (List.getElem?_eq_some_iff.mp ha4).1; simpa [rangeI] using this
        have ea : a' = .int (i : Nat) := by simp [rangeI, hi3] at ha4; exact ha4.symm
        subst ea
        obtain ⟨t, rfl⟩ := iv
        have old4 : ∀ b o, hp3 b = some o → hp4 b = some o := fun b o e => e4 b o (AHeap.get_new hrB e)
        refine AW.assignName ?_
        walk_at "s"
        refine AW.testsNil ?_
        rw [if_pos rfl]
        walk_at "e"; walk_at "b"
        refine AW.call2 E' ?_
        walk_at "e"; walk_at "e"; walk_at "e"; walk_at "ii"
        refine AW.ofCW E'.ok (CW.subList (old4 _ _ oc) (by omega) (show 3 < 100000 by decide) (F3_get (by omega) (by omega)) ?_)
        walk_at "e"; walk_at "e"; walk_at "e"; walk_at "e"; walk_at "ii"
        refine AW.ofCW E'.ok (CW.subDict (old4 _ _ (e3 _ _ od)) g1 ?_)
        walk_at "e"; walk_at "ii"
        refine AW.ofCW E'.ok (CW.subList (old4 _ _ (e3 _ _ o1)) (by omega) (show 3 < 100000 by decide) (F3_get (by omega) (by omega)) ?_)
        walk_at "ii"
        refine ⟨Keeps.builtin, AW.maxI rd.h ?_⟩
        walk_at "y"
        refine ⟨e4, by omega, ?_⟩
        rw [List.range_succ, List.map_append]
        congr 1
        simp only [List.map_cons, List.map_nil]
        congr 2
        have : (need cells n).take (j + 1) = (need cells n).take j ++ [one] := by rw [List.take_add_one, hone]; rfl
        rw [this, mxs_snoc]
        omega
      · rintro ys hp4 ⟨e4, _, rfl⟩ r hr4
        rw [show (rangeI 0 3).length = 3 by simp [rangeI], F3_range (f := fun h => mxs cells h ((need cells n).take (j + 1)))]
        have old4 : ∀ b o, hp3 b = some o → hp4 b = some o := fun b o e => e4 b o (AHeap.get_new hrB e)
        walk_at "x"
        refine ⟨r, fun b o e => AHeap.get_new hr4 (old4 _ _ (e3 b o e)), ?_, AHeap.get_same, ⟨by walk_at "v", by walk_at "v", by walk_at "v", by walk_at "v"⟩, by walk_at "v", by walk_at "v", by walk_at "v", by walk_at "v"⟩
        cases e : hp2 r with
        | none => rfl
        | some o => rw [old4 _ _ (e3 _ _ e)] at hr4; cases hr4
    · clear v1 v2 v3 v4 v5 v6
      rintro vs hp3 ⟨c, e3, hc, oc, ⟨v1, v2, v3, v4⟩, v5, v6, v7, v8⟩
      rw [List.length_map, ci_len, List.take_length] at oc
      have h0 : 0 ≤ hnd cells n := Int.emod_nonneg _ (by decide)
      have h3 : hnd cells n < 3 := Int.emod_lt_of_pos _ (by decide)
      have p3 := p2.keep e3
      walk_at "x"
      -- clock[hands[place]] += 1
      walk_at "x"; walk_at "e"; walk_at "e"; walk_at "e"; walk_at "e"; walk_at "ii"
      refine AW.ofCW E.ok (CW.subList (a := .int (hnd cells n)) p3.ho (by omega) (by simp; omega) (by rw [Int.toNat_natCast]; simp [hnl]) ?_)
      walk_at "ii"
      refine AW.ofCW E.ok (CW.getItemList oc h0 (show 3 < 100000 by decide) (F3_get h0 h3) ?_)
      walk_at "e"; walk_at "ii"
      refine AW.ofCW E.ok (CW.iaddI ?_)
      walk_at "i"
      refine AW.ofCW E.ok (CW.setItemList oc h0 (show 3 < 100000 by decide) (by unfold F3; simp; omega) isInt ?_)
      rw [F3_set h0 h3]
      have ev : (fun x => mxs cells x (need cells n) + if hnd cells n = x then 1 else 0) = vcl cells n := funext fun x => clock_step n x
      rw [ev]
      -- clocks[place] = clock
      obtain ⟨ep, od⟩ := ck.dict
      have ckl : kvs.length ≤ cells.length := by
        have := congrArg List.length ck.keys
        rw [List.length_map, ci_len, List.length_take] at this
        omega
      have nk : c ≠ kA := fun e => by rw [e, od] at hc; cases hc
      walk_at "x"; walk_at "e"; walk_at "e"; walk_at "e"
      intro u v w iu iv iw
      obtain ⟨_, iv⟩ := iv; subst iv; subst iu; subst iw
      refine AW.ofCW E.ok (CW.setDict (a := .ref c) (AHeap.get_ne (Ne.symm nk) (e3 _ _ od)) (by omega) isRef fun ep' => ?_)
      have nin : ((n : Nat) : Int) ∉ kvs.map (·.1) := by
        rw [ck.keys, ci_mem]
        intro q
        obtain ⟨j, hj⟩ := List.getElem?_of_mem q
        have hjm : j < m := by have := (List.getElem?_eq_some_iff.mp hj).1; rw [List.length_take] at this; omega
        rw [List.getElem?_take, if_pos hjm] at hj
        have := (List.nodup_iff_pairwise_ne.mp Dnd)
        rw [List.pairwise_iff_getElem] at this
        have hml := (List.getElem?_eq_some_iff.mp hn).1
        have hjl := (List.getElem?_eq_some_iff.mp hj).1
        refine this j m hjl hml hjm ?_
        rw [List.getElem?_eq_getElem hjl] at hj
        rw [List.getElem?_eq_getElem hml] at hn
        rw [Option.some.inj hj, Option.some.inj hn]
      rw [putD_fresh nin]
      have tk : Dn.take (m + 1) = Dn.take m ++ [n] := by rw [List.take_add_one, hn]; rfl
      walk_at "x"
      refine ⟨_, fun b o e ne => AHeap.get_ne ne (AHeap.get_ne (ne_none (ext b o e ne) hc) (e3 _ _ (ext b o e ne))), ⟨⟨ep', AHeap.get_same⟩, ?_, fun i hi => ?_⟩, ⟨by walk_at "v", by walk_at "v", by walk_at "v", by walk_at "v"⟩, by walk_at "v", by walk_at "v"⟩
      · rw [tk, ci_app, List.map_append, ck.keys]; rfl
      · rw [tk] at hi
        rcases List.mem_append.mp hi with q | q
        · obtain ⟨r, gr, or⟩ := ck.val i q
          have ne : ((i : Nat) : Int) ≠ (n : Nat) := fun e => nin (by rw [← e, ck.keys, ci_mem]; exact q)
          refine ⟨r, by rw [getA_put_ne ne]; exact gr, ?_⟩
          refine AHeap.get_ne (fun e => ?_) (AHeap.get_ne (ne_none or hc) (e3 _ _ or))
          rw [e, od] at or; cases or
        · rw [List.mem_singleton.mp q]
          exact ⟨c, getA_put_same nin, AHeap.get_ne nk AHeap.get_same⟩
  · clear v1 v2 v3 v4 vS
    rintro vs hp2 ⟨kvs, ext, ck, vv, v5, v6⟩
    rw [List.length_map, ci_len, List.take_length] at ck
    walk_at "x"
    exact h S' kA kvs Dn vs hp2 (st.at_.of_ext fun b o f e => ext b o e fun q => nk' (q ▸ f)) (P1of hp2 ext) hr' hpf Dnd Dm ck vv v5 v6
end


section
variable {C : Cx} {A : Around} {hp : AHeap} {k : Nat} {S : SS} {b : Str → Bool} {env : Env} {vs : Vars} {names : List (Str × NameKind)}
theorem rangeI_ci {n : Nat} : rangeI 0 n = (ci (List.range n)).map .int := by
  unfold rangeI ci
  rw [List.map_map]
  refine List.map_congr_left fun i _ => ?_
  show AV.int (0 + (i : Int)) = AV.int (i : Int)
  rw [Int.zero_add]
theorem sorted_range {ms : List Int} {Dn : List Nat} {n : Nat} (nd : Dn.Nodup) (mem : ∀ i, i ∈ Dn ↔ i < n) (hp : ms.Perm (ci Dn)) (pw : ms.Pairwise (· ≤ ·)) : ms = ci (List.range n) := by
  refine List.Perm.eq_of_pairwise (le := (· ≤ ·)) (fun a b _ _ h1 h2 => by omega) pw ?_ (hp.trans ?_)
  · unfold ci
    rw [List.pairwise_map]
    exact List.pairwise_lt_range.imp fun q => by show (_ : Int) ≤ _; simp only [Int.ofNat_eq_natCast]; omega
  · unfold ci
    refine List.Perm.map _ ?_
    rw [List.perm_ext_iff_of_nodup nd List.nodup_range]
    intro i; rw [mem, List.mem_range]

set_option maxHeartbeats 4000000 in
theorem phD1 {cells : List Int} {kA a : Addr} {kvs : List (Int × AV)} {Dn : List Nat} (hK : C.K = KK C.w.params) (rd : Room (k + 6) A) (E : EnvIs N1 nob env) (hmany : cells.length ≤ 12)
    (hat : SAt 137 40 S hp) (hr : S.ready = some (a, [])) (hpf : S.passed = S.finished) (nd : Dn.Nodup) (mem : ∀ i, i ∈ Dn ↔ i < cells.length) (ck : CK cells Dn hp kA kvs)
    (v2 : vs (Str.ofString "many") = some (.int (cells.length : Nat))) (vS : vs (Str.ofString "sorter") = some (.ref S.x)) (vC : vs (Str.ofString "clocks") = some (.ref kA)) {Q : AFlow → Vars → AHeap → Prop}
    (h : ∀ hp', (∀ b o, hp b = some o → hp' b = some o) → AW C A nob env FlowIs (execs ((B1 C).drop 12) env) Q vs hp') :
    AW C A nob env FlowIs (execs ((B1 C).drop 11) env) Q vs hp := by
  obtain ⟨ep, od⟩ := ck.dict
  have kl : kvs.length ≤ 12 := by
    have h1 := congrArg List.length ck.keys
    rw [List.length_map, ci_len] at h1
    have h2 := nd.length_le_of_subset (l₂ := List.range cells.length) fun i hi => by simpa using (mem i).mp hi
    rw [List.length_range] at h2
    omega
  walk_at "x"
  refine AW.isTrue_BoolOp (AW.allOr_cons (AW.isTrue_value ?_))
  walk_at "e"; walk_at "e"; walk_at "i"
  refine ⟨_, selfCall hK hat (f := 106) rfl rfl rfl, AW.call0 E (Keeps.fn (by walk_at "k")) ?_⟩
  refine AW.ofCW E.ok (CC.cw (activeSpec (C := C.push env) hK (rd.less (by omega : 1 ≤ k + 6)) hat hr (by decide) ?_))
  intro _ q; cases q
  refine AW.truthyB ?_
  rw [hpf, show (decide (S.finished < S.finished) || !([] : List Int).isEmpty) = false by simp]
  rw [if_neg (by decide)]
  refine AW.allOr_cons (AW.isTrue_Compare1 ?_)
  walk_at "e"; walk_at "b"
  refine AW.call1 E ?_
  walk_at "e"; walk_at "i"
  refine ⟨Keeps.builtin, AW.sortedDict rd od (by omega) fun r ms hr2 pm pw => ?_⟩
  rw [sorted_range nd mem (by rw [← ck.keys]; exact pm) pw]
  clear pm pw
  walk_at "e"; walk_at "b"
  refine AW.call1 E ?_
  walk_at "e"; walk_at "b"
  refine AW.call1 E ?_
  walk_at "e"; walk_at "i"
  refine ⟨Keeps.type, AW.ofCW E.ok (CW.range1 fun rA oR hrA hoR => ?_)⟩
  walk_at "i"
  refine ⟨Keeps.type, AW.listOfRange rd AHeap.get_same hoR (by omega) (by omega) (by omega) (by omega) (n := cells.length) (by split <;> omega) (by omega) fun x hx => ?_⟩
  rw [rangeI_ci]
  walk_at "ii"
  refine AW.ofCW E.ok (CW.neInts rd (AHeap.get_new hx (AHeap.get_new hrA AHeap.get_same)) AHeap.get_same ⟨_, rfl, ?_⟩)
  rw [decide_eq_true rfl]
  rw [if_neg (by decide)]
  refine AW.allOr_nil ?_
  rw [if_neg (by decide)]
  walk_at "x"
  exact h _ fun b o e => AHeap.get_new hx (AHeap.get_new hrA (AHeap.get_new hr2 e))

structure PR (cells : List Int) (n : Nat) (hpE hp : AHeap) (pA : Addr) (prs : List Addr) : Prop where
  ext : ∀ b o, hpE b = some o → hp b = some o
  fresh : hpE pA = none
  po : hp pA = some (.list (prs.map .ref))
  len : prs.length = n
  row : ∀ (j : Nat) r, prs[j]? = some r → hp r = some (.list ((ci (pst (need cells) j)).map .int)) ∧ r ≠ pA

set_option maxHeartbeats 4000000 in
theorem phE1 {cells : List Int} {cA hA nA kA : Addr} {rs : List Addr} {kvs : List (Int × AV)} {Dn : List Nat} (hK : C.K = KK C.w.params) (rd : Room (k + 6) A) (E : EnvIs N1 nob env) (hmany : cells.length ≤ 12)
    (p1 : P1 cells cells.length hp cA hA nA rs) (mem : ∀ i, i ∈ Dn ↔ i < cells.length) (ck : CK cells Dn hp kA kvs)
    (vv : V1 cells.length cA hA nA vs) (vC : vs (Str.ofString "clocks") = some (.ref kA)) {Q : AFlow → Vars → AHeap → Prop}
    (h : ∀ vs' hp', Q (.ret (.bool true)) vs' hp') :
    AW C A nob env FlowIs (execs ((B1 C).drop 12) env) Q vs hp := by
  obtain ⟨v1, v2, v3, v4⟩ := vv
  obtain ⟨ep, od⟩ := ck.dict
  -- past = []
  walk_at "x"
  refine AW.ListD (AW.argsNil ⟨by decide, fun pA hpA => ?_⟩)
  walk_at "i"; walk_at "s"
  walk_at "c"; refine AW.execsCons fun _ _ => (AW.For rd.h ?_)
  walk_at "e"; walk_at "b"
  refine AW.call1 E ?_
  walk_at "e"; walk_at "i"
  refine ⟨Keeps.type, AW.ofCW E.ok (CW.range1 fun rA oR hrA hoR => ?_)⟩
  refine ⟨_, rangeI 0 cells.length, _, Walker.range (a := 0) (n := cells.length), fun v iv => by cases iv; exact Starts.range AHeap.get_same hoR (by omega) (by omega) (by omega) (by omega) (by split <;> omega),
    fun i vs hp1 => ∃ prs, PR cells i hp hp1 pA prs ∧ V1 cells.length cA hA nA vs ∧ vs (Str.ofString "clocks") = some (.ref kA) ∧ vs (Str.ofString "past") = some (.ref pA), ?_, ?_, ?_, ?_⟩
  · exact ⟨[], ⟨fun b o e => AHeap.get_new hrA (AHeap.get_new hpA e), hpA, AHeap.get_new hrA AHeap.get_same, rfl, fun j r e => by simp at e⟩, ⟨by walk_at "v", by walk_at "v", by walk_at "v", by walk_at "v"⟩, by walk_at "v", by walk_at "v"⟩
  · intro i vs hp _; trivial
  · clear v1 v2 v3 v4 vC
    rintro i a' vs hp2 ha ⟨prs, pr, ⟨v1, v2, v3, v4⟩, v5, v6⟩ v iv _ _
    have hi : i < cells.length := by have := (List.getElem?_eq_some_iff.mp ha).1; simpa [rangeI] using this
    have ea : a' = .int (i : Nat) := by simp [rangeI, hi] at ha; exact ha.symm
    subst ea
    obtain ⟨t, rfl⟩ := iv
    have p2 := p1.keep pr.ext
    obtain ⟨rp, hrp⟩ : ∃ r, rs[i]? = some r := ⟨_, List.getElem?_eq_getElem (by rw [p1.len]; exact hi)⟩
    refine AW.assignName ?_
    walk_at "s"
    -- row = [place]
    walk_at "x"
    refine AW.ListD (AW.argsCons ?_ (by rfl))
    walk_at "e"
    refine AW.argsNil ⟨small_size (show 1 < 100000 by decide), fun c0 hc0 => ?_⟩
    walk_at "i"; walk_at "s"
    -- for one in needs[place]
    walk_at "c"; refine AW.execsCons fun _ _ => (AW.For rd.h ?_)
    walk_at "e"; walk_at "e"; walk_at "e"; walk_at "ii"
    have p20 := p2.keep (hp' := hp2.put c0 (.list [.int (i : Nat)])) fun b o e => AHeap.get_new hc0 e
    refine AW.ofCW E.ok (CW.subList (a := .ref rp) p20.no (by omega) (by rw [List.length_map, p1.len]; omega) (by rw [Int.toNat_natCast, List.getElem?_map, hrp]; rfl) ?_)
    refine ⟨_, (ci (need cells i)).map .int, _, Walker.list (l := rp), fun v iv => by cases iv; exact Starts.list (p20.row i rp hrp),
      fun j vs hp3 => ∃ c, (∀ b o, hp2 b = some o → hp3 b = some o) ∧ hp2 c = none ∧ hp3 c = some (.list ((ci (grow (pst (need cells)) [i] ((need cells i).take j))).map .int)) ∧
        V1 cells.length cA hA nA vs ∧ vs (Str.ofString "clocks") = some (.ref kA) ∧ vs (Str.ofString "past") = some (.ref pA) ∧ vs (Str.ofString "place") = some (.int (i : Nat)) ∧ vs (Str.ofString "row") = some (.ref c), ?_, ?_, ?_, ?_⟩
    · exact ⟨c0, fun b o e => AHeap.get_new hc0 e, hc0, AHeap.get_same, ⟨by walk_at "v", by walk_at "v", by walk_at "v", by walk_at "v"⟩, by walk_at "v", by walk_at "v", by walk_at "v", by walk_at "v"⟩
    · rintro j vs hp3 ⟨c, e3, _⟩
      exact e3 _ _ (p2.row i rp hrp)
    · clear v1 v2 v3 v4 v5 v6
      rintro j a' vs hp3 ha3 ⟨c, e3, hc, oc, ⟨v1, v2, v3, v4⟩, v5, v6, v7, v8⟩ v iv _ _
      obtain ⟨one, hone, rfl⟩ : ∃ one, (need cells i)[j]? = some one ∧ a' = .int (one : Nat) := by
        rw [List.getElem?_map, ci_get] at ha3
        cases e : (need cells i)[j]? with
        | none => rw [e] at ha3; cases ha3
        | some one => rw [e] at ha3; cases ha3; exact ⟨one, rfl, rfl⟩
      have hlt := need_lt i one (List.mem_of_getElem? hone)
      obtain ⟨ro, hro⟩ : ∃ r, prs[one]? = some r := ⟨_, List.getElem?_eq_getElem (by rw [pr.len]; exact hlt)⟩
      obtain ⟨oro, _⟩ := pr.row one ro hro
      obtain ⟨G, hG⟩ : ∃ G, G = grow (pst (need cells)) [i] ((need cells i).take j) := ⟨_, rfl⟩
      rw [← hG] at oc
      have Gl : G.length ≤ i + 1 := by
        have nd : G.Nodup := by rw [hG]; exact grow_nodup _ _ (by simp) fun a _ => pst_nodup need_lt a
        have := nd.length_le_of_subset (l₂ := List.range (i + 1)) fun x hx => by
          rw [hG] at hx
          rcases (grow_mem _ _).mp hx with q | ⟨a, ha, q⟩
          · rw [List.mem_singleton.mp q]; simp
          · have := pst_le need_lt q
            have := need_lt i a (List.mem_of_mem_take ha)
            rw [List.mem_range]; omega
        rwa [List.length_range] at this
      have Pl : (pst (need cells) one).length ≤ one + 1 := by
        have := (pst_nodup (nd := need cells) need_lt one).length_le_of_subset (l₂ := List.range (one + 1)) fun x hx => by
          have := pst_le need_lt hx
          rw [List.mem_range]; omega
        rwa [List.length_range] at this
      obtain ⟨t, rfl⟩ := iv
      refine AW.assignName ?_
      walk_at "s"
      -- row = row + [..]
      walk_at "x"; walk_at "e"; walk_at "e"
      refine AW.ListComp E rfl rd.h ?_
      walk_at "e"; walk_at "e"; walk_at "e"; walk_at "ii"
      refine AW.ofCW E.ok (CW.subList (a := .ref ro) (e3 _ _ pr.po) (by omega) (by rw [List.length_map, pr.len]; omega) (by rw [Int.toNat_natCast, List.getElem?_map, hro]; rfl) ?_)
      refine ⟨_, (ci (pst (need cells) one)).map .int, _, Walker.list (l := ro), fun v iv => by cases iv; exact Starts.list (e3 _ _ oro),
        fun m ys hp4 => (∀ b o, hp3 b = some o → hp4 b = some o) ∧ ys = (ci (((pst (need cells) one).take m).filter fun x => decide (x ∉ G))).map .int, ?_, ?_, ?_, ?_⟩
      · exact ⟨fun b o e => e, rfl⟩
      · rintro m ys hp4 ⟨e4, rfl⟩
        refine ⟨e4 _ _ (e3 _ _ oro), ?_⟩
        rw [List.length_map, ci_len]
        have := List.length_filter_le (fun x => decide (x ∉ G)) ((pst (need cells) one).take m)
        rw [List.length_take] at this
        omega
      · rintro cenv E' m a' ys hp4 ha4 ⟨e4, rfl⟩ v iv _ _ _
        obtain ⟨ot, hot, rfl⟩ : ∃ ot, (pst (need cells) one)[m]? = some ot ∧ a' = .int (ot : Nat) := by
          rw [List.getElem?_map, ci_get] at ha4
          cases e : (pst (need cells) one)[m]? with
          | none => rw [e] at ha4; cases ha4
          | some ot => rw [e] at ha4; cases ha4; exact ⟨ot, rfl, rfl⟩
        obtain ⟨t, rfl⟩ := iv
        refine AW.assignName ?_
        walk_at "s"
        refine AW.testsOne (AW.isTrue_Compare1 ?_)
        walk_at "e"; walk_at "e"; walk_at "ii"
        refine AW.ofCW E'.ok (CW.notInList (e4 _ _ oc) ⟨_, rfl, ?_⟩)
        have tk : (pst (need cells) one).take (m + 1) = (pst (need cells) one).take m ++ [ot] := by rw [List.take_add_one, hot]; rfl
        have hc2 : decide (((ot : Nat) : Int) ∈ ci G) = decide (ot ∈ G) := by simp only [ci_mem]
        rw [hc2]
        by_cases q : ot ∈ G
        · rw [decide_eq_true q, if_neg (by decide)]
          walk_at "y"
          refine ⟨e4, ?_⟩
          rw [tk, List.filter_append]; simp [q]
        · rw [decide_eq_false q, if_pos (by decide)]
          walk_at "e"
          walk_at "y"
          refine ⟨e4, ?_⟩
          rw [tk, List.filter_append, ci_app, List.map_append]
          simp [q, ci]
      · rintro ys hp4 ⟨e4, rfl⟩ yA hyA
        rw [List.length_map, ci_len, List.take_length]
        walk_at "ii"
        refine AW.ofCW E.ok (CW.addList (AHeap.get_new hyA (e4 _ _ oc)) AHeap.get_same ?_ fun zA hzA => ?_)
        · rw [List.length_map, List.length_map, ci_len, ci_len]
          have := List.length_filter_le (fun x => decide (x ∉ G)) (pst (need cells) one)
          omega
        walk_at "i"; walk_at "s"
        walk_at "x"
        have old : ∀ b o, hp2 b = some o → (hp4.put yA (.list ((ci ((pst (need cells) one).filter fun x => decide (x ∉ G))).map .int))) b = some o := fun b o e => AHeap.get_new hyA (e4 _ _ (e3 b o e))
        refine ⟨zA, fun b o e => AHeap.get_new hzA (old b o e), ?_, ?_, ⟨by walk_at "v", by walk_at "v", by walk_at "v", by walk_at "v"⟩, by walk_at "v", by walk_at "v", by walk_at "v", by walk_at "v"⟩
        · cases e : hp2 zA with
          | none => rfl
          | some o => rw [old _ _ e] at hzA; cases hzA
        · rw [AHeap.get_same]
          have tk : (need cells i).take (j + 1) = (need cells i).take j ++ [one] := by rw [List.take_add_one, hone]; rfl
          rw [tk, grow_snoc, ← hG, ci_app, List.map_append]
    · clear v1 v2 v3 v4 v5 v6
      rintro vs hp3 ⟨c, e3, hc, oc, ⟨v1, v2, v3, v4⟩, v5, v6, v7, v8⟩
      rw [List.length_map, ci_len, List.take_length, ← pst_eq (need_lt i)] at oc
      have Pl : (pst (need cells) i).length ≤ i + 1 := by
        have := (pst_nodup (nd := need cells) need_lt i).length_le_of_subset (l₂ := List.range (i + 1)) fun x hx => by
          have := pst_le need_lt hx
          rw [List.mem_range]; omega
        rwa [List.length_range] at this
      have cp : c ≠ pA := fun e => by rw [e, pr.po] at hc; cases hc
      walk_at "x"
      -- past.append(row)
      walk_at "x"; walk_at "e"; walk_at "e"; walk_at "i"
      refine ⟨_, Meth.list (e3 _ _ pr.po) F.slot_list_append F.type_list_append, AW.call1 E ?_⟩
      walk_at "e"; walk_at "i"
      refine ⟨Keeps.builtin, AW.ofCW E.ok (CW.append (e3 _ _ pr.po) (by rw [List.length_map, pr.len]; omega) isRef ?_)⟩
      have ext4 : ∀ b o, hp b = some o → (hp3.put pA (.list (prs.map .ref ++ [.ref c]))) b = some o := fun b o e => AHeap.get_ne (ne_none e pr.fresh) (e3 _ _ (pr.ext b o e))
      have oc4 := AHeap.get_ne (o := AObj.list (prs.map .ref ++ [.ref c])) cp oc
      have pr4 : PR cells (i + 1) hp (hp3.put pA (.list (prs.map .ref ++ [.ref c]))) pA (prs ++ [c]) := by
        refine ⟨ext4, pr.fresh, by rw [AHeap.get_same, List.map_append]; rfl, by rw [List.length_append, pr.len]; rfl, fun j r hj => ?_⟩
        by_cases q : j < prs.length
        · rw [List.getElem?_append_left q] at hj
          obtain ⟨h1, h2⟩ := pr.row j r hj
          exact ⟨AHeap.get_ne h2 (e3 _ _ h1), h2⟩
        · rw [List.getElem?_append_right (by omega)] at hj
          have e := (List.getElem?_eq_some_iff.mp hj).1
          rw [List.length_singleton] at e
          have e0 : j = i := by rw [pr.len] at q e; omega
          subst e0
          rw [pr.len, Nat.sub_self] at hj
          cases hj
          exact ⟨oc4, cp⟩
      generalize hp3.put pA (.list (prs.map .ref ++ [.ref c])) = hp4 at ext4 oc4 pr4 ⊢
      have p4 := p1.keep ext4
      obtain ⟨rc, grc, orc⟩ := ck.val i ((mem i).mpr hi)
      -- if clocks[place] != [..]
      walk_at "x"
      refine AW.isTrue_Compare1 ?_
      walk_at "e"; walk_at "e"; walk_at "e"; walk_at "ii"
      refine AW.ofCW E.ok (CW.subDict (ext4 _ _ od) grc ?_)
      refine AW.ListComp E rfl rd.h ?_
      walk_at "e"; walk_at "b"
      refine AW.call1 E ?_
      walk_at "e"; walk_at "i"
      refine ⟨Keeps.type, AW.ofCW E.ok (CW.range1 fun rB oB hrB hoB => ?_)⟩
      refine ⟨_, rangeI 0 3, _, Walker.range (a := 0) (n := 3), fun v iv => by cases iv; exact Starts.range AHeap.get_same hoB (by omega) (by omega) (by omega) (by omega) (by decide),
        fun m ys hp5 => (∀ b o, hp4 b = some o → hp5 b = some o) ∧ m ≤ 3 ∧ ys = (List.range m).map (fun (h : Nat) => AV.int (vcl cells i (h : Int) : Nat)), ?_, ?_, ?_, ?_⟩
      · exact ⟨fun b o e => AHeap.get_new hrB e, by omega, rfl⟩
      · rintro m ys hp5 ⟨_, hm, rfl⟩
        refine ⟨trivial, ?_⟩
        rw [List.length_map, List.length_range]; omega
      · rintro cenv E' m a' ys hp5 ha5 ⟨e5, hm, rfl⟩ v iv _ _ _
        have hm3 : m < 3 := by have := (List.getElem?_eq_some_iff.mp ha5).1; simpa [rangeI] using this
        have ea : a' = .int (m : Nat) := by simp [rangeI, hm3] at ha5; exact ha5.symm
        subst ea
        obtain ⟨t, rfl⟩ := iv
        refine AW.assignName ?_
        walk_at "s"
        refine AW.testsNil ?_
        rw [if_pos rfl]
        walk_at "e"; walk_at "b"
        refine AW.call1 E' ?_
        refine AW.ListComp E' rfl rd.h ?_
        walk_at "e"
        refine ⟨_, (ci (pst (need cells) i)).map .int, _, Walker.list (l := c), fun v iv => by cases iv; exact Starts.list (e5 _ _ oc4),
          fun x ys hp6 => (∀ b o, hp4 b = some o → hp6 b = some o) ∧ ys = (ci (((pst (need cells) i).take x).filter fun j => decide (hnd cells j = (m : Int)))).map .int, ?_, ?_, ?_, ?_⟩
        · exact ⟨e5, rfl⟩
        · rintro x ys hp6 ⟨e6, rfl⟩
          refine ⟨e6 _ _ oc4, ?_⟩
          rw [List.length_map, ci_len]
          have := List.length_filter_le (fun j => decide (hnd cells j = (m : Int))) ((pst (need cells) i).take x)
          rw [List.length_take] at this
          omega
        · rintro cenv2 E2 x a' ys hp6 ha6 ⟨e6, rfl⟩ v iv _ _ _
          obtain ⟨ot, hot, rfl⟩ : ∃ ot, (pst (need cells) i)[x]? = some ot ∧ a' = .int (ot : Nat) := by
            rw [List.getElem?_map, ci_get] at ha6
            cases e : (pst (need cells) i)[x]? with
            | none => rw [e] at ha6; cases ha6
            | some ot => rw [e] at ha6; cases ha6; exact ⟨ot, rfl, rfl⟩
          have hol := pst_le need_lt (List.mem_of_getElem? hot)
          have hon : ot < cells.length := by omega
          have p6 := p1.keep fun b o e => e6 _ _ (ext4 b o e)
          obtain ⟨t, rfl⟩ := iv
          refine AW.assignName ?_
          walk_at "s"
          refine AW.testsOne (AW.isTrue_Compare1 ?_)
          walk_at "e"; walk_at "e"; walk_at "e"; walk_at "ii"
          refine AW.ofCW E2.ok (CW.subList (a := .int (hnd cells ot)) p6.ho (by omega) (by simp; omega) (by rw [Int.toNat_natCast]; simp [hon]) ?_)
          walk_at "e"; walk_at "ii"
          refine AW.ofCW E2.ok (CW.eqI ⟨_, rfl, ?_⟩)
          have tk : (pst (need cells) i).take (x + 1) = (pst (need cells) i).take x ++ [ot] := by rw [List.take_add_one, hot]; rfl
          by_cases q : hnd cells ot = (m : Int)
          · rw [if_pos (decide_eq_true q)]
            walk_at "e"
            walk_at "y"
            refine ⟨e6, ?_⟩
            rw [tk, List.filter_append, ci_app, List.map_append]
            simp [q, ci]
          · rw [if_neg (fun w => q (of_decide_eq_true w))]
            walk_at "y"
            refine ⟨e6, ?_⟩
            rw [tk, List.filter_append]; simp [q]
        · rintro ys hp6 ⟨e6, rfl⟩ yA hyA
          rw [List.length_map, ci_len, List.take_length]
          walk_at "i"
          have fl := List.length_filter_le (fun j => decide (hnd cells j = (m : Int))) (pst (need cells) i)
          refine ⟨Keeps.builtin, AW.ofCW E'.ok (CW.lenList AHeap.get_same (by rw [List.length_map, ci_len]; omega) ?_)⟩
          walk_at "y"
          refine ⟨fun b o e => AHeap.get_new hyA (e6 b o e), by omega, ?_⟩
          rw [List.range_succ, List.map_append, List.length_map, ci_len]
          rfl
      · rintro ys hp5 ⟨e5, _, rfl⟩ yA hyA
        rw [show (rangeI 0 3).length = 3 by simp [rangeI], F3_range (f := fun h => vcl cells i h)]
        walk_at "ii"
        refine AW.ofCW E.ok (CW.neInts (ns := [(vcl cells i 0 : Nat), (vcl cells i 1 : Nat), (vcl cells i 2 : Nat)]) (ms := [(vcl cells i 0 : Nat), (vcl cells i 1 : Nat), (vcl cells i 2 : Nat)]) rd (AHeap.get_new hyA (e5 _ _ (ext4 _ _ orc))) AHeap.get_same ⟨_, rfl, ?_⟩)
        rw [decide_eq_true rfl]
        rw [if_neg (by decide)]
        walk_at "x"; walk_at "x"
        exact ⟨prs ++ [c], ⟨fun b o e => AHeap.get_new hyA (e5 _ _ (pr4.ext b o e)), pr.fresh, AHeap.get_new hyA (e5 _ _ pr4.po), pr4.len, fun j r hj => ⟨AHeap.get_new hyA (e5 _ _ (pr4.row j r hj).1), (pr4.row j r hj).2⟩⟩, ⟨by walk_at "v", by walk_at "v", by walk_at "v", by walk_at "v"⟩, by walk_at "v", by walk_at "v"⟩
  · clear v1 v2 v3 v4 vC
    rintro vs hp2 _
    walk_at "x"; walk_at "x"
    exact AW.cBool (h vs hp2)
end


section
variable {C : Cx} {A : Around} {hp : AHeap} {k : Nat} {S : SS} {b : Str → Bool} {env : Env} {vs : Vars} {names : List (Str × NameKind)}
set_option maxHeartbeats 4000000 in
theorem law1 : LawAt KK PySem.Challenge.rw_mg0006_01.row.prog 153 63 := by
  intro C l ns us hprog hK hfs hL hI hlen
  have r : Room 8 callerA := ⟨rfl, by decide, by decide⟩
  refine CC.fn r.room (by walk_at "k") rfl (by walk_at "k") rfl rfl rfl rfl rfl rfl rfl rfl ?_
  refine CW.bindsTo (ab := [(Str.ofString "script", .ref l)]) rfl (.cons ⟨rfl, rfl⟩ .nil) ⟨rfl, fun env E hf => ?_⟩
  replace E : EnvIs N1 nob env := E
  have rd := r.deeper env
  have hfr : (callerA.deeper env).frames = some (env :: C.fs) := by show callerA.frames.map _ = _; rw [hfs]; rfl
  -- cells = script[:9] + [0, 1, 3]
  walk_at "x"; walk_at "e"
  refine AW.sliceToBase (n := 9) hL hI (by omega) ?_
  walk_at "n"
  refine ⟨rfl, AW.cInt ⟨rfl, fun a1 ha1 => ?_⟩⟩
  refine AW.ListD (AW.argsCons (AW.cInt (AW.argsCons (AW.cInt (AW.argsCons (AW.cInt (AW.argsNil ⟨by decide, fun a2 ha2 => ?_⟩)) (by rfl))) (by rfl))) (by rfl))
  walk_at "ii"
  have hle : (ns.take 9).length ≤ 9 := List.length_take_le _ _
  refine AW.ofCW E.ok (CW.addList (AHeap.get_new ha2 AHeap.get_same) AHeap.get_same (by rw [List.length_map]; show _ + 3 < _; omega) fun cA hcA => ?_)
  walk_at "i"; walk_at "s"
  obtain ⟨cells, hcells⟩ : ∃ c, c = ns.take 9 ++ [0, 1, 3] := ⟨_, rfl⟩
  have hmany : cells.length ≤ 12 := by rw [hcells, List.length_append]; show _ + 3 ≤ _; omega
  have hpos : 3 ≤ cells.length := by rw [hcells, List.length_append]; show _ ≤ _ + 3; omega
  have hcm : (ns.take 9).map AV.int ++ [.int 0, .int 1, .int 3] = cells.map .int := by rw [hcells, List.map_append]; rfl
  rw [hcm]
  have hco : (((AHeap.put (fun _ => none) a1 (.list ((ns.take 9).map .int))).put a2 (.list [.int 0, .int 1, .int 3])).put cA (.list (cells.map .int))) cA = some (.list (cells.map .int)) := AHeap.get_same
  generalize ((AHeap.put (fun _ => none) a1 (.list ((ns.take 9).map .int))).put a2 (.list [.int 0, .int 1, .int 3])).put cA (.list (cells.map .int)) = hp0 at hco ⊢
  clear hcA ha2 ha1 a1 a2
  -- many = len(cells)
  walk_at "x"; walk_at "e"; walk_at "b"
  refine AW.call1 E ?_
  walk_at "e"; walk_at "i"
  refine ⟨Keeps.builtin, AW.ofCW E.ok (CW.lenList hco (by rw [List.length_map]; omega) ?_)⟩
  rw [List.length_map]
  walk_at "i"; walk_at "s"
  walk_at "c"
  refine phA1 (k := 7) hK rd E hmany hco (by walk_at "v") (by walk_at "v") fun hA nA rs vs1 hp1 p1 vv => ?_
  refine phB1 (k := 1) hK rd hfr E hmany hpos p1 vv fun S es a vs2 hp2 hat p12 sd gi up el ed hr hps hfn vv2 vS => ?_
  refine phC1 (k := 1) hK rd E hmany hpos hat p12 sd gi up el ed hr hps hfn vv2 vS fun S3 kA kvs Dn vs3 hp3 hat3 p13 hr3 hpf nd mem ck vv3 vS3 vC3 => ?_
  refine phD1 (k := 1) hK rd E hmany hat3 hr3 hpf nd mem ck vv3.many vS3 vC3 fun hp4 ext4 => ?_
  refine phE1 (k := 1) hK rd E hmany (p13.keep ext4) mem ⟨by obtain ⟨ep, od⟩ := ck.dict; exact ⟨ep, ext4 _ _ od⟩, ck.keys, fun i hi => by obtain ⟨r, h1, h2⟩ := ck.val i hi; exact ⟨r, h1, ext4 _ _ h2⟩⟩ vv3 vC3 fun vs' hp' => rfl
end

theorem said : OpenLaw.wellSaid PySem.Challenge.rw_mg0006_01 = true := by
  rw [PySem.W.Fast.te9446332074065402090]
  kernel_rfl
theorem ends (L : LawAt KK PySem.Challenge.rw_mg0006_01.row.prog 153 63) : PySem.Challenge.rw_mg0006_01.Holds := by
  refine holds_law said fun ok => ?_
  let H := kHook KK [3, 35, 36, 39, 40, 41, 42, 43, 66, 72, 73, 79, 80, 86, 87, 91, 92, 98, 99, 105, 106, 119, 120, 126, 127, 136, 137, 138, 147, 148, 152, 153] (fun _ => by kernel_rfl)
  refine holds_open (q := vw) (loose := [Str.ofString "_NodeInfo"]) (XP := XL vw []) (YP := InK KK) left (Hook.of H) (Hook.keeps H) (fun s e => xl_of s (Bool.and_eq_true_iff.mp e).1) XL.keeps (by rfl) (by rfl) (by rfl) (fun s e => recFacts_of (Bool.and_eq_true_iff.mp e).2) (by rfl) ok (by decide +kernel) ⟨rfl, rfl, rfl, rfl, rfl, by decide +kernel⟩ ⟨[.list [.int 3, .int 1]], by decide +kernel, by decide +kernel⟩ ?_
  intro w s₀ s₁ mg mb G Y fa o pm cd doc dV kV ho hd hcd hD hmg hg args vals as hpre hlay hrd hwl hlo
  have KX : (KK w.params).In s₁.heap := Y
  have lo := Ground.low G
  refine Ground.open G ?_
  intro T B D TE TW
  wrow_args hpre hlay hrd hwl hlo
  refine enter_call ?_
  try refine codeAny_mono ?_ (fun _ _ g => GoodW.toG g)
  have e1 : mg (Str.ofString "law") = some (.ref 153) := mg_of KX T.g (by rfl)
  have e2 : Value.ref fa = .ref 153 := Option.some.inj (hmg.symm.trans e1)
  rw [e2]
  rename Heap.IsList _ _ _ => hL
  rename IntsAre _ _ => hI
  exact law_end (C := ⟨_, w, s₁.heap, s₁, KK w.params, vw, _, mg, mb, KX, topRead_of T, lo, T.nolimit, []⟩) rfl rfl hg (fun _ => rfl) (by with_unfolding_all rfl) (L _ _ _ _ rfl rfl rfl hL hI (by omega)) rfl
end Mine
theorem PySem.Challenge.cw_mg0006_01_holds : PySem.Challenge.rw_mg0006_01.Holds := by
  exact Mine.ends Mine.law1
