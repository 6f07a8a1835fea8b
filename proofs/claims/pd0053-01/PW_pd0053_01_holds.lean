import PyProof.Rows.All
import Wide.All
import OpenK.KMore
import OpenK.KWalk
import Wide.FinOn
import PySem.Challenge.RW_pd0053_01
set_option Elab.async false
section
open PySem PySem.W PyProof.Rows
open Builtin Builtin.Str
set_option Elab.async false
set_option maxRecDepth 100000
set_option maxHeartbeats 4000000
namespace Mine
theorem cells_hit {x : Str} (names : List (Str × NameKind)) : ∀ (n : Nat) (acc : List (Str × Addr)), (names.lookup x = some .cell ∨ (acc.lookup x).isSome = true) → ((cellsFrom n names acc).lookup x).isSome = true := by
  induction names with
  | nil =>
    intro n acc h
    rcases h with h | h
    · cases h
    · exact h
  | cons p r ih =>
    obtain ⟨y, kd⟩ := p
    intro n acc h
    have hlk : ∀ {β : Type} (v : β) (l : List (Str × β)), List.lookup x ((y, v) :: l) = if x = y then some v else l.lookup x := by
      intro β v l
      rw [List.lookup_cons]
      by_cases e : x = y
      · subst e; simp
      · have h2 : (x == y) = false := by simpa using e
        rw [h2, if_neg e]
    rw [hlk] at h
    unfold cellsFrom
    by_cases hk : kd = .cell
    · subst hk
      rw [if_pos (by rfl)]
      refine ih _ _ ?_
      rw [hlk]
      by_cases e : x = y
      · exact .inr (by rw [if_pos e]; rfl)
      · rw [if_neg e] at h ⊢; exact h
    · rw [if_neg (by simpa using hk)]
      refine ih _ _ ?_
      by_cases e : x = y
      · rw [if_pos e] at h
        rcases h with h | h
        · exact absurd (Option.some.inj h) hk
        · exact .inr h
      · rw [if_neg e] at h; exact h
theorem kinds_all {scope : Scope} {binds : List (Str × Value)} (e : (binds.all fun y => scope.names.lookup y.1 == some .local || scope.names.lookup y.1 == some .cell) = true) (n : Nat) :
    ∀ x ∈ binds, scope.names.lookup x.1 = some .local ∨ (scope.names.lookup x.1 = some .cell ∧ ((cellsFrom n scope.names []).lookup x.1).isSome = true) := by
  intro x hx
  have h := List.all_eq_true.mp e x hx
  rw [Bool.or_eq_true, beq_iff_eq, beq_iff_eq] at h
  exact h.imp id fun q => ⟨q, cells_hit _ _ _ (.inl q)⟩
theorem nat_ne {a b : Nat} (h : a = b → False) : a ≠ b := h
theorem erase_last (p : List Value) (y : Value) : ((p ++ [y]).toArray).eraseIdxIfInBounds p.length = p.toArray := by
  apply Array.toList_inj.mp
  unfold Array.eraseIdxIfInBounds
  rw [dif_pos (by simp)]
  simp [List.eraseIdx_append_of_length_le]
theorem type_str : typeOf (.type "str") = pure (.type "type") := by
  have h : ((fastFind? "str").elim "type" (·.metatype)) = "type" := by decide +kernel
  show (pure (Value.type ((Manifest.find? "str").elim "type" (·.metatype))) : Sem Value) = _
  rw [find?_eq_fast, h]
end Mine
end
section
open PySem PySem.W PyProof.Rows
set_option Elab.async false
set_option maxRecDepth 100000
namespace Mine

/-- the heap only grows -/
noncomputable abbrev Grow (h h' : Heap) : Prop := ∀ b o, h.get? b = some o → h'.get? b = some o

mutual
/-- a value reads as plain data (no dicts), by no object of X -/
noncomputable def Rd (X : Addr → Prop) (h : Heap) : PyData → Value → Prop
  | .none, v => v = .none
  | .bool b, v => v = .bool b
  | .int i, v => ∃ t, v = .int i t
  | .str x, v => ∃ t, v = .str x t
  | .list xs, v => ∃ a vs, v = .ref a ∧ ¬ X a ∧ h.IsList a vs ∧ RdL X h xs vs.toList
  | .tuple xs, v => ∃ a vs, v = .ref a ∧ ¬ X a ∧ h.IsTuple a vs ∧ RdL X h xs vs.toList
  | .dict _, _ => False
noncomputable def RdL (X : Addr → Prop) (h : Heap) : List PyData → List Value → Prop
  | [], vs => vs = []
  | d :: ds, vs => ∃ v r, vs = v :: r ∧ Rd X h d v ∧ RdL X h ds r
end

mutual
theorem Rd.mono {X : Addr → Prop} {h h' : Heap} (hk : ∀ b o (vs : Array Value) n, ¬ X b → o.data = .seq vs n → h.get? b = some o → h'.get? b = some o) :
    ∀ (d : PyData) (v : Value), Rd X h d v → Rd X h' d v
  | .none, _, r => r
  | .bool _, _, r => r
  | .int _, _, r => r
  | .str _, _, r => r
  | .list xs, v, r => by
    obtain ⟨a, vs, e, hx, ⟨o, ho, hc, n, hd⟩, hr⟩ := r
    exact ⟨a, vs, e, hx, ⟨o, hk _ _ _ _ hx hd ho, hc, n, hd⟩, RdL.mono hk xs vs.toList hr⟩
  | .tuple xs, v, r => by
    obtain ⟨a, vs, e, hx, ⟨o, ho, hc, n, hd⟩, hr⟩ := r
    exact ⟨a, vs, e, hx, ⟨o, hk _ _ _ _ hx hd ho, hc, n, hd⟩, RdL.mono hk xs vs.toList hr⟩
  | .dict _, _, r => r
theorem RdL.mono {X : Addr → Prop} {h h' : Heap} (hk : ∀ b o (vs : Array Value) n, ¬ X b → o.data = .seq vs n → h.get? b = some o → h'.get? b = some o) :
    ∀ (ds : List PyData) (vs : List Value), RdL X h ds vs → RdL X h' ds vs
  | [], _, r => r
  | d :: ds, vs, r => by
    obtain ⟨v, r, e, h1, h2⟩ := r
    exact ⟨v, r, e, Rd.mono hk d v h1, RdL.mono hk ds r h2⟩
end
theorem Rd.grow {X : Addr → Prop} {h h' : Heap} {d : PyData} {v : Value} (g : Grow h h') (r : Rd X h d v) : Rd X h' d v := Rd.mono (fun b _ _ _ _ _ e => g b _ e) d v r
theorem RdL.grow {X : Addr → Prop} {h h' : Heap} {d : List PyData} {v : List Value} (g : Grow h h') (r : RdL X h d v) : RdL X h' d v := RdL.mono (fun b _ _ _ _ _ e => g b _ e) d v r

mutual
theorem Rd.weak {X Y : Addr → Prop} {h : Heap} (hk : ∀ b, Y b → X b) : ∀ (d : PyData) (v : Value), Rd X h d v → Rd Y h d v
  | .none, _, r => r
  | .bool _, _, r => r
  | .int _, _, r => r
  | .str _, _, r => r
  | .list xs, v, r => by
    obtain ⟨a, vs, e, hx, hl, hr⟩ := r
    exact ⟨a, vs, e, fun q => hx (hk a q), hl, RdL.weak hk xs vs.toList hr⟩
  | .tuple xs, v, r => by
    obtain ⟨a, vs, e, hx, hl, hr⟩ := r
    exact ⟨a, vs, e, fun q => hx (hk a q), hl, RdL.weak hk xs vs.toList hr⟩
  | .dict _, _, r => r
theorem RdL.weak {X Y : Addr → Prop} {h : Heap} (hk : ∀ b, Y b → X b) : ∀ (ds : List PyData) (vs : List Value), RdL X h ds vs → RdL Y h ds vs
  | [], _, r => r
  | d :: ds, vs, r => by
    obtain ⟨v, r, e, h1, h2⟩ := r
    exact ⟨v, r, e, Rd.weak hk d v h1, RdL.weak hk ds r h2⟩
end
mutual
/-- one more object that was not there may be shut out -/
theorem Rd.shut {X : Addr → Prop} {h : Heap} {D : Addr} (hD : h.get? D = none) : ∀ (d : PyData) (v : Value), Rd X h d v → Rd (fun b => b = D ∨ X b) h d v
  | .none, _, r => r
  | .bool _, _, r => r
  | .int _, _, r => r
  | .str _, _, r => r
  | .list xs, v, r => by
    obtain ⟨a, vs, e, hx, hl, hr⟩ := r
    refine ⟨a, vs, e, ?_, hl, RdL.shut hD xs vs.toList hr⟩
    rintro (q | q)
    · obtain ⟨o, ho, _⟩ := hl; rw [q, hD] at ho; cases ho
    · exact hx q
  | .tuple xs, v, r => by
    obtain ⟨a, vs, e, hx, hl, hr⟩ := r
    refine ⟨a, vs, e, ?_, hl, RdL.shut hD xs vs.toList hr⟩
    rintro (q | q)
    · obtain ⟨o, ho, _⟩ := hl; rw [q, hD] at ho; cases ho
    · exact hx q
  | .dict _, _, r => r
theorem RdL.shut {X : Addr → Prop} {h : Heap} {D : Addr} (hD : h.get? D = none) : ∀ (ds : List PyData) (vs : List Value), RdL X h ds vs → RdL (fun b => b = D ∨ X b) h ds vs
  | [], _, r => r
  | d :: ds, vs, r => by
    obtain ⟨v, r, e, h1, h2⟩ := r
    exact ⟨v, r, e, Rd.shut hD d v h1, RdL.shut hD ds r h2⟩
end

mutual
theorem Rd.reads {X : Addr → Prop} {h : Heap} : ∀ (d : PyData) (v : Value), Rd X h d v → ∃ as, Reads h v d as
  | .none, _, r => by cases r; exact ⟨_, .none⟩
  | .bool _, _, r => by cases r; exact ⟨_, .bool _⟩
  | .int _, _, r => by obtain ⟨t, e⟩ := r; cases e; exact ⟨_, .int _ _⟩
  | .str _, _, r => by obtain ⟨t, e⟩ := r; cases e; exact ⟨_, .str _ _⟩
  | .list xs, v, r => by
    obtain ⟨a, vs, e, _, ⟨o, ho, hc, n, hd⟩, hr⟩ := r
    obtain ⟨as, q⟩ := RdL.reads xs vs.toList hr
    cases e; exact ⟨_, .list ho hc hd q⟩
  | .tuple xs, v, r => by
    obtain ⟨a, vs, e, _, ⟨o, ho, hc, n, hd⟩, hr⟩ := r
    obtain ⟨as, q⟩ := RdL.reads xs vs.toList hr
    cases e; exact ⟨_, .tuple ho hc hd q⟩
  | .dict _, _, r => nomatch r
theorem RdL.reads {X : Addr → Prop} {h : Heap} : ∀ (ds : List PyData) (vs : List Value), RdL X h ds vs → ∃ as, ReadsAll h vs ds as
  | [], _, r => by cases r; exact ⟨_, .nil⟩
  | d :: ds, vs, r => by
    obtain ⟨v, r, e, h1, h2⟩ := r
    obtain ⟨as, q⟩ := Rd.reads d v h1
    obtain ⟨bs, q'⟩ := RdL.reads ds r h2
    cases e; exact ⟨_, .cons q q'⟩
end
theorem RdL.length {X : Addr → Prop} {h : Heap} : ∀ {ds : List PyData} {vs : List Value}, RdL X h ds vs → vs.length = ds.length
  | [], _, r => by cases r; rfl
  | _ :: _, _, ⟨_, _, e, _, h2⟩ => by cases e; simp [RdL.length h2]
theorem RdL.get {X : Addr → Prop} {h : Heap} : ∀ {ds : List PyData} {vs : List Value}, RdL X h ds vs → ∀ {i : Nat} {v : Value}, vs[i]? = some v → ∃ d, ds[i]? = some d ∧ Rd X h d v
  | [], _, r, i, v, e => by cases r; simp at e
  | d :: _, _, ⟨_, _, q, h1, h2⟩, 0, v, e => by cases q; simp at e; subst e; exact ⟨d, rfl, h1⟩
  | _ :: _, _, ⟨_, _, q, h1, h2⟩, i + 1, v, e => by cases q; simp at e; simpa using RdL.get h2 e
theorem RdL.get' {X : Addr → Prop} {h : Heap} : ∀ {ds : List PyData} {vs : List Value}, RdL X h ds vs → ∀ {i : Nat} {d : PyData}, ds[i]? = some d → ∃ v, vs[i]? = some v ∧ Rd X h d v
  | [], _, r, i, v, e => by simp at e
  | d :: _, _, ⟨v, _, q, h1, h2⟩, 0, _, e => by cases q; simp at e; subst e; exact ⟨v, rfl, h1⟩
  | _ :: _, _, ⟨_, _, q, h1, h2⟩, i + 1, v, e => by cases q; simp at e; simpa using RdL.get' h2 e
theorem RdL.append {X : Addr → Prop} {h : Heap} : ∀ {ds es : List PyData} {vs ws : List Value}, RdL X h ds vs → RdL X h es ws → RdL X h (ds ++ es) (vs ++ ws)
  | [], _, _, _, r, q => by cases r; exact q
  | _ :: _, _, _, _, ⟨v, r, e, h1, h2⟩, q => by cases e; exact ⟨v, _, rfl, h1, RdL.append h2 q⟩
theorem RdL.drop {X : Addr → Prop} {h : Heap} : ∀ {ds : List PyData} {vs : List Value} (n : Nat), RdL X h ds vs → RdL X h (ds.drop n) (vs.drop n)
  | _, _, 0, r => r
  | [], _, _ + 1, r => by cases r; exact rfl
  | _ :: _, _, n + 1, ⟨v, r, e, h1, h2⟩ => by cases e; exact RdL.drop n h2
theorem RdL.take {X : Addr → Prop} {h : Heap} : ∀ {ds : List PyData} {vs : List Value} (n : Nat), RdL X h ds vs → RdL X h (ds.take n) (vs.take n)
  | _, _, 0, r => by simp only [List.take_zero]; exact rfl
  | [], _, _ + 1, r => by cases r; exact rfl
  | _ :: _, _, n + 1, ⟨v, r, e, h1, h2⟩ => by cases e; exact ⟨v, _, rfl, h1, RdL.take n h2⟩
theorem RdL.snoc {X : Addr → Prop} {h : Heap} {ds : List PyData} {vs : List Value} {d : PyData} {v : Value} (r : RdL X h ds vs) (q : Rd X h d v) : RdL X h (ds ++ [d]) (vs ++ [v]) := RdL.append r ⟨v, [], rfl, q, rfl⟩

/-- the library's Keeps, and the count of tokens does not fall -/
noncomputable def Kp (s s' : Shared) : Prop := PySem.Keeps s s' ∧ s.toks ≤ s'.toks
theorem Kp.grow {s s' : Shared} (k : Kp s s') : Grow s.heap s'.heap := by obtain ⟨⟨h', tk, rfl, g⟩, _⟩ := k; exact g
theorem Kp.rfl' {s : Shared} : Kp s s := ⟨⟨s.heap, s.toks, rfl, fun _ _ e => e⟩, Nat.le_refl _⟩
theorem keeps_tr {s s' s'' : Shared} (k : PySem.Keeps s s') (k' : PySem.Keeps s' s'') : PySem.Keeps s s'' := by
  obtain ⟨h', tk, rfl, g⟩ := k
  obtain ⟨h'', tk', rfl, g'⟩ := k'
  exact ⟨h'', tk', rfl, fun b o e => g' b o (g b o e)⟩
theorem Kp.tr {s s' s'' : Shared} (k : Kp s s') (k' : Kp s' s'') : Kp s s'' := ⟨keeps_tr k.1 k'.1, Nat.le_trans k.2 k'.2⟩
theorem Kp.tok {s : Shared} {n : Nat} (h : s.toks ≤ n := by first | exact Nat.le_succ _ | omega) : Kp s { s with toks := n } := ⟨⟨s.heap, n, rfl, fun _ _ e => e⟩, h⟩
theorem Kp.push {s : Shared} {o : Obj} : Kp s { s with heap := s.heap.push o } := ⟨⟨_, s.toks, rfl, fun _ _ e => Heap.get?_push_of_some _ e⟩, Nat.le_refl _⟩
theorem kept_tok {s : Shared} {n : Nat} : PySem.Keeps s { s with toks := n } := ⟨s.heap, n, rfl, fun _ _ e => e⟩
theorem kept_push {s : Shared} {o : Obj} {n : Nat} : PySem.Keeps s { s with heap := s.heap.push o, toks := n } := ⟨_, n, rfl, fun _ _ e => Heap.get?_push_of_some _ e⟩
theorem kept_rfl {s : Shared} : PySem.Keeps s s := ⟨s.heap, s.toks, rfl, fun _ _ e => e⟩

/-- what stands at the call's start and stays -/
structure Cx where
  prog : Program
  w : World
  hb : Heap
  mg : Str → Option Value
  mb : Str → Option Value
  g : hb.Ns mainGlobals mg
  b : hb.Ns builtinsNs mb
  nolimit : hb.NoLimit
  bi : ∀ x : Str, x ≠ "__name__" → mb x = bootBuiltins x

noncomputable abbrev Cx.M (C : Cx) : Model := model C.prog C.w

structure Ok (C : Cx) (X : Addr → Prop) (k : Nat) (A : Around) (s : Shared) : Prop where
  hd : A.handled = none
  dp : A.depth + k ≤ 950
  un : A.units + 20 * k ≤ 9700
  base : Grow C.hb s.heap
  xb : ∀ b, X b → ∃ o, s.heap.get? b = some o
theorem Ok.keeps {C : Cx} {X : Addr → Prop} {k : Nat} {A : Around} {s s' : Shared} (o : Ok C X k A s) (g : Kp s s') : Ok C X k A s' := ⟨o.hd, o.dp, o.un, fun b x e => g.grow b x (o.base b x e), fun b hb => let ⟨x, e⟩ := o.xb b hb; ⟨x, g.grow b x e⟩⟩
theorem Ok.less {C : Cx} {X : Addr → Prop} {k k' : Nat} {A : Around} {s : Shared} (o : Ok C X k A s) (h : k' ≤ k) : Ok C X k' A s := ⟨o.hd, by have := o.dp; omega, by have := o.un; omega, o.base, o.xb⟩
theorem Ok.fresh {C : Cx} {X : Addr → Prop} {k : Nat} {A : Around} {s : Shared} (o : Ok C X k A s) : ¬ X s.heap.objs.size := fun q => by
  obtain ⟨x, e⟩ := o.xb _ q
  exact Nat.lt_irrefl _ (Heap.lt_size e)
theorem Ok.units {C : Cx} {X : Addr → Prop} {k : Nat} {A : Around} {s : Shared} (o : Ok C X k A s) : A.units + 64 < cLine := by have := o.un; show _ < 9900; omega
theorem Ok.units0 {C : Cx} {X : Addr → Prop} {k : Nat} {A : Around} {s : Shared} (o : Ok C X k A s) : A.units < cLine := by have := o.un; show _ < 9900; omega

inductive Bd where
  | loc (d : PyData)
  | cel (d : PyData)
  | glo
  | unl
  | unc
noncomputable abbrev Rho := List (Str × Bd)

noncomputable def NameIs (X : Addr → Prop) (env : Env) (h : Heap) (x : Str) : Bd → Prop
  | .loc d => env.kindOf x = some .local ∧ ∃ m v, h.Ns env.locals m ∧ m x = some v ∧ Rd X h d v
  | .cel d => env.kindOf x = some .cell ∧ ∃ c v, env.cells.lookup x = some c ∧ h.IsCell c (some v) ∧ Rd X h d v
  | .glo => env.kindOf x = some .globalImplicit
  | .unl => env.kindOf x = some .local
  | .unc => env.kindOf x = some .cell ∧ ∃ c, env.cells.lookup x = some c
theorem NameIs.grow {X : Addr → Prop} {env : Env} {h h' : Heap} {x : Str} {b : Bd} (g : Grow h h') (n : NameIs X env h x b) : NameIs X env h' x b := by
  cases b with
  | loc d => obtain ⟨k, m, v, a, b, c⟩ := n; exact ⟨k, m, v, a.keeps g, b, c.grow g⟩
  | cel d => obtain ⟨k, m, v, a, b, c⟩ := n; exact ⟨k, m, v, a, b.keeps g, c.grow g⟩
  | glo => exact n
  | unl => exact n
  | unc => exact n

structure Sees (X : Addr → Prop) (env : Env) (h : Heap) (ρ : Rho) : Prop where
  kind : env.scope.kind = .function
  gl : env.globals = mainGlobals
  bl : env.builtins = builtinsNs
  names : ∀ p ∈ ρ, NameIs X env h p.1 p.2
theorem Sees.grow {X : Addr → Prop} {env : Env} {h h' : Heap} {ρ : Rho} (g : Grow h h') (s : Sees X env h ρ) : Sees X env h' ρ := ⟨s.kind, s.gl, s.bl, fun p hp => (s.names p hp).grow g⟩
theorem Sees.sub {X : Addr → Prop} {env : Env} {h : Heap} {ρ ρ' : Rho} (s : Sees X env h ρ) (hs : ∀ p ∈ ρ', p ∈ ρ) : Sees X env h ρ' := ⟨s.kind, s.gl, s.bl, fun p hp => s.names p (hs p hp)⟩

/-- a tree gives data d and only adds to the heap -/
noncomputable def Gv (C : Cx) (X : Addr → Prop) (A : Around) (t : Sem Value) (s : Shared) (d : PyData) : Prop :=
  ∀ (Q : Value → Shared → Prop) (E : Value → Shared → Prop), (∀ v s', Kp s s' → Rd X s'.heap d v → Q v s') → wpAny C.M A t Q E s

theorem gv_of {C : Cx} {X : Addr → Prop} {A : Around} {t : Sem Value} {s : Shared} {d : PyData} (h : ∀ (Q : Value → Shared → Prop) (E : Value → Shared → Prop), (∀ v s', PySem.Keeps s s' → Rd X s'.heap d v → Q v s') → wpAny C.M A t Q E s) : Gv C X A t s d :=
  fun _ _ hQ => wpAny_mono (wpAny_toks (h (fun v s' => PySem.Keeps s s' ∧ Rd X s'.heap d v) _ fun _ _ a b => ⟨a, b⟩)) (fun _ _ x => hQ _ _ ⟨x.2.1, x.1⟩ x.2.2) fun _ _ x => x.2
theorem kp_of {α : Type} {M : Model} {A : Around} {t : Sem α} {s : Shared} {P : α → Shared → Prop} (h : ∀ (Q : α → Shared → Prop) (E : Value → Shared → Prop), (∀ v s', PySem.Keeps s s' → P v s' → Q v s') → wpAny M A t Q E s)
    (Q : α → Shared → Prop) (E : Value → Shared → Prop) (hQ : ∀ v s', Kp s s' → P v s' → Q v s') : wpAny M A t Q E s :=
  wpAny_mono (wpAny_toks (h (fun v s' => PySem.Keeps s s' ∧ P v s') _ fun _ _ a b => ⟨a, b⟩)) (fun _ _ x => hQ _ _ ⟨x.2.1, x.1⟩ x.2.2) fun _ _ x => x.2

/-- expression e under names ρ gives d -/
noncomputable def EvR (C : Cx) (k : Nat) (ρ : Rho) (e : Expr) (d : PyData) : Prop :=
  ∀ X A env s, Ok C X k A s → Sees X env s.heap ρ → Gv C X A (eval e env) s d
noncomputable def EvsR (C : Cx) (k : Nat) (ρ : Rho) (es : List Expr) (ds : List PyData) : Prop :=
  ∀ X A env s pos, Ok C X k A s → Sees X env s.heap ρ → ∀ (Q : List Value → Shared → Prop) (E : Value → Shared → Prop), (∀ vs s', Kp s s' → RdL X s'.heap ds vs → Q vs s') → wpAny C.M A (spliced (backTo pos (starEach es env))) Q E s
noncomputable def TestR (C : Cx) (k : Nat) (ρ : Rho) (e : Expr) (b : Bool) : Prop :=
  ∀ X A env s, Ok C X k A s → Sees X env s.heap ρ → ∀ (Q : Bool → Shared → Prop) (E : Value → Shared → Prop), (∀ s', Kp s s' → Q b s') → wpAny C.M A (isTrue e env (eval e env)) Q E s

section
variable {C : Cx} {k : Nat} {ρ : Rho}

theorem ev_loc {x : Str} {pos : Pos} {d : PyData} (h : (x, Bd.loc d) ∈ ρ) (hd : (x == ("__debug__" : Str)) = false := by decide) : EvR C k ρ (.Name x pos) d := by
  intro X A env s _ S Q E hQ
  obtain ⟨hk, m, v, hn, hv, hr⟩ := S.names _ h
  exact wpAny_Name (wpAny_loadName_local S.kind hk hn hv (hQ v s Kp.rfl' hr)) hd
theorem ev_cel {x : Str} {pos : Pos} {d : PyData} (h : (x, Bd.cel d) ∈ ρ) (hd : (x == ("__debug__" : Str)) = false := by decide) : EvR C k ρ (.Name x pos) d := by
  intro X A env s _ S Q E hQ
  obtain ⟨hk, c, v, hn, hv, hr⟩ := S.names _ h
  exact wpAny_Name (wpAny_loadName_cell S.kind hk hn hv (hQ v s Kp.rfl' hr)) hd
theorem ev_int {i : Int} {n : Nat} {pos : Pos} : EvR C k ρ (.Constant (.int i) n pos) (.int i) := fun _ _ _ _ _ _ _ _ hQ => wpAny_Constant_int (hQ _ _ Kp.tok ⟨_, rfl⟩)
theorem ev_str {x : Str} {n : Nat} {pos : Pos} : EvR C k ρ (.Constant (.str x) n pos) (.str x) := fun _ _ _ _ _ _ _ _ hQ => wpAny_Constant_str (hQ _ _ Kp.tok ⟨_, rfl⟩)
theorem ev_none {n : Nat} {pos : Pos} : EvR C k ρ (.Constant .none n pos) .none := fun _ _ _ _ _ _ _ _ hQ => wpAny_Constant_none (hQ _ _ Kp.rfl' rfl)

/-- an operation on read values -/
noncomputable def BinR (C : Cx) (k : Nat) (op : Operator) (a b c : PyData) : Prop :=
  ∀ X A s va vb, Ok C X k A s → Rd X s.heap a va → Rd X s.heap b vb → Gv C X A (binaryOp op va vb) s c
noncomputable def CmpR (C : Cx) (k : Nat) (op : CmpOp) (a b : PyData) (c : Bool) : Prop :=
  ∀ X A s va vb, Ok C X k A s → Rd X s.heap a va → Rd X s.heap b vb → Gv C X A (compareOp op va vb) s (.bool c)

theorem ev_binop {l r : Expr} {op : Operator} {pos : Pos} {a b c : PyData} (hl : EvR C k ρ l a) (hr : EvR C k ρ r b) (ho : BinR C k op a b c) : EvR C k ρ (.BinOp l op r pos) c := by
  intro X A env s O S Q E hQ
  refine wpAny_BinOp (hl X A env s O S _ E fun va s1 k1 r1 => hr X A env s1 (O.keeps k1) (S.grow k1.grow) _ E fun vb s2 k2 r2 => ?_)
  exact ho X A s2 va vb ((O.keeps k1).keeps k2) (r1.grow k2.grow) r2 Q E fun v s3 k3 r3 => hQ v s3 (k1.tr (k2.tr k3)) r3
theorem ev_cmp {l r : Expr} {op : CmpOp} {pos : Pos} {a b : PyData} {c : Bool} (hl : EvR C k ρ l a) (hr : EvR C k ρ r b) (ho : CmpR C k op a b c) (hm : behindInMarks op r = false := by with_unfolding_all rfl) :
    EvR C k ρ (.Compare l [op] [r] pos) (.bool c) := by
  intro X A env s O S Q E hQ
  refine wpAny_Compare1 (hl X A env s O S _ E fun va s1 k1 r1 => hr X A env s1 (O.keeps k1) (S.grow k1.grow) _ E fun vb s2 k2 r2 => ?_) hm
  exact ho X A s2 va vb ((O.keeps k1).keeps k2) (r1.grow k2.grow) r2 Q E fun v s3 k3 r3 => hQ v s3 (k1.tr (k2.tr k3)) r3
theorem te_cmp {l r : Expr} {op : CmpOp} {pos : Pos} {a b : PyData} {c : Bool} (hl : EvR C k ρ l a) (hr : EvR C k ρ r b) (ho : CmpR C k op a b c) (hm : behindInMarks op r = false := by with_unfolding_all rfl) :
    TestR C k ρ (.Compare l [op] [r] pos) c := by
  intro X A env s O S Q E hQ
  refine wpAny_isTrue_Compare1 (hl X A env s O S _ E fun va s1 k1 r1 => hr X A env s1 (O.keeps k1) (S.grow k1.grow) _ E fun vb s2 k2 r2 => ?_) hm
  refine ho X A s2 va vb ((O.keeps k1).keeps k2) (r1.grow k2.grow) r2 _ E fun v s3 k3 r3 => ?_
  cases r3
  exact wpAny_truthy_bool (hQ s3 (k1.tr (k2.tr k3)))
theorem te_not {x : Expr} {pos : Pos} {b : Bool} (h : TestR C k ρ x b) : TestR C k ρ (.UnaryOp .Not x pos) (!b) := by
  intro X A env s O S Q E hQ
  exact isTrue_not (h X A env s O S _ E fun s' k' => hQ s' k')
theorem te_and_nil {pos : Pos} : TestR C k ρ (.BoolOp .And [] pos) true := fun _ _ _ _ _ _ _ _ hQ => isTrue_and_nil (hQ _ Kp.rfl')
theorem te_or_nil {pos : Pos} : TestR C k ρ (.BoolOp .Or [] pos) false := fun _ _ _ _ _ _ _ _ hQ => isTrue_or_nil (hQ _ Kp.rfl')
theorem te_and_f {x : Expr} {r : List Expr} {pos : Pos} (h : TestR C k ρ x false) : TestR C k ρ (.BoolOp .And (x :: r) pos) false := by
  intro X A env s O S Q E hQ
  exact isTrue_and (h X A env s O S _ E fun s' k' => by rw [if_neg Bool.false_ne_true]; exact hQ s' k')
theorem te_and_t {x : Expr} {r : List Expr} {pos : Pos} {b : Bool} (h : TestR C k ρ x true) (h' : TestR C k ρ (.BoolOp .And r pos) b) : TestR C k ρ (.BoolOp .And (x :: r) pos) b := by
  intro X A env s O S Q E hQ
  exact isTrue_and (h X A env s O S _ E fun s' k' => by rw [if_pos rfl]; exact h' X A env s' (O.keeps k') (S.grow k'.grow) Q E fun s'' k'' => hQ s'' (k'.tr k''))
theorem te_or_t {x : Expr} {r : List Expr} {pos : Pos} (h : TestR C k ρ x true) : TestR C k ρ (.BoolOp .Or (x :: r) pos) true := by
  intro X A env s O S Q E hQ
  exact isTrue_or (h X A env s O S _ E fun s' k' => by rw [if_pos rfl]; exact hQ s' k')
theorem te_or_f {x : Expr} {r : List Expr} {pos : Pos} {b : Bool} (h : TestR C k ρ x false) (h' : TestR C k ρ (.BoolOp .Or r pos) b) : TestR C k ρ (.BoolOp .Or (x :: r) pos) b := by
  intro X A env s O S Q E hQ
  exact isTrue_or (h X A env s O S _ E fun s' k' => by rw [if_neg Bool.false_ne_true]; exact h' X A env s' (O.keeps k') (S.grow k'.grow) Q E fun s'' k'' => hQ s'' (k'.tr k''))
theorem ev_if_t {t b o : Expr} {pos : Pos} {d : PyData} (ht : TestR C k ρ t true) (h : EvR C k ρ b d) : EvR C k ρ (.IfExp t b o pos) d := by
  intro X A env s O S Q E hQ
  exact IfExp_ (ht X A env s O S _ E fun s' k' => by rw [if_pos rfl]; exact h X A env s' (O.keeps k') (S.grow k'.grow) Q E fun v s'' k'' r => hQ v s'' (k'.tr k'') r)
theorem ev_if_f {t b o : Expr} {pos : Pos} {d : PyData} (ht : TestR C k ρ t false) (h : EvR C k ρ o d) : EvR C k ρ (.IfExp t b o pos) d := by
  intro X A env s O S Q E hQ
  exact IfExp_ (ht X A env s O S _ E fun s' k' => by rw [if_neg Bool.false_ne_true]; exact h X A env s' (O.keeps k') (S.grow k'.grow) Q E fun v s'' k'' r => hQ v s'' (k'.tr k'') r)

theorem evs_nil : EvsR C k ρ [] [] := fun _ _ _ s _ _ _ _ _ hQ => spliced_none (hQ [] s Kp.rfl' rfl)
theorem evs_cons {e : Expr} {es : List Expr} {d : PyData} {ds : List PyData} (h : EvR C k ρ e d) (hs : EvsR C k ρ es ds) (he : ∀ env, starEach (e :: es) env = (false, eval e env) :: starEach es env := by intro _; rfl) :
    EvsR C k ρ (e :: es) (d :: ds) := by
  intro X A env s pos O S Q E hQ
  refine spliced_more (h X A env s O S _ E fun v s1 k1 r1 => hs X A env s1 pos (O.keeps k1) (S.grow k1.grow) _ E fun vs s2 k2 r2 => ?_) (he env)
  exact hQ _ s2 (k1.tr k2) ⟨v, vs, rfl, r1.grow k2.grow, r2⟩

theorem sz_le {n : Nat} (h : n ≤ 1000000) : n ≤ sizeLine := by show n ≤ 2 ^ 24; omega
theorem ev_list {es : List Expr} {pos : Pos} {ds : List PyData} (h : EvsR C k ρ es ds) (hz : ds.length ≤ 1000000 := by decide) : EvR C k ρ (.List es pos) (.list ds) := by
  intro X A env s O S Q E hQ
  refine wpAny_List (h X A env s pos O S _ E fun vs s1 k1 r1 => ⟨sz_le (by rw [r1.length]; exact hz), hQ _ _ (k1.tr Kp.push) ⟨_, vs.toArray, rfl, (O.keeps k1).fresh, ⟨_, Heap.get?_push_size _ rfl, rfl, 0, rfl⟩, ?_⟩⟩)
  exact r1.grow fun _ _ e => Heap.get?_push_of_some _ e
theorem ev_tuple {es : List Expr} {n : Nat} {pos : Pos} {ds : List PyData} (h : EvsR C k ρ es ds) (hz : ds.length ≤ 1000000 := by decide) : EvR C k ρ (.Tuple es n pos) (.tuple ds) := by
  intro X A env s O S Q E hQ
  refine wpAny_Tuple (h X A env s pos O S _ E fun vs s1 k1 r1 => ⟨sz_le (by rw [r1.length]; exact hz), hQ _ _ (k1.tr Kp.push) ⟨_, vs.toArray, rfl, (O.keeps k1).fresh, ⟨_, Heap.get?_push_size _ rfl, rfl, 0, rfl⟩, ?_⟩⟩)
  exact r1.grow fun _ _ e => Heap.get?_push_of_some _ e
end
end Mine
end
section
open PySem PySem.W PyProof.Rows
set_option Elab.async false
set_option maxRecDepth 100000
namespace Mine
section
variable {C : Cx} {k : Nat} {ρ : Rho}

theorem bin_add_int {a b : Int} : BinR C k .Add (.int a) (.int b) (.int (a + b)) := by
  rintro X A s va vb O ⟨t, rfl⟩ ⟨u, rfl⟩ Q E hQ
  exact P.add_int (hQ _ _ Kp.tok ⟨_, rfl⟩)
theorem bin_sub_int {a b : Int} : BinR C k .Sub (.int a) (.int b) (.int (a - b)) := by
  rintro X A s va vb O ⟨t, rfl⟩ ⟨u, rfl⟩ Q E hQ
  exact P.sub_int (hQ _ _ Kp.tok ⟨_, rfl⟩)
theorem bin_fdiv_int {a b : Int} (hb : b ≠ 0) (hs : b.natAbs < 1073741824) : BinR C k .FloorDiv (.int a) (.int b) (.int (a.fdiv b)) := by
  rintro X A s va vb O ⟨t, rfl⟩ ⟨u, rfl⟩ Q E hQ
  exact floordiv_int hb (hQ _ _ Kp.tok ⟨_, rfl⟩) (.inl (PyProof.noPylong_small hs))
theorem bin_mod_int {a b : Int} (hb : b ≠ 0) : BinR C k .Mod (.int a) (.int b) (.int (a.fmod b)) := by
  rintro X A s va vb O ⟨t, rfl⟩ ⟨u, rfl⟩ Q E hQ
  exact mod_int' hb (hQ _ _ Kp.tok ⟨_, rfl⟩)
theorem bin_add_str {a b : Str} (hz : a.length + b.length ≤ 1000000) : BinR C k .Add (.str a) (.str b) (.str (a ++ b)) := by
  rintro X A s va vb O ⟨t, rfl⟩ ⟨u, rfl⟩
  exact gv_of fun Q E hQ => SB.add (fun t' n => hQ _ _ kept_tok ⟨_, rfl⟩) (sz_le hz)
theorem bin_mul_str {a : Str} {n : Int} (h0 : 0 ≤ n) (hn : n ≤ 1000) (ha : a.length ≤ 1000) : BinR C k .Mult (.str a) (.int n) (.str (Txt.mul a n)) := by
  rintro X A s va vb O ⟨t, rfl⟩ ⟨u, rfl⟩
  refine gv_of fun Q E hQ => SB.mul ⟨?_, ?_, ?_⟩ (fun t' n => hQ _ _ kept_tok ⟨_, rfl⟩)
  · simp; omega
  · intro h1 _ h2
    have h3 : (1000 : Int) ≤ (2 ^ 63 - 1) / n := by
      rw [Int.le_ediv_iff_mul_le (by omega)]; omega
    omega
  · intro _ _
    unfold Builtin.Str.tooLong
    have h3 : a.length * n.toNat ≤ 1000 * 1000 := Nat.mul_le_mul ha (by omega)
    have : sizeLine = 16777216 := rfl
    exact decide_eq_false (by omega)
theorem bin_add_list {a b : List PyData} (hz : a.length + b.length ≤ 1000000) : BinR C k .Add (.list a) (.list b) (.list (a ++ b)) := by
  rintro X A s va vb O ⟨l, vs, rfl, hx0, hl, hr⟩ ⟨l2, vs2, rfl, hx2, hl2, hr2⟩ Q E hQ
  obtain ⟨⟨cls, dd, data, sl⟩, ho, hc, n, hd⟩ := id hl
  obtain ⟨⟨cls2, dd2, data2, sl2⟩, ho2, hc2, n2, hd2⟩ := id hl2
  simp only at hc hd hc2 hd2
  subst hc hd hc2 hd2
  have e1 := hr.length
  have e2 := hr2.length
  have hsz : vs.size + vs2.size ≤ sizeLine := sz_le (by simp at e1 e2; omega)
  refine concat_meets ⟨_, ho, rfl⟩ ⟨_, ho2, rfl⟩ noFill_list_add seq_list_add PySem.F.slot_list_add PySem.F.entry_list_add (PySem.F.args_list_add_2 _ _) (list_addW l l2 vs vs2 n n2 dd dd2 sl sl2 hsz) ⟨ho, ho2, ?_⟩
  refine hQ _ _ Kp.push ⟨_, vs ++ vs2, rfl, O.fresh, ⟨_, Heap.get?_push_size _ rfl, rfl, 0, rfl⟩, ?_⟩
  rw [Array.toList_append]
  exact (hr.append hr2).grow fun _ _ e => Heap.get?_push_of_some _ e

/-- a written list times an int -/
theorem ev_mul_list {es : List Expr} {r : Expr} {p pos : Pos} {ds : List PyData} {n : Int} (h : EvsR C k ρ es ds) (hr : EvR C k ρ r (.int n)) (hz : ds.length ≤ 1000 := by decide) (h0 : 0 ≤ n) (h1 : n ≤ 1) (hne : ds ≠ []) :
    EvR C k ρ (.BinOp (.List es p) .Mult r pos) (.list (if n = 1 then ds else [])) := by
  intro X A env s O S
  refine gv_of fun Q E hQ => ?_
  refine wpAny_BinOp (wpAny_List (h X A env s p O S _ E fun vs s1 k1 r1 => ⟨sz_le (by rw [r1.length]; omega), ?_⟩))
  have k1' : Kp s { s1 with heap := s1.heap.push { cls := .type "list", data := .seq vs.toArray } } := k1.tr Kp.push
  refine hr X A env _ (O.keeps k1') (S.grow k1'.grow) _ E fun vb s2 k2 r2 => ?_
  obtain ⟨u, rfl⟩ := r2
  have hl : s2.heap.get? s1.heap.objs.size = some { cls := .type "list", dict := none, data := .seq vs.toArray 0, slots := #[] } := k2.grow _ _ (Heap.get?_push_size _ rfl)
  have hlen := r1.length
  have hsz : vs.toArray.size * n.toNat ≤ 2 ^ 24 := by
    have : vs.toArray.size * n.toNat ≤ 1000 * 1 := Nat.mul_le_mul (by simp; omega) (by omega)
    omega
  refine wpAny_binaryOp_repeat_ref (T := "list") (U := "int") (by decide) ⟨_, hl, rfl⟩ (fun s' => typeIs_int s' n u) noFill_list_mul F.fills_int_mul F.slot_int_rmul repeat_list F.slot_int_index.lookup
    (call_meets F.slot_int_rmul (typeIs_int s2 n u) F.entry_int_rmul (F.args_int_rmul_2 _ _) (int___rmul___int_list n u _ vs.toArray 0)
      ⟨hl, rfl, ⟨_, hl, rfl⟩, call_meets F.slot_list_mul ⟨_, hl, rfl⟩ F.entry_list_mul (F.args_list_mul_2 _ _)
        (AutoListH.list___mul___list_int_3 _ vs.toArray 0 n u (by simp [Builtin.List.listFitsIndex]; omega) (by omega) (by simp [Builtin.List.listTooLong, sizeLine]; simp at hsz; omega))
        ⟨hl, ?_⟩⟩)
  refine hQ _ _ (keeps_tr k1'.1 (keeps_tr k2.1 kept_push)) ?_
  refine ⟨_, _, rfl, ((O.keeps k1').keeps k2).fresh, ⟨_, Heap.get?_push_size _ rfl, rfl, 0, rfl⟩, ?_⟩
  have hv : vs ≠ [] := by intro e; subst e; exact hne (List.length_eq_zero_iff.mp hlen.symm)
  have r1' : RdL X (s2.heap.push { cls := .type "list", data := .seq (List.foldl (fun x1 x2 => x1 ++ x2) #[] (List.replicate (if vs.toArray.isEmpty = true then 0 else n.toNat) vs.toArray)) }) ds vs :=
    r1.grow fun b o e => Heap.get?_push_of_some _ (k2.grow _ _ (Heap.get?_push_of_some _ e))
  have hemp : vs.toArray.isEmpty = false := by cases vs with | nil => exact absurd rfl hv | cons _ _ => rfl
  by_cases hn : n = 1
  · subst hn; simp [hemp] at r1' ⊢; exact r1'
  · have : n = 0 := by omega
    subst this; simp [hemp]; exact rfl

/- comparisons -/
theorem cmp_eq {a b : PyData} (ha : a.canLay0 = true) (hb : b.canLay0 = true) (hd : min a.depth b.depth ≤ 64) : CmpR C k .Eq a b (PyData.eqv a b) := by
  intro X A s va vb O ra rb Q E hQ
  obtain ⟨as, ra⟩ := ra.reads
  obtain ⟨bs, rb⟩ := rb.reads
  exact SeqAt.compareEq_reads ra rb ha hb (by have := O.units; omega) (hQ _ _ Kp.rfl' rfl)
theorem cmp_ne {a b : PyData} (ha : a.canLay0 = true) (hb : b.canLay0 = true) (hd : min a.depth b.depth ≤ 64) : CmpR C k .NotEq a b (!PyData.eqv a b) := by
  intro X A s va vb O ra rb Q E hQ
  obtain ⟨as, ra⟩ := ra.reads
  obtain ⟨bs, rb⟩ := rb.reads
  exact SeqAt.compareNe_reads ra rb ha hb (by have := O.units; omega) (hQ _ _ Kp.rfl' rfl)
theorem str_beq (x y : Str) : (x.cps.toList == y.cps.toList) = decide (x = y) := by
  by_cases h : x = y
  · subst h; simp
  · have : ¬ x.cps = y.cps := fun e => h (by obtain ⟨a⟩ := x; obtain ⟨b⟩ := y; exact congrArg Str.mk e)
    simp [h, this]
theorem cmp_eq_str {a b : Str} : CmpR C k .Eq (.str a) (.str b) (decide (a = b)) := by
  rintro X A s va vb O ⟨t, rfl⟩ ⟨u, rfl⟩ Q E hQ
  exact P.eq_str (hQ _ _ Kp.rfl' (by rw [str_beq]; exact rfl))
theorem cmp_ne_str {a b : Str} : CmpR C k .NotEq (.str a) (.str b) (!decide (a = b)) := by
  rintro X A s va vb O ⟨t, rfl⟩ ⟨u, rfl⟩ Q E hQ
  exact P.ne_str (hQ _ _ Kp.rfl' (by rw [bne, str_beq]; exact rfl))
theorem cmp_eq_int {a b : Int} : CmpR C k .Eq (.int a) (.int b) (decide (a = b)) := by
  rintro X A s va vb O ⟨t, rfl⟩ ⟨u, rfl⟩ Q E hQ
  exact P.eq_int (hQ _ _ Kp.rfl' (by rw [show (a == b) = decide (a = b) from rfl]; exact rfl))
theorem rdl_strs {X : Addr → Prop} {h : Heap} : ∀ {ys : List Str} {vs : List Value}, RdL X h (ys.map PyData.str) vs → StrsAre vs ys
  | [], _, r => by cases r; exact .nil
  | y :: ys, _, ⟨v, r, e, ⟨t, ev⟩, h2⟩ => by cases e; cases ev; exact .cons y t (rdl_strs h2)
theorem cmp_notin_strs {a : Str} {ys : List Str} : CmpR C k .NotIn (.str a) (.list (ys.map PyData.str)) (!(ys.any (· == a))) := by
  rintro X A s va vb O ⟨t, rfl⟩ ⟨l, vs, rfl, hx0, hl, hr⟩ Q E hQ
  obtain ⟨vs⟩ := vs
  exact notin_list_strs hl (rdl_strs hr) (hQ _ _ Kp.rfl' rfl)

/- truth of a value -/
theorem te_str {e : Expr} {x : Str} (h : EvR C k ρ e (.str x)) (hz : x.length ≤ 1000000) (he : ∀ env whole, isTrue e env whole = (do let v ← whole; standAt e.pos; holding [v] (truthy v)) := by intro _ _; rfl) : TestR C k ρ e (decide (x.length ≠ 0)) := by
  intro X A env s O S Q E hQ
  refine isTrue_plain (h X A env s O S _ E fun v s1 k1 r1 => ?_) (he _ _)
  obtain ⟨t, rfl⟩ := r1
  refine P.truthy_str (by omega) ?_
  have := hQ { s1 with toks := s1.toks + 1 + 1 } (k1.tr (Kp.tok (by omega)))
  rw [show (((x.length : Int)) != 0) = decide (x.length ≠ 0) by
    by_cases hx : x.length = 0
    · rw [hx]; rfl
    · have h1 : ((x.length : Int) != 0) = true := bne_iff_ne.mpr (by omega)
      rw [h1]; simp [hx]]
  exact this
theorem te_list {e : Expr} {xs : List PyData} (h : EvR C k ρ e (.list xs)) (hz : xs.length ≤ 1000000) (he : ∀ env whole, isTrue e env whole = (do let v ← whole; standAt e.pos; holding [v] (truthy v)) := by intro _ _; rfl) : TestR C k ρ e (!xs.isEmpty) := by
  intro X A env s O S Q E hQ
  refine isTrue_plain (h X A env s O S _ E fun v s1 k1 r1 => ?_) (he _ _)
  obtain ⟨l, vs, rfl, hx0, hl, hr⟩ := r1
  have e1 := hr.length
  refine wpAny_truthy_list hl (by simp at e1; omega) ?_
  have := hQ { s1 with toks := s1.toks + 1 + 1 } (k1.tr (Kp.tok (by omega)))
  rw [show vs.isEmpty = xs.isEmpty by
    cases xs with
    | nil => obtain ⟨vs⟩ := vs; cases vs with | nil => rfl | cons _ _ => simp at e1
    | cons _ _ => obtain ⟨vs⟩ := vs; cases vs with | nil => simp at e1 | cons _ _ => rfl]
  exact this
theorem te_bool {e : Expr} {b : Bool} (h : EvR C k ρ e (.bool b)) (he : ∀ env whole, isTrue e env whole = (do let v ← whole; standAt e.pos; holding [v] (truthy v)) := by intro _ _; rfl) : TestR C k ρ e b := by
  intro X A env s O S Q E hQ
  refine isTrue_plain (h X A env s O S _ E fun v s1 k1 r1 => ?_) (he _ _)
  cases r1
  exact wpAny_truthy_bool (hQ s1 k1)

/- items -/
theorem ev_item {v i : Expr} {pos : Pos} {xs : List PyData} {n : Int} {d : PyData} (hv : EvR C k ρ v (.list xs)) (hi : EvR C k ρ i (.int n)) (h0 : 0 ≤ n) (h1 : n < 1000000) (hx : xs[n.toNat]? = some d)
    (hs : ∀ l u, subscripted i false (.ref l) (.int n u) = operate [.ref l, .int n u] (getItem (.ref l) (.int n u)) := by intro _ _; with_unfolding_all rfl) : EvR C k ρ (.Subscript v i pos) d := by
  intro X A env s O S Q E hQ
  refine Subscript_ (hv X A env s O S _ E fun va s1 k1 r1 => hi X A env s1 (O.keeps k1) (S.grow k1.grow) _ E fun vb s2 k2 r2 => ?_)
  obtain ⟨u, rfl⟩ := r2
  obtain ⟨l, vs, rfl, hx0, hl, hr⟩ := r1.grow k2.grow
  obtain ⟨y, hy, ry⟩ := hr.get' hx
  exact tail_any hl.typeIs slot_list_getitem.lookup (wpAny_getItem_list hl h0 (by omega) (by simpa using hy) (hQ y s2 (k1.tr k2) ry)) (hs l u)
theorem ev_item_neg {v i : Expr} {pos : Pos} {xs : List PyData} {n : Int} {d : PyData} (hv : EvR C k ρ v (.list xs)) (hi : EvR C k ρ i (.int n)) (h0 : n < 0) (h1 : -1000000 ≤ n) (h2 : -(xs.length : Int) ≤ n) (hx : xs[(n + xs.length).toNat]? = some d)
    (hs : ∀ l u, subscripted i false (.ref l) (.int n u) = operate [.ref l, .int n u] (getItem (.ref l) (.int n u)) := by intro _ _; with_unfolding_all rfl) : EvR C k ρ (.Subscript v i pos) d := by
  intro X A env s O S Q E hQ
  refine Subscript_ (hv X A env s O S _ E fun va s1 k1 r1 => hi X A env s1 (O.keeps k1) (S.grow k1.grow) _ E fun vb s2 k2 r2 => ?_)
  obtain ⟨u, rfl⟩ := r2
  obtain ⟨l, vs, rfl, hx0, hl, hr⟩ := r1.grow k2.grow
  obtain ⟨y, hy, ry⟩ := hr.get' hx
  have e1 : vs.size = xs.length := by simpa using hr.length
  exact tail_any hl.typeIs slot_list_getitem.lookup (wpAny_getItem_list_neg hl h0 (by rw [e1]; exact h2) (by omega) (by rw [e1]; simpa using hy) (hQ y s2 (k1.tr k2) ry)) (hs l u)
theorem ev_item_tup {v i : Expr} {pos : Pos} {xs : List PyData} {n : Int} {d : PyData} (hv : EvR C k ρ v (.tuple xs)) (hi : EvR C k ρ i (.int n)) (h0 : 0 ≤ n) (h1 : n < 1000000) (hx : xs[n.toNat]? = some d)
    (hs : ∀ l u, subscripted i false (.ref l) (.int n u) = operate [.ref l, .int n u] (getItem (.ref l) (.int n u)) := by intro _ _; with_unfolding_all rfl) : EvR C k ρ (.Subscript v i pos) d := by
  intro X A env s O S Q E hQ
  refine Subscript_ (hv X A env s O S _ E fun va s1 k1 r1 => hi X A env s1 (O.keeps k1) (S.grow k1.grow) _ E fun vb s2 k2 r2 => ?_)
  obtain ⟨u, rfl⟩ := r2
  obtain ⟨l, vs, rfl, hx0, hl, hr⟩ := r1.grow k2.grow
  obtain ⟨y, hy, ry⟩ := hr.get' hx
  have hl' : IsTup s2.heap l vs := hl
  have hlt : n.toNat < vs.size := by have := (List.getElem?_eq_some_iff.mp hy).1; simpa using this
  exact tail_any hl'.typeIs slot_tuple_getitem.lookup (PyProof.Rows.getItem_tuple hl' (by omega) (by omega) (seqIndex_of h0 (by omega)) (by simpa using hy) (hQ y s2 (k1.tr k2) ry)) (hs l u)
end
end Mine
end
section
open PySem PySem.W PyProof.Rows
open Builtin Builtin.Str
set_option Elab.async false
set_option maxRecDepth 100000
namespace Mine

/-- a slice with bounds that are not below nought -/
noncomputable def cutL {α : Type} (a b : Option Nat) (xs : List α) : List α := (match b with | none => xs | some b => xs.take b).drop (a.getD 0)
noncomputable def cutS (a b : Option Nat) (x : Str) : Str := ⟨(cutL a b x.cps.toList).toArray⟩
noncomputable def natI : Option Nat → Option Int
  | none => none
  | some n => some (n : Int)

theorem mm_nat (n m : Nat) : max (0 : Int) (min (n : Int) (m : Int)) = ((min n m : Nat) : Int) := by omega
theorem cut_run {α : Type} (xs : Array α) (a b : Option Nat) : (sliceRange (match natI a with | none => 0 | some i => max 0 (min (if i < 0 then i + xs.size else i) (xs.size : Int))) (match natI b with | none => (xs.size : Int) | some i => max 0 (min (if i < 0 then i + xs.size else i) (xs.size : Int))) 1).filterMap (xs[·]?) = cutL a b xs.toList := by
  have key : ∀ (p q : Nat), (sliceRange (p : Int) (q : Int) 1).filterMap (xs[·]?) = (xs.toList.drop p).take (q - p) := fun p q => by rw [sliceRange_one, pick_run]
  have h1 : (match natI a with | none => (0 : Int) | some i => max 0 (min (if i < 0 then i + xs.size else i) (xs.size : Int))) = ((min (a.getD 0) xs.size : Nat) : Int) := by
    cases a with
    | none => simp [natI]
    | some n => simp only [natI, Option.getD_some]; rw [if_neg (by omega)]; exact mm_nat n xs.size
  have h2 : (match natI b with | none => (xs.size : Int) | some i => max 0 (min (if i < 0 then i + xs.size else i) (xs.size : Int))) = ((min (b.getD xs.size) xs.size : Nat) : Int) := by
    cases b with
    | none => simp [natI]
    | some n => simp only [natI, Option.getD_some]; rw [if_neg (by omega)]; exact mm_nat n xs.size
  rw [h1, h2, key]
  clear h1 h2 key
  have hl : xs.toList.length = xs.size := by simp
  generalize hp : a.getD 0 = p
  unfold cutL
  rw [hp]
  rw [← hl]
  generalize xs.toList = l
  clear hl hp
  apply List.ext_getElem?
  intro i
  rw [List.getElem?_take, List.getElem?_drop, List.getElem?_drop]
  cases b with
  | none =>
    simp only [Option.getD_none, Nat.min_self]
    by_cases hx : p ≤ l.length
    · rw [Nat.min_eq_left hx]
      split
      · rfl
      · rw [List.getElem?_eq_none (by omega)]
    · have e1 : min p l.length = l.length := Nat.min_eq_right (by omega)
      simp only [e1]
      rw [List.getElem?_eq_none (by omega), List.getElem?_eq_none (by omega)]
      split <;> rfl
  | some n =>
    simp only [Option.getD_some]
    rw [List.getElem?_take]
    by_cases hx : p ≤ l.length
    · simp only [Nat.min_eq_left hx]
      by_cases hi : p + i < l.length
      · by_cases hn : p + i < n
        · rw [if_pos hn, if_pos (by omega)]
        · rw [if_neg hn, if_neg (by omega)]
      · have : l[p + i]? = none := List.getElem?_eq_none (by omega)
        rw [this]; split <;> split <;> rfl
    · have e1 : min p l.length = l.length := Nat.min_eq_right (by omega)
      simp only [e1]
      rw [List.getElem?_eq_none (i := l.length + i) (by omega), List.getElem?_eq_none (i := p + i) (by omega)]
      split <;> split <;> rfl

theorem pick_cut (items : Array Value) (a b : Option Nat) : slicePick items (natI a) (natI b) none = (cutL a b items.toList).toArray := by
  unfold slicePick
  rw [← cut_run items a b]
  rfl
theorem slice_cut (x : Str) (a b : Option Nat) : Txt.slice x (natI a) (natI b) = cutS a b x := by
  have e : (strSliceIndices (natI a) (natI b) 1 x.length).filterMap (x.cps[·]?) = cutL a b x.cps.toList := by
    rw [← cut_run x.cps a b]
    unfold strSliceIndices
    rfl
  unfold Txt.slice cutS
  split
  · rename_i h
    simp at h
    have hl : (cutL a b x.cps.toList).length = x.cps.toList.length := by
      rw [← e]
      have h1 : (strSliceIndices (natI a) (natI b) 1 x.length).filterMap (x.cps[·]?) = (strSliceIndices (natI a) (natI b) 1 x.length).filterMap (fun i => x.cps[i]?) := rfl
      have : ∀ i ∈ strSliceIndices (natI a) (natI b) 1 x.length, (x.cps[i]?).isSome = true := by
        intro i hi
        have hlt : i < x.length := by
          unfold strSliceIndices at hi
          have h1 : ∀ (p q : Int), 0 ≤ p → q ≤ x.length → i ∈ sliceRange p q 1 → i < x.length := by
            intro p q hp hq hm
            obtain ⟨p, rfl⟩ := Int.eq_ofNat_of_zero_le hp
            by_cases hq0 : 0 ≤ q
            · obtain ⟨q, rfl⟩ := Int.eq_ofNat_of_zero_le hq0
              have hm' : i ∈ sliceRange (p : Int) (q : Int) 1 := hm
              rw [sliceRange_one p q] at hm'
              have hm := hm'
              simp at hm
              obtain ⟨y, hy, rfl⟩ := hm
              omega
            · unfold sliceRange at hm
              simp [show ¬ ((p : Int) < q) by omega] at hm
          refine h1 _ _ ?_ ?_ hi
          · cases a with
            | none => simp [natI]
            | some n => simp only [natI]; simp; omega
          · cases b with
            | none => simp [natI]
            | some n => simp only [natI]; simp; omega
        simp [Str.length] at hlt
        simp [hlt]
      have h2 : ∀ (l : List Nat), (∀ i ∈ l, (x.cps[i]?).isSome = true) → (l.filterMap (x.cps[·]?)).length = l.length := by
        intro l
        induction l with
        | nil => intro _; rfl
        | cons y r ih =>
          intro hh
          obtain ⟨c, hc⟩ := Option.isSome_iff_exists.mp (hh y (by simp))
          rw [List.filterMap_cons, hc]
          simp [ih fun i hi => hh i (by simp [hi])]
      rw [h2 _ this, h]
      simp [Str.length]
    have h3 : cutL a b x.cps.toList = x.cps.toList := by
      have hsub : (cutL a b x.cps.toList).Sublist x.cps.toList := by
        unfold cutL
        refine (List.drop_sublist _ _).trans ?_
        cases b with
        | none => exact List.Sublist.refl _
        | some n => exact List.take_sublist _ _
      exact hsub.eq_of_length hl
    rw [h3]
  · rw [e]

section
variable {C : Cx} {k : Nat} {ρ : Rho}

noncomputable def PartR (C : Cx) (k : Nat) (ρ : Rho) : Option Expr → Option Nat → Prop
  | none, none => True
  | some e, some n => EvR C k ρ e (.int (n : Int))
  | _, _ => False

theorem part_go {lo : Option Expr} {a : Option Nat} (h : PartR C k ρ lo a) {X : Addr → Prop} {A : Around} {env : Env} {s : Shared} (O : Ok C X k A s) (S : Sees X env s.heap ρ) {Q : Value → Shared → Prop} {E : Value → Shared → Prop}
    (hQ : ∀ v s' (l : Option (Int × Tok)), Kp s s' → IsPart v (natI a) → v = partValue l → l.map (·.1) = natI a → Q v s') : wpAny C.M A (evalPart lo env) Q E s := by
  cases lo with
  | none => cases a with
    | none => exact evalPart_none_step (hQ _ _ none Kp.rfl' .none rfl rfl)
    | some n => exact h.elim
  | some e => cases a with
    | none => exact h.elim
    | some n =>
      refine evalPart_some_step (h X A env s O S Q E fun v s' k' r => ?_)
      obtain ⟨t, rfl⟩ := r
      exact hQ _ _ (some ((n : Int), t)) k' (.int _ _) rfl rfl

theorem ev_slice_list {v : Expr} {lo hi : Option Expr} {p pos : Pos} {xs : List PyData} {a b : Option Nat} (hv : EvR C k ρ v (.list xs)) (hlo : PartR C k ρ lo a) (hhi : PartR C k ρ hi b) (hz : xs.length ≤ 1000000)
    (ht : ∀ o r, letTemporaryGo v o r = pure () := by intro _ _; rfl) : EvR C k ρ (.Subscript v (.Slice lo hi none p) pos) (.list (cutL a b xs)) := by
  intro X A env s O S Q E hQ
  refine wpAny_Subscript_list_slice (hv X A env s O S _ E fun va s1 k1 r1 => part_go hlo (O.keeps k1) (S.grow k1.grow) fun vl s2 _ k2 p2 _ _ => part_go hhi ((O.keeps k1).keeps k2) ((S.grow k1.grow).grow k2.grow) fun vu s3 _ k3 p3 _ _ => ?_) ht
  obtain ⟨l, vs, rfl, hx0, hl, hr⟩ := r1.grow (k2.tr k3).grow
  refine ⟨l, vs, _, _, rfl, hl, sz_le (by have := hr.length; simp at this; omega), p2, p3, ?_⟩
  rw [pick_cut]
  refine hQ _ _ ?_ ⟨_, (cutL a b vs.toList).toArray, rfl, ?_, ⟨{ cls := .type "list", data := .seq (cutL a b vs.toList).toArray }, ?_, rfl, 0, rfl⟩, ?_⟩
  · refine (k1.tr (k2.tr k3)).tr ⟨⟨_, s3.toks, rfl, fun b o e => Heap.get?_push_of_some _ (Heap.get?_push_of_some _ e)⟩, Nat.le_refl _⟩
  · have o3 : Ok C X k A { s3 with heap := s3.heap.push { cls := .type "slice", data := .fields #[vl, vu, .none] } } := (((O.keeps k1).keeps k2).keeps k3).keeps Kp.push
    have := o3.fresh
    rw [Heap.size_push] at this
    exact this
  · have : s3.heap.objs.size + 1 = (s3.heap.push { cls := .type "slice", data := .fields #[vl, vu, .none] }).objs.size := by rw [Heap.size_push]
    rw [this]; exact Heap.get?_push_size _ rfl
  · have hc : RdL X s3.heap (cutL a b xs) (cutL a b vs.toList) := by
      unfold cutL
      refine RdL.drop _ ?_
      cases b with
      | none => exact hr
      | some n => exact RdL.take n hr
    simp only []
    exact hc.grow fun b o e => Heap.get?_push_of_some _ (Heap.get?_push_of_some _ e)

theorem ev_slice_str {v : Expr} {lo hi : Option Expr} {p pos : Pos} {x : Str} {a b : Option Nat} (hv : EvR C k ρ v (.str x)) (hlo : PartR C k ρ lo a) (hhi : PartR C k ρ hi b) (hz : x.length ≤ 1000000)
    (ht : ∀ o r, letTemporaryGo v o r = pure () := by intro _ _; rfl) : EvR C k ρ (.Subscript v (.Slice lo hi none p) pos) (.str (cutS a b x)) := by
  intro X A env s O S
  refine gv_of fun Q E hQ => ?_
  refine wpAny_Subscript_str_slice (hv X A env s O S _ E fun va s1 k1 r1 => part_go hlo (O.keeps k1) (S.grow k1.grow) fun vl s2 l k2 _ e2 m2 => part_go hhi ((O.keeps k1).keeps k2) ((S.grow k1.grow).grow k2.grow) fun vu s3 u k3 _ e3 m3 => ?_) ht
  obtain ⟨t, rfl⟩ := r1
  refine ⟨x, t, l, u, rfl, e2, e3, ?_⟩
  have hw : (sliceMade x t l u none) = (if ((1 : Int) == 1 && (strSliceIndices (l.map (·.1)) (u.map (·.1)) 1 x.length).length == x.length) = true then Made.val (.str x t) else Made.str ⟨((strSliceIndices (l.map (·.1)) (u.map (·.1)) 1 x.length).filterMap (x.cps[·]?)).toArray⟩) := rfl
  rw [hw, m2, m3]
  have hs : ∀ t' k', Q (.str (Txt.slice x (natI a) (natI b)) t') { s3 with heap := s3.heap.push { cls := .type "slice", data := .fields #[vl, vu, .none] }, toks := k' } := fun t' k' =>
    hQ _ _ (keeps_tr (k1.tr (k2.tr k3)).1 kept_push) (by rw [slice_cut]; exact ⟨_, rfl⟩)
  exact post_val_or_str ⟨Nat.le_trans (Txt.slice_le x _ _) (sz_le hz), fun t' k' => hs t' k'⟩
end
end Mine
end
section
open PySem PySem.W PyProof.Rows
open Builtin Builtin.Str
set_option Elab.async false
set_option maxRecDepth 100000
namespace Mine
section
variable {C : Cx} {k : Nat} {ρ : Rho}

/- methods of a str -/
noncomputable def M0 (C : Cx) (k : Nat) (name : Str) (x : Str) (r : PyData) : Prop :=
  ∀ X A s t pos (Q : Value → Shared → Prop) (E : Value → Shared → Prop), Ok C X k A s → (∀ v s', PySem.Keeps s s' → Rd X s'.heap r v → Q v s') → MethodOnS C.prog C.w A E name (.str x t) pos [] Q s
noncomputable def M1 (C : Cx) (k : Nat) (name : Str) (x : Str) (d r : PyData) : Prop :=
  ∀ X A s t pos a (Q : Value → Shared → Prop) (E : Value → Shared → Prop), Ok C X k A s → Gv C X A a s d → (∀ v s', PySem.Keeps s s' → Rd X s'.heap r v → Q v s') → MethodOnS C.prog C.w A E name (.str x t) pos [(false, a)] Q s

theorem ev_m0 {o : Expr} {name : Str} {apos pos : Pos} {x : Str} {r : PyData} (ho : EvR C k ρ o (.str x)) (hm : M0 C k name x r) (hbase : ∀ env, attributeBase o name env (eval o env) = eval o env := by intro _; rfl) (hline : (apos.endLine == pos.line) = true := by rfl) :
    EvR C k ρ (.Call (.Attribute o name apos) [] [] pos) r := by
  intro X A env s O S
  refine gv_of fun Q E hQ => Call_method0 (hbase env) hline (ho X A env s O S _ E fun v s1 k1 r1 => ?_)
  obtain ⟨t, rfl⟩ := r1
  exact hm X A s1 t pos Q E (O.keeps k1) fun v s' k' r' => hQ v s' (keeps_tr k1.1 k') r'
theorem ev_m1 {o e : Expr} {name : Str} {apos pos : Pos} {x : Str} {d r : PyData} (ho : EvR C k ρ o (.str x)) (he : EvR C k ρ e d) (hm : M1 C k name x d r) (hbase : ∀ env, attributeBase o name env (eval o env) = eval o env := by intro _; rfl)
    (hs : ∀ env, starEach [e] env = [(false, eval e env)] := by intro _; rfl) (hline : (apos.endLine == pos.line) = true := by rfl) :
    EvR C k ρ (.Call (.Attribute o name apos) [e] [] pos) r := by
  intro X A env s O S
  refine gv_of fun Q E hQ => Call_method1 (hbase env) (hs env) hline (ho X A env s O S _ E fun v s1 k1 r1 => ?_)
  obtain ⟨t, rfl⟩ := r1
  exact hm X A s1 t pos _ Q E (O.keeps k1) (he X A env s1 (O.keeps k1) (S.grow k1.grow)) fun v s' k' r' => hQ v s' (keeps_tr k1.1 k') r'

theorem fit_tl {n : Nat} (h : n ≤ 1000000) : tooLong n = false := by
  unfold tooLong; have : sizeLine = 16777216 := rfl; exact decide_eq_false (by omega)
theorem m_upper {x : Str} (hz : (Txt.upper x).length ≤ 1000000) : M0 C k "upper" x (.str (Txt.upper x)) := by
  intro X A s t pos Q E O hQ
  exact SB.upper (fit_tl hz) (hQ _ _ kept_tok ⟨_, rfl⟩)
theorem m_startswith {x y : Str} : M1 C k "startswith" x (.str y) (.bool (Txt.startswith x y)) := by
  intro X A s t pos a Q E O ha hQ
  refine SB.startswith (ha _ E fun v s1 k1 r1 => ?_)
  obtain ⟨u, rfl⟩ := r1
  exact ⟨y, u, rfl, hQ _ _ k1.1 rfl⟩
theorem m_endswith {x y : Str} : M1 C k "endswith" x (.str y) (.bool (Txt.endswith x y)) := by
  intro X A s t pos a Q E O ha hQ
  refine SB.endswith (ha _ E fun v s1 k1 r1 => ?_)
  obtain ⟨u, rfl⟩ := r1
  exact ⟨y, u, rfl, hQ _ _ k1.1 rfl⟩
theorem m_rfind {x y : Str} : M1 C k "rfind" x (.str y) (.int (Txt.rfind x y)) := by
  intro X A s t pos a Q E O ha hQ
  refine SB.rfind (ha _ E fun v s1 k1 r1 => ?_)
  obtain ⟨u, rfl⟩ := r1
  exact ⟨y, u, rfl, hQ _ _ (keeps_tr k1.1 kept_tok) ⟨_, rfl⟩⟩
theorem m_rstrip {x y : Str} (hz : x.length ≤ 1000000) : M1 C k "rstrip" x (.str y) (.str (Txt.rstripChars x y)) := by
  intro X A s t pos a Q E O ha hQ
  refine SB.rstripChars (ha _ E fun v s1 k1 r1 => ?_) (sz_le hz)
  obtain ⟨u, rfl⟩ := r1
  exact ⟨y, u, rfl, fun t' k' => hQ _ _ (keeps_tr k1.1 kept_tok) ⟨_, rfl⟩⟩
theorem strVals_rd {X : Addr → Prop} {h : Heap} : ∀ (l : List (Str × Tok)), RdL X h ((l.map (·.1)).map PyData.str) (strValues l)
  | [] => rfl
  | (x, t) :: r => ⟨.str x t, strValues r, rfl, ⟨t, rfl⟩, strVals_rd r⟩
theorem m_split {x y : Str} (hz : x.length ≤ 1000000) (hy : (y.length == 0) = false) (hn : (partsBetween x (occurrences x y 0 x.length (x.length + 1)) y.length).length ≤ 2000000) : M1 C k "split" x (.str y) (.list ((Txt.split x y).map PyData.str)) := by
  intro X A s t pos a Q E O ha hQ
  have fin : ∀ (s1 : Shared) (l : List (Str × Tok)) (n : Nat), Kp s s1 → l.map (·.1) = Txt.split x y → Q (.ref s1.heap.objs.size) { s1 with heap := s1.heap.push { cls := .type "list", data := .seq (strValues l).toArray }, toks := n } := fun s1 l n k1 hl =>
    hQ _ _ (keeps_tr k1.1 kept_push) ⟨_, _, rfl, (O.keeps k1).fresh, ⟨_, Heap.get?_push_size _ rfl, rfl, 0, rfl⟩, by rw [← hl]; exact strVals_rd l⟩
  refine ⟨"str", _, F.plainAttrs_str, F.slot_str_split, F.type_str_split, typeIs_str _ _ _, (fun _ e => nomatch e), method1_meets F.slot_str_split F.entry_str_split (ha _ E fun v s1 k1 r1 => ?_)⟩
  obtain ⟨u, rfl⟩ := r1
  refine ⟨typeIs_str _ _ _, F.args_str_split_2 _ _, ?_⟩
  by_cases h1 : (decide (x.length < y.length) || decide (strKind x < strKind y)) = true
  · exact ⟨_, meets_str_split_cannot_occur x y t u h1, fin s1 [(x, t)] s1.toks k1 (if_pos h1).symm⟩
  · have h1' : (decide (x.length < y.length) || decide (strKind x < strKind y)) = false := eq_false_of_ne_true h1
    by_cases hf : (occurrences x y 0 x.length (x.length + 1)).isEmpty = true
    · exact ⟨_, meets_str_split_not_found x y t u h1' hy hf, fin s1 [(x, t)] s1.toks k1 ((if_neg h1).trans (if_pos hf)).symm⟩
    · refine ⟨_, meets_str_split_sep x y t u h1' hy (eq_false_of_ne_true hf) (sz_le hz) (by have : sizeLine = 16777216 := rfl; omega), ?_⟩
      have q := fin s1 (numbered s1.toks (partsBetween x (occurrences x y 0 x.length (x.length + 1)) y.length))
      have e : (numbered s1.toks (partsBetween x (occurrences x y 0 x.length (x.length + 1)) y.length)).map (·.1) = Txt.split x y := (numbered_texts s1.toks (partsBetween x (occurrences x y 0 x.length (x.length + 1)) y.length)).trans ((if_neg h1).trans (if_neg hf)).symm
      rw [← strsFrom_eq] at q
      exact q _ k1 e
theorem rdl_vals {X : Addr → Prop} {h : Heap} : ∀ {ys : List Str} {vs : List Value}, RdL X h (ys.map PyData.str) vs → ∃ l : List (Str × Tok), vs = strValues l ∧ l.map (·.1) = ys
  | [], _, r => by cases r; exact ⟨[], rfl, rfl⟩
  | y :: ys, _, ⟨v, r, e, ⟨t, ev⟩, h2⟩ => by
    obtain ⟨l, e1, e2⟩ := rdl_vals h2
    cases e; cases ev; subst e1
    exact ⟨(y, t) :: l, rfl, by simp [e2]⟩
theorem m_join {x : Str} {ys : List Str} (hj : JoinOk x ys = true) : M1 C k "join" x (.list (ys.map PyData.str)) (.str (Txt.join x ys)) := by
  intro X A s t pos a Q E O ha hQ
  refine SB.join (ha _ E fun v s1 k1 r1 => ?_)
  obtain ⟨D, vs, rfl, hx0, hl, hr⟩ := r1
  obtain ⟨l, e1, e2⟩ := rdl_vals hr
  refine ⟨D, l, rfl, by rw [← e1]; exact hl, ys, e2, hj, fun t' k' => hQ _ _ (keeps_tr k1.1 kept_tok) ⟨_, rfl⟩⟩

/- a global name of the interpreter's -/
theorem ev_builtin {x : Str} {pos : Pos} {v : Value} {X : Addr → Prop} {A : Around} {env : Env} {s : Shared} {Q : Value → Shared → Prop} {E : Value → Shared → Prop} (O : Ok C X k A s) (S : Sees X env s.heap ρ) (hx : (x, Bd.glo) ∈ ρ) (hm : C.mg x = none)
    (hb : bootBuiltins x = some v) (hn : x ≠ "__name__") (h : Q v s) (hd : (x == ("__debug__" : Str)) = false := by decide) : wpAny C.M A (eval (.Name x pos) env) Q E s :=
  Calls.Name_function_global S.kind (S.names _ hx) (Calls.loadGlobal_builtin (mg := C.mg) (mb := C.mb) (by rw [S.gl]; exact C.g.keeps O.base) hm (by rw [S.bl]; exact C.b.keeps O.base) ((C.bi x hn).trans hb) h) hd

theorem ev_len {np pos : Pos} {e : Expr} {xs : List PyData} (hx : (("len" : Str), Bd.glo) ∈ ρ) (hm : C.mg "len" = none) (he : EvR C k ρ e (.list xs)) (hz : xs.length ≤ 1000000) (hs : ∀ env, starEach [e] env = [(false, eval e env)] := by intro _; rfl) :
    EvR C k ρ (.Call (.Name "len" np) [e] [] pos) (.int xs.length) := by
  intro X A env s O S Q E hQ
  refine Call_name1 (hs env) (ev_builtin (v := .builtin "len") O S hx hm (by decide +kernel) (by decide) (PySem.callWith_builtin1 ?_))
  refine he X A env s O S _ E fun v s1 k1 r1 => ?_
  obtain ⟨l, vs, rfl, hx0, hl, hr⟩ := r1
  have e1 : vs.size = xs.length := by simpa using hr.length
  refine Calls.call_len_list hl (by omega) ?_
  rw [e1]
  exact hQ _ _ (k1.tr (Kp.tok (by omega))) ⟨_, rfl⟩
theorem ev_len_str {np pos : Pos} {e : Expr} {x : Str} (hx : (("len" : Str), Bd.glo) ∈ ρ) (hm : C.mg "len" = none) (he : EvR C k ρ e (.str x)) (hz : x.length ≤ 1000000) (hs : ∀ env, starEach [e] env = [(false, eval e env)] := by intro _; rfl) :
    EvR C k ρ (.Call (.Name "len" np) [e] [] pos) (.int x.length) := by
  intro X A env s O S Q E hQ
  refine Call_name1 (hs env) (ev_builtin (v := .builtin "len") O S hx hm (by decide +kernel) (by decide) (PySem.callWith_builtin1 ?_))
  refine he X A env s O S _ E fun v s1 k1 r1 => ?_
  obtain ⟨t, rfl⟩ := r1
  exact P.len_str (by omega) (hQ _ _ (k1.tr (Kp.tok (by omega))) ⟨_, rfl⟩)

/- the text's own defs -/
/-- a call of the def called name on data ds gives r -/
noncomputable def FnR (C : Cx) (k : Nat) (name : Str) (ds : List PyData) (r : PyData) : Prop :=
  ∃ a o fd, C.mg name = some (.ref a) ∧ C.hb.get? a = some o ∧ o.data = .func fd ∧ ∀ X A s vs, Ok C X k A s → RdL X s.heap ds vs → Gv C X A (call (.ref a) vs) s r
theorem FnR.more {name : Str} {ds : List PyData} {r : PyData} {k' : Nat} (h : FnR C k' name ds r) (hk : k' ≤ k) : FnR C k name ds r := by
  obtain ⟨a, o, fd, h1, h2, h3, h4⟩ := h
  exact ⟨a, o, fd, h1, h2, h3, fun X A s vs O R => h4 X A s vs (O.less hk) R⟩

theorem ev_call {name : Str} {np pos : Pos} {e : Expr} {es : List Expr} {ds : List PyData} {r : PyData} (hx : (name, Bd.glo) ∈ ρ) (hes : EvsR C k ρ (e :: es) ds) (hf : FnR C k name ds r) (hd : (name == ("__debug__" : Str)) = false := by decide)
    (he : ∀ env, starEach (e :: es) env = (false, eval e env) :: starEach es env := by intro _; rfl) : EvR C k ρ (.Call (.Name name np) (e :: es) [] pos) r := by
  intro X A env s O S Q E hQ
  obtain ⟨a, o, fd, h1, h2, h3, h4⟩ := hf
  refine Call_ (Calls.Name_function_global S.kind (S.names _ hx) (Calls.loadGlobal_global (mg := C.mg) (by rw [S.gl]; exact C.g.keeps O.base) h1 ?_) hd)
  refine callWith_def h3 (hes X A env s pos O S _ E fun vs s1 k1 r1 => ⟨(O.keeps k1).base _ _ h2, ?_⟩) (he env)
  exact h4 X A s1 vs (O.keeps k1) r1 Q E fun v s2 k2 r2 => hQ v s2 (k1.tr k2) r2
end

/- statements -/
noncomputable def MyA (env : Env) (b : Addr) : Prop := b = env.locals ∨ ∃ n, (n, b) ∈ env.cells
/-- all but the frame's own dict and cells stays -/
noncomputable def KpB (env : Env) (s s' : Shared) : Prop := ∃ h' tk, s' = { s with heap := h', toks := tk } ∧ ∀ b o, ¬ MyA env b → s.heap.get? b = some o → h'.get? b = some o
theorem KpB.rfl' {env : Env} {s : Shared} : KpB env s s := ⟨s.heap, s.toks, rfl, fun _ _ _ e => e⟩
theorem KpB.tr {env : Env} {s s' s'' : Shared} (k : KpB env s s') (k' : KpB env s' s'') : KpB env s s'' := by
  obtain ⟨h', tk, rfl, g⟩ := k
  obtain ⟨h'', tk', rfl, g'⟩ := k'
  exact ⟨h'', tk', rfl, fun b o n e => g' b o n (g b o n e)⟩
theorem Kp.b {env : Env} {s s' : Shared} (k : Kp s s') : KpB env s s' := by obtain ⟨⟨h', tk, rfl, g⟩, _⟩ := k; exact ⟨h', tk, rfl, fun b o _ e => g b o e⟩
theorem kept_b {env : Env} {s s' : Shared} (k : PySem.Keeps s s') : KpB env s s' := by obtain ⟨h', tk, rfl, g⟩ := k; exact ⟨h', tk, rfl, fun b o _ e => g b o e⟩

structure Own (C : Cx) (env : Env) (h : Heap) : Prop where
  ns : ∃ m, h.Ns env.locals m
  cells : ∀ n c, (n, c) ∈ env.cells → ∃ v, h.IsCell c v
  lo : C.hb.get? env.locals = none
  clo : ∀ n c, (n, c) ∈ env.cells → C.hb.get? c = none
  apart : env.cells.Pairwise fun x y => x.2 ≠ y.2
theorem Own.grow {C : Cx} {env : Env} {h h' : Heap} (o : Own C env h) (g : Grow h h') : Own C env h' :=
  ⟨let ⟨m, x⟩ := o.ns; ⟨m, x.keeps g⟩, fun n c hm => let ⟨v, x⟩ := o.cells n c hm; ⟨v, x.keeps g⟩, o.lo, o.clo, o.apart⟩
theorem Own.notMy {C : Cx} {env : Env} {h : Heap} (w : Own C env h) {b : Addr} {o : Obj} {vs : Array Value} {n : Nat} (e : h.get? b = some o) (hd : o.data = .seq vs n) : ¬ MyA env b := by
  rintro (rfl | ⟨n', hm⟩)
  · obtain ⟨m, o', es, ep, ho, hd', _⟩ := w.ns
    rw [e] at ho; cases ho; rw [hd] at hd'; cases hd'
  · obtain ⟨v, o', ho, hd'⟩ := w.cells _ _ hm
    rw [e] at ho; cases ho; rw [hd] at hd'; cases hd'
theorem Own.notBase {C : Cx} {env : Env} {h : Heap} (w : Own C env h) {b : Addr} {o : Obj} (e : C.hb.get? b = some o) : ¬ MyA env b := by
  rintro (rfl | ⟨n', hm⟩)
  · rw [w.lo] at e; cases e
  · rw [w.clo _ _ hm] at e; cases e
theorem Rd.b {C : Cx} {X : Addr → Prop} {env : Env} {s s' : Shared} {d : PyData} {v : Value} (w : Own C env s.heap) (k : KpB env s s') (r : Rd X s.heap d v) : Rd X s'.heap d v := by
  obtain ⟨h', tk, rfl, g⟩ := k
  exact Rd.mono (fun b o vs n _ hd e => g b o (w.notMy e hd) e) d v r
theorem RdL.b {C : Cx} {X : Addr → Prop} {env : Env} {s s' : Shared} {d : List PyData} {v : List Value} (w : Own C env s.heap) (k : KpB env s s') (r : RdL X s.heap d v) : RdL X s'.heap d v := by
  obtain ⟨h', tk, rfl, g⟩ := k
  exact RdL.mono (fun b o vs n _ hd e => g b o (w.notMy e hd) e) d v r
theorem Ok.b {C : Cx} {X : Addr → Prop} {env : Env} {k : Nat} {A : Around} {s s' : Shared} (o : Ok C X k A s) (w : Own C env s.heap) (kb : KpB env s s') (w' : Own C env s'.heap) : Ok C X k A s' := by
  obtain ⟨h', tk, rfl, g⟩ := kb
  refine ⟨o.hd, o.dp, o.un, fun b x e => g b x (w.notBase e) (o.base b x e), fun b hb => ?_⟩
  obtain ⟨x, e⟩ := o.xb b hb
  by_cases hm : MyA env b
  · rcases hm with rfl | ⟨n, hm⟩
    · obtain ⟨m, o', es, ep, ho, _⟩ := w'.ns; exact ⟨o', ho⟩
    · obtain ⟨v, o', ho, _⟩ := w'.cells n b hm; exact ⟨o', ho⟩
  · exact ⟨x, g b x hm e⟩

inductive Out where
  | next (ρ : Rho)
  | ret (d : PyData)
  | brk (ρ : Rho)
  | cnt (ρ : Rho)
noncomputable def Ends (X : Addr → Prop) (env : Env) (o : Out) (fl : Flow) (s' : Shared) : Prop := match o with
  | .next ρ => fl = .next ∧ Sees X env s'.heap ρ
  | .ret d => ∃ v, fl = .ret v ∧ Rd X s'.heap d v
  | .brk ρ => fl = .brk ∧ Sees X env s'.heap ρ
  | .cnt ρ => fl = .cont ∧ Sees X env s'.heap ρ

noncomputable def StR (C : Cx) (k : Nat) (ρ : Rho) (st : Stmt) (o : Out) : Prop :=
  ∀ X A env s, Ok C X k A s → Own C env s.heap → Sees X env s.heap ρ → ∀ (Q : Flow → Shared → Prop) (E : Value → Shared → Prop), (∀ fl s', KpB env s s' → Own C env s'.heap → Ends X env o fl s' → Q fl s') → wpAny C.M A (exec st env) Q E s
noncomputable def ExR (C : Cx) (k : Nat) (ρ : Rho) (ss : List Stmt) (o : Out) : Prop :=
  ∀ X A env s, Ok C X k A s → Own C env s.heap → Sees X env s.heap ρ → ∀ (Q : Flow → Shared → Prop) (E : Value → Shared → Prop), (∀ fl s', KpB env s s' → Own C env s'.heap → Ends X env o fl s' → Q fl s') → wpAny C.M A (execs ss env) Q E s

section
variable {C : Cx} {k : Nat} {ρ : Rho}
theorem ex_nil : ExR C k ρ [] (.next ρ) := fun _ _ _ s _ w S _ _ hQ => wpAny_execs_nil (hQ _ s KpB.rfl' w ⟨rfl, S⟩)
theorem ex_next {st : Stmt} {r : List Stmt} {ρ' : Rho} {o : Out} (h : StR C k ρ st (.next ρ')) (hr : ExR C k ρ' r o) : ExR C k ρ (st :: r) o := by
  intro X A env s O w S Q E hQ
  refine wpAny_execs_cons (h X A env s O w S _ E fun fl s1 k1 w1 e1 => ?_)
  obtain ⟨rfl, S1⟩ := e1
  exact hr X A env s1 (O.b w k1 w1) w1 S1 Q E fun fl s2 k2 w2 e2 => hQ fl s2 (k1.tr k2) w2 e2
theorem ex_ret {st : Stmt} {r : List Stmt} {d : PyData} (h : StR C k ρ st (.ret d)) : ExR C k ρ (st :: r) (.ret d) := by
  intro X A env s O w S Q E hQ
  refine wpAny_execs_cons (h X A env s O w S _ E fun fl s1 k1 w1 e1 => ?_)
  obtain ⟨v, rfl, r1⟩ := id e1
  exact hQ _ s1 k1 w1 e1
theorem ex_brk {st : Stmt} {r : List Stmt} {ρ' : Rho} (h : StR C k ρ st (.brk ρ')) : ExR C k ρ (st :: r) (.brk ρ') := by
  intro X A env s O w S Q E hQ
  refine wpAny_execs_cons (h X A env s O w S _ E fun fl s1 k1 w1 e1 => ?_)
  obtain ⟨rfl, S1⟩ := id e1
  exact hQ _ s1 k1 w1 e1
theorem ex_cnt {st : Stmt} {r : List Stmt} {ρ' : Rho} (h : StR C k ρ st (.cnt ρ')) : ExR C k ρ (st :: r) (.cnt ρ') := by
  intro X A env s O w S Q E hQ
  refine wpAny_execs_cons (h X A env s O w S _ E fun fl s1 k1 w1 e1 => ?_)
  obtain ⟨rfl, S1⟩ := id e1
  exact hQ _ s1 k1 w1 e1
theorem ex_one {st : Stmt} {ρ' : Rho} (h : StR C k ρ st (.next ρ')) : ExR C k ρ [st] (.next ρ') := ex_next h ex_nil
theorem ex_sub {ss : List Stmt} {ρ' : Rho} {o : Out} (h : ExR C k ρ' ss o) (hs : ∀ p ∈ ρ', p ∈ ρ) : ExR C k ρ ss o := fun X A env s O w S Q E hQ => h X A env s O w (S.sub hs) Q E hQ
theorem ex_weak {ss : List Stmt} {ρ' ρ'' : Rho} (h : ExR C k ρ ss (.next ρ')) (hs : ∀ p ∈ ρ'', p ∈ ρ') : ExR C k ρ ss (.next ρ'') := fun X A env s O w S Q E hQ =>
  h X A env s O w S Q E fun fl s' k' w' e => hQ fl s' k' w' ⟨e.1, e.2.sub hs⟩

theorem st_return {e : Expr} {pos : Pos} {d : PyData} (h : EvR C k ρ e d) : StR C k ρ (.Return (some e) pos) (.ret d) := by
  intro X A env s O w S Q E hQ
  exact wpAny_Return_some (h X A env s O S _ E fun v s1 k1 r1 => hQ _ s1 k1.b (w.grow k1.grow) ⟨v, rfl, r1⟩)
theorem st_cont {pos : Pos} : StR C k ρ (.Continue pos) (.cnt ρ) := by
  intro X A env s O w S Q E hQ
  show wpAny C.M A (do standAt pos; pure .cont) Q E s
  exact wpAny_bind (wpAny_standAt (wpAny_pure (hQ _ s KpB.rfl' w ⟨rfl, S⟩)))
theorem st_break {pos : Pos} : StR C k ρ (.Break pos) (.brk ρ) := by
  intro X A env s O w S Q E hQ
  show wpAny C.M A (do standAt pos; pure .brk) Q E s
  exact wpAny_bind (wpAny_standAt (wpAny_pure (hQ _ s KpB.rfl' w ⟨rfl, S⟩)))
theorem st_if_t {t : Expr} {b e : List Stmt} {pos : Pos} {o : Out} (ht : TestR C k ρ t true) (h : ExR C k ρ b o) : StR C k ρ (.If t b e pos) o := by
  intro X A env s O w S Q E hQ
  exact wpAny_If (ht X A env s O S _ E fun s1 k1 => by rw [if_pos rfl]; exact h X A env s1 (O.keeps k1) (w.grow k1.grow) (S.grow k1.grow) Q E fun fl s2 k2 w2 e2 => hQ fl s2 (k1.b.tr k2) w2 e2)
theorem st_if_f {t : Expr} {b e : List Stmt} {pos : Pos} {o : Out} (ht : TestR C k ρ t false) (h : ExR C k ρ e o) : StR C k ρ (.If t b e pos) o := by
  intro X A env s O w S Q E hQ
  exact wpAny_If (ht X A env s O S _ E fun s1 k1 => by rw [if_neg Bool.false_ne_true]; exact h X A env s1 (O.keeps k1) (w.grow k1.grow) (S.grow k1.grow) Q E fun fl s2 k2 w2 e2 => hQ fl s2 (k1.b.tr k2) w2 e2)

/- storing a name -/
theorem store_loc {X : Addr → Prop} {A : Around} {env : Env} {s : Shared} {x : Str} {v : Value} {d : PyData} {Q : Unit → Shared → Prop} {E : Value → Shared → Prop} (w : Own C env s.heap) (S : Sees X env s.heap ρ) (hk : env.kindOf x = some .local) (hr : Rd X s.heap d v)
    (hQ : ∀ s', KpB env s s' → Own C env s'.heap → (∀ ρ', (∀ p ∈ ρ', (p = (x, .loc d)) ∨ (p.1 ≠ x ∧ p ∈ ρ)) → Sees X env s'.heap ρ') → Q () s') : wpAny C.M A (storeName env x v) Q E s := by
  obtain ⟨m, hn⟩ := w.ns
  refine wpAny_storeName_local hk hn (fun h' hn' hs' => ?_) (by rw [S.kind]; rfl)
  have kb : KpB env s { s with heap := h', toks := s.toks + 1 } := ⟨h', _, rfl, fun b o hb e => hs'.extBut b o (fun q => hb (.inl q)) e⟩
  have ncell : ∀ n c, (n, c) ∈ env.cells → c ≠ env.locals := fun n c hm q => by
    obtain ⟨v, o, ho, hd⟩ := w.cells n c hm
    obtain ⟨o', es, ep, ho', hd', _⟩ := hn
    rw [q, ho'] at ho; cases ho; rw [hd] at hd'; cases hd'
  have w' : Own C env h' := ⟨⟨_, hn'⟩, fun n c hm => let ⟨v, x⟩ := w.cells n c hm; ⟨v, x.sameBut hs' (ncell n c hm)⟩, w.lo, w.clo, w.apart⟩
  refine hQ _ kb w' fun ρ' hρ => ⟨S.kind, S.gl, S.bl, fun p hp => ?_⟩
  rcases hρ p hp with rfl | ⟨hne, hm⟩
  · exact ⟨hk, _, v, hn', by simp, hr.b w kb⟩
  · have N := S.names p hm
    obtain ⟨y, b⟩ := p
    cases b with
    | loc e => obtain ⟨a1, m1, v1, a2, a3, a4⟩ := N
               have : m1 = m := by
                 funext z
                 obtain ⟨o, es, ep, ho, hd, _, hf⟩ := a2
                 obtain ⟨o', es', ep', ho', hd', _, hf'⟩ := hn
                 rw [ho] at ho'; cases ho'; rw [hd] at hd'; cases hd'
                 rw [← hf, ← hf']
               subst this
               exact ⟨a1, _, v1, hn', by simp only [if_neg (show ¬ y = x from hne)]; exact a3, a4.b w kb⟩
    | cel e => obtain ⟨a1, c1, v1, a2, a3, a4⟩ := N; exact ⟨a1, c1, v1, a2, a3.sameBut hs' (ncell y c1 (mem_of_lookup a2)), a4.b w kb⟩
    | glo => exact N
    | unl => exact N
    | unc => exact N
theorem store_cel {X : Addr → Prop} {A : Around} {env : Env} {s : Shared} {x : Str} {v : Value} {d : PyData} {c : Addr} {Q : Unit → Shared → Prop} {E : Value → Shared → Prop} (w : Own C env s.heap) (S : Sees X env s.heap ρ) (hk : env.kindOf x = some .cell) (hc : env.cells.lookup x = some c) (hr : Rd X s.heap d v)
    (hQ : ∀ s', KpB env s s' → Own C env s'.heap → (∀ ρ', (∀ p ∈ ρ', (p = (x, .cel d)) ∨ (p.1 ≠ x ∧ p ∈ ρ)) → Sees X env s'.heap ρ') → Q () s') : wpAny C.M A (storeName env x v) Q E s := by
  obtain ⟨v0, hv0⟩ := w.cells x c (mem_of_lookup hc)
  refine wpAny_storeName_cell S.kind hk hc hv0 fun h' hc' hs' => ?_
  have kb : KpB env s { s with heap := h' } := ⟨h', _, rfl, fun b o hb e => hs'.extBut b o (fun q => hb (.inr ⟨x, q ▸ mem_of_lookup hc⟩)) e⟩
  obtain ⟨m, hn⟩ := w.ns
  have nl : env.locals ≠ c := fun q => by
    obtain ⟨o, ho, hd⟩ := hv0
    obtain ⟨o', es, ep, ho', hd', _⟩ := hn
    rw [← q, ho'] at ho; cases ho; rw [hd] at hd'; cases hd'
  have w' : Own C env h' := ⟨⟨m, hn.sameBut hs' nl⟩, fun n c2 hm => by
    by_cases q : c2 = c
    · subst q; exact ⟨_, hc'⟩
    · obtain ⟨v, x⟩ := w.cells n c2 hm; exact ⟨v, x.sameBut hs' q⟩, w.lo, w.clo, w.apart⟩
  refine hQ _ kb w' fun ρ' hρ => ⟨S.kind, S.gl, S.bl, fun p hp => ?_⟩
  rcases hρ p hp with rfl | ⟨hne, hm⟩
  · exact ⟨hk, c, v, hc, hc', hr.b w kb⟩
  · have N := S.names p hm
    obtain ⟨y, b⟩ := p
    cases b with
    | loc e => obtain ⟨a1, m1, v1, a2, a3, a4⟩ := N; exact ⟨a1, m1, v1, a2.sameBut hs' nl, a3, a4.b w kb⟩
    | cel e => obtain ⟨a1, c1, v1, a2, a3, a4⟩ := N; exact ⟨a1, c1, v1, a2, a3.sameBut hs' (fun q => hne (name_of_addr w.apart (mem_of_lookup a2) (q ▸ mem_of_lookup hc))), a4.b w kb⟩
    | glo => exact N
    | unl => exact N
    | unc => exact N
end
end Mine
end
section
open PySem PySem.W PyProof.Rows
open Builtin Builtin.Str
set_option Elab.async false
set_option maxRecDepth 100000
namespace Mine

/-- ρ' is ρ with x set to d -/
inductive SetL : Rho → Str → PyData → Rho → Prop
  | unl {x d r} : (r.all fun p => decide (p.1 ≠ x)) = true → SetL ((x, .unl) :: r) x d ((x, .loc d) :: r)
  | loc {x d d0 r} : (r.all fun p => decide (p.1 ≠ x)) = true → SetL ((x, .loc d0) :: r) x d ((x, .loc d) :: r)
  | unc {x d r} : (r.all fun p => decide (p.1 ≠ x)) = true → SetL ((x, .unc) :: r) x d ((x, .cel d) :: r)
  | cel {x d d0 r} : (r.all fun p => decide (p.1 ≠ x)) = true → SetL ((x, .cel d0) :: r) x d ((x, .cel d) :: r)
  | there {y b r x d r'} : y ≠ x → SetL r x d r' → SetL ((y, b) :: r) x d ((y, b) :: r')

theorem all_ne {x : Str} {r : Rho} (h : (r.all fun p => decide (p.1 ≠ x)) = true) : ∀ p ∈ r, p.1 ≠ x := fun p hp => of_decide_eq_true (List.all_eq_true.mp h p hp)

theorem SetL.ok {ρ : Rho} {x : Str} {d : PyData} {ρ' : Rho} (h : SetL ρ x d ρ') :
    ((∃ b, (x, b) ∈ ρ ∧ (b = .unl ∨ ∃ e, b = .loc e)) ∧ ∀ p ∈ ρ', p = (x, .loc d) ∨ (p.1 ≠ x ∧ p ∈ ρ)) ∨ ((∃ b, (x, b) ∈ ρ ∧ (b = .unc ∨ ∃ e, b = .cel e)) ∧ ∀ p ∈ ρ', p = (x, .cel d) ∨ (p.1 ≠ x ∧ p ∈ ρ)) := by
  induction h with
  | unl h =>
    refine .inl ⟨⟨_, .head _, .inl rfl⟩, fun p hp => ?_⟩
    rcases List.mem_cons.mp hp with rfl | hp
    · exact .inl rfl
    · exact .inr ⟨all_ne h p hp, .tail _ hp⟩
  | loc h =>
    refine .inl ⟨⟨_, .head _, .inr ⟨_, rfl⟩⟩, fun p hp => ?_⟩
    rcases List.mem_cons.mp hp with rfl | hp
    · exact .inl rfl
    · exact .inr ⟨all_ne h p hp, .tail _ hp⟩
  | unc h =>
    refine .inr ⟨⟨_, .head _, .inl rfl⟩, fun p hp => ?_⟩
    rcases List.mem_cons.mp hp with rfl | hp
    · exact .inl rfl
    · exact .inr ⟨all_ne h p hp, .tail _ hp⟩
  | cel h =>
    refine .inr ⟨⟨_, .head _, .inr ⟨_, rfl⟩⟩, fun p hp => ?_⟩
    rcases List.mem_cons.mp hp with rfl | hp
    · exact .inl rfl
    · exact .inr ⟨all_ne h p hp, .tail _ hp⟩
  | there hne _ ih =>
    rcases ih with ⟨⟨b, hm, hb⟩, ih⟩ | ⟨⟨b, hm, hb⟩, ih⟩
    · refine .inl ⟨⟨b, .tail _ hm, hb⟩, fun p hp => ?_⟩
      rcases List.mem_cons.mp hp with rfl | hp
      · exact .inr ⟨hne, .head _⟩
      · exact (ih p hp).imp id fun q => ⟨q.1, .tail _ q.2⟩
    · refine .inr ⟨⟨b, .tail _ hm, hb⟩, fun p hp => ?_⟩
      rcases List.mem_cons.mp hp with rfl | hp
      · exact .inr ⟨hne, .head _⟩
      · exact (ih p hp).imp id fun q => ⟨q.1, .tail _ q.2⟩

/-- names set one after another -/
inductive SetsL : Rho → List Str → List PyData → Rho → Prop
  | nil {ρ} : SetsL ρ [] [] ρ
  | cons {ρ x d ρ1 xs ds ρ2} : SetL ρ x d ρ1 → SetsL ρ1 xs ds ρ2 → SetsL ρ (x :: xs) (d :: ds) ρ2

section
variable {C : Cx} {k : Nat} {ρ : Rho}
theorem store_set {X : Addr → Prop} {A : Around} {env : Env} {s : Shared} {x : Str} {v : Value} {d : PyData} {ρ' : Rho} {Q : Unit → Shared → Prop} {E : Value → Shared → Prop} (w : Own C env s.heap) (S : Sees X env s.heap ρ) (hset : SetL ρ x d ρ') (hr : Rd X s.heap d v)
    (hQ : ∀ s', KpB env s s' → Own C env s'.heap → Sees X env s'.heap ρ' → Q () s') : wpAny C.M A (storeName env x v) Q E s := by
  rcases hset.ok with ⟨⟨b, hm, hb⟩, hp⟩ | ⟨⟨b, hm, hb⟩, hp⟩
  · have hk : env.kindOf x = some .local := by
      have N := S.names _ hm
      rcases hb with rfl | ⟨e, rfl⟩
      · exact N
      · exact N.1
    exact store_loc w S hk hr fun s' k' w' f => hQ s' k' w' (f ρ' hp)
  · have hk : env.kindOf x = some .cell ∧ ∃ c, env.cells.lookup x = some c := by
      have N := S.names _ hm
      rcases hb with rfl | ⟨e, rfl⟩
      · exact N
      · obtain ⟨a, c, _, b, _⟩ := N; exact ⟨a, c, b⟩
    obtain ⟨hk, c, hc⟩ := hk
    exact store_cel w S hk hc hr fun s' k' w' f => hQ s' k' w' (f ρ' hp)

theorem st_assign {x : Str} {xp pos : Pos} {e : Expr} {d : PyData} {ρ' : Rho} (he : EvR C k ρ e d) (hset : SetL ρ x d ρ') (hs : ∀ env, swapsWith e (some (.Name x xp)) pos.line env = pure false := by intro _; rfl) : StR C k ρ (.Assign [.Name x xp] e pos) (.next ρ') := by
  intro X A env s O w S Q E hQ
  refine wpAny_Assign_Name (he X A env s O S _ E fun v s1 k1 r1 => store_set (w.grow k1.grow) (S.grow k1.grow) hset r1 fun s2 k2 w2 S2 => ?_) (hs env)
  exact hQ _ s2 (k1.b.tr k2) w2 ⟨rfl, S2⟩

/-- a path += text -/
theorem st_aug_str {x : Str} {xp pos : Pos} {e : Expr} {a b : Str} {ρ' : Rho} (hx : (x, Bd.loc (.str a)) ∈ ρ) (he : EvR C k ρ e (.str b)) (hz : a.length + b.length ≤ 1000000) (hset : SetL ρ x (.str (a ++ b)) ρ') : StR C k ρ (.AugAssign (.Name x xp) .Add e pos) (.next ρ') := by
  intro X A env s O w S Q E hQ
  obtain ⟨hk, m, v, hn, hv, t, rfl⟩ := S.names _ hx
  refine wpAny_AugAssign_Name (wpAny_loadName_local S.kind hk hn hv (he X A env s O S _ E fun v1 s1 k1 r1 => ?_))
  obtain ⟨u, rfl⟩ := r1
  refine SB.iadd (fun t' n => ?_) (sz_le hz)
  have k2 : PySem.Keeps s1 { s1 with toks := n } := kept_tok
  refine store_set (w.grow k1.grow) ((S.grow k1.grow)) hset ⟨t', rfl⟩ fun s3 k3 w3 S3 => ?_
  exact hQ _ s3 (k1.b.tr ((kept_b k2).tr k3)) w3 ⟨rfl, S3⟩

/- unpacking -/
theorem exb_kp {s : Shared} {h' : Heap} (h : Heap.ExtBut s.heap.objs.size s.heap h') : Kp s { s with heap := h' } :=
  ⟨⟨h', s.toks, rfl, fun b o e => h b o (Nat.ne_of_lt (Heap.lt_size e)) e⟩, Nat.le_refl _⟩

theorem draw_walks {A : Around} {I : Addr} {fp wr : List Addr} {n : Nat} {P : Nat → Value → Prop} {St : Nat → Heap → Prop} (W : Walks C.prog C.w A I fp wr n P St) {E : Value → Shared → Prop} : ∀ (j i : Nat) (s : Shared) (Q : List Value → Shared → Prop), St i s.heap → i + j = n →
    (∀ vs h' tk, vs.length = j → (∀ q v, vs[q]? = some v → P (i + q) v) → St n h' → (∀ b o, b ∉ wr → s.heap.get? b = some o → h'.get? b = some o) → Q vs { s with heap := h', toks := tk }) → wpAny C.M A (draw (.ref I) j) Q E s
  | 0, i, s, Q, st, hn, hQ => by
    show wpAny _ _ (pure []) Q E s
    exact wpAny_pure (hQ [] s.heap s.toks rfl (by simp) (by rw [← hn]; exact st) fun _ _ _ e => e)
  | j + 1, i, s, Q, st, hn, hQ => by
    show wpAny _ _ (pyNext (.ref I) >>= _) Q E s
    refine wpAny_bind (W.item i s _ _ (by omega) st fun v h1 tk1 hv st1 kk1 => ?_)
    refine wpAny_bind (wpAny_holding (draw_walks W j (i + 1) _ _ st1 (by omega) fun vs h2 tk2 hl hP st2 kk2 => wpAny_pure ?_))
    refine hQ (v :: vs) h2 tk2 (by simp [hl]) (fun q u hq => ?_) st2 fun b o hb e => kk2 b o hb (kk1 b o hb e)
    cases q with
    | zero => simp at hq; subst hq; exact hv
    | succ q => simp at hq; have := hP q u hq; rwa [show i + (q + 1) = i + 1 + q by omega]

theorem unpack_list {A : Around} {s : Shared} {l : Addr} {items : Array Value} {E : Value → Shared → Prop} {Q : List Value → Shared → Prop} (hh : A.handled = none) (hl : s.heap.IsList l items) (hQ : ∀ s', PySem.Keeps s s' → Q items.toList s') : wpAny C.M A (unpackItems (.ref l) items.size none) Q E s := by
  have hlt : l ≠ s.heap.objs.size := by obtain ⟨o, ho, _⟩ := hl; exact Nat.ne_of_lt (Heap.lt_size ho)
  unfold unpackItems
  refine wpAny_bind ?_
  unfold notIterableAtAll
  refine wpAny_bind (wpAny_specialOf hl.typeIs slot_list_iter.lookup ?_)
  refine wpAny_pure ?_
  simp only [Bool.false_eq_true, if_false]
  refine wpAny_bind (wpAny_holding (wpAny_pyIter_list hl ?_))
  have W := Walks.list (prog := C.prog) (w := C.w) hh s.heap.objs.size l hlt items
  refine wpAny_bind (wpAny_holding (draw_walks W items.size 0 _ _ ⟨⟨_, Heap.get?_push_size _ rfl, rfl, rfl⟩, hl.push _⟩ (by omega) fun vs h1 tk1 hlen hP st1 kk1 => ?_))
  have hall : vs = items.toList := by
    apply List.ext_getElem?
    intro q
    by_cases hq : q < vs.length
    · have e1 := hP q vs[q] (by simp [hq])
      rw [List.getElem?_eq_getElem hq]
      simp at e1 ⊢
      exact e1.symm
    · rw [List.getElem?_eq_none (by omega), List.getElem?_eq_none (by simp; omega)]
  subst hall
  rw [if_neg (by simp)]
  refine wpAny_bind (wpAny_holding (W.done _ _ _ st1 fun h2 tk2 kk2 => ?_))
  simp only [Option.isSome_none, Bool.false_eq_true, if_false]
  refine wpAny_pure (hQ _ ⟨h2, tk2, rfl, fun b o e => kk2 b o ?_ (kk1 b o ?_ (Heap.get?_push_of_some _ e))⟩)
  · simp; exact Nat.ne_of_lt (Heap.lt_size e)
  · simp; exact Nat.ne_of_lt (Heap.lt_size e)

theorem bind_sets {X : Addr → Prop} {A : Around} {env : Env} {E : Value → Shared → Prop} {Q : Unit → Shared → Prop} : ∀ {ρ : Rho} {xs : List Str} {ds : List PyData} {ρ' : Rho} {vs : List Value} {s : Shared}, SetsL ρ xs ds ρ' → RdL X s.heap ds vs → Own C env s.heap → Sees X env s.heap ρ →
    (∀ s', KpB env s s' → Own C env s'.heap → Sees X env s'.heap ρ' → Q () s') → wpAny C.M A (assignInOrder (xs.map fun n => bindName env n) vs) Q E s
  | _, _, _, _, _, s, .nil, _, w, S, hQ => by unfold assignInOrder; exact wpAny_pure (hQ s KpB.rfl' w S)
  | _, _, _, _, _, s, .cons h1 h2, ⟨v, r, e, rv, rr⟩, w, S, hQ => by
    subst e
    show wpAny _ _ (do holding r (bindName env _ v); assignInOrder _ r) Q E s
    refine wpAny_bind (wpAny_holding (wpAny_bindName (store_set w S h1 rv fun s1 k1 w1 S1 => ?_)))
    exact bind_sets h2 (rr.b w k1) w1 S1 fun s2 k2 w2 S2 => hQ s2 (k1.tr k2) w2 S2
theorem assign_sets {X : Addr → Prop} {A : Around} {env : Env} {E : Value → Shared → Prop} {Q : Unit → Shared → Prop} : ∀ {ρ : Rho} {xs : List Str} {ds : List PyData} {ρ' : Rho} {vs : List Value} {s : Shared} (ps : List Pos), ps.length = xs.length → SetsL ρ xs ds ρ' → RdL X s.heap ds vs → Own C env s.heap → Sees X env s.heap ρ →
    (∀ s', KpB env s s' → Own C env s'.heap → Sees X env s'.heap ρ' → Q () s') → wpAny C.M A (assignInOrder ((xs.zip ps).map fun q => assign (.Name q.1 q.2) env) vs) Q E s
  | _, _, _, _, _, s, [], _, .nil, _, w, S, hQ => by unfold assignInOrder; exact wpAny_pure (hQ s KpB.rfl' w S)
  | _, _, _, _, _, s, _ :: _, hl, .nil, _, w, S, hQ => by simp at hl
  | _, _, _, _, _, s, [], hl, .cons h1 h2, _, w, S, hQ => by simp at hl
  | _, _, _, _, _, s, p :: ps, hl, .cons h1 h2, ⟨v, r, e, rv, rr⟩, w, S, hQ => by
    subst e
    show wpAny _ _ (do holding r (assign (.Name _ p) env v); assignInOrder _ r) Q E s
    refine wpAny_bind (wpAny_holding (assign_Name (store_set w S h1 rv fun s1 k1 w1 S1 => ?_)))
    exact assign_sets ps (by simpa using hl) h2 (rr.b w k1) w1 S1 fun s2 k2 w2 S2 => hQ s2 (k1.tr k2) w2 S2
end
end Mine
end
section
open PySem PySem.W PyProof.Rows
open Builtin Builtin.Str
set_option Elab.async false
set_option maxRecDepth 100000
namespace Mine

/-- a plain def of the text stands under its name -/
noncomputable def DefAt (C : Cx) (name : Str) (params : Arguments) (body : List Stmt) (scope : Scope) : Prop :=
  ∃ a o pm code doc, C.mg name = some (.ref a) ∧ C.hb.get? a = some o ∧ o.data = .func (Calls.docDef name params body scope pm code doc) ∧ C.hb.CodeRec code name

noncomputable def ParOk (sn : List (Str × NameKind)) (bs : List (Str × PyData)) : Rho → Prop
  | [] => True
  | (x, .loc d) :: r => (sn.lookup x = some .local ∧ bs.lookup x = some d) ∧ ParOk sn bs r
  | (x, .cel d) :: r => (sn.lookup x = some .cell ∧ bs.lookup x = some d) ∧ ParOk sn bs r
  | (x, .glo) :: r => sn.lookup x = some .globalImplicit ∧ ParOk sn bs r
  | (x, .unl) :: r => sn.lookup x = some .local ∧ ParOk sn bs r
  | (x, .unc) :: r => sn.lookup x = some .cell ∧ ParOk sn bs r

theorem bindL_get {kd : Str → Option NameKind} {x : Str} {v : Value} (hx : kd x = some .local) : ∀ (binds : List (Str × Value)) (m : Str → Option Value), (binds.map (·.1)).Nodup → (binds.lookup x = some v ∨ (x ∉ binds.map (·.1) ∧ m x = some v)) → bindL kd binds m x = some v
  | [], m, _, h => by
    rcases h with h | h
    · simp at h
    · exact h.2
  | (n, u) :: r, m, hn, h => by
    unfold bindL
    obtain ⟨hn1, hn2⟩ := List.nodup_cons.mp hn
    by_cases hxn : x = n
    · subst hxn
      rcases h with h | h
      · rw [List.lookup_cons, beq_self_eq_true] at h
        cases h
        refine bindL_get hx r _ hn2 (.inr ⟨hn1, ?_⟩)
        rw [if_pos hx]; simp
      · exact absurd (List.mem_cons_self ..) h.1
    · refine bindL_get hx r _ hn2 ?_
      have hb : (x == n) = false := by simpa using hxn
      rcases h with h | ⟨h1, h2⟩
      · rw [List.lookup_cons, hb] at h; exact .inl h
      · refine .inr ⟨fun q => h1 (List.mem_cons_of_mem _ q), ?_⟩
        split
        · simp [hxn, h2]
        · exact h2
theorem bindC_get {kd : Str → Option NameKind} {x : Str} {v : Value} (hx : kd x = some .cell) : ∀ (binds : List (Str × Value)) (m : Str → Option Value), (binds.map (·.1)).Nodup → (binds.lookup x = some v ∨ (x ∉ binds.map (·.1) ∧ m x = some v)) → bindC kd binds m x = some v
  | [], m, _, h => by
    rcases h with h | h
    · simp at h
    · exact h.2
  | (n, u) :: r, m, hn, h => by
    unfold bindC
    obtain ⟨hn1, hn2⟩ := List.nodup_cons.mp hn
    by_cases hxn : x = n
    · subst hxn
      rcases h with h | h
      · rw [List.lookup_cons, beq_self_eq_true] at h
        cases h
        refine bindC_get hx r _ hn2 (.inr ⟨hn1, ?_⟩)
        rw [if_neg (by rw [hx]; decide)]; simp
      · exact absurd (List.mem_cons_self ..) h.1
    · refine bindC_get hx r _ hn2 ?_
      have hb : (x == n) = false := by simpa using hxn
      rcases h with h | ⟨h1, h2⟩
      · rw [List.lookup_cons, hb] at h; exact .inl h
      · refine .inr ⟨fun q => h1 (List.mem_cons_of_mem _ q), ?_⟩
        split
        · exact h2
        · simp [hxn, h2]

theorem rdl_lookup {X : Addr → Prop} {h : Heap} {x : Str} {d : PyData} : ∀ {ns : List Str} {ds : List PyData} {vs : List Value}, RdL X h ds vs → (ns.zip ds).lookup x = some d → ∃ v, (ns.zip vs).lookup x = some v ∧ Rd X h d v
  | [], _, _, _, e => by simp at e
  | _ :: _, [], _, _, e => by simp at e
  | n :: ns, d0 :: ds, _, ⟨v, r, q, h1, h2⟩, e => by
    subst q
    simp only [List.zip_cons_cons, List.lookup_cons] at e ⊢
    cases hb : x == n with
    | true => rw [hb] at e; cases e; exact ⟨v, rfl, h1⟩
    | false => rw [hb] at e; exact rdl_lookup h2 e

theorem cells_nodup {sn : List (Str × NameKind)} (h : ((cellsFrom 0 sn []).map (·.1)).Nodup) (n : Nat) : ((cellsFrom n sn []).map (·.1)).Nodup := cellsFrom_names sn 0 n [] [] rfl ▸ h

section
variable {C : Cx} {k : Nat}
theorem none_of_base {X : Addr → Prop} {A : Around} {s : Shared} {b : Addr} (O : Ok C X k A s) (h : s.heap.get? b = none) : C.hb.get? b = none := by
  cases e : C.hb.get? b with
  | none => rfl
  | some o => rw [O.base b o e] at h; cases h
theorem get_none {h : Heap} {b : Addr} (hb : h.objs.size ≤ b) : h.get? b = none := by
  cases e : h.get? b with
  | none => rfl
  | some o => exact absurd (Heap.lt_size e) (Nat.not_lt.mpr hb)

theorem par_sees {X : Addr → Prop} {fd : FuncData} {L a : Addr} {names : List Str} {ds : List PyData} {vs : List Value} {s s₁ : Shared} (hgl : fd.globals = mainGlobals) (hbl : fd.builtins = builtinsNs) (hk : fd.scope.kind = .function) (hnn : names.Nodup) (hlen : vs.length = names.length)
    (x : InCallC s (callEnvC fd L a).locals (bindL (callEnvC fd L a).kindOf (names.zip vs) fun _ => none) (callEnvC fd L a).cells (bindC (callEnvC fd L a).kindOf (names.zip vs) fun _ => none) s₁) (hr : RdL X s.heap ds vs) :
    ∀ (ρ : Rho), ParOk fd.scope.names (names.zip ds) ρ → Sees X (callEnvC fd L a) s₁.heap ρ := by
  intro ρ hρ
  refine ⟨hk, hgl, hbl, ?_⟩
  have hmap : ((names.zip vs).map (·.1)) = names := by rw [List.map_fst_zip]; omega
  have hnd : ((names.zip vs).map (·.1)).Nodup := by rw [hmap]; exact hnn
  have hr1 : RdL X s₁.heap ds vs := hr.grow x.toInCall.keep
  have hcells : ∀ y, fd.scope.names.lookup y = some .cell → ∃ c, (callEnvC fd L a).cells.lookup y = some c := fun y hy =>
    Option.isSome_iff_exists.mp (cells_hit fd.scope.names (L + 1) [] (.inl hy))
  induction ρ with
  | nil => intro p hp; cases hp
  | cons q r ih =>
    obtain ⟨y, b⟩ := q
    intro p hp
    have key : NameIs X (callEnvC fd L a) s₁.heap y b ∧ ParOk fd.scope.names (names.zip ds) r := by
      cases b with
      | loc d =>
        obtain ⟨⟨h1, h2⟩, h3⟩ := hρ
        obtain ⟨v, hv, rv⟩ := rdl_lookup hr1 h2
        exact ⟨⟨h1, _, v, x.toInCall.ns, bindL_get (kd := (callEnvC fd L a).kindOf) h1 _ _ hnd (.inl hv), rv⟩, h3⟩
      | cel d =>
        obtain ⟨⟨h1, h2⟩, h3⟩ := hρ
        obtain ⟨v, hv, rv⟩ := rdl_lookup hr1 h2
        obtain ⟨c, hc⟩ := hcells y h1
        have := x.cell y c hc
        rw [bindC_get (kd := (callEnvC fd L a).kindOf) h1 _ _ hnd (.inl hv)] at this
        exact ⟨⟨h1, c, v, hc, this, rv⟩, h3⟩
      | glo => exact ⟨hρ.1, hρ.2⟩
      | unl => exact ⟨hρ.1, hρ.2⟩
      | unc => exact ⟨⟨hρ.1, hcells y hρ.1⟩, hρ.2⟩
    rcases List.mem_cons.mp hp with rfl | hp
    · exact key.1
    · exact ih key.2 p hp

theorem fn_intro {name : Str} {params : Arguments} {body : List Stmt} {scope : Scope} {names : List Str} {ds : List PyData} {r : PyData} {ρ : Rho} (D : DefAt C name params body scope)
    (hbind : ∀ pm cd doc (vs : List Value), vs.length = names.length → bindArgs (Calls.docDef name params body scope pm cd doc) ⟨vs, []⟩ = pure (names.zip vs))
    (hlen : ds.length = names.length) (hnn : names.Nodup) (hkd : (names.all fun y => scope.names.lookup y == some .local || scope.names.lookup y == some .cell) = true)
    (hcn : ((cellsFrom 0 scope.names []).map (·.1)).Nodup) (hρ : ParOk scope.names (names.zip ds) ρ) (hbody : ExR C k ρ body (.ret r))
    (hco : scope.isCoroutine = false := by rfl) (hgen : scope.isGenerator = false := by rfl) (hk : scope.kind = .function := by rfl) : FnR C (k + 1) name ds r := by
  obtain ⟨a, o, pm, code, doc, h1, h2, h3, h4⟩ := D
  refine ⟨a, o, _, h1, h2, h3, fun X A s vs O hr => gv_of fun Q E hQ => ?_⟩
  have hl : vs.length = names.length := by rw [hr.length]; exact hlen
  refine wpAny_call (codeAny_call_cells (binds := names.zip vs) (body := body) (by have := O.dp; show _ < 1000; omega) (O.base _ _ h2) h3 (C.nolimit.keeps O.base) (h4.keeps O.base) rfl (hbind pm code doc vs hl) rfl
    (kinds_all (by
      rw [List.all_eq_true]
      intro p hp
      exact List.all_eq_true.mp hkd p.1 (List.of_mem_zip hp).1) _) (fun s₁ x => ?_) hco hgen hk)
  have S := par_sees (fd := Calls.docDef name params body scope pm code doc) rfl rfl hk hnn hl x hr ρ hρ
  have hL : s.heap.objs.size ≤ (callEnvC (Calls.docDef name params body scope pm code doc) s.heap.objs.size a).locals := Nat.le_refl _
  have hb1 : Grow s.heap s₁.heap := x.toInCall.keep
  have O1 : Ok C X k (A.deeper (callEnvC (Calls.docDef name params body scope pm code doc) s.heap.objs.size a)) s₁ := ⟨O.hd, by have := O.dp; show A.depth + 1 + k ≤ 950; omega, by have := O.un; show A.units + 3 + 20 * k ≤ 9700; omega, fun b o e => hb1 b o (O.base b o e), fun b hb => let ⟨x, e⟩ := O.xb b hb; ⟨x, hb1 b x e⟩⟩
  have w1 : Own C (callEnvC (Calls.docDef name params body scope pm code doc) s.heap.objs.size a) s₁.heap := by
    refine ⟨⟨_, x.toInCall.ns⟩, fun n c hm => ⟨_, x.cell n c (lookup_of_mem_nodup (cells_nodup hcn _) hm)⟩, none_of_base O (get_none hL), fun n c hm => none_of_base O (get_none (Nat.le_of_lt (x.above n c hm))), x.apart⟩
  refine hbody X _ _ s₁ O1 w1 S _ _ fun fl s2 k2 w2 e2 => ?_
  obtain ⟨v, rfl, rv⟩ := e2
  obtain ⟨hh, tk, e1, keep⟩ := x.done
  obtain ⟨h', tk', e2, g⟩ := k2
  subst e1
  subst e2
  refine hQ v _ ⟨h', tk', rfl, fun b o e => g b o ?_ (keep b o e)⟩ rv
  have hlt := Heap.lt_size e
  rintro (q | ⟨n', hm⟩)
  · exact absurd hlt (Nat.not_lt.mpr (q ▸ hL))
  · exact absurd hlt (Nat.not_lt.mpr (Nat.le_of_lt (x.above _ _ hm)))
end
end Mine
end
section
open PySem PySem.W PyProof.Rows
open Builtin Builtin.Str
set_option Elab.async false
set_option maxRecDepth 100000
namespace Mine

mutual
/-- other objects may be shut out: those shut out already, and such as are not there -/
theorem Rd.shutS {X Y : Addr → Prop} {h : Heap} (hk : ∀ b, Y b → X b ∨ h.get? b = none) : ∀ (d : PyData) (v : Value), Rd X h d v → Rd Y h d v
  | .none, _, r => r
  | .bool _, _, r => r
  | .int _, _, r => r
  | .str _, _, r => r
  | .list xs, v, r => by
    obtain ⟨a, vs, e, hx, hl, hr⟩ := r
    refine ⟨a, vs, e, fun q => (hk a q).elim hx fun n => ?_, hl, RdL.shutS hk xs vs.toList hr⟩
    obtain ⟨o, ho, _⟩ := hl; rw [n] at ho; cases ho
  | .tuple xs, v, r => by
    obtain ⟨a, vs, e, hx, hl, hr⟩ := r
    refine ⟨a, vs, e, fun q => (hk a q).elim hx fun n => ?_, hl, RdL.shutS hk xs vs.toList hr⟩
    obtain ⟨o, ho, _⟩ := hl; rw [n] at ho; cases ho
  | .dict _, _, r => r
theorem RdL.shutS {X Y : Addr → Prop} {h : Heap} (hk : ∀ b, Y b → X b ∨ h.get? b = none) : ∀ (ds : List PyData) (vs : List Value), RdL X h ds vs → RdL Y h ds vs
  | [], _, r => r
  | d :: ds, vs, r => by
    obtain ⟨v, r, e, h1, h2⟩ := r
    exact ⟨v, r, e, Rd.shutS hk d v h1, RdL.shutS hk ds r h2⟩
end
theorem NameIs.shutS {X Y : Addr → Prop} {env : Env} {h : Heap} {x : Str} {b : Bd} (hk : ∀ b, Y b → X b ∨ h.get? b = none) (n : NameIs X env h x b) : NameIs Y env h x b := by
  cases b with
  | loc d => obtain ⟨k, m, v, a, b, c⟩ := n; exact ⟨k, m, v, a, b, c.shutS hk⟩
  | cel d => obtain ⟨k, m, v, a, b, c⟩ := n; exact ⟨k, m, v, a, b, c.shutS hk⟩
  | glo => exact n
  | unl => exact n
  | unc => exact n
theorem Sees.shutS {X Y : Addr → Prop} {env : Env} {h : Heap} {ρ : Rho} (hk : ∀ b, Y b → X b ∨ h.get? b = none) (s : Sees X env h ρ) : Sees Y env h ρ := ⟨s.kind, s.gl, s.bl, fun p hp => (s.names p hp).shutS hk⟩
/-- names seen, in a heap where all that is not of X stays, and the frame's own dict and cells -/
theorem NameIs.move {X : Addr → Prop} {env : Env} {h h' : Heap} {x : Str} {b : Bd} (hk : ∀ b o (vs : Array Value) n, ¬ X b → o.data = .seq vs n → h.get? b = some o → h'.get? b = some o) (hm : ∀ b o, MyA env b → h.get? b = some o → h'.get? b = some o) (n : NameIs X env h x b) : NameIs X env h' x b := by
  cases b with
  | loc d => obtain ⟨k, m, v, a, b, c⟩ := n; exact ⟨k, m, v, a.at' fun o e => hm _ o (.inl rfl) e, b, c.mono hk⟩
  | cel d => obtain ⟨k, c', v, a, ⟨o, ho, hd⟩, c⟩ := n; exact ⟨k, c', v, a, ⟨o, hm _ o (.inr ⟨_, mem_of_lookup a⟩) ho, hd⟩, c.mono hk⟩
  | glo => exact n
  | unl => exact n
  | unc => exact n
theorem Sees.move {X : Addr → Prop} {env : Env} {h h' : Heap} {ρ : Rho} (hk : ∀ b o (vs : Array Value) n, ¬ X b → o.data = .seq vs n → h.get? b = some o → h'.get? b = some o) (hm : ∀ b o, MyA env b → h.get? b = some o → h'.get? b = some o) (s : Sees X env h ρ) : Sees X env h' ρ :=
  ⟨s.kind, s.gl, s.bl, fun p hp => (s.names p hp).move hk hm⟩
theorem Sees.move3 {X : Addr → Prop} {env : Env} {h h' : Heap} {ρ : Rho} (hk : ∀ b o (vs : Array Value) n, ¬ X b → o.data = .seq vs n → h.get? b = some o → h'.get? b = some o) (hl : ∀ o, h.get? env.locals = some o → h'.get? env.locals = some o)
    (hc : ∀ x d c, (x, Bd.cel d) ∈ ρ → env.cells.lookup x = some c → ∀ o, h.get? c = some o → h'.get? c = some o) (s : Sees X env h ρ) : Sees X env h' ρ :=
  ⟨s.kind, s.gl, s.bl, fun p hp => by
    have N := s.names p hp
    obtain ⟨x, b⟩ := p
    cases b with
    | loc d => obtain ⟨k, m, v, a, b, c⟩ := N; exact ⟨k, m, v, a.at' hl, b, c.mono hk⟩
    | cel d => obtain ⟨k, c', v, a, ⟨o, ho, hd⟩, c⟩ := N; exact ⟨k, c', v, a, ⟨o, hc x d c' hp a o ho, hd⟩, c.mono hk⟩
    | glo => exact N
    | unl => exact N
    | unc => exact N⟩
theorem Own.move {C : Cx} {env : Env} {h h' : Heap} (hm : ∀ b o, MyA env b → h.get? b = some o → h'.get? b = some o) (w : Own C env h) : Own C env h' :=
  ⟨let ⟨m, x⟩ := w.ns; ⟨m, x.at' fun o e => hm _ o (.inl rfl) e⟩, fun n c q => let ⟨v, o, ho, hd⟩ := w.cells n c q; ⟨v, o, hm _ o (.inr ⟨n, q⟩) ho, hd⟩, w.lo, w.clo, w.apart⟩

/-- an iterator that hands out the data ds to the target tgt -/
structure It (C : Cx) (Y : Addr → Prop) (A : Around) (I : Addr) (tgt : Expr) (fp wr : List Addr) (ds : List PyData) (G : Heap → Prop) (St : Nat → Heap → Prop) : Prop where
  sub : ∀ b ∈ wr, b ∈ fp
  frame : ∀ i h h', St i h → (∀ b ∈ fp, ∀ o, h.get? b = some o → h'.get? b = some o) → St i h'
  live : ∀ i h, St i h → ∀ b ∈ wr, ∃ o, h.get? b = some o
  good : ∀ h h', G h → (∀ b o (vs : Array Value) n, ¬ Y b → o.data = .seq vs n → h.get? b = some o → h'.get? b = some o) → G h'
  item : ∀ i d (s : Shared) (Q : Option Value → Shared → Prop) (E : Value → Shared → Prop), ds[i]? = some d → St i s.heap → G s.heap → (∀ b, Y b → ∃ o, s.heap.get? b = some o) →
    (∀ v s₁, (∀ (Q2 : Unit → Shared → Prop) (E2 : Value → Shared → Prop), (∀ h' tk, St (i + 1) h' → Rd Y h' d v → (∀ b o, b ∉ wr → s.heap.get? b = some o → h'.get? b = some o) → Q2 () { s with heap := h', toks := tk }) →
      wpAny C.M A (letOwnedTupleGo tgt (.ref I) v) Q2 E2 s₁) → Q (some v) s₁) → wpAny C.M A (pyNext (.ref I)) Q E s
  done : ∀ (s : Shared) (Q : Option Value → Shared → Prop) (E : Value → Shared → Prop), St ds.length s.heap →
    (∀ h' tk, (∀ b o, b ∉ wr → s.heap.get? b = some o → h'.get? b = some o) → Q none { s with heap := h', toks := tk }) → wpAny C.M A (pyNext (.ref I)) Q E s
  self : ∀ i (s : Shared) (Q : Value → Shared → Prop) (E : Value → Shared → Prop), St i s.heap → Q (.ref I) s → wpAny C.M A (pyIter (.ref I)) Q E s

/-- an iterator laid: s₁ is the state before it was made -/
structure Laid1 (C : Cx) (X : Addr → Prop) (A : Around) (tgt : Expr) (ds : List PyData) (s₁ s₂ : Shared) (I : Addr) (fp wr : List Addr) (G : (Addr → Prop) → Heap → Prop) (St : Nat → Heap → Prop) : Prop where
  it : ∀ Y, (∀ b ∈ wr, Y b) → It C Y A I tgt fp wr ds (G Y) St
  st : St 0 s₂.heap
  g : ∀ Y, (∀ b, Y b → X b ∨ s₁.heap.get? b = none) → G Y s₂.heap
  k : PySem.Keeps s₁ s₂
  new : ∀ b ∈ wr, s₁.heap.get? b = none
  nx : ∀ b ∈ fp, ¬ X b
  foot : ∀ b ∈ fp, ∃ o, s₂.heap.get? b = some o ∧ (∀ es n, o.data ≠ .dict es n) ∧ (∀ v, o.data ≠ .cell v)

noncomputable def IterR (C : Cx) (k : Nat) (ρ : Rho) (e : Expr) (tgt : Expr) (ds : List PyData) : Prop :=
  ∀ X A env s, Ok C X k A s → Sees X env s.heap ρ → ∀ (Q : Value → Shared → Prop) (E : Value → Shared → Prop),
    (∀ I fp wr s₁ s₂ G St, Kp s s₁ → Laid1 C X A tgt ds s₁ s₂ I fp wr G St → Q (.ref I) s₂) → wpAny C.M A (eval e env) (fun xv s' => wpAny C.M A (pyIter xv) Q E s') E s

theorem getElem_of_rdl {X : Addr → Prop} {h : Heap} {ds : List PyData} {vs : Array Value} (r : RdL X h ds vs.toList) : vs.size = ds.length := by simpa using r.length

section
variable {C : Cx} {k : Nat} {ρ : Rho}

theorem go_listiter {A : Around} {s : Shared} {tgt : Expr} {v : Value} {I l : Addr} {i : Nat} {Q : Unit → Shared → Prop} {E : Value → Shared → Prop} (hit : s.heap.IsListIter I l i) (hQ : Q () s) : wpAny C.M A (letOwnedTupleGo tgt (.ref I) v) Q E s := by
  obtain ⟨o, ho, hc, hd⟩ := hit
  have key : ∀ T : Addr, wpAny C.M A (do
      let o ← load I
      match o.cls, o.data with
      | .type n, .fields vs =>
        if ["enumerate", "zip", "dict_itemiterator", "dict_reverseitemiterator", "odict_iterator", "itertools.zip_longest", "itertools.pairwise"].contains n && vs[0]? == some (rawInt T) then
          rule "for.unpacks-the-owned-tuple"
          updateField I 0 .none
      | _, _ => pure () : Sem Unit) Q E s := fun T => by
    refine wpAny_bind (wpAny_load ho ?_)
    rw [hc, hd]
    exact wpAny_pure hQ
  unfold letOwnedTupleGo
  cases tgt <;> first | exact wpAny_pure hQ | skip
  all_goals
    cases v <;> first | exact wpAny_pure hQ | exact key _
theorem laid_list {X : Addr → Prop} {A : Around} {tgt : Expr} {ds : List PyData} {s : Shared} {l : Addr} {vs : Array Value} (hh : A.handled = none) (hxb : ∀ b, X b → ∃ o, s.heap.get? b = some o) (hxl : ¬ X l) (hl : s.heap.IsList l vs) (hr : RdL X s.heap ds vs.toList) :
    Laid1 C X A tgt ds s { s with heap := s.heap.push { cls := .type "list_iterator", data := .fields #[.ref l, .int 0 0] } } s.heap.objs.size [s.heap.objs.size, l] [s.heap.objs.size] (fun Y h => RdL Y h ds vs.toList) (fun i h => h.IsListIter s.heap.objs.size l i ∧ h.IsList l vs) := by
  have hlt : l ≠ s.heap.objs.size := by obtain ⟨o, ho, _⟩ := hl; exact Nat.ne_of_lt (Heap.lt_size ho)
  have W := Walks.list (prog := C.prog) (w := C.w) hh s.heap.objs.size l hlt vs
  have hsz := getElem_of_rdl hr
  refine ⟨fun Y hY => ⟨W.sub, W.frame, fun i h st b hb => ?_, fun h h' g hk => g.mono hk, fun i d s1 Q E hd st g _ hQ => ?_, fun s1 Q E st hQ => ?_, W.self⟩, ⟨⟨_, Heap.get?_push_size _ rfl, rfl, rfl⟩, hl.push _⟩, fun Y hY => ?_, ⟨_, s.toks, rfl, fun b o e => Heap.get?_push_of_some _ e⟩, fun b hb => ?_, fun b hb => ?_, fun b hb => ?_⟩
  · simp at hb; subst hb; obtain ⟨⟨o, ho, _⟩, _⟩ := st; exact ⟨o, ho⟩
  · have hi : i < vs.size := by rw [hsz]; exact (List.getElem?_eq_some_iff.mp hd).1
    refine W.item i s1 _ _ hi st fun v h' tk hv st' kk => ?_
    refine hQ v _ fun Q2 E2 hQ2 => go_listiter st'.1 ?_
    refine hQ2 h' tk st' ?_ kk
    obtain ⟨u, hu, ru⟩ := g.get' hd
    have : u = v := by
      have e1 : vs.toList[i]? = some v := by simpa using hv
      rw [hu] at e1; exact Option.some.inj e1
    subst this
    exact ru.mono (fun b o vs n hb _ e => kk b o (fun q => hb (hY b q)) e)
  · exact W.done s1 _ _ (by rw [hsz]; exact st) hQ
  · exact (hr.shutS hY).grow fun b o e => Heap.get?_push_of_some _ e
  · simp at hb; subst hb; exact get_none (Nat.le_refl _)
  · simp at hb
    rcases hb with rfl | rfl
    · intro q; obtain ⟨o, e⟩ := hxb _ q; rw [get_none (Nat.le_refl _)] at e; cases e
    · exact hxl
  · simp at hb
    rcases hb with rfl | rfl
    · exact ⟨_, Heap.get?_push_size _ rfl, fun _ _ => by simp, fun _ => by simp⟩
    · obtain ⟨o, ho, hc, n, hd⟩ := hl
      exact ⟨o, Heap.get?_push_of_some _ ho, fun _ _ => by rw [hd]; simp, fun _ => by rw [hd]; simp⟩

theorem it_list {e tgt : Expr} {ds : List PyData} (he : EvR C k ρ e (.list ds)) : IterR C k ρ e tgt ds := by
  intro X A env s O S Q E hQ
  refine he X A env s O S _ E fun v s1 k1 r1 => ?_
  obtain ⟨l, vs, rfl, hx, hl, hr⟩ := r1
  exact wpAny_pyIter_list hl (hQ _ _ _ s1 _ _ _ k1 (laid_list O.hd (O.keeps k1).xb hx hl hr))
end
end Mine
end
section
open PySem PySem.W PyProof.Rows
open Builtin Builtin.Str
set_option Elab.async false
set_option maxRecDepth 100000
namespace Mine

/-- storing read data into a target -/
noncomputable def AsgR (C : Cx) (k : Nat) (tgt : Expr) (d : PyData) (ρ ρ' : Rho) : Prop :=
  ∀ X A env s v, Ok C X k A s → Own C env s.heap → Sees X env s.heap ρ → Rd X s.heap d v → ∀ (Q : Unit → Shared → Prop) (E : Value → Shared → Prop), (∀ s', KpB env s s' → Own C env s'.heap → Sees X env s'.heap ρ' → Q () s') → wpAny C.M A (assign tgt env v) Q E s
inductive ForR (C : Cx) (k : Nat) (tgt : Expr) (body : List Stmt) : Rho → List PyData → Out → Prop
  | nil {ρ} : ForR C k tgt body ρ [] (.next ρ)
  | next {ρ d ρ1 ρ2 ds o} : AsgR C k tgt d ρ ρ1 → ExR C k ρ1 body (.next ρ2) → ForR C k tgt body ρ2 ds o → ForR C k tgt body ρ (d :: ds) o
  | cont {ρ d ρ1 ρ2 ds o} : AsgR C k tgt d ρ ρ1 → ExR C k ρ1 body (.cnt ρ2) → ForR C k tgt body ρ2 ds o → ForR C k tgt body ρ (d :: ds) o
  | brk {ρ d ρ1 ρ2 ds} : AsgR C k tgt d ρ ρ1 → ExR C k ρ1 body (.brk ρ2) → ForR C k tgt body ρ (d :: ds) (.next ρ2)
  | ret {ρ d ρ1 r ds} : AsgR C k tgt d ρ ρ1 → ExR C k ρ1 body (.ret r) → ForR C k tgt body ρ (d :: ds) (.ret r)

section
variable {C : Cx} {k : Nat} {ρ : Rho}

theorem asg_name {x : Str} {xp : Pos} {d : PyData} {ρ' : Rho} (h : SetL ρ x d ρ') : AsgR C k (.Name x xp) d ρ ρ' := fun _ _ _ _ _ _ w S r _ _ hQ => assign_Name (store_set w S h r hQ)

theorem for_step {A : Around} {s : Shared} {R : Result → Shared → Prop} {tgt : Expr} {it : Value} {body orelse : List Stmt} {env : Env}
    (h : wpAny C.M A (pyNext it) (fun r s₁ => match r with
      | none => wpAny C.M A (execs orelse env) (fun f s₃ => R (.ok f) s₃) (notedBy C.M A env fun e s' => R (.error e) s') s₁
      | some v => wpAny C.M A (letOwnedTupleGo tgt it v) (fun _ s₁' =>
          wpAny C.M A (assign tgt env v) (fun _ s₂ => wpAny C.M A (execs body env) (fun f s₃ => match f with
            | .next | .cont => codeAny C.M A (.forLoop tgt it body orelse env) R s₃
            | .brk => R (.ok .next) s₃
            | .ret v => R (.ok (.ret v)) s₃) (notedBy C.M A env fun e s' => R (.error e) s') s₂) (notedBy C.M A env fun e s' => R (.error e) s') s₁') (notedBy C.M A env fun e s' => R (.error e) s') s₁) (notedBy C.M A env fun e s' => R (.error e) s') s) :
    codeAny C.M A (.forLoop tgt it body orelse env) R s := by
  refine codeAny_of_tree ?_
  show wpAny _ A ((forTurn tgt it body orelse env).onRaise (fun x => do noteFrame x env; theTreesLotGoes x)) _ _ s
  refine wpAny_noted ?_
  simp only [forTurn]
  refine wpAny_bind (wpAny_standAt (wpAny_bind (wpAny_onRaise (wpAny_mono h (fun r s₁ h₁ => ?_) fun _ _ h' => wpAny_standAt h'))))
  cases r with
  | none => exact wpAny_pure ⟨rfl, codeAny_block h₁⟩
  | some v =>
    refine wpAny_bind (wpAny_mono h₁ (fun _ s₁' h₁' => ?_) fun _ _ h' => h')
    refine wpAny_bind (wpAny_mono h₁' (fun _ s₂ h₂ => wpAny_bind (wpAny_mono h₂ (fun f s₃ h₃ => ?_) fun _ _ h' => h')) fun _ _ h' => h')
    cases f with
    | next => exact wpAny_pure ⟨rfl, h₃⟩
    | cont => exact wpAny_pure ⟨rfl, h₃⟩
    | brk => exact wpAny_pure h₃
    | ret v => exact wpAny_pure h₃

theorem foot_my {X : Addr → Prop} {A : Around} {tgt : Expr} {ds : List PyData} {s₁ s₂ : Shared} {I : Addr} {fp wr : List Addr} {G : (Addr → Prop) → Heap → Prop} {St : Nat → Heap → Prop} {env : Env} (L : Laid1 C X A tgt ds s₁ s₂ I fp wr G St) (w : Own C env s₂.heap) : ∀ b ∈ fp, ¬ MyA env b := by
  intro b hb hm
  obtain ⟨o, ho, h1, h2⟩ := L.foot b hb
  rcases hm with rfl | ⟨n, hm⟩
  · obtain ⟨m, o', es, ep, ho', hd', _⟩ := w.ns; rw [ho] at ho'; cases ho'; exact h1 _ _ hd'
  · obtain ⟨v, o', ho', hd'⟩ := w.cells n b hm; rw [ho] at ho'; cases ho'; exact h2 _ hd'

theorem st_for {tgt iter : Expr} {body : List Stmt} {pos : Pos} {ds : List PyData} {o : Out} (hi : IterR C k ρ iter tgt ds) (hf : ForR C k tgt body ρ ds o) (hs : ∀ env x, foldedSetIterable iter env x = pure x := by intro _ _; rfl) : StR C k ρ (.For tgt iter body [] pos) o := by
  intro X A env s O w S Q E hQ
  refine wpAny_For (hi X A env s O S _ E fun I fp wr s₁ s₂ G0 St k1 L => ?_) (hs env)
  have w1 : Own C env s₁.heap := w.grow k1.grow
  have g12 : Grow s₁.heap s₂.heap := by obtain ⟨h', tk, rfl, g⟩ := L.k; exact g
  have w2 : Own C env s₂.heap := w1.grow g12
  have hfm := foot_my L w2
  let Y : Addr → Prop := fun b => b ∈ wr ∨ X b
  have Lit := L.it Y (fun b hb => .inl hb)
  let G : Heap → Prop := G0 Y
  have hwm : ∀ b ∈ wr, ¬ MyA env b := fun b hb => hfm b (Lit.sub b hb)
  have S2 : Sees Y env s₂.heap ρ := ((S.grow k1.grow).shutS fun b hb => hb.elim (fun q => .inr (L.new b q)) .inl).grow g12
  -- the loop, from any state within it
  have loop : ∀ (ρ : Rho) (ds' : List PyData) (o' : Out), ForR C k tgt body ρ ds' o' → ∀ (i : Nat) (s' : Shared) (Q' : Flow → Shared → Prop), ds.drop i = ds' → i ≤ ds.length → St i s'.heap → G s'.heap → Own C env s'.heap → Sees Y env s'.heap ρ →
      (∃ h' tk, s' = { s₂ with heap := h', toks := tk } ∧ ∀ b ob, ¬ MyA env b → b ∉ wr → s₂.heap.get? b = some ob → h'.get? b = some ob) →
      (∀ fl s'', (∃ h' tk, s'' = { s₂ with heap := h', toks := tk } ∧ ∀ b ob, ¬ MyA env b → b ∉ wr → s₂.heap.get? b = some ob → h'.get? b = some ob) → Own C env s''.heap → Ends Y env o' fl s'' → Q' fl s'') →
      codeAny C.M A (.forLoop tgt (.ref I) body [] env) (fun r s' => match r with | .ok f => Q' f s' | .error e => cameBackBy C.M A env E e s') s' := by
    intro ρ ds' o' hf
    have okAt : ∀ s', (∃ h' tk, s' = ({ s₂ with heap := h', toks := tk } : Shared) ∧ ∀ b ob, ¬ MyA env b → b ∉ wr → s₂.heap.get? b = some ob → h'.get? b = some ob) → Own C env s'.heap → ∀ i, St i s'.heap → Ok C Y k A s' := by
      rintro s' ⟨h', tk, rfl, kk⟩ w' i st
      have O1 := O.keeps k1
      refine ⟨O.hd, O.dp, O.un, fun b ob e => kk b ob (w1.notBase e) (fun q => ?_) (g12 b ob (O1.base b ob e)), fun b hb => ?_⟩
      · have := L.new b q; rw [O1.base b ob e] at this; cases this
      · by_cases hw : b ∈ wr
        · exact Lit.live i h' st b hw
        · rcases hb with hb | hb
          · exact absurd hb hw
          · obtain ⟨ob, e⟩ := O1.xb b hb
            by_cases hm : MyA env b
            · rcases hm with rfl | ⟨n, hm⟩
              · obtain ⟨m, o', es, ep, ho, _⟩ := w'.ns; exact ⟨o', ho⟩
              · obtain ⟨v, o', ho, _⟩ := w'.cells n b hm; exact ⟨o', ho⟩
            · exact ⟨ob, kk b ob hm hw (g12 b ob e)⟩
    -- one turn's head: the next item stored
    have head : ∀ (ρ ρ1 : Rho) (d : PyData) (ds'' : List PyData) (i : Nat) (s' : Shared) (R : Result → Shared → Prop), AsgR C k tgt d ρ ρ1 → ds.drop i = d :: ds'' → St i s'.heap → G s'.heap → Own C env s'.heap → Sees Y env s'.heap ρ →
        (∃ h' tk, s' = ({ s₂ with heap := h', toks := tk } : Shared) ∧ ∀ b ob, ¬ MyA env b → b ∉ wr → s₂.heap.get? b = some ob → h'.get? b = some ob) →
        (∀ s3, Ok C Y k A s3 → Own C env s3.heap → Sees Y env s3.heap ρ1 → St (i + 1) s3.heap → G s3.heap → (∃ h' tk, s3 = ({ s₂ with heap := h', toks := tk } : Shared) ∧ ∀ b ob, ¬ MyA env b → b ∉ wr → s₂.heap.get? b = some ob → h'.get? b = some ob) →
          wpAny C.M A (execs body env) (fun f s₃ => match f with
            | .next | .cont => codeAny C.M A (.forLoop tgt (.ref I) body [] env) R s₃
            | .brk => R (.ok .next) s₃
            | .ret v => R (.ok (.ret v)) s₃) (notedBy C.M A env fun e s' => R (.error e) s') s3) →
        codeAny C.M A (.forLoop tgt (.ref I) body [] env) R s' := by
      intro ρ ρ1 d ds'' i s' R ha hd st g w' S' kk hb
      have hdi : ds[i]? = some d := by have := congrArg List.head? hd; simpa [List.head?_drop] using this
      have O' := okAt s' kk w' i st
      refine for_step (Lit.item i d s' _ _ hdi st g O'.xb fun v s1' hgo => hgo _ _ fun h1 tk1 st1 rv kw => ?_)
      · obtain ⟨h', tk, rfl, kk⟩ := kk
        have mv : ∀ b ob, MyA env b → h'.get? b = some ob → h1.get? b = some ob := fun b ob hm e => kw b ob (fun q => hwm b q hm) e
        have sq : ∀ b ob (vs : Array Value) n, ¬ Y b → ob.data = .seq vs n → h'.get? b = some ob → h1.get? b = some ob := fun b ob vs n hy _ e => kw b ob (fun q => hy (.inl q)) e
        have kk1 : ∃ h'' tk, ({ s₂ with heap := h1, toks := tk1 } : Shared) = { s₂ with heap := h'', toks := tk } ∧ ∀ b ob, ¬ MyA env b → b ∉ wr → s₂.heap.get? b = some ob → h''.get? b = some ob := ⟨h1, tk1, rfl, fun b ob hm hw e => kw b ob hw (kk b ob hm hw e)⟩
        have w1' : Own C env h1 := w'.move mv
        have O1' := okAt { s₂ with heap := h1, toks := tk1 } kk1 w1' (i + 1) st1
        refine ha Y A env { s₂ with heap := h1, toks := tk1 } v O1' w1' (S'.move sq mv) rv _ _ fun s3 kb w3 S3 => ?_
        obtain ⟨h3, tk3, rfl, g3⟩ := kb
        have kk3 : ∃ h'' tk, ({ s₂ with heap := h3, toks := tk3 } : Shared) = { s₂ with heap := h'', toks := tk } ∧ ∀ b ob, ¬ MyA env b → b ∉ wr → s₂.heap.get? b = some ob → h''.get? b = some ob := ⟨h3, tk3, rfl, fun b ob hm hw e => g3 b ob hm (kw b ob hw (kk b ob hm hw e))⟩
        have st3 : St (i + 1) h3 := Lit.frame _ _ _ st1 fun b hb ob e => g3 b ob (hfm b hb) e
        have g3' : G h3 := Lit.good _ _ (Lit.good _ _ g sq) fun b ob vs n _ hd e => g3 b ob (w1'.notMy e hd) e
        exact hb _ (okAt _ kk3 w3 (i + 1) st3) w3 S3 st3 g3' kk3
    induction hf with
    | nil =>
      intro i s' Q' hd hle st g w' S' kk hQ'
      have hi : ds.length ≤ i := by simpa using hd
      have hlt : i = ds.length := Nat.le_antisymm hle hi
      subst hlt
      refine for_step (Lit.done s' _ _ st fun h1 tk1 kw => ?_)
      · obtain ⟨h', tk, rfl, kk⟩ := kk
        have mv : ∀ b ob, MyA env b → h'.get? b = some ob → h1.get? b = some ob := fun b ob hm e => kw b ob (fun q => hwm b q hm) e
        have sq : ∀ b ob (vs : Array Value) n, ¬ Y b → ob.data = .seq vs n → h'.get? b = some ob → h1.get? b = some ob := fun b ob vs n hy _ e => kw b ob (fun q => hy (.inl q)) e
        exact wpAny_execs_nil (hQ' _ _ ⟨h1, tk1, rfl, fun b ob hm hw e => kw b ob hw (kk b ob hm hw e)⟩ (w'.move mv) ⟨rfl, S'.move sq mv⟩)
    | next ha hb _ ih =>
      intro i s' Q' hd hle st g w' S' kk hQ'
      refine head _ _ _ _ i s' _ ha hd st g w' S' kk fun s3 O3 w3 S3 st3 g3 kk3 => ?_
      refine hb Y A env s3 O3 w3 S3 _ _ fun fl s4 kb w4 e4 => ?_
      obtain ⟨rfl, S4⟩ := e4
      obtain ⟨h3, tk3, rfl, kk3⟩ := kk3
      obtain ⟨h4, tk4, rfl, g4⟩ := kb
      exact ih (i + 1) _ Q' (by rw [← List.tail_drop, hd]; rfl) (by have := congrArg List.length hd; simp at this; omega) (Lit.frame _ _ _ st3 fun b hb ob e => g4 b ob (hfm b hb) e) (Lit.good _ _ g3 fun b ob vs n _ hd e => g4 b ob (w3.notMy e hd) e) w4 S4 ⟨h4, tk4, rfl, fun b ob hm hw e => g4 b ob hm (kk3 b ob hm hw e)⟩ hQ'
    | cont ha hb _ ih =>
      intro i s' Q' hd hle st g w' S' kk hQ'
      refine head _ _ _ _ i s' _ ha hd st g w' S' kk fun s3 O3 w3 S3 st3 g3 kk3 => ?_
      refine hb Y A env s3 O3 w3 S3 _ _ fun fl s4 kb w4 e4 => ?_
      obtain ⟨rfl, S4⟩ := e4
      obtain ⟨h3, tk3, rfl, kk3⟩ := kk3
      obtain ⟨h4, tk4, rfl, g4⟩ := kb
      exact ih (i + 1) _ Q' (by rw [← List.tail_drop, hd]; rfl) (by have := congrArg List.length hd; simp at this; omega) (Lit.frame _ _ _ st3 fun b hb ob e => g4 b ob (hfm b hb) e) (Lit.good _ _ g3 fun b ob vs n _ hd e => g4 b ob (w3.notMy e hd) e) w4 S4 ⟨h4, tk4, rfl, fun b ob hm hw e => g4 b ob hm (kk3 b ob hm hw e)⟩ hQ'
    | brk ha hb =>
      intro i s' Q' hd hle st g w' S' kk hQ'
      refine head _ _ _ _ i s' _ ha hd st g w' S' kk fun s3 O3 w3 S3 st3 g3 kk3 => ?_
      refine hb Y A env s3 O3 w3 S3 _ _ fun fl s4 kb w4 e4 => ?_
      obtain ⟨rfl, S4⟩ := e4
      obtain ⟨h3, tk3, rfl, kk3⟩ := kk3
      obtain ⟨h4, tk4, rfl, g4⟩ := kb
      exact hQ' _ _ ⟨h4, tk4, rfl, fun b ob hm hw e => g4 b ob hm (kk3 b ob hm hw e)⟩ w4 ⟨rfl, S4⟩
    | ret ha hb =>
      intro i s' Q' hd hle st g w' S' kk hQ'
      refine head _ _ _ _ i s' _ ha hd st g w' S' kk fun s3 O3 w3 S3 st3 g3 kk3 => ?_
      refine hb Y A env s3 O3 w3 S3 _ _ fun fl s4 kb w4 e4 => ?_
      obtain ⟨v, rfl, rv⟩ := e4
      obtain ⟨h3, tk3, rfl, kk3⟩ := kk3
      obtain ⟨h4, tk4, rfl, g4⟩ := kb
      exact hQ' _ _ ⟨h4, tk4, rfl, fun b ob hm hw e => g4 b ob hm (kk3 b ob hm hw e)⟩ w4 ⟨v, rfl, rv⟩
  refine loop ρ ds o hf 0 s₂ Q rfl (Nat.zero_le _) L.st (L.g Y fun b hb => hb.elim (fun q => .inr (L.new b q)) .inl) w2 S2 ⟨s₂.heap, s₂.toks, rfl, fun _ _ _ _ e => e⟩ fun fl s'' kk w'' e => ?_
  obtain ⟨h', tk, rfl, kk⟩ := kk
  refine hQ fl _ ?_ w'' ?_
  · obtain ⟨⟨h1, tk1, rfl, g1⟩, _⟩ := k1
    obtain ⟨h2, tk2, rfl, g2⟩ := L.k
    refine ⟨h', tk, rfl, fun b ob hm e => kk b ob hm (fun q => ?_) (g2 b ob (g1 b ob e))⟩
    have := L.new b q
    rw [g1 b ob e] at this; cases this
  · have weak : ∀ b, X b → Y b ∨ h'.get? b = none := fun b hb => .inl (.inr hb)
    cases o with
    | next ρ' => exact ⟨e.1, e.2.shutS weak⟩
    | ret d => obtain ⟨v, e1, e2⟩ := e; exact ⟨v, e1, e2.shutS weak⟩
    | brk ρ' => exact ⟨e.1, e.2.shutS weak⟩
    | cnt ρ' => exact ⟨e.1, e.2.shutS weak⟩
end
end Mine
end
section
open PySem PySem.W PyProof.Rows
open Builtin Builtin.Str
set_option Elab.async false
set_option maxRecDepth 100000
namespace Mine

inductive WhileR (C : Cx) (k : Nat) (test : Expr) (body : List Stmt) : Rho → Out → Prop
  | done {ρ} : TestR C k ρ test false → WhileR C k test body ρ (.next ρ)
  | next {ρ ρ1 o} : TestR C k ρ test true → ExR C k ρ body (.next ρ1) → WhileR C k test body ρ1 o → WhileR C k test body ρ o

section
variable {C : Cx} {k : Nat} {ρ : Rho}

theorem while_step {A : Around} {s : Shared} {R : Result → Shared → Prop} {test : Expr} {body orelse : List Stmt} {env : Env}
    (h : wpAny C.M A (isTrue test env (eval test env)) (fun b s₂ =>
        if b then wpAny C.M A (execs body env) (fun f s₃ => match f with
            | .next | .cont => codeAny C.M A (.whileLoop test body orelse env) R s₃
            | .brk => R (.ok .next) s₃
            | .ret v => R (.ok (.ret v)) s₃) (notedBy C.M A env fun e s' => R (.error e) s') s₂
        else wpAny C.M A (execs orelse env) (fun f s₃ => R (.ok f) s₃) (notedBy C.M A env fun e s' => R (.error e) s') s₂)
        (notedBy C.M A env fun e s' => R (.error e) s') s) : codeAny C.M A (.whileLoop test body orelse env) R s := by
  refine codeAny_of_tree ?_
  show wpAny _ A ((whileTurn test body orelse env).onRaise (fun x => do noteFrame x env; theTreesLotGoes x)) _ _ s
  refine wpAny_noted ?_
  simp only [whileTurn]
  refine wpAny_bind (wpAny_mono h (fun b s₂ h₂ => ?_) fun _ _ h' => h')
  cases b with
  | false =>
    simp only [Bool.false_eq_true, if_false] at h₂ ⊢
    exact wpAny_bind (wpAny_mono h₂ (fun f s₃ h₃ => wpAny_pure h₃) fun _ _ h' => h')
  | true =>
    simp only [if_true] at h₂ ⊢
    refine wpAny_bind (wpAny_mono h₂ (fun f s₃ h₃ => ?_) fun _ _ h' => h')
    cases f with
    | next => exact wpAny_pure ⟨rfl, h₃⟩
    | cont => exact wpAny_pure ⟨rfl, h₃⟩
    | brk => exact wpAny_pure h₃
    | ret v => exact wpAny_pure h₃

theorem st_while {test : Expr} {body : List Stmt} {pos : Pos} {o : Out} (hw : WhileR C k test body ρ o) : StR C k ρ (.While test body [] pos) o := by
  intro X A env s O w S Q E hQ
  refine wpAny_While ?_
  have key : ∀ (ρ : Rho) (o : Out), WhileR C k test body ρ o → ∀ (s' : Shared), KpB env s s' → Own C env s'.heap → Sees X env s'.heap ρ → (∀ fl s', KpB env s s' → Own C env s'.heap → Ends X env o fl s' → Q fl s') →
      codeAny C.M A (.whileLoop test body [] env) (fun r s' => match r with | .ok f => Q f s' | .error e => cameBackBy C.M A env E e s') s' := by
    intro ρ o hw
    induction hw with
    | done ht =>
      intro s' k1 w1 S1 hQ
      refine while_step (ht X A env s' (O.b w k1 w1) S1 _ _ fun s2 k2 => ?_)
      rw [if_neg Bool.false_ne_true]
      exact wpAny_execs_nil (hQ _ s2 (k1.tr k2.b) (w1.grow k2.grow) ⟨rfl, S1.grow k2.grow⟩)
    | next ht hb _ ih =>
      intro s' k1 w1 S1 hQ
      refine while_step (ht X A env s' (O.b w k1 w1) S1 _ _ fun s2 k2 => ?_)
      rw [if_pos rfl]
      refine hb X A env s2 ((O.b w k1 w1).keeps k2) (w1.grow k2.grow) (S1.grow k2.grow) _ _ fun fl s3 k3 w3 e3 => ?_
      obtain ⟨rfl, S3⟩ := e3
      exact ih s3 (k1.tr (k2.b.tr k3)) w3 S3 hQ
  exact key ρ o hw s KpB.rfl' w S hQ

theorem st_try_next {body : List Stmt} {h₀ : ExceptHandler} {hs : List ExceptHandler} {pos : Pos} {ρ' : Rho} (h : ExR C k ρ body (.next ρ')) : StR C k ρ (.Try body (h₀ :: hs) [] [] pos) (.next ρ') := by
  intro X A env s O w S Q E hQ
  refine wpAny_Try_except (h X A env s O w S _ _ fun fl s1 k1 w1 e1 => ?_)
  obtain ⟨rfl, S1⟩ := e1
  exact wpAny_execs_nil (hQ _ s1 k1 w1 ⟨rfl, S1⟩)
theorem st_try_ret {body : List Stmt} {h₀ : ExceptHandler} {hs : List ExceptHandler} {pos : Pos} {d : PyData} (h : ExR C k ρ body (.ret d)) : StR C k ρ (.Try body (h₀ :: hs) [] [] pos) (.ret d) := by
  intro X A env s O w S Q E hQ
  refine wpAny_Try_except (h X A env s O w S _ _ fun fl s1 k1 w1 e1 => ?_)
  obtain ⟨v, rfl, r1⟩ := id e1
  exact hQ _ s1 k1 w1 e1

/- tuples of names as targets -/
noncomputable def nameTgts (xs : List (Str × Pos)) : List Expr := xs.map fun q => .Name q.1 q.2
theorem each_names (env : Env) : ∀ xs : List (Str × Pos), assignEach (nameTgts xs) env = xs.map fun q => (false, assign (.Name q.1 q.2) env)
  | [] => rfl
  | q :: r => by show (false, assign (.Name q.1 q.2) env) :: assignEach (nameTgts r) env = _; rw [each_names env r]; rfl
theorem find_names (env : Env) (xs : List (Str × Pos)) : (assignEach (nameTgts xs) env).findIdx? (·.1) = none := by
  rw [each_names]; simp [List.findIdx?_map, Function.comp_def]

theorem asg_tuple {xs : List (Str × Pos)} {n : Nat} {pos : Pos} {ds : List PyData} {ρ' : Rho} (h : SetsL ρ (xs.map (·.1)) ds ρ') (hl : ds.length = xs.length) : AsgR C k (.Tuple (nameTgts xs) n pos) (.tuple ds) ρ ρ' := by
  intro X A env s v O w S r Q E hQ
  obtain ⟨t, vs, rfl, hx, ht, hr⟩ := r
  have hsz : vs.size = ds.length := by simpa using hr.length
  refine wpAny_assign_Tuple O.hd ht (by rw [each_names]; simp; omega) (find_names env xs) fun h' he => ?_
  have k1 : Kp s { s with heap := h' } := exb_kp he
  rw [each_names]
  have e1 : ((xs.map fun q => (false, assign (.Name q.1 q.2) env)).map (·.2)) = (((xs.map (·.1)).zip (xs.map (·.2))).map fun q => assign (.Name q.1 q.2) env) := by
    rw [List.map_map, List.zip_map']; simp [Function.comp_def]
  rw [e1]
  exact assign_sets (xs.map (·.2)) (by simp) h (hr.grow k1.grow) (w.grow k1.grow) (S.grow k1.grow) fun s2 k2 w2 S2 => hQ s2 (k1.b.tr k2) w2 S2

theorem st_assign_tup {xs : List (Str × Pos)} {n : Nat} {tp pos : Pos} {e : Expr} {ds : List PyData} {ρ' : Rho} (he : EvR C k ρ e (.tuple ds)) (h : SetsL ρ (xs.map (·.1)) ds ρ') (hl : ds.length = xs.length)
    (hs : ∀ env, swapsWithSole [.Tuple (nameTgts xs) n tp] e pos.line env = pure false := by intro _; rfl) (hw : ∀ X env s, Sees X env s ρ → swappedStores [.Tuple (nameTgts xs) n tp] e env = pure none) : StR C k ρ (.Assign [.Tuple (nameTgts xs) n tp] e pos) (.next ρ') := by
  intro X A env s O w S Q E hQ
  refine Assign_Tuple (he X A env s O S _ E fun v s1 k1 r1 => ?_) (hs env) (hw X env _ S)
  exact asg_tuple h hl X A env s1 v (O.keeps k1) (w.grow k1.grow) (S.grow k1.grow) r1 _ E fun s2 k2 w2 S2 => hQ _ s2 (k1.b.tr k2) w2 ⟨rfl, S2⟩
/-- two local names set from a written pair, the right one first -/
theorem st_assign_swap {x y : Str} {xp yp : Pos} {n : Nat} {tp pos : Pos} {e : Expr} {a b : PyData} {ρ' : Rho} (he : EvR C k ρ e (.tuple [a, b])) (h : SetsL ρ [y, x] [b, a] ρ')
    (hs : ∀ env, swapsWithSole [.Tuple [.Name x xp, .Name y yp] n tp] e pos.line env = pure false := by intro _; rfl) (hw : ∀ X env s, Sees X env s ρ → swappedStores [.Tuple [.Name x xp, .Name y yp] n tp] e env = pure (some [x, y])) : StR C k ρ (.Assign [.Tuple [.Name x xp, .Name y yp] n tp] e pos) (.next ρ') := by
  intro X A env s O w S Q E hQ
  refine Assign_Tuple_swapped (names := [x, y]) (he X A env s O S _ E fun v s1 k1 r1 => ?_) (hs env) (hw X env _ S)
  obtain ⟨t, vs, rfl, hx, ht, hr⟩ := r1
  have hsz : vs.size = 2 := by simpa using hr.length
  have ht' : s1.heap.IsTuple t vs := ht
  have q := wpAny_unpackItems_tuple (prog := C.prog) (w := C.w) (A := A) (E := E) (Q := fun items s₂ => wpAny C.M A (assignInOrder (([x, y] : List Str).reverse.map fun n => bindName env n) items.reverse) (fun _ => Q .next) E s₂) O.hd ht' fun h' he => ?_
  · rw [hsz] at q; exact q
  · have k2 : Kp s1 { s1 with heap := h' } := exb_kp he
    have k12 := k1.tr k2
    have hr2 := hr.grow k2.grow
    obtain ⟨va, r, e1, ra, hr3⟩ := hr2
    obtain ⟨vb, r', e2, rb, hr4⟩ := hr3
    obtain rfl := hr4
    subst e2
    rw [e1]
    have hb : RdL X h' [b, a] [vb, va] := ⟨vb, [va], rfl, rb, va, [], rfl, ra, rfl⟩
    exact bind_sets (C := C) (s := { s1 with heap := h' }) h hb (w.grow k12.grow) (S.grow k12.grow) fun s3 k3 w3 S3 => hQ _ s3 (k12.b.tr k3) w3 ⟨rfl, S3⟩
end
end Mine
end
section
open PySem PySem.W PyProof.Rows
open Builtin Builtin.Str
set_option Elab.async false
set_option maxRecDepth 100000
namespace Mine

/- the closure of a comprehension -/
noncomputable def clGo (cells : List (Str × Addr)) : List (Str × NameKind) → List (Str × Addr) → List (Str × Addr)
  | [], acc => acc
  | (n, kd) :: r, acc => if kd == .free then clGo cells r ((n, (cells.lookup n).getD 0) :: acc) else clGo cells r acc
theorem closure_go {env : Env} (names : List (Str × NameKind)) (acc : List (Str × Addr)) (h : ∀ p ∈ names, p.2 = .free → ∃ c, env.cells.lookup p.1 = some c) :
    (forIn names acc fun x r => if (x.2 == .free) = true then (do let c ← cellOf env x.1; pure (ForInStep.yield ((x.1, c) :: r))) else pure (ForInStep.yield r) : Sem (List (Str × Addr))) = pure (clGo env.cells names acc) := by
  induction names generalizing acc with
  | nil => rfl
  | cons p r ih =>
    obtain ⟨n, kd⟩ := p
    rw [List.forIn_cons]
    unfold clGo
    by_cases hk : (kd == NameKind.free) = true
    · obtain ⟨c, hc⟩ := h (n, kd) (.head _) (by simpa using hk)
      simp only [hk, if_true]
      have e : cellOf env n = pure c := by unfold cellOf; rw [hc]
      rw [e]
      simp only [pure_bind]
      rw [show (env.cells.lookup n).getD 0 = c by rw [show env.cells.lookup n = some c from hc]; rfl]
      exact ih _ fun p hp => h p (.tail _ hp)
    · simp only [hk]
      rw [if_neg Bool.false_ne_true, if_neg Bool.false_ne_true, pure_bind]
      exact ih _ fun p hp => h p (.tail _ hp)
theorem closure_ok {scope : Scope} {env : Env} (h : ∀ p ∈ scope.names, p.2 = .free → ∃ c, env.cells.lookup p.1 = some c) : closureFor scope env = pure (clGo env.cells scope.names []) := by
  rw [← closure_go scope.names [] h]
  unfold closureFor
  exact bind_pure _
theorem clGo_lookup {cells : List (Str × Addr)} {x : Str} {c : Addr} (hc : cells.lookup x = some c) : ∀ (names : List (Str × NameKind)) (acc : List (Str × Addr)), (names.lookup x = some .free ∨ acc.lookup x = some c) → (clGo cells names acc).lookup x = some c
  | [], acc, h => by
    rcases h with h | h
    · simp at h
    · exact h
  | (n, kd) :: r, acc, h => by
    unfold clGo
    by_cases hx : x = n
    · subst hx
      split
      · refine clGo_lookup hc r _ (.inr ?_)
        rw [List.lookup_cons, beq_self_eq_true]; simp [hc]
      · rename_i hk
        rcases h with h | h
        · rw [List.lookup_cons, beq_self_eq_true] at h
          cases h; exact absurd rfl hk
        · exact clGo_lookup hc r _ (.inr h)
    · have hb : (x == n) = false := by simpa using hx
      have h' : r.lookup x = some .free ∨ acc.lookup x = some c := by
        rcases h with h | h
        · rw [List.lookup_cons, hb] at h; exact .inl h
        · exact .inr h
      split
      · refine clGo_lookup hc r _ ?_
        rcases h' with h' | h'
        · exact .inl h'
        · exact .inr (by rw [List.lookup_cons, hb]; exact h')
      · exact clGo_lookup hc r _ h'
theorem relabel_go {env : Env} {x : Str} {kd : NameKind} : ∀ (l : List (Str × NameKind)), l.lookup x = some kd →
    (l.map fun (n, k) => if (k == .free && env.scope.kind == .function && env.kindOf n == some .cell) then (n, NameKind.cell) else (n, k)).lookup x = some (if (kd == .free && env.scope.kind == .function && env.kindOf x == some .cell) then .cell else kd)
  | [], h => by simp at h
  | (n, k0) :: r, h => by
    rw [List.map_cons]
    by_cases hx : x = n
    · subst hx
      rw [List.lookup_cons, beq_self_eq_true] at h
      cases h
      dsimp only
      split
      · rw [List.lookup_cons, beq_self_eq_true]
      · rw [List.lookup_cons, beq_self_eq_true]
    · have hb : (x == n) = false := by simpa using hx
      rw [List.lookup_cons, hb] at h
      dsimp only
      split <;> (rw [List.lookup_cons, hb]; exact relabel_go r h)
theorem relabel_lookup {scope : Scope} {env : Env} {x : Str} {kd : NameKind} (h : scope.names.lookup x = some kd) :
    (relabel scope env).names.lookup x = some (if (kd == .free && env.scope.kind == .function && env.kindOf x == some .cell) then .cell else kd) := relabel_go scope.names h

/-- the names that a comprehension's block sees -/
noncomputable def CompOk (sn : List (Str × NameKind)) (ρ : Rho) : Rho → Prop
  | [] => True
  | (x, .unl) :: r => sn.lookup x = some .local ∧ CompOk sn ρ r
  | (x, .cel d) :: r => (sn.lookup x = some .free ∧ (x, .cel d) ∈ ρ) ∧ CompOk sn ρ r
  | (x, .glo) :: r => sn.lookup x = some .globalImplicit ∧ CompOk sn ρ r
  | (_, .loc _) :: _ => False
  | (_, .unc) :: _ => False

theorem comp_sees {X : Addr → Prop} {scope : Scope} {env : Env} {h : Heap} {Cc : Addr} {ρ : Rho} (hk : scope.kind = .function) (S : Sees X env h ρ) : ∀ (ρc : Rho), CompOk scope.names ρ ρc → Sees X (compEnvC scope (clGo env.cells scope.names []) Cc env) h ρc := by
  intro ρc hc
  refine ⟨hk, S.gl, S.bl, ?_⟩
  induction ρc with
  | nil => intro p hp; cases hp
  | cons q r ih =>
    obtain ⟨x, b⟩ := q
    have key : NameIs X (compEnvC scope (clGo env.cells scope.names []) Cc env) h x b ∧ CompOk scope.names ρ r := by
      cases b with
      | unl =>
        refine ⟨?_, hc.2⟩
        show (relabel scope env).names.lookup x = some .local
        rw [relabel_lookup hc.1]; rfl
      | cel d =>
        obtain ⟨⟨h1, h2⟩, h3⟩ := hc
        obtain ⟨a1, c, v, a2, a3, a4⟩ := S.names _ h2
        refine ⟨⟨?_, c, v, clGo_lookup a2 _ _ (.inl h1), a3, a4⟩, h3⟩
        show (relabel scope env).names.lookup x = some .cell
        rw [relabel_lookup h1, S.kind, a1]; rfl
      | glo =>
        refine ⟨?_, hc.2⟩
        show (relabel scope env).names.lookup x = some .globalImplicit
        rw [relabel_lookup hc.1]; rfl
      | loc d => exact hc.elim
      | unc => exact hc.elim
    intro p hp
    rcases List.mem_cons.mp hp with rfl | hp
    · exact key.1
    · exact ih key.2 p hp

/-- storing read data into a comprehension's target -/
noncomputable def CAsgR (C : Cx) (k : Nat) (tgt : Expr) (d : PyData) (ρ ρ' : Rho) : Prop :=
  ∀ X A env s v, Ok C X k A s → (∃ m, s.heap.Ns env.locals m) → Sees X env s.heap ρ → Rd X s.heap d v → ∀ (Q : Unit → Shared → Prop) (E : Value → Shared → Prop),
    (∀ h' tk, (∃ m, h'.Ns env.locals m) → Sees X env h' ρ' → (∀ b o, b ≠ env.locals → s.heap.get? b = some o → h'.get? b = some o) → Q () { s with heap := h', toks := tk }) → wpAny C.M A (assign tgt env v) Q E s

inductive CSet : Rho → Str → PyData → Rho → Prop
  | here {x d r} : (r.all fun p => decide (p.1 ≠ x)) = true → CSet ((x, .unl) :: r) x d ((x, .loc d) :: r)
  | there {y b r x d r'} : y ≠ x → CSet r x d r' → CSet ((y, b) :: r) x d ((y, b) :: r')
theorem CSet.ok {ρ : Rho} {x : Str} {d : PyData} {ρ' : Rho} (h : CSet ρ x d ρ') : (x, .unl) ∈ ρ ∧ ∀ p ∈ ρ', p = (x, .loc d) ∨ (p.1 ≠ x ∧ p ∈ ρ) := by
  induction h with
  | here h =>
    refine ⟨.head _, fun p hp => ?_⟩
    rcases List.mem_cons.mp hp with rfl | hp
    · exact .inl rfl
    · exact .inr ⟨all_ne h p hp, .tail _ hp⟩
  | there hne _ ih =>
    refine ⟨.tail _ ih.1, fun p hp => ?_⟩
    rcases List.mem_cons.mp hp with rfl | hp
    · exact .inr ⟨hne, .head _⟩
    · exact (ih.2 p hp).imp id fun q => ⟨q.1, .tail _ q.2⟩

theorem rdl_map {X : Addr → Prop} {h h' : Heap} (mv : ∀ d v, Rd X h d v → Rd X h' d v) : ∀ {ds : List PyData} {vs : List Value}, RdL X h ds vs → RdL X h' ds vs
  | [], _, r => r
  | _ :: _, _, ⟨v, r, e, h1, h2⟩ => ⟨v, r, e, mv _ _ h1, rdl_map mv h2⟩
inductive CSets : Rho → List Str → List PyData → Rho → Prop
  | nil (ρ : Rho) : CSets ρ [] [] ρ
  | cons {ρ : Rho} {x : Str} {d : PyData} {ρ1 : Rho} {xs : List Str} {ds : List PyData} {ρ2 : Rho} : CSet ρ x d ρ1 → CSets ρ1 xs ds ρ2 → CSets ρ (x :: xs) (d :: ds) ρ2

section
variable {C : Cx} {k : Nat} {ρ : Rho}

theorem cstore {X : Addr → Prop} {A : Around} {env : Env} {s : Shared} {x : Str} {v : Value} {d : PyData} {ρ' : Rho} {Q : Unit → Shared → Prop} {E : Value → Shared → Prop} (hn : ∃ m, s.heap.Ns env.locals m) (S : Sees X env s.heap ρ) (hset : CSet ρ x d ρ') (hr : Rd X s.heap d v)
    (hQ : ∀ h' tk, (∃ m, h'.Ns env.locals m) → Sees X env h' ρ' → (∀ b o, b ≠ env.locals → s.heap.get? b = some o → h'.get? b = some o) → (∀ d v, Rd X s.heap d v → Rd X h' d v) → Q () { s with heap := h', toks := tk }) : wpAny C.M A (storeName env x v) Q E s := by
  obtain ⟨m, hn⟩ := hn
  obtain ⟨hm, hp⟩ := hset.ok
  refine wpAny_storeName_local (S.names _ hm) hn (fun h' hn' hs' => ?_) (by rw [S.kind]; rfl)
  have nseq : ∀ b o (vs : Array Value) n, ¬ X b → o.data = .seq vs n → s.heap.get? b = some o → h'.get? b = some o := fun b o vs n _ hd e => hs'.extBut b o (fun q => by
    obtain ⟨o', es, ep, ho', hd', _⟩ := hn
    subst q; rw [e] at ho'; cases ho'; rw [hd] at hd'; cases hd') e
  have ncell : ∀ c v, s.heap.IsCell c v → c ≠ env.locals := fun c v hc q => by
    obtain ⟨o, ho, hd⟩ := hc
    obtain ⟨o', es, ep, ho', hd', _⟩ := hn
    rw [q, ho'] at ho; cases ho; rw [hd] at hd'; cases hd'
  refine hQ h' _ ⟨_, hn'⟩ ⟨S.kind, S.gl, S.bl, fun p hp' => ?_⟩ (fun b o hb e => hs'.extBut b o hb e) fun d v r => r.mono nseq
  rcases hp p hp' with rfl | ⟨hne, hm'⟩
  · exact ⟨S.names _ hm, _, v, hn', by simp, hr.mono nseq⟩
  · have N := S.names p hm'
    obtain ⟨y, b⟩ := p
    cases b with
    | loc e => obtain ⟨a1, m1, v1, a2, a3, a4⟩ := N
               have : m1 = m := by
                 funext z
                 obtain ⟨o, es, ep, ho, hd, _, hf⟩ := a2
                 obtain ⟨o', es', ep', ho', hd', _, hf'⟩ := hn
                 rw [ho] at ho'; cases ho'; rw [hd] at hd'; cases hd'
                 rw [← hf, ← hf']
               subst this
               exact ⟨a1, _, v1, hn', by simp only [if_neg (show ¬ y = x from hne)]; exact a3, a4.mono nseq⟩
    | cel e => obtain ⟨a1, c1, v1, a2, a3, a4⟩ := N; exact ⟨a1, c1, v1, a2, a3.sameBut hs' (ncell c1 _ a3), a4.mono nseq⟩
    | glo => exact N
    | unl => exact N
    | unc => exact N
theorem casg_name {x : Str} {xp : Pos} {d : PyData} {ρ' : Rho} (h : CSet ρ x d ρ') : CAsgR C k (.Name x xp) d ρ ρ' := fun _ _ _ _ _ _ hn S r _ _ hQ => assign_Name (cstore hn S h r fun h' tk a b c _ => hQ h' tk a b c)

theorem cassign_sets {X : Addr → Prop} {A : Around} {env : Env} {E : Value → Shared → Prop} {Q : Unit → Shared → Prop} : ∀ {ρ : Rho} {xs : List Str} {ds : List PyData} {ρ' : Rho} {vs : List Value} {s : Shared} (ps : List Pos), ps.length = xs.length → CSets ρ xs ds ρ' → RdL X s.heap ds vs → (∃ m, s.heap.Ns env.locals m) → Sees X env s.heap ρ →
    (∀ h' tk, (∃ m, h'.Ns env.locals m) → Sees X env h' ρ' → (∀ b o, b ≠ env.locals → s.heap.get? b = some o → h'.get? b = some o) → Q () { s with heap := h', toks := tk }) → wpAny C.M A (assignInOrder ((xs.zip ps).map fun q => assign (.Name q.1 q.2) env) vs) Q E s
  | _, _, _, _, _, s, [], _, .nil _, _, w, S, hQ => by unfold assignInOrder; exact wpAny_pure (hQ s.heap s.toks w S fun _ _ _ e => e)
  | _, _, _, _, _, s, _ :: _, hl, .nil _, _, w, S, hQ => by simp at hl
  | _, _, _, _, _, s, [], hl, .cons h1 h2, _, w, S, hQ => by simp at hl
  | _, _, _, _, _, s, p :: ps, hl, .cons h1 h2, ⟨v, r, e, rv, rr⟩, w, S, hQ => by
    subst e
    show wpAny _ _ (do holding r (assign (.Name _ p) env v); assignInOrder _ r) Q E s
    refine wpAny_bind (wpAny_holding (assign_Name (cstore w S h1 rv fun h1' tk1 w1 S1 k1 mv => ?_)))
    have rr' := rdl_map mv rr
    exact cassign_sets (s := { s with heap := h1', toks := tk1 }) ps (by simpa using hl) h2 rr' w1 S1 fun h2' tk2 w2 S2 k2 => hQ h2' tk2 w2 S2 fun b o hb e => k2 b o hb (k1 b o hb e)
end
end Mine
end
section
open PySem PySem.W PyProof.Rows
open Builtin Builtin.Str
set_option Elab.async false
set_option maxRecDepth 100000
namespace Mine

noncomputable def turnT (target iter : Expr) (ifs : List Expr) (emit : Sem Unit) (c : Code) (it : Value) (env : Env) : Sem Fin := do
  standAt iter.pos
  match ← pyNext it with
  | none => pure (.done .next)
  | some v =>
    letOwnedTupleGo target it v
    assign target env v
    let mut ok := true
    for c in ifs do
      if ok then ok ← isTrue c env (eval c env)
    if ok then emit
    again c

noncomputable def emit1 (elt : Expr) (acc : Value) (env : Env) : Sem Unit := do let _ ← call (.builtin "list.append") [acc, ← eval elt env]
noncomputable def emit2 (e i2 : Expr) (acc : Value) (env : Env) : Sem Unit := do
  let x ← eval i2 env
  standAt i2.pos
  let x ← foldedSetIterable i2 env x
  let _ ← runOwn (.compStart e 1 (← holding [x] (pyIter x)) acc env) env

theorem turn_one (elt target iter : Expr) (ifs : List Expr) (scope : Scope) (pos : Pos) (it acc : Value) (env : Env) :
    compTurn (.ListComp elt [⟨target, iter, ifs, 0⟩] scope pos) 0 it acc env = turnT target iter ifs (emit1 elt acc env) (.compLoop (.ListComp elt [⟨target, iter, ifs, 0⟩] scope pos) 0 it acc env) it env := by rfl
theorem turn_two0 (elt t1 i1 t2 i2 : Expr) (f1 f2 : List Expr) (scope : Scope) (pos : Pos) (it acc : Value) (env : Env) :
    compTurn (.ListComp elt [⟨t1, i1, f1, 0⟩, ⟨t2, i2, f2, 0⟩] scope pos) 0 it acc env = turnT t1 i1 f1 (emit2 (.ListComp elt [⟨t1, i1, f1, 0⟩, ⟨t2, i2, f2, 0⟩] scope pos) i2 acc env) (.compLoop (.ListComp elt [⟨t1, i1, f1, 0⟩, ⟨t2, i2, f2, 0⟩] scope pos) 0 it acc env) it env := by
  unfold compTurn turnT
  simp only [List.getElem?_cons_zero, List.getElem?_cons_succ, Nat.zero_add, bne_self_eq_false, Bool.false_eq_true, if_false]
  congr 1; funext _; congr 1; funext r
  cases r with
  | none => rfl
  | some v =>
    dsimp only
    congr 1; funext _; congr 1; funext _; congr 1; funext ok
    cases ok with
    | false => rfl
    | true =>
      simp only [if_true]
      unfold emit2
      simp only [bind_assoc]
      rfl
theorem turn_two1 (elt t1 i1 t2 i2 : Expr) (f1 f2 : List Expr) (scope : Scope) (pos : Pos) (it acc : Value) (env : Env) :
    compTurn (.ListComp elt [⟨t1, i1, f1, 0⟩, ⟨t2, i2, f2, 0⟩] scope pos) 1 it acc env = turnT t2 i2 f2 (emit1 elt acc env) (.compLoop (.ListComp elt [⟨t1, i1, f1, 0⟩, ⟨t2, i2, f2, 0⟩] scope pos) 1 it acc env) it env := by rfl

noncomputable def AccIs (Y : Addr → Prop) (h : Heap) (D : Addr) (done : List PyData) : Prop := ∃ ys, h.PlainList D ys ∧ RdL Y h done ys.toList

noncomputable def TestsR (C : Cx) (k : Nat) (ρ : Rho) (ifs : List Expr) (b : Bool) : Prop :=
  ∀ X A env s, Ok C X k A s → Sees X env s.heap ρ → ∀ (Q : Bool → Shared → Prop) (E : Value → Shared → Prop), (∀ s', Kp s s' → Q b s') →
    wpAny C.M A (forIn ifs true fun c r => if r = true then do let ok ← isTrue c env (eval c env); pure (ForInStep.yield ok) else pure (ForInStep.yield r)) Q E s
theorem tests_nil {C : Cx} {k : Nat} {ρ : Rho} : TestsR C k ρ [] true := fun _ _ _ s _ _ _ _ hQ => wpAny_tests_nil (hQ s Kp.rfl')
theorem tests_one {C : Cx} {k : Nat} {ρ : Rho} {c : Expr} {b : Bool} (h : TestR C k ρ c b) : TestsR C k ρ [c] b := fun X A env s O S Q E hQ => wpAny_tests_one (h X A env s O S Q E hQ)

noncomputable def EmitR (C : Cx) (k : Nat) (emit : Value → Env → Sem Unit) (ρ1 : Rho) (rs : List PyData) : Prop :=
  ∀ Y A cenv s D done, Ok C Y k A s → Y D → D ≠ cenv.locals → C.hb.get? D = none → C.hb.get? cenv.locals = none → AccIs Y s.heap D done → (∃ m, s.heap.Ns cenv.locals m) → Sees Y cenv s.heap ρ1 → done.length + rs.length ≤ 1000000 → ∀ (Q : Unit → Shared → Prop) (E : Value → Shared → Prop),
    (∀ h' tk, AccIs Y h' D (done ++ rs) → (∃ m, h'.Ns cenv.locals m) → Sees Y cenv h' ρ1 → (∀ b o, b ≠ D → b ≠ cenv.locals → s.heap.get? b = some o → h'.get? b = some o) → Q () { s with heap := h', toks := tk }) →
    wpAny C.M A (emit (.ref D) cenv) Q E s

noncomputable def Back (ρ1 ρc : Rho) : Prop := ∀ X env h, Sees X env h ρ1 → Sees X env h ρc

inductive CompR (C : Cx) (k : Nat) (tgt : Expr) (ρc : Rho) (ifs : List Expr) (emit : Value → Env → Sem Unit) : List PyData → List PyData → Prop
  | nil : CompR C k tgt ρc ifs emit [] []
  | skip {d ρ1 ds rs} : CAsgR C k tgt d ρc ρ1 → Back ρ1 ρc → TestsR C k ρ1 ifs false → CompR C k tgt ρc ifs emit ds rs → CompR C k tgt ρc ifs emit (d :: ds) rs
  | take {d ρ1 ds r1 rs} : CAsgR C k tgt d ρc ρ1 → Back ρ1 ρc → TestsR C k ρ1 ifs true → EmitR C k emit ρ1 r1 → CompR C k tgt ρc ifs emit ds rs → CompR C k tgt ρc ifs emit (d :: ds) (r1 ++ rs)

section
variable {C : Cx} {k : Nat} {ρ : Rho}

theorem comp_step {A : Around} {s : Shared} {R : Result → Shared → Prop} {e : Expr} {depth : Nat} {tgt iter : Expr} {ifs : List Expr} {emit : Value → Env → Sem Unit} {it acc : Value} {env : Env}
    (hturn : compTurn e depth it acc env = turnT tgt iter ifs (emit acc env) (.compLoop e depth it acc env) it env) (hfr : (Code.compLoop e depth it acc env).isFrame = false) (hu : A.under (Code.compLoop e depth it acc env) = A)
    (h : wpAny C.M A (pyNext it) (fun r s₁ => match r with
      | none => R (.ok .next) s₁
      | some v => wpAny C.M A (letOwnedTupleGo tgt it v) (fun _ s₁' => wpAny C.M A (assign tgt env v) (fun _ s₂ =>
          wpAny C.M A (forIn ifs true fun c r => if r = true then do let ok ← isTrue c env (eval c env); pure (ForInStep.yield ok) else pure (ForInStep.yield r)) (fun ok s₃ =>
            if ok = true then wpAny C.M A (emit acc env) (fun _ s₄ => codeAny C.M A (.compLoop e depth it acc env) R s₄) (notedBy C.M A env fun e s' => R (.error e) s') s₃
            else codeAny C.M A (.compLoop e depth it acc env) R s₃) (notedBy C.M A env fun e s' => R (.error e) s') s₂) (notedBy C.M A env fun e s' => R (.error e) s') s₁') (notedBy C.M A env fun e s' => R (.error e) s') s₁) (notedBy C.M A env fun e s' => R (.error e) s') s) :
    codeAny C.M A (.compLoop e depth it acc env) R s := by
  refine codeAny_of_tree ?_
  rw [hu]
  show wpAny _ A (if (Code.compLoop e depth it acc env).isFrame = true then _ else (compTurn e depth it acc env).onRaise (fun x => do noteFrame x env; theTreesLotGoes x)) _ _ s
  rw [hfr, if_neg Bool.false_ne_true]
  refine wpAny_noted ?_
  rw [hturn]
  unfold turnT
  refine wpAny_bind (wpAny_standAt (wpAny_bind (wpAny_mono h (fun r s₁ h₁ => ?_) fun _ _ h' => h')))
  cases r with
  | none => exact wpAny_pure h₁
  | some v =>
    refine wpAny_bind (wpAny_mono h₁ (fun _ s₁' h₁' => wpAny_bind (wpAny_mono h₁' (fun _ s₂ h₂ => wpAny_bind (wpAny_mono h₂ (fun ok s₃ h₃ => ?_) fun _ _ h' => h')) fun _ _ h' => h')) fun _ _ h' => h')
    cases ok with
    | false => exact wpAny_pure ⟨rfl, h₃⟩
    | true => exact wpAny_bind (wpAny_mono h₃ (fun _ s₄ h₄ => wpAny_pure ⟨rfl, h₄⟩) fun _ _ h' => h')

theorem AccIs.move {Y : Addr → Prop} {h h' : Heap} {D : Addr} {done : List PyData} (hk : ∀ b o (vs : Array Value) n, ¬ Y b → o.data = .seq vs n → h.get? b = some o → h'.get? b = some o) (hD : ∀ o, h.get? D = some o → h'.get? D = some o) (a : AccIs Y h D done) : AccIs Y h' D done := by
  obtain ⟨ys, hp, hr⟩ := a
  exact ⟨ys, hp.at hD, hr.mono hk⟩

theorem comp_loop {e : Expr} {depth : Nat} {tgt iter : Expr} {ifs : List Expr} {emit : Value → Env → Sem Unit} {Y : Addr → Prop} {A : Around} {cenv : Env} {I : Addr} {fp wr : List Addr} {D : Addr} {G : Heap → Prop} {St : Nat → Heap → Prop} {ρc : Rho} {ds : List PyData}
    (hturn : compTurn e depth (.ref I) (.ref D) cenv = turnT tgt iter ifs (emit (.ref D) cenv) (.compLoop e depth (.ref I) (.ref D) cenv) (.ref I) cenv) (hfr : (Code.compLoop e depth (.ref I) (.ref D) cenv).isFrame = false) (hu : A.under (Code.compLoop e depth (.ref I) (.ref D) cenv) = A)
    (it : It C Y A I tgt fp wr ds G St) (hYwr : ∀ b ∈ wr, Y b) (hYD : Y D) (hDf : D ∉ fp) (hCf : cenv.locals ∉ fp) (hDC : D ≠ cenv.locals) (hcl : ∀ x d c, (x, Bd.cel d) ∈ ρc → cenv.cells.lookup x = some c → c ∉ fp) (s₄ : Shared) (R : Result → Shared → Prop) (hb0 : ∀ b o, C.hb.get? b = some o → b ≠ D ∧ b ≠ cenv.locals ∧ b ∉ wr) :
    ∀ (dsr rs : List PyData), CompR C k tgt ρc ifs emit dsr rs → ∀ (i : Nat) (done : List PyData) (s : Shared), ds.drop i = dsr → i ≤ ds.length → Ok C Y k A s → St i s.heap → G s.heap → AccIs Y s.heap D done → (∃ m, s.heap.Ns cenv.locals m) → Sees Y cenv s.heap ρc → done.length + rs.length ≤ 1000000 →
      (∃ h' tk, s = { s₄ with heap := h', toks := tk } ∧ ∀ b o, b ≠ D → b ≠ cenv.locals → b ∉ wr → s₄.heap.get? b = some o → h'.get? b = some o) →
      (∀ h' tk, AccIs Y h' D (done ++ rs) → (∃ m, h'.Ns cenv.locals m) → Sees Y cenv h' ρc → (∀ b o, b ≠ D → b ≠ cenv.locals → b ∉ wr → s₄.heap.get? b = some o → h'.get? b = some o) → R (.ok .next) { s₄ with heap := h', toks := tk }) →
      codeAny C.M A (.compLoop e depth (.ref I) (.ref D) cenv) R s := by
  intro dsr rs hc
  have hwD : D ∉ wr := fun q => hDf (it.sub _ q)
  have hwC : cenv.locals ∉ wr := fun q => hCf (it.sub _ q)
  -- one turn's head
  have head : ∀ (d : PyData) (ds'' : List PyData) (ρ1 : Rho) (i : Nat) (done : List PyData) (s : Shared) (ok : Bool), CAsgR C k tgt d ρc ρ1 → TestsR C k ρ1 ifs ok → ds.drop i = d :: ds'' → Ok C Y k A s → St i s.heap → G s.heap → AccIs Y s.heap D done → (∃ m, s.heap.Ns cenv.locals m) → Sees Y cenv s.heap ρc →
      (∃ h' tk, s = ({ s₄ with heap := h', toks := tk } : Shared) ∧ ∀ b o, b ≠ D → b ≠ cenv.locals → b ∉ wr → s₄.heap.get? b = some o → h'.get? b = some o) →
      (∀ s3, Ok C Y k A s3 → St (i + 1) s3.heap → G s3.heap → AccIs Y s3.heap D done → (∃ m, s3.heap.Ns cenv.locals m) → Sees Y cenv s3.heap ρ1 → (∃ h' tk, s3 = ({ s₄ with heap := h', toks := tk } : Shared) ∧ ∀ b o, b ≠ D → b ≠ cenv.locals → b ∉ wr → s₄.heap.get? b = some o → h'.get? b = some o) →
        if ok = true then wpAny C.M A (emit (.ref D) cenv) (fun _ s₄ => codeAny C.M A (.compLoop e depth (.ref I) (.ref D) cenv) R s₄) (notedBy C.M A cenv fun e s' => R (.error e) s') s3 else codeAny C.M A (.compLoop e depth (.ref I) (.ref D) cenv) R s3) →
      codeAny C.M A (.compLoop e depth (.ref I) (.ref D) cenv) R s := by
    intro d ds'' ρ1 i done s ok ha ht hd O st g acc hn S kk hb
    have hdi : ds[i]? = some d := by have := congrArg List.head? hd; simpa [List.head?_drop] using this
    refine comp_step hturn hfr hu (it.item i d s _ _ hdi st g O.xb fun v s1' hgo => hgo _ _ fun h1 tk1 st1 rv kw => ?_)
    obtain ⟨h', tk, rfl, kk⟩ := kk
    have sq : ∀ b ob (vs : Array Value) n, ¬ Y b → ob.data = .seq vs n → h'.get? b = some ob → h1.get? b = some ob := fun b ob vs n hy _ e => kw b ob (fun q => hy (hYwr b q)) e
    have O1 : Ok C Y k A { s₄ with heap := h1, toks := tk1 } := ⟨O.hd, O.dp, O.un, fun b o e => kw b o (hb0 b o e).2.2 (O.base b o e), fun b hb => by
      by_cases q : b ∈ wr
      · exact it.live _ _ st1 b q
      · obtain ⟨o, e⟩ := O.xb b hb; exact ⟨o, kw b o q e⟩⟩
    have hn1 : ∃ m, h1.Ns cenv.locals m := let ⟨m, x⟩ := hn; ⟨m, x.at' fun o e => kw _ o hwC e⟩
    have acc1 : AccIs Y h1 D done := acc.move sq fun o e => kw _ o hwD e
    have S1 := S.move3 sq (fun o e => kw _ o hwC e) fun x d c hm hl o e => kw c o (fun q => hcl x d c hm hl (it.sub _ q)) e
    refine ha Y A cenv { s₄ with heap := h1, toks := tk1 } v O1 hn1 S1 rv _ _ fun h2 tk2 hn2 S2 k2 => ?_
    have sq2 : ∀ b ob (vs : Array Value) n, ¬ Y b → ob.data = .seq vs n → h1.get? b = some ob → h2.get? b = some ob := fun b ob vs n _ hd e => k2 b ob (fun q => by
      obtain ⟨m, o', es, ep, ho', hd', _⟩ := hn1
      subst q; rw [e] at ho'; cases ho'; rw [hd] at hd'; cases hd') e
    have O2 : Ok C Y k A { s₄ with heap := h2, toks := tk2 } := ⟨O.hd, O.dp, O.un, fun b o e => k2 b o (hb0 b o e).2.1 (O1.base b o e), fun b hb => by
      by_cases q : b = cenv.locals
      · obtain ⟨m, o', es, ep, ho', _⟩ := hn2; exact ⟨o', q ▸ ho'⟩
      · obtain ⟨o, e⟩ := O1.xb b hb; exact ⟨o, k2 b o q e⟩⟩
    have st2 : St (i + 1) h2 := it.frame _ _ _ st1 fun b hb o e => k2 b o (fun q => hCf (q ▸ hb)) e
    have g2 : G h2 := it.good _ _ (it.good _ _ g sq) sq2
    have acc2 : AccIs Y h2 D done := acc1.move sq2 fun o e => k2 _ o hDC e
    refine ht Y A cenv { s₄ with heap := h2, toks := tk2 } O2 S2 _ _ fun s3 k3 => ?_
    have O3 := O2.keeps k3
    obtain ⟨⟨h3, tk3, rfl, g3⟩, _⟩ := k3
    exact hb _ O3 (it.frame _ _ _ st2 fun b _ o e => g3 b o e) (it.good _ _ g2 fun b o vs n _ _ e => g3 b o e) (acc2.move (fun b o vs n _ _ e => g3 b o e) fun o e => g3 _ o e) (let ⟨m, x⟩ := hn2; ⟨m, x.keeps g3⟩) (S2.grow g3)
      ⟨h3, tk3, rfl, fun b o b1 b2 b3 e => g3 b o (k2 b o b2 (kw b o b3 (kk b o b1 b2 b3 e)))⟩
  induction hc with
  | nil =>
    intro i done s hd hle O st g acc hn S hsz kk hR
    have hi : ds.length ≤ i := by simpa using hd
    have : i = ds.length := Nat.le_antisymm hle hi
    subst this
    refine comp_step hturn hfr hu (it.done s _ _ st fun h1 tk1 kw => ?_)
    obtain ⟨h', tk, rfl, kk⟩ := kk
    have sq : ∀ b ob (vs : Array Value) n, ¬ Y b → ob.data = .seq vs n → h'.get? b = some ob → h1.get? b = some ob := fun b ob vs n hy _ e => kw b ob (fun q => hy (hYwr b q)) e
    refine hR h1 tk1 ?_ (let ⟨m, x⟩ := hn; ⟨m, x.at' fun o e => kw _ o hwC e⟩) (S.move3 sq (fun o e => kw _ o hwC e) fun x d c hm hl o e => kw c o (fun q => hcl x d c hm hl (it.sub _ q)) e) fun b o b1 b2 b3 e => kw b o b3 (kk b o b1 b2 b3 e)
    rw [List.append_nil]
    exact acc.move sq fun o e => kw _ o hwD e
  | skip ha hback ht _ ih =>
    intro i done s hd hle O st g acc hn S hsz kk hR
    refine head _ _ _ i done s false ha ht hd O st g acc hn S kk fun s3 O3 st3 g3 acc3 hn3 S3 kk3 => ?_
    rw [if_neg Bool.false_ne_true]
    exact ih (i + 1) done s3 (by rw [← List.tail_drop, hd]; rfl) (by have := congrArg List.length hd; simp at this; omega) O3 st3 g3 acc3 hn3 (hback _ _ _ S3) hsz kk3 hR
  | take ha hback ht he _ ih =>
    intro i done s hd hle O st g acc hn S hsz kk hR
    refine head _ _ _ i done s true ha ht hd O st g acc hn S kk fun s3 O3 st3 g3 acc3 hn3 S3 kk3 => ?_
    rw [if_pos rfl]
    rw [List.length_append] at hsz
    have nb : ∀ b, (∀ o, C.hb.get? b = some o → False) → C.hb.get? b = none := fun b h => by
      cases q : C.hb.get? b with
      | none => rfl
      | some o => exact (h o q).elim
    refine he Y A cenv s3 D done O3 hYD hDC (nb _ fun o e => (hb0 _ o e).1 rfl) (nb _ fun o e => (hb0 _ o e).2.1 rfl) acc3 hn3 S3 (by omega) _ _ fun h4 tk4 acc4 hn4 S4 k4 => ?_
    obtain ⟨h3, tk3, rfl, kk3⟩ := kk3
    have O4 : Ok C Y k A { s₄ with heap := h4, toks := tk4 } := ⟨O.hd, O.dp, O.un, fun b o e => k4 b o (hb0 b o e).1 (hb0 b o e).2.1 (O3.base b o e), fun b hb => by
      by_cases q : b = cenv.locals
      · obtain ⟨m, o', es, ep, ho', _⟩ := hn4; exact ⟨o', q ▸ ho'⟩
      · by_cases q2 : b = D
        · obtain ⟨ys, ⟨n, e⟩, _⟩ := acc4; exact ⟨_, q2 ▸ e⟩
        · obtain ⟨o, e⟩ := O3.xb b hb; exact ⟨o, k4 b o q2 q e⟩⟩
    have st4 : St (i + 1) h4 := it.frame _ _ _ st3 fun b hb o e => k4 b o (fun q => hDf (q ▸ hb)) (fun q => hCf (q ▸ hb)) e
    have g4 : G h4 := it.good _ _ g3 fun b o vs n hy hd' e => k4 b o (fun q => hy (q ▸ hYD)) (fun q => by
      obtain ⟨m, o', es, ep, ho', hd'', _⟩ := hn3
      subst q; rw [e] at ho'; cases ho'; rw [hd'] at hd''; cases hd'') e
    refine ih (i + 1) _ _ (by rw [← List.tail_drop, hd]; rfl) (by have := congrArg List.length hd; simp at this; omega) O4 st4 g4 acc4 hn4 (hback _ _ _ S4) (by rw [List.length_append]; omega) ⟨h4, tk4, rfl, fun b o b1 b2 b3 e => k4 b o b1 b2 (kk3 b o b1 b2 b3 e)⟩ ?_
    rw [List.append_assoc]
    exact hR
end
end Mine
end
section
open PySem PySem.W PyProof.Rows
open Builtin Builtin.Str
set_option Elab.async false
set_option maxRecDepth 100000
namespace Mine

noncomputable def FreeOk (ρ : Rho) : List (Str × NameKind) → Prop
  | [] => True
  | (n, .free) :: r => (∃ d, (n, Bd.cel d) ∈ ρ) ∧ FreeOk ρ r
  | _ :: r => FreeOk ρ r
theorem FreeOk.at {ρ : Rho} : ∀ {l : List (Str × NameKind)}, FreeOk ρ l → ∀ p ∈ l, p.2 = .free → ∃ d, (p.1, Bd.cel d) ∈ ρ
  | (n, kd) :: r, h, p, hp, hf => by
    rcases List.mem_cons.mp hp with rfl | hp
    · simp only at hf; subst hf; exact h.1
    · have h' : FreeOk ρ r := by cases kd <;> first | exact h | exact h.2
      exact FreeOk.at h' p hp hf
theorem Sees.move2 {X : Addr → Prop} {env : Env} {h h' : Heap} {ρ : Rho} (hk : ∀ b o (vs : Array Value) n, ¬ X b → o.data = .seq vs n → h.get? b = some o → h'.get? b = some o) (hn : ∀ b o, (∀ vs n, o.data ≠ .seq vs n) → h.get? b = some o → h'.get? b = some o) (s : Sees X env h ρ) : Sees X env h' ρ :=
  ⟨s.kind, s.gl, s.bl, fun p hp => by
    have N := s.names p hp
    obtain ⟨x, b⟩ := p
    cases b with
    | loc d => obtain ⟨k, m, v, ⟨o, es, ep, ho, hd, r⟩, b, c⟩ := N; exact ⟨k, m, v, ⟨o, es, ep, hn _ o (fun _ _ => by rw [hd]; simp) ho, hd, r⟩, b, c.mono hk⟩
    | cel d => obtain ⟨k, c', v, a, ⟨o, ho, hd⟩, c⟩ := N; exact ⟨k, c', v, a, ⟨o, hn _ o (fun _ _ => by rw [hd]; simp) ho, hd⟩, c.mono hk⟩
    | glo => exact N
    | unl => exact N
    | unc => exact N⟩

section
variable {C : Cx} {k : Nat} {ρ : Rho}

theorem emit_one {elt : Expr} {r : PyData} (he : EvR C k ρ elt r) : EmitR C k (emit1 elt) ρ [r] := by
  intro Y A cenv s D done O hYD hDC hbD hbC acc hn S hsz Q E hQ
  unfold emit1
  refine wpAny_bind (he Y A cenv s O S _ E fun v s1 k1 r1 => ?_)
  obtain ⟨ys, hp, hr⟩ := acc
  have hp1 : s1.heap.PlainList D ys := hp.at fun o e => k1.grow _ o e
  have hr1 := hr.grow k1.grow
  have hlen : ys.size = done.length := by simpa using hr.length
  refine wpAny_bind (wpAny_list_append_plain hp1 (fun h2 hp2 hs2 => wpAny_pure ?_) (sz_le (by omega)))
  have sq : ∀ b o (vs : Array Value) n, ¬ Y b → o.data = .seq vs n → s1.heap.get? b = some o → h2.get? b = some o := fun b o vs n hy _ e => hs2.extBut b o (fun q => hy (q ▸ hYD)) e
  have nD : ∀ b o, b ≠ D → s1.heap.get? b = some o → h2.get? b = some o := fun b o hb e => hs2.extBut b o hb e
  obtain ⟨⟨h1, tk1, rfl, g1⟩, _⟩ := k1
  refine hQ h2 tk1 ⟨ys.push v, hp2, ?_⟩ ?_ ?_ fun b o hb _ e => nD b o hb (g1 b o e)
  · rw [Array.toList_push]
    exact (hr1.mono sq).snoc (r1.mono sq)
  · obtain ⟨m, x⟩ := hn
    exact ⟨m, (x.keeps g1).at' fun o e => nD _ o (Ne.symm hDC) e⟩
  · refine (S.grow g1).move2 sq fun b o hns e => nD b o (fun q => ?_) e
    subst q
    obtain ⟨n1, e1⟩ := hp1
    rw [e1] at e; cases e
    exact hns _ _ rfl

/-- the whole block of a comprehension, its iterator laid -/
theorem comp_block {e : Expr} {tgt iter : Expr} {ifs : List Expr} {emit : Value → Env → Sem Unit} {scope : Scope} {X : Addr → Prop} {A : Around} {env : Env} {s₁ s₂ : Shared} {I : Addr} {fp wr : List Addr} {G : (Addr → Prop) → Heap → Prop} {St : Nat → Heap → Prop} {ds rs : List PyData} {ρc : Rho} {E : Value → Shared → Prop} {RR : Value → Addr → Result → Shared → Prop}
    (hturn : ∀ it acc cenv, compTurn e 0 it acc cenv = turnT tgt iter ifs (emit acc cenv) (.compLoop e 0 it acc cenv) it cenv) (hfr : ∀ it acc cenv, (Code.compLoop e 0 it acc cenv).isFrame = false) (hu : ∀ (A : Around) it acc cenv, A.under (Code.compLoop e 0 it acc cenv) = A)
    (hstart : ∀ (it acc : Value) (cenv : Env) (R : Result → Shared → Prop) (s : Shared), codeAny C.M A (.compLoop e 0 it acc cenv) R s → wpAny C.M A (pyIter it) (fun it' s' => codeAny C.M A (.compLoop e 0 it' acc cenv) R s') (notedBy C.M A cenv fun x s' => R (.error x) s') s → codeAny C.M A (.compStart e 0 it acc cenv) R s)
    (L : Laid1 C X A tgt ds s₁ s₂ I fp wr G St) (O : Ok C X k A s₁) (S : Sees X env s₁.heap ρ) (hcell : ∀ y ∈ scope.names, y.2 ≠ .cell) (hkind : scope.kind = .function) (hρc : CompOk scope.names ρ ρc) (hc : CompR C k tgt ρc ifs emit ds rs) (hsz : rs.length ≤ 1000000)
    (hRR : ∀ D Cc h' tk m', s₂.heap.get? D = none → s₂.heap.get? Cc = none → D ≠ Cc → h'.Ns Cc m' → Rd X h' (.list rs) (.ref D) → (∀ b o, b ∉ wr → s₂.heap.get? b = some o → h'.get? b = some o) → RR (.ref D) Cc (.ok .next) { s₂ with heap := h', toks := tk }) :
    wpAny C.M A (newList []) (fun acc s₃ => wpAny C.M A (newFunctionEnv scope env.globals (clGo env.cells scope.names []) [] env.qual none .none (some env)) (fun cenv s₄ =>
      codeAny C.M A (.compStart e 0 (.ref I) acc { cenv with scope := relabel scope env }) (RR acc cenv.locals) s₄) E s₃) E s₂ := by
  refine wpAny_newObj_type (wpAny_newFunctionEnv hcell (by intro y hy; simp at hy) (fun h₁ hns₁ hsb₁ => ?_) hkind)
  dsimp only at hns₁ hsb₁ ⊢
  generalize hH2 : s₂.heap.push { cls := .type "list", dict := none, data := .seq ([] : List Value).toArray } = H2 at hns₁ hsb₁ ⊢
  have hC : H2.objs.size = s₂.heap.objs.size + 1 := by rw [← hH2, Heap.size_push]
  have hDC : s₂.heap.objs.size ≠ H2.objs.size := by rw [hC]; exact Nat.ne_of_lt (Nat.lt_succ_self _)
  have below : ∀ b, b < s₂.heap.objs.size → b ≠ H2.objs.size ∧ b ≠ s₂.heap.objs.size := fun b hb => ⟨by rw [hC]; exact Nat.ne_of_lt (Nat.lt_succ_of_lt hb), Nat.ne_of_lt hb⟩
  have old : ∀ b o, s₂.heap.get? b = some o → h₁.get? b = some o := fun b o e => hsb₁.extBut b o (below b (Heap.lt_size e)).1 (Heap.get?_push_of_some _ (hH2 ▸ Heap.get?_push_of_some _ e))
  have hacc0 : h₁.PlainList s₂.heap.objs.size #[] := ⟨_, hsb₁.extBut _ _ hDC (Heap.get?_push_of_some _ (hH2 ▸ Heap.get?_push_size _ rfl))⟩
  have g12 : Grow s₁.heap s₂.heap := by obtain ⟨h', tk, rfl, g⟩ := L.k; exact g
  have nD : s₂.heap.get? s₂.heap.objs.size = none := get_none (Nat.le_refl _)
  have nC : s₂.heap.get? H2.objs.size = none := get_none (by rw [hC]; exact Nat.le_succ _)
  have nD1 : s₁.heap.get? s₂.heap.objs.size = none := by
    cases q : s₁.heap.get? s₂.heap.objs.size with
    | none => rfl
    | some o => rw [g12 _ _ q] at nD; cases nD
  have hDf : s₂.heap.objs.size ∉ fp := fun hm => by obtain ⟨o, ho, _⟩ := L.foot _ hm; rw [nD] at ho; cases ho
  have hCf : H2.objs.size ∉ fp := fun hm => by obtain ⟨o, ho, _⟩ := L.foot _ hm; rw [nC] at ho; cases ho
  let Y : Addr → Prop := fun b => b = s₂.heap.objs.size ∨ b ∈ wr ∨ X b
  have hY1 : ∀ b, Y b → X b ∨ s₁.heap.get? b = none := fun b hb => by
    rcases hb with rfl | hb | hb
    · exact .inr nD1
    · exact .inr (L.new b hb)
    · exact .inl hb
  have Lit := L.it Y (fun b hb => .inr (.inl hb))
  have SY : Sees Y env s₁.heap ρ := S.shutS hY1
  have Sc := comp_sees (Cc := H2.objs.size) hkind (SY.grow g12) ρc hρc
  have Sc1 := Sc.grow old
  have hcl : ∀ x d c, (x, Bd.cel d) ∈ ρc → (compEnvC scope (clGo env.cells scope.names []) H2.objs.size env).cells.lookup x = some c → c ∉ fp := by
    intro x d c hm hl hf
    obtain ⟨_, c', v, a2, ⟨o, ho, hdat⟩, _⟩ := Sc.names _ hm
    rw [hl] at a2; cases a2
    obtain ⟨o', ho', _, hnc⟩ := L.foot _ hf
    rw [ho] at ho'; cases ho'; exact hnc _ hdat
  have O4 : Ok C Y k A { s₂ with heap := h₁, toks := s₂.toks + ([] : List (Str × Value)).length } := ⟨O.hd, O.dp, O.un, fun b o e => old b o (g12 b o (O.base b o e)), fun b hb => by
    rcases hb with rfl | hb | hb
    · obtain ⟨n, e⟩ := hacc0; exact ⟨_, e⟩
    · obtain ⟨o, e⟩ := Lit.live _ _ L.st b hb; exact ⟨o, old b o e⟩
    · obtain ⟨o, e⟩ := O.xb b hb; exact ⟨o, old b o (g12 b o e)⟩⟩
  have st4 : St 0 h₁ := Lit.frame _ _ _ L.st fun b _ o e => old b o e
  have g4 : G Y h₁ := Lit.good _ _ (L.g Y hY1) fun b o vs n _ _ e => old b o e
  have loop : ∀ s₃ : Shared, s₃ = { s₂ with heap := h₁, toks := s₂.toks + ([] : List (Str × Value)).length } →
      codeAny C.M A (.compLoop e 0 (.ref I) (.ref s₂.heap.objs.size) (compEnvC scope (clGo env.cells scope.names []) H2.objs.size env)) (RR (.ref s₂.heap.objs.size) H2.objs.size) s₃ := by
    rintro s₃ rfl
    refine comp_loop (done := []) (hturn _ _ _) (hfr _ _ _) (hu _ _ _ _) Lit (fun b hb => .inr (.inl hb)) (.inl rfl) hDf hCf hDC hcl { s₂ with heap := h₁, toks := s₂.toks + ([] : List (Str × Value)).length } _ (fun b o e => ?_) ds rs hc 0 _ rfl (Nat.zero_le _) O4 st4 g4 ⟨#[], hacc0, rfl⟩ ⟨_, hns₁⟩ Sc1 (by simpa using hsz) ⟨h₁, _, rfl, fun _ _ _ _ _ e => e⟩ fun h' tk hacc hn' _ kk => ?_
    · have e1 := O.base b o e
      have e2 := g12 _ _ e1
      refine ⟨fun q => ?_, fun q => ?_, fun q => ?_⟩
      · rw [q, nD] at e2; cases e2
      · have : s₂.heap.get? b = none := by rw [q]; exact nC
        rw [this] at e2; cases e2
      · rw [L.new b q] at e1; cases e1
    · obtain ⟨m', hn'⟩ := hn'
      obtain ⟨ys, hp, hr⟩ := hacc
      refine hRR _ _ h' tk m' nD nC hDC hn' ⟨_, ys, rfl, fun q => ?_, hp.isList, ?_⟩ fun b o hb e => kk b o (below b (Heap.lt_size e)).2 (below b (Heap.lt_size e)).1 hb (old b o e)
      · obtain ⟨o, e⟩ := O.xb _ q; rw [nD1] at e; cases e
      · exact hr.shutS fun b hb => .inl (.inr (.inr hb))
  exact hstart _ _ _ _ _ (loop _ rfl) (Lit.self 0 _ _ _ st4 (loop _ rfl))

theorem names_ok {scope : Scope} (h : (scope.names.all fun x => decide (x.2 = .local → scope.names.lookup x.1 = some .local)) = true) : ∀ x ∈ scope.names, x.2 = .local → scope.names.lookup x.1 = some .local := fun x hx => of_decide_eq_true (List.all_eq_true.mp h x hx)

theorem free_cells {X : Addr → Prop} {env : Env} {h : Heap} {scope : Scope} (S : Sees X env h ρ) (hf : FreeOk ρ scope.names) : closureFor scope env = pure (clGo env.cells scope.names []) :=
  closure_ok fun p hp hk => by obtain ⟨d, hd⟩ := hf.at p hp hk; obtain ⟨_, c, _, a, _⟩ := S.names _ hd; exact ⟨c, a⟩

theorem start_list {A : Around} {elt target iter : Expr} {ifs : List Expr} {rest : List Comprehension} {scope : Scope} {pos : Pos} (it acc : Value) (cenv : Env) (R : Result → Shared → Prop) (s : Shared)
    (h0 : codeAny C.M A (.compLoop (.ListComp elt (⟨target, iter, ifs, 0⟩ :: rest) scope pos) 0 it acc cenv) R s)
    (h : wpAny C.M A (pyIter it) (fun it' s' => codeAny C.M A (.compLoop (.ListComp elt (⟨target, iter, ifs, 0⟩ :: rest) scope pos) 0 it' acc cenv) R s') (notedBy C.M A cenv fun x s' => R (.error x) s') s) :
    codeAny C.M A (.compStart (.ListComp elt (⟨target, iter, ifs, 0⟩ :: rest) scope pos) 0 it acc cenv) R s := codeAny_compStart_list h0 h

theorem ev_comp {elt tgt iter : Expr} {ifs : List Expr} {scope : Scope} {pos : Pos} {ds rs : List PyData} (ρc : Rho) (hi : IterR C k ρ iter tgt ds) (hρc : CompOk scope.names ρ ρc) (hfree : FreeOk ρ scope.names) (hc : CompR C k tgt ρc ifs (emit1 elt) ds rs) (hsz : rs.length ≤ 1000000)
    (hcell : (scope.names.all fun y => decide (y.2 ≠ .cell)) = true := by decide +kernel) (hkind : scope.kind = .function := by rfl) (hnames : (scope.names.all fun x => decide (x.2 = .local → scope.names.lookup x.1 = some .local)) = true := by decide +kernel) (hs : ∀ env x, foldedSetIterable iter env x = pure x := by intro _ _; rfl) :
    EvR C k ρ (.ListComp elt [⟨tgt, iter, ifs, 0⟩] scope pos) (.list rs) := by
  intro X A env s O S
  refine gv_of fun Q E hQ => ?_
  rw [eval_ListComp]
  refine wpAny_comprehension_free (use := none) rfl (hs env) (free_cells S hfree) hkind (names_ok hnames) (hi X A env s O S _ E fun I fp wr s₁ s₂ G St k1 L => ?_)
  refine comp_block (RR := fun acc Cc => compPost C.M A E none Q acc Cc) (turn_one elt tgt iter ifs scope pos) (fun _ _ _ => rfl) (fun A _ _ _ => rfl) start_list L (O.keeps k1) (S.grow k1.grow) (fun y hy => of_decide_eq_true (List.all_eq_true.mp hcell y hy)) hkind hρc hc hsz ?_
  intro D Cc h' tk m' nD nC hDC hn hr kk
  refine ⟨m', hn, fun h'' hs'' => hQ _ _ ?_ ?_⟩
  · obtain ⟨⟨h1, tk1, rfl, g1⟩, _⟩ := k1
    obtain ⟨h2, tk2, rfl, g2⟩ := L.k
    refine ⟨h'', tk, rfl, fun b o e => hs''.extBut b o (fun q => ?_) (kk b o (fun q => ?_) (g2 b o (g1 b o e)))⟩
    · have := g2 b o (g1 b o e); rw [q, nC] at this; cases this
    · have := L.new b q; rw [g1 b o e] at this; cases this
  · refine hr.mono fun b o vs n _ hd e => hs''.extBut b o (fun q => ?_) e
    obtain ⟨o', es, ep, ho', hd', _⟩ := hn
    subst q; rw [e] at ho'; cases ho'; rw [hd] at hd'; cases hd'

theorem start1 {A : Around} {e : Expr} {depth : Nat} {g : Comprehension} (it acc : Value) (cenv : Env) (R : Result → Shared → Prop) (s : Shared) (hg : (clausesOf e)[depth]? = some g) (hga : g.is_async = 0) (hfr : (Code.compStart e depth it acc cenv).isFrame = false) (hu : A.under (Code.compStart e depth it acc cenv) = A)
    (hq : (Code.compLoop e depth it acc cenv).quiet = true) (hq' : ∀ it', (Code.compLoop e depth it' acc cenv).quiet = true)
    (h0 : codeAny C.M A (.compLoop e depth it acc cenv) R s)
    (h : wpAny C.M A (pyIter it) (fun it' s' => codeAny C.M A (.compLoop e depth it' acc cenv) R s') (notedBy C.M A cenv fun x s' => R (.error x) s') s) :
    codeAny C.M A (.compStart e depth it acc cenv) R s := by
  refine codeAny_of_tree ?_
  rw [hu]
  show wpAny _ A (if (Code.compStart e depth it acc cenv).isFrame = true then _ else (compStart e depth it acc cenv).onRaise (fun x => do noteFrame x cenv; standAt theWindowsPlace)) _ _ s
  rw [hfr, if_neg Bool.false_ne_true]
  refine wpAny_notedAt ?_
  unfold compStart
  rw [hg]
  simp only [Option.elim_some, hga, bne_self_eq_false, Bool.false_eq_true, if_false]
  refine wpAny_bind (wpAny_askSetting (wpAny_ite ?_))
  split
  · first
      | exact wpAny_bind (wpAny_pure (wpAny_pure (And.intro hq h0)))
      | exact wpAny_pure (And.intro hq h0)
  · refine wpAny_bind (wpAny_rule (wpAny_bind (wpAny_standAt (wpAny_bind (wpAny_mono h (fun it' s' h' => wpAny_pure (And.intro (hq' it') h')) fun _ _ x => x)))))

/-- the inner for of a comprehension with two -/
theorem emit_two {elt t1 i1 t2 i2 : Expr} {f1 f2 : List Expr} {scope : Scope} {pos : Pos} {ds rs : List PyData} (hi : IterR C k ρ i2 t2 ds) (hc : CompR C k t2 ρ f2 (emit1 elt) ds rs) (hs : ∀ env x, foldedSetIterable i2 env x = pure x := by intro _ _; rfl) :
    EmitR C k (emit2 (.ListComp elt [⟨t1, i1, f1, 0⟩, ⟨t2, i2, f2, 0⟩] scope pos) i2) ρ rs := by
  intro Y A cenv s D done O hYD hDC hbD hbC acc hn S hsz Q E hQ
  unfold emit2
  refine wpAny_bind (wpAny_mono (hi Y A cenv s O S _ E fun I fp wr s₁ s₂ G St k1 L => ?_) (fun xv s' h => wpAny_bind (wpAny_standAt (wpAny_bind (wpAny_of_eq (hs cenv xv) (wpAny_bind (wpAny_holding h)))))) fun _ _ x => x)
  have g12 : Grow s₁.heap s₂.heap := by obtain ⟨h', tk, rfl, g⟩ := L.k; exact g
  have e1 : Grow s.heap s₁.heap := k1.grow
  let Y2 : Addr → Prop := fun b => b ∈ wr ∨ Y b
  have hY1 : ∀ b, Y2 b → Y b ∨ s₁.heap.get? b = none := fun b hb => hb.elim (fun q => .inr (L.new b q)) .inl
  have Lit := L.it Y2 (fun b hb => .inl hb)
  have O1 := O.keeps k1
  have O2 : Ok C Y2 k A s₂ := ⟨O.hd, O.dp, O.un, fun b o e => g12 b o (O1.base b o e), fun b hb => by
    rcases hb with hb | hb
    · exact Lit.live _ _ L.st b hb
    · obtain ⟨o, e⟩ := O1.xb b hb; exact ⟨o, g12 b o e⟩⟩
  have S2 : Sees Y2 cenv s₂.heap ρ := ((S.grow e1).shutS hY1).grow g12
  obtain ⟨ys, hp, hr⟩ := id acc
  have acc2 : AccIs Y2 s₂.heap D done := ⟨ys, hp.at fun o e => g12 _ o (e1 _ o e), ((hr.grow e1).shutS hY1).grow g12⟩
  have hDf : D ∉ fp := fun q => L.nx D q hYD
  have hn2 : ∃ m, s₂.heap.Ns cenv.locals m := let ⟨m, x⟩ := hn; ⟨m, (x.keeps e1).keeps g12⟩
  have hCf : cenv.locals ∉ fp := fun q => by
    obtain ⟨o, ho, hnd, _⟩ := L.foot _ q
    obtain ⟨m, o', es, ep, ho', hd', _⟩ := hn2
    rw [ho] at ho'; cases ho'; exact hnd _ _ hd'
  have hcl : ∀ x d c, (x, Bd.cel d) ∈ ρ → cenv.cells.lookup x = some c → c ∉ fp := by
    intro x d c hm hl hf
    obtain ⟨_, c', v, a2, ⟨o, ho, hdat⟩, _⟩ := S2.names _ hm
    rw [hl] at a2; cases a2
    obtain ⟨o', ho', _, hnc⟩ := L.foot _ hf
    rw [ho] at ho'; cases ho'; exact hnc _ hdat
  refine wpAny_bind (wpAny_runOwn ?_)
  have loop : codeAny C.M A (.compLoop (.ListComp elt [⟨t1, i1, f1, 0⟩, ⟨t2, i2, f2, 0⟩] scope pos) 1 (.ref I) (.ref D) cenv) (fun r s' => match r with | .ok f => wpAny C.M A (pure ()) Q E s' | .error e => cameBackBy C.M A cenv E e s') s₂ := by
    refine comp_loop (turn_two1 elt t1 i1 t2 i2 f1 f2 scope pos _ _ _) rfl rfl Lit (fun b hb => .inl hb) (.inr hYD) hDf hCf hDC hcl s₂ _ (fun b o e => ?_) ds rs hc 0 done s₂ rfl (Nat.zero_le _) O2 L.st (L.g Y2 hY1) acc2 hn2 S2 hsz ⟨s₂.heap, s₂.toks, rfl, fun _ _ _ _ _ e => e⟩ fun h' tk hacc hn' S' kk => ?_
    · have eb := O.base b o e
      refine ⟨fun q => ?_, fun q => ?_, fun q => ?_⟩
      · rw [q, hbD] at e; cases e
      · rw [q, hbC] at e; cases e
      · have := L.new b q; rw [e1 b o eb] at this; cases this
    · refine wpAny_pure ?_
      have := hQ h' tk ?_ hn' (S'.shutS fun b hb => .inl (.inr hb)) fun b o b1 b2 e => kk b o b1 b2 (fun q => ?_) (g12 b o (e1 b o e))
      · obtain ⟨⟨h1, tk1, rfl, g1⟩, _⟩ := k1
        obtain ⟨h2, tk2, rfl, g2⟩ := L.k
        exact this
      · obtain ⟨ys', hp', hr'⟩ := hacc
        exact ⟨ys', hp', hr'.shutS fun b hb => .inl (.inr hb)⟩
      · have := L.new b q; rw [e1 b o e] at this; cases this
  exact start1 (A := A) (g := ⟨t2, i2, f2, 0⟩) _ _ _ _ _ rfl rfl rfl rfl rfl (fun _ => rfl) loop (Lit.self 0 _ _ _ L.st loop)

theorem ev_comp2 {elt t1 i1 t2 i2 : Expr} {f1 f2 : List Expr} {scope : Scope} {pos : Pos} {ds rs : List PyData} (ρc : Rho) (hi : IterR C k ρ i1 t1 ds) (hρc : CompOk scope.names ρ ρc) (hfree : FreeOk ρ scope.names) (hc : CompR C k t1 ρc f1 (emit2 (.ListComp elt [⟨t1, i1, f1, 0⟩, ⟨t2, i2, f2, 0⟩] scope pos) i2) ds rs) (hsz : rs.length ≤ 1000000)
    (hcell : (scope.names.all fun y => decide (y.2 ≠ .cell)) = true := by decide +kernel) (hkind : scope.kind = .function := by rfl) (hnames : (scope.names.all fun x => decide (x.2 = .local → scope.names.lookup x.1 = some .local)) = true := by decide +kernel) (hs : ∀ env x, foldedSetIterable i1 env x = pure x := by intro _ _; rfl) :
    EvR C k ρ (.ListComp elt [⟨t1, i1, f1, 0⟩, ⟨t2, i2, f2, 0⟩] scope pos) (.list rs) := by
  intro X A env s O S
  refine gv_of fun Q E hQ => ?_
  rw [eval_ListComp]
  refine wpAny_comprehension_free (use := none) rfl (hs env) (free_cells S hfree) hkind (names_ok hnames) (hi X A env s O S _ E fun I fp wr s₁ s₂ G St k1 L => ?_)
  refine comp_block (RR := fun acc Cc => compPost C.M A E none Q acc Cc) (turn_two0 elt t1 i1 t2 i2 f1 f2 scope pos) (fun _ _ _ => rfl) (fun A _ _ _ => rfl) start_list L (O.keeps k1) (S.grow k1.grow) (fun y hy => of_decide_eq_true (List.all_eq_true.mp hcell y hy)) hkind hρc hc hsz ?_
  intro D Cc h' tk m' nD nC hDC hn hr kk
  refine ⟨m', hn, fun h'' hs'' => hQ _ _ ?_ ?_⟩
  · obtain ⟨⟨h1, tk1, rfl, g1⟩, _⟩ := k1
    obtain ⟨h2, tk2, rfl, g2⟩ := L.k
    refine ⟨h'', tk, rfl, fun b o e => hs''.extBut b o (fun q => ?_) (kk b o (fun q => ?_) (g2 b o (g1 b o e)))⟩
    · have := g2 b o (g1 b o e); rw [q, nC] at this; cases this
    · have := L.new b q; rw [g1 b o e] at this; cases this
  · refine hr.mono fun b o vs n _ hd e => hs''.extBut b o (fun q => ?_) e
    obtain ⟨o', es, ep, ho', hd', _⟩ := hn
    subst q; rw [e] at ho'; cases ho'; rw [hd] at hd'; cases hd'

theorem swaps_true {env : Env} {elt : Expr} {gens : List Comprehension} {scope : Scope} {cp xp : Pos} {x : Str} {line : Nat} (hk : env.scope.kind = .function) (hl : env.kindOf x = some .local) (hline : (xp.line == cp.line) = true) (hf : (scope.names.any fun (n, k) => n == x && (k == .local || k == .cell)) = false) :
    swapsWith (.ListComp elt gens scope cp) (some (.Name x xp)) line env = pure true := by
  show (pure (env.blockKind == .function && env.kindOf x == some .local && xp.line == cp.line && !(scope.names.any fun (n, k) => n == x && (k == .local || k == .cell))) : Sem Bool) = pure true
  have : env.blockKind = .function := by unfold Env.blockKind; rw [hk]; rfl
  rw [this, hl, hline, hf]; rfl
theorem swaps_false {env : Env} {elt : Expr} {gens : List Comprehension} {scope : Scope} {cp xp : Pos} {x : Str} {line : Nat} (hl : env.kindOf x = some .cell) : swapsWith (.ListComp elt gens scope cp) (some (.Name x xp)) line env = pure false := by
  show (pure (env.blockKind == .function && env.kindOf x == some .local && xp.line == cp.line && !(scope.names.any fun (n, k) => n == x && (k == .local || k == .cell))) : Sem Bool) = pure false
  rw [hl, show ((some NameKind.cell : Option NameKind) == some .local) = false from rfl, Bool.and_false]; rfl

/-- x = [..] where x is a cell: as any assignment -/
theorem st_assign_ccel {x : Str} {xp pos cp : Pos} {elt : Expr} {gens : List Comprehension} {scope : Scope} {d : PyData} {ρ' : Rho} {b : Bd} (hx : (x, b) ∈ ρ) (hb : b = .unc ∨ ∃ e, b = .cel e) (he : EvR C k ρ (.ListComp elt gens scope cp) d) (hset : SetL ρ x d ρ') : StR C k ρ (.Assign [.Name x xp] (.ListComp elt gens scope cp) pos) (.next ρ') := by
  intro X A env s O w S Q E hQ
  have hk : env.kindOf x = some .cell := by
    have N := S.names _ hx
    rcases hb with rfl | ⟨e, rfl⟩
    · exact N.1
    · exact N.1
  refine wpAny_Assign_Name (he X A env s O S _ E fun v s1 k1 r1 => store_set (w.grow k1.grow) (S.grow k1.grow) hset r1 fun s2 k2 w2 S2 => ?_) (swaps_false hk)
  exact hQ _ s2 (k1.b.tr k2) w2 ⟨rfl, S2⟩

/-- x = [..] where x is a plain local -/
theorem st_assign_comp {x : Str} {xp pos cp : Pos} {elt tgt iter : Expr} {ifs : List Expr} {scope : Scope} {ds rs : List PyData} {ρ' : Rho} {b : Bd} (ρc : Rho) (hx : (x, b) ∈ ρ) (hb : b = .unl ∨ ∃ e, b = .loc e) (hi : IterR C k ρ iter tgt ds) (hρc : CompOk scope.names ρ ρc) (hfree : FreeOk ρ scope.names) (hc : CompR C k tgt ρc ifs (emit1 elt) ds rs) (hsz : rs.length ≤ 1000000) (hset : SetL ρ x (.list rs) ρ')
    (hcell : (scope.names.all fun y => decide (y.2 ≠ .cell)) = true := by decide +kernel) (hkind : scope.kind = .function := by rfl) (hnames : (scope.names.all fun x => decide (x.2 = .local → scope.names.lookup x.1 = some .local)) = true := by decide +kernel) (hs : ∀ env x, foldedSetIterable iter env x = pure x := by intro _ _; rfl)
    (hline : (xp.line == cp.line) = true := by rfl) (hf : (scope.names.any fun (n, k) => n == x && (k == .local || k == .cell)) = false := by decide +kernel) : StR C k ρ (.Assign [.Name x xp] (.ListComp elt [⟨tgt, iter, ifs, 0⟩] scope cp) pos) (.next ρ') := by
  intro X A env s O w S Q E hQ
  have hk : env.kindOf x = some .local := by
    have N := S.names _ hx
    rcases hb with rfl | ⟨e, rfl⟩
    · exact N
    · exact N.1
  rw [exec_Assign_Name_used _ _ _ _ (swaps_true S.kind hk hline hf)]
  refine wpAny_bind (wpAny_standAt (wpAny_bind ?_))
  show wpAny _ A (do let _ ← comprehension (.ListComp elt [⟨tgt, iter, ifs, 0⟩] scope cp) scope env _ (newList []) false (eval iter env) (some (assign (.Name x xp) env))) _ _ s
  refine wpAny_bind (wpAny_mono (wpAny_comprehension_free (use := some (assign (.Name x xp) env)) (Q := fun _ s' => Q .next s') rfl (hs env) (free_cells S hfree) hkind (names_ok hnames) (hi X A env s O S _ E fun I fp wr s₁ s₂ G St k1 L => ?_)) (fun _ s' hq => wpAny_pure (wpAny_pure hq)) fun _ _ e => e)
  refine comp_block (RR := fun acc Cc => compPost C.M A E (some (assign (.Name x xp) env)) (fun _ s' => Q .next s') acc Cc) (turn_one elt tgt iter ifs scope cp) (fun _ _ _ => rfl) (fun A _ _ _ => rfl) start_list L (O.keeps k1) (S.grow k1.grow) (fun y hy => of_decide_eq_true (List.all_eq_true.mp hcell y hy)) hkind hρc hc hsz ?_
  intro D Cc h' tk m' nD nC hDC hn hr kk
  have kept : ∀ b o, s.heap.get? b = some o → h'.get? b = some o := by
    intro b o e
    have e1 := k1.grow b o e
    refine kk b o (fun q => ?_) (by obtain ⟨h2, tk2, rfl, g2⟩ := L.k; exact g2 b o e1)
    have := L.new b q; rw [e1] at this; cases this
  have inS2 : ∀ b o, s.heap.get? b = some o → s₂.heap.get? b = some o := fun b o e => by
    have e1 := k1.grow b o e
    obtain ⟨h2, tk2, rfl, g2⟩ := L.k; exact g2 b o e1
  have w' : Own C env h' := w.grow kept
  have hCm : ¬ MyA env Cc := by
    rintro (q | ⟨n, hm⟩)
    · obtain ⟨m, o, es, ep, ho, _⟩ := w.ns; rw [← q] at ho; have := inS2 _ _ ho; rw [nC] at this; cases this
    · obtain ⟨v, o, ho, _⟩ := w.cells n Cc hm; have := inS2 _ _ ho; rw [nC] at this; cases this
  show wpAny _ A (assign (.Name x xp) env (.ref D)) _ _ _
  refine assign_Name (store_set (s := { s₂ with heap := h', toks := tk }) w' (S.grow kept) hset hr fun s3 k3 w3 S3 => ?_)
  have hn3 : s3.heap.Ns Cc m' := by obtain ⟨h3, tk3, rfl, g3⟩ := k3; exact hn.at' fun o e => g3 _ o hCm e
  refine ⟨m', hn3, fun h4 hs4 => hQ _ _ ?_ ?_ ⟨rfl, ?_⟩⟩
  · obtain ⟨⟨h1, tk1, rfl, g1⟩, _⟩ := k1
    obtain ⟨h2, tk2, rfl, g2⟩ := L.k
    obtain ⟨h3, tk3, rfl, g3⟩ := k3
    refine ⟨h4, tk3, rfl, fun b o hm e => hs4.extBut b o (fun q => ?_) (g3 b o hm (kept b o e))⟩
    have := inS2 b o e; rw [q, nC] at this; cases this
  · exact w3.move fun b o hm e => hs4.extBut b o (fun q => hCm (q ▸ hm)) e
  · refine S3.move (fun b o vs n _ hd e => hs4.extBut b o (fun q => ?_) e) fun b o hm e => hs4.extBut b o (fun q => hCm (q ▸ hm)) e
    obtain ⟨o', es, ep, ho', hd', _⟩ := hn3
    subst q; rw [e] at ho'; cases ho'; rw [hd] at hd'; cases hd'
end
end Mine
end
section
open PySem PySem.W PyProof.Rows
open Builtin Builtin.Str
set_option Elab.async false
set_option maxRecDepth 100000
namespace Mine

noncomputable def rangeD (a n : Nat) : List PyData := (List.range n).map fun (i : Nat) => PyData.int ((a : Int) + (i : Int))

section
variable {C : Cx} {k : Nat} {ρ : Rho}

theorem go_name {A : Around} {s : Shared} {x : Str} {xp : Pos} {it v : Value} {Q : Unit → Shared → Prop} {E : Value → Shared → Prop} (h : Q () s) : wpAny C.M A (letOwnedTupleGo (.Name x xp) it v) Q E s := wpAny_pure h

theorem laid_range {X : Addr → Prop} {A : Around} {x : Str} {xp : Pos} {s s₁ : Shared} {a n : Nat} (hh : A.handled = none) (hxb : ∀ b, X b → ∃ o, s₁.heap.get? b = some o) (k1 : PySem.Keeps s s₁) :
    Laid1 C X A (.Name x xp) (rangeD a n) s { s₁ with heap := s₁.heap.push { cls := .type "range_iterator", data := .fields #[rawInt a, rawInt n, rawInt 1] } } s₁.heap.objs.size [s₁.heap.objs.size] [s₁.heap.objs.size] (fun _ _ => True) (fun i h => IsRangeIter h s₁.heap.objs.size ((a : Int) + (i : Nat) * 1) ((n : Int) - (i : Nat)) 1) := by
  have W := Walks.range (prog := C.prog) (w := C.w) hh s₁.heap.objs.size (a : Int) 1 n
  have hlen : (rangeD a n).length = n := by simp [rangeD]
  refine ⟨fun Y hY => ⟨W.sub, W.frame, fun i h st b hb => ?_, fun _ _ _ _ => trivial, fun i d s1 Q E hd st g _ hQ => ?_, fun s1 Q E st hQ => ?_, W.self⟩, ?_, fun _ _ => trivial, ?_, fun b hb => ?_, fun b hb => ?_, fun b hb => ?_⟩
  · simp at hb; subst hb; exact ⟨_, st⟩
  · have hi : i < n := by have := (List.getElem?_eq_some_iff.mp hd).1; rwa [hlen] at this
    refine W.item i s1 _ _ hi st fun v h' tk hv st' kk => ?_
    refine hQ v _ fun Q2 E2 hQ2 => go_name (hQ2 h' tk st' ?_ kk)
    obtain ⟨t, rfl⟩ := hv
    have : d = PyData.int ((a : Int) + (i : Int)) := by
      unfold rangeD at hd
      rw [List.getElem?_map, List.getElem?_range hi] at hd
      exact (Option.some.inj hd).symm
    subst this
    exact ⟨t, by rw [Int.mul_one]⟩
  · exact W.done s1 _ _ (by rw [hlen] at st; exact st) hQ
  · show Heap.get? _ _ = _
    rw [Heap.get?_push_size _ rfl]; simp
  · obtain ⟨h', tk, rfl, g⟩ := k1; exact ⟨_, tk, rfl, fun b o e => Heap.get?_push_of_some _ (g b o e)⟩
  · simp at hb; subst hb
    cases q : s.heap.get? s₁.heap.objs.size with
    | none => rfl
    | some o => obtain ⟨h', tk, rfl, g⟩ := k1; have := g _ _ q; rw [get_none (Nat.le_refl _)] at this; cases this
  · simp at hb; subst hb
    intro q; obtain ⟨o, e⟩ := hxb _ q; rw [get_none (Nat.le_refl _)] at e; cases e
  · simp at hb; subst hb
    exact ⟨_, Heap.get?_push_size _ rfl, fun _ _ => by simp, fun _ => by simp⟩

theorem it_range1 {np pos xp : Pos} {x : Str} {e : Expr} {n : Nat} (hx : (("range" : Str), Bd.glo) ∈ ρ) (hm : C.mg "range" = none) (he : EvR C k ρ e (.int n)) (hz : n ≤ 1000000) (hs : ∀ env, starEach [e] env = [(false, eval e env)] := by intro _; rfl) :
    IterR C k ρ (.Call (.Name "range" np) [e] [] pos) (.Name x xp) (rangeD 0 n) := by
  intro X A env s O S Q E hQ
  refine Call_name1 (hs env) (ev_builtin (v := .type "range") O S hx hm (by decide +kernel) (by decide) (PySem.callWith_type1 ?_))
  refine he X A env s O S _ E fun v s1 k1 r1 => ?_
  obtain ⟨t, rfl⟩ := r1
  refine call_range_1 ?_
  have kk : PySem.Keeps s1 { s1 with heap := s1.heap.push { cls := .type "range", data := .fields #[.int 0 s1.toks, .int n t, .int 1 (s1.toks + 1)] }, toks := s1.toks + 1 + 1 } := kept_push
  refine wpAny_pyIter_range (Heap.get?_push_size _ rfl) (small_one (by decide) (by decide) (by omega) (by omega)) ?_
  have hsz : Builtin.Range.rangeSize 0 (n : Int) 1 = (n : Int) := by rw [rangeSize_one]; split <;> omega
  rw [hsz]
  exact hQ _ _ _ s1 _ _ _ k1 (laid_range O.hd (fun b hb => by obtain ⟨o, e⟩ := (O.keeps k1).xb b hb; exact ⟨o, Heap.get?_push_of_some _ e⟩) kk)

theorem it_range2 {np pos xp : Pos} {x : Str} {e1 e2 : Expr} {a n : Nat} (hx : (("range" : Str), Bd.glo) ∈ ρ) (hm : C.mg "range" = none) (h1 : EvR C k ρ e1 (.int a)) (h2 : EvR C k ρ e2 (.int ((a : Int) + n))) (hz : a + n ≤ 1000000) (hs : ∀ env, starEach [e1, e2] env = [(false, eval e1 env), (false, eval e2 env)] := by intro _; rfl) :
    IterR C k ρ (.Call (.Name "range" np) [e1, e2] [] pos) (.Name x xp) (rangeD a n) := by
  intro X A env s O S Q E hQ
  refine Call_ (ev_builtin (v := .type "range") O S hx hm (by decide +kernel) (by decide) ?_)
  rw [hs env]
  refine PySem.callWith_type rfl (Calls.evalArgs_plain (Calls.spliced_cons ?_))
  refine h1 X A env s O S _ E fun v s1 k1 r1 => Calls.spliced_cons ?_
  obtain ⟨t, rfl⟩ := r1
  refine h2 X A env s1 (O.keeps k1) (S.grow k1.grow) _ E fun v s2 k2 r2 => Calls.spliced_nil ?_
  obtain ⟨u, rfl⟩ := r2
  refine call_range_2 ?_
  have k12 := k1.tr k2
  have kk : PySem.Keeps s2 { s2 with heap := s2.heap.push { cls := .type "range", data := .fields #[.int a t, .int ((a : Int) + n) u, .int 1 s2.toks] }, toks := s2.toks + 1 } := kept_push
  refine wpAny_pyIter_range (Heap.get?_push_size _ rfl) (small_one (by omega) (by omega) (by omega) (by omega)) ?_
  have hsz : Builtin.Range.rangeSize (a : Int) ((a : Int) + n) 1 = (n : Int) := by rw [rangeSize_one]; split <;> omega
  rw [hsz]
  exact hQ _ _ _ s2 _ _ _ k12 (laid_range O.hd (fun b hb => by obtain ⟨o, e⟩ := (O.keeps k12).xb b hb; exact ⟨o, Heap.get?_push_of_some _ e⟩) kk)

/- tuples handed out -/
theorem laid_walksT {X : Addr → Prop} {A : Around} {elts : List Expr} {n0 : Nat} {tp : Pos} {ds : List PyData} {s₁ s₂ : Shared} {I : Addr} {fp wr : List Addr} {n : Nat} {Pt : Nat → Array Value → Prop} {St : Nat → Heap → Prop} {Mid : Nat → Addr → Heap → Prop} {G : (Addr → Prop) → Heap → Prop}
    (W : WalksT C.prog C.w A I fp wr n Pt St Mid) (hn : ds.length = n) (hst : St 0 s₂.heap) (hk : PySem.Keeps s₁ s₂) (hnew : ∀ b ∈ wr, s₁.heap.get? b = none) (hlive : ∀ i h, St i h → ∀ b ∈ wr, ∃ o, h.get? b = some o) (hnx : ∀ b ∈ fp, ¬ X b)
    (hfoot : ∀ b ∈ fp, ∃ o, s₂.heap.get? b = some o ∧ (∀ es n, o.data ≠ .dict es n) ∧ (∀ v, o.data ≠ .cell v))
    (hmono : ∀ Y h h', G Y h → (∀ b o (vs : Array Value) n, ¬ Y b → o.data = .seq vs n → h.get? b = some o → h'.get? b = some o) → G Y h') (hg : ∀ Y, (∀ b, Y b → X b ∨ s₁.heap.get? b = none) → G Y s₂.heap)
    (hitem : ∀ Y i d vals h, ds[i]? = some d → Pt i vals → G Y h → ∃ es, d = .tuple es ∧ RdL Y h es vals.toList) : Laid1 C X A (.Tuple elts n0 tp) ds s₁ s₂ I fp wr G St := by
  refine ⟨fun Y hY => ⟨W.sub, W.frame, hlive, fun h h' g hk => hmono Y h h' g hk, fun i d s1 Q E hd st g hyb hQ => ?_, fun s1 Q E st hQ => ?_, W.self⟩, hst, hg, hk, hnew, hnx, hfoot⟩
  · have hi : i < n := by have := (List.getElem?_eq_some_iff.mp hd).1; rwa [hn] at this
    refine W.item i s1 _ _ hi st fun T vals h' tk hP hT1 hT2 hm kk => ?_
    refine hQ _ _ fun Q2 E2 hQ2 => W.go _ _ _ i T _ _ _ hm fun h2 st2 kk2 => ?_
    have sq : ∀ b o (vs : Array Value) n, ¬ Y b → o.data = .seq vs n → s1.heap.get? b = some o → h2.get? b = some o := fun b o vs n hy _ e => kk2 b o (fun q => hy (hY b q)) (kk b o (fun q => hy (hY b q)) e)
    obtain ⟨es, rfl, hr⟩ := hitem Y i d vals h2 hd hP (hmono Y _ _ g sq)
    refine hQ2 h2 tk st2 ⟨T, vals, rfl, fun q => ?_, ?_, hr⟩ fun b o hb e => kk2 b o hb (kk b o hb e)
    · obtain ⟨o, e⟩ := hyb T q
      exact absurd (Heap.lt_size e) (Nat.not_lt.mpr hT1)
    · exact hT2.at fun o e => kk2 T o (W.apart i T _ hm) e
  · exact W.done s1 _ _ (by rw [hn] at st; exact st) hQ

noncomputable def zipD (as bs : List PyData) : List PyData := (as.zip bs).map fun p => PyData.tuple [p.1, p.2]

theorem it_zip {np pos tp : Pos} {elts : List Expr} {n0 : Nat} {e1 e2 : Expr} {as bs : List PyData} (hx : (("zip" : Str), Bd.glo) ∈ ρ) (hm : C.mg "zip" = none) (h1 : EvR C k ρ e1 (.list as)) (h2 : EvR C k ρ e2 (.list bs)) (hs : ∀ env, starEach [e1, e2] env = [(false, eval e1 env), (false, eval e2 env)] := by intro _; rfl) :
    IterR C k ρ (.Call (.Name "zip" np) [e1, e2] [] pos) (.Tuple elts n0 tp) (zipD as bs) := by
  intro X A env s O S Q E hQ
  refine Call_ (ev_builtin (v := .type "zip") O S hx hm (by decide +kernel) (by decide) ?_)
  rw [hs env]
  refine PySem.callWith_type rfl (Calls.evalArgs_plain (Calls.spliced_cons ?_))
  refine h1 X A env s O S _ E fun v s1 k1 r1 => Calls.spliced_cons ?_
  refine h2 X A env s1 (O.keeps k1) (S.grow k1.grow) _ E fun v2 s2 k2 r2 => Calls.spliced_nil ?_
  obtain ⟨l1, vs, rfl, hx1, hl1, hr1⟩ := r1.grow k2.grow
  obtain ⟨l2, ws, rfl, hx2, hl2, hr2⟩ := r2
  have O2 := (O.keeps k1).keeps k2
  refine call_zip_2 hl1 hl2 fun h' hz hTI hTO hi1 hi2 hsz hk => ?_
  have b1 : @LT.lt Nat _ l1 s2.heap.objs.size := by obtain ⟨o, ho, _⟩ := hl1; exact Heap.lt_size ho
  have b2 : @LT.lt Nat _ l2 s2.heap.objs.size := by obtain ⟨o, ho, _⟩ := hl2; exact Heap.lt_size ho
  have D : ZipApart (s2.heap.objs.size + 4) (s2.heap.objs.size + 2) (s2.heap.objs.size + 3) s2.heap.objs.size (s2.heap.objs.size + 1) l1 l2 := by
    constructor <;> (refine nat_ne fun q => ?_; omega)
  have W := WalksT.zip2 (prog := C.prog) (w := C.w) (A := A) O.hd _ _ _ _ _ _ _ D vs ws
  have e1 : vs.size = as.length := getElem_of_rdl hr1
  have e2 : ws.size = bs.length := getElem_of_rdl hr2
  refine wpAny_pyIter_zip hz ((fun L => hQ _ _ _ s2 _ _ _ (k1.tr k2) L) (laid_walksT (X := X) (elts := elts) (n0 := n0) (tp := tp) (ds := zipD as bs) (s₁ := s2) (s₂ := { s2 with heap := h' }) (G := fun Y h => RdL Y h as vs.toList ∧ RdL Y h bs ws.toList) W ?_ ?_ ⟨h', s2.toks, rfl, hk⟩ ?_ ?_ ?_ ?_ ?_ ?_ ?_))
  · simp [zipD, e1, e2]
  · exact ⟨hz, hTI, ⟨_, _, hTO⟩, hi1, hi2, hl1.at fun o e => hk _ o e, hl2.at fun o e => hk _ o e⟩
  · intro b hb; simp at hb; rcases hb with rfl | rfl | rfl | rfl <;> exact get_none (by omega)
  · intro i h st b hb
    obtain ⟨a1, a2, ⟨x, y, a3⟩, a4, a5, _⟩ := st
    simp at hb; rcases hb with rfl | rfl | rfl | rfl
    · exact ⟨_, a1⟩
    · exact ⟨_, a3⟩
    · obtain ⟨o, ho, _⟩ := a4; exact ⟨o, ho⟩
    · obtain ⟨o, ho, _⟩ := a5; exact ⟨o, ho⟩
  · intro b hb q
    have hlt : @LT.lt Nat _ b s2.heap.objs.size := by obtain ⟨o, e⟩ := O2.xb b q; exact Heap.lt_size e
    simp at hb
    rcases hb with rfl | rfl | rfl | rfl | rfl | rfl | rfl
    · omega
    · omega
    · omega
    · omega
    · omega
    · exact hx1 q
    · exact hx2 q
  · intro b hb
    simp at hb
    rcases hb with rfl | rfl | rfl | rfl | rfl | rfl | rfl
    · exact ⟨_, hz, fun _ _ => by simp, fun _ => by simp⟩
    · exact ⟨_, hTI, fun _ _ => by simp, fun _ => by simp⟩
    · exact ⟨_, hTO, fun _ _ => by simp, fun _ => by simp⟩
    · obtain ⟨o, ho, hc, hd⟩ := hi1; exact ⟨o, ho, fun _ _ => by rw [hd]; simp, fun _ => by rw [hd]; simp⟩
    · obtain ⟨o, ho, hc, hd⟩ := hi2; exact ⟨o, ho, fun _ _ => by rw [hd]; simp, fun _ => by rw [hd]; simp⟩
    · obtain ⟨o, ho, hc, n, hd⟩ := hl1; exact ⟨o, hk _ _ ho, fun _ _ => by rw [hd]; simp, fun _ => by rw [hd]; simp⟩
    · obtain ⟨o, ho, hc, n, hd⟩ := hl2; exact ⟨o, hk _ _ ho, fun _ _ => by rw [hd]; simp, fun _ => by rw [hd]; simp⟩
  · intro Y h h2 g hk2; exact ⟨g.1.mono hk2, g.2.mono hk2⟩
  · intro Y hY; exact ⟨(hr1.shutS hY).grow hk, (hr2.shutS hY).grow hk⟩
  · intro Y i d vals h hd hP g
    obtain ⟨x, y, hx', hy', rfl⟩ := hP
    obtain ⟨dx, hdx, rx⟩ := g.1.get (by simpa using hx')
    obtain ⟨dy, hdy, ry⟩ := g.2.get (by simpa using hy')
    have : d = PyData.tuple [dx, dy] := by
      unfold zipD at hd
      rw [List.getElem?_map, List.getElem?_zip_eq_some (z := (dx, dy)).mpr ⟨hdx, hdy⟩] at hd
      exact (Option.some.inj hd).symm
    exact ⟨_, this, x, [y], rfl, rx, y, [], rfl, ry, rfl⟩

noncomputable def enumD (as : List PyData) : List PyData := (List.range as.length).map fun (i : Nat) => PyData.tuple [PyData.int (i : Nat), as.getD i .none]

theorem it_enum {np pos tp : Pos} {elts : List Expr} {n0 : Nat} {e1 : Expr} {as : List PyData} (hx : (("enumerate" : Str), Bd.glo) ∈ ρ) (hm : C.mg "enumerate" = none) (h1 : EvR C k ρ e1 (.list as)) (hs : ∀ env, starEach [e1] env = [(false, eval e1 env)] := by intro _; rfl) :
    IterR C k ρ (.Call (.Name "enumerate" np) [e1] [] pos) (.Tuple elts n0 tp) (enumD as) := by
  intro X A env s O S Q E hQ
  refine Call_name1 (hs env) (ev_builtin (v := .type "enumerate") O S hx hm (by decide +kernel) (by decide) (PySem.callWith_type1 ?_))
  refine h1 X A env s O S _ E fun v s2 k1 r1 => ?_
  obtain ⟨l1, vs, rfl, hx1, hl1, hr1⟩ := r1
  have O2 := O.keeps k1
  refine call_enumerate_list hl1 fun h' he hi1 hsz hk => ?_
  have b1 : @LT.lt Nat _ l1 s2.heap.objs.size := by obtain ⟨o, ho, _⟩ := hl1; exact Heap.lt_size ho
  have W := WalksT.enumerate (prog := C.prog) (w := C.w) (A := A) O.hd (s2.heap.objs.size + 1) s2.heap.objs.size l1 (Nat.succ_ne_self _) (Nat.ne_of_lt (Nat.lt_succ_of_lt b1)) (Nat.ne_of_lt b1) vs
  have e1 : vs.size = as.length := getElem_of_rdl hr1
  refine wpAny_pyIter_enum he ((fun L => hQ _ _ _ s2 _ _ _ k1 L) (laid_walksT (X := X) (elts := elts) (n0 := n0) (tp := tp) (ds := enumD as) (s₁ := s2) (s₂ := { s2 with heap := h' }) (G := fun Y h => RdL Y h as vs.toList) W ?_ ?_ ⟨h', s2.toks, rfl, hk⟩ ?_ ?_ ?_ ?_ ?_ ?_ ?_))
  · simp [enumD, e1]
  · exact ⟨⟨_, he⟩, hi1, hl1.at fun o e => hk _ o e⟩
  · intro b hb; simp at hb; rcases hb with rfl | rfl <;> exact get_none (by omega)
  · intro i h st b hb
    obtain ⟨⟨old, a1⟩, a4, _⟩ := st
    simp at hb; rcases hb with rfl | rfl
    · exact ⟨_, a1⟩
    · obtain ⟨o, ho, _⟩ := a4; exact ⟨o, ho⟩
  · intro b hb q
    have hlt : @LT.lt Nat _ b s2.heap.objs.size := by obtain ⟨o, e⟩ := O2.xb b q; exact Heap.lt_size e
    simp at hb
    rcases hb with rfl | rfl | rfl
    · omega
    · omega
    · exact hx1 q
  · intro b hb
    simp at hb
    rcases hb with rfl | rfl | rfl
    · exact ⟨_, he, fun _ _ => by simp, fun _ => by simp⟩
    · obtain ⟨o, ho, hc, hd⟩ := hi1; exact ⟨o, ho, fun _ _ => by rw [hd]; simp, fun _ => by rw [hd]; simp⟩
    · obtain ⟨o, ho, hc, n, hd⟩ := hl1; exact ⟨o, hk _ _ ho, fun _ _ => by rw [hd]; simp, fun _ => by rw [hd]; simp⟩
  · intro Y h h2 g hk2; exact g.mono hk2
  · intro Y hY; exact (hr1.shutS hY).grow hk
  · intro Y i d vals h hd hP g
    obtain ⟨t, x, hx', rfl⟩ := hP
    obtain ⟨dx, hdx, rx⟩ := g.get (by simpa using hx')
    have hi : i < as.length := (List.getElem?_eq_some_iff.mp hdx).1
    have : d = PyData.tuple [PyData.int (i : Nat), dx] := by
      unfold enumD at hd
      rw [List.getElem?_map, List.getElem?_range hi] at hd
      rw [← Option.some.inj hd]
      simp [List.getD, hdx]
    exact ⟨_, this, .int i t, [x], rfl, ⟨t, rfl⟩, x, [], rfl, rx, rfl⟩

theorem casg_tuple {xs : List (Str × Pos)} {n : Nat} {pos : Pos} {ds : List PyData} {ρ' : Rho} (h : CSets ρ (xs.map (·.1)) ds ρ') (hl : ds.length = xs.length) : CAsgR C k (.Tuple (nameTgts xs) n pos) (.tuple ds) ρ ρ' := by
  intro X A env s v O hn S r Q E hQ
  obtain ⟨t, vs, rfl, hx, ht, hr⟩ := r
  have hsz : vs.size = ds.length := by simpa using hr.length
  refine wpAny_assign_Tuple O.hd ht (by rw [each_names]; simp; omega) (find_names env xs) fun h' he => ?_
  have k1 : Kp s { s with heap := h' } := exb_kp he
  rw [each_names]
  have e1 : ((xs.map fun q => (false, assign (.Name q.1 q.2) env)).map (·.2)) = (((xs.map (·.1)).zip (xs.map (·.2))).map fun q => assign (.Name q.1 q.2) env) := by
    rw [List.map_map, List.zip_map']; simp [Function.comp_def]
  rw [e1]
  exact cassign_sets (s := { s with heap := h' }) (xs.map (·.2)) (by simp) h (hr.grow k1.grow) (let ⟨m, x⟩ := hn; ⟨m, x.keeps k1.grow⟩) (S.grow k1.grow) fun h2 tk2 n2 S2 k2 => hQ h2 tk2 n2 S2 fun b o hb e => k2 b o hb (k1.grow b o e)
theorem casg_list {xs : List (Str × Pos)} {n : Nat} {pos : Pos} {ds : List PyData} {ρ' : Rho} (h : CSets ρ (xs.map (·.1)) ds ρ') (hl : ds.length = xs.length) : CAsgR C k (.Tuple (nameTgts xs) n pos) (.list ds) ρ ρ' := by
  intro X A env s v O hn S r Q E hQ
  obtain ⟨t, vs, rfl, hx, ht, hr⟩ := r
  have hsz : vs.size = ds.length := by simpa using hr.length
  rw [arm_assign_Tuple]
  refine wpAny_bind (wpAny_standAt ?_)
  unfold unpack
  rw [find_names, show (assignEach (nameTgts xs) env).length = vs.size by rw [each_names]; simp; omega]
  refine wpAny_bind (wpAny_holding (unpack_list O.hd ht fun s1 k1 => ?_))
  rw [each_names]
  have e1 : ((xs.map fun q => (false, assign (.Name q.1 q.2) env)).map (·.2)) = (((xs.map (·.1)).zip (xs.map (·.2))).map fun q => assign (.Name q.1 q.2) env) := by
    rw [List.map_map, List.zip_map']; simp [Function.comp_def]
  rw [e1]
  obtain ⟨h1, tk1, rfl, g1⟩ := k1
  exact cassign_sets (s := { s with heap := h1, toks := tk1 }) (xs.map (·.2)) (by simp) h (hr.grow g1) (let ⟨m, x⟩ := hn; ⟨m, x.keeps g1⟩) (S.grow g1) fun h2 tk2 n2 S2 k2 => hQ h2 tk2 n2 S2 fun b o hb e => k2 b o hb (g1 b o e)
end
end Mine
end
section
open PySem PySem.W PyProof.Rows
open Builtin Builtin.Str
set_option Elab.async false
set_option maxRecDepth 100000
namespace Mine

/- the text's own defs, by name -/
noncomputable def defIn (n : Str) : List Stmt → Option (Arguments × List Stmt × Scope)
  | [] => none
  | .FunctionDef name args body _ _ _ scope _ _ _ :: r => if name = n then some (args, body, scope) else defIn n r
  | _ :: r => defIn n r
noncomputable def argsOf (n : Str) : Arguments := match defIn n PySem.Challenge.pw_pd0053_01.main.body with | some (a, _, _) => a | none => default
noncomputable def bodyOf (n : Str) : List Stmt := match defIn n PySem.Challenge.pw_pd0053_01.main.body with | some (_, b, _) => b | none => []
noncomputable def scopeOf (n : Str) : Scope := match defIn n PySem.Challenge.pw_pd0053_01.main.body with | some (_, _, b) => b | none => default

noncomputable def DefOf (C : Cx) (n : Str) : Prop := DefAt C n (argsOf n) (bodyOf n) (scopeOf n)

theorem CSet.names {ρ : Rho} {x : Str} {d : PyData} {ρ' : Rho} (h : CSet ρ x d ρ') {X : Addr → Prop} {env : Env} {hp : Heap} : (∀ p ∈ ρ', NameIs X env hp p.1 p.2) → ∀ p ∈ ρ, NameIs X env hp p.1 p.2 := by
  induction h with
  | here h =>
    intro H p hp
    rcases List.mem_cons.mp hp with rfl | hp
    · exact (H _ (.head _)).1
    · exact H p (.tail _ hp)
  | there h1 h2 ih =>
    intro H p hp
    rcases List.mem_cons.mp hp with rfl | hp
    · exact H _ (.head _)
    · exact ih (fun q hq => H q (.tail _ hq)) p hp
theorem CSet.back {ρ : Rho} {x : Str} {d : PyData} {ρ' : Rho} (h : CSet ρ x d ρ') : Back ρ' ρ := fun _ _ _ S => ⟨S.kind, S.gl, S.bl, h.names S.names⟩
theorem CSets.back {ρ : Rho} {x : List Str} {d : List PyData} {ρ' : Rho} (h : CSets ρ x d ρ') : Back ρ' ρ := by
  induction h with
  | nil => exact fun _ _ _ S => S
  | cons h1 h2 ih => exact fun X env h S => h1.back X env h (ih X env h S)

/-- fewer names known -/
inductive Fg : Rho → Rho → Prop
  | nil : Fg [] []
  | same {p r r'} : Fg r r' → Fg (p :: r) (p :: r')
  | loc {x d r r'} : Fg r r' → Fg ((x, .loc d) :: r) ((x, .unl) :: r')
  | cel {x d r r'} : Fg r r' → Fg ((x, .cel d) :: r) ((x, .unc) :: r')
theorem Fg.back {ρ ρ' : Rho} (h : Fg ρ ρ') : Back ρ ρ' := by
  intro X env hp S
  refine ⟨S.kind, S.gl, S.bl, ?_⟩
  have H := S.names
  clear S
  induction h with
  | nil => intro p hp; cases hp
  | same h1 ih =>
    intro p hp
    rcases List.mem_cons.mp hp with rfl | hp
    · exact H _ (.head _)
    · exact ih (fun q hq => H q (.tail _ hq)) p hp
  | loc h1 ih =>
    intro p hp
    rcases List.mem_cons.mp hp with rfl | hp
    · exact (H _ (.head _)).1
    · exact ih (fun q hq => H q (.tail _ hq)) p hp
  | cel h1 ih =>
    intro p hp
    rcases List.mem_cons.mp hp with rfl | hp
    · obtain ⟨a, c, _, b, _⟩ := H _ (.head _); exact ⟨a, c, b⟩
    · exact ih (fun q hq => H q (.tail _ hq)) p hp

section
variable {C : Cx} {k : Nat} {ρ : Rho}
theorem ex_fg {ss : List Stmt} {ρ' ρ'' : Rho} (h : ExR C k ρ ss (.next ρ')) (hs : Fg ρ' ρ'') : ExR C k ρ ss (.next ρ'') := fun X A env s O w S Q E hQ =>
  h X A env s O w S Q E fun fl s' k' w' e => hQ fl s' k' w' ⟨e.1, hs.back _ _ _ e.2⟩
theorem ev_neg {e : Expr} {pos : Pos} {a : Int} (h : EvR C k ρ e (.int a)) : EvR C k ρ (.UnaryOp .USub e pos) (.int (-a)) := by
  intro X A env s O S Q E hQ
  refine wpAny_UnaryOp (h X A env s O S _ E fun v s1 k1 r1 => ?_)
  obtain ⟨t, rfl⟩ := r1
  exact P.neg_int (hQ _ _ (k1.tr Kp.tok) ⟨_, rfl⟩)
theorem ev_or_t {e1 e2 : Expr} {rest : List Expr} {pos : Pos} {x : Str} (h : EvR C k ρ e1 (.str x)) (hx : x.length ≠ 0) (hz : x.length ≤ 1000000) : EvR C k ρ (.BoolOp .Or (e1 :: e2 :: rest) pos) (.str x) := by
  intro X A env s O S Q E hQ
  refine BoolOp_or (h X A env s O S _ E fun v s1 k1 r1 => ?_)
  obtain ⟨t, rfl⟩ := r1
  refine P.truthy_str (by omega) ?_
  have h1 : ((x.length : Int) != 0) = true := bne_iff_ne.mpr (by omega)
  rw [h1, if_pos rfl]
  exact hQ _ _ (k1.tr (Kp.tok (by omega))) ⟨t, rfl⟩
theorem ev_and_t {e1 e2 : Expr} {pos : Pos} {b : Bool} (h : EvR C k ρ e1 (.bool true)) (h2 : EvR C k ρ e2 (.bool b)) : EvR C k ρ (.BoolOp .And [e1, e2] pos) (.bool b) := by
  intro X A env s O S Q E hQ
  refine BoolOp_and (h X A env s O S _ E fun v s1 k1 r1 => ?_)
  cases r1
  refine wpAny_truthy_bool ?_
  rw [if_pos rfl]
  exact BoolOp_one (h2 X A env s1 (O.keeps k1) (S.grow k1.grow) Q E fun v s2 k2 r2 => hQ v s2 (k1.tr k2) r2)
theorem ev_isinst_bytes {np bp pos : Pos} {e : Expr} {x : Str} (hx : (("isinstance" : Str), Bd.glo) ∈ ρ) (hm : C.mg "isinstance" = none) (hx2 : (("bytes" : Str), Bd.glo) ∈ ρ) (hm2 : C.mg "bytes" = none) (he : EvR C k ρ e (.str x)) (hs : ∀ env, starEach [e, .Name "bytes" bp] env = [(false, eval e env), (false, eval (.Name "bytes" bp) env)] := by intro _; rfl) :
    EvR C k ρ (.Call (.Name "isinstance" np) [e, .Name "bytes" bp] [] pos) (.bool false) := by
  intro X A env s O S Q E hQ
  refine Call_ (ev_builtin (v := .builtin "isinstance") O S hx hm (by decide +kernel) (by decide) ?_)
  rw [hs env]
  refine Calls.callWith_builtin rfl (Calls.evalArgs_plain (Calls.spliced_cons ?_))
  refine he X A env s O S _ E fun v s1 k1 r1 => Calls.spliced_cons ?_
  obtain ⟨t, rfl⟩ := r1
  refine ev_builtin (v := .type "bytes") (O.keeps k1) (S.grow k1.grow) hx2 hm2 (by decide +kernel) (by decide) (Calls.spliced_nil ?_)
  exact IsiPair.str_bytes (hQ _ _ (k1.tr Kp.tok) rfl)
end
theorem swapped_pair {x y : Str} {xp yp tp p2 : Pos} {n n2 : Nat} {e1 e2 : Expr} {env : Env} (hb : env.scope.kind = .function) (hx : env.kindOf x = some .local) (hy : env.kindOf y = some .local) (hl : (yp.line == xp.line) = true) (hne : (x == y) = false)
    (hs : ([e1, e2].any fun | .Starred .. => true | _ => false) = false) (hf : [e1, e2].all (foldedForSure 8) = false) (hc : [e1, e2].all (constantsAlone 8) = false) :
    swappedStores [.Tuple [.Name x xp, .Name y yp] n tp] (.Tuple [e1, e2] n2 p2) env = pure (some [x, y]) := by
  have hk : env.blockKind = .function := by unfold Env.blockKind; rw [hb]; rfl
  have hn : (([.Name x xp, .Name y yp] : List Expr).filterMap fun
    | .Name idn pos => if env.kindOf idn == some .local && pos.line == xp.line then some idn else none
    | _ => none) = [x, y] := by
    simp only [List.filterMap_cons, List.filterMap_nil, hx, hy, hl, beq_self_eq_true, Bool.and_self, if_true]
  have hd : ([x, y] : List Str).eraseDups = [x, y] := by
    have : (y == x) = false := by simp at hne ⊢; exact fun e => hne e.symm
    simp [List.eraseDups_cons, this]
  unfold swappedStores
  simp only []
  rw [hk]
  rw [if_neg (by simp)]
  split
  · rename_i h; have := h.symm.trans hs; cases this
  generalize hN : (List.filterMap _ [Expr.Name x xp, Expr.Name y yp]) = N
  have hN' : N = [x, y] := hN.symm.trans hn
  subst hN'
  rw [hd, hf, hc]
  rfl
section
variable {C : Cx} {k : Nat}
theorem for_fold {tgt : Expr} {body : List Stmt} {α β : Type} {ρ : β → Rho} {f : β → α → β} {d : α → PyData} {P : List α → β → Prop}
    (h : ∀ x xs b, P (x :: xs) b → P xs (f b x) ∧ ∃ ρ1, AsgR C k tgt (d x) (ρ b) ρ1 ∧ (ExR C k ρ1 body (.next (ρ (f b x))) ∨ ExR C k ρ1 body (.cnt (ρ (f b x))))) :
    ∀ xs b, P xs b → ForR C k tgt body (ρ b) (xs.map d) (.next (ρ (xs.foldl f b)))
  | [], _, _ => ForR.nil
  | x :: xs, b, hp => by
    obtain ⟨h1, ρ1, h2, h3 | h3⟩ := h x xs b hp
    · exact ForR.next h2 h3 (for_fold h xs (f b x) h1)
    · exact ForR.cont h2 h3 (for_fold h xs (f b x) h1)
theorem comp_flat {tgt : Expr} {ρc : Rho} {ifs : List Expr} {emit : Value → Env → Sem Unit} {α : Type} {d : α → PyData} {p : α → Bool} {r : α → List PyData} : ∀ (xs : List α)
    (_ : ∀ x ∈ xs, ∃ ρ1, CAsgR C k tgt (d x) ρc ρ1 ∧ Back ρ1 ρc ∧ TestsR C k ρ1 ifs (p x) ∧ (p x = true → EmitR C k emit ρ1 (r x))), CompR C k tgt ρc ifs emit (xs.map d) ((xs.filter p).flatMap r)
  | [], _ => .nil
  | x :: xs, h => by
    obtain ⟨ρ1, h1, h2, h3, h4⟩ := h x (by simp)
    have ih := comp_flat xs fun y hy => h y (by simp [hy])
    cases hp : p x with
    | false => rw [List.filter_cons_of_neg (by simp [hp])]; rw [hp] at h3; exact .skip h1 h2 h3 ih
    | true => rw [List.filter_cons_of_pos hp, List.flatMap_cons]; rw [hp] at h3; exact .take h1 h2 h3 (h4 hp) ih
theorem comp_map {tgt : Expr} {ρc : Rho} {ifs : List Expr} {elt : Expr} {α : Type} {d : α → PyData} {p : α → Bool} {g : α → PyData} (xs : List α)
    (h : ∀ x ∈ xs, ∃ ρ1, CAsgR C k tgt (d x) ρc ρ1 ∧ Back ρ1 ρc ∧ TestsR C k ρ1 ifs (p x) ∧ (p x = true → EvR C k ρ1 elt (g x))) : CompR C k tgt ρc ifs (emit1 elt) (xs.map d) ((xs.filter p).map g) := by
  have := comp_flat (C := C) (k := k) (tgt := tgt) (ρc := ρc) (ifs := ifs) (emit := emit1 elt) (d := d) (p := p) (r := fun x => [g x]) xs fun x hx => by
    obtain ⟨ρ1, h1, h2, h3, h4⟩ := h x hx
    exact ⟨ρ1, h1, h2, h3, fun q => emit_one (h4 q)⟩
  have e : ∀ l : List α, l.flatMap (fun x => [g x]) = l.map g := fun l => by induction l with | nil => rfl | cons a r ih => simp [List.flatMap_cons, ih]
  rwa [e] at this
end
end Mine
end
section
open PySem PySem.W PyProof.Rows
open Builtin Builtin.Str
namespace Mine
local macro_rules | `(tactic| walk_at "mem") => `(tactic| first | exact List.Mem.head _ | (refine List.Mem.tail _ ?_; walk_at "mem"))
local macro_rules | `(tactic| walk_at "set") => `(tactic| first | exact SetL.unl rfl | exact SetL.loc rfl | exact SetL.unc rfl | exact SetL.cel rfl | (apply SetL.there; (focus decide); walk_at "set"))
local macro_rules | `(tactic| walk_at "cset") => `(tactic| first | exact CSet.here rfl | (apply CSet.there; (focus decide); walk_at "cset"))
local macro_rules | `(tactic| walk_at "fg") => `(tactic| first | exact Fg.nil | (refine Fg.same ?_; walk_at "fg") | (refine Fg.loc ?_; walk_at "fg") | (refine Fg.cel ?_; walk_at "fg"))
section
set_option Elab.async false
set_option maxRecDepth 100000
set_option maxHeartbeats 4000000

/- the rows, plainly -/
noncomputable def wordsL : List Str := ["ab", "c", "d7", "xyz"]
structure Row where
  par : Int
  ws : List Str
  kind : Int
noncomputable def strsD (ws : List Str) : PyData := .list (ws.map PyData.str)
noncomputable def Row.d (r : Row) : PyData := .list [.int r.par, strsD r.ws, .int r.kind]
noncomputable def rowsD (rows : List Row) : PyData := .list (rows.map Row.d)
noncomputable def word (i : Int) : Str := wordsL.getD (i.fmod 4).toNat "ab"
noncomputable def mkRow (n : Nat) (x : Int) : Row := ⟨x.fmod n, [word (x.fdiv 8)] ++ (if (x.fdiv 32).fmod 2 = 1 then [word (x.fdiv 64)] else []), (x.fdiv 256).fmod 4⟩
noncomputable def same (a b : Row) : Bool := decide (a.par = b.par) && decide (a.ws = b.ws)
noncomputable def stepR (rows : List Row) (x : Int) : List Row := if rows.any (same · (mkRow rows.length x)) then rows else rows ++ [mkRow rows.length x]
noncomputable def rowsF (xs : List Int) : List Row := xs.foldl stepR [⟨-1, [], 0⟩]

theorem eqv_strs : ∀ a b : List Str, PyData.eqvAll (a.map PyData.str) (b.map PyData.str) = decide (a = b)
  | [], [] => by simp [PyData.eqvAll]
  | [], _ :: _ => by simp [PyData.eqvAll]
  | _ :: _, [] => by simp [PyData.eqvAll]
  | x :: r, y :: t => by
    simp only [List.map_cons, PyData.eqvAll, PyData.eqv, eqv_strs r t]
    by_cases h : x = y
    · subst h; simp
    · simp [h]
theorem lay_strs : ∀ a : List Str, (∀ x ∈ a, PyData.strOk x = true) → PyData.canLayAll0 (a.map PyData.str) = true
  | [], _ => by simp [PyData.canLayAll0]
  | x :: r, h => by simp [PyData.canLayAll0, PyData.canLay0, h x (by simp), lay_strs r fun y hy => h y (by simp [hy])]
theorem depth_strs : ∀ a : List Str, PyData.depthAll (a.map PyData.str) ≤ 1
  | [] => by simp [PyData.depthAll]
  | x :: r => by simp [PyData.depthAll, PyData.depth, depth_strs r]

noncomputable def RowOk (r : Row) : Prop := ∀ x ∈ r.ws, x ∈ wordsL
theorem word_mem (i : Int) : word i ∈ wordsL := by
  have h1 : 0 ≤ i.fmod 4 := Int.fmod_nonneg_of_pos i (by decide)
  have h2 : i.fmod 4 < 4 := Int.fmod_lt_of_pos i (by decide)
  unfold word
  generalize i.fmod 4 = j at h1 h2
  obtain ⟨n, rfl⟩ := Int.eq_ofNat_of_zero_le h1
  match n, h2 with
  | 0, _ => decide
  | 1, _ => decide
  | 2, _ => decide
  | 3, _ => decide
  | n + 4, h => omega
theorem mkRow_ok (n : Nat) (x : Int) : RowOk (mkRow n x) := by
  intro y hy
  unfold mkRow at hy
  simp only at hy
  rcases List.mem_append.mp hy with h | h
  · simp at h; subst h; exact word_mem _
  · split at h
    · simp at h; subst h; exact word_mem _
    · simp at h
theorem words_ok : ∀ x ∈ wordsL, PyData.strOk x = true := by decide +kernel

noncomputable def lowD (r : Row) : PyData := .list [.int r.par, strsD r.ws]
theorem cut_row (r : Row) : cutL none (some 2) [PyData.int r.par, strsD r.ws, .int r.kind] = [.int r.par, strsD r.ws] := rfl
theorem eqv_low (a b : Row) : PyData.eqv (lowD a) (lowD b) = same a b := by
  simp only [lowD, strsD, PyData.eqv, PyData.eqvAll, eqv_strs, same, Bool.and_true]
  rfl
theorem lay_low {a : Row} (h : RowOk a) : (lowD a).canLay0 = true := by
  simp only [lowD, strsD, PyData.canLay0, PyData.canLayAll0, Bool.and_true, Bool.true_and]
  exact lay_strs _ fun x hx => words_ok x (h x hx)
theorem depth_low (a : Row) : (lowD a).depth ≤ 64 := by
  have := depth_strs a.ws
  simp only [lowD, strsD, PyData.depth, PyData.depthAll]
  omega

section
variable {C : Cx} {k : Nat}

noncomputable def rhoR (nums : List Int) (rows : List Row) (bx br : Bd) : Rho := [("numbers", .loc (.list (nums.map .int))), ("words", .loc (strsD wordsL)), ("rows", .loc (rowsD rows)), ("x", bx), ("row", br), ("len", .glo)]

theorem word_at {ρ : Rho} {e w : Expr} {pos : Pos} {i : Int} (hw : EvR C k ρ w (strsD wordsL)) (he : EvR C k ρ e (.int (i.fmod 4))) (hs : ∀ l u, subscripted e false (.ref l) (.int (i.fmod 4) u) = operate [.ref l, .int (i.fmod 4) u] (getItem (.ref l) (.int (i.fmod 4) u))) : EvR C k ρ (.Subscript w e pos) (.str (word i)) := by
  have h1 : 0 ≤ i.fmod 4 := Int.fmod_nonneg_of_pos i (by decide)
  have h2 : i.fmod 4 < 4 := Int.fmod_lt_of_pos i (by decide)
  refine ev_item (xs := wordsL.map PyData.str) (n := i.fmod 4) hw he h1 (by omega) ?_ hs
  rw [List.getElem?_map]
  unfold word
  generalize i.fmod 4 = j at h1 h2
  obtain ⟨n, rfl⟩ := Int.eq_ofNat_of_zero_le h1
  match n, h2 with
  | 0, _ => rfl
  | 1, _ => rfl
  | 2, _ => rfl
  | 3, _ => rfl
  | n + 4, h => omega

theorem lay_rows : ∀ rows : List Row, (∀ r ∈ rows, RowOk r) → (PyData.list (rows.map Row.d)).canLay0 = true
  | [], _ => by simp [PyData.canLay0, PyData.canLayAll0]
  | r :: t, h => by
    have ih := lay_rows t fun y hy => h y (by simp [hy])
    simp only [PyData.canLay0] at ih
    have h1 := lay_strs r.ws fun x hx => words_ok x (h r (by simp) x hx)
    simp [PyData.canLay0, PyData.canLayAll0, Row.d, strsD, h1, ih]
theorem st_if {ρ : Rho} {t : Expr} {b1 e : List Stmt} {pos : Pos} {o : Out} {b : Bool} (ht : TestR C k ρ t b) (h1 : b = true → ExR C k ρ b1 o) (h2 : b = false → ExR C k ρ e o) : StR C k ρ (.If t b1 e pos) o := by
  cases b with
  | true => exact st_if_t ht (h1 rfl)
  | false => exact st_if_f ht (h2 rfl)

theorem fn_rows (D : DefOf C "_law_rows") (hlen : C.mg "len" = none) (nums : List Int) (hn : nums.length ≤ 1000) : FnR C (k+1) "_law_rows" [.list (nums.map .int)] (rowsD (rowsF nums)) := by
  refine fn_intro (names := ["numbers"]) (ρ := [("numbers", .loc (.list (nums.map .int))), ("words", .unl), ("rows", .unl), ("x", .unl), ("row", .unc), ("len", .glo)]) D (by intro _ _ _ vs h; match vs, h with | [v], _ => rfl) rfl (by decide) (by decide +kernel) (by decide +kernel) ?_ ?_
  · exact ⟨⟨rfl, rfl⟩, rfl, rfl, rfl, rfl, rfl, trivial⟩
  refine ex_next (ρ' := rhoR nums [⟨-1, [], 0⟩] .unl .unc) ?_ ?_
  · refine st_assign_swap (ev_tuple (evs_cons (ev_list (evs_cons ev_str (evs_cons ev_str (evs_cons ev_str (evs_cons ev_str evs_nil))))) (evs_cons (ev_list (evs_cons (ev_list (evs_cons (ev_neg ev_int) (evs_cons (ev_list evs_nil) (evs_cons ev_int evs_nil)))) evs_nil)) evs_nil))) (.cons (by walk_at "set") (.cons (by walk_at "set") .nil)) (by intro _; rfl) ?_
    exact fun X env s S => swapped_pair S.kind (S.names ("words", .unl) (by walk_at "mem")) (S.names ("rows", .unl) (by walk_at "mem")) rfl (by decide) rfl (by decide +kernel) (by decide +kernel)
  refine ex_next (ρ' := rhoR nums (rowsF nums) .unl .unc) (st_for (it_list (ev_loc (by unfold rhoR; walk_at "mem"))) ?_) (ex_ret (st_return (ev_loc (by unfold rhoR; walk_at "mem"))))
  refine for_fold (ρ := fun rows => rhoR nums rows .unl .unc) (f := stepR) (P := fun xs rows => (∀ r ∈ rows, RowOk r) ∧ 0 < rows.length ∧ rows.length + xs.length ≤ 2000) ?_ nums [⟨-1, [], 0⟩] ⟨(by intro r hr; simp at hr; subst hr; intro y hy; simp at hy), (by decide), (by simp; omega)⟩
  rintro x xs rows ⟨hr, hpos, hsz⟩
  have hr' : ∀ r ∈ stepR rows x, RowOk r := by
    unfold stepR
    split
    · exact hr
    · intro r hm
      rcases List.mem_append.mp hm with hm | hm
      · exact hr r hm
      · simp at hm; subst hm; exact mkRow_ok _ _
  have hl' : rows.length ≤ (stepR rows x).length ∧ (stepR rows x).length ≤ rows.length + 1 := by
    unfold stepR; split <;> simp
  simp at hsz
  refine ⟨⟨hr', by omega, by omega⟩, rhoR nums rows (.loc (.int x)) .unc, asg_name (by unfold rhoR; walk_at "set"), .inl (ex_fg (ρ' := rhoR nums (stepR rows x) (.loc (.int x)) (.cel (mkRow rows.length x).d)) ?_ (by unfold rhoR; walk_at "fg"))⟩
  have hnz : ((rows.length : Nat) : Int) ≠ 0 := by omega
  refine ex_next (ρ' := rhoR nums rows (.loc (.int x)) (.cel (mkRow rows.length x).d)) ?_ ?_
  · have hx : ∀ p, EvR C k (rhoR nums rows (.loc (.int x)) .unc) (.Name "x" p) (.int x) := fun p => ev_loc (by unfold rhoR; walk_at "mem")
    have hw : ∀ p, EvR C k (rhoR nums rows (.loc (.int x)) .unc) (.Name "words" p) (strsD wordsL) := fun p => ev_loc (by unfold rhoR; walk_at "mem")
    have hrw : ∀ p, EvR C k (rhoR nums rows (.loc (.int x)) .unc) (.Name "rows" p) (rowsD rows) := fun p => ev_loc (by unfold rhoR; walk_at "mem")
    have hdv : ∀ (q : Int) p1 p2 p3, q ≠ 0 → q.natAbs < 1073741824 → EvR C k (rhoR nums rows (.loc (.int x)) .unc) (.BinOp (.Name "x" p1) .FloorDiv (.Constant (.int q) 0 p2) p3) (.int (x.fdiv q)) := fun q p1 p2 p3 h1 h2 => ev_binop (hx p1) ev_int (bin_fdiv_int h1 h2)
    have hl : ∀ p1 p2 p3, EvR C k (rhoR nums rows (.loc (.int x)) .unc) (.Call (.Name "len" p1) [.Name "rows" p2] [] p3) (.int (rows.length : Int)) := fun p1 p2 p3 => by
      have := ev_len (np := p1) (pos := p3) (xs := rows.map Row.d) (ρ := rhoR nums rows (.loc (.int x)) .unc) (by unfold rhoR; walk_at "mem") hlen (hrw p2) (by simp; omega)
      rwa [List.length_map] at this
    have hmd : ∀ (q m : Int) p1 p2 p3 p4 p5, q ≠ 0 → q.natAbs < 1073741824 → m ≠ 0 → EvR C k (rhoR nums rows (.loc (.int x)) .unc) (.BinOp (.BinOp (.Name "x" p1) .FloorDiv (.Constant (.int q) 0 p2) p3) .Mod (.Constant (.int m) 0 p4) p5) (.int ((x.fdiv q).fmod m)) := fun q m p1 p2 p3 p4 p5 h1 h2 h3 => ev_binop (hdv q p1 p2 p3 h1 h2) ev_int (bin_mod_int h3)
    refine st_assign (d := (mkRow rows.length x).d) (ev_list (evs_cons (ev_binop (hx _) (hl _ _ _) (bin_mod_int hnz)) (evs_cons ?_ (evs_cons (hmd 256 4 _ _ _ _ _ (by decide) (by decide) (by decide)) evs_nil))) (by simp)) (by unfold rhoR; walk_at "set")
    have hw1 := hmd 32 2
    have hb2 : 0 ≤ (x.fdiv 32).fmod 2 ∧ (x.fdiv 32).fmod 2 < 2 := ⟨Int.fmod_nonneg_of_pos _ (by decide), Int.fmod_lt_of_pos _ (by decide)⟩
    have e1 : strsD (mkRow rows.length x).ws = .list ([PyData.str (word (x.fdiv 8))] ++ (if (x.fdiv 32).fmod 2 = 1 then [PyData.str (word (x.fdiv 64))] else [])) := by
      unfold strsD mkRow; split <;> simp
    rw [e1]
    refine ev_binop (ev_list (evs_cons (word_at (hw _) (hmd 8 4 _ _ _ _ _ (by decide) (by decide) (by decide)) (by intro _ _; with_unfolding_all rfl)) evs_nil) (by simp))
      (ev_mul_list (evs_cons (word_at (hw _) (hmd 64 4 _ _ _ _ _ (by decide) (by decide) (by decide)) (by intro _ _; with_unfolding_all rfl)) evs_nil) (hmd 32 2 _ _ _ _ _ (by decide) (by decide) (by decide)) (by simp) hb2.1 (by omega) (by simp)) (bin_add_list ?_)
    split <;> simp
  refine ex_one (st_if (b := !(rows.any (same · (mkRow rows.length x)))) (te_cmp (a := .list ((rows.filter (same · (mkRow rows.length x))).map Row.d)) (b := .list []) (ev_comp [("old", .unl), ("row", .cel (mkRow rows.length x).d)] (it_list (ev_loc (d := rowsD rows) (by unfold rhoR; walk_at "mem"))) ⟨rfl, ⟨rfl, by unfold rhoR; walk_at "mem"⟩, trivial⟩ ⟨⟨_, by unfold rhoR; walk_at "mem"⟩, trivial⟩ (comp_map rows fun r hrm => ⟨[("old", .loc r.d), ("row", .cel (mkRow rows.length x).d)], casg_name (by walk_at "cset"), CSet.back (x := "old") (d := r.d) (by walk_at "cset"), tests_one (te_cmp (a := lowD r) (b := lowD (mkRow rows.length x)) ?_ ?_ ?_), fun _ => ev_loc (by walk_at "mem")⟩) ?_) (ev_list evs_nil) ?_) ?_ ?_)
  · exact ev_slice_list (xs := [PyData.int r.par, strsD r.ws, .int r.kind]) (a := none) (b := some 2) (ev_loc (by walk_at "mem")) trivial ev_int (by simp)
  · exact ev_slice_list (xs := [PyData.int (mkRow rows.length x).par, strsD (mkRow rows.length x).ws, .int (mkRow rows.length x).kind]) (a := none) (b := some 2) (ev_cel (by walk_at "mem")) trivial ev_int (by simp)
  · rw [← eqv_low]
    exact cmp_eq (lay_low (hr r hrm)) (lay_low (mkRow_ok _ _)) (by have := depth_low r; omega)
  · have := List.length_filter_le (same · (mkRow rows.length x)) rows
    simp; omega
  · have e3 : (!(rows.any (same · (mkRow rows.length x)))) = PyData.eqv (.list ((rows.filter (same · (mkRow rows.length x))).map Row.d)) (.list []) := by
      cases hf : rows.filter (same · (mkRow rows.length x)) with
      | nil =>
        have : rows.any (same · (mkRow rows.length x)) = false := by
          rw [List.any_eq_false]; exact fun y hy => by simpa using List.filter_eq_nil_iff.mp hf y hy
        rw [this]; rfl
      | cons y r =>
        have hm : y ∈ rows.filter (same · (mkRow rows.length x)) := by rw [hf]; simp
        have : rows.any (same · (mkRow rows.length x)) = true := List.any_eq_true.mpr ⟨y, (List.mem_filter.mp hm).1, (List.mem_filter.mp hm).2⟩
        rw [this]; rfl
    rw [e3]
    exact cmp_eq (lay_rows _ fun r hrm => hr r (List.mem_filter.mp hrm).1) rfl (by simp [PyData.depth, PyData.depthAll])
  · intro hany
    have hany : rows.any (same · (mkRow rows.length x)) = false := by simpa using hany
    have e2 : stepR rows x = rows ++ [mkRow rows.length x] := by unfold stepR; rw [hany]; rfl
    rw [e2]
    refine ex_one (st_assign (d := rowsD (rows ++ [mkRow rows.length x])) ?_ (by unfold rhoR; walk_at "set"))
    unfold rowsD
    rw [List.map_append]
    exact ev_binop (ev_loc (d := rowsD rows) (by unfold rhoR; walk_at "mem")) (ev_list (evs_cons (ev_cel (by unfold rhoR; walk_at "mem")) evs_nil) (by simp)) (bin_add_list (by simp; omega))
  · intro hany
    have hany : rows.any (same · (mkRow rows.length x)) = true := by simpa using hany
    have e2 : stepR rows x = rows := by unfold stepR; rw [if_pos hany]
    rw [e2]
    exact ex_nil
end
end
section
set_option Elab.async false
set_option maxRecDepth 100000
set_option maxHeartbeats 4000000

noncomputable def rowAt (rows : List Row) (k : Nat) : Row := rows.getD k ⟨-1, [], 0⟩
noncomputable def kids (rows : List Row) (p : Int) : List Nat := ((List.range (rows.length - 1)).filter fun i => decide ((rowAt rows (1 + i)).par = p)).map (1 + ·)
theorem kids_mem {rows : List Row} {p : Int} {k : Nat} : k ∈ kids rows p ↔ 0 < k ∧ k < rows.length ∧ (rowAt rows k).par = p := by
  unfold kids
  simp only [List.mem_map, List.mem_filter, List.mem_range, decide_eq_true_eq]
  constructor
  · rintro ⟨i, ⟨h1, h2⟩, rfl⟩; exact ⟨by omega, by omega, h2⟩
  · rintro ⟨h1, h2, h3⟩
    have e : 1 + (k - 1) = k := by omega
    exact ⟨k - 1, ⟨by omega, by rw [e]; exact h3⟩, e⟩
noncomputable def intsD (ks : List Nat) : PyData := .list (ks.map fun (k : Nat) => PyData.int (k : Int))

structure Good (rows : List Row) : Prop where
  len : rows.length ≤ 17
  pos : 0 < rows.length
  root : rowAt rows 0 = ⟨-1, [], 0⟩
  up : ∀ k, 0 < k → k < rows.length → 0 ≤ (rowAt rows k).par ∧ (rowAt rows k).par < k
  ws : ∀ k, 0 < k → k < rows.length → (rowAt rows k).ws ≠ [] ∧ (rowAt rows k).ws.length ≤ 2
  kind : ∀ k, 0 < k → k < rows.length → 0 ≤ (rowAt rows k).kind ∧ (rowAt rows k).kind < 4
  ok : ∀ k, k < rows.length → RowOk (rowAt rows k)
  uniq : ∀ i j, 0 < i → i < rows.length → 0 < j → j < rows.length → (rowAt rows i).par = (rowAt rows j).par → (rowAt rows i).ws = (rowAt rows j).ws → i = j

noncomputable def titleW (w : Str) : Str := Txt.upper (cutS none (some 1) w) ++ cutS (some 1) none w
noncomputable def titleL (ws : List Str) : Str := Txt.join " " (ws.map titleW)
noncomputable def treeD : Nat → List Row → Nat → PyData
  | 0, _, _ => .list []
  | n + 1, rows, p => .list ((kids rows p).map fun k => .list [.str (titleL (rowAt rows k).ws), treeD n rows k])
noncomputable def chF : Nat → List Row → List Nat → List (List Nat)
  | 0, _, _ => []
  | n + 1, rows, chain => if kids rows (chain.getLastD 0 : Nat) = [] then [chain] else (kids rows (chain.getLastD 0 : Nat)).flatMap fun k => chF n rows (chain ++ [k])

theorem title_len : ∀ w ∈ wordsL, (titleW w).length ≤ 3 ∧ (Txt.upper (cutS none (some 1) w)).length ≤ 1 ∧ (cutS (some 1) none w).length ≤ 2 ∧ w.length ≤ 3 := by decide +kernel

theorem sum_le {xs : List Str} {f : Str → Str} {B : Nat} (h : ∀ x ∈ xs, (f x).length ≤ B) : ((xs.map f).map (·.length)).sum ≤ xs.length * B := by
  induction xs with
  | nil => simp
  | cons a r ih =>
    have h1 := h a (by simp)
    have h2 := ih fun x hx => h x (by simp [hx])
    simp only [List.map_cons, List.sum_cons, List.length_cons, Nat.succ_mul] at *
    omega

section
variable {C : Cx} {k : Nat} {ρ : Rho}
theorem rowD_get {rows : List Row} {i : Nat} (h : i < rows.length) : (rows.map Row.d)[((i : Nat) : Int).toNat]? = some (rowAt rows i).d := by
  rw [Int.toNat_natCast, List.getElem?_map]
  unfold rowAt
  rw [List.getD_eq_getElem?_getD, List.getElem?_eq_getElem h]
  rfl
theorem ev_par {v i : Expr} {n : Nat} {p1 p2 pos : Pos} {rows : List Row} {j : Nat} (hv : EvR C k ρ v (rowsD rows)) (hi : EvR C k ρ i (.int (j : Int))) (hj : j < rows.length) (hz : rows.length ≤ 1000)
    (hs : ∀ l u, subscripted i false (.ref l) (.int (j : Int) u) = operate [.ref l, .int (j : Int) u] (getItem (.ref l) (.int (j : Int) u)) := by intro _ _; with_unfolding_all rfl) : EvR C k ρ (.Subscript (.Subscript v i p1) (.Constant (.int 0) n p2) pos) (.int (rowAt rows j).par) :=
  ev_item (xs := [PyData.int (rowAt rows j).par, strsD (rowAt rows j).ws, .int (rowAt rows j).kind]) (n := 0) (ev_item (xs := rows.map Row.d) (d := (rowAt rows j).d) hv hi (by omega) (by omega) (rowD_get hj) hs) ev_int (by decide) (by decide) rfl
theorem ev_ws {v i : Expr} {n : Nat} {p1 p2 pos : Pos} {rows : List Row} {j : Nat} (hv : EvR C k ρ v (rowsD rows)) (hi : EvR C k ρ i (.int (j : Int))) (hj : j < rows.length) (hz : rows.length ≤ 1000)
    (hs : ∀ l u, subscripted i false (.ref l) (.int (j : Int) u) = operate [.ref l, .int (j : Int) u] (getItem (.ref l) (.int (j : Int) u)) := by intro _ _; with_unfolding_all rfl) : EvR C k ρ (.Subscript (.Subscript v i p1) (.Constant (.int 1) n p2) pos) (strsD (rowAt rows j).ws) :=
  ev_item (xs := [PyData.int (rowAt rows j).par, strsD (rowAt rows j).ws, .int (rowAt rows j).kind]) (n := 1) (ev_item (xs := rows.map Row.d) (d := (rowAt rows j).d) hv hi (by omega) (by omega) (rowD_get hj) hs) ev_int (by decide) (by decide) rfl
theorem ev_kind {v i : Expr} {n : Nat} {p1 p2 pos : Pos} {rows : List Row} {j : Nat} (hv : EvR C k ρ v (rowsD rows)) (hi : EvR C k ρ i (.int (j : Int))) (hj : j < rows.length) (hz : rows.length ≤ 1000)
    (hs : ∀ l u, subscripted i false (.ref l) (.int (j : Int) u) = operate [.ref l, .int (j : Int) u] (getItem (.ref l) (.int (j : Int) u)) := by intro _ _; with_unfolding_all rfl) : EvR C k ρ (.Subscript (.Subscript v i p1) (.Constant (.int 2) n p2) pos) (.int (rowAt rows j).kind) :=
  ev_item (xs := [PyData.int (rowAt rows j).par, strsD (rowAt rows j).ws, .int (rowAt rows j).kind]) (n := 2) (ev_item (xs := rows.map Row.d) (d := (rowAt rows j).d) hv hi (by omega) (by omega) (rowD_get hj) hs) ev_int (by decide) (by decide) rfl

theorem kids_data (rows : List Row) (p : Int) : ((List.range (rows.length - 1)).filter fun i => decide ((rowAt rows (1 + i)).par = p)).map (fun (i : Nat) => PyData.int (((1 : Nat) : Int) + (i : Nat))) = (kids rows p).map fun (k : Nat) => PyData.int (k : Int) := by
  unfold kids
  rw [List.map_map]
  apply List.map_congr_left
  intro i _
  simp

theorem ev_len_rows {np pos : Pos} {e : Expr} {rows : List Row} (hx : (("len" : Str), Bd.glo) ∈ ρ) (hm : C.mg "len" = none) (he : EvR C k ρ e (rowsD rows)) (hz : rows.length ≤ 1000) (h0 : 0 < rows.length) (hs : ∀ env, starEach [e] env = [(false, eval e env)] := by intro _; rfl) :
    EvR C k ρ (.Call (.Name "len" np) [e] [] pos) (.int (((1 : Nat) : Int) + ((rows.length - 1 : Nat) : Int))) := by
  have := ev_len (xs := rows.map Row.d) (np := np) (pos := pos) hx hm he (by simp; omega) hs
  rw [List.length_map, show (rows.length : Int) = ((1 : Nat) : Int) + ((rows.length - 1 : Nat) : Int) by omega] at this
  exact this
/-- the test rows[k][0] == place of the two comprehensions -/
theorem kids_len (rows : List Row) (p : Int) : (kids rows p).length ≤ rows.length := by
  unfold kids
  have := List.length_filter_le (fun i => decide ((rowAt rows (1 + i)).par = p)) (List.range (rows.length - 1))
  simp only [List.length_map, List.length_range] at *
  omega
theorem join_ok {sep : Str} {xs : List Str} {f : Str → Str} {B : Nat} (h : ∀ x ∈ xs, (f x).length ≤ B) (h2 : xs.length * B + xs.length * sep.length ≤ 1000000) : JoinOk sep (xs.map f) = true := by
  have h1 := sum_le h
  exact joinOk_of (by simp only [List.length_map]; omega)

theorem fn_tree (D : DefOf C "_law_tree") (hlen : C.mg "len" = none) (hrange : C.mg "range" = none) (rows : List Row) (G : Good rows) : ∀ (n p : Nat), p < rows.length → rows.length ≤ p + n → FnR C n "_law_tree" [rowsD rows, .int (p : Int)] (treeD n rows p)
  | 0, p, h1, h2 => absurd h2 (by omega)
  | n + 1, p, h1, h2 => by
    have ih := fn_tree D hlen hrange rows G n
    have hz := G.len
    refine fn_intro (names := ["rows", "place"]) (ρ := [("rows", .cel (rowsD rows)), ("place", .cel (.int (p : Int))), ("below", .unl), ("range", .glo), ("len", .glo)]) D (by intro _ _ _ vs h; match vs, h with | [v, w], _ => rfl) rfl (by decide) (by decide +kernel) (by decide +kernel) ?_ ?_
    · exact ⟨⟨rfl, rfl⟩, ⟨rfl, rfl⟩, rfl, rfl, rfl, trivial⟩
    refine ex_next (ρ' := [("rows", .cel (rowsD rows)), ("place", .cel (.int (p : Int))), ("below", .loc (intsD (kids rows p))), ("range", .glo), ("len", .glo)]) ?_ ?_
    · refine st_assign_comp (rs := (kids rows p).map fun (k : Nat) => PyData.int (k : Int)) (ds := rangeD 1 (rows.length - 1)) [("k", .unl), ("rows", .cel (rowsD rows)), ("place", .cel (.int (p : Int)))] (by walk_at "mem") (.inl rfl) (it_range2 (a := 1) (n := rows.length - 1) (by walk_at "mem") hrange ev_int ?_ (by omega)) ⟨rfl, ⟨rfl, by walk_at "mem"⟩, ⟨rfl, by walk_at "mem"⟩, trivial⟩ ⟨⟨_, by walk_at "mem"⟩, ⟨_, by walk_at "mem"⟩, trivial⟩ ?_ ?_ (by walk_at "set")
      · exact ev_len_rows (by walk_at "mem") hlen (ev_cel (by walk_at "mem")) (by omega) (by omega)
      · rw [← kids_data]
        refine comp_map _ fun i hi => ⟨[("k", .loc (.int (((1 : Nat) : Int) + (i : Nat)))), ("rows", .cel (rowsD rows)), ("place", .cel (.int (p : Int)))], casg_name (by walk_at "cset"), CSet.back (x := "k") (d := .int (((1 : Nat) : Int) + (i : Nat))) (by walk_at "cset"), tests_one (te_cmp (ev_par (j := 1 + i) (ev_cel (by walk_at "mem")) (ev_loc (by rw [Int.natCast_add]; walk_at "mem")) ?_ (by omega)) (ev_cel (by walk_at "mem")) cmp_eq_int), fun _ => ev_loc (by walk_at "mem")⟩
        simp only [List.mem_range] at hi; omega
      · rw [List.length_map]; have := kids_len rows p; omega
    refine ex_ret (st_return (d := treeD (n + 1) rows p) (ev_comp (ds := (kids rows p).map fun (k : Nat) => PyData.int (k : Int)) (rs := (kids rows p).map fun k => .list [.str (titleL (rowAt rows k).ws), treeD n rows k]) [("k", .unl), ("rows", .cel (rowsD rows)), ("_law_tree", .glo)] (it_list (ev_loc (d := intsD (kids rows p)) (by walk_at "mem"))) ⟨rfl, ⟨rfl, by walk_at "mem"⟩, rfl, trivial⟩ ⟨⟨_, by walk_at "mem"⟩, trivial⟩ ?_ (by rw [List.length_map]; have := kids_len rows p; omega)))
    rw [show ((kids rows p).map fun k => PyData.list [.str (titleL (rowAt rows k).ws), treeD n rows k]) = ((kids rows p).filter fun _ => true).map fun k => PyData.list [.str (titleL (rowAt rows k).ws), treeD n rows k] by rw [List.filter_eq_self.mpr (fun _ _ => rfl)]]
    refine comp_map _ fun j hj => ⟨[("k", .loc (.int (j : Int))), ("rows", .cel (rowsD rows)), ("_law_tree", .glo)], casg_name (by walk_at "cset"), CSet.back (x := "k") (d := .int (j : Int)) (by walk_at "cset"), tests_nil, fun _ => ?_⟩
    obtain ⟨j0, j1, j2⟩ := kids_mem.mp hj
    have hup := G.up j j0 j1
    have hpj : p < j := by omega
    have hws := (G.ws j j0 j1).2
    have hok := G.ok j j1
    refine ev_list (evs_cons ?_ (evs_cons (ev_call (by walk_at "mem") (evs_cons (ev_cel (by walk_at "mem")) (evs_cons (ev_loc (by walk_at "mem")) evs_nil)) (ih j j1 (by omega))) evs_nil)) (by simp)
    refine ev_m1 ev_str (ev_comp (ds := (rowAt rows j).ws.map PyData.str) (rs := ((rowAt rows j).ws.map titleW).map PyData.str) [("word", .unl)] (it_list (ev_ws (j := j) (ev_cel (by walk_at "mem")) (ev_loc (by walk_at "mem")) j1 (by omega))) ⟨rfl, trivial⟩ trivial ?_ (by simp; omega)) (m_join ?_)
    · rw [show (((rowAt rows j).ws.map titleW).map PyData.str) = ((rowAt rows j).ws.filter fun _ => true).map fun w => PyData.str (titleW w) by rw [List.filter_eq_self.mpr (fun _ _ => rfl), List.map_map]; rfl]
      refine comp_map _ fun w hw => ⟨[("word", .loc (.str w))], casg_name (by walk_at "cset"), CSet.back (x := "word") (d := .str w) (by walk_at "cset"), tests_nil, fun _ => ?_⟩
      have hl := title_len w (hok w hw)
      exact ev_binop (ev_m0 (ev_slice_str (a := none) (b := some 1) (ev_loc (by walk_at "mem")) trivial ev_int (by omega)) (m_upper (by omega))) (ev_slice_str (a := some 1) (b := none) (ev_loc (by walk_at "mem")) ev_int trivial (by omega)) (bin_add_str (by omega))
    · refine join_ok (B := 3) (fun x hx => (title_len x (hok x hx)).1) ?_
      have : (Str.ofString " ").length = 1 := by decide +kernel
      rw [this]; omega
end
end
section
set_option Elab.async false
set_option maxRecDepth 100000
set_option maxHeartbeats 4000000

noncomputable def chainsD (cs : List (List Nat)) : PyData := .list (cs.map intsD)
section
variable {C : Cx} {k : Nat} {ρ : Rho}

theorem comp_all {tgt : Expr} {ρc : Rho} {ifs : List Expr} {elt : Expr} {α : Type} {d : α → PyData} {g : α → PyData} (xs : List α)
    (h : ∀ x ∈ xs, ∃ ρ1, CAsgR C k tgt (d x) ρc ρ1 ∧ Back ρ1 ρc ∧ TestsR C k ρ1 ifs true ∧ EvR C k ρ1 elt (g x)) : CompR C k tgt ρc ifs (emit1 elt) (xs.map d) (xs.map g) := by
  have := comp_map (C := C) (k := k) (tgt := tgt) (ρc := ρc) (ifs := ifs) (elt := elt) (d := d) (p := fun _ => true) (g := g) xs fun x hx => by
    obtain ⟨ρ1, h1, h2, h3, h4⟩ := h x hx
    exact ⟨ρ1, h1, h2, h3, fun _ => h4⟩
  rwa [List.filter_eq_self.mpr (fun _ _ => rfl)] at this

/-- a chain of the walk down from the root -/
structure ChOk (rows : List Row) (chain : List Nat) : Prop where
  ne : chain ≠ []
  lt : ∀ x ∈ chain, x < rows.length
  len : chain.length ≤ chain.getLastD 0 + 1
theorem ChOk.last {rows : List Row} {chain : List Nat} (h : ChOk rows chain) : chain.getLastD 0 < rows.length := by
  have := h.ne
  rw [List.getLastD_eq_getLast?, List.getLast?_eq_some_getLast h.ne]
  exact h.lt _ (List.getLast_mem h.ne)
theorem ChOk.snoc {rows : List Row} (G : Good rows) {chain : List Nat} (h : ChOk rows chain) {k : Nat} (hk : k ∈ kids rows (chain.getLastD 0 : Nat)) : ChOk rows (chain ++ [k]) ∧ (chain ++ [k]).getLastD 0 = k ∧ chain.getLastD 0 < k := by
  obtain ⟨k0, k1, k2⟩ := kids_mem.mp hk
  have hup := G.up k k0 k1
  have e : (chain ++ [k]).getLastD 0 = k := by simp
  have hl := h.len
  refine ⟨⟨by simp, ?_, ?_⟩, e, by omega⟩
  · intro x hx
    rcases List.mem_append.mp hx with hx | hx
    · exact h.lt x hx
    · simp at hx; omega
  · rw [e, List.length_append]; simp; omega

theorem lay_ints : ∀ ks : List Nat, (intsD ks).canLay0 = true
  | [] => rfl
  | a :: r => by have := lay_ints r; simp only [intsD, PyData.canLay0, List.map_cons, PyData.canLayAll0, Bool.true_and] at *; exact this

theorem fn_chains (D : DefOf C "_law_chains") (hlen : C.mg "len" = none) (hrange : C.mg "range" = none) (rows : List Row) (G : Good rows) (hcount : ∀ n c, (chF n rows c).length ≤ 1000000) : ∀ (n : Nat) (chain : List Nat), ChOk rows chain → rows.length ≤ chain.getLastD 0 + n → FnR C n "_law_chains" [rowsD rows, intsD chain] (chainsD (chF n rows chain))
  | 0, p, h1, h2 => absurd h2 (by have := h1.last; omega)
  | n + 1, chain, h1, h2 => by
    have ih := fn_chains D hlen hrange rows G hcount n
    have hz := G.len
    have hlast := h1.last
    have hcl := h1.len
    have hcne := h1.ne
    have hpos : 0 < chain.length := List.length_pos_iff.mpr hcne
    generalize hp : chain.getLastD 0 = p at *
    refine fn_intro (names := ["rows", "chain"]) (ρ := [("rows", .cel (rowsD rows)), ("chain", .cel (intsD chain)), ("below", .unl), ("range", .glo), ("len", .glo)]) D (by intro _ _ _ vs h; match vs, h with | [v, w], _ => rfl) rfl (by decide) (by decide +kernel) (by decide +kernel) ?_ ?_
    · exact ⟨⟨rfl, rfl⟩, ⟨rfl, rfl⟩, rfl, rfl, rfl, trivial⟩
    refine ex_next (ρ' := [("rows", .cel (rowsD rows)), ("chain", .cel (intsD chain)), ("below", .loc (intsD (kids rows p))), ("range", .glo), ("len", .glo)]) ?_ ?_
    · refine st_assign_comp (rs := (kids rows p).map fun (k : Nat) => PyData.int (k : Int)) (ds := rangeD 1 (rows.length - 1)) [("k", .unl), ("rows", .cel (rowsD rows)), ("chain", .cel (intsD chain))] (by walk_at "mem") (.inl rfl) (it_range2 (a := 1) (n := rows.length - 1) (by walk_at "mem") hrange ev_int (ev_len_rows (by walk_at "mem") hlen (ev_cel (by walk_at "mem")) (by omega) (by omega)) (by omega)) ⟨rfl, ⟨rfl, by walk_at "mem"⟩, ⟨rfl, by walk_at "mem"⟩, trivial⟩ ⟨⟨_, by walk_at "mem"⟩, ⟨_, by walk_at "mem"⟩, trivial⟩ ?_ (by rw [List.length_map]; have := kids_len rows p; omega) (by walk_at "set")
      rw [← kids_data]
      refine comp_map _ fun i hi => ⟨[("k", .loc (.int (((1 : Nat) : Int) + (i : Nat)))), ("rows", .cel (rowsD rows)), ("chain", .cel (intsD chain))], casg_name (by walk_at "cset"), CSet.back (x := "k") (d := .int (((1 : Nat) : Int) + (i : Nat))) (by walk_at "cset"), tests_one (te_cmp (ev_par (j := 1 + i) (ev_cel (by walk_at "mem")) (ev_loc (by rw [Int.natCast_add]; walk_at "mem")) ?_ (by omega)) (ev_item_neg (xs := chain.map fun (k : Nat) => PyData.int (k : Int)) (n := -1) (d := .int (p : Int)) (ev_cel (by walk_at "mem")) (ev_neg ev_int) (by decide) (by decide) ?_ ?_) cmp_eq_int), fun _ => ev_loc (by walk_at "mem")⟩
      · simp only [List.mem_range] at hi; omega
      · rw [List.length_map]; omega
      · rw [List.length_map, show ((-1 : Int) + (chain.length : Int)).toNat = chain.length - 1 by omega, List.getElem?_map, ← List.getLast?_eq_getElem?, ← hp, List.getLastD_eq_getLast?, List.getLast?_eq_some_getLast hcne]
        rfl
    have hchain : chainsD (chF (n + 1) rows chain) = if (kids rows p).isEmpty then .list [intsD chain] else .list ((kids rows p).flatMap fun k => (chF n rows (chain ++ [k])).map intsD) := by
      rw [chainsD, chF, hp]
      cases hk : kids rows p with
      | nil => simp
      | cons a r => simp [List.map_flatMap]
    refine ex_ret (st_return ?_)
    rw [hchain]
    have htest : ∀ c1 c2 c3, TestR C n [("rows", .cel (rowsD rows)), ("chain", .cel (intsD chain)), ("below", .loc (intsD (kids rows p))), ("range", .glo), ("len", .glo)] (.Compare (.Name "below" c1) [.Eq] [.List [] c2] c3) (kids rows p).isEmpty := by
      intro c1 c2 c3
      have e : (kids rows p).isEmpty = PyData.eqv (intsD (kids rows p)) (.list []) := by
        unfold intsD; cases kids rows p <;> rfl
      rw [e]
      exact te_cmp (ev_loc (by walk_at "mem")) (ev_list evs_nil) (cmp_eq (lay_ints _) rfl (Nat.le_trans (Nat.min_le_right _ _) (by decide)))
    by_cases hk : (kids rows p).isEmpty = true
    · rw [hk] at htest
      rw [if_pos hk]
      exact ev_if_t (htest _ _ _) (ev_list (evs_cons (ev_cel (by walk_at "mem")) evs_nil) (by simp))
    · have hkf : (kids rows p).isEmpty = false := by simpa using hk
      rw [hkf] at htest
      rw [if_neg hk]
      refine ev_if_f (htest _ _ _) ?_
      refine ev_comp2 (ds := (kids rows p).map fun (k : Nat) => PyData.int (k : Int)) [("k", .unl), ("one", .unl), ("rows", .cel (rowsD rows)), ("chain", .cel (intsD chain)), ("_law_chains", .glo)] (it_list (ev_loc (d := intsD (kids rows p)) (by walk_at "mem"))) ⟨rfl, rfl, ⟨rfl, by walk_at "mem"⟩, ⟨rfl, by walk_at "mem"⟩, rfl, trivial⟩ ⟨⟨_, by walk_at "mem"⟩, ⟨_, by walk_at "mem"⟩, trivial⟩ ?_ ?_
      · rw [show ((kids rows p).flatMap fun k => (chF n rows (chain ++ [k])).map intsD) = ((kids rows p).filter fun _ => true).flatMap fun k => (chF n rows (chain ++ [k])).map intsD by rw [List.filter_eq_self.mpr (fun _ _ => rfl)]]
        refine comp_flat _ fun j hj => ⟨[("k", .loc (.int (j : Int))), ("one", .unl), ("rows", .cel (rowsD rows)), ("chain", .cel (intsD chain)), ("_law_chains", .glo)], casg_name (by walk_at "cset"), CSet.back (x := "k") (d := .int (j : Int)) (by walk_at "cset"), tests_nil, fun _ => ?_⟩
        have hs := h1.snoc G (by rw [hp]; exact hj)
        obtain ⟨hs1, hs2, hs3⟩ := hs
        rw [hp] at hs3
        refine emit_two (ds := (chF n rows (chain ++ [j])).map intsD) (it_list (ev_call (by walk_at "mem") (evs_cons (ev_cel (by walk_at "mem")) (evs_cons (d := intsD (chain ++ [j])) ?_ evs_nil)) (ih (chain ++ [j]) hs1 (by omega)))) ?_
        · unfold intsD
          rw [List.map_append]
          exact ev_binop (ev_cel (d := intsD chain) (by walk_at "mem")) (ev_list (evs_cons (ev_loc (by walk_at "mem")) evs_nil) (by simp)) (bin_add_list (by simp; omega))
        · exact comp_all _ fun c hc => ⟨[("k", .loc (.int (j : Int))), ("one", .loc (intsD c)), ("rows", .cel (rowsD rows)), ("chain", .cel (intsD chain)), ("_law_chains", .glo)], casg_name (by walk_at "cset"), CSet.back (x := "one") (d := intsD c) (by walk_at "cset"), tests_nil, ev_loc (by walk_at "mem")⟩
      · have := hcount (n + 1) chain
        have e2 := congrArg (fun d => match d with | PyData.list l => l.length | _ => 0) hchain
        rw [if_neg hk] at e2
        simp only [chainsD, List.length_map] at e2
        omega
end
end
section
set_option Elab.async false
set_option maxRecDepth 100000
set_option maxHeartbeats 4000000

noncomputable def nameK (rows : List Row) (k : Nat) : Str := Txt.join "-" (rowAt rows k).ws
noncomputable def bothF (one two : List Nat) : List Nat := ((one.zip two).filter fun p => decide (p.1 = p.2)).map (·.1)
noncomputable def sharedF (rows : List Row) (one two : List Nat) : Str := "/" ++ Txt.join "/" (((bothF one two).drop 1).map (nameK rows))

theorem join_len {sep : Str} {xs : List Str} {B : Nat} (h : ∀ x ∈ xs, x.length ≤ B) : (Txt.join sep xs).length ≤ xs.length * B + xs.length * sep.length := by
  have h1 := StrLaws.join_length_le sep xs
  have h2 := sum_le (xs := xs) (f := fun x => x) h
  rw [List.map_id'] at h2
  have e : Txt.join sep xs = Str.join sep xs := StrLaws.glued_eq_join sep xs
  rw [e]; omega
theorem sum_nat {α : Type} {xs : List α} {f : α → Str} {B : Nat} (h : ∀ x ∈ xs, (f x).length ≤ B) : ((xs.map f).map (·.length)).sum ≤ xs.length * B := by
  induction xs with
  | nil => simp
  | cons a r ih =>
    have h1 := h a (by simp)
    have h2 := ih fun x hx => h x (by simp [hx])
    simp only [List.map_cons, List.sum_cons, List.length_cons, Nat.succ_mul] at *
    omega
theorem name_len {rows : List Row} {k : Nat} (hok : RowOk (rowAt rows k)) (hws : (rowAt rows k).ws.length ≤ 2) : (nameK rows k).length ≤ 8 := by
  have h := join_len (sep := "-") (xs := (rowAt rows k).ws) (B := 3) fun x hx => (title_len x (hok x hx)).2.2.2
  have e : (Str.ofString "-").length = 1 := by decide +kernel
  unfold nameK
  rw [e] at h
  omega
theorem slash_len : (Str.ofString "/").length = 1 := by decide +kernel
theorem dash_len : (Str.ofString "-").length = 1 := by decide +kernel

section
variable {C : Cx} {k : Nat} {ρ : Rho}
theorem ev_name {pos apos p : Pos} {n : Nat} {e : Expr} {rows : List Row} {j : Nat} (he : EvR C k ρ e (strsD (rowAt rows j).ws)) (hok : RowOk (rowAt rows j)) (hws : (rowAt rows j).ws.length ≤ 2) (hs : ∀ env, starEach [e] env = [(false, eval e env)] := by intro _; rfl) (hline : (apos.endLine == pos.line) = true := by rfl) :
    EvR C k ρ (.Call (.Attribute (.Constant (.str "-") n p) "join" apos) [e] [] pos) (.str (nameK rows j)) :=
  ev_m1 ev_str he (m_join (by
    have h2 := sum_le (xs := (rowAt rows j).ws) (f := fun x => x) (B := 3) fun x hx => (title_len x (hok x hx)).2.2.2
    rw [List.map_id'] at h2
    exact joinOk_of (by rw [dash_len]; omega))) (hs := hs) (hline := hline)

theorem zip_data (one two : List Nat) : zipD (one.map fun (k : Nat) => PyData.int (k : Int)) (two.map fun (k : Nat) => PyData.int (k : Int)) = (one.zip two).map fun p => PyData.tuple [.int (p.1 : Int), .int (p.2 : Int)] := by
  unfold zipD
  rw [List.zip_map, List.map_map]; rfl

theorem both_len (one two : List Nat) : (bothF one two).length ≤ one.length := by
  unfold bothF
  have := List.length_filter_le (fun p : Nat × Nat => decide (p.1 = p.2)) (one.zip two)
  simp only [List.length_map, List.length_zip] at *
  omega
theorem both_mem {one two : List Nat} {x : Nat} (h : x ∈ bothF one two) : x ∈ one := by
  unfold bothF at h
  obtain ⟨p, hp, rfl⟩ := List.mem_map.mp h
  exact (List.of_mem_zip (a := p.1) (b := p.2) (List.mem_filter.mp hp).1).1

theorem fn_shared (D : DefOf C "_law_shared") (hzip : C.mg "zip" = none) (rows : List Row) (G : Good rows) (one two : List Nat) (h1 : ∀ x ∈ one, x < rows.length) (hl : one.length ≤ 17) : FnR C (k + 1) "_law_shared" [rowsD rows, intsD one, intsD two] (.str (sharedF rows one two)) := by
  have hz := G.len
  have hws : ∀ j, j < rows.length → (rowAt rows j).ws.length ≤ 2 := fun j hj => by
    by_cases h0 : j = 0
    · subst h0; have := G.root; rw [this]; decide
    · exact (G.ws j (by omega) hj).2
  refine fn_intro (names := ["rows", "one", "two"]) (ρ := [("rows", .cel (rowsD rows)), ("one", .loc (intsD one)), ("two", .loc (intsD two)), ("both", .unl), ("zip", .glo)]) D (by intro _ _ _ vs h; match vs, h with | [u, v, w], _ => rfl) rfl (by decide) (by decide +kernel) (by decide +kernel) ?_ ?_
  · exact ⟨⟨rfl, rfl⟩, ⟨rfl, rfl⟩, ⟨rfl, rfl⟩, rfl, rfl, trivial⟩
  have hbl := both_len one two
  refine ex_next (ρ' := [("rows", .cel (rowsD rows)), ("one", .loc (intsD one)), ("two", .loc (intsD two)), ("both", .loc (intsD (bothF one two))), ("zip", .glo)]) ?_ ?_
  · refine st_assign_comp (rs := (bothF one two).map fun (k : Nat) => PyData.int (k : Int)) (ds := zipD (one.map fun (k : Nat) => PyData.int (k : Int)) (two.map fun (k : Nat) => PyData.int (k : Int))) [("k", .unl), ("other", .unl)] (by walk_at "mem") (.inl rfl) (it_zip (by walk_at "mem") hzip (ev_loc (d := intsD one) (by walk_at "mem")) (ev_loc (d := intsD two) (by walk_at "mem"))) ⟨rfl, rfl, trivial⟩ trivial ?_ (by rw [List.length_map]; omega) (by walk_at "set")
    rw [zip_data, show ((bothF one two).map fun (k : Nat) => PyData.int (k : Int)) = ((one.zip two).filter fun p => decide (p.1 = p.2)).map fun p => PyData.int (p.1 : Int) by unfold bothF; rw [List.map_map]; rfl]
    refine comp_map _ fun q hq => ⟨[("k", .loc (.int (q.1 : Int))), ("other", .loc (.int (q.2 : Int)))], casg_tuple (xs := [("k", _), ("other", _)]) (.cons (ρ1 := [("k", .loc (.int (q.1 : Int))), ("other", .unl)]) (by walk_at "cset") (.cons (by walk_at "cset") (.nil _))) rfl, CSets.back (x := ["k", "other"]) (d := [.int (q.1 : Int), .int (q.2 : Int)]) (.cons (ρ1 := [("k", .loc (.int (q.1 : Int))), ("other", .unl)]) (by walk_at "cset") (.cons (by walk_at "cset") (.nil _))), ?_, fun _ => ev_loc (by walk_at "mem")⟩
    rw [show decide (q.1 = q.2) = decide ((q.1 : Int) = (q.2 : Int)) by by_cases h : q.1 = q.2 <;> simp [h]; omega]
    exact tests_one (te_cmp (ev_loc (by walk_at "mem")) (ev_loc (by walk_at "mem")) cmp_eq_int)
  have hnl : ∀ x ∈ (bothF one two).drop 1, (nameK rows x).length ≤ 8 := fun x hx => by
    have := h1 x (both_mem (List.mem_of_mem_drop hx))
    exact name_len (G.ok x this) (hws x this)
  have hdl : ((bothF one two).drop 1).length ≤ 17 := by rw [List.length_drop]; omega
  refine ex_ret (st_return (ev_binop ev_str (ev_m1 ev_str (ev_comp (ds := (((bothF one two).drop 1).map fun (k : Nat) => PyData.int (k : Int))) (rs := (((bothF one two).drop 1).map (nameK rows)).map PyData.str) [("k", .unl), ("rows", .cel (rowsD rows))] ?_ ⟨rfl, ⟨rfl, by walk_at "mem"⟩, trivial⟩ ⟨⟨_, by walk_at "mem"⟩, trivial⟩ ?_ (by simp; omega)) (m_join ?_)) (bin_add_str ?_)))
  · refine it_list ?_
    rw [List.map_drop]
    exact ev_slice_list (xs := (bothF one two).map fun (k : Nat) => PyData.int (k : Int)) (a := some 1) (b := none) (ev_loc (d := intsD (bothF one two)) (by walk_at "mem")) ev_int trivial (by rw [List.length_map]; omega)
  · rw [List.map_map]
    refine comp_all _ fun x hx => ⟨[("k", .loc (.int (x : Int))), ("rows", .cel (rowsD rows))], casg_name (by walk_at "cset"), CSet.back (x := "k") (d := .int (x : Int)) (by walk_at "cset"), tests_nil, ?_⟩
    have hx1 := h1 x (both_mem (List.mem_of_mem_drop hx))
    exact ev_name (ev_ws (ev_cel (by walk_at "mem")) (ev_loc (by walk_at "mem")) hx1 (by omega)) (G.ok x hx1) (hws x hx1)
  · refine joinOk_of ?_
    have := sum_nat (xs := (bothF one two).drop 1) (f := nameK rows) (B := 8) hnl
    rw [slash_len, List.length_map]; omega
  · have := join_len (sep := "/") (xs := ((bothF one two).drop 1).map (nameK rows)) (B := 8) (by intro y hy; obtain ⟨x, hx, rfl⟩ := List.mem_map.mp hy; exact hnl x hx)
    rw [slash_len, List.length_map] at *
    omega
end
end
section
set_option Elab.async false
set_option maxRecDepth 100000
set_option maxHeartbeats 4000000
section
variable {prog : Program} {w : World} {A : Around} {E : Value → Shared → Prop} {s : Shared}
theorem sub_self : isSubtype (.type "str") (.type "str") = pure true := by rw [isSubtype_type]; kernel_rfl
theorem sub_nest {dep : Int} {tk : Tok} {Q : Fin → Shared → Prop} (hq : Q (.done (.ret (.bool true))) s) :
    wpAny (model prog w) A (Builtin.«issubclass.nested» ⟨[.type "str", .type "str", .int dep tk], []⟩) Q E s := by
  have hself := sub_self
  repeat (any_goals (first | assumption | (rw [hself]) | wp_step))
theorem kind_subn : builtinKind "issubclass.nested" = none := by decide +kernel
theorem plain_subn : plainId "issubclass.nested" = true := by decide +kernel
theorem args_subn (a b c : Value) : argsOk "issubclass.nested" ⟨[a, b, c], []⟩ := by unfold argsOk; kernel_rfl
theorem sub_tuple {tp : Addr} {tk : Tok} {cs r : List Value} {Q : Fin → Shared → Prop} (hcs : cs = .type "str" :: r) (htp : s.heap.get? tp = some { cls := .type "tuple", data := .seq cs.toArray }) (hq : ∀ tk', Q (.done (.ret (.bool true))) { s with toks := tk' }) :
    wpAny (model prog w) A (Builtin.«issubclass.nested» ⟨[.type "str", .ref tp, .int 0 tk], []⟩) Q E s := by
  obtain ⟨h, g, d, t, os⟩ := s
  have hT2 : (⟨h, g, d, t, os⟩ : Shared).TypeIs (.ref tp) "tuple" := ⟨_, htp, rfl⟩
  have f1 := F.isi_sub_tuple
  repeat (any_goals (first | assumption | wp_step))
  refine wpAny_arrayLoop ?_
  simp only [Option.getD_some, List.toList_toArray]
  rw [hcs, List.forIn_cons]
  refine wpAny_bind (wpAny_bind (call_function_meets kind_subn plain_subn F.entry_issubclass_nested (args_subn _ _ _) (S := fun _ R s => R (.ok (.ret (.bool true))) s) (fun _ _ _ _ _ hs => sub_nest hs) ?_))
  show wpAny _ _ (truthy (.bool true) >>= _) _ _ _
  refine wpAny_bind (m := truthy (.bool true)) (wpAny_pure ?_)
  exact wpAny_bind (wpAny_pure (wpAny_pure (wpAny_pure (wpAny_pure (hq t)))))
theorem sub_meets {tp : Addr} : Meets (Builtin.«issubclass» ⟨[.type "str", .ref tp], []⟩) (fun _ R s => s.heap.get? tp = some { cls := .type "tuple", data := .seq #[.type "str", .type "bytes"] } ∧ ∀ tk, R (.ok (.ret (.bool true))) { s with toks := tk }) :=
  fun _ _ _ _ _ hs => issubclass_outer (sub_tuple (cs := [.type "str", .type "bytes"]) rfl hs.1 hs.2)
end
end
section
set_option Elab.async false
set_option maxRecDepth 100000
set_option maxHeartbeats 4000000
section
variable {C : Cx} {k : Nat} {ρ : Rho}
theorem fs_store {X : Addr → Prop} {A : Around} {env : Env} {s : Shared} {x : Str} {t : Tok} {m : Str → Option Value} {Q : Unit → Shared → Prop} {E : Value → Shared → Prop} (w : Own C env s.heap) (S : Sees X env s.heap ρ) (hk : env.kindOf ("kind" : Str) = some .local) (hn : s.heap.Ns env.locals m) (hp : m ("path" : Str) = some (.str x t))
    (hQ : ∀ s' m', KpB env s s' → Own C env s'.heap → s'.heap.Ns env.locals m' → m' ("kind" : Str) = some (.type "str") → m' ("path" : Str) = some (.str x t) → Q () s') : wpAny C.M A (storeName env "kind" (.type "str")) Q E s := by
  refine wpAny_storeName_local hk hn (fun h' hn' hs' => ?_) (by rw [S.kind]; rfl)
  have kb : KpB env s { s with heap := h', toks := s.toks + 1 } := ⟨h', _, rfl, fun b o hb e => hs'.extBut b o (fun q => hb (.inl q)) e⟩
  have ncell : ∀ n c, (n, c) ∈ env.cells → c ≠ env.locals := fun n c hm q => by
    obtain ⟨v, o, ho, hd⟩ := w.cells n c hm
    obtain ⟨o', es, ep, ho', hd', _⟩ := hn
    rw [q, ho'] at ho; cases ho; rw [hd] at hd'; cases hd'
  have w' : Own C env h' := ⟨⟨_, hn'⟩, fun n c hm => let ⟨v, x⟩ := w.cells n c hm; ⟨v, x.sameBut hs' (ncell n c hm)⟩, w.lo, w.clo, w.apart⟩
  exact hQ _ _ kb w' hn' (by simp) (by rw [if_neg (by decide)]; exact hp)

noncomputable def rhoF (x : Str) : Rho := [("path", .loc (.str x)), ("kind", .unl), ("type", .glo), ("issubclass", .glo), ("str", .glo), ("bytes", .glo)]
theorem fn_fspath (D : DefOf C "fspath") (h1 : C.mg "type" = none) (h2 : C.mg "issubclass" = none) (h3 : C.mg "str" = none) (h4 : C.mg "bytes" = none) (x : Str) : FnR C (k + 1) "fspath" [.str x] (.str x) := by
  refine fn_intro (names := ["path"]) (ρ := rhoF x) D (by intro _ _ _ vs h; match vs, h with | [v], _ => rfl) rfl (by decide) (by decide +kernel) (by decide +kernel) ?_ ?_
  · exact ⟨⟨rfl, rfl⟩, rfl, rfl, rfl, rfl, rfl, trivial⟩
  intro X A env s O w S Q E hQ
  obtain ⟨hkp, m, v, hn, hv, t, rfl⟩ := S.names (("path" : Str), .loc (.str x)) (by unfold rhoF; walk_at "mem")
  have hkk := S.names (("kind" : Str), .unl) (by unfold rhoF; walk_at "mem")
  refine wpAny_execs_cons (wpAny_Assign_Name (Call_name1 rfl (ev_builtin (v := .type "type") O S (by unfold rhoF; walk_at "mem") h1 (by decide +kernel) (by decide) (PySem.callWith_type1 (wpAny_Name (wpAny_loadName_local S.kind hkp hn hv ?_) (by decide))))))
  refine call_type_of (typeIs_str _ _ _) (by decide) ?_
  refine fs_store w S hkk hn hv fun s1 m1 k1 w1 hn1 hv1 hp1 => ?_
  show wpAny _ _ (execs _ env) _ _ _
  have S1 : Sees X env s1.heap [("type", .glo), ("issubclass", .glo), ("str", .glo), ("bytes", .glo)] := ⟨S.kind, S.gl, S.bl, fun p hp => by
    have hm : p ∈ rhoF x := by unfold rhoF; exact .tail _ (.tail _ hp)
    have N := S.names p hm
    simp at hp
    rcases hp with rfl | rfl | rfl | rfl <;> exact N⟩
  have O1 := O.b w k1 w1
  refine wpAny_execs_cons (wpAny_If ?_)
  refine isTrue_plain (Call_ (ev_builtin (v := .builtin "issubclass") O1 S1 (by walk_at "mem") h2 (by decide +kernel) (by decide) ?_)) rfl
  refine Calls.callWith_builtin rfl (Calls.evalArgs_plain (Calls.spliced_cons ?_))
  refine wpAny_Name (wpAny_loadName_local S.kind hkk hn1 hv1 (Calls.spliced_cons ?_)) (by decide)
  refine wpAny_Tuple (k := 0) (spliced_more (ev_builtin (v := .type "str") O1 S1 (by walk_at "mem") h3 (by decide +kernel) (by decide) (spliced_more (ev_builtin (v := .type "bytes") O1 S1 (by walk_at "mem") h4 (by decide +kernel) (by decide) (spliced_none ⟨by decide, ?_⟩)) rfl)) rfl)
  refine Calls.spliced_nil ?_
  refine call_issubclass sub_meets ⟨Heap.get?_push_size _ rfl, fun tk => ?_⟩
  refine wpAny_truthy_bool ?_
  rw [if_pos rfl]
  have k2 : PySem.Keeps s1 { s1 with heap := s1.heap.push { cls := .type "tuple", data := .seq #[.type "str", .type "bytes"] }, toks := tk } := kept_push
  have g2 : Grow s1.heap (s1.heap.push { cls := .type "tuple", data := .seq #[.type "str", .type "bytes"] }) := fun _ _ e => Heap.get?_push_of_some _ e
  refine wpAny_execs_cons (wpAny_Return_some (wpAny_Name (wpAny_loadName_local S.kind hkp (hn1.keeps g2) hp1 ?_) (by decide)))
  exact hQ _ _ (k1.tr (kept_b k2)) (w1.grow g2) ⟨_, rfl, t, rfl⟩
end
end
section
set_option Elab.async false
set_option maxRecDepth 100000
set_option maxHeartbeats 4000000

structure Nm (C : Cx) : Prop where
  type : C.mg "type" = none
  issubclass : C.mg "issubclass" = none
  isinstance : C.mg "isinstance" = none
  str : C.mg "str" = none
  bytes : C.mg "bytes" = none
  len : C.mg "len" = none
  range : C.mg "range" = none
  zip : C.mg "zip" = none
  enumerate : C.mg "enumerate" = none
  min : C.mg "min" = none
  max : C.mg "max" = none
  tuple : C.mg "tuple" = none
  map : C.mg "map" = none
  fspath : DefOf C "fspath"
  get_sep : DefOf C "_get_sep"

noncomputable def cutI (x : Str) : Nat := (Txt.rfind x "/" + 1).toNat
theorem rfind_ge (x y : Str) : -1 ≤ Txt.rfind x y := by
  unfold Txt.rfind; split <;> omega
theorem cutI_eq (x : Str) : Txt.rfind x "/" + 1 = (cutI x : Int) := by
  have := rfind_ge x "/"
  unfold cutI; omega
noncomputable def headF (x : Str) : Str := if (cutS none (some (cutI x)) x).length ≠ 0 ∧ cutS none (some (cutI x)) x ≠ Txt.mul "/" ((cutS none (some (cutI x)) x).length : Int) then Txt.rstripChars (cutS none (some (cutI x)) x) "/" else cutS none (some (cutI x)) x
theorem cutS_len (a b : Option Nat) (x : Str) : (cutS a b x).length ≤ x.length := by
  unfold cutS cutL Str.length
  cases b with
  | none => simp
  | some n => simp; omega

section
variable {C : Cx} {k : Nat} {ρ : Rho}
theorem fn_fs (N : Nm C) (x : Str) : FnR C (k + 1) "fspath" [.str x] (.str x) := fn_fspath N.fspath N.type N.issubclass N.str N.bytes x
theorem fn_sep (N : Nm C) (x : Str) : FnR C (k + 1) "_get_sep" [.str x] (.str "/") := by
  refine fn_intro (names := ["path"]) (ρ := [("path", .loc (.str x)), ("isinstance", .glo), ("bytes", .glo)]) N.get_sep (by intro _ _ _ vs h; match vs, h with | [v], _ => rfl) rfl (by decide) (by decide +kernel) (by decide +kernel) ⟨⟨rfl, rfl⟩, rfl, rfl, trivial⟩ ?_
  exact ex_ret (st_if_f (te_bool (ev_isinst_bytes (by walk_at "mem") N.isinstance (by walk_at "mem") N.bytes (ev_loc (by walk_at "mem")))) (ex_ret (st_return ev_str)))

theorem te_head {h : Str} {p1 p2 p3 p4 p5 p6 p7 p8 p9 : Pos} (m1 : (("head" : Str), Bd.loc (.str h)) ∈ ρ) (m2 : (("sep" : Str), Bd.loc (.str "/")) ∈ ρ) (m3 : (("len" : Str), Bd.glo) ∈ ρ) (hl : C.mg "len" = none) (hz : h.length ≤ 1000) :
    TestR C k ρ (.BoolOp .And [.Name "head" p1, .Compare (.Name "head" p2) [.NotEq] [.BinOp (.Name "sep" p3) .Mult (.Call (.Name "len" p4) [.Name "head" p5] [] p6) p7] p8] p9) (decide (h.length ≠ 0 ∧ h ≠ Txt.mul "/" (h.length : Int))) := by
  have t1 := te_str (C := C) (k := k) (ρ := ρ) (e := .Name "head" p1) (x := h) (ev_loc m1) (by omega)
  have t2 : TestR C k ρ (.Compare (.Name "head" p2) [.NotEq] [.BinOp (.Name "sep" p3) .Mult (.Call (.Name "len" p4) [.Name "head" p5] [] p6) p7] p8) (!decide (h = Txt.mul "/" (h.length : Int))) :=
    te_cmp (ev_loc m1) (ev_binop (ev_loc m2) (ev_len_str m3 hl (ev_loc m1) (by omega)) (bin_mul_str (by omega) (by omega) (by decide +kernel))) cmp_ne_str
  by_cases hb : h.length ≠ 0
  · rw [decide_eq_true hb] at t1
    have : decide (h.length ≠ 0 ∧ h ≠ Txt.mul "/" (h.length : Int)) = !decide (h = Txt.mul "/" (h.length : Int)) := by
      by_cases hc : h = Txt.mul "/" (h.length : Int)
      · rw [decide_eq_true hc]; exact decide_eq_false fun q => q.2 hc
      · rw [decide_eq_false hc]; exact decide_eq_true ⟨hb, hc⟩
    rw [this]
    refine te_and_t t1 ?_
    revert t2
    generalize (!decide (h = Txt.mul "/" (h.length : Int))) = b
    intro t2
    cases b with
    | false => exact te_and_f t2
    | true => exact te_and_t t2 te_and_nil
  · rw [decide_eq_false hb] at t1
    rw [decide_eq_false (fun q => hb q.1)]
    exact te_and_f t1

theorem fn_dirname (N : Nm C) (D : DefOf C "dirname") (x : Str) (hx : x.length ≤ 1000) : FnR C (k + 2) "dirname" [.str x] (.str (headF x)) := by
  have hc := cutS_len none (some (cutI x)) x
  refine fn_intro (names := ["p"]) (ρ := [("p", .loc (.str x)), ("sep", .unl), ("i", .unl), ("head", .unl), ("fspath", .glo), ("_get_sep", .glo), ("len", .glo)]) D (by intro _ _ _ vs h; match vs, h with | [v], _ => rfl) rfl (by decide) (by decide +kernel) (by decide +kernel) ⟨⟨rfl, rfl⟩, rfl, rfl, rfl, rfl, rfl, rfl, trivial⟩ ?_
  refine ex_next (st_assign (ev_call (by walk_at "mem") (evs_cons (ev_loc (by walk_at "mem")) evs_nil) (fn_fs N x)) (by walk_at "set")) ?_
  refine ex_next (st_assign (ev_call (by walk_at "mem") (evs_cons (ev_loc (by walk_at "mem")) evs_nil) (fn_sep N x)) (by walk_at "set")) ?_
  refine ex_next (st_assign (d := .int (cutI x : Int)) ?_ (by walk_at "set")) ?_
  · rw [← cutI_eq]
    exact ev_binop (ev_m1 (ev_loc (by walk_at "mem")) (ev_loc (by walk_at "mem")) m_rfind) ev_int bin_add_int
  refine ex_next (st_assign (ev_slice_str (a := none) (b := some (cutI x)) (ev_loc (by walk_at "mem")) trivial (ev_loc (by walk_at "mem")) (by omega)) (by walk_at "set")) ?_
  refine ex_next (ρ' := [("p", .loc (.str x)), ("sep", .loc (.str "/")), ("i", .loc (.int (cutI x : Int))), ("head", .loc (.str (headF x))), ("fspath", .glo), ("_get_sep", .glo), ("len", .glo)]) ?_ (ex_ret (st_return (ev_loc (by walk_at "mem"))))
  unfold headF
  generalize hh : cutS none (some (cutI x)) x = h at *
  refine st_if (b := decide (h.length ≠ 0 ∧ h ≠ Txt.mul "/" (h.length : Int))) (te_head (by walk_at "mem") (by walk_at "mem") (by walk_at "mem") N.len (by omega)) (fun hb => ?_) (fun hb => ?_)
  · rw [if_pos (of_decide_eq_true hb)]
    exact ex_one (st_assign (ev_m1 (ev_loc (by walk_at "mem")) (ev_loc (by walk_at "mem")) (m_rstrip (by omega))) (by walk_at "set"))
  · rw [if_neg (of_decide_eq_false hb)]
    exact ex_nil

theorem fn_split (N : Nm C) (D : DefOf C "split") (x : Str) (hx : x.length ≤ 1000) : FnR C (k + 2) "split" [.str x] (.tuple [.str (headF x), .str (cutS (some (cutI x)) none x)]) := by
  have hc := cutS_len none (some (cutI x)) x
  refine fn_intro (names := ["p"]) (ρ := [("p", .loc (.str x)), ("sep", .unl), ("i", .unl), ("head", .unl), ("tail", .unl), ("fspath", .glo), ("_get_sep", .glo), ("len", .glo)]) D (by intro _ _ _ vs h; match vs, h with | [v], _ => rfl) rfl (by decide) (by decide +kernel) (by decide +kernel) ⟨⟨rfl, rfl⟩, rfl, rfl, rfl, rfl, rfl, rfl, rfl, trivial⟩ ?_
  refine ex_next (st_assign (ev_call (by walk_at "mem") (evs_cons (ev_loc (by walk_at "mem")) evs_nil) (fn_fs N x)) (by walk_at "set")) ?_
  refine ex_next (st_assign (ev_call (by walk_at "mem") (evs_cons (ev_loc (by walk_at "mem")) evs_nil) (fn_sep N x)) (by walk_at "set")) ?_
  refine ex_next (st_assign (d := .int (cutI x : Int)) ?_ (by walk_at "set")) ?_
  · rw [← cutI_eq]
    exact ev_binop (ev_m1 (ev_loc (by walk_at "mem")) (ev_loc (by walk_at "mem")) m_rfind) ev_int bin_add_int
  refine ex_next (ρ' := [("p", .loc (.str x)), ("sep", .loc (.str "/")), ("i", .loc (.int (cutI x : Int))), ("head", .loc (.str (cutS none (some (cutI x)) x))), ("tail", .loc (.str (cutS (some (cutI x)) none x))), ("fspath", .glo), ("_get_sep", .glo), ("len", .glo)]) ?_ ?_
  · refine st_assign_swap (ev_tuple (evs_cons (ev_slice_str (a := none) (b := some (cutI x)) (ev_loc (by walk_at "mem")) trivial (ev_loc (by walk_at "mem")) (by omega)) (evs_cons (ev_slice_str (a := some (cutI x)) (b := none) (ev_loc (by walk_at "mem")) (ev_loc (by walk_at "mem")) trivial (by omega)) evs_nil)) (by simp)) (.cons (by walk_at "set") (.cons (by walk_at "set") .nil)) (by intro _; rfl) ?_
    exact fun X env s S => swapped_pair S.kind (S.names ("head", .unl) (by walk_at "mem")) (S.names ("tail", .unl) (by walk_at "mem")) rfl (by decide) rfl (by decide +kernel) (by decide +kernel)
  refine ex_next (ρ' := [("p", .loc (.str x)), ("sep", .loc (.str "/")), ("i", .loc (.int (cutI x : Int))), ("head", .loc (.str (headF x))), ("tail", .loc (.str (cutS (some (cutI x)) none x))), ("fspath", .glo), ("_get_sep", .glo), ("len", .glo)]) ?_ (ex_ret (st_return (ev_tuple (evs_cons (ev_loc (by walk_at "mem")) (evs_cons (ev_loc (by walk_at "mem")) evs_nil)) (by simp))))
  unfold headF
  generalize hh : cutS none (some (cutI x)) x = h at *
  refine st_if (b := decide (h.length ≠ 0 ∧ h ≠ Txt.mul "/" (h.length : Int))) (te_head (by walk_at "mem") (by walk_at "mem") (by walk_at "mem") N.len (by omega)) (fun hb => ?_) (fun hb => ?_)
  · rw [if_pos (of_decide_eq_true hb)]
    exact ex_one (st_assign (ev_m1 (ev_loc (by walk_at "mem")) (ev_loc (by walk_at "mem")) (m_rstrip (by omega))) (by walk_at "set"))
  · rw [if_neg (of_decide_eq_false hb)]
    exact ex_nil

theorem fn_splitroot (N : Nm C) (D : DefOf C "splitroot") (x : Str) (hx : x.length ≤ 100000) (h1 : cutS none (some 1) x = "/") (h2 : cutS (some 1) (some 2) x ≠ "/") : FnR C (k + 2) "splitroot" [.str x] (.tuple [.str "", .str "/", .str (cutS (some 1) none x)]) := by
  refine fn_intro (names := ["p"]) (ρ := [("p", .loc (.str x)), ("sep", .unl), ("empty", .unl), ("fspath", .glo), ("isinstance", .glo), ("bytes", .glo)]) D (by intro _ _ _ vs h; match vs, h with | [v], _ => rfl) rfl (by decide) (by decide +kernel) (by decide +kernel) ⟨⟨rfl, rfl⟩, rfl, rfl, rfl, rfl, rfl, trivial⟩ ?_
  refine ex_next (st_assign (ev_call (by walk_at "mem") (evs_cons (ev_loc (by walk_at "mem")) evs_nil) (fn_fs N x)) (by walk_at "set")) ?_
  refine ex_next (ρ' := [("p", .loc (.str x)), ("sep", .loc (.str "/")), ("empty", .loc (.str "")), ("fspath", .glo), ("isinstance", .glo), ("bytes", .glo)]) (st_if_f (te_bool (ev_isinst_bytes (by walk_at "mem") N.isinstance (by walk_at "mem") N.bytes (ev_loc (by walk_at "mem")))) (ex_next (st_assign ev_str (by walk_at "set")) (ex_one (st_assign ev_str (by walk_at "set"))))) ?_
  refine ex_ret (st_if_f (te_cmp (c := false) (ev_slice_str (a := none) (b := some 1) (ev_loc (by walk_at "mem")) trivial ev_int (by omega)) (ev_loc (by walk_at "mem")) ?_) (ex_ret (st_if_t (te_or_t (te_cmp (c := true) (ev_slice_str (a := some 1) (b := some 2) (ev_loc (by walk_at "mem")) ev_int ev_int (by omega)) (ev_loc (by walk_at "mem")) ?_)) (ex_ret (st_return (ev_tuple (evs_cons (ev_loc (by walk_at "mem")) (evs_cons (ev_loc (by walk_at "mem")) (evs_cons (ev_slice_str (a := some 1) (b := none) (ev_loc (by walk_at "mem")) ev_int trivial (by omega)) evs_nil))) (by simp)))))))
  · have := cmp_ne_str (C := C) (k := k + 1) (a := cutS none (some 1) x) (b := "/")
    rw [h1, decide_eq_true rfl] at this
    rw [h1]; exact this
  · have := cmp_ne_str (C := C) (k := k + 1) (a := cutS (some 1) (some 2) x) (b := "/")
    rwa [decide_eq_false h2] at this
end
end
section
set_option Elab.async false
set_option maxRecDepth 100000
set_option maxHeartbeats 4000000
section
variable {C : Cx} {k : Nat} {ρ : Rho}
theorem fn_intro_star {name : Str} {params : Arguments} {body : List Stmt} {scope : Scope} {a0 p0 : Str} {d0 : PyData} {ds : List PyData} {r : PyData} {ρ : Rho} (D : DefAt C name params body scope)
    (hbind : ∀ pm cd doc (v : Value) (vs : List Value), vs.length = ds.length → bindArgs (Calls.docDef name params body scope pm cd doc) ⟨v :: vs, []⟩ = (do let t ← newTuple vs; pure [(a0, v), (p0, t)]))
    (hz : ds.length ≤ 1000) (hnn : [a0, p0].Nodup) (hkd : ([a0, p0].all fun y => scope.names.lookup y == some .local || scope.names.lookup y == some .cell) = true)
    (hcn : ((cellsFrom 0 scope.names []).map (·.1)).Nodup) (hρ : ParOk scope.names ([a0, p0].zip [d0, .tuple ds]) ρ) (hbody : ExR C k ρ body (.ret r))
    (hco : scope.isCoroutine = false := by rfl) (hgen : scope.isGenerator = false := by rfl) (hk : scope.kind = .function := by rfl) : FnR C (k + 1) name (d0 :: ds) r := by
  obtain ⟨a, o, pm, code, doc, h1, h2, h3, h4⟩ := D
  refine ⟨a, o, _, h1, h2, h3, fun X A s vs0 O hr0 => gv_of fun Q E hQ => ?_⟩
  obtain ⟨v, vs, rfl, rv, rvs⟩ := hr0
  have hl : vs.length = ds.length := rvs.length
  refine wpAny_call (codeAny_call_function (by have := O.dp; show _ < 1000; omega) (O.base _ _ h2) h3 hco hgen rfl (h4.keeps O.base) ?_)
  rw [hbind pm code doc v vs hl]
  refine wpAny_bind (wpAny_newTuple ?_)
  refine wpAny_pure ?_
  have k0 : Kp s { s with heap := s.heap.push { cls := .type "tuple", data := .seq vs.toArray } } := Kp.push
  have O0 := O.keeps k0
  have hr : RdL X (s.heap.push { cls := .type "tuple", data := .seq vs.toArray }) [d0, .tuple ds] [v, .ref s.heap.objs.size] :=
    ⟨v, _, rfl, rv.grow k0.grow, _, _, rfl, ⟨_, vs.toArray, rfl, O.fresh, ⟨_, Heap.get?_push_size _ rfl, rfl, 0, rfl⟩, rvs.grow k0.grow⟩, rfl⟩
  have hnb : (([a0, p0] : List Str).zip [v, Value.ref s.heap.objs.size]) = [(a0, v), (p0, .ref s.heap.objs.size)] := rfl
  generalize hs1 : ({ s with heap := s.heap.push { cls := .type "tuple", data := .seq vs.toArray } } : Shared) = s0 at *
  have hr' : RdL X s0.heap [d0, .tuple ds] [v, .ref s.heap.objs.size] := by rw [← hs1]; exact hr
  refine wpAny_newFunctionEnv_cells (binds := [(a0, v), (p0, .ref s.heap.objs.size)]) hk (kinds_all (by
      rw [List.all_eq_true]
      intro p hp
      rw [← hnb] at hp
      exact List.all_eq_true.mp hkd p.1 (List.of_mem_zip hp).1) _) fun env he s₁ x => ?_
  subst he
  refine ⟨(C.nolimit.keeps O0.base).keeps x.toInCall.keep, codeAny_func ?_⟩
  have S := par_sees (fd := Calls.docDef name params body scope pm code doc) rfl rfl hk hnn rfl x hr' ρ hρ
  have hL : s0.heap.objs.size ≤ (callEnvC (Calls.docDef name params body scope pm code doc) s0.heap.objs.size a).locals := Nat.le_refl _
  have hb1 : Grow s0.heap s₁.heap := x.toInCall.keep
  have O1 : Ok C X k (A.deeper (callEnvC (Calls.docDef name params body scope pm code doc) s0.heap.objs.size a)) s₁ := ⟨O.hd, by have := O.dp; show A.depth + 1 + k ≤ 950; omega, by have := O.un; show A.units + 3 + 20 * k ≤ 9700; omega, fun b o e => hb1 b o (O0.base b o e), fun b hb => let ⟨x, e⟩ := O0.xb b hb; ⟨x, hb1 b x e⟩⟩
  have w1 : Own C (callEnvC (Calls.docDef name params body scope pm code doc) s0.heap.objs.size a) s₁.heap := by
    refine ⟨⟨_, x.toInCall.ns⟩, fun n c hm => ⟨_, x.cell n c (lookup_of_mem_nodup (cells_nodup hcn _) hm)⟩, none_of_base O0 (get_none hL), fun n c hm => none_of_base O0 (get_none (Nat.le_of_lt (x.above n c hm))), x.apart⟩
  refine hbody X _ _ s₁ O1 w1 S _ _ fun fl s2 k2 w2 e2 => ?_
  obtain ⟨v, rfl, rv⟩ := e2
  obtain ⟨hh, tk, e1, keep⟩ := x.done
  obtain ⟨h', tk', e2, g⟩ := k2
  subst e1
  subst e2
  refine hQ v _ (keeps_tr k0.1 ⟨h', tk', rfl, fun b o e => g b o ?_ (keep b o e)⟩) rv
  have hlt := Heap.lt_size e
  rintro (q | ⟨n', hm⟩)
  · exact absurd hlt (Nat.not_lt.mpr (q ▸ hL))
  · exact absurd hlt (Nat.not_lt.mpr (Nat.le_of_lt (x.above _ _ hm)))
end
end
section
set_option Elab.async false
set_option maxRecDepth 100000
set_option maxHeartbeats 4000000

noncomputable def stepJ (path b : Str) : Str := if Txt.startswith b "/" = true ∨ path.length = 0 then b else if Txt.endswith path "/" = true then path ++ b else path ++ ("/" ++ b)
noncomputable def joinF (a : Str) (p : List Str) : Str := p.foldl stepJ a

structure Nm2 (C : Cx) : Prop extends Nm C where
  join : DefOf C "join"
  split : DefOf C "split"
  splitroot : DefOf C "splitroot"
  dirname : DefOf C "dirname"
  normpath : DefOf C "normpath"
  commonpath : DefOf C "commonpath"
  rows : DefOf C "_law_rows"
  tree : DefOf C "_law_tree"
  chains : DefOf C "_law_chains"
  way : DefOf C "_law_way"
  places : DefOf C "_law_places"
  read : DefOf C "_law_read"
  shared : DefOf C "_law_shared"

section
variable {C : Cx} {k : Nat} {ρ : Rho}

theorem te_of {e : Expr} {b c : Bool} (h : TestR C k ρ e b) (hb : b = c) : TestR C k ρ e c := hb ▸ h
theorem ev_of {e : Expr} {b c : PyData} (h : EvR C k ρ e b) (hb : b = c) : EvR C k ρ e c := hb ▸ h
theorem te_or2 {x y : Expr} {pos : Pos} {a b : Bool} (h : TestR C k ρ x a) (h' : TestR C k ρ y b) : TestR C k ρ (.BoolOp .Or [x, y] pos) (a || b) := by
  cases a with
  | true => exact te_or_t h
  | false =>
    refine te_or_f h ?_
    cases b with
    | true => exact te_or_t h'
    | false => exact te_or_f h' te_or_nil
theorem te_and2 {x y : Expr} {pos : Pos} {a b : Bool} (h : TestR C k ρ x a) (h' : a = true → TestR C k ρ y b) : TestR C k ρ (.BoolOp .And [x, y] pos) (a && b) := by
  cases a with
  | false => exact te_and_f h
  | true =>
    refine te_and_t h ?_
    cases b with
    | true => exact te_and_t (h' rfl) te_and_nil
    | false => exact te_and_f (h' rfl)
theorem go_tupleiter {A : Around} {s : Shared} {tgt : Expr} {v : Value} {I l : Addr} {i : Nat} {Q : Unit → Shared → Prop} {E : Value → Shared → Prop} (hit : s.heap.IsTupleIter I l i) (hQ : Q () s) : wpAny C.M A (letOwnedTupleGo tgt (.ref I) v) Q E s := by
  obtain ⟨o, ho, hc, hd⟩ := hit
  have key : ∀ T : Addr, wpAny C.M A (do
      let o ← load I
      match o.cls, o.data with
      | .type n, .fields vs =>
        if ["enumerate", "zip", "dict_itemiterator", "dict_reverseitemiterator", "odict_iterator", "itertools.zip_longest", "itertools.pairwise"].contains n && vs[0]? == some (rawInt T) then
          rule "for.unpacks-the-owned-tuple"
          updateField I 0 .none
      | _, _ => pure () : Sem Unit) Q E s := fun T => by
    refine wpAny_bind (wpAny_load ho ?_)
    rw [hc, hd]
    exact wpAny_pure hQ
  unfold letOwnedTupleGo
  cases tgt <;> first | exact wpAny_pure hQ | skip
  all_goals
    cases v <;> first | exact wpAny_pure hQ | exact key _
theorem laid_tuple {X : Addr → Prop} {A : Around} {tgt : Expr} {ds : List PyData} {s : Shared} {l : Addr} {vs : Array Value} (hh : A.handled = none) (hxb : ∀ b, X b → ∃ o, s.heap.get? b = some o) (hxl : ¬ X l) (hl : s.heap.IsTuple l vs) (hr : RdL X s.heap ds vs.toList) :
    Laid1 C X A tgt ds s { s with heap := s.heap.push { cls := .type "tuple_iterator", data := .fields #[.ref l, .int 0 0] } } s.heap.objs.size [s.heap.objs.size, l] [s.heap.objs.size] (fun Y h => RdL Y h ds vs.toList) (fun i h => h.IsTupleIter s.heap.objs.size l i ∧ h.IsTuple l vs) := by
  have hlt : l ≠ s.heap.objs.size := by obtain ⟨o, ho, _⟩ := hl; exact Nat.ne_of_lt (Heap.lt_size ho)
  have W := Walks.tuple (prog := C.prog) (w := C.w) hh s.heap.objs.size l hlt vs
  have hsz := getElem_of_rdl hr
  refine ⟨fun Y hY => ⟨W.sub, W.frame, fun i h st b hb => ?_, fun h h' g hk => g.mono hk, fun i d s1 Q E hd st g _ hQ => ?_, fun s1 Q E st hQ => ?_, W.self⟩, ⟨⟨_, Heap.get?_push_size _ rfl, rfl, rfl⟩, (by obtain ⟨o, ho, hc, hd⟩ := hl; exact ⟨o, Heap.get?_push_of_some _ ho, hc, hd⟩)⟩, fun Y hY => ?_, ⟨_, s.toks, rfl, fun b o e => Heap.get?_push_of_some _ e⟩, fun b hb => ?_, fun b hb => ?_, fun b hb => ?_⟩
  · simp at hb; subst hb; obtain ⟨⟨o, ho, _⟩, _⟩ := st; exact ⟨o, ho⟩
  · have hi : i < vs.size := by rw [hsz]; exact (List.getElem?_eq_some_iff.mp hd).1
    refine W.item i s1 _ _ hi st fun v h' tk hv st' kk => ?_
    refine hQ v _ fun Q2 E2 hQ2 => go_tupleiter st'.1 ?_
    refine hQ2 h' tk st' ?_ kk
    obtain ⟨u, hu, ru⟩ := g.get' hd
    have : u = v := by
      have e1 : vs.toList[i]? = some v := by simpa using hv
      rw [hu] at e1; exact Option.some.inj e1
    subst this
    exact ru.mono (fun b o vs n hb _ e => kk b o (fun q => hb (hY b q)) e)
  · exact W.done s1 _ _ (by rw [hsz]; exact st) hQ
  · exact (hr.shutS hY).grow fun b o e => Heap.get?_push_of_some _ e
  · simp at hb; subst hb; exact get_none (Nat.le_refl _)
  · simp at hb
    rcases hb with rfl | rfl
    · intro q; obtain ⟨o, e⟩ := hxb _ q; rw [get_none (Nat.le_refl _)] at e; cases e
    · exact hxl
  · simp at hb
    rcases hb with rfl | rfl
    · exact ⟨_, Heap.get?_push_size _ rfl, fun _ _ => by simp, fun _ => by simp⟩
    · obtain ⟨o, ho, hc, n, hd⟩ := hl
      exact ⟨o, Heap.get?_push_of_some _ ho, fun _ _ => by rw [hd]; simp, fun _ => by rw [hd]; simp⟩

theorem it_tuple {e tgt : Expr} {ds : List PyData} (he : EvR C k ρ e (.tuple ds)) : IterR C k ρ e tgt ds := by
  intro X A env s O S Q E hQ
  refine he X A env s O S _ E fun v s1 k1 r1 => ?_
  obtain ⟨l, vs, rfl, hx, hl, hr⟩ := r1
  exact wpAny_pyIter_tuple hl (hQ _ _ _ s1 _ _ _ k1 (laid_tuple O.hd (O.keeps k1).xb hx hl hr))

theorem stepJ_len (a b : Str) : (stepJ a b).length ≤ a.length + b.length + 1 := by
  unfold stepJ
  split
  · omega
  split
  · rw [Str.length_append]; omega
  · rw [Str.length_append, Str.length_append, slash_len]; omega

noncomputable def rhoJ (a : Str) (p : List Str) (path : Str) (b : Bd) : Rho := [("a", .loc (.str a)), ("p", .loc (.tuple (p.map PyData.str))), ("sep", .loc (.str "/")), ("path", .loc (.str path)), ("b", b), ("fspath", .glo)]
theorem fn_join (N : Nm2 C) (a b c : Str) (hz : a.length + b.length + c.length ≤ 1000) : FnR C (k + 2) "join" [.str a, .str b, .str c] (.str (joinF a [b, c])) := by
  refine fn_intro_star (a0 := "a") (p0 := "p") (d0 := .str a) (ds := [.str b, .str c]) (ρ := [("a", .loc (.str a)), ("p", .loc (.tuple [.str b, .str c])), ("sep", .unl), ("path", .unl), ("b", .unl), ("fspath", .glo), ("_get_sep", .glo)]) N.join (by intro _ _ _ v vs h; match vs, h with | [v, w], _ => rfl) (by simp) (by decide) (by decide +kernel) (by decide +kernel) ⟨⟨rfl, rfl⟩, ⟨rfl, rfl⟩, rfl, rfl, rfl, rfl, rfl, trivial⟩ ?_
  refine ex_next (st_assign (ev_call (by walk_at "mem") (evs_cons (ev_loc (by walk_at "mem")) evs_nil) (fn_fs N.toNm a)) (by walk_at "set")) ?_
  refine ex_next (st_assign (ev_call (by walk_at "mem") (evs_cons (ev_loc (by walk_at "mem")) evs_nil) (fn_sep N.toNm a)) (by walk_at "set")) ?_
  refine ex_next (st_assign (ev_loc (by walk_at "mem")) (by walk_at "set")) ?_
  refine ex_next (ρ' := rhoJ a [b, c] (joinF a [b, c]) .unl) ?_ (ex_ret (st_return (ev_loc (by (try unfold rhoJ); walk_at "mem"))))
  refine st_try_next ?_
  refine ex_sub (ρ' := rhoJ a [b, c] a .unl) (ex_one (st_for (it_tuple (ds := [b, c].map PyData.str) (ev_loc (by (try unfold rhoJ); walk_at "mem"))) ?_)) (by intro q hq; simp [rhoJ] at hq ⊢; rcases hq with rfl | rfl | rfl | rfl | rfl | rfl <;> simp)
  refine for_fold (ρ := fun path => rhoJ a [b, c] path .unl) (f := stepJ) (P := fun xs path => path.length + (xs.map fun x => x.length + 1).sum ≤ 1002) ?_ [b, c] a (by simp; omega)
  intro x xs path hP
  have hP' : path.length + x.length ≤ 1001 := by simp at hP; omega
  refine ⟨?_, rhoJ a [b, c] path (.loc (.str x)), asg_name (by (try unfold rhoJ); walk_at "set"), .inl (ex_fg (ρ' := rhoJ a [b, c] (stepJ path x) (.loc (.str x))) ?_ (by (try unfold rhoJ); walk_at "fg"))⟩
  · have := stepJ_len path x; simp at hP ⊢; omega
  refine ex_next (st_assign (d := .str x) (ev_call (by (try unfold rhoJ); walk_at "mem") (evs_cons (ev_loc (by (try unfold rhoJ); walk_at "mem")) evs_nil) (fn_fs N.toNm x)) (by (try unfold rhoJ); walk_at "set")) ?_
  have hb : ∀ p, EvR C (k + 1) (rhoJ a [b, c] path (.loc (.str x))) (.Name "b" p) (.str x) := fun p => ev_loc (by (try unfold rhoJ); walk_at "mem")
  have hpa : ∀ p, EvR C (k + 1) (rhoJ a [b, c] path (.loc (.str x))) (.Name "path" p) (.str path) := fun p => ev_loc (by (try unfold rhoJ); walk_at "mem")
  have hse : ∀ p, EvR C (k + 1) (rhoJ a [b, c] path (.loc (.str x))) (.Name "sep" p) (.str "/") := fun p => ev_loc (by (try unfold rhoJ); walk_at "mem")
  unfold stepJ
  refine ex_one (st_if (b := decide (Txt.startswith x "/" = true ∨ path.length = 0)) ?_ (fun h => ?_) (fun h => ?_))
  · refine te_of (te_or2 (te_bool (ev_m1 (hb _) (hse _) m_startswith)) (te_not (te_str (hpa _) (by omega)))) ?_
    by_cases h1 : Txt.startswith x "/" = true <;> by_cases h2 : path.length = 0 <;> simp [h1, h2]
  · rw [if_pos (of_decide_eq_true h)]
    exact ex_one (st_assign (hb _) (by (try unfold rhoJ); walk_at "set"))
  · rw [if_neg (of_decide_eq_false h)]
    refine ex_one (st_if (b := Txt.endswith path "/") (te_bool (ev_m1 (hpa _) (hse _) m_endswith)) (fun h2 => ?_) (fun h2 => ?_))
    · rw [if_pos h2]
      exact ex_one (st_aug_str (a := path) (by (try unfold rhoJ); walk_at "mem") (hb _) (by omega) (by (try unfold rhoJ); walk_at "set"))
    · rw [if_neg (by simp [h2])]
      exact ex_one (st_aug_str (a := path) (by (try unfold rhoJ); walk_at "mem") (ev_binop (hse _) (hb _) (bin_add_str (by rw [slash_len]; omega))) (by rw [Str.length_append, slash_len]; omega) (by (try unfold rhoJ); walk_at "set"))
end
end
section
set_option Elab.async false
set_option maxRecDepth 100000
set_option maxHeartbeats 4000000

noncomputable def prefL : List Str := ["", ".", "no/..", "./no//..//"]
noncomputable def pref (i : Int) : Str := prefL.getD i.toNat ""
noncomputable def stepW (rows : List Row) (way : Str) (k : Nat) : Str := joinF way [pref (rowAt rows k).kind, nameK rows k]
noncomputable def wayF (rows : List Row) (chain : List Nat) : Str := (chain.drop 1).foldl (stepW rows) "/"

theorem pref_len : ∀ x ∈ prefL, x.length ≤ 10 := by decide +kernel
theorem pref_le {i : Int} (h0 : 0 ≤ i) (h1 : i < 4) : (pref i).length ≤ 10 := by
  unfold pref
  obtain ⟨n, rfl⟩ := Int.eq_ofNat_of_zero_le h0
  match n, h1 with
  | 0, _ => decide +kernel
  | 1, _ => decide +kernel
  | 2, _ => decide +kernel
  | 3, _ => decide +kernel
  | n + 4, h => omega
theorem joinF_len (a b c : Str) : (joinF a [b, c]).length ≤ a.length + b.length + c.length + 2 := by
  have h1 := stepJ_len a b
  have h2 := stepJ_len (stepJ a b) c
  show (stepJ (stepJ a b) c).length ≤ _
  omega

section
variable {C : Cx} {k : Nat} {ρ : Rho}
theorem pref_at {ρ : Rho} {e w : Expr} {pos : Pos} {i : Int} (hw : EvR C k ρ w (strsD prefL)) (he : EvR C k ρ e (.int i)) (h1 : 0 ≤ i) (h2 : i < 4) (hs : ∀ l u, subscripted e false (.ref l) (.int i u) = operate [.ref l, .int i u] (getItem (.ref l) (.int i u))) : EvR C k ρ (.Subscript w e pos) (.str (pref i)) := by
  refine ev_item (xs := prefL.map PyData.str) (n := i) hw he h1 (by omega) ?_ hs
  rw [List.getElem?_map]
  unfold pref
  obtain ⟨n, rfl⟩ := Int.eq_ofNat_of_zero_le h1
  match n, h2 with
  | 0, _ => rfl
  | 1, _ => rfl
  | 2, _ => rfl
  | 3, _ => rfl
  | n + 4, h => omega

noncomputable def rhoWy (rows : List Row) (chain : List Nat) (way : Str) (b : Bd) : Rho := [("rows", .loc (rowsD rows)), ("chain", .loc (intsD chain)), ("way", .loc (.str way)), ("k", b), ("join", .glo)]
theorem fn_way (N : Nm2 C) (rows : List Row) (G : Good rows) (chain : List Nat) (hc : ∀ x ∈ chain, x < rows.length) (h0 : ∀ x ∈ chain.drop 1, 0 < x) (hl : chain.length ≤ 17) : FnR C (k + 3) "_law_way" [rowsD rows, intsD chain] (.str (wayF rows chain)) := by
  have hz := G.len
  refine fn_intro (names := ["rows", "chain"]) (ρ := [("rows", .loc (rowsD rows)), ("chain", .loc (intsD chain)), ("way", .unl), ("k", .unl), ("join", .glo)]) N.way (by intro _ _ _ vs h; match vs, h with | [v, w], _ => rfl) rfl (by decide) (by decide +kernel) (by decide +kernel) ⟨⟨rfl, rfl⟩, ⟨rfl, rfl⟩, rfl, rfl, rfl, trivial⟩ ?_
  refine ex_next (ρ' := rhoWy rows chain "/" .unl) (st_assign ev_str (by unfold rhoWy; walk_at "set")) ?_
  refine ex_next (ρ' := rhoWy rows chain (wayF rows chain) .unl) (st_for (ds := (chain.drop 1).map fun (k : Nat) => PyData.int (k : Int)) (it_list ?_) ?_) (ex_ret (st_return (ev_loc (by unfold rhoWy; walk_at "mem"))))
  · rw [List.map_drop]
    exact ev_slice_list (xs := chain.map fun (k : Nat) => PyData.int (k : Int)) (a := some 1) (b := none) (ev_loc (d := intsD chain) (by unfold rhoWy; walk_at "mem")) ev_int trivial (by rw [List.length_map]; omega)
  refine for_fold (ρ := fun way => rhoWy rows chain way .unl) (f := stepW rows) (P := fun xs way => (∀ x ∈ xs, x < rows.length ∧ 0 < x) ∧ way.length + 20 * xs.length ≤ 400) ?_ (chain.drop 1) "/" ⟨fun x hx => ⟨hc x (List.mem_of_mem_drop hx), h0 x hx⟩, by rw [slash_len, List.length_drop]; omega⟩
  rintro x xs way ⟨hP, hlen⟩
  obtain ⟨x1, x0⟩ := hP x (by simp)
  have hkd := G.kind x x0 x1
  have hnm := name_len (rows := rows) (k := x) (G.ok x x1) (G.ws x x0 x1).2
  have hpf := pref_le hkd.1 hkd.2
  have hjl := joinF_len way (pref (rowAt rows x).kind) (nameK rows x)
  simp only [List.length_cons] at hlen
  refine ⟨⟨fun y hy => hP y (by simp [hy]), ?_⟩, rhoWy rows chain way (.loc (.int (x : Int))), asg_name (by unfold rhoWy; walk_at "set"), .inl (ex_fg (ρ' := rhoWy rows chain (stepW rows way x) (.loc (.int (x : Int)))) ?_ (by unfold rhoWy; walk_at "fg"))⟩
  · unfold stepW; omega
  refine ex_one (st_assign (d := .str (stepW rows way x)) ?_ (by unfold rhoWy; walk_at "set"))
  have hr : ∀ p, EvR C (k + 2) (rhoWy rows chain way (.loc (.int (x : Int)))) (.Name "rows" p) (rowsD rows) := fun p => ev_loc (by unfold rhoWy; walk_at "mem")
  have hk : ∀ p, EvR C (k + 2) (rhoWy rows chain way (.loc (.int (x : Int)))) (.Name "k" p) (.int (x : Int)) := fun p => ev_loc (by unfold rhoWy; walk_at "mem")
  refine ev_call (by unfold rhoWy; walk_at "mem") (evs_cons (ev_loc (by unfold rhoWy; walk_at "mem")) (evs_cons (pref_at (ev_list (evs_cons ev_str (evs_cons ev_str (evs_cons ev_str (evs_cons ev_str evs_nil))))) (ev_kind (hr _) (hk _) x1 (by omega)) hkd.1 hkd.2 (by intro _ _; with_unfolding_all rfl)) (evs_cons (ev_name (ev_ws (hr _) (hk _) x1 (by omega)) (G.ok x x1) (G.ws x x0 x1).2) evs_nil))) (fn_join N way _ _ (by omega))
end
end
section
set_option Elab.async false
set_option maxRecDepth 100000
set_option maxHeartbeats 4000000

structure MS (Y : Addr → Prop) (env : Env) (h : Heap) (D : Addr) (x : Str) (ρ : Rho) (ds : List PyData) : Prop where
  yd : Y D
  sees : Sees Y env h ρ
  kx : env.kindOf x = some .local
  nx : ∃ m, h.Ns env.locals m ∧ m x = some (.ref D)
  ls : ∃ vs, h.PlainList D vs ∧ RdL Y h ds vs.toList

noncomputable def KpM (env : Env) (D : Addr) (s s' : Shared) : Prop := ∃ h' tk, s' = { s with heap := h', toks := tk } ∧ ∀ b o, ¬ MyA env b → b ≠ D → s.heap.get? b = some o → h'.get? b = some o
theorem KpM.tr {env : Env} {D : Addr} {s s' s'' : Shared} (k : KpM env D s s') (k' : KpM env D s' s'') : KpM env D s s'' := by
  obtain ⟨h', tk, rfl, g⟩ := k
  obtain ⟨h'', tk', rfl, g'⟩ := k'
  exact ⟨h'', tk', rfl, fun b o n hd e => g' b o n hd (g b o n hd e)⟩
theorem KpB.m {env : Env} {D : Addr} {s s' : Shared} (k : KpB env s s') : KpM env D s s' := by obtain ⟨h', tk, rfl, g⟩ := k; exact ⟨h', tk, rfl, fun b o n _ e => g b o n e⟩
theorem KpM.rfl' {env : Env} {D : Addr} {s : Shared} : KpM env D s s := ⟨s.heap, s.toks, rfl, fun _ _ _ _ e => e⟩

noncomputable def offD (Y : Addr → Prop) (D : Addr) : Addr → Prop := fun b => Y b ∧ b ≠ D
theorem NameIs.weak {X Y : Addr → Prop} {env : Env} {h : Heap} {x : Str} {b : Bd} (hk : ∀ b, Y b → X b) (n : NameIs X env h x b) : NameIs Y env h x b := n.shutS fun b q => .inl (hk b q)
theorem Sees.weak {X Y : Addr → Prop} {env : Env} {h : Heap} {ρ : Rho} (hk : ∀ b, Y b → X b) (s : Sees X env h ρ) : Sees Y env h ρ := s.shutS fun b q => .inl (hk b q)
theorem MS.view {Y : Addr → Prop} {env : Env} {h : Heap} {D : Addr} {x : Str} {ρ : Rho} {ds : List PyData} (q : MS Y env h D x ρ ds) : Sees (offD Y D) env h ((x, .loc (.list ds)) :: ρ) := by
  have S := q.sees.weak (Y := offD Y D) fun b hb => hb.1
  refine ⟨S.kind, S.gl, S.bl, fun p hp => ?_⟩
  rcases List.mem_cons.mp hp with rfl | hp
  · obtain ⟨m, hn, hm⟩ := q.nx
    obtain ⟨vs, hl, hr⟩ := q.ls
    exact ⟨q.kx, m, _, hn, hm, D, vs, rfl, fun z => z.2 rfl, hl.isList, hr.weak fun b hb => hb.1⟩
  · exact S.names p hp
theorem MS.grow {Y : Addr → Prop} {env : Env} {h h' : Heap} {D : Addr} {x : Str} {ρ : Rho} {ds : List PyData} (g : Grow h h') (q : MS Y env h D x ρ ds) : MS Y env h' D x ρ ds :=
  ⟨q.yd, q.sees.grow g, q.kx, let ⟨m, hn, hm⟩ := q.nx; ⟨m, hn.keeps g, hm⟩, let ⟨vs, ⟨n, e⟩, hr⟩ := q.ls; ⟨vs, ⟨n, g _ _ e⟩, hr.grow g⟩⟩
theorem MS.sub {Y : Addr → Prop} {env : Env} {h : Heap} {D : Addr} {x : Str} {ρ ρ' : Rho} {ds : List PyData} (q : MS Y env h D x ρ ds) (hs : ∀ p ∈ ρ', p ∈ ρ) : MS Y env h D x ρ' ds := ⟨q.yd, q.sees.sub hs, q.kx, q.nx, q.ls⟩
theorem MS.fg {Y : Addr → Prop} {env : Env} {h : Heap} {D : Addr} {x : Str} {ρ ρ' : Rho} {ds : List PyData} (q : MS Y env h D x ρ ds) (hs : Fg ρ ρ') : MS Y env h D x ρ' ds := ⟨q.yd, hs.back _ _ _ q.sees, q.kx, q.nx, q.ls⟩
/-- a heap where all that is not of Y stays, and the frame's own, and D -/
theorem MS.move {Y : Addr → Prop} {env : Env} {h h' : Heap} {D : Addr} {x : Str} {ρ : Rho} {ds : List PyData} (hk : ∀ b o (vs : Array Value) n, ¬ Y b → o.data = .seq vs n → h.get? b = some o → h'.get? b = some o) (hm : ∀ b o, MyA env b → h.get? b = some o → h'.get? b = some o)
    (hD : ∀ o, h.get? D = some o → h'.get? D = some o) (q : MS Y env h D x ρ ds) : MS Y env h' D x ρ ds :=
  ⟨q.yd, q.sees.move hk hm, q.kx, let ⟨m, hn, hx⟩ := q.nx; ⟨m, hn.at' fun o e => hm _ o (.inl rfl) e, hx⟩, let ⟨vs, hl, hr⟩ := q.ls; ⟨vs, hl.at hD, hr.mono hk⟩⟩
theorem MS.shut {Y Z : Addr → Prop} {env : Env} {h : Heap} {D : Addr} {x : Str} {ρ : Rho} {ds : List PyData} (hk : ∀ b, Z b → Y b ∨ h.get? b = none) (hz : Z D) (q : MS Y env h D x ρ ds) : MS Z env h D x ρ ds :=
  ⟨hz, q.sees.shutS hk, q.kx, q.nx, let ⟨vs, hl, hr⟩ := q.ls; ⟨vs, hl, hr.shutS hk⟩⟩

section
variable {C : Cx} {k : Nat} {ρ : Rho}
theorem Ok.off {Y : Addr → Prop} {D : Addr} {A : Around} {s : Shared} (O : Ok C Y k A s) : Ok C (offD Y D) k A s := ⟨O.hd, O.dp, O.un, O.base, fun b hb => O.xb b hb.1⟩
theorem MS.notMy {Y : Addr → Prop} {env : Env} {h : Heap} {D : Addr} {x : Str} {ρ : Rho} {ds : List PyData} (q : MS Y env h D x ρ ds) (w : Own C env h) : ¬ MyA env D := by
  obtain ⟨vs, ⟨n, e⟩, _⟩ := q.ls
  exact w.notMy e rfl

noncomputable def MSt (C : Cx) (k : Nat) (x : Str) (ρ : Rho) (ds : List PyData) (st : Stmt) (fl : Flow) (ds' : List PyData) : Prop :=
  ∀ Y A env s D, Ok C Y k A s → Own C env s.heap → C.hb.get? D = none → MS Y env s.heap D x ρ ds → ∀ (Q : Flow → Shared → Prop) (E : Value → Shared → Prop), (∀ s', KpM env D s s' → Own C env s'.heap → MS Y env s'.heap D x ρ ds' → Q fl s') → wpAny C.M A (exec st env) Q E s
noncomputable def MEx (C : Cx) (k : Nat) (x : Str) (ρ : Rho) (ds : List PyData) (ss : List Stmt) (fl : Flow) (ds' : List PyData) : Prop :=
  ∀ Y A env s D, Ok C Y k A s → Own C env s.heap → C.hb.get? D = none → MS Y env s.heap D x ρ ds → ∀ (Q : Flow → Shared → Prop) (E : Value → Shared → Prop), (∀ s', KpM env D s s' → Own C env s'.heap → MS Y env s'.heap D x ρ ds' → Q fl s') → wpAny C.M A (execs ss env) Q E s

theorem Ok.m {Y : Addr → Prop} {A : Around} {env : Env} {s s' : Shared} {D : Addr} {x : Str} {ds : List PyData} (o : Ok C Y k A s) (w : Own C env s.heap) (hD : C.hb.get? D = none) (kb : KpM env D s s') (w' : Own C env s'.heap) (q : MS Y env s'.heap D x ρ ds) : Ok C Y k A s' := by
  obtain ⟨h', tk, rfl, g⟩ := kb
  refine ⟨o.hd, o.dp, o.un, fun b x e => g b x (w.notBase e) (fun z => by rw [z, hD] at e; cases e) (o.base b x e), fun b hb => ?_⟩
  obtain ⟨x, e⟩ := o.xb b hb
  by_cases hd : b = D
  · subst hd; obtain ⟨vs, ⟨n, e⟩, _⟩ := q.ls; exact ⟨_, e⟩
  by_cases hm : MyA env b
  · rcases hm with rfl | ⟨n, hm⟩
    · obtain ⟨m, o', es, ep, ho, _⟩ := w'.ns; exact ⟨o', ho⟩
    · obtain ⟨v, o', ho, _⟩ := w'.cells n b hm; exact ⟨o', ho⟩
  · exact ⟨x, g b x hm hd e⟩

theorem mx_nil {x : Str} {ds : List PyData} : MEx C k x ρ ds [] .next ds := fun _ _ _ s _ _ w _ q _ _ hQ => wpAny_execs_nil (hQ s KpM.rfl' w q)
theorem mx_next {x : Str} {ds ds1 ds2 : List PyData} {st : Stmt} {r : List Stmt} {fl : Flow} (h : MSt C k x ρ ds st .next ds1) (hr : MEx C k x ρ ds1 r fl ds2) : MEx C k x ρ ds (st :: r) fl ds2 := by
  intro Y A env s D O w hD q Q E hQ
  refine wpAny_execs_cons (h Y A env s D O w hD q _ E fun s1 k1 w1 q1 => ?_)
  exact hr Y A env s1 D (O.m w hD k1 w1 q1) w1 hD q1 Q E fun s2 k2 w2 q2 => hQ s2 (k1.tr k2) w2 q2
theorem mx_cont {x : Str} {ds ds1 : List PyData} {st : Stmt} {r : List Stmt} (h : MSt C k x ρ ds st .cont ds1) : MEx C k x ρ ds (st :: r) .cont ds1 := by
  intro Y A env s D O w hD q Q E hQ
  exact wpAny_execs_cons (h Y A env s D O w hD q _ E fun s1 k1 w1 q1 => hQ s1 k1 w1 q1)
theorem mst_cont {x : Str} {ds : List PyData} {pos : Pos} : MSt C k x ρ ds (.Continue pos) .cont ds := by
  intro Y A env s D O w hD q Q E hQ
  show wpAny C.M A (do standAt pos; pure .cont) Q E s
  exact wpAny_bind (wpAny_standAt (wpAny_pure (hQ s KpM.rfl' w q)))
theorem mst_if {x : Str} {ds ds1 : List PyData} {fl : Flow} {t : Expr} {b1 b2 : List Stmt} {pos : Pos} {b : Bool} (ht : TestR C k ((x, .loc (.list ds)) :: ρ) t b) (h1 : b = true → MEx C k x ρ ds b1 fl ds1) (h2 : b = false → MEx C k x ρ ds b2 fl ds1) : MSt C k x ρ ds (.If t b1 b2 pos) fl ds1 := by
  intro Y A env s D O w hD q Q E hQ
  refine wpAny_If (ht (offD Y D) A env s O.off q.view _ E fun s1 k1 => ?_)
  have fin : ∀ ss, MEx C k x ρ ds ss fl ds1 → wpAny C.M A (execs ss env) Q E s1 := fun ss h => h Y A env s1 D (O.keeps k1) (w.grow k1.grow) hD (q.grow k1.grow) Q E fun s2 k2 w2 q2 => hQ s2 (k1.b.m.tr k2) w2 q2
  cases b with
  | true => rw [if_pos rfl]; exact fin _ (h1 rfl)
  | false => rw [if_neg Bool.false_ne_true]; exact fin _ (h2 rfl)

/-- D changed alone -/
theorem MS.set {Y : Addr → Prop} {env : Env} {s : Shared} {h' : Heap} {D : Addr} {x : Str} {ds ds' : List PyData} {vs' : Array Value} (q : MS Y env s.heap D x ρ ds) (w : Own C env s.heap) (hs : Heap.SameBut D s.heap h') (hp : h'.PlainList D vs') (hr : RdL Y s.heap ds' vs'.toList) :
    KpM env D s { s with heap := h' } ∧ Own C env h' ∧ MS Y env h' D x ρ ds' := by
  have nm := q.notMy w
  have nD : ∀ b o, b ≠ D → s.heap.get? b = some o → h'.get? b = some o := fun b o hb e => hs.extBut b o hb e
  have sq : ∀ b o (vs : Array Value) n, ¬ Y b → o.data = .seq vs n → s.heap.get? b = some o → h'.get? b = some o := fun b o vs n hy _ e => nD b o (fun z => hy (z ▸ q.yd)) e
  have my : ∀ b o, MyA env b → s.heap.get? b = some o → h'.get? b = some o := fun b o hb e => nD b o (fun z => nm (z ▸ hb)) e
  obtain ⟨m, hn, hx⟩ := q.nx
  exact ⟨⟨h', s.toks, rfl, fun b o _ hb e => nD b o hb e⟩, w.move my, q.yd, q.sees.move sq my, q.kx, ⟨m, hn.at' fun o e => my _ o (.inl rfl) e, hx⟩, vs', hp, hr.mono sq⟩

theorem mst_append {x y : Str} {ds : List PyData} {d : PyData} {p1 p2 p3 p4 pos : Pos} (hy : (y, Bd.loc d) ∈ ρ) (hz : ds.length ≤ 1000000) (hdx : (x == ("__debug__" : Str)) = false := by decide) (hdy : (y == ("__debug__" : Str)) = false := by decide)
    (hbase : ∀ env, attributeBase (.Name x p1) "append" env (eval (.Name x p1) env) = eval (.Name x p1) env := by intro _; rfl) (hline : (p2.endLine == p4.line) = true := by rfl)
    (hi : ∀ env : Env, env.scope.kind = .function → interactive env = false := by intro env h; unfold interactive; rw [h]; rfl) (hs : ∀ env, swapsWith (.Call (.Attribute (.Name x p1) "append" p2) [.Name y p3] [] p4) none pos.line env = pure false := by intro _; rfl) :
    MSt C k x ρ ds (.Expr (.Call (.Attribute (.Name x p1) "append" p2) [.Name y p3] [] p4) pos) .next (ds ++ [d]) := by
  intro Y A env s D O w hD q Q E hQ
  obtain ⟨m, hn, hx⟩ := q.nx
  obtain ⟨vs, hp, hr⟩ := q.ls
  obtain ⟨n, hpe⟩ := id hp
  obtain ⟨hky, m2, vy, hn2, hvy, hry⟩ := q.sees.names _ hy
  have hlen : vs.size = ds.length := by simpa using hr.length
  refine wpAny_Expr (wpAny_Call_append (hbase env) (by rfl) hline (by rfl) (wpAny_Name (wpAny_loadName_local q.sees.kind q.kx hn hx ?_) hdx)) (hi env q.sees.kind) (hs env)
  refine ⟨D, vs, rfl, ⟨_, n, hpe, rfl, rfl, rfl⟩, wpAny_Name (wpAny_loadName_local q.sees.kind hky hn2 hvy ?_) hdy⟩
  refine wpAny_list_append_plain hp (fun h' hp' hs' => ?_) (sz_le (by omega))
  obtain ⟨a1, a2, a3⟩ := q.set (ds' := ds ++ [d]) w hs' hp' (by rw [Array.toList_push]; exact hr.snoc hry)
  exact hQ _ a1 a2 a3

theorem mst_pop {x : Str} {ds : List PyData} {z : Str} {p1 p2 p4 pos : Pos} (hz : ds.length ≤ 100000) (hdx : (x == ("__debug__" : Str)) = false := by decide)
    (hbase : ∀ env, attributeBase (.Name x p1) "pop" env (eval (.Name x p1) env) = eval (.Name x p1) env := by intro _; rfl) (hline : (p2.endLine == p4.line) = true := by rfl)
    (hi : ∀ env : Env, env.scope.kind = .function → interactive env = false := by intro env h; unfold interactive; rw [h]; rfl) (hs : ∀ env, swapsWith (.Call (.Attribute (.Name x p1) "pop" p2) [] [] p4) none pos.line env = pure false := by intro _; rfl) :
    MSt C k x ρ (ds ++ [.str z]) (.Expr (.Call (.Attribute (.Name x p1) "pop" p2) [] [] p4) pos) .next ds := by
  intro Y A env s D O w hD q Q E hQ
  obtain ⟨m, hn, hx⟩ := q.nx
  obtain ⟨vs, hp, hr⟩ := q.ls
  obtain ⟨n, hpe⟩ := id hp
  have hlen : vs.size = ds.length + 1 := by simpa using hr.length
  obtain ⟨v, hv, t, rfl⟩ := hr.get' (i := ds.length) (d := .str z) (by simp)
  refine wpAny_Expr (Call_method0 (hbase env) hline (wpAny_Name (wpAny_loadName_local q.sees.kind q.kx hn hx ?_) hdx)) (hi env q.sees.kind) (hs env)
  have hy : vs[vs.size - 1]? = some (.str z t) := by rw [hlen]; simpa using hv
  refine ⟨"list", _, F.plainAttrs_list, F.slot_list_pop, F.type_list_pop, ⟨_, hpe, rfl⟩, (fun a e => by cases e; exact ⟨_, hpe, rfl⟩), method0_meets F.slot_list_pop F.entry_list_pop ⟨_, hpe, rfl⟩ (F.args_list_pop_1 _) (PySem.MeetsSeq.list_pop_last D vs n _ hy (sz_le (by omega))) ⟨hpe, ?_⟩⟩
  have hs' : Heap.SameBut D s.heap (s.heap.update D (Obj.mapSeq fun xs => xs.eraseIdxIfInBounds (vs.size - 1))) := Heap.SameBut.update ..
  have hvs : vs = (vs.toList.take ds.length ++ [Value.str z t]).toArray := by
    apply Array.toList_inj.mp
    simp only []
    apply List.ext_getElem?
    intro i
    by_cases hi : i < ds.length
    · rw [List.getElem?_append_left (by simp; omega), List.getElem?_take]; simp [hi]
    · by_cases hi2 : i = ds.length
      · subst hi2; rw [hv, List.getElem?_append_right (by simp; omega)]; simp [hlen]
      · rw [List.getElem?_eq_none (by simp; omega), List.getElem?_eq_none (by simp; omega)]
  have hl : (vs.toList.take ds.length).length = ds.length := by simp; omega
  have he : vs.eraseIdxIfInBounds (vs.size - 1) = (vs.toList.take ds.length).toArray := by
    have := erase_last (vs.toList.take ds.length) (.str z t)
    rw [hl, ← hvs] at this
    rw [hlen]; exact this
  have hp' : (s.heap.update D (Obj.mapSeq fun xs => xs.eraseIdxIfInBounds (vs.size - 1))).PlainList D (vs.toList.take ds.length).toArray := by
    have q2 := PySem.IsL.update (h := s.heap) (l := D) (items := vs) (n := n) hpe (fun xs : Array Value => xs.eraseIdxIfInBounds (vs.size - 1))
    rw [he] at q2
    exact ⟨_, q2⟩
  have hr' : RdL Y s.heap ds (vs.toList.take ds.length) := by
    have := hr.take ds.length
    simpa using this
  obtain ⟨a1, a2, a3⟩ := q.set (ds' := ds) w hs' hp' (by simpa using hr')
  exact hQ _ a1 a2 a3
end
end
section
set_option Elab.async false
set_option maxRecDepth 100000
set_option maxHeartbeats 4000000
section
variable {C : Cx} {k : Nat} {ρ : Rho}

theorem store_mut {Y : Addr → Prop} {A : Around} {env : Env} {s : Shared} {x y : Str} {v : Value} {d : PyData} {D : Addr} {ρ' : Rho} {ds : List PyData} {Q : Unit → Shared → Prop} {E : Value → Shared → Prop} (w : Own C env s.heap) (q : MS Y env s.heap D x ρ ds) (hk : env.kindOf y = some .local) (hne : x ≠ y) (hr : Rd Y s.heap d v)
    (hρ : ∀ p ∈ ρ', (p = (y, .loc d)) ∨ (p.1 ≠ y ∧ p ∈ ρ))
    (hQ : ∀ s', KpB env s s' → Own C env s'.heap → MS Y env s'.heap D x ρ' ds → Q () s') : wpAny C.M A (storeName env y v) Q E s := by
  have S := q.sees
  obtain ⟨m, hn, hx⟩ := q.nx
  refine wpAny_storeName_local hk hn (fun h' hn' hs' => ?_) (by rw [S.kind]; rfl)
  have kb : KpB env s { s with heap := h', toks := s.toks + 1 } := ⟨h', _, rfl, fun b o hb e => hs'.extBut b o (fun q => hb (.inl q)) e⟩
  have ncell : ∀ n c, (n, c) ∈ env.cells → c ≠ env.locals := fun n c hm q => by
    obtain ⟨v, o, ho, hd⟩ := w.cells n c hm
    obtain ⟨o', es, ep, ho', hd', _⟩ := hn
    rw [q, ho'] at ho; cases ho; rw [hd] at hd'; cases hd'
  have w' : Own C env h' := ⟨⟨_, hn'⟩, fun n c hm => let ⟨v, x⟩ := w.cells n c hm; ⟨v, x.sameBut hs' (ncell n c hm)⟩, w.lo, w.clo, w.apart⟩
  have nD : D ≠ env.locals := fun z => q.notMy w (.inl z)
  refine hQ _ kb w' ⟨q.yd, ⟨S.kind, S.gl, S.bl, fun p hp => ?_⟩, q.kx, ⟨_, hn', by rw [if_neg hne]; exact hx⟩, ?_⟩
  · rcases hρ p hp with rfl | ⟨hne, hm⟩
    · exact ⟨hk, _, v, hn', by simp, hr.b w kb⟩
    · have N := S.names p hm
      obtain ⟨y, b⟩ := p
      cases b with
      | loc e => obtain ⟨a1, m1, v1, a2, a3, a4⟩ := N
                 have : m1 = m := by
                   funext z
                   obtain ⟨o, es, ep, ho, hd, _, hf⟩ := a2
                   obtain ⟨o', es', ep', ho', hd', _, hf'⟩ := hn
                   rw [ho] at ho'; cases ho'; rw [hd] at hd'; cases hd'
                   rw [← hf, ← hf']
                 subst this
                 exact ⟨a1, _, v1, hn', by simp only [if_neg (show ¬ y = _ from hne)]; exact a3, a4.b w kb⟩
      | cel e => obtain ⟨a1, c1, v1, a2, a3, a4⟩ := N; exact ⟨a1, c1, v1, a2, a3.sameBut hs' (ncell y c1 (mem_of_lookup a2)), a4.b w kb⟩
      | glo => exact N
      | unl => exact N
      | unc => exact N
  · obtain ⟨vs, hl, hr⟩ := q.ls
    exact ⟨vs, hl.at fun o e => hs'.extBut _ o nD e, hr.b w kb⟩

theorem mst_for {α : Type} {x y : Str} {yp pos : Pos} {iter : Expr} {body : List Stmt} {ρy : PyData → Rho} {d : α → PyData} {f : List PyData → α → List PyData} {P : List α → List PyData → Prop} {xs : List α} {b0 : List PyData}
    (hi : IterR C k ρ iter (.Name y yp) (xs.map d)) (hne : x ≠ y) (hyl : (y, .unl) ∈ ρ) (hset : ∀ e, SetL ρ y e (ρy e)) (hfg : ∀ e, Fg (ρy e) ρ)
    (hstep : ∀ a r b, P (a :: r) b → P r (f b a) ∧ (MEx C k x (ρy (d a)) b body .next (f b a) ∨ MEx C k x (ρy (d a)) b body .cont (f b a))) (hP : P xs b0)
    (hs : ∀ env x, foldedSetIterable iter env x = pure x := by intro _ _; rfl) : MSt C k x ρ b0 (.For (.Name y yp) iter body [] pos) .next (xs.foldl f b0) := by
  intro Y A env s D O w hD q Q E hQ
  refine wpAny_For (hi Y A env s O q.sees _ E fun I fp wr s₁ s₂ G0 St k1 L => ?_) (hs env)
  have w1 : Own C env s₁.heap := w.grow k1.grow
  have q1 := q.grow k1.grow
  have g12 : Grow s₁.heap s₂.heap := by obtain ⟨h', tk, rfl, g⟩ := L.k; exact g
  have w2 : Own C env s₂.heap := w1.grow g12
  have hfm := foot_my L w2
  let Z : Addr → Prop := fun b => b ∈ wr ∨ Y b
  have Lit := L.it Z (fun b hb => .inl hb)
  let G : Heap → Prop := G0 Z
  have hwm : ∀ b ∈ wr, ¬ MyA env b := fun b hb => hfm b (Lit.sub b hb)
  have hfD : D ∉ fp := fun z => L.nx D z q.yd
  have hwD : D ∉ wr := fun z => hfD (Lit.sub D z)
  have q2 : MS Z env s₂.heap D x ρ b0 := ((q1.shut (Z := Z) (fun b hb => hb.elim (fun q => .inr (L.new b q)) .inl) (.inr q.yd))).grow g12
  have loop : ∀ (r : List α) (b : List PyData) (i : Nat) (s' : Shared) (Q' : Flow → Shared → Prop), P r b → xs.drop i = r → i ≤ xs.length → St i s'.heap → G s'.heap → Own C env s'.heap → MS Z env s'.heap D x ρ b →
      (∃ h' tk, s' = { s₂ with heap := h', toks := tk } ∧ ∀ b ob, ¬ MyA env b → b ∉ wr → b ≠ D → s₂.heap.get? b = some ob → h'.get? b = some ob) →
      (∀ s'', (∃ h' tk, s'' = { s₂ with heap := h', toks := tk } ∧ ∀ b ob, ¬ MyA env b → b ∉ wr → b ≠ D → s₂.heap.get? b = some ob → h'.get? b = some ob) → Own C env s''.heap → MS Z env s''.heap D x ρ (r.foldl f b) → Q' .next s'') →
      codeAny C.M A (.forLoop (.Name y yp) (.ref I) body [] env) (fun r s' => match r with | .ok f => Q' f s' | .error e => cameBackBy C.M A env E e s') s' := by
    have okAt : ∀ (ρ : Rho) s' ds, (∃ h' tk, s' = ({ s₂ with heap := h', toks := tk } : Shared) ∧ ∀ b ob, ¬ MyA env b → b ∉ wr → b ≠ D → s₂.heap.get? b = some ob → h'.get? b = some ob) → Own C env s'.heap → MS Z env s'.heap D x ρ ds → ∀ i, St i s'.heap → Ok C Z k A s' := by
      rintro ρ s' ds ⟨h', tk, rfl, kk⟩ w' qm i st
      have O1 := O.keeps k1
      refine ⟨O.hd, O.dp, O.un, fun b ob e => kk b ob (w1.notBase e) (fun q => ?_) (fun z => by rw [z, hD] at e; cases e) (g12 b ob (O1.base b ob e)), fun b hb => ?_⟩
      · have := L.new b q; rw [O1.base b ob e] at this; cases this
      · by_cases hw : b ∈ wr
        · exact Lit.live i h' st b hw
        by_cases hd : b = D
        · subst hd; obtain ⟨vs, ⟨n, e⟩, _⟩ := qm.ls; exact ⟨_, e⟩
        · rcases hb with hb | hb
          · exact absurd hb hw
          · obtain ⟨ob, e⟩ := O1.xb b hb
            by_cases hm : MyA env b
            · rcases hm with rfl | ⟨n, hm⟩
              · obtain ⟨m, o', es, ep, ho, _⟩ := w'.ns; exact ⟨o', ho⟩
              · obtain ⟨v, o', ho, _⟩ := w'.cells n b hm; exact ⟨o', ho⟩
            · exact ⟨ob, kk b ob hm hw hd (g12 b ob e)⟩
    intro r
    induction r with
    | nil =>
      intro b i s' Q' hp hd hle st g w' qm kk hQ'
      have hlt : i = xs.length := Nat.le_antisymm hle (by simpa using hd)
      have hlt' : (xs.map d).length = i := by simp [hlt]
      refine for_step (Lit.done s' _ _ (by rw [hlt']; exact st) fun h1 tk1 kw => ?_)
      obtain ⟨h', tk, rfl, kk⟩ := kk
      have mv : ∀ b ob, MyA env b → h'.get? b = some ob → h1.get? b = some ob := fun b ob hm e => kw b ob (fun q => hwm b q hm) e
      have sq : ∀ b ob (vs : Array Value) n, ¬ Z b → ob.data = .seq vs n → h'.get? b = some ob → h1.get? b = some ob := fun b ob vs n hy _ e => kw b ob (fun q => hy (.inl q)) e
      exact wpAny_execs_nil (hQ' _ ⟨h1, tk1, rfl, fun b ob hm hw hd e => kw b ob hw (kk b ob hm hw hd e)⟩ (w'.move mv) (qm.move sq mv fun o e => kw _ o hwD e))
    | cons a r ih =>
      intro b i s' Q' hp hd hle st g w' qm kk hQ'
      obtain ⟨hp', hbody⟩ := hstep a r b hp
      have hdi : (xs.map d)[i]? = some (d a) := by
        have := congrArg List.head? hd
        rw [List.head?_drop] at this
        rw [List.getElem?_map, this]; rfl
      have O' := okAt _ s' _ kk w' qm i st
      refine for_step (Lit.item i (d a) s' _ _ hdi st g O'.xb fun v s1' hgo => hgo _ _ fun h1 tk1 st1 rv kw => ?_)
      obtain ⟨h', tk, rfl, kk⟩ := kk
      have mv : ∀ b ob, MyA env b → h'.get? b = some ob → h1.get? b = some ob := fun b ob hm e => kw b ob (fun q => hwm b q hm) e
      have sq : ∀ b ob (vs : Array Value) n, ¬ Z b → ob.data = .seq vs n → h'.get? b = some ob → h1.get? b = some ob := fun b ob vs n hy _ e => kw b ob (fun q => hy (.inl q)) e
      have w1' : Own C env h1 := w'.move mv
      have qm1 := qm.move sq mv fun o e => kw _ o hwD e
      refine assign_Name (store_mut (ρ' := ρy (d a)) (s := { s₂ with heap := h1, toks := tk1 }) w1' qm1 (qm1.sees.names _ hyl) hne rv (fun p hp => ?_) fun s3 kb w3 qm3 => ?_)
      · rcases (hset (d a)).ok with ⟨_, h2⟩ | ⟨⟨b, hm, hb⟩, _⟩
        · exact h2 p hp
        · have k1 := qm1.sees.names _ hyl
          have N := qm1.sees.names _ hm
          have k2 : env.kindOf y = some .cell := by
            rcases hb with rfl | ⟨e, rfl⟩ <;> exact N.1
          have k1' : env.kindOf y = some .local := k1
          rw [k1'] at k2; cases k2
      obtain ⟨h3, tk3, rfl, g3⟩ := kb
      have kk3 : ∃ h'' tk, ({ s₂ with heap := h3, toks := tk3 } : Shared) = { s₂ with heap := h'', toks := tk } ∧ ∀ b ob, ¬ MyA env b → b ∉ wr → b ≠ D → s₂.heap.get? b = some ob → h''.get? b = some ob := ⟨h3, tk3, rfl, fun b ob hm hw hd e => g3 b ob hm (kw b ob hw (kk b ob hm hw hd e))⟩
      have st3 : St (i + 1) h3 := Lit.frame _ _ _ st1 fun b hb ob e => g3 b ob (hfm b hb) e
      have g3' : G h3 := Lit.good _ _ (Lit.good _ _ g sq) fun b ob vs n _ hd e => g3 b ob (w1'.notMy e hd) e
      have O3 := okAt _ _ _ kk3 w3 qm3 (i + 1) st3
      have fin : ∀ fl : Flow, (fl = .next ∨ fl = .cont) → ∀ s4, KpM env D { s₂ with heap := h3, toks := tk3 } s4 → Own C env s4.heap → MS Z env s4.heap D x (ρy (d a)) (f b a) → (match fl with
            | .next | .cont => codeAny C.M A (.forLoop (.Name y yp) (.ref I) body [] env) (fun r s' => match r with | .ok f => Q' f s' | .error e => cameBackBy C.M A env E e s') s4
            | .brk => Q' .next s4
            | .ret v => Q' (.ret v) s4) := by
        intro fl hfl s4 k4 w4 qm4
        obtain ⟨h4, tk4, rfl, g4⟩ := k4
        have nxt := ih (f b a) (i + 1) { s₂ with heap := h4, toks := tk4 } Q' hp' (by rw [← List.tail_drop, hd]; rfl) (by have := congrArg List.length hd; simp at this; omega) (Lit.frame _ _ _ st3 fun b hb ob e => g4 b ob (hfm b hb) (fun z => hfD (z ▸ hb)) e)
          (Lit.good _ _ g3' fun b ob vs n hz hd e => g4 b ob (w3.notMy e hd) (fun z => hz (z ▸ qm3.yd)) e) w4 (qm4.fg (hfg _)) ⟨h4, tk4, rfl, fun b ob hm hw hd e => g4 b ob hm hd (g3 b ob hm (kw b ob hw (kk b ob hm hw hd e)))⟩ hQ'
        rcases hfl with rfl | rfl <;> exact nxt
      rcases hbody with hbody | hbody
      · exact hbody Z A env _ D O3 w3 hD qm3 _ _ fun s4 k4 w4 qm4 => fin .next (.inl rfl) s4 k4 w4 qm4
      · exact hbody Z A env _ D O3 w3 hD qm3 _ _ fun s4 k4 w4 qm4 => fin .cont (.inr rfl) s4 k4 w4 qm4
  refine loop xs b0 0 s₂ Q hP rfl (Nat.zero_le _) L.st (L.g Z fun b hb => hb.elim (fun q => .inr (L.new b q)) .inl) w2 q2 ⟨s₂.heap, s₂.toks, rfl, fun _ _ _ _ _ e => e⟩ fun s'' kk w'' e => ?_
  obtain ⟨h', tk, rfl, kk⟩ := kk
  refine hQ _ ?_ w'' (e.shut (fun b hb => .inl (.inr hb)) q.yd)
  obtain ⟨⟨h1, tk1, rfl, g1⟩, _⟩ := k1
  obtain ⟨h2, tk2, rfl, g2⟩ := L.k
  refine ⟨h', tk, rfl, fun b ob hm hd e => kk b ob hm (fun q => ?_) hd (g2 b ob (g1 b ob e))⟩
  have := L.new b q
  rw [g1 b ob e] at this; cases this
end
end
section
set_option Elab.async false
set_option maxRecDepth 100000
set_option maxHeartbeats 4000000
section
variable {C : Cx} {k : Nat} {ρ : Rho}

theorem ex_mut {x : Str} {xp lp pos : Pos} {st : Stmt} {rest : List Stmt} {ds : List PyData} {o : Out} (hx : (ρ.all fun p => decide (p.1 ≠ x)) = true) (h : MSt C k x ρ [] st .next ds) (hrest : ExR C k ((x, .loc (.list ds)) :: ρ) rest o) (hs : ∀ env, swapsWith (.List [] lp) (some (.Name x xp)) pos.line env = pure false := by intro _; rfl) :
    ExR C k ((x, .unl) :: ρ) (.Assign [.Name x xp] (.List [] lp) pos :: st :: rest) o := by
  intro X A env s O w S Q E hQ
  have hk : env.kindOf x = some .local := S.names (x, .unl) (.head _)
  refine wpAny_execs_cons (wpAny_Assign_Name (wpAny_List (spliced_none ⟨by decide, ?_⟩)) (hs env))
  generalize hD : s.heap.objs.size = D
  have hfr : s.heap.get? D = none := hD ▸ get_none (Nat.le_refl _)
  have k1 : Kp s { s with heap := s.heap.push { cls := .type "list", data := .seq ([] : List Value).toArray } } := Kp.push
  have w1 := w.grow k1.grow
  have S1 := S.grow k1.grow
  have hl : (s.heap.push { cls := .type "list", data := .seq ([] : List Value).toArray }).PlainList D #[] := ⟨0, hD ▸ Heap.get?_push_size _ rfl⟩
  obtain ⟨m, hn⟩ := w1.ns
  refine wpAny_storeName_local hk hn (fun h' hn' hs' => ?_) (by rw [S.kind]; rfl)
  have kb : KpB env { s with heap := s.heap.push { cls := .type "list", data := .seq ([] : List Value).toArray } } { s with heap := h', toks := s.toks + 1 } := ⟨h', _, rfl, fun b o hb e => hs'.extBut b o (fun q => hb (.inl q)) e⟩
  have ncell : ∀ n c, (n, c) ∈ env.cells → c ≠ env.locals := fun n c hm q => by
    obtain ⟨v, o, ho, hd⟩ := w1.cells n c hm
    obtain ⟨o', es, ep, ho', hd', _⟩ := hn
    rw [q, ho'] at ho; cases ho; rw [hd] at hd'; cases hd'
  have w' : Own C env h' := ⟨⟨_, hn'⟩, fun n c hm => let ⟨v, x⟩ := w1.cells n c hm; ⟨v, x.sameBut hs' (ncell n c hm)⟩, w.lo, w.clo, w.apart⟩
  have nD : D ≠ env.locals := fun z => by
    obtain ⟨m0, o', es, ep, ho', hd', _⟩ := w.ns
    rw [← z, hfr] at ho'; cases ho'
  have hXD : ∀ b, X b → b ≠ D := fun b hb z => by
    obtain ⟨ob, e⟩ := O.xb b hb
    rw [z, hfr] at e; cases e
  have S' : Sees X env h' ρ := ⟨S.kind, S.gl, S.bl, fun p hp => by
    have hne := all_ne hx p hp
    have N := S1.names p (.tail _ hp)
    obtain ⟨y, b⟩ := p
    cases b with
    | loc e => obtain ⟨a1, m1, v1, a2, a3, a4⟩ := N
               have : m1 = m := by
                 funext z
                 obtain ⟨o, es, ep, ho, hd, _, hf⟩ := a2
                 obtain ⟨o', es', ep', ho', hd', _, hf'⟩ := hn
                 rw [ho] at ho'; cases ho'; rw [hd] at hd'; cases hd'
                 rw [← hf, ← hf']
               subst this
               exact ⟨a1, _, v1, hn', by simp only [if_neg (show ¬ y = x from hne)]; exact a3, a4.b w1 kb⟩
    | cel e => obtain ⟨a1, c1, v1, a2, a3, a4⟩ := N; exact ⟨a1, c1, v1, a2, a3.sameBut hs' (ncell y c1 (mem_of_lookup a2)), a4.b w1 kb⟩
    | glo => exact N
    | unl => exact N
    | unc => exact N⟩
  -- D shut out
  let Y : Addr → Prop := fun b => b = D ∨ X b
  have S'' : Sees Y env h' ρ := by
    refine ⟨S.kind, S.gl, S.bl, fun p hp => ?_⟩
    have hne := all_ne hx p hp
    have N := S.names p (.tail _ hp)
    have N2 : NameIs Y env s.heap p.1 p.2 := N.shutS fun b hb => hb.elim (fun z => .inr (z ▸ hfr)) .inl
    obtain ⟨y, b⟩ := p
    cases b with
    | loc e => obtain ⟨a1, m1, v1, a2, a3, a4⟩ := N2
               have : m1 = m := by
                 funext z
                 obtain ⟨o, es, ep, ho, hd, _, hf⟩ := (a2.keeps k1.grow)
                 obtain ⟨o', es', ep', ho', hd', _, hf'⟩ := hn
                 rw [ho] at ho'; cases ho'; rw [hd] at hd'; cases hd'
                 rw [← hf, ← hf']
               subst this
               exact ⟨a1, _, v1, hn', by simp only [if_neg (show ¬ y = x from hne)]; exact a3, (a4.grow k1.grow).b w1 kb⟩
    | cel e => obtain ⟨a1, c1, v1, a2, a3, a4⟩ := N2; exact ⟨a1, c1, v1, a2, (a3.keeps k1.grow).sameBut hs' (ncell y c1 (mem_of_lookup a2)), (a4.grow k1.grow).b w1 kb⟩
    | glo => exact N2
    | unl => exact N2
    | unc => exact N2
  have q' : MS Y env h' D x ρ [] := ⟨.inl rfl, S'', hk, ⟨_, hn', by simp [hD]⟩, #[], hl.at (fun o e => hs'.extBut _ o nD e), rfl⟩
  have O1 : Ok C X k A { s with heap := h', toks := s.toks + 1 } := (O.keeps k1).b w1 kb w'
  have O2 : Ok C Y k A { s with heap := h', toks := s.toks + 1 } := ⟨O1.hd, O1.dp, O1.un, O1.base, fun b hb => hb.elim (fun z => by obtain ⟨vs, ⟨n, e⟩, _⟩ := q'.ls; exact ⟨_, z ▸ e⟩) (O1.xb b)⟩
  have hDb : C.hb.get? D = none := none_of_base O hfr
  refine wpAny_execs_cons (h Y A env _ D O2 w' hDb q' _ E fun s3 k3 w3 q3 => ?_)
  have S3 : Sees X env s3.heap ((x, .loc (.list ds)) :: ρ) := q3.view.weak fun b hb => ⟨.inr hb, hXD b hb⟩
  have k03 : KpB env s s3 := by
    obtain ⟨h3, tk3, rfl, g3⟩ := k3
    refine ⟨h3, tk3, rfl, fun b ob hm e => g3 b ob hm (fun z => by rw [z, hfr] at e; cases e) ?_⟩
    exact hs'.extBut b ob (fun z => hm (.inl z)) (Heap.get?_push_of_some _ e)
  exact hrest X A env s3 (O.b w k03 w3) w3 S3 Q E fun fl s4 k4 w4 e4 => hQ fl s4 (k03.tr k4) w4 e4
end
end
section
set_option Elab.async false
set_option maxRecDepth 100000
set_option maxHeartbeats 4000000

noncomputable def stepN (b : List Str) (c : Str) : List Str := if c.length = 0 ∨ c = "." then b else if c ≠ ".." then b ++ [c] else b.dropLast
noncomputable def compsN (x : Str) : List Str := (Txt.split (cutS (some 1) none x) "/").foldl stepN []
noncomputable def normF (x : Str) : Str := "/" ++ Txt.join "/" (compsN x)

theorem split_sum (x y : Str) : ((Txt.split x y).map (·.length)).sum + ((Txt.split x y).length - 1) * y.length = x.length := by
  have h1 := StrLaws.glued_eq_join y (Txt.split x y)
  rw [StrLaws.join_split] at h1
  have h2 := size_glued y (Txt.split x y)
  rw [h1] at h2
  exact h2.symm
theorem mem_sum {l : List Str} {p : Str} (h : p ∈ l) : p.length ≤ (l.map (·.length)).sum := by
  induction l with
  | nil => cases h
  | cons a r ih =>
    rcases List.mem_cons.mp h with rfl | h
    · simp
    · have := ih h; simp; omega
theorem split_mem {x y p : Str} (h : p ∈ Txt.split x y) : p.length ≤ x.length := by
  have h1 := split_sum x y
  have h2 := mem_sum h
  omega
theorem split_len (x : Str) : (Txt.split x "/").length ≤ x.length + 1 := by
  have h1 := split_sum x "/"
  rw [slash_len] at h1
  omega
theorem parts_len (x : Str) : (partsBetween x (occurrences x "/" 0 x.length (x.length + 1)) (Str.ofString "/").length).length ≤ x.length + 2 := by
  rw [length_partsBetween]
  have := StrLaws.occ_length_le x "/" 0 x.length (x.length + 1)
  omega

theorem stepN_len (b : List Str) (c : Str) : (stepN b c).length ≤ b.length + 1 := by
  unfold stepN
  split
  · omega
  split
  · simp
  · simp; omega
theorem stepN_mem {b : List Str} {c z : Str} (h : z ∈ stepN b c) : z ∈ b ∨ (z = c ∧ c ≠ "..") := by
  unfold stepN at h
  split at h
  · exact .inl h
  split at h
  · rcases List.mem_append.mp h with h | h
    · exact .inl h
    · simp at h; subst h; exact .inr ⟨rfl, by assumption⟩
  · exact .inl ((List.dropLast_sublist b).subset h)
theorem foldN_mem {z : Str} : ∀ (l b : List Str), z ∈ l.foldl stepN b → z ∈ b ∨ z ∈ l
  | [], b, h => .inl h
  | c :: l, b, h => by
    rcases foldN_mem l (stepN b c) h with h | h
    · rcases stepN_mem h with h | ⟨rfl, _⟩
      · exact .inl h
      · exact .inr (by simp)
    · exact .inr (by simp [h])
theorem foldN_len : ∀ (l b : List Str), (l.foldl stepN b).length ≤ b.length + l.length
  | [], b => by simp
  | c :: l, b => by
    have := foldN_len l (stepN b c)
    have := stepN_len b c
    simp only [List.foldl_cons, List.length_cons]; omega

section
variable {C : Cx} {k : Nat} {ρ : Rho}

noncomputable def rhoN (y : Str) (b : Bd) : Rho := [("path", .loc (.str y)), ("sep", .loc (.str "/")), ("dot", .loc (.str ".")), ("dotdot", .loc (.str "..")), ("initial_slashes", .loc (.str "/")), ("comps", .loc (.list ((Txt.split y "/").map PyData.str))), ("comp", b)]

theorem ev_or_str {e1 e2 : Expr} {rest : List Expr} {pos : Pos} {x : Str} (h : EvR C k ρ e1 (.str x)) (hx : x.length ≠ 0) (hz : x.length ≤ 1000000) : EvR C k ρ (.BoolOp .Or (e1 :: e2 :: rest) pos) (.str x) := ev_or_t h hx hz

theorem fn_normpath (N : Nm2 C) (x : Str) (hx : x.length ≤ 400) (h1 : cutS none (some 1) x = "/") (h2 : cutS (some 1) (some 2) x ≠ "/") : FnR C (k + 3) "normpath" [.str x] (.str (normF x)) := by
  generalize hy : cutS (some 1) none x = y
  have hyl : y.length ≤ 400 := by rw [← hy]; exact Nat.le_trans (cutS_len _ _ _) hx
  have hx0 : x.length ≠ 0 := by
    intro h0
    have h3 := cutS_len none (some 1) x
    rw [h1, slash_len] at h3; omega
  refine fn_intro (names := ["path"]) (ρ := [("path", .loc (.str x)), ("sep", .unl), ("dot", .unl), ("dotdot", .unl), ("_", .unl), ("initial_slashes", .unl), ("comps", .unl), ("new_comps", .unl), ("comp", .unl), ("fspath", .glo), ("isinstance", .glo), ("bytes", .glo), ("splitroot", .glo)]) N.normpath (by intro _ _ _ vs h; match vs, h with | [v], _ => rfl) rfl (by decide) (by decide +kernel) (by decide +kernel) ⟨⟨rfl, rfl⟩, rfl, rfl, rfl, rfl, rfl, rfl, rfl, rfl, rfl, rfl, rfl, rfl, trivial⟩ ?_
  refine ex_next (st_assign (ev_call (by walk_at "mem") (evs_cons (ev_loc (by walk_at "mem")) evs_nil) (fn_fs N.toNm x)) (by walk_at "set")) ?_
  refine ex_next (st_if_f (te_bool (ev_isinst_bytes (by walk_at "mem") N.isinstance (by walk_at "mem") N.bytes (ev_loc (by walk_at "mem")))) (ex_next (st_assign ev_str (by walk_at "set")) (ex_next (st_assign ev_str (by walk_at "set")) (ex_one (st_assign ev_str (by walk_at "set")))))) ?_
  refine ex_next (st_if_f (te_of (te_not (te_str (ev_loc (by walk_at "mem")) (by omega))) (by simp [hx0])) ex_nil) ?_
  refine ex_next (st_assign_tup (xs := [("_", _), ("initial_slashes", _), ("path", _)]) (ds := [.str "", .str "/", .str y]) (ev_call (by walk_at "mem") (evs_cons (ev_loc (by walk_at "mem")) evs_nil) (by rw [← hy]; exact fn_splitroot N.toNm N.splitroot x (by omega) h1 h2)) (.cons (by walk_at "set") (.cons (by walk_at "set") (.cons (by walk_at "set") .nil))) rfl (by intro _; rfl) (by intro _ _ _ _; rfl)) ?_
  refine ex_next (st_assign (d := .list ((Txt.split y "/").map PyData.str)) (ev_m1 (ev_loc (by walk_at "mem")) (ev_loc (by walk_at "mem")) (m_split (by omega) (by decide +kernel) (by have := parts_len y; omega))) (by walk_at "set")) ?_
  refine ex_sub (ρ' := ("new_comps", .unl) :: rhoN y .unl) ?_ (by intro q hq; simp [rhoN] at hq ⊢; rcases hq with rfl | rfl | rfl | rfl | rfl | rfl | rfl | rfl <;> simp)
  have hsl := split_len y
  have hcl : (compsN x).length ≤ y.length + 1 := by
    have := foldN_len (Txt.split y "/") []
    unfold compsN; rw [hy]; simp at this; omega
  have hcm : ∀ z ∈ compsN x, z.length ≤ y.length := by
    intro z hz
    unfold compsN at hz; rw [hy] at hz
    rcases foldN_mem _ _ hz with h | h
    · cases h
    · exact split_mem h
  refine ex_mut (ds := (compsN x).map PyData.str) (by unfold rhoN; rfl) ?_ ?_
  · have e : (compsN x).map PyData.str = (Txt.split y "/").foldl (fun b c => (stepN (b.filterMap fun | .str z => some z | _ => none) c).map PyData.str) [] := by
      unfold compsN; rw [hy]
      have key : ∀ (l b : List Str), (l.foldl stepN b).map PyData.str = l.foldl (fun b c => (stepN (b.filterMap fun | .str z => some z | _ => none) c).map PyData.str) (b.map PyData.str) := by
        intro l
        induction l with
        | nil => intro b; rfl
        | cons c l ih =>
          intro b
          simp only [List.foldl_cons]
          rw [ih]
          have : (b.map PyData.str).filterMap (fun | .str z => some z | _ => none) = b := by
            rw [List.filterMap_map]; exact List.filterMap_some
          rw [this]
      exact key _ []
    rw [e]
    refine mst_for (d := PyData.str) (ρy := fun e => rhoN y (.loc e)) (P := fun xs b => ∃ bs : List Str, b = bs.map PyData.str ∧ (∀ z ∈ bs, z ≠ "..") ∧ bs.length + xs.length ≤ 2000 ∧ ∀ z ∈ xs, z.length ≤ 400) (it_list (ev_loc (by unfold rhoN; walk_at "mem"))) (by decide) (by unfold rhoN; walk_at "mem") (fun e => by unfold rhoN; walk_at "set") (fun e => by unfold rhoN; walk_at "fg") ?_ ⟨[], rfl, by simp, by simp; omega, fun z hz => Nat.le_trans (split_mem hz) hyl⟩
    rintro c r b ⟨bs, rfl, hb, hbl, hrl⟩
    have hf : (bs.map PyData.str).filterMap (fun | .str z => some z | _ => none) = bs := by
      rw [List.filterMap_map]; exact List.filterMap_some
    rw [hf]
    have hcl := hrl c (by simp)
    simp only [List.length_cons] at hbl
    refine ⟨⟨stepN bs c, rfl, ?_, by have := stepN_len bs c; omega, fun z hz => hrl z (by simp [hz])⟩, ?_⟩
    · intro z hz
      rcases stepN_mem hz with hz | ⟨rfl, hz⟩
      · exact hb z hz
      · exact hz
    have hn : ∀ p, EvR C (k + 2) (("new_comps", .loc (.list (bs.map PyData.str))) :: rhoN y (.loc (.str c))) (.Name "new_comps" p) (.list (bs.map PyData.str)) := fun p => ev_loc (by walk_at "mem")
    have hc : ∀ p, EvR C (k + 2) (("new_comps", .loc (.list (bs.map PyData.str))) :: rhoN y (.loc (.str c))) (.Name "comp" p) (.str c) := fun p => ev_loc (by unfold rhoN; walk_at "mem")
    have hd : ∀ p, EvR C (k + 2) (("new_comps", .loc (.list (bs.map PyData.str))) :: rhoN y (.loc (.str c))) (.Name "dot" p) (.str ".") := fun p => ev_loc (by unfold rhoN; walk_at "mem")
    have hdd : ∀ p, EvR C (k + 2) (("new_comps", .loc (.list (bs.map PyData.str))) :: rhoN y (.loc (.str c))) (.Name "dotdot" p) (.str "..") := fun p => ev_loc (by unfold rhoN; walk_at "mem")
    have hin : ∀ p, EvR C (k + 2) (("new_comps", .loc (.list (bs.map PyData.str))) :: rhoN y (.loc (.str c))) (.Name "initial_slashes" p) (.str "/") := fun p => ev_loc (by unfold rhoN; walk_at "mem")
    have t1 : ∀ p1 p2 p3 p4 p5 p6, TestR C (k + 2) (("new_comps", .loc (.list (bs.map PyData.str))) :: rhoN y (.loc (.str c))) (.BoolOp .Or [.UnaryOp .Not (.Name "comp" p1) p2, .Compare (.Name "comp" p3) [.Eq] [.Name "dot" p4] p5] p6) (decide (c.length = 0 ∨ c = ".")) := fun p1 p2 p3 p4 p5 p6 =>
      te_of (te_or2 (te_not (te_str (hc _) (by omega))) (te_cmp (hc _) (hd _) cmp_eq_str)) (by by_cases a1 : c.length = 0 <;> by_cases a2 : c = "." <;> simp [a1, a2])
    unfold stepN
    by_cases h1 : c.length = 0 ∨ c = "."
    · rw [if_pos h1]
      exact .inr (mx_cont (mst_if (b := true) (te_of (t1 _ _ _ _ _ _) (by simp [h1])) (fun _ => mx_cont mst_cont) (fun h => nomatch h)))
    · rw [if_neg h1]
      refine .inl (mx_next (mst_if (b := false) (te_of (t1 _ _ _ _ _ _) (by simp [h1])) (fun h => nomatch h) (fun _ => mx_nil)) ?_)
      have t2 : ∀ p1 p2 p3, TestR C (k + 2) (("new_comps", .loc (.list (bs.map PyData.str))) :: rhoN y (.loc (.str c))) (.Compare (.Name "comp" p1) [.NotEq] [.Name "dotdot" p2] p3) (decide (c ≠ "..")) := fun p1 p2 p3 => te_of (te_cmp (hc _) (hdd _) cmp_ne_str) (by simp)
      by_cases h2 : c ≠ ".."
      · rw [if_pos h2]
        refine mx_next (mst_if (b := true) (te_or_t (te_of (t2 _ _ _) (by simp [h2]))) (fun _ => ?_) (fun h => nomatch h)) mx_nil
        rw [List.map_append]
        exact mx_next (mst_append (by unfold rhoN; walk_at "mem") (by simp; omega)) mx_nil
      · rw [if_neg h2]
        refine mx_next (mst_if (b := false) (te_or_f (te_of (t2 _ _ _) (by simp [h2])) (te_or_f (te_and_f (te_of (te_not (te_str (hin _) (by decide +kernel))) (by decide +kernel))) (te_or_f ?_ te_or_nil))) (fun h => nomatch h) (fun _ => ?_)) mx_nil
        · refine te_of (te_and2 (a := !(bs.map PyData.str).isEmpty) (b := false) (te_list (hn _) (by simp; omega)) fun hne => ?_) (by simp)
          have hbne : bs ≠ [] := by intro e; subst e; simp at hne
          have hlast : bs.getLast hbne ≠ ".." := hb _ (List.getLast_mem hbne)
          have hpos : 0 < bs.length := List.length_pos_iff.mpr hbne
          refine te_of (te_cmp (ev_item_neg (n := -1) (d := .str (bs.getLast hbne)) (hn _) (ev_neg ev_int) (by decide) (by decide) (by simp; omega) ?_) (hdd _) cmp_eq_str) (by simp [hlast])
          rw [List.length_map, show ((-1 : Int) + (bs.length : Int)).toNat = bs.length - 1 by omega, List.getElem?_map, ← List.getLast?_eq_getElem?, List.getLast?_eq_some_getLast hbne]
          rfl
        · have t3 : ∀ p, TestR C (k + 2) (("new_comps", .loc (.list (bs.map PyData.str))) :: rhoN y (.loc (.str c))) (.Name "new_comps" p) (!(bs.map PyData.str).isEmpty) := fun p => te_list (hn _) (by simp; omega)
          refine mx_next (mst_if (b := !(bs.map PyData.str).isEmpty) (t3 _) (fun hne => ?_) (fun hne => ?_)) mx_nil
          · have hbne : bs ≠ [] := by intro e; subst e; simp at hne
            have e3 : bs.map PyData.str = bs.dropLast.map PyData.str ++ [.str (bs.getLast hbne)] := by
              conv => lhs; rw [← List.dropLast_concat_getLast hbne]
              simp
            rw [e3]
            exact mx_next (mst_pop (by simp; omega)) mx_nil
          · have hbne : bs = [] := by cases bs with | nil => rfl | cons _ _ => simp at hne
            subst hbne
            exact mx_nil
  · refine ex_sub (ρ' := [("comps", .loc (.list ((Txt.split y "/").map PyData.str))), ("path", .loc (.str y)), ("new_comps", .loc (.list ((compsN x).map PyData.str))), ("sep", .loc (.str "/")), ("dot", .loc (.str ".")), ("initial_slashes", .loc (.str "/"))]) ?_ (by intro q hq; simp [rhoN] at hq ⊢; rcases hq with rfl | rfl | rfl | rfl | rfl | rfl <;> simp)
    have hjl := join_len (sep := "/") hcm
    rw [slash_len] at hjl
    have hb1 : (compsN x).length * y.length ≤ 401 * 400 := Nat.mul_le_mul (by omega) hyl
    refine ex_next (st_assign (ev_loc (by walk_at "mem")) (by walk_at "set")) ?_
    refine ex_next (st_assign (d := .str (normF x)) (ev_binop (ev_loc (by walk_at "mem")) (ev_m1 (ev_loc (by walk_at "mem")) (ev_loc (by walk_at "mem")) (m_join ?_)) (bin_add_str ?_)) (by walk_at "set")) ?_
    · refine joinOk_of ?_
      have := sum_le (xs := compsN x) (f := fun x => x) (B := y.length) hcm
      rw [List.map_id'] at this
      rw [slash_len]; omega
    · rw [slash_len]; omega
    have hnl : (normF x).length = 1 + (Txt.join "/" (compsN x)).length := by unfold normF; rw [Str.length_append, slash_len]
    exact ex_ret (st_return (ev_or_t (ev_loc (by walk_at "mem")) (by omega) (by omega)))
end
end
section
set_option Elab.async false
set_option maxRecDepth 100000
set_option maxHeartbeats 4000000

inductive Climbs : Str → List Str → Prop
  | top : Climbs "/" []
  | up {w : Str} {l : List Str} : w ≠ "/" → w.length ≤ 1000 → Climbs (headF w) l → Climbs w (l ++ [w])
noncomputable def stepP (places l : List Str) : List Str := places ++ l.filter fun z => !(places.any (· == z))
noncomputable def placesF (ls : List (List Str)) : List Str := ls.foldl stepP []

theorem stepP_len (a l : List Str) : a.length ≤ (stepP a l).length ∧ (stepP a l).length ≤ a.length + l.length := by
  unfold stepP
  have := List.length_filter_le (fun z => !(a.any (· == z))) l
  simp only [List.length_append]; omega
theorem foldP_len : ∀ (ls : List (List Str)) (a : List Str), a.length ≤ (ls.foldl stepP a).length
  | [], a => Nat.le_refl _
  | l :: ls, a => Nat.le_trans (stepP_len a l).1 (foldP_len ls (stepP a l))

section
variable {C : Cx} {k : Nat} {ρ : Rho}
noncomputable def rhoP (ways : List Str) (places : List Str) (bw bc : Bd) : Rho := [("ways", .loc (.list (ways.map PyData.str))), ("places", .cel (.list (places.map PyData.str))), ("way", bw), ("chain", bc), ("dirname", .glo)]

theorem climb_while (N : Nm2 C) (ways places : List Str) {test : Expr} {body : List Stmt} (ht : ∀ w c, TestR C (k + 2) (rhoP ways places (.loc (.str w)) (.loc c)) test (decide (w ≠ "/")))
    (hb : ∀ w (c : List Str), w.length ≤ 1000 → c.length ≤ 1000 → ExR C (k + 2) (rhoP ways places (.loc (.str w)) (.loc (.list (c.map PyData.str)))) body (.next (rhoP ways places (.loc (.str (headF w))) (.loc (.list ((w :: c).map PyData.str)))))) :
    ∀ w l, Climbs w l → ∀ c : List Str, c.length + l.length ≤ 1000 → WhileR C (k + 2) test body (rhoP ways places (.loc (.str w)) (.loc (.list (c.map PyData.str)))) (.next (rhoP ways places (.loc (.str "/")) (.loc (.list ((l ++ c).map PyData.str))))) := by
  intro w l h
  induction h with
  | top => intro c _; exact WhileR.done (te_of (ht _ _) (by simp))
  | up h1 h2 h3 ih =>
    rename_i w l
    intro c hc
    simp only [List.length_append, List.length_cons, List.length_nil] at hc
    refine WhileR.next (te_of (ht _ _) (by simp [h1])) (hb w c h2 (by omega)) ?_
    have := ih (w :: c) (by simp only [List.length_cons]; omega)
    rw [show l ++ [w] ++ c = l ++ w :: c by simp]
    exact this

theorem fn_places (N : Nm2 C) (ws : List (Str × List Str)) (hws : ∀ p ∈ ws, Climbs p.1 p.2 ∧ p.2.length ≤ 100) (hz : (placesF (ws.map (·.2))).length ≤ 100000) : FnR C (k + 3) "_law_places" [.list ((ws.map (·.1)).map PyData.str)] (.list ((placesF (ws.map (·.2))).map PyData.str)) := by
  refine fn_intro (names := ["ways"]) (ρ := [("ways", .loc (.list ((ws.map (·.1)).map PyData.str))), ("places", .unc), ("way", .unl), ("chain", .unl), ("dirname", .glo)]) N.places (by intro _ _ _ vs h; match vs, h with | [v], _ => rfl) rfl (by decide) (by decide +kernel) (by decide +kernel) ⟨⟨rfl, rfl⟩, rfl, rfl, rfl, rfl, trivial⟩ ?_
  generalize hw : ws.map (·.1) = ways
  refine ex_next (ρ' := rhoP ways [] .unl .unl) (st_assign (d := .list []) (ev_list evs_nil) (by unfold rhoP; walk_at "set")) ?_
  refine ex_next (ρ' := rhoP ways (placesF (ws.map (·.2))) .unl .unl) (st_for (it_list (ds := ways.map PyData.str) (ev_loc (by unfold rhoP; walk_at "mem"))) ?_) (ex_ret (st_return (ev_cel (by unfold rhoP; walk_at "mem"))))
  rw [← hw, List.map_map]
  unfold placesF at hz ⊢
  rw [List.foldl_map] at hz ⊢
  refine for_fold (ρ := fun places => rhoP (ws.map (·.1)) places .unl .unl) (f := fun b (p : Str × List Str) => stepP b p.2) (d := fun p => PyData.str p.1) (P := fun xs places => (∀ p ∈ xs, Climbs p.1 p.2 ∧ p.2.length ≤ 100) ∧ (xs.foldl (fun b (p : Str × List Str) => stepP b p.2) places).length ≤ 100000) ?_ ws [] ⟨hws, hz⟩
  rw [hw]
  rintro p xs places ⟨hx, hlen⟩
  obtain ⟨hcl, hl⟩ := hx p (by simp)
  have hlen2 : (stepP places p.2).length ≤ 100000 := by
    have := foldP_len (xs.map (·.2)) (stepP places p.2)
    rw [List.foldl_map] at this
    exact Nat.le_trans this hlen
  have hpl := (stepP_len places p.2).1
  refine ⟨⟨fun q hq => hx q (by simp [hq]), hlen⟩, rhoP ways places (.loc (.str p.1)) .unl, asg_name (by unfold rhoP; walk_at "set"), .inl (ex_fg (ρ' := rhoP ways (stepP places p.2) (.loc (.str "/")) (.loc (.list (p.2.map PyData.str)))) ?_ (by unfold rhoP; walk_at "fg"))⟩
  refine ex_next (ρ' := rhoP ways places (.loc (.str p.1)) (.loc (.list []))) (st_assign (ev_list evs_nil) (by unfold rhoP; walk_at "set")) ?_
  refine ex_next (ρ' := rhoP ways places (.loc (.str "/")) (.loc (.list (p.2.map PyData.str)))) ?_ ?_
  · refine st_while ?_
    rw [show p.2.map PyData.str = (p.2 ++ []).map PyData.str by rw [List.append_nil]]
    refine climb_while (k := k) N ways places (fun w c => te_of (te_cmp (ev_loc (d := .str w) (by unfold rhoP; walk_at "mem")) ev_str cmp_ne_str) (by simp)) (fun w c hw hc => ?_) p.1 p.2 hcl [] (by simp; omega)
    · refine ex_one (st_assign_swap (ev_tuple (evs_cons (ev_call (by unfold rhoP; walk_at "mem") (evs_cons (ev_loc (by unfold rhoP; walk_at "mem")) evs_nil) (fn_dirname N.toNm N.dirname w hw)) (evs_cons (d := .list ((w :: c).map PyData.str)) (ev_binop (a := .list [.str w]) (b := .list (c.map PyData.str)) (ev_list (evs_cons (ev_loc (by unfold rhoP; walk_at "mem")) evs_nil) (by simp)) (ev_loc (by unfold rhoP; walk_at "mem")) (bin_add_list (a := [.str w]) (b := c.map PyData.str) (by simp; omega))) evs_nil)) (by simp)) (.cons (by unfold rhoP; walk_at "set") (.cons (by unfold rhoP; walk_at "set") .nil)) (by intro _; rfl) ?_)
      exact fun X env s S => swapped_pair S.kind (S.names (("way" : Str), .loc (.str w)) (by unfold rhoP; walk_at "mem")).1 (S.names (("chain" : Str), .loc (.list (c.map PyData.str))) (by unfold rhoP; walk_at "mem")).1 rfl (by decide) rfl (by decide +kernel) (by decide +kernel)
  refine ex_one (st_assign (d := .list ((stepP places p.2).map PyData.str)) ?_ (by unfold rhoP; walk_at "set"))
  have e : (stepP places p.2).map PyData.str = places.map PyData.str ++ (p.2.filter fun z => !(places.any (· == z))).map PyData.str := by unfold stepP; rw [List.map_append]
  rw [e]
  have hfl := List.length_filter_le (fun z => !(places.any (· == z))) p.2
  refine ev_binop (ev_cel (by unfold rhoP; walk_at "mem")) (ev_comp [("place", .unl), ("places", .cel (.list (places.map PyData.str)))] (it_list (ev_loc (d := .list (p.2.map PyData.str)) (by unfold rhoP; walk_at "mem"))) ⟨rfl, ⟨rfl, by unfold rhoP; walk_at "mem"⟩, trivial⟩ ⟨⟨_, by unfold rhoP; walk_at "mem"⟩, trivial⟩ (comp_map p.2 fun z hz => ⟨[("place", .loc (.str z)), ("places", .cel (.list (places.map PyData.str)))], casg_name (by walk_at "cset"), CSet.back (x := "place") (d := .str z) (by walk_at "cset"), tests_one (te_cmp (ev_loc (by walk_at "mem")) (ev_cel (by walk_at "mem")) cmp_notin_strs), fun _ => ev_loc (by walk_at "mem")⟩) (by rw [List.length_map]; omega)) (bin_add_list (by simp only [List.length_map]; omega))
end
end
section
set_option Elab.async false
set_option maxRecDepth 100000
set_option maxHeartbeats 4000000

theorem owner_map : Manifest.owners.lookup (String.ofList ['p', 'a', 'm'].reverse) = some Manifest.sig_map := by kernel_rfl
theorem slot_map_init : Slot "map" "__init__" "object.__init__" :=
  .of (owner := "object") (n := "__init__") (by rw [typeLookup_type, builtinLookup_eq_fast]; kernel_rfl) (by decide +kernel) (by decide +kernel) (by decide +kernel)
    (by first | exact .inl (by decide +kernel) | exact .inr (by decide +kernel)) (by rw [isSubtype_type]; kernel_rfl)
theorem slot_map_iter : Slot "map" "__iter__" "map.__iter__" :=
  .of (owner := "map") (n := "__iter__") (by rw [typeLookup_type, builtinLookup_eq_fast]; kernel_rfl) (by decide +kernel) (by decide +kernel) (by decide +kernel)
    (by first | exact .inl (by decide +kernel) | exact .inr (by decide +kernel)) (by rw [isSubtype_type]; kernel_rfl)
theorem args_map_iter_1 (a : Value) : argsOk "map.__iter__" ⟨[a], []⟩ := by
  unfold argsOk; rw [signature?_of (id := "map.__iter__") (n := ['_', '_', 'r', 'e', 't', 'i', '_', '_']) (o := ['p', 'a', 'm']) (by kernel_rfl) owner_map]; kernel_rfl
theorem entry_map_iter : entryFor table "map.__iter__" = some Builtin.«dict_keyiterator.__iter__» :=
  entryFor_alias (id' := "dict_keyiterator.__iter__") (by kernel_rfl) (by first | rfl | decide +kernel | (unfold String.splitOn; simp +decide [String.splitOnAux])) (by decide +kernel) (by kernel_rfl)
theorem slot_map_next : Slot "map" "__next__" "map.__next__" :=
  .of (owner := "map") (n := "__next__") (by rw [typeLookup_type, builtinLookup_eq_fast]; kernel_rfl) (by decide +kernel) (by decide +kernel) (by decide +kernel)
    (by first | exact .inl (by decide +kernel) | exact .inr (by decide +kernel)) (by rw [isSubtype_type]; kernel_rfl)
theorem entry_map_next : entryFor table "map.__next__" = some Builtin.«map.__next__» := entryFor_of_tree (by kernel_rfl)
theorem args_map_next_1 (a : Value) : argsOk "map.__next__" ⟨[a], []⟩ := by
  unfold argsOk; rw [signature?_of (id := "map.__next__") (n := ['_', '_', 't', 'x', 'e', 'n', '_', '_']) (o := ['p', 'a', 'm']) (by kernel_rfl) owner_map]; kernel_rfl
theorem mro_map : mroOf (.type "map") = pure [.type "map", .type "object"] := by rw [mroOf_type]; kernel_rfl
theorem lookup_map_new : typeLookup (.type "map") "__new__" = pure (some (.builtin "map.__new__")) := by rw [typeLookup_type, builtinLookup_eq_fast]; kernel_rfl
theorem called_map : TypeCalled "map" "map.__new__" "object.__init__" :=
  ⟨by decide +kernel, by decide +kernel, ⟨_, _, mro_map⟩, madeBy_type mro_map lookup_map_new (by decide +kernel), by decide +kernel, by rw [isSubtype_type]; kernel_rfl, slot_map_init⟩
theorem typeCall_map_2 (a b : Value) : checkTypeCall "map" ⟨[a, b], []⟩ = pure () := by kernel_rfl
theorem newCall_map_2 (a b : Value) : checkBuiltinCall "map.__new__" ⟨[.type "map", a, b], []⟩ = pure () := by kernel_rfl
theorem entry_map_new : entryFor table "map.__new__" = some Builtin.«map.__new__» := entryFor_of_tree (by kernel_rfl)
theorem sub_map : isSubtype (.type "map") (.type "map") = pure true := by rw [isSubtype_type]; kernel_rfl
theorem map_no_len : typeLookup (.type "map") "__len__" = pure none := by rw [typeLookup_type, builtinLookup_eq_fast]; kernel_rfl
theorem map_no_hint : typeLookup (.type "map") "__length_hint__" = pure none := by rw [typeLookup_type, builtinLookup_eq_fast]; kernel_rfl

noncomputable abbrev IsMap (h : Heap) (z TI : Addr) (f : Value) : Prop :=
  h.get? z = some { cls := .type "map", dict := none, data := .fields #[.ref TI, f], slots := #[] }
noncomputable abbrev IsOne (h : Heap) (T : Addr) (a : Value) : Prop := h.get? T = some { cls := .type "tuple", data := .seq #[a] }

noncomputable abbrev mapH1 (h : Heap) (l : Addr) : Heap := h.push { cls := .type "list_iterator", data := .fields #[.ref l, .int 0 0] }
noncomputable abbrev mapH2 (h : Heap) (l : Addr) : Heap := (mapH1 h l).push { cls := .type "tuple", data := .seq #[.ref h.objs.size] }
noncomputable abbrev mapH3 (h : Heap) (l : Addr) (f : Value) : Heap := (mapH2 h l).push { cls := .type "map", data := .fields #[.ref (mapH1 h l).objs.size, f] }

theorem meets_map_new (l : Addr) (f : Value) (xs : Array Value) :
    Meets (Builtin.«map.__new__» ⟨[.type "map", f, .ref l], []⟩) (fun _ R s => s.heap.IsList l xs ∧
      R (.ok (.ret (.ref (mapH2 s.heap l).objs.size))) { s with heap := mapH3 s.heap l f }) :=
  .of_wp fun prog w A R s h => by
    obtain ⟨hp, g, d, tk, os⟩ := s; obtain ⟨hl1, h⟩ := h
    have hsub := sub_map
    have hL1 : Heap.IsList (Shared.heap ⟨hp, g, d, tk, os⟩) l xs := hl1
    wp_walk using wpAny_pyIter_list hL1
    exact ⟨_, rfl, h⟩
section
variable {prog : Program} {w : World} {A : Around} {E : Value → Shared → Prop} {s : Shared}

theorem call_map {l : Addr} {f : Value} {xs : Array Value} {Q : Value → Shared → Prop} (hl : s.heap.IsList l xs)
    (h : ∀ h', IsMap h' (s.heap.objs.size + 2) (s.heap.objs.size + 1) f → IsOne h' (s.heap.objs.size + 1) (.ref s.heap.objs.size) → h'.IsListIter s.heap.objs.size l 0 → h'.objs.size = s.heap.objs.size + 3 →
      (∀ c o, s.heap.get? c = some o → h'.get? c = some o) → Q (.ref (s.heap.objs.size + 2)) { s with heap := h' }) :
    wpAny (model prog w) A (call (.type "map") [f, .ref l]) Q E s := by
  refine callType_new called_map (by decide) (typeCall_map_2 _ _) (newCall_map_2 _ _) (fun obj => F.args_object_init_3 obj _ _) entry_map_new
    (meets_map_new l f xs) ⟨hl, ?_⟩
  have z1 : (mapH1 s.heap l).objs.size = s.heap.objs.size + 1 := Heap.size_push ..
  have z2 : (mapH2 s.heap l).objs.size = s.heap.objs.size + 2 := by rw [Heap.size_push, z1]
  have z3 : (mapH3 s.heap l f).objs.size = s.heap.objs.size + 3 := by rw [Heap.size_push, z2]
  have g3 : (mapH3 s.heap l f).get? (mapH2 s.heap l).objs.size = some _ := Heap.get?_push_size _ rfl
  have g2 : (mapH3 s.heap l f).get? (mapH1 s.heap l).objs.size = some _ := Heap.get?_push_of_some _ (Heap.get?_push_size _ rfl)
  have g1 : (mapH3 s.heap l f).get? s.heap.objs.size = some _ := Heap.get?_push_of_some _ (Heap.get?_push_of_some _ (Heap.get?_push_size _ rfl))
  show _ ∧ _
  rw [z1, z2] at g3
  rw [z1] at g2
  rw [z2]
  exact ⟨⟨_, g3, rfl⟩, h _ g3 g2 ⟨_, g1, rfl, rfl⟩ z3 fun c o x => Heap.get?_push_of_some _ (Heap.get?_push_of_some _ (Heap.get?_push_of_some _ x))⟩

theorem pyIter_map {z TI : Addr} {f : Value} {Q : Value → Shared → Prop} (hz : IsMap s.heap z TI f) (h : Q (.ref z) s) : wpAny (model prog w) A (pyIter (.ref z)) Q E s := by
  have hT : s.TypeIs (.ref z) "map" := ⟨_, hz, rfl⟩
  refine wpAny_pyIter_slot hT slot_map_iter (wpAny_call_entry slot_map_iter hT entry_map_iter ?_ (args_map_iter_1 _))
  show wpAny _ _ (ret (.ref z)) _ _ s
  exact wpAny_pure ⟨_, rfl, "map", _, hT, slot_map_next.lookup, h⟩

end
end
section
set_option Elab.async false
set_option maxRecDepth 100000
set_option maxHeartbeats 4000000
section
variable {prog : Program} {w : World} {A : Around} {E : Value → Shared → Prop} {s : Shared}
theorem map_next_item {z TI I l : Addr} {k : Nat} {xs : Array Value} {f x : Value} {Q : Value → Shared → Prop} (h1z : I ≠ z) (h1T : I ≠ TI) (h1l : I ≠ l)
    (hz : IsMap s.heap z TI f) (hTI : IsOne s.heap TI (.ref I)) (h1 : s.heap.IsListIter I l k) (hl1 : s.heap.IsList l xs) (hx : xs[k]? = some x)
    (hQ : ∀ h', h'.IsListIter I l (k + 1) → Heap.SameBut I s.heap h' → wpAny (model prog w) A (call f [x]) (fun v s' => ∀ s'', (s'' = s') → Q v s'') E { s with heap := h' }) :
    wpAny (model prog w) A (Builtin.«map.__next__» ⟨[.ref z], []⟩) (fun fin s' => ∃ v, fin = .done (.ret v) ∧ Q v s') E s := by
  show wpAny _ _ (field (.ref z) 0 >>= _) _ _ _
  refine wpAny_bind (wpAny_field hz rfl (x := .ref TI) rfl ?_)
  refine wpAny_bind (wpAny_seqItems hTI rfl ?_)
  show wpAny _ _ (forIn (#[Value.ref I] : Array Value) (#[] : Array Value) _ >>= _) _ _ _
  refine wpAny_bind (wpAny_arrayLoop ?_)
  simp only [List.forIn_cons, List.forIn_nil]
  refine wpAny_bind (wpAny_bind (wpAny_holding (wpAny_nextOf_list_item h1 hl1 hx fun h₁ hi₁ hs₁ => ?_)))
  refine wpAny_pure ?_
  refine wpAny_pure ?_
  have hz₁ : IsMap h₁ z TI f := hs₁.extBut _ _ (Ne.symm h1z) hz
  refine wpAny_bind (wpAny_field hz₁ rfl (x := f) rfl ?_)
  refine wpAny_bind (wpAny_holding (wpAny_mono (hQ h₁ hi₁ hs₁) (fun v s' h => ?_) fun _ _ e => e))
  refine wpAny_bind (wpAny_letGo ?_)
  exact wpAny_pure ⟨v, rfl, h s' rfl⟩
end
end
section
set_option Elab.async false
set_option maxRecDepth 100000
set_option maxHeartbeats 4000000
section
variable {prog : Program} {w : World} {A : Around} {E : Value → Shared → Prop} {s : Shared}

theorem map_next_end {z TI I l : Addr} {k : Nat} {xs : Array Value} {f : Value} {Q : Fin → Shared → Prop} (hh : A.handled = none)
    (hz : IsMap s.heap z TI f) (hTI : IsOne s.heap TI (.ref I)) (h1 : s.heap.IsListIter I l k) (hl1 : s.heap.IsList l xs) (hx : xs[k]? = none)
    (hE : ∀ h' e, Heap.ExtBut I s.heap h' → (∃ o, h'.get? e = some o ∧ o.cls = .type "StopIteration") → E (.ref e) { s with heap := h' }) :
    wpAny (model prog w) A (Builtin.«map.__next__» ⟨[.ref z], []⟩) Q E s := by
  show wpAny _ _ (field (.ref z) 0 >>= _) _ _ _
  refine wpAny_bind (wpAny_field hz rfl (x := .ref TI) rfl ?_)
  refine wpAny_bind (wpAny_seqItems hTI rfl ?_)
  show wpAny _ _ (forIn (#[Value.ref I] : Array Value) (#[] : Array Value) _ >>= _) _ _ _
  refine wpAny_bind (wpAny_arrayLoop ?_)
  simp only [List.forIn_cons, List.forIn_nil]
  exact wpAny_bind (wpAny_bind (wpAny_holding (wpAny_nextOf_list_end hh h1 hl1 hx fun h' e he ho => hE h' e he ho)))

theorem pyNext_map_item {z TI I l : Addr} {k : Nat} {xs : Array Value} {f x : Value} {Q : Option Value → Shared → Prop} (h1z : I ≠ z) (h1T : I ≠ TI) (h1l : I ≠ l)
    (hz : IsMap s.heap z TI f) (hTI : IsOne s.heap TI (.ref I)) (h1 : s.heap.IsListIter I l k) (hl1 : s.heap.IsList l xs) (hx : xs[k]? = some x)
    (hQ : ∀ E h', h'.IsListIter I l (k + 1) → Heap.SameBut I s.heap h' → wpAny (model prog w) A.in1 (call f [x]) (fun v s' => Q (some v) s') E { s with heap := h' }) :
    wpAny (model prog w) A (pyNext (.ref z)) Q E s := by
  have hT : s.TypeIs (.ref z) "map" := ⟨_, hz, rfl⟩
  unfold pyNext
  refine wpAny_bind (wpAny_attempt (wpAny_callSpecial?_slot (name := Str.ofString "__next__") hT slot_map_next
    (wpAny_call_entry slot_map_next hT entry_map_next
      (map_next_item h1z h1T h1l hz hTI h1 hl1 hx fun h' a1 a2 => wpAny_mono (hQ _ h' a1 a2) (fun v s' q s'' e => ?_) fun _ _ e => e) (args_map_next_1 _))))
  subst e
  exact wpAny_pure q

theorem pyNext_map_end {z TI I l : Addr} {k : Nat} {xs : Array Value} {f : Value} {Q : Option Value → Shared → Prop} (hh : A.handled = none)
    (hz : IsMap s.heap z TI f) (hTI : IsOne s.heap TI (.ref I)) (h1 : s.heap.IsListIter I l k) (hl1 : s.heap.IsList l xs) (hx : xs[k]? = none)
    (hQ : ∀ h', Heap.ExtBut I s.heap h' → Q none { s with heap := h' }) : wpAny (model prog w) A (pyNext (.ref z)) Q E s := by
  have hT : s.TypeIs (.ref z) "map" := ⟨_, hz, rfl⟩
  unfold pyNext
  refine wpAny_bind (wpAny_attempt (wpAny_callSpecial?_slot (name := Str.ofString "__next__") hT slot_map_next
    (wpAny_call_entry slot_map_next hT entry_map_next (map_next_end hh hz hTI h1 hl1 hx fun h' e hk he => ?_) (args_map_next_1 _))))
  obtain ⟨o, ho, hc⟩ := he
  refine wpAny_bind (wpAny_isInstance (T := "StopIteration") (b := true) ⟨o, ho, hc⟩ isSubtype_stop ?_)
  exact wpAny_pure (hQ _ hk)
end

structure OkA (k : Nat) (A : Around) : Prop where
  hd : A.handled = none
  dp : A.depth + k ≤ 950
  un : A.units + 20 * k ≤ 9700
theorem OkA.in1 {k : Nat} {A : Around} (h : OkA (k + 1) A) : OkA k A.in1.in1.in1.in1 := ⟨h.hd, by have := h.dp; show A.depth + k ≤ 950; omega, by have := h.un; show A.units + 1 + 1 + 1 + 1 + 20 * k ≤ 9700; omega⟩
theorem OkA.one {k : Nat} {A : Around} (h : OkA (k + 1) A) : OkA k A.in1 := ⟨h.hd, by have := h.dp; show A.depth + k ≤ 950; omega, by have := h.un; show A.units + 1 + 20 * k ≤ 9700; omega⟩
theorem OkA.less {k k' : Nat} {A : Around} (h : OkA k A) (hk : k' ≤ k) : OkA k' A := ⟨h.hd, by have := h.dp; omega, by have := h.un; omega⟩
theorem Ok.a {C : Cx} {X : Addr → Prop} {k : Nat} {A : Around} {s : Shared} (O : Ok C X k A s) : OkA k A := ⟨O.hd, O.dp, O.un⟩

/-- a call of f on x gives a value of P -/
noncomputable def CallR (C : Cx) (k : Nat) (f x : Value) (P : Value → Prop) : Prop :=
  ∀ A s, OkA k A → Grow C.hb s.heap → ∀ (Q : Value → Shared → Prop) (E : Value → Shared → Prop), (∀ v s', Kp s s' → P v → Q v s') → wpAny C.M A (call f [x]) Q E s

structure MapAt (C : Cx) (z TI I l : Addr) (f : Value) (xs : Array Value) (i : Nat) (s : Shared) : Prop where
  base : Grow C.hb s.heap
  z : IsMap s.heap z TI f
  one : IsOne s.heap TI (.ref I)
  it : s.heap.IsListIter I l i
  ls : s.heap.IsList l xs
theorem MapAt.grow {C : Cx} {z TI I l : Addr} {f : Value} {xs : Array Value} {i : Nat} {s s' : Shared} (g : Grow s.heap s'.heap) (h : MapAt C z TI I l f xs i s) : MapAt C z TI I l f xs i s' :=
  ⟨fun b o e => g b o (h.base b o e), g _ _ h.z, g _ _ h.one, h.it.at fun o e => g _ o e, h.ls.at fun o e => g _ o e⟩

theorem walks_map {C : Cx} {k : Nat} {A : Around} {z TI I l : Addr} {f : Value} {xs : Array Value} {P : Nat → Value → Prop} (hA : OkA (k + 1) A) (h1z : I ≠ z) (h1T : I ≠ TI) (h1l : I ≠ l) (hI : C.hb.get? I = none)
    (hf : ∀ i x, xs[i]? = some x → CallR C k f x (P i)) :
    WalksS C.prog C.w A z (z :: TI :: I :: l :: (List.range C.hb.objs.size).filter fun b => (C.hb.get? b).isSome) [I] (fun a b => b = a) xs.size P (fun i s => MapAt C z TI I l f xs i s) where
  sub := fun b hb => by simp at hb; simp [hb]
  grefl := fun _ => rfl
  gtrans := fun _ _ _ h1 h2 => h2.trans h1
  frame := fun i s h' tk st _ hk => by
    have up : ∀ b ∈ [z, TI, I, l], ∀ o, s.heap.get? b = some o → h'.get? b = some o := fun b hb o e => hk b (by simp at hb ⊢; rcases hb with rfl | rfl | rfl | rfl <;> simp) o e
    refine ⟨fun b o e => hk b ?_ o (st.base b o e), up z (by simp) _ st.z, up TI (by simp) _ st.one, st.it.at fun o e => up I (by simp) o e, st.ls.at fun o e => up l (by simp) o e⟩
    have := Heap.lt_size e
    simp [this, e]
  item := fun i s Q E hi st hQ => by
    refine pyNext_map_item h1z h1T h1l st.z st.one st.it st.ls (Array.getElem?_eq_getElem hi) fun E' h' hit hs => ?_
    have st1 : MapAt C z TI I l f xs (i + 1) { s with heap := h' } := ⟨fun b o e => hs.extBut b o (fun q => by rw [q, hI] at e; cases e) (st.base b o e), hs.extBut _ _ (Ne.symm h1z) st.z, hs.extBut _ _ (Ne.symm h1T) st.one, hit, st.ls.extBut hs.extBut (Ne.symm h1l)⟩
    refine hf i _ (Array.getElem?_eq_getElem hi) A.in1 { s with heap := h' } hA.one st1.base _ E' fun v s' kp hP => hQ v s' hP (st1.grow kp.grow) ?_
    obtain ⟨⟨h2, tk, rfl, g⟩, ht⟩ := kp
    exact ⟨fun b o hb e => g b o (hs.extBut b o (fun q => hb (by simp [q])) e), rfl, rfl, rfl, ht⟩
  done := fun s Q E st hQ => pyNext_map_end hA.hd st.z st.one st.it st.ls (by simp) fun h' he => hQ _ ⟨fun b o hb e => he b o (fun q => hb (by simp [q])) e, rfl, rfl, rfl, Nat.le_refl _⟩
  self := fun i s Q E st hQ => pyIter_map st.z hQ
end
section
set_option Elab.async false
set_option maxRecDepth 100000
set_option maxHeartbeats 4000000
section
variable {prog : Program} {w : World} {A : Around} {E : Value → Shared → Prop} {s : Shared} {I : Addr} {fp wr : List Addr} {G : Array GenState → Array GenState → Prop} {n : Nat} {P : Nat → Value → Prop} {St : Nat → Shared → Prop}

/-- a map object drawn to its end -/
theorem collect_map {Q : List Value → Shared → Prop} (W : WalksS prog w A.in1 I fp wr G n P St) (hT : ∀ i s, St i s → s.TypeIs (.ref I) "map") (hst : St 0 s) (hfp : ∀ b ∈ fp, b < s.heap.objs.size) (hI : I ∈ fp)
    (hQ : ∀ s' acc, Moved wr G s s' → ItemsOf P acc n → Q acc.toList s') (hn : n ≤ sizeLine) : wpAny (model prog w) A (collect (.ref I)) Q E s := by
  generalize hD : s.heap.objs.size = D
  have hDf : D ∉ fp := fun hm => Nat.lt_irrefl _ (hD ▸ hfp _ hm)
  have hDI : D ≠ I := fun e => hDf (e ▸ hI)
  unfold collect
  refine wpAny_bind (wpAny_runValue (codeAny_builtin F.entry_proto_collect ?_))
  rw [Around.under_plainId F.plain_proto_collect _]
  show wpAny _ A.in1 (newList [] >>= fun l => again (.builtin "list.__iadd__" ⟨[l, .ref I], []⟩)) _ _ s
  refine wpAny_bind (wpAny_newObj_type (wpAny_pure ⟨plainId_quiet F.plain_list_iadd _, codeAny_builtin F.entry_list_iadd ?_⟩))
  rw [Around.under_plainId F.plain_list_iadd _, hD]
  generalize hs1 : ({ s with heap := s.heap.push { cls := .type "list", data := .seq ([] : List Value).toArray } } : Shared) = s₁
  have hg : ∀ b o, s.heap.get? b = some o → s₁.heap.get? b = some o := fun b o e => by rw [← hs1]; exact Heap.get?_push_of_some _ e
  have htk : s₁.toks = s.toks := by rw [← hs1]
  have hl0 : s₁.heap.get? D = some { cls := .type "list", data := .seq #[] 0 } := by rw [← hs1, ← hD]; exact Heap.get?_push_size _ rfl
  have hst1 : St 0 s₁ := by
    have := W.frame 0 s s₁.heap s.toks hst (Nat.le_refl _) fun b _ o e => hg b o e
    rw [← hs1] at this ⊢; exact this
  show wpAny _ A.in1 (Builtin.List.listExtendWith (.ref D) (.ref I) (.ref D)) _ _ _
  unfold Builtin.List.listExtendWith
  refine wpAny_bind (wpAny_typeOf (hT 0 _ hst1) ?_)
  have e1 : Builtin.List.listSameRef (.ref D) (.ref I) = false := by simp [Builtin.List.listSameRef, hDI]
  rw [if_neg (by rw [e1]; decide)]
  refine wpAny_bind (W.self 0 _ _ _ hst1 (wpAny_bind (wpAny_holding ?_)))
  unfold Builtin.List.listLengthHint
  refine wpAny_bind (wpAny_specialOf (hT 0 _ hst1) map_no_len ?_)
  show wpAny _ A.in1 (specialOf (Value.ref I) (Str.ofString "__length_hint__") >>= _) _ _ _
  refine wpAny_bind (wpAny_specialOf (hT 0 _ hst1) map_no_hint (wpAny_pure ?_))
  show wpAny _ A.in1 (rule "list.extend.makes-room" >>= fun _ => Builtin.List.listTouch (.ref D) >>= fun _ => again (.builtin "list.extend.loop" ⟨[.ref D, .ref I, .ref D], []⟩)) _ _ _
  refine wpAny_bind (wpAny_rule (wpAny_bind ?_))
  show wpAny _ A.in1 (updateSeq D (·.push .none) >>= fun _ => updateSeq D (·.pop)) _ _ _
  refine wpAny_bind (wpAny_updateSeq hl0 rfl ?_)
  have hl1 := Heap.get?_update_self (Obj.mapSeq (·.push Value.none)) hl0 rfl
  refine wpAny_updateSeq hl1 rfl ?_
  have hl2 := Heap.get?_update_self (Obj.mapSeq (·.pop)) hl1 rfl
  have oth : ∀ b o, b ≠ D → s₁.heap.get? b = some o → ((s₁.heap.update D (Obj.mapSeq (·.push Value.none))).update D (Obj.mapSeq (·.pop))).get? b = some o :=
    fun b o hb e => (Heap.get?_update_other _ _ (Ne.symm hb)).trans ((Heap.get?_update_other _ _ (Ne.symm hb)).trans e)
  refine wpAny_pure ⟨plainId_quiet F.plain_extend_loop _, codeAny_extend_loopS W hn D hDf _ n 0 _ _ _ rfl (Nat.zero_le _)
    (W.frame 0 s₁ _ s₁.toks hst1 (Nat.le_refl _) fun b hb o e => oth b o (fun h => hDf (h ▸ hb)) e) hl2 (ItemsOf.nil P) fun s' acc' c' hm hS' hacc => ?_⟩
  show wpAny _ A (load D >>= _) _ _ s'
  refine wpAny_bind (wpAny_load hS' (wpAny_pure (hQ s' acc' ?_ hacc)))
  have m1 : Moved (D :: wr) G s₁ s' := Moved.trans W.gtrans ((Moved.refl W.grefl).then_heap (Nat.le_refl _) fun b o hb e => oth b o (fun h => hb (h ▸ List.mem_cons_self)) e) hm
  refine ⟨fun b o hb e => m1.heap b o (fun hm => ?_) (hg b o e), ?_, ?_, ?_, ?_⟩
  · rcases List.mem_cons.mp hm with q | q
    · exact absurd (Heap.lt_size e) (by rw [q, hD]; exact Nat.lt_irrefl _)
    · exact hb q
  · have := m1.gens; rw [← hs1] at this; exact this
  · rw [m1.drawn, ← hs1]
  · rw [m1.os, ← hs1]
  · rw [← htk]; exact m1.toks

theorem code_tuple_map {Q₁ : Value → Shared → Prop} (W : WalksS prog w A.in1.in1 I fp wr G n P St) (hT : ∀ i s, St i s → s.TypeIs (.ref I) "map") (hst : St 0 s) (hfp : ∀ b ∈ fp, b < s.heap.objs.size) (hI : I ∈ fp)
    (h : ∀ s' acc, Moved wr G s s' → ItemsOf P acc n → Q₁ (.ref s'.heap.objs.size) { s' with heap := s'.heap.push { cls := .type "tuple", data := .seq acc } }) (hsz : n ≤ sizeLine) :
    codeAny (model prog w) A (.call (.builtin "tuple.__new__") ⟨[.type "tuple", .ref I], []⟩) (wants Q₁ E) s := by
  refine codeAny_of_tree ?_
  show wpAny _ A.in1 (do checkBuiltinCall "tuple.__new__" ⟨[.type "tuple", .ref I], []⟩; again (.builtin "tuple.__new__" ⟨[.type "tuple", .ref I], []⟩)) _ _ s
  refine wpAny_bind (wpAny_of_eq (F.newCall_tuple_1 _) (wpAny_pure ⟨plainId_quiet F.plain_tuple_new _, codeAny_builtin F.entry_tuple_new ?_⟩))
  rw [Around.under_plainId F.plain_tuple_new _]
  have a1 := sub_tuple_self
  have a2 := init_tuple_lookup
  have a3 := madeHere_tuple
  have hTI := hT 0 s hst
  wp_walk using wpAny_typeOf hTI, collect_map (hn := hsz) W hT hst hfp hI
  intro s' acc hm hacc
  show wpAny _ _ (Builtin.Tuple.tupleExact acc.toList.toArray >>= fun v => ret v) _ _ _
  rw [show acc.toList.toArray = acc by simp]
  unfold Builtin.Tuple.tupleExact
  exact wpAny_bind (wpAny_newObj_type (wpAny_pure (h s' acc hm hacc)) (by show acc.size ≤ sizeLine; rw [hacc.1]; exact hsz))

theorem call_tuple_map {Q : Value → Shared → Prop} (W : WalksS prog w A.in1.in1.in1 I fp wr G n P St) (hT : ∀ i s, St i s → s.TypeIs (.ref I) "map") (hst : St 0 s) (hfp : ∀ b ∈ fp, b < s.heap.objs.size) (hI : I ∈ fp)
    (hQ : ∀ s' acc, Moved wr G s s' → ItemsOf P acc n → Q (.ref s'.heap.objs.size) { s' with heap := s'.heap.push { cls := .type "tuple", data := .seq acc } }) (hsz : n ≤ sizeLine) :
    wpAny (model prog w) A (call (.type "tuple") [.ref I]) Q E s := by
  refine callType_codes (Q₁ := fun obj s₁ => s₁.TypeIs obj "tuple" ∧ Q obj s₁) F.called_tuple (F.typeCall_tuple_1 _) F.entry_object_init
    (code_tuple_map (hsz := hsz) W hT hst hfp hI fun s' acc hm hacc => ⟨⟨_, Heap.get?_push_size _ rfl, rfl⟩, hQ s' acc hm hacc⟩) fun obj s₁ h₁ => ?_
  exact ⟨h₁.1, F.args_object_init_2 obj _, object_init_meets F.called_tuple.init.lookup F.called_tuple.made (by decide) prog w A.in1 _ s₁ ⟨h₁.1, rfl, h₁.2⟩⟩

theorem join_map {x : Str} {t : Tok} {Q : Value → Shared → Prop} (W : WalksS prog w A.in1.in1 I fp wr G n P St) (hT : ∀ i s, St i s → s.TypeIs (.ref I) "map") (hst : St 0 s) (hfp : ∀ b ∈ fp, b < s.heap.objs.size) (hI : I ∈ fp)
    (hstr : ∀ i v, P i v → ∃ y u, v = Value.str y u)
    (hq : ∀ s' (l : List (Str × Tok)), Moved wr G s s' → ItemsOf P (strValues l).toArray n → JoinOk x (l.map (·.1)) = true ∧ ∀ t' k, Q (.str (Txt.join x (l.map (·.1))) t') { s' with toks := k })
    (hsz : n ≤ sizeLine) :
    wpAny (model prog w) A (call (.builtin "str.join") [.str x t, .ref I]) Q E s := by
  refine wpAny_call (codeAny_call_builtin F.slot_str_join.plain F.entry_str_join (F.slot_str_join.check _ _ _ _ _ _ _ _ (typeIs_str _ _ _) (F.args_str_join_2 _ _) ?_))
  rw [join_tree_other]
  refine wpAny_bind (wpAny_typeOf (hT 0 s hst) ?_)
  show wpAny _ A.in1 ((pyIter (.ref I)).tryCatch _ >>= fun it => collect it >>= fun items => joinTail x items) _ _ s
  refine wpAny_bind (wpAny_tryCatch (W.of_in1.self 0 s _ _ hst (wpAny_bind (collect_map (hn := hsz) W hT hst hfp hI fun s' acc hm hacc => ?_))))
  obtain ⟨l, hl⟩ := exists_strValues acc.toList fun v hv => by
    obtain ⟨j, hj, rfl⟩ := Array.mem_iff_getElem.mp (Array.mem_toList_iff.mp hv)
    exact hstr j _ (hacc.2 j _ (Array.getElem?_eq_getElem hj))
  rw [← hl]
  obtain ⟨hok, hpost⟩ := hq s' l hm (by rw [hl]; simpa using hacc)
  unfold JoinOk at hok
  rw [Bool.not_eq_true'] at hok
  have g : Gives (joinTail x (strValues l)) (joinMade x l) := by
    have g0 := gives_joinTail x l hok
    rcases l with _ | ⟨p, _ | ⟨q, r⟩⟩ <;> exact g0
  exact g prog w A (wants Q E) s' (post_join l ⟨joinFit_length hok, hpost⟩)
end
end
section
set_option Elab.async false
set_option maxRecDepth 100000
set_option maxHeartbeats 4000000

noncomputable def ValR (C : Cx) (k : Nat) (ρ : Rho) (e : Expr) (f : Value) : Prop :=
  ∀ X A env s, Ok C X k A s → Sees X env s.heap ρ → ∀ (Q : Value → Shared → Prop) (E : Value → Shared → Prop), (∀ tk, s.toks ≤ tk → Q f { s with toks := tk }) → wpAny C.M A (eval e env) Q E s
theorem moved_kp {s s1 s' : Shared} {I : Addr} (k : Kp s s1) (hI : s.heap.get? I = none) (m : Moved [I] (fun a b => b = a) s1 s') : Kp s s' := by
  obtain ⟨⟨h1, tk, rfl, g⟩, ht⟩ := k
  obtain ⟨h', g', d', tk', os'⟩ := s'
  obtain ⟨a1, a2, a3, a4, a5⟩ := m
  dsimp only at a1 a2 a3 a4 a5
  subst a2 a3 a4
  exact ⟨⟨h', tk', rfl, fun b o e => a1 b o (fun q => by simp at q; rw [q, hI] at e; cases e) (g b o e)⟩, Nat.le_trans ht a5⟩

section
variable {C : Cx} {k : Nat} {ρ : Rho}

theorem val_def {name : Str} {np : Pos} {a : Addr} (hx : (name, Bd.glo) ∈ ρ) (hm : C.mg name = some (.ref a)) (hd : (name == ("__debug__" : Str)) = false := by decide) : ValR C k ρ (.Name name np) (.ref a) := by
  intro X A env s O S Q E hQ
  exact Calls.Name_function_global S.kind (S.names _ hx) (Calls.loadGlobal_global (mg := C.mg) (by rw [S.gl]; exact C.g.keeps O.base) hm (hQ s.toks (Nat.le_refl _))) hd

theorem cls_str_cap : findCls [] (.type "str") (.type "type") "capitalize" = some (.val (.builtin "str.capitalize")) := by kernel_rfl

theorem val_cap {np ap : Pos} (hx : (("str" : Str), Bd.glo) ∈ ρ) (hm : C.mg "str" = none) : ValR C k ρ (.Attribute (.Name "str" np) "capitalize" ap) (.builtin "str.capitalize") := by
  intro X A env s O S Q E hQ
  rw [arm_eval_Attribute]
  have hb : attributeBase (.Name "str" np) "capitalize" env (eval (.Name "str" np) env) = eval (.Name "str" np) env := rfl
  rw [hb]
  refine wpAny_bind (ev_builtin (v := .type "str") O S hx hm (by decide +kernel) (by decide) ?_)
  refine wpAny_bind (wpAny_standAt (wpAny_bind (wpAny_holding ?_)))
  have X0 : Frag.In [] s.heap := fun a o e => by cases e
  have L0 : Looks C.M s.heap (typeOf (.type "str")) (.type "type") := Looks.of_pure type_str
  have LO : Looks C.M s.heap (opaqueClassAbove (.type "str")) none := Looks.of_pure (by unfold opaqueClassAbove; rfl)
  refine cls_open (K := []) X0 LO L0 type_tga (looks_hook X0 (r := none) (by rfl)) (by show subIn [] _ _ = _; decide +kernel) cls_str_cap ?_
  refine wpAny_pure (handed_on rfl ?_)
  refine wpAny_bind (m := letTemporaryGo _ _ _) (wpAny_pure (wpAny_pure ?_))
  exact hQ _ (by simp)

theorem call_cap {y : Str} {t : Tok} (hz : y.length ≤ 1000000) : CallR C k (.builtin "str.capitalize") (.str y t) (fun v => ∃ u, v = .str (Txt.capitalize y) u) := by
  intro A s hA hb Q E hQ
  refine wpAny_mono (wpAny_toks (SCL.capitalize (Q := fun v s' => PySem.Keeps s s' ∧ ∃ u, v = .str (Txt.capitalize y) u) (E := E) (by omega) fun t' k _ => ⟨kept_tok, _, rfl⟩)) (fun v s' h => ?_) (fun _ _ h => h.2)
  exact hQ v s' ⟨h.2.1, h.1⟩ h.2.2
theorem call_fn {y : Str} {t : Tok} {g : Str → Str} {name : Str} {a : Addr} (hm : C.mg name = some (.ref a)) (h : FnR C k name [.str y] (.str (g y))) : CallR C k (.ref a) (.str y t) (fun v => ∃ u, v = .str (g y) u) := by
  intro A s hA hb Q E hQ
  obtain ⟨a', o, fd, h1, h2, h3, h4⟩ := h
  rw [hm] at h1
  cases h1
  exact h4 (fun _ => False) A s [.str y t] ⟨hA.hd, hA.dp, hA.un, hb, fun _ q => q.elim⟩ ⟨.str y t, [], rfl, ⟨t, rfl⟩, rfl⟩ Q E fun v s' kp r => hQ v s' kp r

structure MapRes (C : Cx) (kc : Nat) (ys : List Str) (g : Str → Str) (s : Shared) (z I : Addr) (s1 : Shared) : Prop where
  kp : Kp s s1
  fresh : s.heap.get? I = none
  ex : ∃ (fp : List Addr) (St : Nat → Shared → Prop), (∀ A, OkA (kc + 1) A → WalksS C.prog C.w A z fp [I] (fun a b => b = a) ys.length (fun i v => ∃ y, ys[i]? = some y ∧ ∃ u, v = .str (g y) u) St) ∧ (∀ i s, St i s → s.TypeIs (.ref z) "map") ∧ St 0 s1 ∧
    (∀ b ∈ fp, b < s1.heap.objs.size) ∧ z ∈ fp

theorem ev_map {kc : Nat} {np pos : Pos} {fe le : Expr} {f : Value} {ys : List Str} {g : Str → Str} (hx : (("map" : Str), Bd.glo) ∈ ρ) (hm : C.mg "map" = none) (hf : ValR C k ρ fe f) (hl : EvR C k ρ le (.list (ys.map PyData.str)))
    (hc : ∀ y ∈ ys, ∀ t, CallR C kc f (.str y t) (fun v => ∃ u, v = .str (g y) u)) (hs : ∀ env, starEach [fe, le] env = [(false, eval fe env), (false, eval le env)] := by intro _; rfl)
    {X : Addr → Prop} {A : Around} {env : Env} {s : Shared} (O : Ok C X k A s) (S : Sees X env s.heap ρ) {Q : Value → Shared → Prop} {E : Value → Shared → Prop} (hQ : ∀ z I s1, MapRes C kc ys g s z I s1 → Q (.ref z) s1) :
    wpAny C.M A (eval (.Call (.Name "map" np) [fe, le] [] pos) env) Q E s := by
  refine Call_ (ev_builtin (v := .type "map") O S hx hm (by decide +kernel) (by decide) ?_)
  rw [hs env]
  refine PySem.callWith_type rfl (Calls.evalArgs_plain (Calls.spliced_cons ?_))
  refine hf X A env s O S _ E fun tk htk => Calls.spliced_cons ?_
  have k0 : Kp s { s with toks := tk } := Kp.tok htk
  refine hl X A env _ (O.keeps k0) (S.grow k0.grow) _ E fun v s1 k1 r1 => Calls.spliced_nil ?_
  obtain ⟨l, vs, rfl, hx0, hl, hr⟩ := r1
  have ksz : vs.size = ys.length := by simpa using hr.length
  have k01 := k0.tr k1
  generalize hI : s1.heap.objs.size = I
  refine call_map (s := s1) hl fun h' hz hT hit hsz hk => ?_
  rw [hI] at hz hT hit ⊢
  have Ih : s.heap.get? I = none := by
    cases e : s.heap.get? I with
    | none => rfl
    | some o => exact absurd (Heap.lt_size (k01.grow _ _ e)) (by rw [hI]; exact Nat.lt_irrefl _)
  have hlI : I ≠ l := by obtain ⟨o, ho, _⟩ := hl; exact Ne.symm (hI ▸ Nat.ne_of_lt (Heap.lt_size ho))
  have kk : Kp s { s1 with heap := h' } := k01.tr ⟨⟨h', s1.toks, rfl, hk⟩, Nat.le_refl _⟩
  refine hQ _ I _ ⟨kk, Ih, ((I + 2) :: (I + 1) :: I :: l :: (List.range C.hb.objs.size).filter fun b => (C.hb.get? b).isSome), fun i s => MapAt C (I + 2) (I + 1) I l f vs i s, fun A' hA' => ?_, fun i s st => ⟨_, st.z, rfl⟩, ⟨fun b o e => kk.grow b o (O.base b o e), hz, hT, hit, hl.at fun o e => hk _ o e⟩, ?_, ?_⟩
  · rw [← ksz]
    refine walks_map (k := kc) hA' (Nat.ne_of_lt (Nat.lt_add_of_pos_right (by decide))) (Nat.ne_of_lt (Nat.lt_add_of_pos_right (by decide))) hlI (none_of_base O Ih) fun i x hxi => ?_
    obtain ⟨d, hd, rd⟩ := hr.get (i := i) (v := x) (by simpa using hxi)
    rw [List.getElem?_map] at hd
    cases hy : ys[i]? with
    | none => rw [hy] at hd; cases hd
    | some y =>
      rw [hy] at hd; cases hd
      obtain ⟨t, rfl⟩ := rd
      intro A s hA hb Q E hQ
      exact hc y (List.mem_of_getElem? hy) t A s hA hb Q E fun v s' kp hv => hQ v s' kp ⟨y, rfl, hv⟩
  · intro b hb
    simp only [List.mem_cons, List.mem_filter, List.mem_range] at hb
    rcases hb with rfl | rfl | rfl | rfl | ⟨_, hb⟩
    · exact Heap.lt_size hz
    · exact Heap.lt_size hT
    · obtain ⟨o, ho, _⟩ := hit; exact Heap.lt_size ho
    · obtain ⟨o, ho, _⟩ := hl; exact Heap.lt_size (hk _ _ ho)
    · obtain ⟨o, ho⟩ := Option.isSome_iff_exists.mp hb
      exact Heap.lt_size (kk.grow _ _ (O.base _ _ ho))
  · simp

theorem items_map {ys : List Str} {g : Str → Str} {l : List (Str × Tok)} (h : ItemsOf (fun i v => ∃ y, ys[i]? = some y ∧ ∃ u, v = .str (g y) u) (strValues l).toArray ys.length) : l.map (·.1) = ys.map g := by
  have e : strValues l = l.map fun p => Value.str p.1 p.2 := by
    induction l with
    | nil => rfl
    | cons p r ih => obtain ⟨a, b⟩ := p; show Value.str a b :: strValues r = _; rw [show strValues r = r.map fun p => Value.str p.1 p.2 from by clear h ih; induction r with | nil => rfl | cons p r ih => obtain ⟨a, b⟩ := p; show Value.str a b :: strValues r = _; rw [ih]; rfl]; rfl
  obtain ⟨h1, h2⟩ := h
  rw [e] at h1 h2
  simp at h1
  apply List.ext_getElem?
  intro i
  by_cases hi : i < l.length
  · obtain ⟨y, hy, u, hu⟩ := h2 i (Value.str (l[i]).1 (l[i]).2) (by simp [hi])
    have e3 : (l[i]).1 = g y := (Value.str.inj hu).1
    rw [List.getElem?_map, List.getElem?_map, hy, List.getElem?_eq_getElem hi]
    simp [e3]
  · rw [List.getElem?_eq_none (by simp; omega), List.getElem?_eq_none (by simp; omega)]
end
end
section
set_option Elab.async false
set_option maxRecDepth 100000
set_option maxHeartbeats 4000000

noncomputable def capW (x : Str) : Str := Txt.join "-" ((Txt.split x "-").map Txt.capitalize)

/-- a def with one default stands under its name -/
noncomputable def DefD (C : Cx) (name : Str) (params : Arguments) (body : List Stmt) (scope : Scope) : Prop :=
  ∃ a o pm code doc d od u n, C.mg name = some (.ref a) ∧ C.hb.get? a = some o ∧ o.data = .func { Calls.docDef name params body scope pm code doc with defaults := .ref d, kwdefaults := .none } ∧ C.hb.CodeRec code name ∧
    C.hb.get? d = some od ∧ od.data = .seq #[u] n

section
variable {C : Cx} {k : Nat} {ρ : Rho}

theorem fn_intro_d {name : Str} {params : Arguments} {body : List Stmt} {scope : Scope} {a0 p0 : Str} {d0 d1 r : PyData} {ρ : Rho} (D : DefD C name params body scope)
    (hbind : ∀ (pm cd doc u v w : Value) (d : Addr) (n : Nat) (M : Model) (A : Around) (E : Value → Shared → Prop) (s : Shared) (Q : List (Str × Value) → Shared → Prop) (od : Obj), s.heap.get? d = some od → od.data = .seq #[u] n → Q [(a0, v), (p0, w)] s →
      wpAny M A (bindArgs { Calls.docDef name params body scope pm cd doc with defaults := .ref d, kwdefaults := .none } ⟨[v, w], []⟩) Q E s)
    (hnn : [a0, p0].Nodup) (hkd : ([a0, p0].all fun y => scope.names.lookup y == some .local || scope.names.lookup y == some .cell) = true)
    (hcn : ((cellsFrom 0 scope.names []).map (·.1)).Nodup) (hρ : ParOk scope.names ([a0, p0].zip [d0, d1]) ρ) (hbody : ExR C k ρ body (.ret r))
    (hco : scope.isCoroutine = false := by rfl) (hgen : scope.isGenerator = false := by rfl) (hk : scope.kind = .function := by rfl) : FnR C (k + 1) name [d0, d1] r := by
  obtain ⟨a, o, pm, code, doc, d, od, u, n, h1, h2, h3, h4, h5, h6⟩ := D
  refine ⟨a, o, _, h1, h2, h3, fun X A s vs0 O hr0 => gv_of fun Q E hQ => ?_⟩
  obtain ⟨v, vs, rfl, rv, rvs⟩ := hr0
  obtain ⟨w, vs', rfl, rw', rn⟩ := rvs
  cases rn
  have hb := fun M A E s Q => hbind pm code doc u v w d n M A E s Q od
  have e0 : ({ Calls.docDef name params body scope pm code doc with defaults := .ref d, kwdefaults := .none } : FuncData).body = .stmts body := rfl
  have e1 : ({ Calls.docDef name params body scope pm code doc with defaults := .ref d, kwdefaults := .none } : FuncData).globals = mainGlobals := rfl
  have e2 : ({ Calls.docDef name params body scope pm code doc with defaults := .ref d, kwdefaults := .none } : FuncData).builtins = builtinsNs := rfl
  have e3 : ({ Calls.docDef name params body scope pm code doc with defaults := .ref d, kwdefaults := .none } : FuncData).scope = scope := rfl
  have e4 : ({ Calls.docDef name params body scope pm code doc with defaults := .ref d, kwdefaults := .none } : FuncData).code = code := rfl
  have e5 : ({ Calls.docDef name params body scope pm code doc with defaults := .ref d, kwdefaults := .none } : FuncData).qualname = name := rfl
  have e6 : ({ Calls.docDef name params body scope pm code doc with defaults := .ref d, kwdefaults := .none } : FuncData).closure = [] := rfl
  generalize ({ Calls.docDef name params body scope pm code doc with defaults := .ref d, kwdefaults := .none } : FuncData) = fd at *
  subst e3
  refine wpAny_call (codeAny_call_function (by have := O.dp; show _ < 1000; omega) (O.base _ _ h2) h3 hco hgen e0 (by rw [e4, e5]; exact h4.keeps O.base) ?_)
  refine hb _ _ _ s _ (O.base _ _ h5) h6 ?_
  rw [e6]
  have hnb : (([a0, p0] : List Str).zip [v, w]) = [(a0, v), (p0, w)] := rfl
  have hr' : RdL X s.heap [d0, d1] [v, w] := ⟨v, [w], rfl, rv, w, [], rfl, rw', rfl⟩
  refine wpAny_newFunctionEnv_cells (binds := [(a0, v), (p0, w)]) hk (kinds_all (by
      rw [List.all_eq_true]
      intro p hp
      rw [← hnb] at hp
      exact List.all_eq_true.mp hkd p.1 (List.of_mem_zip hp).1) _) fun env he s₁ x => ?_
  subst he
  refine ⟨(C.nolimit.keeps O.base).keeps x.toInCall.keep, codeAny_func ?_⟩
  have S := par_sees (fd := fd) e1 e2 hk hnn rfl x hr' ρ hρ
  have hL : s.heap.objs.size ≤ (callEnvC fd s.heap.objs.size a).locals := Nat.le_refl _
  have hb1 : Grow s.heap s₁.heap := x.toInCall.keep
  have O1 : Ok C X k (A.deeper (callEnvC fd s.heap.objs.size a)) s₁ := ⟨O.hd, by have := O.dp; show A.depth + 1 + k ≤ 950; omega, by have := O.un; show A.units + 3 + 20 * k ≤ 9700; omega, fun b o e => hb1 b o (O.base b o e), fun b hb => let ⟨x, e⟩ := O.xb b hb; ⟨x, hb1 b x e⟩⟩
  have w1 : Own C (callEnvC fd s.heap.objs.size a) s₁.heap := by
    refine ⟨⟨_, x.toInCall.ns⟩, fun n c hm => ⟨_, x.cell n c (lookup_of_mem_nodup (cells_nodup hcn _) hm)⟩, none_of_base O (get_none hL), fun n c hm => none_of_base O (get_none (Nat.le_of_lt (x.above n c hm))), x.apart⟩
  refine hbody X _ _ s₁ O1 w1 S _ _ fun fl s2 k2 w2 e2 => ?_
  obtain ⟨v, rfl, rv⟩ := e2
  obtain ⟨hh, tk, e1, keep⟩ := x.done
  obtain ⟨h', tk', e2, g⟩ := k2
  subst e1
  subst e2
  refine hQ v _ ⟨h', tk', rfl, fun b o e => g b o ?_ (keep b o e)⟩ rv
  have hlt := Heap.lt_size e
  rintro (q | ⟨n', hm⟩)
  · exact absurd hlt (Nat.not_lt.mpr (q ▸ hL))
  · exact absurd hlt (Nat.not_lt.mpr (Nat.le_of_lt (x.above _ _ hm)))

theorem ev_join_map {o fe le : Expr} {apos np mpos pos : Pos} {f : Value} {ys : List Str} {g : Str → Str} {sep : Str} (ho : EvR C (k + 2) ρ o (.str sep)) (hx : (("map" : Str), Bd.glo) ∈ ρ) (hm : C.mg "map" = none) (hf : ValR C (k + 2) ρ fe f) (hl : EvR C (k + 2) ρ le (.list (ys.map PyData.str)))
    (hc : ∀ y ∈ ys, ∀ t, CallR C k f (.str y t) (fun v => ∃ u, v = .str (g y) u)) (hn : ys.length ≤ 1000000) (hj : JoinOk sep (ys.map g) = true) (hs : ∀ env, starEach [fe, le] env = [(false, eval fe env), (false, eval le env)] := by intro _; rfl)
    (hbase : ∀ env, attributeBase o "join" env (eval o env) = eval o env := by intro _; rfl) (hs1 : ∀ env, starEach [.Call (.Name "map" np) [fe, le] [] mpos] env = [(false, eval (.Call (.Name "map" np) [fe, le] [] mpos) env)] := by intro _; rfl) (hline : (apos.endLine == pos.line) = true := by rfl) :
    EvR C (k + 2) ρ (.Call (.Attribute o "join" apos) [.Call (.Name "map" np) [fe, le] [] mpos] [] pos) (.str (Txt.join sep (ys.map g))) := by
  intro X A env s O S
  refine gv_of fun Q E hQ => Call_method1 (hbase env) (hs1 env) hline (ho X A env s O S _ E fun v s1 k1 r1 => ?_)
  obtain ⟨t, rfl⟩ := r1
  refine ⟨"str", _, F.plainAttrs_str, F.slot_str_join, F.type_str_join, typeIs_str _ _ _, (fun _ e => nomatch e), Calls.callWith_builtin rfl (Calls.evalArgs_plain (Calls.spliced_cons (ev_map hx hm hf hl hc hs (O.keeps k1) (S.grow k1.grow) fun z I s2 R => Calls.spliced_nil ?_)))⟩
  obtain ⟨kp, hI, fp, St, W, hT, hst, hfp, hz⟩ := R
  refine join_map (W A.in1.in1 ?_) hT hst hfp hz (fun i v h => ?_) (fun s' l hm hi => ?_) (sz_le hn)
  · exact ⟨O.hd, by have := O.dp; show A.depth + (k + 1) ≤ 950; omega, by have := O.un; show A.units + 1 + 1 + 20 * (k + 1) ≤ 9700; omega⟩
  · obtain ⟨y, _, u, hu⟩ := h; exact ⟨_, _, hu⟩
  · rw [items_map hi]
    exact ⟨hj, fun t' n => hQ _ _ (keeps_tr k1.1 (keeps_tr (moved_kp kp hI hm).1 kept_tok)) ⟨_, rfl⟩⟩

theorem fn_capwords (N : Nm2 C) (D : DefD C "capwords" (argsOf "capwords") (bodyOf "capwords") (scopeOf "capwords")) (x : Str) (hx : x.length ≤ 1000) : FnR C (k + 3) "capwords" [.str x, .str "-"] (.str (capW x)) := by
  refine fn_intro_d (a0 := "s") (p0 := "sep") (ρ := [("s", .loc (.str x)), ("sep", .loc (.str "-")), ("map", .glo), ("str", .glo)]) D ?_ (by decide) (by decide +kernel) (by decide +kernel) ⟨⟨rfl, rfl⟩, ⟨rfl, rfl⟩, rfl, rfl, trivial⟩ ?_
  · intro pm cd doc u v w d n M A E s Q od ho hd hQ
    show wpAny _ _ (seqItems? (.ref d) >>= _) _ _ _
    refine wpAny_bind (wpAny_seqItems ho hd ?_)
    exact wpAny_pure hQ
  have h1 := split_sum x "-"
  rw [dash_len] at h1
  have hl : (Txt.split x "-").length ≤ x.length + 1 := by omega
  have hm : ∀ y ∈ Txt.split x "-", y.length ≤ x.length := fun y hy => split_mem hy
  refine ex_ret (st_return (ev_join_map (ev_or_t (ev_loc (by walk_at "mem")) (by decide +kernel) (by decide +kernel)) (by walk_at "mem") N.map (val_cap (by walk_at "mem") N.str) (ev_m1 (ev_loc (by walk_at "mem")) (ev_loc (by walk_at "mem")) (m_split (by omega) (by decide +kernel) ?_)) (fun y hy t => call_cap (by have := hm y hy; omega)) (by omega) ?_))
  · rw [length_partsBetween]
    have := StrLaws.occ_length_le x "-" 0 x.length (x.length + 1)
    omega
  · refine joinOk_of ?_
    have hs := sum_nat (xs := Txt.split x "-") (f := Txt.capitalize) (B := 3000) fun y hy => by have := len_capitalize y; have := hm y hy; omega
    rw [List.length_map, dash_len]
    omega
end
end
section
set_option Elab.async false
set_option maxRecDepth 100000
set_option maxHeartbeats 4000000

noncomputable def replW (x : Str) : Str := Txt.replace x "-" " "
noncomputable def readD : Nat → List (Str × Str × Str) → Str → PyData
  | 0, _, _ => .list []
  | n + 1, shelf, top => .list ((shelf.filter fun e => decide (e.1 = top)).map fun e => .list [.str (replW (capW e.2.1)), readD n shelf e.2.2])
noncomputable def shelfD (shelf : List (Str × Str × Str)) : PyData := .list (shelf.map fun e => .list [.str e.1, .str e.2.1, .str e.2.2])

theorem capW_len {x : Str} (hx : x.length ≤ 1000) : (capW x).length ≤ 3010000 := by
  have h1 := split_sum x "-"
  rw [dash_len] at h1
  have h2 := join_len (sep := "-") (xs := (Txt.split x "-").map Txt.capitalize) (B := 3000) (by
    intro y hy
    obtain ⟨z, hz, rfl⟩ := List.mem_map.mp hy
    have := len_capitalize z
    have := split_mem hz
    omega)
  rw [List.length_map, dash_len] at h2
  unfold capW
  have : (Txt.split x "-").length ≤ 1001 := by omega
  omega

section
variable {C : Cx} {k : Nat} {ρ : Rho}

theorem ev_title {cp p1 ap p2 p3 mp pos : Pos} {n1 n2 n3 : Nat} {e : Expr} {x : Str} (hx : (("capwords" : Str), Bd.glo) ∈ ρ) (he : EvR C k ρ e (.str x)) (hf : FnR C k "capwords" [.str x, .str "-"] (.str (capW x))) (hz : x.length ≤ 1000)
    (hs : ∀ env, starEach [e, .Constant (.str "-") n1 p1] env = (false, eval e env) :: starEach [.Constant (.str "-") n1 p1] env := by intro _; rfl) (hline : (ap.endLine == pos.line) = true := by rfl) :
    EvR C k ρ (.Call (.Attribute (.Call (.Name "capwords" cp) [e, .Constant (.str "-") n1 p1] [] mp) "replace" ap) [.Constant (.str "-") n2 p2, .Constant (.str " ") n3 p3] [] pos) (.str (replW (capW x))) := by
  intro X A env s O S
  refine gv_of fun Q E hQ => Call_method2 rfl rfl hline ?_
  obtain ⟨a, o, fd, h1, h2, h3, h4⟩ := hf
  refine Call_ (Calls.Name_function_global S.kind (S.names _ hx) (Calls.loadGlobal_global (mg := C.mg) (by rw [S.gl]; exact C.g.keeps O.base) h1 ?_) (by decide))
  refine callWith_def h3 (spliced_more (he X A env s O S _ E fun v s1 k1 r1 => ?_) (hs env)) (hs env)
  refine spliced_more (wpAny_Constant_str (spliced_none ?_)) rfl
  have k2 : Kp s1 { s1 with toks := s1.toks + 1 } := Kp.tok
  refine ⟨(O.keeps (k1.tr k2)).base _ _ h2, ?_⟩
  refine h4 X A _ _ (O.keeps (k1.tr k2)) ⟨v, _, rfl, r1.grow k2.grow, _, [], rfl, ⟨_, rfl⟩, rfl⟩ _ E fun v s3 k3 r3 => ?_
  obtain ⟨t, rfl⟩ := r3
  have ht : 1 ≤ s3.toks := Nat.le_trans (Nat.le_add_left 1 s1.toks) k3.2
  refine ⟨"str", _, F.plainAttrs_str, F.slot_str_replace, F.type_str_replace, typeIs_str _ _ _, (fun _ e => nomatch e), Calls.callWith_builtin rfl (Calls.evalArgs_plain (Calls.spliced_cons (wpAny_Constant_str (Calls.spliced_cons (wpAny_Constant_str (Calls.spliced_nil ?_))))))⟩
  refine SC.replace (Nat.ne_of_gt ht) (Nat.succ_ne_zero _) (Nat.ne_of_lt (Nat.lt_succ_self _)) (by decide +kernel) ?_ fun t' n => hQ _ _ (keeps_tr (k1.tr k2).1 (keeps_tr k3.1 kept_tok)) ⟨_, rfl⟩
  have h1 := capW_len hz
  have h2 : (Str.ofString " ").length = 1 := by decide +kernel
  rw [h2]; omega

theorem fn_read (N : Nm2 C) (D : DefD C "capwords" (argsOf "capwords") (bodyOf "capwords") (scopeOf "capwords")) (shelf : List (Str × Str × Str)) (rank : Str → Nat) (hr : ∀ e ∈ shelf, rank e.2.2 < rank e.1) (hl : ∀ e ∈ shelf, e.2.1.length ≤ 1000) (hsz : shelf.length ≤ 1000000) :
    ∀ (n : Nat) (top : Str), rank top < n → FnR C (4 + n) "_law_read" [shelfD shelf, .str top] (readD n shelf top) := by
  intro n
  induction n with
  | zero => exact fun top h => absurd h (Nat.not_lt_zero _)
  | succ n ih =>
    intro top h
    show FnR C ((4 + n) + 1) _ _ _
    have hrd : readD (n + 1) shelf top = .list ((shelf.filter fun e => decide (e.1 = top)).map fun e => .list [.str (replW (capW e.2.1)), readD n shelf e.2.2]) := by rw [readD]
    rw [hrd]
    refine fn_intro (k := 4 + n) (names := ["shelf", "top"]) (ρ := [("shelf", .cel (shelfD shelf)), ("top", .cel (.str top))]) N.read (by intro _ _ _ vs h; match vs, h with | [v, w], _ => rfl) rfl (by decide) (by decide +kernel) (by decide +kernel) ⟨⟨rfl, rfl⟩, ⟨rfl, rfl⟩, trivial⟩ ?_
    generalize hrs : ((shelf.filter fun e => decide (e.1 = top)).map fun e => PyData.list [.str (replW (capW e.2.1)), readD n shelf e.2.2]) = rs
    have hrl : rs.length ≤ 1000000 := by
      have := List.length_filter_le (fun e : Str × Str × Str => decide (e.1 = top)) shelf
      rw [← hrs, List.length_map]; omega
    refine ex_ret (st_return ?_)
    refine ev_comp (ds := shelf.map fun e => .list [.str e.1, .str e.2.1, .str e.2.2]) [("above", .unl), ("name", .unl), ("place", .unl), ("shelf", .cel (shelfD shelf)), ("top", .cel (.str top)), ("capwords", .glo), ("_law_read", .glo)] (it_list (ev_cel (d := shelfD shelf) (by walk_at "mem"))) ⟨rfl, rfl, rfl, ⟨rfl, by walk_at "mem"⟩, ⟨rfl, by walk_at "mem"⟩, rfl, rfl, trivial⟩ ⟨⟨_, by walk_at "mem"⟩, ⟨_, by walk_at "mem"⟩, trivial⟩ ?_ hrl
    subst hrs
    refine comp_map shelf fun e he => ?_
    obtain ⟨a, b, c⟩ := e
    have hset : CSets [("above", .unl), ("name", .unl), ("place", .unl), ("shelf", .cel (shelfD shelf)), ("top", .cel (.str top)), ("capwords", .glo), ("_law_read", .glo)] ["above", "name", "place"] [.str a, .str b, .str c] [("above", .loc (.str a)), ("name", .loc (.str b)), ("place", .loc (.str c)), ("shelf", .cel (shelfD shelf)), ("top", .cel (.str top)), ("capwords", .glo), ("_law_read", .glo)] :=
      .cons (ρ1 := [("above", .loc (.str a)), ("name", .unl), ("place", .unl), ("shelf", .cel (shelfD shelf)), ("top", .cel (.str top)), ("capwords", .glo), ("_law_read", .glo)]) (by walk_at "cset") (.cons (ρ1 := [("above", .loc (.str a)), ("name", .loc (.str b)), ("place", .unl), ("shelf", .cel (shelfD shelf)), ("top", .cel (.str top)), ("capwords", .glo), ("_law_read", .glo)]) (by walk_at "cset") (.cons (by walk_at "cset") (.nil _)))
    refine ⟨_, casg_list (xs := [("above", _), ("name", _), ("place", _)]) hset rfl, CSets.back hset, tests_one (te_cmp (ev_loc (by walk_at "mem")) (ev_cel (by walk_at "mem")) cmp_eq_str), fun ht => ?_⟩
    have ht : a = top := of_decide_eq_true ht
    have hr1 := hr _ he
    simp only at hr1
    refine ev_list (evs_cons (ev_title (by walk_at "mem") (ev_loc (by walk_at "mem")) ((fn_capwords (k := 0) N D b (hl _ he)).more (by omega)) (hl _ he)) (evs_cons (ev_call (by walk_at "mem") (evs_cons (ev_cel (by walk_at "mem")) (evs_cons (ev_loc (by walk_at "mem")) evs_nil)) (ih c (by subst ht; omega))) evs_nil)) (by simp)
end
end
section
set_option Elab.async false
set_option maxRecDepth 100000
set_option maxHeartbeats 4000000

theorem owner_seti : Manifest.owners.lookup (String.ofList ['r', 'o', 't', 'a', 'r', 'e', 't', 'i', '_', 't', 'e', 's'].reverse) = some Manifest.sig_set_iterator := by kernel_rfl
theorem slot_seti_iter : Slot "set_iterator" "__iter__" "set_iterator.__iter__" :=
  .of (owner := "set_iterator") (n := "__iter__") (by rw [typeLookup_type, builtinLookup_eq_fast]; kernel_rfl) (by decide +kernel) (by decide +kernel) (by decide +kernel)
    (by first | exact .inl (by decide +kernel) | exact .inr (by decide +kernel)) (by rw [isSubtype_type]; kernel_rfl)
theorem slot_seti_next : Slot "set_iterator" "__next__" "set_iterator.__next__" :=
  .of (owner := "set_iterator") (n := "__next__") (by rw [typeLookup_type, builtinLookup_eq_fast]; kernel_rfl) (by decide +kernel) (by decide +kernel) (by decide +kernel)
    (by first | exact .inl (by decide +kernel) | exact .inr (by decide +kernel)) (by rw [isSubtype_type]; kernel_rfl)
theorem entry_seti_next : entryFor table "set_iterator.__next__" = some Builtin.«set_iterator.__next__» := entryFor_of_tree (by kernel_rfl)
theorem args_seti_next (a : Value) : argsOk "set_iterator.__next__" ⟨[a], []⟩ := by
  unfold argsOk; rw [signature?_of (id := "set_iterator.__next__") (n := ['_', '_', 't', 'x', 'e', 'n', '_', '_']) (o := ['r', 'o', 't', 'a', 'r', 'e', 't', 'i', '_', 't', 'e', 's']) (by kernel_rfl) owner_seti]; kernel_rfl
theorem entry_set_iter' : entryFor table "set.__iter__" = some Builtin.«frozenset.__iter__» :=
  entryFor_alias (id' := "frozenset.__iter__") (by kernel_rfl) rfl (by decide +kernel) (by kernel_rfl)

noncomputable def tT (led : Bool) : SetTable := { mask := 7, place := #[1], dummies := #[], finger := 0, led, moves := 0, plain := true }
noncomputable def setE (led : Bool) : Obj := { cls := .type "set", dict := none, data := .set #[] 0 (.fresh 0 0 led) }
noncomputable def setT (led : Bool) (ep : Nat) : Obj := { cls := .type "set", dict := none, data := .set #[(1, .bool true)] ep (tT led) }
theorem lay1 (led : Bool) : layNew (.fresh 0 0 led) #[] 1 (.bool true) = (#[(1, .bool true)], tT led, false, false) := by cases led <;> rfl

end
section
set_option Elab.async false
set_option maxRecDepth 100000
set_option maxHeartbeats 4000000
section
variable {prog : Program} {w : World} {A : Around} {E : Value → Shared → Prop} {s : Shared}

theorem hash_true {Q : Int → Shared → Prop} (hu : A.units < cLine) (h : Q 1 { s with toks := s.toks + 1 }) : wpAny (model prog w) A (pyHash (.bool true)) Q E s := by
  show wpAny _ _ (pyHashByItsType (.bool true)) _ _ _
  refine PySem.W.pyHash_slot (T := "bool") rfl F.slot_bool_hash entry_int_hash (args_int_hash _) (by decide +kernel) (.inr hu) ?_
  exact (show wpAny _ _ (do ret (← mkInt 1)) _ _ s from wpAny_bind (wpAny_mkInt (wpAny_pure ⟨_, _, rfl, h⟩)))

theorem set_add_of {D : Addr} {Q : Value → Shared → Prop} (hu : A.units + 5 < cLine) (hT : s.TypeIs (.ref D) "set")
    (h : wpAny (model prog w) A.in1 (setAddHashed D (.bool true) 1) (fun _ s' => Q .none s') E { s with toks := s.toks + 1 }) : wpAny (model prog w) A (call (.builtin "set.add") [.ref D, .bool true]) Q E s := by
  refine wpAny_call_entry F.slot_set_add hT F.entry_set_add ?_ (F.args_set_add_2 _ _)
  unfold Builtin.«set.add» Builtin.Frozenset.oneOther
  simp only [List.isEmpty_nil, bind_assoc]
  unfold Builtin.Frozenset.addrOf setAdd
  refine wpAny_bind (wpAny_pure (wpAny_bind (wpAny_pure (wpAny_bind (wpAny_holding (wpAny_bind (hash_true (by show A.units + 1 < cLine; omega) ?_)))))))
  refine wpAny_mono h (fun _ s' hq => ?_) fun _ _ e => e
  exact wpAny_pure ⟨_, rfl, hq⟩

theorem put1 (led : Bool) : ∃ ep, Obj.putSet #[(1, .bool true)] (tT led) (setE led) = setT led ep := ⟨_, rfl⟩
theorem set_add_E {D : Addr} {led : Bool} {Q : Value → Shared → Prop} (hu : A.units + 5 < cLine) (hD : s.heap.get? D = some (setE led))
    (h : ∀ h' tk ep, s.toks ≤ tk → Heap.SameBut D s.heap h' → h'.get? D = some (setT led ep) → Q .none { s with heap := h', toks := tk }) : wpAny (model prog w) A (call (.builtin "set.add") [.ref D, .bool true]) Q E s := by
  refine set_add_of hu ⟨_, hD, rfl⟩ ?_
  unfold setAddHashed setAddHashedIn
  refine wpAny_holding (wpAny_bind (wpAny_setState_of (s := { s with toks := s.toks + 1 }) hD rfl rfl ?_))
  dsimp only
  rw [if_pos (show byScan (.bool true) #[] = true by decide +kernel)]
  unfold setAddByScan
  refine wpAny_bind (wpAny_bind (wpAny_rule (wpAny_bind (wpAny_pure ?_))))
  dsimp only
  rw [lay1]
  dsimp only
  refine wpAny_bind (wpAny_pure ?_)
  obtain ⟨ep, hput⟩ := put1 led
  have hs := Heap.SameBut.update s.heap D (Obj.putSet #[(1, .bool true)] (tT led))
  have hg : (s.heap.update D (Obj.putSet #[(1, .bool true)] (tT led))).get? D = some (setT led ep) := by
    rw [← hput]; exact Heap.get?_update_self _ hD rfl
  rw [if_pos (show (tT led).plain = true from rfl)]
  refine wpAny_bind (wpAny_pure ?_)
  rw [if_pos rfl]
  refine wpAny_bind (wpAny_storeSet_of (s := { s with toks := s.toks + 1 }) hD rfl ?_ (by decide))
  rw [if_neg (by cases led <;> decide)]
  exact wpAny_pure (wpAny_pure (h _ _ ep (Nat.le_succ _) hs hg))

theorem set_add_T {D : Addr} {led : Bool} {ep : Nat} {Q : Value → Shared → Prop} (hu : A.units + 5 < cLine) (hD : s.heap.get? D = some (setT led ep))
    (h : Q .none { s with toks := s.toks + 1 }) : wpAny (model prog w) A (call (.builtin "set.add") [.ref D, .bool true]) Q E s := by
  refine set_add_of hu ⟨_, hD, rfl⟩ ?_
  unfold setAddHashed setAddHashedIn
  refine wpAny_holding (wpAny_bind (wpAny_setState_of (s := { s with toks := s.toks + 1 }) hD rfl rfl ?_))
  dsimp only
  rw [if_pos (show byScan (.bool true) #[(1, .bool true)] = true by decide +kernel)]
  unfold setAddByScan
  refine wpAny_bind (wpAny_bind (wpAny_rule (wpAny_bind ?_)))
  show wpAny _ _ (setScanFrom D (.bool true) 1 true [(1, .bool true)] 0) _ _ _
  unfold setScanFrom
  rw [if_pos (by decide)]
  refine wpAny_bind (wpAny_setEpoch_of (s := { s with toks := s.toks + 1 }) hD rfl rfl (wpAny_bind ?_))
  unfold eqBool
  refine wpAny_holding ?_
  rw [if_pos (by decide)]
  refine wpAny_bind (wpAny_rule (wpAny_pure ?_))
  rw [if_pos (by rfl)]
  exact wpAny_pure (wpAny_pure (wpAny_pure h))
end

/-- is a set in this world led by the table -/
noncomputable def ledOf (C : Cx) : Bool := !(C.w.params.followText "set-order")
section
variable {C : Cx}
theorem new_set {A : Around} {s : Shared} {Q : Value → Shared → Prop} {E : Value → Shared → Prop} (h : Q (.ref s.heap.objs.size) { s with heap := s.heap.push (setE (ledOf C)) }) : wpAny C.M A (newSet (.type "set")) Q E s := by
  unfold newSet setsByText
  refine wpAny_bind (wpAny_bind (wpAny_askSetting (wpAny_pure ?_)))
  dsimp only
  exact wpAny_newObj_type h

theorem by_text {A : Around} {s : Shared} {Q : Bool → Shared → Prop} {E : Value → Shared → Prop} (h : Q (!ledOf C) s) : wpAny C.M A setsByText Q E s := by
  unfold setsByText
  refine wpAny_bind (wpAny_askSetting (wpAny_pure ?_))
  have : (!ledOf C) = C.w.params.followText "set-order" := by unfold ledOf; simp
  rw [this] at h; exact h

noncomputable def IsSetIt (h : Heap) (I D : Addr) (first : Value) (i : Int) (ep : Nat) : Prop := h.get? I = some { cls := .type "set_iterator", dict := none, data := .fields #[first, rawInt i, .ref D, rawInt 1, rawInt ep], slots := #[] }

theorem iter_set {A : Around} {s : Shared} {D : Addr} {ep : Nat} {Q : Value → Shared → Prop} {E : Value → Shared → Prop} (hD : s.heap.get? D = some (setT (ledOf C) ep))
    (h : ∀ h', h' = s.heap.push { cls := .type "set_iterator", dict := none, data := .fields #[rawInt 0, rawInt 0, .ref D, rawInt 1, rawInt ep], slots := #[] } → Q (.ref s.heap.objs.size) { s with heap := h' }) : wpAny C.M A (pyIter (.ref D)) Q E s := by
  have hT : s.TypeIs (.ref D) "set" := ⟨_, hD, rfl⟩
  refine wpAny_pyIter_slot hT F.slot_set_iter (wpAny_call_entry F.slot_set_iter hT entry_set_iter' ?_ (F.args_set_iter_1 _))
  unfold Builtin.«frozenset.__iter__»
  refine wpAny_bind (wpAny_of_eq (a := D) rfl ?_)
  unfold Builtin.Frozenset.sizeOf setEntries
  refine wpAny_bind (wpAny_bind (wpAny_bind (wpAny_setState_of hD rfl rfl (wpAny_pure (wpAny_pure ?_)))))
  unfold setDrawn
  refine wpAny_bind (wpAny_bind (wpAny_setState_of hD rfl rfl (wpAny_bind (by_text (wpAny_pure ?_)))))
  rw [if_neg (by cases ledOf C <;> decide)]
  refine wpAny_bind (wpAny_pure ?_)
  refine wpAny_bind (wpAny_setEpoch_of hD rfl rfl (wpAny_bind (wpAny_newObj_type (wpAny_pure ⟨_, rfl, "set_iterator", _, ⟨_, Heap.get?_push_size _ rfl, rfl⟩, slot_seti_next.lookup, h _ rfl⟩))))

theorem set_next {A : Around} {s : Shared} {D : Addr} {ep : Nat} {Q : Option (Value × Nat) → Shared → Prop} {E : Value → Shared → Prop} (hD : s.heap.get? D = some (setT (ledOf C) ep)) (h : Q (some (.bool true, if ledOf C then 2 else 0)) s) : wpAny C.M A (setNext D 0 0 ep) Q E s := by
  unfold setNext
  refine wpAny_bind (wpAny_setState_of hD rfl rfl (wpAny_bind (by_text ?_)))
  cases hl : ledOf C with
  | false =>
    rw [hl] at h hD
    rw [if_pos (by rfl)]
    dsimp only
    rw [if_neg (by simp)]
    refine wpAny_bind ?_
    unfold setWalk
    refine wpAny_bind (wpAny_setState_of hD rfl rfl (wpAny_bind (by_text ?_)))
    rw [hl, if_pos (by rfl)]
    refine wpAny_bind (wpAny_askSetting (wpAny_pure (wpAny_pure ?_)))
    have e : pickOrder (C.M.w.params.setOrder D ep) (#[(1, .bool true)] : Array (Int × Value)) = #[(1, .bool true)] := by
      unfold pickOrder
      simp [pickOrder.go, Nat.mod_one]
    rw [e]; exact h
  | true =>
    rw [hl] at h
    rw [if_neg (by simp)]
    dsimp only
    rw [if_neg (by decide)]
    refine wpAny_bind (wpAny_pure (wpAny_pure ?_))
    exact h
theorem set_next_end {A : Around} {s : Shared} {D : Addr} {ep : Nat} {Q : Option (Value × Nat) → Shared → Prop} {E : Value → Shared → Prop} (hD : s.heap.get? D = some (setT (ledOf C) ep)) (h : Q none s) : wpAny C.M A (setNext D (if ledOf C then 2 else 0) 1 ep) Q E s := by
  unfold setNext
  refine wpAny_bind (wpAny_setState_of hD rfl rfl (wpAny_bind (by_text ?_)))
  cases hl : ledOf C with
  | false =>
    rw [hl] at hD
    rw [if_pos (by rfl)]
    dsimp only
    rw [if_neg (by simp)]
    refine wpAny_bind ?_
    unfold setWalk
    refine wpAny_bind (wpAny_setState_of hD rfl rfl (wpAny_bind (by_text ?_)))
    rw [hl, if_pos (by rfl)]
    refine wpAny_bind (wpAny_askSetting (wpAny_pure (wpAny_pure ?_)))
    have e : pickOrder (C.M.w.params.setOrder D ep) (#[(1, .bool true)] : Array (Int × Value)) = #[(1, .bool true)] := by
      unfold pickOrder
      simp [pickOrder.go, Nat.mod_one]
    rw [e]; exact h
  | true =>
    rw [if_neg (by simp)]
    dsimp only
    rw [if_neg (by decide)]
    refine wpAny_bind (wpAny_pure (wpAny_pure ?_))
    exact h

theorem seti_next {A : Around} {s : Shared} {I D : Addr} {ep : Nat} {Q : Option Value → Shared → Prop} {E : Value → Shared → Prop} (hne : I ≠ D) (hI : IsSetIt s.heap I D (rawInt 0) 0 ep) (hD : s.heap.get? D = some (setT (ledOf C) ep))
    (h : ∀ h', Heap.ExtBut I s.heap h' → IsSetIt h' I D (rawInt ((if ledOf C then 2 else 0 : Nat) : Int)) 1 ep → Q (some (.bool true)) { s with heap := h' }) : wpAny C.M A (pyNext (.ref I)) Q E s := by
  have hT : s.TypeIs (.ref I) "set_iterator" := ⟨_, hI, rfl⟩
  unfold pyNext
  refine wpAny_bind (wpAny_attempt (wpAny_callSpecial?_slot (name := Str.ofString "__next__") hT slot_seti_next (wpAny_call_entry slot_seti_next hT entry_seti_next ?_ (args_seti_next _))))
  show wpAny _ _ (fieldsOf (.ref I) >>= _) _ _ _
  refine wpAny_bind (wpAny_fieldsOf hI rfl ?_)
  dsimp only [rawInt]
  unfold setEntries
  refine wpAny_bind (wpAny_bind (wpAny_setState_of hD rfl rfl (wpAny_pure ?_)))
  rw [if_neg (by simp)]
  refine wpAny_bind (set_next hD ?_)
  dsimp only
  refine wpAny_bind (wpAny_setField_rec hI (by simp) fun h1 hI1 hs1 => ?_)
  refine wpAny_bind (wpAny_setField_rec hI1 (by simp) fun h2 hI2 hs2 => ?_)
  exact wpAny_pure ⟨_, rfl, wpAny_pure (h h2 (fun b o hb e => hs2.extBut b o hb (hs1.extBut b o hb e)) hI2)⟩

theorem seti_end {A : Around} {s : Shared} {I D : Addr} {ep : Nat} {Q : Option Value → Shared → Prop} {E : Value → Shared → Prop} (hh : A.handled = none) (hI : IsSetIt s.heap I D (rawInt ((if ledOf C then 2 else 0 : Nat) : Int)) 1 ep) (hD : s.heap.get? D = some (setT (ledOf C) ep))
    (h : ∀ h', Heap.ExtBut I s.heap h' → Q none { s with heap := h' }) : wpAny C.M A (pyNext (.ref I)) Q E s := by
  have hT : s.TypeIs (.ref I) "set_iterator" := ⟨_, hI, rfl⟩
  unfold pyNext
  refine wpAny_bind (wpAny_attempt (wpAny_callSpecial?_slot (name := Str.ofString "__next__") hT slot_seti_next (wpAny_call_entry slot_seti_next hT entry_seti_next ?_ (args_seti_next _))))
  show wpAny _ _ (fieldsOf (.ref I) >>= _) _ _ _
  refine wpAny_bind (wpAny_fieldsOf hI rfl ?_)
  dsimp only [rawInt]
  unfold setEntries
  refine wpAny_bind (wpAny_bind (wpAny_setState_of hD rfl rfl (wpAny_pure ?_)))
  rw [if_neg (by simp)]
  refine wpAny_bind ?_
  rw [Int.toNat_natCast]
  refine set_next_end hD ?_
  dsimp only
  refine wpAny_bind (wpAny_setField_rec hI (by simp) fun h1 hI1 hs1 => ?_)
  refine wpAny_bind ?_
  simp only [newExc, newTuple]
  refine wpAny_bind (wpAny_newObj_type ?_ (by size_fits))
  refine wpAny_bind (m := firstArgMember _ _) (wpAny_of_eq (a := Value.none) (by first | rfl | (simp only [firstArgMember]; rfl)) ?_)
  refine wpAny_newObj_type ?_ (by size_fits)
  simp only [raiseNew]
  refine wpAny_bind (wpAny_handled ?_)
  first | rw [show A.in1.handled = none from hh] | rw [hh]
  refine wpAny_bind (wpAny_pure (wpAny_throw ?_))
  refine wpAny_bind (wpAny_isInstance (T := "StopIteration") (b := true) ⟨_, Heap.get?_push_size _ rfl, rfl⟩ isSubtype_stop ?_)
  exact wpAny_pure (h _ ((hs1.extBut.push _).push _))

/-- one name set from a set that holds True alone -/
theorem assign_set {A : Around} {s : Shared} {D : Addr} {ep : Nat} {env : Env} {x : Str} {xp tp : Pos} {n : Nat} {Q : Unit → Shared → Prop} {E : Value → Shared → Prop} (hh : A.handled = none) (hD : s.heap.get? D = some (setT (ledOf C) ep))
    (h : ∀ h', (∀ b o, s.heap.get? b = some o → h'.get? b = some o) → wpAny C.M A (storeName env x (.bool true)) Q E { s with heap := h' }) : wpAny C.M A (assign (.Tuple [.Name x xp] n tp) env (.ref D)) Q E s := by
  rw [arm_assign_Tuple]
  refine wpAny_bind (wpAny_standAt ?_)
  show wpAny _ _ (unpack (.ref D) [(false, assign (.Name x xp) env)]) _ _ _
  unfold unpack
  refine wpAny_bind (wpAny_holding ?_)
  show wpAny _ _ (unpackItems (.ref D) 1 none) _ _ _
  unfold unpackItems
  have hT : s.TypeIs (.ref D) "set" := ⟨_, hD, rfl⟩
  refine wpAny_bind ?_
  unfold notIterableAtAll
  refine wpAny_bind (wpAny_specialOf hT F.slot_set_iter.lookup ?_)
  refine wpAny_pure ?_
  simp only [Bool.false_eq_true, if_false]
  refine wpAny_bind (wpAny_holding (iter_set hD fun h1 hh1 => ?_))
  generalize hI : s.heap.objs.size = I
  have hID : I ≠ D := hI ▸ Nat.ne_of_gt (Heap.lt_size hD)
  have g1 : ∀ b o, s.heap.get? b = some o → h1.get? b = some o := fun b o e => by rw [hh1]; exact Heap.get?_push_of_some _ e
  have hI1 : IsSetIt h1 I D (rawInt 0) 0 ep := by rw [hh1, ← hI]; exact Heap.get?_push_size _ rfl
  have hlt : ∀ b o, s.heap.get? b = some o → b ≠ I := fun b o e => hI ▸ Nat.ne_of_lt (Heap.lt_size e)
  refine wpAny_bind (wpAny_holding ?_)
  show wpAny _ _ (pyNext (.ref I) >>= _) _ _ _
  refine wpAny_bind (seti_next (s := { s with heap := h1 }) hID hI1 (g1 _ _ hD) fun h2 k2 hI2 => ?_)
  refine wpAny_bind (wpAny_holding ?_)
  refine wpAny_pure (wpAny_pure ?_)
  rw [if_neg (by simp)]
  refine wpAny_bind (wpAny_holding (seti_end (s := { s with heap := h2 }) hh hI2 (k2 _ _ (hlt _ _ hD) (g1 _ _ hD)) fun h3 k3 => ?_))
  simp only [Option.isSome_none, Bool.false_eq_true, if_false]
  refine wpAny_pure ?_
  show wpAny _ _ (do holding [] (assign (.Name x xp) env (.bool true)); assignInOrder [] []) _ _ _
  refine wpAny_bind (wpAny_holding (assign_Name (wpAny_mono (h h3 fun b o e => k3 b o (hlt b o e) (k2 b o (hlt b o e) (g1 b o e))) (fun _ s' q => ?_) fun _ _ e => e)))
  exact wpAny_pure q
end
end
section
set_option Elab.async false
set_option maxRecDepth 100000
set_option maxHeartbeats 4000000

noncomputable def AccS (led : Bool) (h : Heap) (D : Addr) (done : List PyData) : Prop := (done = [] ∧ h.get? D = some (setE led)) ∨ (done ≠ [] ∧ ∃ ep, h.get? D = some (setT led ep))
theorem AccS.move {led : Bool} {Y : Addr → Prop} {h h' : Heap} {D : Addr} {done : List PyData} (a : AccS led h D done) (_ : ∀ b o (vs : Array Value) n, ¬ Y b → o.data = .seq vs n → h.get? b = some o → h'.get? b = some o) (hD : ∀ o, h.get? D = some o → h'.get? D = some o) : AccS led h' D done := by
  rcases a with ⟨e, q⟩ | ⟨e, ep, q⟩
  · exact .inl ⟨e, hD _ q⟩
  · exact .inr ⟨e, ep, hD _ q⟩
theorem AccS.live {led : Bool} {h : Heap} {D : Addr} {done : List PyData} (a : AccS led h D done) : ∃ o, h.get? D = some o := by
  rcases a with ⟨e, q⟩ | ⟨e, ep, q⟩ <;> exact ⟨_, q⟩
noncomputable def EmitS (C : Cx) (k : Nat) (emit : Value → Env → Sem Unit) (ρ1 : Rho) (rs : List PyData) : Prop :=
  ∀ Y A cenv s D done, Ok C Y k A s → Y D → D ≠ cenv.locals → C.hb.get? D = none → C.hb.get? cenv.locals = none → AccS (ledOf C) s.heap D done → (∃ m, s.heap.Ns cenv.locals m) → Sees Y cenv s.heap ρ1 → done.length + rs.length ≤ 1000000 → ∀ (Q : Unit → Shared → Prop) (E : Value → Shared → Prop),
    (∀ h' tk, AccS (ledOf C) h' D (done ++ rs) → (∃ m, h'.Ns cenv.locals m) → Sees Y cenv h' ρ1 → (∀ b o, b ≠ D → b ≠ cenv.locals → s.heap.get? b = some o → h'.get? b = some o) → Q () { s with heap := h', toks := tk }) →
    wpAny C.M A (emit (.ref D) cenv) Q E s
inductive CompS (C : Cx) (k : Nat) (tgt : Expr) (ρc : Rho) (ifs : List Expr) (emit : Value → Env → Sem Unit) : List PyData → List PyData → Prop
  | nil : CompS C k tgt ρc ifs emit [] []
  | skip {d ρ1 ds rs} : CAsgR C k tgt d ρc ρ1 → Back ρ1 ρc → TestsR C k ρ1 ifs false → CompS C k tgt ρc ifs emit ds rs → CompS C k tgt ρc ifs emit (d :: ds) rs
  | take {d ρ1 ds r1 rs} : CAsgR C k tgt d ρc ρ1 → Back ρ1 ρc → TestsR C k ρ1 ifs true → EmitS C k emit ρ1 r1 → CompS C k tgt ρc ifs emit ds rs → CompS C k tgt ρc ifs emit (d :: ds) (r1 ++ rs)
section
variable {C : Cx} {k : Nat} {ρ : Rho}
theorem comp_loopS {e : Expr} {depth : Nat} {tgt iter : Expr} {ifs : List Expr} {emit : Value → Env → Sem Unit} {Y : Addr → Prop} {A : Around} {cenv : Env} {I : Addr} {fp wr : List Addr} {D : Addr} {G : Heap → Prop} {St : Nat → Heap → Prop} {ρc : Rho} {ds : List PyData}
    (hturn : compTurn e depth (.ref I) (.ref D) cenv = turnT tgt iter ifs (emit (.ref D) cenv) (.compLoop e depth (.ref I) (.ref D) cenv) (.ref I) cenv) (hfr : (Code.compLoop e depth (.ref I) (.ref D) cenv).isFrame = false) (hu : A.under (Code.compLoop e depth (.ref I) (.ref D) cenv) = A)
    (it : It C Y A I tgt fp wr ds G St) (hYwr : ∀ b ∈ wr, Y b) (hYD : Y D) (hDf : D ∉ fp) (hCf : cenv.locals ∉ fp) (hDC : D ≠ cenv.locals) (hcl : ∀ x d c, (x, Bd.cel d) ∈ ρc → cenv.cells.lookup x = some c → c ∉ fp) (s₄ : Shared) (R : Result → Shared → Prop) (hb0 : ∀ b o, C.hb.get? b = some o → b ≠ D ∧ b ≠ cenv.locals ∧ b ∉ wr) :
    ∀ (dsr rs : List PyData), CompS C k tgt ρc ifs emit dsr rs → ∀ (i : Nat) (done : List PyData) (s : Shared), ds.drop i = dsr → i ≤ ds.length → Ok C Y k A s → St i s.heap → G s.heap → AccS (ledOf C) s.heap D done → (∃ m, s.heap.Ns cenv.locals m) → Sees Y cenv s.heap ρc → done.length + rs.length ≤ 1000000 →
      (∃ h' tk, s = { s₄ with heap := h', toks := tk } ∧ ∀ b o, b ≠ D → b ≠ cenv.locals → b ∉ wr → s₄.heap.get? b = some o → h'.get? b = some o) →
      (∀ h' tk, AccS (ledOf C) h' D (done ++ rs) → (∃ m, h'.Ns cenv.locals m) → Sees Y cenv h' ρc → (∀ b o, b ≠ D → b ≠ cenv.locals → b ∉ wr → s₄.heap.get? b = some o → h'.get? b = some o) → R (.ok .next) { s₄ with heap := h', toks := tk }) →
      codeAny C.M A (.compLoop e depth (.ref I) (.ref D) cenv) R s := by
  intro dsr rs hc
  have hwD : D ∉ wr := fun q => hDf (it.sub _ q)
  have hwC : cenv.locals ∉ wr := fun q => hCf (it.sub _ q)
  -- one turn's head
  have head : ∀ (d : PyData) (ds'' : List PyData) (ρ1 : Rho) (i : Nat) (done : List PyData) (s : Shared) (ok : Bool), CAsgR C k tgt d ρc ρ1 → TestsR C k ρ1 ifs ok → ds.drop i = d :: ds'' → Ok C Y k A s → St i s.heap → G s.heap → AccS (ledOf C) s.heap D done → (∃ m, s.heap.Ns cenv.locals m) → Sees Y cenv s.heap ρc →
      (∃ h' tk, s = ({ s₄ with heap := h', toks := tk } : Shared) ∧ ∀ b o, b ≠ D → b ≠ cenv.locals → b ∉ wr → s₄.heap.get? b = some o → h'.get? b = some o) →
      (∀ s3, Ok C Y k A s3 → St (i + 1) s3.heap → G s3.heap → AccS (ledOf C) s3.heap D done → (∃ m, s3.heap.Ns cenv.locals m) → Sees Y cenv s3.heap ρ1 → (∃ h' tk, s3 = ({ s₄ with heap := h', toks := tk } : Shared) ∧ ∀ b o, b ≠ D → b ≠ cenv.locals → b ∉ wr → s₄.heap.get? b = some o → h'.get? b = some o) →
        if ok = true then wpAny C.M A (emit (.ref D) cenv) (fun _ s₄ => codeAny C.M A (.compLoop e depth (.ref I) (.ref D) cenv) R s₄) (notedBy C.M A cenv fun e s' => R (.error e) s') s3 else codeAny C.M A (.compLoop e depth (.ref I) (.ref D) cenv) R s3) →
      codeAny C.M A (.compLoop e depth (.ref I) (.ref D) cenv) R s := by
    intro d ds'' ρ1 i done s ok ha ht hd O st g acc hn S kk hb
    have hdi : ds[i]? = some d := by have := congrArg List.head? hd; simpa [List.head?_drop] using this
    refine comp_step hturn hfr hu (it.item i d s _ _ hdi st g O.xb fun v s1' hgo => hgo _ _ fun h1 tk1 st1 rv kw => ?_)
    obtain ⟨h', tk, rfl, kk⟩ := kk
    have sq : ∀ b ob (vs : Array Value) n, ¬ Y b → ob.data = .seq vs n → h'.get? b = some ob → h1.get? b = some ob := fun b ob vs n hy _ e => kw b ob (fun q => hy (hYwr b q)) e
    have O1 : Ok C Y k A { s₄ with heap := h1, toks := tk1 } := ⟨O.hd, O.dp, O.un, fun b o e => kw b o (hb0 b o e).2.2 (O.base b o e), fun b hb => by
      by_cases q : b ∈ wr
      · exact it.live _ _ st1 b q
      · obtain ⟨o, e⟩ := O.xb b hb; exact ⟨o, kw b o q e⟩⟩
    have hn1 : ∃ m, h1.Ns cenv.locals m := let ⟨m, x⟩ := hn; ⟨m, x.at' fun o e => kw _ o hwC e⟩
    have acc1 : AccS (ledOf C) h1 D done := acc.move sq fun o e => kw _ o hwD e
    have S1 := S.move3 sq (fun o e => kw _ o hwC e) fun x d c hm hl o e => kw c o (fun q => hcl x d c hm hl (it.sub _ q)) e
    refine ha Y A cenv { s₄ with heap := h1, toks := tk1 } v O1 hn1 S1 rv _ _ fun h2 tk2 hn2 S2 k2 => ?_
    have sq2 : ∀ b ob (vs : Array Value) n, ¬ Y b → ob.data = .seq vs n → h1.get? b = some ob → h2.get? b = some ob := fun b ob vs n _ hd e => k2 b ob (fun q => by
      obtain ⟨m, o', es, ep, ho', hd', _⟩ := hn1
      subst q; rw [e] at ho'; cases ho'; rw [hd] at hd'; cases hd') e
    have O2 : Ok C Y k A { s₄ with heap := h2, toks := tk2 } := ⟨O.hd, O.dp, O.un, fun b o e => k2 b o (hb0 b o e).2.1 (O1.base b o e), fun b hb => by
      by_cases q : b = cenv.locals
      · obtain ⟨m, o', es, ep, ho', _⟩ := hn2; exact ⟨o', q ▸ ho'⟩
      · obtain ⟨o, e⟩ := O1.xb b hb; exact ⟨o, k2 b o q e⟩⟩
    have st2 : St (i + 1) h2 := it.frame _ _ _ st1 fun b hb o e => k2 b o (fun q => hCf (q ▸ hb)) e
    have g2 : G h2 := it.good _ _ (it.good _ _ g sq) sq2
    have acc2 : AccS (ledOf C) h2 D done := acc1.move sq2 fun o e => k2 _ o hDC e
    refine ht Y A cenv { s₄ with heap := h2, toks := tk2 } O2 S2 _ _ fun s3 k3 => ?_
    have O3 := O2.keeps k3
    obtain ⟨⟨h3, tk3, rfl, g3⟩, _⟩ := k3
    exact hb _ O3 (it.frame _ _ _ st2 fun b _ o e => g3 b o e) (it.good _ _ g2 fun b o vs n _ _ e => g3 b o e) (acc2.move (Y := Y) (fun b o vs n _ _ e => g3 b o e) fun o e => g3 _ o e) (let ⟨m, x⟩ := hn2; ⟨m, x.keeps g3⟩) (S2.grow g3)
      ⟨h3, tk3, rfl, fun b o b1 b2 b3 e => g3 b o (k2 b o b2 (kw b o b3 (kk b o b1 b2 b3 e)))⟩
  induction hc with
  | nil =>
    intro i done s hd hle O st g acc hn S hsz kk hR
    have hi : ds.length ≤ i := by simpa using hd
    have : i = ds.length := Nat.le_antisymm hle hi
    subst this
    refine comp_step hturn hfr hu (it.done s _ _ st fun h1 tk1 kw => ?_)
    obtain ⟨h', tk, rfl, kk⟩ := kk
    have sq : ∀ b ob (vs : Array Value) n, ¬ Y b → ob.data = .seq vs n → h'.get? b = some ob → h1.get? b = some ob := fun b ob vs n hy _ e => kw b ob (fun q => hy (hYwr b q)) e
    refine hR h1 tk1 ?_ (let ⟨m, x⟩ := hn; ⟨m, x.at' fun o e => kw _ o hwC e⟩) (S.move3 sq (fun o e => kw _ o hwC e) fun x d c hm hl o e => kw c o (fun q => hcl x d c hm hl (it.sub _ q)) e) fun b o b1 b2 b3 e => kw b o b3 (kk b o b1 b2 b3 e)
    rw [List.append_nil]
    exact acc.move sq fun o e => kw _ o hwD e
  | skip ha hback ht _ ih =>
    intro i done s hd hle O st g acc hn S hsz kk hR
    refine head _ _ _ i done s false ha ht hd O st g acc hn S kk fun s3 O3 st3 g3 acc3 hn3 S3 kk3 => ?_
    rw [if_neg Bool.false_ne_true]
    exact ih (i + 1) done s3 (by rw [← List.tail_drop, hd]; rfl) (by have := congrArg List.length hd; simp at this; omega) O3 st3 g3 acc3 hn3 (hback _ _ _ S3) hsz kk3 hR
  | take ha hback ht he _ ih =>
    intro i done s hd hle O st g acc hn S hsz kk hR
    refine head _ _ _ i done s true ha ht hd O st g acc hn S kk fun s3 O3 st3 g3 acc3 hn3 S3 kk3 => ?_
    rw [if_pos rfl]
    rw [List.length_append] at hsz
    have nb : ∀ b, (∀ o, C.hb.get? b = some o → False) → C.hb.get? b = none := fun b h => by
      cases q : C.hb.get? b with
      | none => rfl
      | some o => exact (h o q).elim
    refine he Y A cenv s3 D done O3 hYD hDC (nb _ fun o e => (hb0 _ o e).1 rfl) (nb _ fun o e => (hb0 _ o e).2.1 rfl) acc3 hn3 S3 (by omega) _ _ fun h4 tk4 acc4 hn4 S4 k4 => ?_
    obtain ⟨h3, tk3, rfl, kk3⟩ := kk3
    have O4 : Ok C Y k A { s₄ with heap := h4, toks := tk4 } := ⟨O.hd, O.dp, O.un, fun b o e => k4 b o (hb0 b o e).1 (hb0 b o e).2.1 (O3.base b o e), fun b hb => by
      by_cases q : b = cenv.locals
      · obtain ⟨m, o', es, ep, ho', _⟩ := hn4; exact ⟨o', q ▸ ho'⟩
      · by_cases q2 : b = D
        · obtain ⟨o, e⟩ := acc4.live; exact ⟨o, q2 ▸ e⟩
        · obtain ⟨o, e⟩ := O3.xb b hb; exact ⟨o, k4 b o q2 q e⟩⟩
    have st4 : St (i + 1) h4 := it.frame _ _ _ st3 fun b hb o e => k4 b o (fun q => hDf (q ▸ hb)) (fun q => hCf (q ▸ hb)) e
    have g4 : G h4 := it.good _ _ g3 fun b o vs n hy hd' e => k4 b o (fun q => hy (q ▸ hYD)) (fun q => by
      obtain ⟨m, o', es, ep, ho', hd'', _⟩ := hn3
      subst q; rw [e] at ho'; cases ho'; rw [hd'] at hd''; cases hd'') e
    refine ih (i + 1) _ _ (by rw [← List.tail_drop, hd]; rfl) (by have := congrArg List.length hd; simp at this; omega) O4 st4 g4 acc4 hn4 (hback _ _ _ S4) (by rw [List.length_append]; omega) ⟨h4, tk4, rfl, fun b o b1 b2 b3 e => k4 b o b1 b2 (kk3 b o b1 b2 b3 e)⟩ ?_
    rw [List.append_assoc]
    exact hR
/-- the whole block of a comprehension, its iterator laid -/
theorem comp_blockS {e : Expr} {tgt iter : Expr} {ifs : List Expr} {emit : Value → Env → Sem Unit} {scope : Scope} {X : Addr → Prop} {A : Around} {env : Env} {s₁ s₂ : Shared} {I : Addr} {fp wr : List Addr} {G : (Addr → Prop) → Heap → Prop} {St : Nat → Heap → Prop} {ds rs : List PyData} {ρc : Rho} {E : Value → Shared → Prop} {RR : Value → Addr → Result → Shared → Prop}
    (hturn : ∀ it acc cenv, compTurn e 0 it acc cenv = turnT tgt iter ifs (emit acc cenv) (.compLoop e 0 it acc cenv) it cenv) (hfr : ∀ it acc cenv, (Code.compLoop e 0 it acc cenv).isFrame = false) (hu : ∀ (A : Around) it acc cenv, A.under (Code.compLoop e 0 it acc cenv) = A)
    (hstart : ∀ (it acc : Value) (cenv : Env) (R : Result → Shared → Prop) (s : Shared), codeAny C.M A (.compLoop e 0 it acc cenv) R s → wpAny C.M A (pyIter it) (fun it' s' => codeAny C.M A (.compLoop e 0 it' acc cenv) R s') (notedBy C.M A cenv fun x s' => R (.error x) s') s → codeAny C.M A (.compStart e 0 it acc cenv) R s)
    (L : Laid1 C X A tgt ds s₁ s₂ I fp wr G St) (O : Ok C X k A s₁) (S : Sees X env s₁.heap ρ) (hcell : ∀ y ∈ scope.names, y.2 ≠ .cell) (hkind : scope.kind = .function) (hρc : CompOk scope.names ρ ρc) (hc : CompS C k tgt ρc ifs emit ds rs) (hsz : rs.length ≤ 1000000)
    (hRR : ∀ D Cc h' tk m', s₂.heap.get? D = none → s₂.heap.get? Cc = none → D ≠ Cc → h'.Ns Cc m' → AccS (ledOf C) h' D rs → (∀ b o, b ∉ wr → s₂.heap.get? b = some o → h'.get? b = some o) → RR (.ref D) Cc (.ok .next) { s₂ with heap := h', toks := tk }) :
    wpAny C.M A (newSet (.type "set")) (fun acc s₃ => wpAny C.M A (newFunctionEnv scope env.globals (clGo env.cells scope.names []) [] env.qual none .none (some env)) (fun cenv s₄ =>
      codeAny C.M A (.compStart e 0 (.ref I) acc { cenv with scope := relabel scope env }) (RR acc cenv.locals) s₄) E s₃) E s₂ := by
  refine new_set (wpAny_newFunctionEnv hcell (by intro y hy; simp at hy) (fun h₁ hns₁ hsb₁ => ?_) hkind)
  dsimp only at hns₁ hsb₁ ⊢
  generalize hH2 : s₂.heap.push (setE (ledOf C)) = H2 at hns₁ hsb₁ ⊢
  have hC : H2.objs.size = s₂.heap.objs.size + 1 := by rw [← hH2, Heap.size_push]
  have hDC : s₂.heap.objs.size ≠ H2.objs.size := by rw [hC]; exact Nat.ne_of_lt (Nat.lt_succ_self _)
  have below : ∀ b, b < s₂.heap.objs.size → b ≠ H2.objs.size ∧ b ≠ s₂.heap.objs.size := fun b hb => ⟨by rw [hC]; exact Nat.ne_of_lt (Nat.lt_succ_of_lt hb), Nat.ne_of_lt hb⟩
  have old : ∀ b o, s₂.heap.get? b = some o → h₁.get? b = some o := fun b o e => hsb₁.extBut b o (below b (Heap.lt_size e)).1 (Heap.get?_push_of_some _ (hH2 ▸ Heap.get?_push_of_some _ e))
  have hacc0 : AccS (ledOf C) h₁ s₂.heap.objs.size [] := .inl ⟨rfl, hsb₁.extBut _ _ hDC (Heap.get?_push_of_some _ (hH2 ▸ Heap.get?_push_size _ rfl))⟩
  have g12 : Grow s₁.heap s₂.heap := by obtain ⟨h', tk, rfl, g⟩ := L.k; exact g
  have nD : s₂.heap.get? s₂.heap.objs.size = none := get_none (Nat.le_refl _)
  have nC : s₂.heap.get? H2.objs.size = none := get_none (by rw [hC]; exact Nat.le_succ _)
  have nD1 : s₁.heap.get? s₂.heap.objs.size = none := by
    cases q : s₁.heap.get? s₂.heap.objs.size with
    | none => rfl
    | some o => rw [g12 _ _ q] at nD; cases nD
  have hDf : s₂.heap.objs.size ∉ fp := fun hm => by obtain ⟨o, ho, _⟩ := L.foot _ hm; rw [nD] at ho; cases ho
  have hCf : H2.objs.size ∉ fp := fun hm => by obtain ⟨o, ho, _⟩ := L.foot _ hm; rw [nC] at ho; cases ho
  let Y : Addr → Prop := fun b => b = s₂.heap.objs.size ∨ b ∈ wr ∨ X b
  have hY1 : ∀ b, Y b → X b ∨ s₁.heap.get? b = none := fun b hb => by
    rcases hb with rfl | hb | hb
    · exact .inr nD1
    · exact .inr (L.new b hb)
    · exact .inl hb
  have Lit := L.it Y (fun b hb => .inr (.inl hb))
  have SY : Sees Y env s₁.heap ρ := S.shutS hY1
  have Sc := comp_sees (Cc := H2.objs.size) hkind (SY.grow g12) ρc hρc
  have Sc1 := Sc.grow old
  have hcl : ∀ x d c, (x, Bd.cel d) ∈ ρc → (compEnvC scope (clGo env.cells scope.names []) H2.objs.size env).cells.lookup x = some c → c ∉ fp := by
    intro x d c hm hl hf
    obtain ⟨_, c', v, a2, ⟨o, ho, hdat⟩, _⟩ := Sc.names _ hm
    rw [hl] at a2; cases a2
    obtain ⟨o', ho', _, hnc⟩ := L.foot _ hf
    rw [ho] at ho'; cases ho'; exact hnc _ hdat
  have O4 : Ok C Y k A { s₂ with heap := h₁, toks := s₂.toks + ([] : List (Str × Value)).length } := ⟨O.hd, O.dp, O.un, fun b o e => old b o (g12 b o (O.base b o e)), fun b hb => by
    rcases hb with rfl | hb | hb
    · exact hacc0.live
    · obtain ⟨o, e⟩ := Lit.live _ _ L.st b hb; exact ⟨o, old b o e⟩
    · obtain ⟨o, e⟩ := O.xb b hb; exact ⟨o, old b o (g12 b o e)⟩⟩
  have st4 : St 0 h₁ := Lit.frame _ _ _ L.st fun b _ o e => old b o e
  have g4 : G Y h₁ := Lit.good _ _ (L.g Y hY1) fun b o vs n _ _ e => old b o e
  have loop : ∀ s₃ : Shared, s₃ = { s₂ with heap := h₁, toks := s₂.toks + ([] : List (Str × Value)).length } →
      codeAny C.M A (.compLoop e 0 (.ref I) (.ref s₂.heap.objs.size) (compEnvC scope (clGo env.cells scope.names []) H2.objs.size env)) (RR (.ref s₂.heap.objs.size) H2.objs.size) s₃ := by
    rintro s₃ rfl
    refine comp_loopS (done := []) (hturn _ _ _) (hfr _ _ _) (hu _ _ _ _) Lit (fun b hb => .inr (.inl hb)) (.inl rfl) hDf hCf hDC hcl { s₂ with heap := h₁, toks := s₂.toks + ([] : List (Str × Value)).length } _ (fun b o e => ?_) ds rs hc 0 _ rfl (Nat.zero_le _) O4 st4 g4 hacc0 ⟨_, hns₁⟩ Sc1 (by simpa using hsz) ⟨h₁, _, rfl, fun _ _ _ _ _ e => e⟩ fun h' tk hacc hn' _ kk => ?_
    · have e1 := O.base b o e
      have e2 := g12 _ _ e1
      refine ⟨fun q => ?_, fun q => ?_, fun q => ?_⟩
      · rw [q, nD] at e2; cases e2
      · have : s₂.heap.get? b = none := by rw [q]; exact nC
        rw [this] at e2; cases e2
      · rw [L.new b q] at e1; cases e1
    · obtain ⟨m', hn'⟩ := hn'
      exact hRR _ _ h' tk m' nD nC hDC hn' hacc fun b o hb e => kk b o (below b (Heap.lt_size e)).2 (below b (Heap.lt_size e)).1 hb (old b o e)
  exact hstart _ _ _ _ _ (loop _ rfl) (Lit.self 0 _ _ _ st4 (loop _ rfl))


end
end
section
set_option Elab.async false
set_option maxRecDepth 100000
set_option maxHeartbeats 4000000
noncomputable def emitT (elt : Expr) (acc : Value) (env : Env) : Sem Unit := do let v ← eval elt env; standAt elt.pos; let _ ← call (.builtin "set.add") [acc, v]
theorem turn_set (elt target iter : Expr) (ifs : List Expr) (scope : Scope) (pos : Pos) (it acc : Value) (env : Env) :
    compTurn (.SetComp elt [⟨target, iter, ifs, 0⟩] scope pos) 0 it acc env = turnT target iter ifs (emitT elt acc env) (.compLoop (.SetComp elt [⟨target, iter, ifs, 0⟩] scope pos) 0 it acc env) it env := by rfl
section
variable {C : Cx} {k : Nat} {ρ : Rho}

theorem emit_true {elt : Expr} (he : EvR C k ρ elt (.bool true)) : EmitS C k (emitT elt) ρ [.bool true] := by
  intro Y A cenv s D done O hYD hDC hbD hbC acc hn S hsz Q E hQ
  unfold emitT
  refine wpAny_bind (he Y A cenv s O S _ E fun v s1 k1 r1 => ?_)
  cases r1
  refine wpAny_bind (wpAny_standAt (wpAny_bind ?_))
  have hu : A.units + 5 < cLine := by have := O.un; show _ < 9900; omega
  have fin : ∀ h2 tk2, s.toks ≤ tk2 → Heap.SameBut D s1.heap h2 → (∃ ep, h2.get? D = some (setT (ledOf C) ep)) → Q () { s1 with heap := h2, toks := tk2 } := by
    intro h2 tk2 ht hs2 hT
    have nD : ∀ b o, b ≠ D → s1.heap.get? b = some o → h2.get? b = some o := fun b o hb e => hs2.extBut b o hb e
    obtain ⟨⟨h1, tk1, rfl, g1⟩, _⟩ := k1
    refine hQ h2 tk2 (.inr ⟨by simp, hT⟩) ?_ ?_ fun b o hb _ e => nD b o hb (g1 b o e)
    · obtain ⟨m, x⟩ := hn
      exact ⟨m, (x.keeps g1).at' fun o e => nD _ o (Ne.symm hDC) e⟩
    · have acc1 := acc.move (Y := Y) (h' := h1) (fun b o vs n _ _ e => g1 b o e) (fun o e => g1 _ o e)
      refine (S.grow g1).move3 (fun b o vs n hy hd e => nD b o (fun q => hy (q ▸ hYD)) e) (fun o e => nD _ o (Ne.symm hDC) e) fun x d c hm hl o e => nD c o (fun q => ?_) e
      obtain ⟨_, c', v, a2, ⟨o', ho', hd'⟩, _⟩ := (S.grow g1).names _ hm
      rw [hl] at a2; cases a2
      rw [q] at ho'
      rcases acc1 with ⟨_, q2⟩ | ⟨_, ep, q2⟩
      · rw [ho'] at q2; cases q2; cases hd'
      · rw [ho'] at q2; cases q2; cases hd'
  have acc1 := acc.move (Y := Y) (h' := s1.heap) (fun b o vs n _ _ e => k1.grow b o e) (fun o e => k1.grow _ o e)
  rcases acc1 with ⟨_, q⟩ | ⟨_, ep, q⟩
  · exact set_add_E hu q fun h' tk ep ht hs hT => wpAny_pure (fin h' tk (Nat.le_trans k1.2 ht) hs ⟨ep, hT⟩)
  · exact set_add_T hu q (wpAny_pure (fin s1.heap _ (Nat.le_trans k1.2 (Nat.le_succ _)) (Heap.SameBut.refl D s1.heap) ⟨ep, q⟩))

theorem comp_true {tgt : Expr} {ρc : Rho} {elt : Expr} : ∀ (ds : List PyData), (∀ d ∈ ds, ∃ ρ1, CAsgR C k tgt d ρc ρ1 ∧ Back ρ1 ρc ∧ EvR C k ρ1 elt (.bool true)) → CompS C k tgt ρc [] (emitT elt) ds (ds.map fun _ => .bool true)
  | [], _ => .nil
  | d :: ds, h => by
    obtain ⟨ρ1, h1, h2, h3⟩ := h d (by simp)
    exact .take (r1 := [.bool true]) h1 h2 tests_nil (emit_true h3) (comp_true ds fun x hx => h x (by simp [hx]))

theorem st_set_true {x : Str} {xp tp pos cp : Pos} {n : Nat} {elt tgt iter : Expr} {scope : Scope} {ds : List PyData} {ρ' : Rho} (ρc : Rho) (hi : IterR C k ρ iter tgt ds) (hρc : CompOk scope.names ρ ρc) (hfree : FreeOk ρ scope.names)
    (hc : ∀ d ∈ ds, ∃ ρ1, CAsgR C k tgt d ρc ρ1 ∧ Back ρ1 ρc ∧ EvR C k ρ1 elt (.bool true)) (hne : ds ≠ []) (hsz : ds.length ≤ 1000000) (hset : SetL ρ x (.bool true) ρ')
    (hcell : (scope.names.all fun y => decide (y.2 ≠ .cell)) = true := by decide +kernel) (hkind : scope.kind = .function := by rfl) (hnames : (scope.names.all fun x => decide (x.2 = .local → scope.names.lookup x.1 = some .local)) = true := by decide +kernel) (hs : ∀ env x, foldedSetIterable iter env x = pure x := by intro _ _; rfl) :
    StR C k ρ (.Assign [.Tuple [.Name x xp] n tp] (.SetComp elt [⟨tgt, iter, [], 0⟩] scope cp) pos) (.next ρ') := by
  intro X A env s O w S Q E hQ
  refine Assign_Tuple ?_ rfl rfl
  rw [arm_eval_SetComp]
  refine wpAny_comprehension_free (use := none) rfl (hs env) (free_cells S hfree) hkind (names_ok hnames) (hi X A env s O S _ E fun I fp wr s₁ s₂ G St k1 L => ?_)
  refine comp_blockS (rs := ds.map fun _ => .bool true) (RR := fun acc Cc => compPost C.M A E none (fun v s' => wpAny C.M A (assign (.Tuple [.Name x xp] n tp) env v) (fun _ => Q .next) E s') acc Cc) (turn_set elt tgt iter [] scope cp) (fun _ _ _ => rfl) (fun A _ _ _ => rfl) (fun it acc cenv R s h0 h => start1 (g := ⟨tgt, iter, [], 0⟩) it acc cenv R s rfl rfl rfl rfl rfl (fun _ => rfl) h0 h) L (O.keeps k1) (S.grow k1.grow) (fun y hy => of_decide_eq_true (List.all_eq_true.mp hcell y hy)) hkind hρc (comp_true ds hc) (by simpa using hsz) ?_
  intro D Cc h' tk m' nD nC hDC hn hr kk
  refine ⟨m', hn, fun h'' hs'' => ?_⟩
  have hT : ∃ ep, h'.get? D = some (setT (ledOf C) ep) := by
    rcases hr with ⟨e, _⟩ | ⟨_, q⟩
    · simp at e; exact absurd e hne
    · exact q
  obtain ⟨ep, hT⟩ := hT
  have kept : ∀ b o, s.heap.get? b = some o → h''.get? b = some o := by
    intro b o e
    have e1 := k1.grow b o e
    obtain ⟨h2, tk2, rfl, g2⟩ := L.k
    refine hs''.extBut b o (fun q => ?_) (kk b o (fun q => ?_) (g2 b o e1))
    · have := g2 b o e1; rw [q, nC] at this; cases this
    · have := L.new b q; rw [e1] at this; cases this
  have kp : PySem.Keeps s { s₂ with heap := h'', toks := tk } := by
    obtain ⟨⟨h1, tk1, rfl, g1⟩, _⟩ := k1
    obtain ⟨h2, tk2, rfl, g2⟩ := L.k
    exact ⟨h'', tk, rfl, kept⟩
  refine assign_set (s := { s₂ with heap := h'', toks := tk }) O.hd (hs''.extBut _ _ hDC hT) fun h3 g3 => ?_
  have kept3 : Grow s.heap h3 := fun b o e => g3 b o (kept b o e)
  have kp3 : PySem.Keeps s { s₂ with heap := h3, toks := tk } := by
    obtain ⟨h1, tk1, e1, g1⟩ := kp
    refine ⟨h3, tk, ?_, kept3⟩
    have := congrArg (fun s : Shared => { s with heap := h3, toks := tk }) e1
    exact this
  refine store_set (s := { s₂ with heap := h3, toks := tk }) (w.grow kept3) (S.grow kept3) hset rfl fun s4 k4 w4 S4 => ?_
  exact hQ _ s4 ((kept_b kp3).tr k4) w4 ⟨rfl, S4⟩
end
end
section
set_option Elab.async false
set_option maxRecDepth 100000
set_option maxHeartbeats 4000000
open AutoSeq1 (wpAny_loadPart')
open MeetsSeq3 (plain_eq_loop entry_eq_loop)
noncomputable def ltS (x y : Str) : Bool := decide (x.cps.toList < y.cps.toList)
noncomputable def ltL : List Str → List Str → Bool
  | [], [] => false
  | [], _ :: _ => true
  | _ :: _, [] => false
  | x :: xs, y :: ys => if x = y then ltL xs ys else ltS x y

theorem strs_at {vs : List Value} {xs : List Str} (h : StrsAre vs xs) : vs.length = xs.length ∧ ∀ (i : Nat) (x : Str), xs[i]? = some x → ∃ t, vs[i]? = some (Value.str x t) := by
  induction h with
  | nil => simp
  | cons y t r ih =>
    refine ⟨by simp [ih.1], fun i x hx => ?_⟩
    cases i with
    | zero => simp at hx; subst hx; exact ⟨t, rfl⟩
    | succ i => simp at hx ⊢; exact ih.2 i x hx
theorem ltL_drop_nil {xs ys : List Str} {i : Nat} (hi : i ≤ xs.length) (hj : i ≤ ys.length) (h : xs.length ≤ i ∨ ys.length ≤ i) : ltL (xs.drop i) (ys.drop i) = decide (xs.length < ys.length) := by
  rcases h with h | h
  · have e : xs.drop i = [] := List.drop_eq_nil_of_le h
    rw [e]
    cases hy : ys.drop i with
    | nil => have := congrArg List.length hy; simp at this; simp [ltL]; omega
    | cons y r => have := congrArg List.length hy; simp at this; simp [ltL]; omega
  · have e : ys.drop i = [] := List.drop_eq_nil_of_le h
    rw [e]
    cases hy : xs.drop i with
    | nil => have := congrArg List.length hy; simp at this; simp [ltL]; omega
    | cons y r => have := congrArg List.length hy; simp at this; simp [ltL]; omega
theorem drop_at {xs : List Str} {i : Nat} {x : Str} (h : xs[i]? = some x) : xs.drop i = x :: xs.drop (i + 1) := by
  obtain ⟨hi, e⟩ := List.getElem?_eq_some_iff.mp h
  rw [List.drop_eq_getElem_cons hi, e]

theorem lt_loop (l b : Addr) (items items2 : Array Value) (n n2 : Nat) (dd dd2 : Option Addr) (sl sl2 : Array (Option Value)) (xs ys : List Str) (hx : StrsAre items.toList xs) (hy : StrsAre items2.toList ys) (k : Nat) :
    ∀ i : Nat, xs.length - i = k → i ≤ xs.length → i ≤ ys.length → Meets (Builtin.«list.__eq__.loop» ⟨[.ref l, .ref b, rawInt i, rawInt 0], []⟩)
      (fun _ R s => s.heap.get? l = some { cls := .type "list", dict := dd, data := .seq items n, slots := sl } ∧ s.heap.get? b = some { cls := .type "list", dict := dd2, data := .seq items2 n2, slots := sl2 } ∧
        R (.ok (.ret (.bool (ltL (xs.drop i) (ys.drop i))))) s) := by
  obtain ⟨lx, gx⟩ := strs_at hx
  obtain ⟨ly, gy⟩ := strs_at hy
  simp only [Array.length_toList] at lx ly
  have endc : ∀ i : Nat, i ≤ xs.length → i ≤ ys.length → (xs.length ≤ i ∨ ys.length ≤ i) → Meets (Builtin.«list.__eq__.loop» ⟨[.ref l, .ref b, rawInt i, rawInt 0], []⟩)
      (fun _ R s => s.heap.get? l = some { cls := .type "list", dict := dd, data := .seq items n, slots := sl } ∧ s.heap.get? b = some { cls := .type "list", dict := dd2, data := .seq items2 n2, slots := sl2 } ∧
        R (.ok (.ret (.bool (ltL (xs.drop i) (ys.drop i))))) s) := by
    intro i h1 h2 h3 prog w A R s h
    obtain ⟨hp, g, d, tk, os⟩ := s; obtain ⟨hl, hb, h⟩ := h
    rw [ltL_drop_nil h1 h2 h3] at h
    wp_walk using wpAny_loadPart' hl, wpAny_loadPart' hb
    have fin : R (.ok (.ret (.bool (decide (items.size < items2.size))))) ⟨hp, g, d, tk, os⟩ := by rw [lx, ly]; exact h
    rcases h3 with h3 | h3
    · have hi1 : items[((i : Nat) : Int).toNat]? = none := by simp; omega
      rw [hi1]
      wp_walk using wpAny_loadPart' hl, wpAny_loadPart' hb
      exact fin
    · have hi2 : items2[((i : Nat) : Int).toNat]? = none := by simp; omega
      rw [hi2]
      cases items[((i : Nat) : Int).toNat]? <;> (wp_walk using wpAny_loadPart' hl, wpAny_loadPart' hb; exact fin)
  induction k with
  | zero =>
    intro i hk h1 h2
    exact endc i h1 h2 (.inl (by omega))
  | succ k ih =>
    intro i hk h1 h2
    by_cases h3 : ys.length ≤ i
    · exact endc i h1 h2 (.inr h3)
    intro prog w A R s h
    obtain ⟨hp, g, d, tk, os⟩ := s; obtain ⟨hl, hb, h⟩ := h
    have ex : ∃ x, xs[i]? = some x := ⟨_, List.getElem?_eq_getElem (by omega)⟩
    have ey : ∃ y, ys[i]? = some y := ⟨_, List.getElem?_eq_getElem (by omega)⟩
    obtain ⟨x, ex⟩ := ex
    obtain ⟨y, ey⟩ := ey
    obtain ⟨t, vx⟩ := gx i x ex
    obtain ⟨u, vy⟩ := gy i y ey
    have hi1 : items[((i : Nat) : Int).toNat]? = some (.str x t) := by simpa using vx
    have hi2 : items2[((i : Nat) : Int).toNat]? = some (.str y u) := by simpa using vy
    have hc : ((i : Int) + 1) = ((i + 1 : Nat) : Int) := by push_cast; rfl
    rw [drop_at ex, drop_at ey, ltL] at h
    wp_walk using wpAny_loadPart' hl, wpAny_loadPart' hb
    rw [hi1, hi2]
    refine wpAny_bind (wpAny_eqBool_str ?_)
    by_cases hxy : x = y
    · rw [if_pos hxy] at h
      rw [decide_eq_true hxy]
      wp_walk
      rw [hc]
      exact ⟨plainId_quiet plain_eq_loop _, codeAny_builtin entry_eq_loop (by
        rw [Around.under_plainId plain_eq_loop _]
        exact ih (i + 1) (by omega) (by omega) (by omega) prog w A R _ ⟨hl, hb, h⟩)⟩
    · rw [if_neg hxy] at h
      rw [decide_eq_false hxy]
      wp_walk using wpAny_loadPart' hl, wpAny_loadPart' hb
      rw [hi1, hi2]
      dsimp only
      refine wpAny_bind (show wpAny _ _ (compareOp .Lt (.str x t) (.str y u)) _ _ _ from P.lt_str (wpAny_pure ?_))
      exact h
theorem gt_loop (l b : Addr) (items items2 : Array Value) (n n2 : Nat) (dd dd2 : Option Addr) (sl sl2 : Array (Option Value)) (xs ys : List Str) (hx : StrsAre items.toList xs) (hy : StrsAre items2.toList ys) (k : Nat) :
    ∀ i : Nat, xs.length - i = k → i ≤ xs.length → i ≤ ys.length → Meets (Builtin.«list.__eq__.loop» ⟨[.ref l, .ref b, rawInt i, rawInt 4], []⟩)
      (fun _ R s => s.heap.get? l = some { cls := .type "list", dict := dd, data := .seq items n, slots := sl } ∧ s.heap.get? b = some { cls := .type "list", dict := dd2, data := .seq items2 n2, slots := sl2 } ∧
        R (.ok (.ret (.bool (ltL (ys.drop i) (xs.drop i))))) s) := by
  obtain ⟨lx, gx⟩ := strs_at hx
  obtain ⟨ly, gy⟩ := strs_at hy
  simp only [Array.length_toList] at lx ly
  have endc : ∀ i : Nat, i ≤ xs.length → i ≤ ys.length → (xs.length ≤ i ∨ ys.length ≤ i) → Meets (Builtin.«list.__eq__.loop» ⟨[.ref l, .ref b, rawInt i, rawInt 4], []⟩)
      (fun _ R s => s.heap.get? l = some { cls := .type "list", dict := dd, data := .seq items n, slots := sl } ∧ s.heap.get? b = some { cls := .type "list", dict := dd2, data := .seq items2 n2, slots := sl2 } ∧
        R (.ok (.ret (.bool (ltL (ys.drop i) (xs.drop i))))) s) := by
    intro i h1 h2 h3 prog w A R s h
    obtain ⟨hp, g, d, tk, os⟩ := s; obtain ⟨hl, hb, h⟩ := h
    rw [ltL_drop_nil h2 h1 (Or.comm.mp h3)] at h
    wp_walk using wpAny_loadPart' hl, wpAny_loadPart' hb
    have fin : R (.ok (.ret (.bool (decide (items2.size < items.size))))) ⟨hp, g, d, tk, os⟩ := by rw [lx, ly]; exact h
    rcases h3 with h3 | h3
    · have hi1 : items[((i : Nat) : Int).toNat]? = none := by simp; omega
      rw [hi1]
      wp_walk using wpAny_loadPart' hl, wpAny_loadPart' hb
      exact fin
    · have hi2 : items2[((i : Nat) : Int).toNat]? = none := by simp; omega
      rw [hi2]
      cases items[((i : Nat) : Int).toNat]? <;> (wp_walk using wpAny_loadPart' hl, wpAny_loadPart' hb; exact fin)
  induction k with
  | zero =>
    intro i hk h1 h2
    exact endc i h1 h2 (.inl (by omega))
  | succ k ih =>
    intro i hk h1 h2
    by_cases h3 : ys.length ≤ i
    · exact endc i h1 h2 (.inr h3)
    intro prog w A R s h
    obtain ⟨hp, g, d, tk, os⟩ := s; obtain ⟨hl, hb, h⟩ := h
    have ex : ∃ x, xs[i]? = some x := ⟨_, List.getElem?_eq_getElem (by omega)⟩
    have ey : ∃ y, ys[i]? = some y := ⟨_, List.getElem?_eq_getElem (by omega)⟩
    obtain ⟨x, ex⟩ := ex
    obtain ⟨y, ey⟩ := ey
    obtain ⟨t, vx⟩ := gx i x ex
    obtain ⟨u, vy⟩ := gy i y ey
    have hi1 : items[((i : Nat) : Int).toNat]? = some (.str x t) := by simpa using vx
    have hi2 : items2[((i : Nat) : Int).toNat]? = some (.str y u) := by simpa using vy
    have hc : ((i : Int) + 1) = ((i + 1 : Nat) : Int) := by push_cast; rfl
    rw [drop_at ex, drop_at ey, ltL] at h
    wp_walk using wpAny_loadPart' hl, wpAny_loadPart' hb
    rw [hi1, hi2]
    refine wpAny_bind (wpAny_eqBool_str ?_)
    by_cases hxy : x = y
    · rw [if_pos hxy.symm] at h
      rw [decide_eq_true hxy]
      wp_walk
      rw [hc]
      exact ⟨plainId_quiet plain_eq_loop _, codeAny_builtin entry_eq_loop (by
        rw [Around.under_plainId plain_eq_loop _]
        exact ih (i + 1) (by omega) (by omega) (by omega) prog w A R _ ⟨hl, hb, h⟩)⟩
    · rw [if_neg (fun e => hxy e.symm)] at h
      rw [decide_eq_false hxy]
      wp_walk using wpAny_loadPart' hl, wpAny_loadPart' hb
      rw [hi1, hi2]
      dsimp only
      refine wpAny_bind (show wpAny _ _ (compareOp .Gt (.str x t) (.str y u)) _ _ _ from P.gt_str (wpAny_pure ?_))
      exact h

theorem list_lt (l b : Addr) (items items2 : Array Value) (n n2 : Nat) (dd dd2 : Option Addr) (sl sl2 : Array (Option Value)) (xs ys : List Str) (hx : StrsAre items.toList xs) (hy : StrsAre items2.toList ys) :
    Meets (Builtin.«list.__lt__» ⟨[.ref l, .ref b], []⟩)
      (fun _ R s => s.heap.get? l = some { cls := .type "list", dict := dd, data := .seq items n, slots := sl } ∧ s.heap.get? b = some { cls := .type "list", dict := dd2, data := .seq items2 n2, slots := sl2 } ∧ R (.ok (.ret (.bool (ltL xs ys)))) s) := by
  intro prog w A R s h
  obtain ⟨hp, g, d, tk, os⟩ := s; obtain ⟨hl, hb, h⟩ := h
  have f3 := AutoSeq1.sub_list_list
  wp_walk using wpAny_loadPart' hl, wpAny_loadPart' hb
  exact ⟨plainId_quiet plain_eq_loop _, codeAny_builtin entry_eq_loop (by
    rw [Around.under_plainId plain_eq_loop _]
    exact lt_loop l b items items2 n n2 dd dd2 sl sl2 xs ys hx hy _ 0 rfl (Nat.zero_le _) (Nat.zero_le _) prog w A R _ ⟨hl, hb, h⟩)⟩
theorem list_gt (l b : Addr) (items items2 : Array Value) (n n2 : Nat) (dd dd2 : Option Addr) (sl sl2 : Array (Option Value)) (xs ys : List Str) (hx : StrsAre items.toList xs) (hy : StrsAre items2.toList ys) :
    Meets (Builtin.«list.__gt__» ⟨[.ref l, .ref b], []⟩)
      (fun _ R s => s.heap.get? l = some { cls := .type "list", dict := dd, data := .seq items n, slots := sl } ∧ s.heap.get? b = some { cls := .type "list", dict := dd2, data := .seq items2 n2, slots := sl2 } ∧ R (.ok (.ret (.bool (ltL ys xs)))) s) := by
  intro prog w A R s h
  obtain ⟨hp, g, d, tk, os⟩ := s; obtain ⟨hl, hb, h⟩ := h
  have f3 := AutoSeq1.sub_list_list
  wp_walk using wpAny_loadPart' hl, wpAny_loadPart' hb
  exact ⟨plainId_quiet plain_eq_loop _, codeAny_builtin entry_eq_loop (by
    rw [Around.under_plainId plain_eq_loop _]
    exact gt_loop l b items items2 n n2 dd dd2 sl sl2 xs ys hx hy _ 0 rfl (Nat.zero_le _) (Nat.zero_le _) prog w A R _ ⟨hl, hb, h⟩)⟩

section
variable {prog : Program} {w : World} {A : Around} {E : Value → Shared → Prop} {s : Shared}
theorem rc_lt {X : Addr → Prop} {a b : Value} {xs ys : List Str} {Q : Value → Shared → Prop} (hu : A.units < cLine) (ha : Rd X s.heap (.list (xs.map PyData.str)) a) (hb : Rd X s.heap (.list (ys.map PyData.str)) b) (h : Q (.bool (ltL xs ys)) s) : wpAny (model prog w) A (richCompare .Lt a b) Q E s := by
  obtain ⟨l, vs, rfl, _, hl, hr⟩ := ha
  obtain ⟨l2, vs2, rfl, _, hl2, hr2⟩ := hb
  obtain ⟨⟨cls, dd, data, sl⟩, ho, hc, n, hd⟩ := hl
  obtain ⟨⟨cls2, dd2, data2, sl2⟩, ho2, hc2, n2, hd2⟩ := hl2
  simp only at hc hd hc2 hd2
  subst hc hd hc2 hd2
  exact richCompare_meets_room (op := .Lt) ⟨_, ho, rfl⟩ ⟨_, ho2, rfl⟩ F.slot_list_lt F.entry_list_lt (F.args_list_lt_2 _ _) (list_lt l l2 vs vs2 n n2 dd dd2 sl sl2 xs ys (rdl_strs hr) (rdl_strs hr2)) ⟨ho, ho2, ⟨(fun x => nomatch x), h⟩⟩ hu
theorem rc_gt {X : Addr → Prop} {a b : Value} {xs ys : List Str} {Q : Value → Shared → Prop} (hu : A.units < cLine) (ha : Rd X s.heap (.list (xs.map PyData.str)) a) (hb : Rd X s.heap (.list (ys.map PyData.str)) b) (h : Q (.bool (ltL ys xs)) s) : wpAny (model prog w) A (richCompare .Gt a b) Q E s := by
  obtain ⟨l, vs, rfl, _, hl, hr⟩ := ha
  obtain ⟨l2, vs2, rfl, _, hl2, hr2⟩ := hb
  obtain ⟨⟨cls, dd, data, sl⟩, ho, hc, n, hd⟩ := hl
  obtain ⟨⟨cls2, dd2, data2, sl2⟩, ho2, hc2, n2, hd2⟩ := hl2
  simp only at hc hd hc2 hd2
  subst hc hd hc2 hd2
  exact richCompare_meets_room (op := .Gt) ⟨_, ho, rfl⟩ ⟨_, ho2, rfl⟩ F.slot_list_gt F.entry_list_gt (F.args_list_gt_2 _ _) (list_gt l l2 vs vs2 n n2 dd dd2 sl sl2 xs ys (rdl_strs hr) (rdl_strs hr2)) ⟨ho, ho2, ⟨(fun x => nomatch x), h⟩⟩ hu
end
end
section
set_option Elab.async false
set_option maxRecDepth 100000
set_option maxHeartbeats 4000000

section
variable {prog : Program} {w : World} {A : Around} {E : Value → Shared → Prop} {s : Shared}
theorem call_min2 {l : Addr} {X : Addr → Prop} {xs ys : List Str} {v0 v1 : Value} {Q : Value → Shared → Prop} (hh : A.handled = none) (hu : A.units + 10 < cLine) (hl : s.heap.IsList l #[v0, v1]) (h0 : Rd X s.heap (.list (xs.map PyData.str)) v0) (h1 : Rd X s.heap (.list (ys.map PyData.str)) v1)
    (hQ : ∀ h' tk, (∀ b o, s.heap.get? b = some o → h'.get? b = some o) → Q (if ltL ys xs then v1 else v0) { s with heap := h', toks := tk }) : wpAny (model prog w) A (call (.builtin "min") [.ref l]) Q E s := by
  have hname : (toString "min" ++ toString ".loop" : String) = "min.loop" := by decide
  refine call_function_tree F.kind_min F.plain_min F.entry_min (F.args_min1 _) ?_
  show wpAny _ A.in1 (Builtin.Builtins.bindParams "min" ["key", "default"] 0 ⟨[], []⟩ >>= _) _ _ s
  refine wpAny_bind (wpAny_of_eq (show Builtin.Builtins.bindParams "min" ["key", "default"] 0 ⟨[], []⟩ = pure [none, none] from rfl) ?_)
  refine wpAny_bind (wpAny_pure (wpAny_bind (wpAny_pyIter_list hl (wpAny_bind (wpAny_newObj_type ?_)))))
  rw [hname]
  generalize hI : s.heap.objs.size = I
  have hlI : l ≠ I := by obtain ⟨o, ho, _⟩ := hl; exact hI ▸ Nat.ne_of_lt (Heap.lt_size ho)
  have W := Walks.list (prog := prog) (w := w) (A := A.in1) hh I l hlI #[v0, v1]
  have hg : ∀ b o, s.heap.get? b = some o → b ≠ I := fun b o e => hI ▸ Nat.ne_of_lt (Heap.lt_size e)
  generalize hH : (s.heap.push { cls := .type "list_iterator", data := .fields #[.ref l, .int 0 0] } : Heap) = H1
  have hHI : H1.IsListIter I l 0 := by rw [← hH, ← hI]; exact ⟨_, Heap.get?_push_size _ rfl, rfl, rfl⟩
  have hH1 : ∀ b o, s.heap.get? b = some o → H1.get? b = some o := fun b o e => by rw [← hH]; exact Heap.get?_push_of_some _ e
  generalize hS : H1.objs.size = S
  have hIS : I ≠ S := by obtain ⟨o, ho, _⟩ := hHI; exact hS ▸ Nat.ne_of_lt (Heap.lt_size ho)
  have hgS : ∀ b o, s.heap.get? b = some o → b ≠ S := fun b o e => hS ▸ Nat.ne_of_lt (Heap.lt_size (hH1 b o e))
  generalize hH2 : (H1.push { cls := .type "list", data := .seq (#[] : Array Value) } : Heap) = H2
  have hS2 : H2.get? S = some { cls := .type "list", dict := none, data := .seq (#[] : Array Value) 0, slots := #[] } := by rw [← hH2, ← hS]; exact Heap.get?_push_size _ rfl
  have hI2 : H2.IsListIter I l 0 := hHI.at fun o e => by rw [← hH2]; exact Heap.get?_push_of_some _ e
  have hk2 : ∀ b o, s.heap.get? b = some o → H2.get? b = some o := fun b o e => by rw [← hH2]; exact Heap.get?_push_of_some _ (hH1 b o e)
  have hSI : S ∉ ([I] : List Addr) := by simp; exact Ne.symm hIS
  have hSf : S ∉ ([I, l] : List Addr) := by
    simp only [List.mem_cons, List.not_mem_nil, or_false, not_or]
    exact ⟨Ne.symm hIS, fun q => by obtain ⟨o, ho, _⟩ := hl; exact hgS l o ho q.symm⟩
  -- the last turn
  have fin : ∀ (R : Result → Shared → Prop) (_ : ∀ h' tk, (∀ b o, s.heap.get? b = some o → h'.get? b = some o) → R (.ok (.ret (if ltL ys xs then v1 else v0))) { s with heap := h', toks := tk }) (v : Value) (H : Heap) (c : Nat) (tk : Nat), H.IsListIter I l 2 → H.IsList l #[v0, v1] → H.get? S = some { cls := .type "list", dict := none, data := .seq #[v, v] c, slots := #[] } → (∀ b o, s.heap.get? b = some o → H.get? b = some o) → v = (if ltL ys xs then v1 else v0) →
      codeAny (model prog w) A (.builtin "min.loop" ⟨[.ref I, .none, .ref S], []⟩) R { s with heap := H, toks := tk } := by
    intro R hR v H c tk hit hls hSS hk hv
    refine codeAny_builtin F.entry_min_loop ?_
    rw [Around.under_plainId F.plain_min_loop _]
    show wpAny _ A.in1 (seqItems? (.ref S) >>= _) _ _ _
    refine wpAny_bind (wpAny_seqItems hSS rfl ?_)
    show wpAny _ A.in1 (tryCatch (pyNext (.ref I)) _ >>= _) _ _ _
    refine wpAny_bind (wpAny_tryCatch ((Walks.list (prog := prog) (w := w) (A := A.in1) hh I l hlI #[v0, v1]).done { s with heap := H, toks := tk } _ _ ⟨hit, hls⟩ fun h' tk' hk' => ?_))
    have hS' := hk' S _ hSI hSS
    show wpAny _ A.in1 (updateSeq S (fun _ => #[]) >>= _) _ _ _
    refine wpAny_bind ?_
    refine wpAny_updateSeq hS' rfl (wpAny_bind (wpAny_letGo (wpAny_pure ?_)))
    rw [hv]
    exact hR _ _ fun b o e => (Heap.get?_update_other _ _ (Ne.symm (hgS b o e))).trans (hk' b o (by simp; exact hg b o e) (hk b o e))
  -- the second
  have mid : ∀ (R : Result → Shared → Prop) (_ : ∀ h' tk, (∀ b o, s.heap.get? b = some o → h'.get? b = some o) → R (.ok (.ret (if ltL ys xs then v1 else v0))) { s with heap := h', toks := tk }) (H : Heap) (c : Nat) (tk : Nat), H.IsListIter I l 1 → H.IsList l #[v0, v1] → H.get? S = some { cls := .type "list", dict := none, data := .seq #[v0, v0] c, slots := #[] } → (∀ b o, s.heap.get? b = some o → H.get? b = some o) →
      codeAny (model prog w) A (.builtin "min.loop" ⟨[.ref I, .none, .ref S], []⟩) R { s with heap := H, toks := tk } := by
    intro R hR H c tk hit hls hSS hk
    refine codeAny_builtin F.entry_min_loop ?_
    rw [Around.under_plainId F.plain_min_loop _]
    show wpAny _ A.in1 (seqItems? (.ref S) >>= _) _ _ _
    refine wpAny_bind (wpAny_seqItems hSS rfl ?_)
    show wpAny _ A.in1 (tryCatch (pyNext (.ref I)) _ >>= _) _ _ _
    refine wpAny_bind (wpAny_tryCatch ((Walks.list (prog := prog) (w := w) (A := A.in1) hh I l hlI #[v0, v1]).item 1 { s with heap := H, toks := tk } _ _ (by show 1 < 2; decide) ⟨hit, hls⟩ fun v h' tk' hP hst' hk' => ?_))
    have hv : v = v1 := by simpa using hP.symm
    subst hv
    have hS' := hk' S _ hSI hSS
    have hk3 : ∀ b o, s.heap.get? b = some o → h'.get? b = some o := fun b o e => hk' b o (by simp; exact hg b o e) (hk b o e)
    show wpAny _ A.in1 (tryCatch (holding [v, v] (richCompare .Lt v v0 >>= _)) _ >>= _) _ _ _
    refine wpAny_bind (wpAny_tryCatch (wpAny_holding (wpAny_bind (rc_lt (X := X) (by show A.units + 1 < cLine; omega) (h1.grow hk3) (h0.grow hk3) ?_))))
    refine wpAny_bind (wpAny_holding (wpAny_truthy_bool ?_))
    refine wpAny_bind (wpAny_letGo (wpAny_pure ?_))
    cases hb : ltL ys xs with
    | true =>
      simp only [if_true]
      refine wpAny_bind ?_
      refine wpAny_updateSeq hS' rfl (wpAny_bind (wpAny_letGo ?_))
      rw [hname]
      refine wpAny_pure ⟨plainId_quiet F.plain_min_loop _, fin R hR v _ _ tk' ?_ ?_ (Heap.get?_update_self _ hS' rfl) ?_ (by rw [hb]; rfl)⟩
      · exact hst'.1.at fun o e => (Heap.get?_update_other _ _ (Ne.symm hIS)).trans e
      · exact hst'.2.at fun o e => (Heap.get?_update_other _ _ (fun q => hSf (by rw [q]; simp))).trans e
      · exact fun b o e => (Heap.get?_update_other _ _ (Ne.symm (hgS b o e))).trans (hk3 b o e)
    | false =>
      simp only [Bool.false_eq_true, if_false]
      refine wpAny_bind (wpAny_letGo ?_)
      rw [hname]
      exact wpAny_pure ⟨plainId_quiet F.plain_min_loop _, fin R hR v0 _ c tk' hst'.1 hst'.2 hS' hk3 (by rw [hb]; rfl)⟩
  refine wpAny_pure ⟨plainId_quiet F.plain_min_loop _, ?_⟩
  refine codeAny_builtin F.entry_min_loop ?_
  rw [Around.under_plainId F.plain_min_loop _]
  show wpAny _ _ (seqItems? (.ref S) >>= _) _ _ _
  refine wpAny_bind (wpAny_seqItems hS2 rfl ?_)
  show wpAny _ _ (tryCatch (pyNext (.ref I)) _ >>= _) _ _ _
  refine wpAny_bind (wpAny_tryCatch ((Walks.list (prog := prog) (w := w) (A := A.in1) hh I l hlI #[v0, v1]).item 0 { s with heap := H2 } _ _ (by show 0 < 2; decide) ⟨hI2, hl.at fun o e => hk2 _ o e⟩ fun v h' tk' hP hst' hk' => ?_))
  have hv : v = v0 := by simpa using hP.symm
  subst hv
  have hS' := hk' S _ hSI hS2
  show wpAny _ _ (updateSeq S (fun _ => #[v, v]) >>= _) _ _ _
  refine wpAny_bind ?_
  refine wpAny_updateSeq hS' rfl ?_
  rw [hname]
  refine wpAny_pure ⟨plainId_quiet F.plain_min_loop _, ?_⟩
  refine mid _ (fun h'' tk'' kk => ?_) _ _ tk' ?_ ?_ (Heap.get?_update_self _ hS' rfl) ?_
  · exact hQ h'' tk'' kk
  · exact hst'.1.at fun o e => (Heap.get?_update_other _ _ (Ne.symm hIS)).trans e
  · exact hst'.2.at fun o e => (Heap.get?_update_other _ _ (fun q => hSf (by rw [q]; simp))).trans e
  · exact fun b o e => (Heap.get?_update_other _ _ (Ne.symm (hgS b o e))).trans (hk' b o (by simp; exact hg b o e) (hk2 b o e))
end

section
variable {prog : Program} {w : World} {A : Around} {E : Value → Shared → Prop} {s : Shared}
theorem call_max2 {l : Addr} {X : Addr → Prop} {xs ys : List Str} {v0 v1 : Value} {Q : Value → Shared → Prop} (hh : A.handled = none) (hu : A.units + 10 < cLine) (hl : s.heap.IsList l #[v0, v1]) (h0 : Rd X s.heap (.list (xs.map PyData.str)) v0) (h1 : Rd X s.heap (.list (ys.map PyData.str)) v1)
    (hQ : ∀ h' tk, (∀ b o, s.heap.get? b = some o → h'.get? b = some o) → Q (if ltL xs ys then v1 else v0) { s with heap := h', toks := tk }) : wpAny (model prog w) A (call (.builtin "max") [.ref l]) Q E s := by
  have hname : (toString "max" ++ toString ".loop" : String) = "max.loop" := by decide
  refine call_function_tree F.kind_max F.plain_max F.entry_max (F.args_max1 _) ?_
  show wpAny _ A.in1 (Builtin.Builtins.bindParams "max" ["key", "default"] 0 ⟨[], []⟩ >>= _) _ _ s
  refine wpAny_bind (wpAny_of_eq (show Builtin.Builtins.bindParams "max" ["key", "default"] 0 ⟨[], []⟩ = pure [none, none] from rfl) ?_)
  refine wpAny_bind (wpAny_pure (wpAny_bind (wpAny_pyIter_list hl (wpAny_bind (wpAny_newObj_type ?_)))))
  rw [hname]
  generalize hI : s.heap.objs.size = I
  have hlI : l ≠ I := by obtain ⟨o, ho, _⟩ := hl; exact hI ▸ Nat.ne_of_lt (Heap.lt_size ho)
  have W := Walks.list (prog := prog) (w := w) (A := A.in1) hh I l hlI #[v0, v1]
  have hg : ∀ b o, s.heap.get? b = some o → b ≠ I := fun b o e => hI ▸ Nat.ne_of_lt (Heap.lt_size e)
  generalize hH : (s.heap.push { cls := .type "list_iterator", data := .fields #[.ref l, .int 0 0] } : Heap) = H1
  have hHI : H1.IsListIter I l 0 := by rw [← hH, ← hI]; exact ⟨_, Heap.get?_push_size _ rfl, rfl, rfl⟩
  have hH1 : ∀ b o, s.heap.get? b = some o → H1.get? b = some o := fun b o e => by rw [← hH]; exact Heap.get?_push_of_some _ e
  generalize hS : H1.objs.size = S
  have hIS : I ≠ S := by obtain ⟨o, ho, _⟩ := hHI; exact hS ▸ Nat.ne_of_lt (Heap.lt_size ho)
  have hgS : ∀ b o, s.heap.get? b = some o → b ≠ S := fun b o e => hS ▸ Nat.ne_of_lt (Heap.lt_size (hH1 b o e))
  generalize hH2 : (H1.push { cls := .type "list", data := .seq (#[] : Array Value) } : Heap) = H2
  have hS2 : H2.get? S = some { cls := .type "list", dict := none, data := .seq (#[] : Array Value) 0, slots := #[] } := by rw [← hH2, ← hS]; exact Heap.get?_push_size _ rfl
  have hI2 : H2.IsListIter I l 0 := hHI.at fun o e => by rw [← hH2]; exact Heap.get?_push_of_some _ e
  have hk2 : ∀ b o, s.heap.get? b = some o → H2.get? b = some o := fun b o e => by rw [← hH2]; exact Heap.get?_push_of_some _ (hH1 b o e)
  have hSI : S ∉ ([I] : List Addr) := by simp; exact Ne.symm hIS
  have hSf : S ∉ ([I, l] : List Addr) := by
    simp only [List.mem_cons, List.not_mem_nil, or_false, not_or]
    exact ⟨Ne.symm hIS, fun q => by obtain ⟨o, ho, _⟩ := hl; exact hgS l o ho q.symm⟩
  -- the last turn
  have fin : ∀ (R : Result → Shared → Prop) (_ : ∀ h' tk, (∀ b o, s.heap.get? b = some o → h'.get? b = some o) → R (.ok (.ret (if ltL xs ys then v1 else v0))) { s with heap := h', toks := tk }) (v : Value) (H : Heap) (c : Nat) (tk : Nat), H.IsListIter I l 2 → H.IsList l #[v0, v1] → H.get? S = some { cls := .type "list", dict := none, data := .seq #[v, v] c, slots := #[] } → (∀ b o, s.heap.get? b = some o → H.get? b = some o) → v = (if ltL xs ys then v1 else v0) →
      codeAny (model prog w) A (.builtin "max.loop" ⟨[.ref I, .none, .ref S], []⟩) R { s with heap := H, toks := tk } := by
    intro R hR v H c tk hit hls hSS hk hv
    refine codeAny_builtin F.entry_max_loop ?_
    rw [Around.under_plainId F.plain_max_loop _]
    show wpAny _ A.in1 (seqItems? (.ref S) >>= _) _ _ _
    refine wpAny_bind (wpAny_seqItems hSS rfl ?_)
    show wpAny _ A.in1 (tryCatch (pyNext (.ref I)) _ >>= _) _ _ _
    refine wpAny_bind (wpAny_tryCatch ((Walks.list (prog := prog) (w := w) (A := A.in1) hh I l hlI #[v0, v1]).done { s with heap := H, toks := tk } _ _ ⟨hit, hls⟩ fun h' tk' hk' => ?_))
    have hS' := hk' S _ hSI hSS
    show wpAny _ A.in1 (updateSeq S (fun _ => #[]) >>= _) _ _ _
    refine wpAny_bind ?_
    refine wpAny_updateSeq hS' rfl (wpAny_bind (wpAny_letGo (wpAny_pure ?_)))
    rw [hv]
    exact hR _ _ fun b o e => (Heap.get?_update_other _ _ (Ne.symm (hgS b o e))).trans (hk' b o (by simp; exact hg b o e) (hk b o e))
  -- the second
  have mid : ∀ (R : Result → Shared → Prop) (_ : ∀ h' tk, (∀ b o, s.heap.get? b = some o → h'.get? b = some o) → R (.ok (.ret (if ltL xs ys then v1 else v0))) { s with heap := h', toks := tk }) (H : Heap) (c : Nat) (tk : Nat), H.IsListIter I l 1 → H.IsList l #[v0, v1] → H.get? S = some { cls := .type "list", dict := none, data := .seq #[v0, v0] c, slots := #[] } → (∀ b o, s.heap.get? b = some o → H.get? b = some o) →
      codeAny (model prog w) A (.builtin "max.loop" ⟨[.ref I, .none, .ref S], []⟩) R { s with heap := H, toks := tk } := by
    intro R hR H c tk hit hls hSS hk
    refine codeAny_builtin F.entry_max_loop ?_
    rw [Around.under_plainId F.plain_max_loop _]
    show wpAny _ A.in1 (seqItems? (.ref S) >>= _) _ _ _
    refine wpAny_bind (wpAny_seqItems hSS rfl ?_)
    show wpAny _ A.in1 (tryCatch (pyNext (.ref I)) _ >>= _) _ _ _
    refine wpAny_bind (wpAny_tryCatch ((Walks.list (prog := prog) (w := w) (A := A.in1) hh I l hlI #[v0, v1]).item 1 { s with heap := H, toks := tk } _ _ (by show 1 < 2; decide) ⟨hit, hls⟩ fun v h' tk' hP hst' hk' => ?_))
    have hv : v = v1 := by simpa using hP.symm
    subst hv
    have hS' := hk' S _ hSI hSS
    have hk3 : ∀ b o, s.heap.get? b = some o → h'.get? b = some o := fun b o e => hk' b o (by simp; exact hg b o e) (hk b o e)
    show wpAny _ A.in1 (tryCatch (holding [v, v] (richCompare .Gt v v0 >>= _)) _ >>= _) _ _ _
    refine wpAny_bind (wpAny_tryCatch (wpAny_holding (wpAny_bind (rc_gt (X := X) (by show A.units + 1 < cLine; omega) (h1.grow hk3) (h0.grow hk3) ?_))))
    refine wpAny_bind (wpAny_holding (wpAny_truthy_bool ?_))
    refine wpAny_bind (wpAny_letGo (wpAny_pure ?_))
    cases hb : ltL xs ys with
    | true =>
      simp only [if_true]
      refine wpAny_bind ?_
      refine wpAny_updateSeq hS' rfl (wpAny_bind (wpAny_letGo ?_))
      rw [hname]
      refine wpAny_pure ⟨plainId_quiet F.plain_max_loop _, fin R hR v _ _ tk' ?_ ?_ (Heap.get?_update_self _ hS' rfl) ?_ (by rw [hb]; rfl)⟩
      · exact hst'.1.at fun o e => (Heap.get?_update_other _ _ (Ne.symm hIS)).trans e
      · exact hst'.2.at fun o e => (Heap.get?_update_other _ _ (fun q => hSf (by rw [q]; simp))).trans e
      · exact fun b o e => (Heap.get?_update_other _ _ (Ne.symm (hgS b o e))).trans (hk3 b o e)
    | false =>
      simp only [Bool.false_eq_true, if_false]
      refine wpAny_bind (wpAny_letGo ?_)
      rw [hname]
      exact wpAny_pure ⟨plainId_quiet F.plain_max_loop _, fin R hR v0 _ c tk' hst'.1 hst'.2 hS' hk3 (by rw [hb]; rfl)⟩
  refine wpAny_pure ⟨plainId_quiet F.plain_max_loop _, ?_⟩
  refine codeAny_builtin F.entry_max_loop ?_
  rw [Around.under_plainId F.plain_max_loop _]
  show wpAny _ _ (seqItems? (.ref S) >>= _) _ _ _
  refine wpAny_bind (wpAny_seqItems hS2 rfl ?_)
  show wpAny _ _ (tryCatch (pyNext (.ref I)) _ >>= _) _ _ _
  refine wpAny_bind (wpAny_tryCatch ((Walks.list (prog := prog) (w := w) (A := A.in1) hh I l hlI #[v0, v1]).item 0 { s with heap := H2 } _ _ (by show 0 < 2; decide) ⟨hI2, hl.at fun o e => hk2 _ o e⟩ fun v h' tk' hP hst' hk' => ?_))
  have hv : v = v0 := by simpa using hP.symm
  subst hv
  have hS' := hk' S _ hSI hS2
  show wpAny _ _ (updateSeq S (fun _ => #[v, v]) >>= _) _ _ _
  refine wpAny_bind ?_
  refine wpAny_updateSeq hS' rfl ?_
  rw [hname]
  refine wpAny_pure ⟨plainId_quiet F.plain_max_loop _, ?_⟩
  refine mid _ (fun h'' tk'' kk => ?_) _ _ tk' ?_ ?_ (Heap.get?_update_self _ hS' rfl) ?_
  · exact hQ h'' tk'' kk
  · exact hst'.1.at fun o e => (Heap.get?_update_other _ _ (Ne.symm hIS)).trans e
  · exact hst'.2.at fun o e => (Heap.get?_update_other _ _ (fun q => hSf (by rw [q]; simp))).trans e
  · exact fun b o e => (Heap.get?_update_other _ _ (Ne.symm (hgS b o e))).trans (hk' b o (by simp; exact hg b o e) (hk2 b o e))
end
end
section
set_option Elab.async false
set_option maxRecDepth 100000
set_option maxHeartbeats 4000000

noncomputable def compsC (x : Str) : List Str := (Txt.split x "/").filter fun c => decide (c.length ≠ 0) && !decide (c = ".")
noncomputable def comP : List Str → List Str → List Str
  | x :: xs, y :: ys => if x = y then x :: comP xs ys else []
  | [], _ => []
  | _ :: _, [] => []
noncomputable def minL (xs ys : List Str) : List Str := if ltL ys xs then ys else xs
noncomputable def maxL (xs ys : List Str) : List Str := if ltL xs ys then ys else xs
noncomputable def commonF (x y : Str) : Str := "/" ++ Txt.join "/" (comP (minL (compsC x) (compsC y)) (maxL (compsC x) (compsC y)))
/-- the shorter or lesser does not run over the other's end -/
noncomputable def NoOver (a b : List Str) : Prop := ∀ i, i < a.length → a.take i = b.take i → i < b.length
theorem lt_noover : ∀ {a b : List Str}, ltL a b = true → NoOver a b
  | [], _, _ => fun i hi _ => absurd hi (Nat.not_lt_zero _)
  | _ :: _, [], h => by simp [ltL] at h
  | x :: a, y :: b, h => by
    intro i hi e
    cases i with
    | zero => simp
    | succ i =>
      simp only [List.take_succ_cons, List.cons.injEq] at e
      rw [ltL, if_pos e.1] at h
      simp only [List.length_cons] at hi ⊢
      have := lt_noover h i (by omega) e.2
      omega
theorem noover_self (a : List Str) : NoOver a a := fun _ h _ => h
theorem minmax_noover (xs ys : List Str) : NoOver (minL xs ys) (maxL xs ys) := by
  unfold minL maxL
  by_cases h1 : ltL ys xs = true
  · rw [if_pos h1]
    by_cases h2 : ltL xs ys = true
    · rw [if_pos h2]; exact noover_self _
    · rw [if_neg h2]; exact lt_noover h1
  · rw [if_neg h1]
    by_cases h2 : ltL xs ys = true
    · rw [if_pos h2]; exact lt_noover h2
    · rw [if_neg h2]; exact noover_self _
theorem comP_take : ∀ {a b : List Str} {i : Nat} {x y : Str}, a.take i = b.take i → a[i]? = some x → b[i]? = some y → x ≠ y → comP a b = a.take i
  | x :: a, y :: b, 0, _, _, _, h1, h2, h3 => by simp at h1 h2; subst h1 h2; simp [comP, h3]
  | x :: a, y :: b, i + 1, _, _, h0, h1, h2, h3 => by
    simp only [List.take_succ_cons, List.cons.injEq] at h0
    rw [comP, if_pos h0.1, comP_take h0.2 (by simpa using h1) (by simpa using h2) h3]
    rfl
  | [], _, _, _, _, _, h1, _, _ => by simp at h1
  | _ :: _, [], _, _, _, _, _, h2, _ => by simp at h2
theorem comP_full : ∀ {a b : List Str}, a = b.take a.length → comP a b = a
  | [], _, _ => by simp [comP]
  | _ :: _, [], h => by simp at h
  | x :: a, y :: b, h => by
    simp only [List.length_cons, List.take_succ_cons, List.cons.injEq] at h
    rw [comP, if_pos h.1, comP_full h.2]

section
variable {C : Cx} {k : Nat} {ρ : Rho}

theorem ex_fg_b {ss : List Stmt} {ρ' ρ'' : Rho} (h : ExR C k ρ ss (.brk ρ')) (hs : Fg ρ' ρ'') : ExR C k ρ ss (.brk ρ'') := fun X A env s O w S Q E hQ =>
  h X A env s O w S Q E fun fl s' k' w' e => hQ fl s' k' w' ⟨e.1, hs.back _ _ _ e.2⟩

theorem te_tup {e : Expr} {xs : List PyData} (h : EvR C k ρ e (.tuple xs)) (hz : xs.length ≤ 1000000) (he : ∀ env whole, isTrue e env whole = (do let v ← whole; standAt e.pos; holding [v] (truthy v)) := by intro _ _; rfl) : TestR C k ρ e (!xs.isEmpty) := by
  intro X A env s O S Q E hQ
  refine isTrue_plain (h X A env s O S _ E fun v s1 k1 r1 => ?_) (he _ _)
  obtain ⟨l, vs, rfl, hx0, hl, hr⟩ := r1
  have e1 := hr.length
  have hl' : IsTup s1.heap l vs := hl
  refine truthy_tuple hl' (by simp at e1; omega) ?_
  have := hQ { s1 with toks := s1.toks + 1 + 1 } (k1.tr (Kp.tok (by omega)))
  rw [show vs.isEmpty = xs.isEmpty by
    cases xs with
    | nil => obtain ⟨vs⟩ := vs; cases vs with | nil => rfl | cons _ _ => simp at e1
    | cons _ _ => obtain ⟨vs⟩ := vs; cases vs with | nil => simp at e1 | cons _ _ => rfl]
  exact this

theorem ev_min2 {np pos : Pos} {e : Expr} {xs ys : List Str} (hx : (("min" : Str), Bd.glo) ∈ ρ) (hm : C.mg "min" = none) (he : EvR C k ρ e (.list [.list (xs.map PyData.str), .list (ys.map PyData.str)])) (hs : ∀ env, starEach [e] env = [(false, eval e env)] := by intro _; rfl) :
    EvR C k ρ (.Call (.Name "min" np) [e] [] pos) (.list ((minL xs ys).map PyData.str)) := by
  intro X A env s O S
  refine gv_of fun Q E hQ => ?_
  refine Call_name1 (hs env) (ev_builtin (v := .builtin "min") O S hx hm (by decide +kernel) (by decide) (PySem.callWith_builtin1 ?_))
  refine he X A env s O S _ E fun v s1 k1 r1 => ?_
  obtain ⟨l, vs, rfl, hx0, hl, hr⟩ := r1
  obtain ⟨v0, r, e0, h0, v1, r', e1, h1, e2⟩ := hr
  subst e2
  have ev : vs = #[v0, v1] := by apply Array.toList_inj.mp; rw [e0, e1]
  subst ev
  refine call_min2 (X := X) O.hd (by have := O.un; show A.units + 10 < 9900; omega) hl h0 h1 fun h' tk kk => hQ _ _ (keeps_tr k1.1 ⟨h', tk, rfl, kk⟩) ?_
  unfold minL
  split
  · exact h1.grow kk
  · exact h0.grow kk
theorem ev_max2 {np pos : Pos} {e : Expr} {xs ys : List Str} (hx : (("max" : Str), Bd.glo) ∈ ρ) (hm : C.mg "max" = none) (he : EvR C k ρ e (.list [.list (xs.map PyData.str), .list (ys.map PyData.str)])) (hs : ∀ env, starEach [e] env = [(false, eval e env)] := by intro _; rfl) :
    EvR C k ρ (.Call (.Name "max" np) [e] [] pos) (.list ((maxL xs ys).map PyData.str)) := by
  intro X A env s O S
  refine gv_of fun Q E hQ => ?_
  refine Call_name1 (hs env) (ev_builtin (v := .builtin "max") O S hx hm (by decide +kernel) (by decide) (PySem.callWith_builtin1 ?_))
  refine he X A env s O S _ E fun v s1 k1 r1 => ?_
  obtain ⟨l, vs, rfl, hx0, hl, hr⟩ := r1
  obtain ⟨v0, r, e0, h0, v1, r', e1, h1, e2⟩ := hr
  subst e2
  have ev : vs = #[v0, v1] := by apply Array.toList_inj.mp; rw [e0, e1]
  subst ev
  refine call_max2 (X := X) O.hd (by have := O.un; show A.units + 10 < 9900; omega) hl h0 h1 fun h' tk kk => hQ _ _ (keeps_tr k1.1 ⟨h', tk, rfl, kk⟩) ?_
  unfold maxL
  split
  · exact h1.grow kk
  · exact h0.grow kk

theorem ev_tuple_map {fe le : Expr} {tp mp mpos pos : Pos} {f : Value} {ys : List Str} {g : Str → Str} (hx0 : (("tuple" : Str), Bd.glo) ∈ ρ) (hm0 : C.mg "tuple" = none) (hx : (("map" : Str), Bd.glo) ∈ ρ) (hm : C.mg "map" = none) (hf : ValR C (k + 2) ρ fe f) (hl : EvR C (k + 2) ρ le (.list (ys.map PyData.str)))
    (hc : ∀ y ∈ ys, ∀ t, CallR C k f (.str y t) (fun v => ∃ u, v = .str (g y) u)) (hn : ys.length ≤ 1000000) (hs : ∀ env, starEach [fe, le] env = [(false, eval fe env), (false, eval le env)] := by intro _; rfl)
    (hs1 : ∀ env, starEach [.Call (.Name "map" mp) [fe, le] [] mpos] env = [(false, eval (.Call (.Name "map" mp) [fe, le] [] mpos) env)] := by intro _; rfl) :
    EvR C (k + 2) ρ (.Call (.Name "tuple" tp) [.Call (.Name "map" mp) [fe, le] [] mpos] [] pos) (.tuple ((ys.map g).map PyData.str)) := by
  intro X A env s O S
  refine gv_of fun Q E hQ => ?_
  refine Call_name1 (hs1 env) (ev_builtin (v := .type "tuple") O S hx0 hm0 (by decide +kernel) (by decide) (PySem.callWith_type1 (ev_map hx hm hf hl hc hs O S fun z I s2 R => ?_)))
  obtain ⟨kp, hI, fp, St, W, hT, hst, hfp, hz⟩ := R
  refine call_tuple_map (W A.in1.in1.in1 ?_) hT hst hfp hz (fun s' acc hm' hi => ?_) (sz_le hn)
  · exact ⟨O.hd, by have := O.dp; show A.depth + (k + 1) ≤ 950; omega, by have := O.un; show A.units + 1 + 1 + 1 + 20 * (k + 1) ≤ 9700; omega⟩
  have kk := moved_kp kp hI hm'
  refine hQ _ _ (keeps_tr kk.1 kept_push) ⟨_, acc, rfl, (O.keeps kk).fresh, ⟨_, Heap.get?_push_size _ rfl, rfl, 0, rfl⟩, ?_⟩
  obtain ⟨l, hl'⟩ := exists_strValues acc.toList fun v hv => by
    obtain ⟨j, hj, rfl⟩ := Array.mem_iff_getElem.mp (Array.mem_toList_iff.mp hv)
    obtain ⟨y, _, u, hu⟩ := hi.2 j _ (Array.getElem?_eq_getElem hj)
    exact ⟨_, _, hu⟩
  have hi' : ItemsOf (fun i v => ∃ y, ys[i]? = some y ∧ ∃ u, v = .str (g y) u) (strValues l).toArray ys.length := by rw [hl']; simpa using hi
  rw [← items_map hi', ← hl']
  exact strVals_rd l
end
end
section
set_option Elab.async false
set_option maxRecDepth 100000
set_option maxHeartbeats 4000000
noncomputable def rhoC (x y : Str) (s1 s2 common : List Str) (bi bc : Bd) : Rho := [("sep", .cel (.str "/")), ("isabs", .loc (.bool true)), ("s1", .loc (.list (s1.map PyData.str))), ("s2", .loc (.list (s2.map PyData.str))), ("common", .loc (.list (common.map PyData.str))), ("i", bi), ("c", bc), ("prefix", .unl), ("enumerate", .glo)]

theorem enum_eq (as : List Str) : enumD (as.map PyData.str) = (List.range as.length).map fun (i : Nat) => PyData.tuple [.int (i : Int), .str (as.getD i "")] := by
  unfold enumD
  rw [List.length_map]
  apply List.map_congr_left
  intro i hi
  simp only [List.mem_range] at hi
  simp [List.getD_eq_getElem?_getD, List.getElem?_eq_getElem hi]

section
variable {C : Cx} {k : Nat} {ρ : Rho}

theorem for_common {x y : Str} {s1 s2 : List Str} {body : List Stmt} {p1 p2 tp : Pos}
    (hbody : ∀ (i : Nat) (a b : Str), s1[i]? = some a → s2[i]? = some b → (a = b → ExR C k (rhoC x y s1 s2 s1 (.loc (.int (i : Int))) (.loc (.str a))) body (.next (rhoC x y s1 s2 s1 .unl .unl))) ∧
      (a ≠ b → ExR C k (rhoC x y s1 s2 s1 (.loc (.int (i : Int))) (.loc (.str a))) body (.brk (rhoC x y s1 s2 (s1.take i) .unl .unl)))) (hno : NoOver s1 s2) :
    ∀ (n i : Nat), i + n = s1.length → s1.take i = s2.take i → ForR C k (.Tuple [.Name "i" p1, .Name "c" p2] 0 tp) body (rhoC x y s1 s2 s1 .unl .unl) ((List.range' i n).map fun (i : Nat) => PyData.tuple [.int (i : Int), .str (s1.getD i "")]) (.next (rhoC x y s1 s2 (comP s1 s2) .unl .unl))
  | 0, i, hi, ht => by
    have : comP s1 s2 = s1 := comP_full (by
      have h1 : i = s1.length := by omega
      subst h1
      rw [List.take_length] at ht
      exact ht)
    rw [this]
    exact .nil
  | n + 1, i, hi, ht => by
    have hil : i < s1.length := by omega
    have hi2 := hno i hil ht
    have e1 : s1[i]? = some s1[i] := List.getElem?_eq_getElem hil
    have e2 : s2[i]? = some s2[i] := List.getElem?_eq_getElem hi2
    have eg : s1.getD i "" = s1[i] := by rw [List.getD_eq_getElem?_getD, e1]; rfl
    rw [List.range'_succ, List.map_cons, eg]
    have ha1 : SetL (rhoC x y s1 s2 s1 .unl .unl) "i" (.int (i : Int)) (rhoC x y s1 s2 s1 (.loc (.int (i : Int))) .unl) := by unfold rhoC; walk_at "set"
    have ha2 : SetL (rhoC x y s1 s2 s1 (.loc (.int (i : Int))) .unl) "c" (.str s1[i]) (rhoC x y s1 s2 s1 (.loc (.int (i : Int))) (.loc (.str s1[i]))) := by unfold rhoC; walk_at "set"
    have ha : AsgR C k (.Tuple [.Name "i" p1, .Name "c" p2] 0 tp) (.tuple [.int (i : Int), .str s1[i]]) (rhoC x y s1 s2 s1 .unl .unl) (rhoC x y s1 s2 s1 (.loc (.int (i : Int))) (.loc (.str s1[i]))) :=
      asg_tuple (xs := [("i", p1), ("c", p2)]) (.cons ha1 (.cons ha2 .nil)) rfl
    obtain ⟨hb1, hb2⟩ := hbody i _ _ e1 e2
    by_cases h : s1[i] = s2[i]
    · exact .next ha (hb1 h) (for_common hbody hno n (i + 1) (by omega) (by rw [List.take_succ_eq_append_getElem hil, List.take_succ_eq_append_getElem hi2, ht, h]))
    · rw [comP_take ht e1 e2 h]
      exact .brk ha (hb2 h)

theorem fn_commonpath (N : Nm2 C) (x y : Str) (hx : x.length ≤ 400) (hy : y.length ≤ 400) (h1 : Txt.startswith x "/" = true) (h2 : Txt.startswith y "/" = true) : FnR C (k + 4) "commonpath" [.list [.str x, .str y]] (.str (commonF x y)) := by
  obtain ⟨fa, fo, fpm, fcode, fdoc, hfa, _⟩ := N.fspath
  refine fn_intro (k := k + 3) (names := ["paths"]) (ρ := [("paths", .loc (.list [.str x, .str y])), ("sep", .unc), ("curdir", .unc), ("split_paths", .unl), ("isabs", .unl), ("s1", .unl), ("s2", .unl), ("common", .unl), ("i", .unl), ("c", .unl), ("prefix", .unl), ("tuple", .glo), ("map", .glo), ("fspath", .glo), ("isinstance", .glo), ("bytes", .glo), ("min", .glo), ("max", .glo), ("enumerate", .glo)]) N.commonpath (by intro _ _ _ vs h; match vs, h with | [v], _ => rfl) rfl (by decide) (by decide +kernel) (by decide +kernel) ⟨⟨rfl, rfl⟩, rfl, rfl, rfl, rfl, rfl, rfl, rfl, rfl, rfl, rfl, rfl, rfl, rfl, rfl, rfl, rfl, rfl, rfl, trivial⟩ ?_
  refine ex_next (st_assign (d := .tuple [.str x, .str y]) (ev_tuple_map (k := k + 1) (ys := [x, y]) (g := fun z => z) (by walk_at "mem") N.tuple (by walk_at "mem") N.map (val_def (by walk_at "mem") hfa) (ev_loc (by walk_at "mem")) (fun z _ t => call_fn (g := fun z => z) hfa (fn_fs (k := k) N.toNm z)) (by simp)) (by walk_at "set")) ?_
  refine ex_next (st_if_f (te_of (te_not (te_tup (ev_loc (by walk_at "mem")) (by simp))) rfl) ex_nil) ?_
  refine ex_next (st_if_f (te_bool (ev_isinst_bytes (by walk_at "mem") N.isinstance (by walk_at "mem") N.bytes (ev_item_tup (n := 0) (d := .str x) (ev_loc (by walk_at "mem")) ev_int (by decide) (by decide) rfl))) (ex_next (st_assign ev_str (by walk_at "set")) (ex_one (st_assign ev_str (by walk_at "set"))))) ?_
  have hsx := split_len x
  have hsy := split_len y
  have hmx : ∀ z ∈ Txt.split x "/", z.length ≤ 400 := fun z hz => Nat.le_trans (split_mem hz) hx
  have hmy : ∀ z ∈ Txt.split y "/", z.length ≤ 400 := fun z hz => Nat.le_trans (split_mem hz) hy
  have hcx : (compsC x).length ≤ 401 ∧ ∀ z ∈ compsC x, z.length ≤ 400 := ⟨by have := List.length_filter_le (fun c : Str => decide (c.length ≠ 0) && !decide (c = ".")) (Txt.split x "/"); unfold compsC; omega, fun z hz => hmx z (List.mem_filter.mp hz).1⟩
  have hcy : (compsC y).length ≤ 401 ∧ ∀ z ∈ compsC y, z.length ≤ 400 := ⟨by have := List.length_filter_le (fun c : Str => decide (c.length ≠ 0) && !decide (c = ".")) (Txt.split y "/"); unfold compsC; omega, fun z hz => hmy z (List.mem_filter.mp hz).1⟩
  refine ex_ret (st_try_ret ?_)
  -- the split paths
  refine ex_next (st_assign_comp (ds := [.str x, .str y]) (rs := [.list ((Txt.split x "/").map PyData.str), .list ((Txt.split y "/").map PyData.str)]) [("path", .unl), ("sep", .cel (.str "/"))] (by walk_at "mem") (.inl rfl) (it_tuple (ev_loc (by walk_at "mem"))) ⟨rfl, ⟨rfl, by walk_at "mem"⟩, trivial⟩ ⟨⟨_, by walk_at "mem"⟩, trivial⟩ ?_ (by simp) (by walk_at "set")) ?_
  · refine comp_all [x, y] (d := PyData.str) (g := fun z => PyData.list ((Txt.split z "/").map PyData.str)) fun z hz => ⟨[("path", .loc (.str z)), ("sep", .cel (.str "/"))], casg_name (by walk_at "cset"), CSet.back (x := "path") (d := .str z) (by walk_at "cset"), tests_nil, ?_⟩
    have hzl : z.length ≤ 400 := by simp at hz; rcases hz with rfl | rfl <;> assumption
    exact ev_m1 (ev_loc (by walk_at "mem")) (ev_cel (by walk_at "mem")) (m_split (by omega) (by decide +kernel) (by have := parts_len z; omega))
  -- isabs
  refine ex_next (st_try_next (ex_one (st_set_true (ds := [.str x, .str y]) [("p", .unl), ("sep", .cel (.str "/"))] (it_tuple (ev_loc (by walk_at "mem"))) ⟨rfl, ⟨rfl, by walk_at "mem"⟩, trivial⟩ ⟨⟨_, by walk_at "mem"⟩, trivial⟩ ?_ (by simp) (by simp) (by walk_at "set")))) ?_
  · intro d hd
    have hd' : ∃ z, d = .str z ∧ Txt.startswith z "/" = true := by simp at hd; rcases hd with rfl | rfl; exact ⟨x, rfl, h1⟩; exact ⟨y, rfl, h2⟩
    obtain ⟨z, rfl, hz⟩ := hd'
    refine ⟨[("p", .loc (.str z)), ("sep", .cel (.str "/"))], casg_name (by walk_at "cset"), CSet.back (x := "p") (d := .str z) (by walk_at "cset"), ?_⟩
    rw [← hz]
    exact ev_m1 (ev_loc (by walk_at "mem")) (ev_cel (by walk_at "mem")) m_startswith
  -- the plain parts
  refine ex_next (st_assign_comp (ds := [.list ((Txt.split x "/").map PyData.str), .list ((Txt.split y "/").map PyData.str)]) (rs := [.list ((compsC x).map PyData.str), .list ((compsC y).map PyData.str)]) [("s", .unl), ("curdir", .cel (.str "."))] (by walk_at "mem") (.inr ⟨_, rfl⟩) (it_list (ev_loc (by walk_at "mem"))) ⟨rfl, ⟨rfl, by walk_at "mem"⟩, trivial⟩ ⟨⟨_, by walk_at "mem"⟩, trivial⟩ ?_ (by simp) (by walk_at "set")) ?_
  · refine comp_all [x, y] (d := fun z => PyData.list ((Txt.split z "/").map PyData.str)) (g := fun z => PyData.list ((compsC z).map PyData.str)) fun z hz => ⟨[("s", .loc (.list ((Txt.split z "/").map PyData.str))), ("curdir", .cel (.str "."))], casg_name (by walk_at "cset"), CSet.back (x := "s") (d := .list ((Txt.split z "/").map PyData.str)) (by walk_at "cset"), tests_nil, ?_⟩
    have hzc : (compsC z).length ≤ 401 := by simp at hz; rcases hz with rfl | rfl; exact hcx.1; exact hcy.1
    have hzm : ∀ c ∈ Txt.split z "/", c.length ≤ 400 := by simp at hz; rcases hz with rfl | rfl <;> assumption
    generalize hrs : (compsC z).map PyData.str = rs
    have hrl : rs.length ≤ 1000000 := by rw [← hrs, List.length_map]; omega
    refine ev_comp (ds := (Txt.split z "/").map PyData.str) [("c", .unl), ("curdir", .cel (.str "."))] (it_list (ev_loc (by walk_at "mem"))) ⟨rfl, ⟨rfl, by walk_at "mem"⟩, trivial⟩ ⟨⟨_, by walk_at "mem"⟩, trivial⟩ ?_ hrl
    subst hrs
    unfold compsC
    refine comp_map (Txt.split z "/") fun c hc => ⟨[("c", .loc (.str c)), ("curdir", .cel (.str "."))], casg_name (by walk_at "cset"), CSet.back (x := "c") (d := .str c) (by walk_at "cset"), tests_one (te_and2 (te_str (ev_loc (by walk_at "mem")) (by have := hzm c hc; omega)) fun _ => te_cmp (ev_loc (by walk_at "mem")) (ev_cel (by walk_at "mem")) cmp_ne_str), fun _ => ev_loc (by walk_at "mem")⟩
  have hmin : (minL (compsC x) (compsC y)).length ≤ 401 ∧ ∀ z ∈ minL (compsC x) (compsC y), z.length ≤ 400 := by unfold minL; split <;> assumption
  have hmax : (maxL (compsC x) (compsC y)).length ≤ 401 := by unfold maxL; split; exact hcy.1; exact hcx.1
  have hno := minmax_noover (compsC x) (compsC y)
  refine ex_next (st_assign (ev_min2 (by walk_at "mem") N.min (ev_loc (by walk_at "mem"))) (by walk_at "set")) ?_
  refine ex_next (st_assign (ev_max2 (by walk_at "mem") N.max (ev_loc (by walk_at "mem"))) (by walk_at "set")) ?_
  refine ex_next (st_assign (ev_loc (by walk_at "mem")) (by walk_at "set")) ?_
  unfold commonF
  generalize minL (compsC x) (compsC y) = s1 at *
  generalize maxL (compsC x) (compsC y) = s2 at *
  refine ex_sub (ρ' := rhoC x y s1 s2 s1 .unl .unl) ?_ (by intro q hq; simp [rhoC] at hq ⊢; rcases hq with rfl | rfl | rfl | rfl | rfl | rfl | rfl | rfl | rfl <;> simp)
  refine ex_next (ρ' := rhoC x y s1 s2 (comP s1 s2) .unl .unl) (st_for (it_enum (as := s1.map PyData.str) (by unfold rhoC; walk_at "mem") N.enumerate (ev_loc (by unfold rhoC; walk_at "mem"))) ?_) ?_
  · rw [enum_eq, List.range_eq_range']
    refine for_common (fun i a b ha hb => ?_) hno s1.length 0 (by simp) rfl
    have hil := (List.getElem?_eq_some_iff.mp hb).1
    have ht : ∀ q1 q2 q3 q4 q5, TestR C (k + 3) (rhoC x y s1 s2 s1 (.loc (.int (i : Int))) (.loc (.str a))) (.Compare (.Name "c" q1) [.NotEq] [.Subscript (.Name "s2" q2) (.Name "i" q3) q4] q5) (!decide (a = b)) := fun q1 q2 q3 q4 q5 =>
      te_cmp (ev_loc (by unfold rhoC; walk_at "mem")) (ev_item (n := (i : Int)) (d := .str b) (xs := s2.map PyData.str) (ev_loc (by unfold rhoC; walk_at "mem")) (ev_loc (by unfold rhoC; walk_at "mem")) (by omega) (by omega) (by rw [Int.toNat_natCast, List.getElem?_map, hb]; rfl)) cmp_ne_str
    refine ⟨fun h => ?_, fun h => ?_⟩
    · exact ex_fg (ρ' := rhoC x y s1 s2 s1 (.loc (.int (i : Int))) (.loc (.str a))) (ex_one (st_if_f (te_of (ht _ _ _ _ _) (by simp [h])) ex_nil)) (by unfold rhoC; walk_at "fg")
    · refine ex_fg_b (ρ' := rhoC x y s1 s2 (s1.take i) (.loc (.int (i : Int))) (.loc (.str a))) (ex_brk (st_if_t (te_of (ht _ _ _ _ _) (by simp [h])) (ex_next (st_assign (d := .list ((s1.take i).map PyData.str)) ?_ (by unfold rhoC; walk_at "set")) (ex_brk st_break)))) (by unfold rhoC; walk_at "fg")
      have := ev_slice_list (C := C) (k := k + 3) (ρ := rhoC x y s1 s2 s1 (.loc (.int (i : Int))) (.loc (.str a))) (v := .Name "s1" ⟨166, 25, 166, 27⟩) (lo := none) (hi := some (.Name "i" ⟨166, 29, 166, 30⟩)) (p := ⟨166, 28, 166, 30⟩) (pos := ⟨166, 25, 166, 31⟩) (xs := s1.map PyData.str) (a := none) (b := some i) (ev_loc (by unfold rhoC; walk_at "mem")) trivial (show EvR _ _ _ _ _ from ev_loc (by unfold rhoC; walk_at "mem")) (by rw [List.length_map]; omega)
      rw [show cutL none (some i) (s1.map PyData.str) = (s1.take i).map PyData.str by simp [cutL, List.map_take]] at this
      exact this
  have hcl : (comP s1 s2).length ≤ 401 ∧ ∀ z ∈ comP s1 s2, z.length ≤ 400 := by
    have sub : ∀ (a b : List Str), (comP a b).Sublist a := by
      intro a
      induction a with
      | nil => intro b; simp [comP]
      | cons x a ih =>
        intro b
        cases b with
        | nil => simp [comP]
        | cons y b =>
          rw [comP]
          split
          · exact (ih b).cons_cons x
          · exact List.nil_sublist _
    exact ⟨Nat.le_trans (sub s1 s2).length_le hmin.1, fun z hz => hmin.2 z ((sub s1 s2).subset hz)⟩
  have hjl := join_len (sep := "/") hcl.2
  rw [slash_len] at hjl
  refine ex_next (ρ' := [("prefix", .loc (.str "/")), ("sep", .cel (.str "/")), ("common", .loc (.list ((comP s1 s2).map PyData.str)))]) ?_ (ex_ret (st_return (ev_binop (ev_loc (by walk_at "mem")) (ev_m1 (ev_cel (by walk_at "mem")) (ev_loc (by walk_at "mem")) (m_join ?_)) (bin_add_str ?_))))
  · have st := st_assign (C := C) (k := k + 3) (ρ := rhoC x y s1 s2 (comP s1 s2) .unl .unl) (x := "prefix") (xp := ⟨168, 8, 168, 14⟩) (pos := ⟨168, 8, 168, 42⟩) (d := .str "/") (ρ' := [("sep", .cel (.str "/")), ("isabs", .loc (.bool true)), ("s1", .loc (.list (s1.map PyData.str))), ("s2", .loc (.list (s2.map PyData.str))), ("common", .loc (.list ((comP s1 s2).map PyData.str))), ("i", .unl), ("c", .unl), ("prefix", .loc (.str "/")), ("enumerate", .glo)]) (ev_if_t (te_bool (ev_loc (by unfold rhoC; walk_at "mem"))) (ev_cel (by unfold rhoC; walk_at "mem"))) (by unfold rhoC; walk_at "set") (e := .IfExp (.Name "isabs" ⟨168, 24, 168, 29⟩) (.Name "sep" ⟨168, 17, 168, 20⟩) (.Subscript (.Name "sep" ⟨168, 35, 168, 38⟩) (.Slice none (some (.Constant (.int 0) 0 ⟨168, 40, 168, 41⟩)) none ⟨168, 39, 168, 41⟩) ⟨168, 35, 168, 42⟩) ⟨168, 17, 168, 42⟩)
    exact fun X A env s O w S Q E hQ => st X A env s O w S Q E fun fl s' k' w' e => hQ fl s' k' w' ⟨e.1, e.2.sub (by intro q hq; simp at hq ⊢; rcases hq with rfl | rfl | rfl <;> simp)⟩
  · refine joinOk_of ?_
    have := sum_le (xs := comP s1 s2) (f := fun x => x) (B := 400) hcl.2
    rw [List.map_id'] at this
    rw [slash_len]; omega
  · rw [slash_len]; omega
end
end
section
set_option Elab.async false
set_option maxRecDepth 100000
set_option maxHeartbeats 4000000
noncomputable def tailF (x : Str) : Str := cutS (some (cutI x)) none x
noncomputable def numsOf' (script : List Int) : List Int := [0, 521, 96, 787, 3128, 1033] ++ script.take 10
noncomputable def plainOf (rows : List Row) (c : List Nat) : Str := normF (wayF rows c)
noncomputable def shelfOf (places : List Str) : List (Str × Str × Str) := places.map fun p => (headF p, tailF p, p)

/-- all that the walk of law asks of the plain law -/
structure LawOk (rows : List Row) (chains : List (List Nat)) (up : List Nat → List Str) (rank : Str → Nat) (n : Nat) : Prop where
  G : Good rows
  cnt : ∀ n c, (chF n rows c).length ≤ 1000000
  chE : chF rows.length rows [0] = chains
  ne : chains ≠ []
  few : chains.length ≤ 1000
  lt : ∀ c ∈ chains, ∀ x ∈ c, x < rows.length
  pos : ∀ c ∈ chains, ∀ x ∈ c.drop 1, 0 < x
  len : ∀ c ∈ chains, c.length ≤ 17
  way : ∀ c ∈ chains, (wayF rows c).length ≤ 400 ∧ cutS none (some 1) (wayF rows c) = "/" ∧ cutS (some 1) (some 2) (wayF rows c) ≠ "/"
  pl : ∀ c ∈ chains, (plainOf rows c).length ≤ 400 ∧ Txt.startswith (plainOf rows c) "/" = true
  com : ∀ i c d, chains[i]? = some c → chains[i + 1]? = some d → commonF (plainOf rows c) (plainOf rows d) = sharedF rows c d
  okS : ∀ i c d, chains[i]? = some c → chains[i + 1]? = some d → PyData.strOk (sharedF rows c d) = true
  climb : ∀ c ∈ chains, Climbs (plainOf rows c) (up c) ∧ (up c).length ≤ 100
  plc : (placesF (chains.map up)).length ≤ 100000
  plcL : ∀ p ∈ placesF (chains.map up), p.length ≤ 1000
  rnk : ∀ e ∈ shelfOf (placesF (chains.map up)), rank e.2.2 < rank e.1
  top : rank "/" < n
  nle : n ≤ 180
  read : readD n (shelfOf (placesF (chains.map up))) "/" = treeD rows.length rows 0
  lay : (treeD rows.length rows 0).canLay0 = true
  dep : (treeD rows.length rows 0).depth ≤ 64
  self : PyData.eqv (treeD rows.length rows 0) (treeD rows.length rows 0) = true

section
variable {C : Cx} {k : Nat} {ρ : Rho}
noncomputable def rhoL (script : List Int) (b1 b2 b3 b4 b5 b6 : Bd) : Rho := [("script", .loc (.list (script.map PyData.int))), ("rows", b1), ("chains", b2), ("plain", b3), ("shared", b4), ("due", b5), ("shelf", b6), ("_law_rows", .glo), ("_law_chains", .glo), ("range", .glo), ("len", .glo), ("_law_places", .glo), ("_law_read", .glo), ("_law_tree", .glo)]

theorem law_body (N : Nm2 C) (D : DefD C "capwords" (argsOf "capwords") (bodyOf "capwords") (scopeOf "capwords")) (script : List Int) (hs : script.length ≤ 1000) {chains : List (List Nat)} {up : List Nat → List Str} {rank : Str → Nat} {n : Nat} (H : LawOk (rowsF (numsOf' script)) chains up rank n) :
    ExR C 200 (rhoL script .unc .unc .unc .unl .unl .unl) (bodyOf "law") (.ret (.bool true)) := by
  have hG := H.G
  have hrl := hG.len
  have hrp := hG.pos
  generalize hrows : rowsF (numsOf' script) = rows at *
  have hplain : ∀ c ∈ chains, (plainOf rows c).length ≤ 400 := fun c hc => (H.pl c hc).1
  have hnl := H.few
  have hne := H.ne
  have hpos : 0 < chains.length := List.length_pos_iff.mpr hne
  refine ex_next (ρ' := rhoL script (.cel (rowsD rows)) .unc .unc .unl .unl .unl) (st_assign (ev_call (by unfold rhoL; walk_at "mem") (evs_cons (d := .list ((numsOf' script).map PyData.int)) ?_ evs_nil) ((fn_rows (k := 0) N.rows N.len (numsOf' script) ?_).more (by omega))) (by rw [hrows]; unfold rhoL; walk_at "set")) ?_
  · unfold numsOf'
    rw [List.map_append, List.map_take]
    exact ev_binop (ev_list (evs_cons ev_int (evs_cons ev_int (evs_cons ev_int (evs_cons ev_int (evs_cons ev_int (evs_cons ev_int evs_nil))))))) (ev_slice_list (xs := script.map PyData.int) (a := none) (b := some 10) (ev_loc (by unfold rhoL; walk_at "mem")) trivial ev_int (by rw [List.length_map]; omega)) (bin_add_list (by simp [cutL]; omega))
  · unfold numsOf'; simp; omega
  refine ex_next (ρ' := rhoL script (.cel (rowsD rows)) (.cel (chainsD chains)) .unc .unl .unl .unl) (st_assign (ev_call (by unfold rhoL; walk_at "mem") (evs_cons (ev_cel (by unfold rhoL; walk_at "mem")) (evs_cons (d := intsD [0]) (ev_list (evs_cons ev_int evs_nil)) evs_nil)) (by
    have := fn_chains N.chains N.len N.range rows hG H.cnt rows.length [0] ⟨by simp, by simpa using hrp, by simp⟩ (by simp)
    rw [H.chE] at this
    exact this.more (by omega))) (by unfold rhoL; walk_at "set")) ?_
  -- plain
  refine ex_next (ρ' := rhoL script (.cel (rowsD rows)) (.cel (chainsD chains)) (.cel (.list ((chains.map (plainOf rows)).map PyData.str))) .unl .unl .unl) ?_ ?_
  · refine st_assign_ccel (b := .unc) (by unfold rhoL; walk_at "mem") (.inl rfl) ?_ (by unfold rhoL; walk_at "set")
    generalize hrs : (chains.map (plainOf rows)).map PyData.str = rs
    have hrsl : rs.length ≤ 1000000 := by rw [← hrs]; simp; omega
    refine ev_comp (ds := chains.map intsD) [("chain", .unl), ("rows", .cel (rowsD rows)), ("normpath", .glo), ("_law_way", .glo)] (it_list (ev_cel (d := chainsD chains) (by unfold rhoL; walk_at "mem"))) ⟨rfl, ⟨rfl, by unfold rhoL; walk_at "mem"⟩, rfl, rfl, trivial⟩ ⟨⟨_, by unfold rhoL; walk_at "mem"⟩, trivial⟩ ?_ hrsl
    subst hrs
    rw [List.map_map]
    refine comp_all chains fun c hc => ⟨[("chain", .loc (intsD c)), ("rows", .cel (rowsD rows)), ("normpath", .glo), ("_law_way", .glo)], casg_name (by walk_at "cset"), CSet.back (x := "chain") (d := intsD c) (by walk_at "cset"), tests_nil, ?_⟩
    obtain ⟨w1, w2, w3⟩ := H.way c hc
    exact ev_call (by walk_at "mem") (evs_cons (ev_call (by walk_at "mem") (evs_cons (ev_cel (by walk_at "mem")) (evs_cons (ev_loc (by walk_at "mem")) evs_nil)) ((fn_way (k := 0) N rows hG c (H.lt c hc) (H.pos c hc) (H.len c hc)).more (by omega))) evs_nil) ((fn_normpath (k := 0) N (wayF rows c) w1 w2 w3).more (by omega))
  generalize hpn : chains.map (plainOf rows) = plain
  have hpl : plain.length = chains.length := by rw [← hpn]; simp
  have hpat : ∀ (i : Nat) (c : List Nat), chains[i]? = some c → plain[i]? = some (plainOf rows c) := fun i c h => by rw [← hpn, List.getElem?_map, h]; rfl
  have hlen : ∀ {b4 b5 b6 : Bd} {np p1 p2 p3 p4 : Pos}, EvR C 200 (rhoL script (.cel (rowsD rows)) (.cel (chainsD chains)) (.cel (.list (plain.map PyData.str))) b4 b5 b6) (.BinOp (.Call (.Name "len" np) [.Name "plain" p1] [] p2) .Sub (.Constant (.int 1) 0 p3) p4) (.int ((chains.length - 1 : Nat) : Int)) := by
    intro b4 b5 b6 np p1 p2 p3 p4
    rw [show ((chains.length - 1 : Nat) : Int) = ((plain.map PyData.str).length : Int) - 1 by rw [List.length_map, hpl]; omega]
    exact ev_binop (ev_len (by unfold rhoL; walk_at "mem") N.len (ev_cel (by unfold rhoL; walk_at "mem")) (by rw [List.length_map]; omega)) ev_int bin_sub_int
  generalize hsd : (fun i : Nat => PyData.str (sharedF rows (chains.getD i []) (chains.getD (i + 1) []))) = sd
  have hat : ∀ i ∈ List.range (chains.length - 1), ∃ c d, chains[i]? = some c ∧ chains[i + 1]? = some d ∧ plain[i]? = some (plainOf rows c) ∧ plain[i + 1]? = some (plainOf rows d) ∧ c ∈ chains ∧ d ∈ chains ∧ sd i = .str (sharedF rows c d) ∧ commonF (plainOf rows c) (plainOf rows d) = sharedF rows c d ∧ PyData.strOk (sharedF rows c d) = true := by
    intro i hi
    simp only [List.mem_range] at hi
    have e1 : chains[i]? = some chains[i] := List.getElem?_eq_getElem (by omega)
    have e2 : chains[i + 1]? = some chains[i + 1] := List.getElem?_eq_getElem (by omega)
    refine ⟨_, _, e1, e2, hpat _ _ e1, hpat _ _ e2, List.getElem_mem _, List.getElem_mem _, ?_, H.com i _ _ e1 e2, H.okS i _ _ e1 e2⟩
    rw [← hsd]
    simp only [List.getD_eq_getElem?_getD, e1, e2, Option.getD_some]
  generalize hrs : (List.range (chains.length - 1)).map sd = rs
  have hrsl : rs.length ≤ 1000000 := by rw [← hrs]; simp; omega
  -- shared
  refine ex_next (ρ' := rhoL script (.cel (rowsD rows)) (.cel (chainsD chains)) (.cel (.list (plain.map PyData.str))) (.loc (.list rs)) .unl .unl) ?_ ?_
  · refine st_assign_comp (ds := rangeD 0 (chains.length - 1)) (rs := rs) [("k", .unl), ("plain", .cel (.list (plain.map PyData.str))), ("commonpath", .glo)] (by unfold rhoL; walk_at "mem") (.inl rfl) (it_range1 (by unfold rhoL; walk_at "mem") N.range hlen (by omega)) ⟨rfl, ⟨rfl, by unfold rhoL; walk_at "mem"⟩, rfl, trivial⟩ ⟨⟨_, by unfold rhoL; walk_at "mem"⟩, trivial⟩ ?_ hrsl (by unfold rhoL; walk_at "set")
    rw [← hrs]
    refine comp_all (List.range (chains.length - 1)) fun i hi => ⟨[("k", .loc (.int (((0 : Nat) : Int) + (i : Nat)))), ("plain", .cel (.list (plain.map PyData.str))), ("commonpath", .glo)], casg_name (by walk_at "cset"), CSet.back (x := "k") (d := .int (((0 : Nat) : Int) + (i : Nat))) (by walk_at "cset"), tests_nil, ?_⟩
    obtain ⟨c, d, e1, e2, e3, e4, c1, c2, e5, e6, e7⟩ := hat i hi
    rw [e5, ← e6]
    obtain ⟨l1, l2⟩ := H.pl c c1
    obtain ⟨l3, l4⟩ := H.pl d c2
    have e0 : (((0 : Nat) : Int) + (i : Nat)) = (i : Int) := by simp
    rw [e0]
    refine ev_call (by walk_at "mem") (evs_cons (d := .list [.str (plainOf rows c), .str (plainOf rows d)]) ?_ evs_nil) ((fn_commonpath (k := 0) N _ _ l1 l3 l2 l4).more (by omega))
    have hcut : cutL (some i) (some (i + 2)) (plain.map PyData.str) = [.str (plainOf rows c), .str (plainOf rows d)] := by
      unfold cutL
      apply List.ext_getElem?
      intro j
      simp only [Option.getD_some]
      rw [List.getElem?_drop, List.getElem?_take, List.getElem?_map]
      match j with
      | 0 => rw [if_pos (by omega), Nat.add_zero, e3]; rfl
      | 1 => rw [if_pos (by omega), e4]; rfl
      | j + 2 => rw [if_neg (by omega)]; rfl
    rw [← hcut]
    exact ev_slice_list (a := some i) (b := some (i + 2)) (ev_cel (by walk_at "mem")) (show EvR _ _ _ _ _ from ev_loc (by walk_at "mem")) (show EvR _ _ _ _ _ from by rw [Int.natCast_add]; exact ev_binop (ev_loc (by walk_at "mem")) ev_int bin_add_int) (by rw [List.length_map]; omega)
  -- due
  refine ex_next (ρ' := rhoL script (.cel (rowsD rows)) (.cel (chainsD chains)) (.cel (.list (plain.map PyData.str))) (.loc (.list rs)) (.loc (.list rs)) .unl) ?_ ?_
  · refine st_assign_comp (ds := rangeD 0 (chains.length - 1)) (rs := rs) [("k", .unl), ("rows", .cel (rowsD rows)), ("chains", .cel (chainsD chains)), ("_law_shared", .glo)] (by unfold rhoL; walk_at "mem") (.inl rfl) (it_range1 (by unfold rhoL; walk_at "mem") N.range hlen (by omega)) ⟨rfl, ⟨rfl, by unfold rhoL; walk_at "mem"⟩, ⟨rfl, by unfold rhoL; walk_at "mem"⟩, rfl, trivial⟩ ⟨⟨_, by unfold rhoL; walk_at "mem"⟩, ⟨_, by unfold rhoL; walk_at "mem"⟩, trivial⟩ ?_ hrsl (by unfold rhoL; walk_at "set")
    rw [← hrs]
    refine comp_all (List.range (chains.length - 1)) fun i hi => ⟨[("k", .loc (.int (((0 : Nat) : Int) + (i : Nat)))), ("rows", .cel (rowsD rows)), ("chains", .cel (chainsD chains)), ("_law_shared", .glo)], casg_name (by walk_at "cset"), CSet.back (x := "k") (d := .int (((0 : Nat) : Int) + (i : Nat))) (by walk_at "cset"), tests_nil, ?_⟩
    obtain ⟨c, d, e1, e2, e3, e4, c1, c2, e5, e6, e7⟩ := hat i hi
    simp only [List.mem_range] at hi
    rw [e5]
    have e0 : (((0 : Nat) : Int) + (i : Nat)) = (i : Int) := by simp
    rw [e0]
    refine ev_call (by walk_at "mem") (evs_cons (ev_cel (by walk_at "mem")) (evs_cons (d := intsD c) (ev_item (n := (i : Int)) (xs := chains.map intsD) (ev_cel (d := chainsD chains) (by walk_at "mem")) (ev_loc (by walk_at "mem")) (by omega) (by omega) (by rw [Int.toNat_natCast, List.getElem?_map, e1]; rfl)) (evs_cons (d := intsD d) (ev_item (n := ((i : Int) + 1)) (xs := chains.map intsD) (ev_cel (d := chainsD chains) (by walk_at "mem")) (ev_binop (ev_loc (by walk_at "mem")) ev_int bin_add_int) (by omega) (by omega) (by rw [show ((i : Int) + 1).toNat = i + 1 by omega, List.getElem?_map, e2]; rfl)) evs_nil))) ((fn_shared (k := 0) N.shared N.zip rows hG c d (H.lt c c1) (H.len c c1)).more (by omega))
  -- shelf
  generalize hpls : placesF (chains.map up) = places at *
  have hplaces := H.plc
  have hplcL := H.plcL
  have hread := H.read
  have hrnk := H.rnk
  rw [hpls] at hplaces hplcL hread hrnk
  have hfp : FnR C 200 "_law_places" [.list (plain.map PyData.str)] (.list (places.map PyData.str)) := by
    have := fn_places (k := 0) N (chains.map fun c => (plainOf rows c, up c)) (by
      intro p hp
      obtain ⟨c, hc, rfl⟩ := List.mem_map.mp hp
      exact H.climb c hc) (by rw [List.map_map]; show (placesF (chains.map up)).length ≤ _; rw [hpls]; exact hplaces)
    have q1 : (chains.map fun c => (plainOf rows c, up c)).map (·.1) = plain := by rw [List.map_map]; exact hpn
    have q2 : (chains.map fun c => (plainOf rows c, up c)).map (·.2) = chains.map up := by rw [List.map_map]; rfl
    rw [q1, q2, hpls] at this
    exact this.more (by omega)
  refine ex_next (ρ' := rhoL script (.cel (rowsD rows)) (.cel (chainsD chains)) (.cel (.list (plain.map PyData.str))) (.loc (.list rs)) (.loc (.list rs)) (.loc (shelfD (shelfOf places)))) ?_ ?_
  · generalize hsh : (places.map fun p => PyData.list [.str (headF p), .str (tailF p), .str p]) = sh
    have hshl : sh.length ≤ 1000000 := by rw [← hsh, List.length_map]; omega
    have he : shelfD (shelfOf places) = .list sh := by rw [← hsh]; unfold shelfD shelfOf; rw [List.map_map]; rfl
    rw [he]
    refine st_assign_comp (ds := places.map PyData.str) (rs := sh) [("place", .unl), ("split", .glo)] (by unfold rhoL; walk_at "mem") (.inl rfl) (it_list (ev_call (by unfold rhoL; walk_at "mem") (evs_cons (ev_cel (by unfold rhoL; walk_at "mem")) evs_nil) hfp)) ⟨rfl, rfl, trivial⟩ trivial ?_ hshl (by unfold rhoL; walk_at "set")
    rw [← hsh]
    refine comp_all places fun p hp => ⟨[("place", .loc (.str p)), ("split", .glo)], casg_name (by walk_at "cset"), CSet.back (x := "place") (d := .str p) (by walk_at "cset"), tests_nil, ?_⟩
    have hsp : FnR C 200 "split" [.str p] (.tuple [.str (headF p), .str (tailF p)]) := (fn_split (k := 0) N.toNm N.split p (hplcL p hp)).more (by omega)
    exact ev_list (evs_cons (ev_item_tup (n := 0) (ev_call (by walk_at "mem") (evs_cons (ev_loc (by walk_at "mem")) evs_nil) hsp) ev_int (by decide) (by decide) rfl) (evs_cons (ev_item_tup (n := 1) (ev_call (by walk_at "mem") (evs_cons (ev_loc (by walk_at "mem")) evs_nil) hsp) ev_int (by decide) (by decide) rfl) (evs_cons (ev_loc (by walk_at "mem")) evs_nil))) (by simp)
  -- the answer
  obtain ⟨ys, hry, hyo⟩ : ∃ ys : List Str, rs = ys.map PyData.str ∧ ∀ y ∈ ys, PyData.strOk y = true := by
    refine ⟨(List.range (chains.length - 1)).map fun i => sharedF rows (chains.getD i []) (chains.getD (i + 1) []), ?_, ?_⟩
    · rw [← hrs, ← hsd, List.map_map]; rfl
    · intro y hy
      obtain ⟨i, hi, rfl⟩ := List.mem_map.mp hy
      obtain ⟨c, d, e1, e2, _, _, _, _, e5, _, e7⟩ := hat i hi
      simp only [List.getD_eq_getElem?_getD, e1, e2, Option.getD_some]
      exact e7
  have hq : ∀ e ∈ shelfOf places, e.2.1.length ≤ 1000 := by
    intro e he
    obtain ⟨p, hp, rfl⟩ := List.mem_map.mp he
    exact Nat.le_trans (cutS_len _ _ _) (hplcL p hp)
  have hrd := fn_read N D (shelfOf places) rank hrnk hq (by unfold shelfOf; rw [List.length_map]; omega) n "/" H.top
  rw [hread] at hrd
  have hnle := H.nle
  refine ex_ret (st_return (ev_and_t (ev_of (ev_cmp (ev_call (by unfold rhoL; walk_at "mem") (evs_cons (ev_loc (by unfold rhoL; walk_at "mem")) (evs_cons ev_str evs_nil)) (hrd.more (by omega))) (ev_call (by unfold rhoL; walk_at "mem") (evs_cons (ev_cel (by unfold rhoL; walk_at "mem")) (evs_cons (d := .int ((0 : Nat) : Int)) ev_int evs_nil)) ((fn_tree N.tree N.len N.range rows hG rows.length 0 hrp (by omega)).more (by omega))) (cmp_eq H.lay H.lay (by rw [Nat.min_self]; exact H.dep))) (by rw [H.self])) (ev_of (ev_cmp (ev_loc (by unfold rhoL; walk_at "mem")) (ev_loc (by unfold rhoL; walk_at "mem")) (cmp_eq ?_ ?_ ?_)) ?_)))
  · rw [hry]; exact lay_strs ys hyo
  · rw [hry]; exact lay_strs ys hyo
  · have := depth_strs ys
    rw [hry, Nat.min_self]
    simp only [PyData.depth]
    omega
  · rw [hry]
    simp only [PyData.eqv, eqv_strs, decide_true]
end
end
section
set_option Elab.async false
set_option maxRecDepth 100000
set_option maxHeartbeats 4000000
open StrLaws
theorem cps_inj {a b : Str} (h : a.cps.toList = b.cps.toList) : a = b := Str.ext' (Array.toList_inj.mp h)
theorem cps_app (a b : Str) : (a ++ b).cps.toList = a.cps.toList ++ b.cps.toList := by rw [Str.cps_append, Array.toList_append]
theorem len_cps (a : Str) : a.length = a.cps.toList.length := by simp [Str.length]
theorem slash_eq : Str.ofString "/" = ⟨#[47]⟩ := by decide +kernel
theorem dash_eq : Str.ofString "-" = ⟨#[45]⟩ := by decide +kernel
theorem slash_cps : (Str.ofString "/").cps.toList = [47] := by decide +kernel
theorem nil_eq : Str.ofString "" = Str.empty := by decide +kernel

theorem app_uniq {c : Nat} : ∀ {a b u v : List Nat}, c ∉ a → c ∉ b → a ++ c :: u = b ++ c :: v → a = b ∧ u = v
  | [], [], u, v, _, _, h => by simp at h; exact ⟨rfl, h⟩
  | [], y :: b, u, v, _, hb, h => by simp at h; exact absurd (by simp [h.1]) hb
  | x :: a, [], u, v, ha, _, h => by simp at h; exact absurd (by simp [h.1]) ha
  | x :: a, y :: b, u, v, ha, hb, h => by
    simp at h
    obtain ⟨h1, h2⟩ := app_uniq (a := a) (b := b) (by simp at ha; exact ha.2) (by simp at hb; exact hb.2) h.2
    exact ⟨by rw [h.1, h1], h2⟩

theorem join_cons (s x y : Str) (r : List Str) : Str.join s (x :: y :: r) = x ++ s ++ Str.join s (y :: r) := rfl

theorem join_inj {c : Nat} : ∀ {a b : List Str}, a ≠ [] → b ≠ [] → (∀ p ∈ a, c ∉ p.cps.toList) → (∀ p ∈ b, c ∉ p.cps.toList) → Str.join ⟨#[c]⟩ a = Str.join ⟨#[c]⟩ b → a = b
  | [], _, h, _, _, _, _ => absurd rfl h
  | _ :: _, [], _, h, _, _, _ => absurd rfl h
  | [x], [y], _, _, _, _, h => by simp [Str.join] at h; rw [h]
  | [x], y :: z :: r, _, _, ha, _, h => by
    have e : x.cps.toList = y.cps.toList ++ c :: (Str.join ⟨#[c]⟩ (z :: r)).cps.toList := by
      have := congrArg (fun s : Str => s.cps.toList) h
      simp only [join_cons, cps_app] at this
      simpa [Str.join] using this
    have := ha x (by simp)
    rw [e] at this
    simp at this
  | x :: w :: q, [y], _, _, _, hb, h => by
    have e : y.cps.toList = x.cps.toList ++ c :: (Str.join ⟨#[c]⟩ (w :: q)).cps.toList := by
      have := congrArg (fun s : Str => s.cps.toList) h.symm
      simp only [join_cons, cps_app] at this
      simpa [Str.join] using this
    have := hb y (by simp)
    rw [e] at this
    simp at this
  | x :: w :: q, y :: z :: r, _, _, ha, hb, h => by
    have e : x.cps.toList ++ c :: (Str.join ⟨#[c]⟩ (w :: q)).cps.toList = y.cps.toList ++ c :: (Str.join ⟨#[c]⟩ (z :: r)).cps.toList := by
      have := congrArg (fun s : Str => s.cps.toList) h
      simp only [join_cons, cps_app] at this
      simpa using this
    obtain ⟨h1, h2⟩ := app_uniq (ha x (by simp)) (hb y (by simp)) e
    have ih := join_inj (a := w :: q) (b := z :: r) (by simp) (by simp) (fun p hp => ha p (List.mem_cons_of_mem _ hp)) (fun p hp => hb p (List.mem_cons_of_mem _ hp)) (cps_inj h2)
    rw [cps_inj h1, ih]

theorem split_ne (x y : Str) : Txt.split x y ≠ [] := by
  unfold Txt.split
  split
  · simp
  · split
    · simp
    · rw [partsBetween_eq]
      obtain ⟨p, r, h⟩ := partsFrom_ne x y.length 0 (occurrences x y 0 x.length (x.length + 1))
      rw [h]; simp

theorem split_eq {c : Nat} {ps : List Str} (h0 : ps ≠ []) (h : ∀ p ∈ ps, c ∉ p.cps.toList) : Txt.split (Str.join ⟨#[c]⟩ ps) ⟨#[c]⟩ = ps :=
  join_inj (split_ne _ _) h0 (split_free _ c) h (join_split _ _)

theorem join_app (s : Str) : ∀ {a b : List Str}, a ≠ [] → b ≠ [] → Str.join s (a ++ b) = Str.join s a ++ s ++ Str.join s b
  | [], _, h, _ => absurd rfl h
  | [x], y :: r, _, _ => rfl
  | [_], [], _, h => absurd rfl h
  | x :: w :: q, b, _, hb => by
    have ih := join_app s (a := w :: q) (b := b) (by simp) hb
    show x ++ s ++ Str.join s ((w :: q) ++ b) = (x ++ s ++ Str.join s (w :: q)) ++ s ++ Str.join s b
    rw [ih]
    simp only [Str.append_assoc]

theorem split_app (u v : Str) (c : Nat) : Txt.split (u ++ ⟨#[c]⟩ ++ v) ⟨#[c]⟩ = Txt.split u ⟨#[c]⟩ ++ Txt.split v ⟨#[c]⟩ := by
  have h1 := join_split u ⟨#[c]⟩
  have h2 := join_split v ⟨#[c]⟩
  have h3 := join_app ⟨#[c]⟩ (split_ne u ⟨#[c]⟩) (split_ne v ⟨#[c]⟩)
  rw [h1, h2] at h3
  rw [← h3]
  refine split_eq (by simp [split_ne]) fun p hp => ?_
  rcases List.mem_append.mp hp with h | h
  · exact split_free _ _ p h
  · exact split_free _ _ p h

theorem split_one {c : Nat} {x : Str} (h : c ∉ x.cps.toList) : Txt.split x ⟨#[c]⟩ = [x] :=
  split_eq (ps := [x]) (by simp) fun p hp => by rw [List.mem_singleton.mp hp]; exact h

theorem split_nil (c : Nat) : Txt.split Str.empty ⟨#[c]⟩ = [Str.empty] := split_one (by simp [Str.empty])

theorem split_slash (u v : Str) : Txt.split (u ++ "/" ++ v) "/" = Txt.split u "/" ++ Txt.split v "/" := by
  rw [slash_eq]; exact split_app u v 47
theorem split_lead (v : Str) : Txt.split ("/" ++ v) "/" = Str.empty :: Txt.split v "/" := by
  have := split_slash Str.empty v
  rw [Str.empty_append] at this
  rw [this, slash_eq, split_nil]; rfl

theorem starts_iff (x : Str) : Txt.startswith x "/" = true ↔ x.cps.toList.take 1 = [47] := by
  unfold Txt.startswith
  rw [subAt_eq, slash_cps, slash_len, List.drop_zero]
  constructor
  · intro h; simp at h; simpa using h.2
  · intro h
    have : 1 ≤ x.length := by
      rw [len_cps]
      cases hx : x.cps.toList with
      | nil => rw [hx] at h; simp at h
      | cons a r => simp
    simp [h, this]

theorem ends_iff (x : Str) : Txt.endswith x "/" = true ↔ ∃ u, x = u ++ "/" := by
  unfold Txt.endswith
  rw [subAt_eq, slash_cps, slash_len]
  constructor
  · intro h
    simp at h
    refine ⟨⟨(x.cps.toList.take (x.length - 1)).toArray⟩, cps_inj ?_⟩
    rw [cps_app, slash_cps]
    have e : x.cps.toList.drop (x.length - 1) = [47] := by
      rw [← h.2, List.take_of_length_le]
      rw [List.length_drop, len_cps]; omega
    conv => lhs; rw [← List.take_append_drop (x.length - 1) x.cps.toList, e]
  · rintro ⟨u, rfl⟩
    have h1 : (u ++ ("/" : Str)).length = u.length + 1 := by rw [Str.length_append, slash_len]
    rw [h1, cps_app, slash_cps, show u.length + 1 - 1 = u.cps.toList.length by rw [len_cps]; omega]
    simp
end
section
set_option Elab.async false
set_option maxRecDepth 100000
set_option maxHeartbeats 4000000
open StrLaws
noncomputable def wsL : List (List Str) := (wordsL.map fun a => [a]) ++ wordsL.flatMap fun a => wordsL.map fun b => [a, b]
theorem ws_in {ws : List Str} (h0 : ws ≠ []) (h2 : ws.length ≤ 2) (h : ∀ x ∈ ws, x ∈ wordsL) : ws ∈ wsL := by
  unfold wsL
  match ws, h0, h2 with
  | [a], _, _ => exact List.mem_append.mpr (.inl (List.mem_map.mpr ⟨a, h a (by simp), rfl⟩))
  | [a, b], _, _ => exact List.mem_append.mpr (.inr (List.mem_flatMap.mpr ⟨a, h a (by simp), List.mem_map.mpr ⟨b, h b (by simp), rfl⟩⟩))
theorem ws_facts : ∀ ws ∈ wsL, 47 ∉ (Txt.join "-" ws).cps.toList ∧ (Txt.join "-" ws).length ≠ 0 ∧ Txt.join "-" ws ≠ "." ∧ Txt.join "-" ws ≠ ".." ∧ PyData.strOk (Txt.join "-" ws) = true ∧ PyData.strOk (titleL ws) = true := by decide +kernel
theorem ws_inj : ∀ a ∈ wsL, ∀ b ∈ wsL, Txt.join "-" a = Txt.join "-" b → a = b := by decide +kernel
theorem ws_read : ∀ ws ∈ wsL, replW (capW (Txt.join "-" ws)) = titleL ws := by decide +kernel

structure Nice (x : Str) : Prop where
  free : 47 ∉ x.cps.toList
  ne : x.length ≠ 0
  d1 : x ≠ "."
  d2 : x ≠ ".."
  len : x.length ≤ 8
  ok : PyData.strOk x = true

theorem row_ws {rows : List Row} (G : Good rows) {k : Nat} (h0 : 0 < k) (hk : k < rows.length) : (rowAt rows k).ws ∈ wsL :=
  ws_in (G.ws k h0 hk).1 (G.ws k h0 hk).2 (G.ok k hk)
theorem name_nice {rows : List Row} (G : Good rows) {k : Nat} (h0 : 0 < k) (hk : k < rows.length) : Nice (nameK rows k) := by
  obtain ⟨a, b, c, d, e, _⟩ := ws_facts _ (row_ws G h0 hk)
  exact ⟨a, b, c, d, name_len (G.ok k hk) (G.ws k h0 hk).2, e⟩
theorem name_inj {rows : List Row} (G : Good rows) {i j : Nat} (h0 : 0 < i) (hi : i < rows.length) (h1 : 0 < j) (hj : j < rows.length) (hp : (rowAt rows i).par = (rowAt rows j).par) (h : nameK rows i = nameK rows j) : i = j :=
  G.uniq i j h0 hi h1 hj hp (ws_inj _ (row_ws G h0 hi) _ (row_ws G h1 hj) h)
theorem name_read {rows : List Row} (G : Good rows) {k : Nat} (h0 : 0 < k) (hk : k < rows.length) : replW (capW (nameK rows k)) = titleL (rowAt rows k).ws := ws_read _ (row_ws G h0 hk)

/-- what normpath keeps of the text after the first slash -/
noncomputable def keepN (t : Str) : List Str := (Txt.split t "/").foldl stepN []
theorem cutS_all (t : Str) : cutS (some 1) none (("/" : Str) ++ t) = t := by
  unfold cutS cutL
  apply cps_inj
  rw [cps_app, slash_cps]
  simp
theorem comps_keep (t : Str) : compsN ("/" ++ t) = keepN t := by
  unfold compsN keepN
  rw [cutS_all]
theorem stepN_nil (b : List Str) : stepN b Str.empty = b := by
  unfold stepN
  rw [if_pos (.inl rfl)]
theorem keep_nil : keepN Str.empty = [] := by
  unfold keepN
  rw [slash_eq, split_nil]
  exact stepN_nil []

theorem step_keep {t b : Str} (ht : t.cps.toList.take 1 ≠ [47]) (hb : b.cps.toList.take 1 ≠ [47]) :
    ∃ t', stepJ ("/" ++ t) b = "/" ++ t' ∧ t'.cps.toList.take 1 ≠ [47] ∧ keepN t' = (Txt.split b "/").foldl stepN (keepN t) := by
  have h1 : ¬ (Txt.startswith b "/" = true ∨ (("/" : Str) ++ t).length = 0) := by
    rintro (h | h)
    · exact hb ((starts_iff b).mp h)
    · rw [Str.length_append, slash_len] at h; omega
  unfold stepJ
  rw [if_neg h1]
  by_cases he : Txt.endswith ("/" ++ t) "/" = true
  · rw [if_pos he]
    obtain ⟨u, hu⟩ := (ends_iff _).mp he
    refine ⟨t ++ b, Str.append_assoc _ _ _, ?_, ?_⟩
    · rw [cps_app]
      cases hc : t.cps.toList with
      | nil => simpa using hb
      | cons a r => rw [hc] at ht; simpa using ht
    · cases hc : t.cps.toList.reverse with
      | nil =>
        have e : t = Str.empty := cps_inj (by rw [List.reverse_eq_nil_iff.mp hc]; rfl)
        rw [e, Str.empty_append, keep_nil]; rfl
      | cons a r =>
        have e0 : t.cps.toList = r.reverse ++ [a] := by rw [← List.reverse_reverse t.cps.toList, hc]; simp
        have e1 := congrArg (fun s : Str => s.cps.toList) hu
        simp only [cps_app, slash_cps, e0] at e1
        have e2 := congrArg List.getLast? e1
        simp only [← List.append_assoc, List.getLast?_append, List.getLast?_singleton] at e2
        simp at e2
        have e3 : t = ⟨r.reverse.toArray⟩ ++ "/" := cps_inj (by rw [cps_app, slash_cps, e0, e2])
        generalize (⟨r.reverse.toArray⟩ : Str) = v at e3
        have e4 : Txt.split t "/" = Txt.split v "/" ++ [Str.empty] := by
          have := split_slash v Str.empty
          rw [Str.append_empty, ← e3] at this
          rw [this]
          conv => lhs; rw [slash_eq, split_nil]
          rw [slash_eq]
        have e5 : Txt.split (t ++ b) "/" = Txt.split v "/" ++ Txt.split b "/" := by rw [e3]; exact split_slash v b
        unfold keepN
        rw [e5, e4, List.foldl_append, List.foldl_append]
        simp only [List.foldl_cons, List.foldl_nil, stepN_nil]
  · rw [if_neg he]
    have hne : t.cps.toList ≠ [] := by
      intro h
      have e : t = Str.empty := cps_inj (by rw [h]; rfl)
      exact he ((ends_iff _).mpr ⟨Str.empty, by rw [e, Str.append_empty, Str.empty_append]⟩)
    refine ⟨t ++ "/" ++ b, by simp only [Str.append_assoc], ?_, ?_⟩
    · rw [cps_app, cps_app]
      cases hc : t.cps.toList with
      | nil => exact absurd hc hne
      | cons a r => rw [hc] at ht; simpa using ht
    · unfold keepN
      rw [split_slash, List.foldl_append]

theorem pref_facts : ∀ p ∈ prefL, p.cps.toList.take 1 ≠ [47] ∧ (Txt.split p "/" = [("" : Str)] ∨ Txt.split p "/" = [("." : Str)] ∨ Txt.split p "/" = [("no" : Str), ".."] ∨ Txt.split p "/" = [(".": Str), "no", "", "..", "", ""]) := by decide +kernel
theorem pref_mem {i : Int} (h0 : 0 ≤ i) (h1 : i < 4) : pref i ∈ prefL := by
  unfold pref
  obtain ⟨n, rfl⟩ := Int.eq_ofNat_of_zero_le h0
  match n, h1 with
  | 0, _ => decide
  | 1, _ => decide
  | 2, _ => decide
  | 3, _ => decide
  | n + 4, h => omega
theorem stepN_e (b : List Str) : stepN b "" = b := by unfold stepN; rw [if_pos (.inl (by decide +kernel))]
theorem stepN_dot (b : List Str) : stepN b "." = b := by unfold stepN; rw [if_pos (.inr rfl)]
theorem stepN_dd (b : List Str) : stepN b ".." = b.dropLast := by
  unfold stepN; rw [if_neg (by decide +kernel), if_neg (by simp)]
theorem stepN_name {x : Str} (b : List Str) (h : x.length ≠ 0) (h1 : x ≠ ".") (h2 : x ≠ "..") : stepN b x = b ++ [x] := by
  unfold stepN; rw [if_neg (by simp [h, h1]), if_pos h2]
theorem stepN_no (b : List Str) : stepN b "no" = b ++ [("no" : Str)] := stepN_name b (by decide +kernel) (by decide +kernel) (by decide +kernel)
theorem pref_keep {p : Str} (h : p ∈ prefL) (b : List Str) : (Txt.split p "/").foldl stepN b = b := by
  rcases (pref_facts p h).2 with h | h | h | h <;> rw [h] <;> simp only [List.foldl_cons, List.foldl_nil, stepN_e, stepN_dot, stepN_dd, stepN_no, List.dropLast_concat]

theorem nice_start {x : Str} (h : Nice x) : x.cps.toList.take 1 ≠ [47] := by
  intro e
  apply h.free
  cases hc : x.cps.toList with
  | nil => rw [hc] at e; simp at e
  | cons a r => rw [hc] at e; simp at e; simp [e]
theorem nice_keep {x : Str} (h : Nice x) (b : List Str) : (Txt.split x "/").foldl stepN b = b ++ [x] := by
  rw [slash_eq, split_one h.free]
  exact stepN_name b h.ne h.d1 h.d2

theorem way_keep {rows : List Row} (G : Good rows) : ∀ (l : List Nat) (t : Str), (∀ x ∈ l, 0 < x ∧ x < rows.length) → t.cps.toList.take 1 ≠ [47] →
    ∃ t', l.foldl (stepW rows) ("/" ++ t) = "/" ++ t' ∧ t'.cps.toList.take 1 ≠ [47] ∧ keepN t' = keepN t ++ l.map (nameK rows) ∧ (l.foldl (stepW rows) ("/" ++ t)).length ≤ 1 + t.length + l.length * 20
  | [], t, _, ht => ⟨t, rfl, ht, by simp, by rw [List.foldl_nil, Str.length_append, slash_len]; simp⟩
  | k :: r, t, hl, ht => by
    obtain ⟨k0, k1⟩ := hl k (by simp)
    have hn := name_nice G k0 k1
    have hk := G.kind k k0 k1
    have hp := pref_mem hk.1 hk.2
    obtain ⟨t1, a1, a2, a3⟩ := step_keep ht (pref_facts _ hp).1
    obtain ⟨t2, b1, b2, b3⟩ := step_keep a2 (nice_start hn)
    have e : stepW rows ("/" ++ t) k = "/" ++ t2 := by
      unfold stepW joinF
      simp only [List.foldl_cons, List.foldl_nil]
      rw [a1, b1]
    have hlen : t2.length ≤ t.length + 20 := by
      have h1 := joinF_len ("/" ++ t) (pref (rowAt rows k).kind) (nameK rows k)
      have h2 : joinF ("/" ++ t) [pref (rowAt rows k).kind, nameK rows k] = "/" ++ t2 := e
      have h3 := pref_le hk.1 hk.2
      have h4 := hn.len
      rw [h2, Str.length_append, Str.length_append, slash_len] at h1
      omega
    obtain ⟨t', c1, c2, c3, c4⟩ := way_keep G r t2 (fun x hx => hl x (List.mem_cons_of_mem _ hx)) b2
    rw [List.foldl_cons, e]
    refine ⟨t', c1, c2, ?_, ?_⟩
    · rw [c3, b3, a3, pref_keep hp, nice_keep hn]; simp
    · rw [List.length_cons]; omega

theorem way_facts {rows : List Row} (G : Good rows) {c : List Nat} (h : ∀ x ∈ c.drop 1, 0 < x ∧ x < rows.length) (hl : c.length ≤ 17) :
    (wayF rows c).length ≤ 400 ∧ cutS none (some 1) (wayF rows c) = "/" ∧ cutS (some 1) (some 2) (wayF rows c) ≠ "/" ∧ plainOf rows c = "/" ++ Txt.join "/" ((c.drop 1).map (nameK rows)) := by
  obtain ⟨t', c1, c2, c3, c4⟩ := way_keep G (c.drop 1) Str.empty h (by simp [Str.empty])
  rw [Str.append_empty] at c1 c4
  have e : wayF rows c = "/" ++ t' := c1
  refine ⟨?_, ?_, ?_, ?_⟩
  · have h1 : (wayF rows c).length ≤ 1 + Str.empty.length + (c.drop 1).length * 20 := c4
    have h2 : Str.empty.length = 0 := rfl
    rw [List.length_drop] at h1
    omega
  · rw [e]
    unfold cutS cutL
    apply cps_inj
    rw [cps_app, slash_cps]
    simp
  · rw [e]
    intro h
    have := congrArg (fun s : Str => s.cps.toList) h
    unfold cutS cutL at this
    simp only [cps_app, slash_cps] at this
    exact c2 (by simpa using this)
  · unfold plainOf normF
    rw [e, comps_keep, c3, keep_nil]; rfl
end
section
set_option Elab.async false
set_option maxRecDepth 100000
set_option maxHeartbeats 4000000
theorem flat_congr {α β : Type} {f g : α → List β} : ∀ {l : List α}, (∀ x ∈ l, f x = g x) → l.flatMap f = l.flatMap g
  | [], _ => rfl
  | a :: r, h => by rw [List.flatMap_cons, List.flatMap_cons, h a (by simp), flat_congr fun x hx => h x (by simp [hx])]
noncomputable def parN (rows : List Row) (k : Nat) : Nat := (rowAt rows k).par.toNat
noncomputable def chainOf (rows : List Row) : Nat → List Nat
  | 0 => [0]
  | k + 1 => if h : parN rows (k + 1) < k + 1 then chainOf rows (parN rows (k + 1)) ++ [k + 1] else []

section
variable {rows : List Row}
theorem par_lt (G : Good rows) {k : Nat} (h0 : 0 < k) (hk : k < rows.length) : parN rows k < k ∧ (rowAt rows k).par = (parN rows k : Int) := by
  have := G.up k h0 hk
  unfold parN
  omega
theorem chain_zero : chainOf rows 0 = [0] := by rw [chainOf]
theorem chain_step (G : Good rows) {k : Nat} (h0 : 0 < k) (hk : k < rows.length) : chainOf rows k = chainOf rows (parN rows k) ++ [k] := by
  obtain ⟨j, rfl⟩ : ∃ j, k = j + 1 := ⟨k - 1, by omega⟩
  conv => lhs; rw [chainOf]
  rw [dif_pos (par_lt G h0 hk).1]
theorem kid_iff (G : Good rows) {p k : Nat} : k ∈ kids rows (p : Nat) ↔ 0 < k ∧ k < rows.length ∧ parN rows k = p := by
  rw [kids_mem]
  constructor
  · rintro ⟨a, b, c⟩
    have := (par_lt G a b).2
    exact ⟨a, b, by omega⟩
  · rintro ⟨a, b, c⟩
    have := (par_lt G a b).2
    exact ⟨a, b, by omega⟩
theorem kid_chain (G : Good rows) {p k : Nat} (h : k ∈ kids rows (p : Nat)) : chainOf rows k = chainOf rows p ++ [k] ∧ p < k ∧ k < rows.length := by
  obtain ⟨a, b, c⟩ := (kid_iff G).mp h
  have h1 := chain_step G a b
  have h2 := par_lt G a b
  rw [c] at h1 h2
  exact ⟨h1, h2.1, b⟩

/-- walking down from the root: each node is the root or a kid -/
theorem down (G : Good rows) {P : Nat → Prop} (h0 : P 0) (hs : ∀ k, 0 < k → k < rows.length → parN rows k < k → P (parN rows k) → P k) : ∀ k, k < rows.length → P k := by
  intro k
  induction k using Nat.strongRecOn with
  | ind k ih =>
    intro hk
    by_cases hz : k = 0
    · rw [hz]; exact h0
    · have := par_lt G (by omega : 0 < k) hk
      exact hs k (by omega) hk this.1 (ih _ this.1 (by omega))

theorem chain_self (G : Good rows) : ∀ k, k < rows.length → k ∈ chainOf rows k :=
  down G (by rw [chain_zero]; simp) fun k a b c _ => by rw [chain_step G a b]; simp
theorem chain_le (G : Good rows) : ∀ k, k < rows.length → ∀ x ∈ chainOf rows k, x ≤ k :=
  down G (by rw [chain_zero]; simp) fun k a b c ih x hx => by
    rw [chain_step G a b] at hx
    rcases List.mem_append.mp hx with h | h
    · have := ih x h; omega
    · simp at h; omega
theorem chain_par (G : Good rows) : ∀ k, k < rows.length → ∀ x ∈ chainOf rows k, 0 < x → parN rows x ∈ chainOf rows k :=
  down G (by rw [chain_zero]; intro x hx; simp at hx; omega) fun k a b c ih x hx h0 => by
    rw [chain_step G a b] at hx ⊢
    rcases List.mem_append.mp hx with h | h
    · exact List.mem_append.mpr (.inl (ih x h h0))
    · simp at h
      rw [h]
      exact List.mem_append.mpr (.inl (chain_self G _ (by omega)))
theorem chain_root (G : Good rows) : ∀ k, k < rows.length → 0 ∈ chainOf rows k :=
  down G (by rw [chain_zero]; simp) fun k a b c ih => by rw [chain_step G a b]; exact List.mem_append.mpr (.inl ih)
theorem chain_len (G : Good rows) : ∀ k, k < rows.length → (chainOf rows k).length ≤ k + 1 :=
  down G (by rw [chain_zero]; simp) fun k a b c ih => by rw [chain_step G a b]; simp; omega
theorem chain_cons (G : Good rows) : ∀ k, k < rows.length → ∃ t, chainOf rows k = 0 :: t ∧ (∀ x ∈ t, 0 < x) :=
  down G ⟨[], chain_zero, by simp⟩ fun k a b c ih => by
    obtain ⟨t, e, ht⟩ := ih
    refine ⟨t ++ [k], by rw [chain_step G a b, e]; rfl, fun x hx => ?_⟩
    rcases List.mem_append.mp hx with h | h
    · exact ht x h
    · simp at h; omega
theorem chain_last (G : Good rows) (k : Nat) (hk : k < rows.length) : (chainOf rows k).getLastD 0 = k := by
  by_cases hz : k = 0
  · rw [hz, chain_zero]; rfl
  · rw [chain_step G (by omega) hk, List.getLastD_concat]
/-- two nodes of one chain with one parent are one -/
theorem chain_one (G : Good rows) {i j : Nat} (hi : 0 < i) (hj : 0 < j) (he : parN rows i = parN rows j) : ∀ k, k < rows.length → i ∈ chainOf rows k → j ∈ chainOf rows k → i = j :=
  down G (by rw [chain_zero]; intro h; simp at h; omega) fun k a b c ih h1 h2 => by
    have hle := chain_le G (parN rows k) (by omega)
    rw [chain_step G a b] at h1 h2
    rcases List.mem_append.mp h1 with h1 | h1 <;> rcases List.mem_append.mp h2 with h2 | h2
    · exact ih h1 h2
    · simp at h2; subst h2
      have := hle i h1
      have := (par_lt G hi (by omega)).1
      omega
    · simp at h1; subst h1
      have := hle j h2
      have := (par_lt G hj (by omega)).1
      omega
    · simp at h1 h2; omega
/-- a chain goes on with a kid -/
theorem chain_next (G : Good rows) {q : Nat} : ∀ p, p < rows.length → q ∈ chainOf rows p → q ≠ p → ∃ k ∈ kids rows (q : Nat), k ∈ chainOf rows p :=
  down G (by rw [chain_zero]; intro h h2; simp at h; exact absurd h h2) fun k a b c ih h h2 => by
    rw [chain_step G a b] at h
    rcases List.mem_append.mp h with h | h
    · by_cases hq : q = parN rows k
      · exact ⟨k, (kid_iff G).mpr ⟨a, b, hq.symm⟩, chain_self G k b⟩
      · obtain ⟨j, j1, j2⟩ := ih h hq
        exact ⟨j, j1, by rw [chain_step G a b]; exact List.mem_append.mpr (.inl j2)⟩
    · simp at h; exact absurd h h2

theorem kids_nodup (p : Int) : (kids rows p).Nodup := by
  unfold kids
  refine List.Pairwise.map (R := fun a b : Nat => a ≠ b) _ ?_ (List.Pairwise.filter _ List.nodup_range)
  intro a b h; omega

noncomputable def leaves : Nat → List Row → Nat → List Nat
  | 0, _, _ => []
  | n + 1, rows, p => if kids rows (p : Nat) = [] then [p] else (kids rows (p : Nat)).flatMap (leaves n rows)

theorem chF_leaves (G : Good rows) : ∀ (n p : Nat), p < rows.length → chF n rows (chainOf rows p) = (leaves n rows p).map (chainOf rows)
  | 0, p, _ => rfl
  | n + 1, p, hp => by
    unfold chF leaves
    rw [chain_last G p hp]
    split
    · rfl
    · rw [List.map_flatMap]
      refine flat_congr fun k hk => ?_
      obtain ⟨h1, h2, h3⟩ := kid_chain G hk
      rw [← h1]
      exact chF_leaves G n k h3
theorem leaf_mem (G : Good rows) : ∀ (n p : Nat), p < rows.length → ∀ x ∈ leaves n rows p, x < rows.length ∧ p ∈ chainOf rows x
  | 0, p, _, x, hx => by unfold leaves at hx; simp at hx
  | n + 1, p, hp, x, hx => by
    unfold leaves at hx
    split at hx
    · simp at hx; subst hx; exact ⟨hp, chain_self G _ hp⟩
    · obtain ⟨k, hk, hx⟩ := List.mem_flatMap.mp hx
      obtain ⟨h1, h2, h3⟩ := kid_chain G hk
      obtain ⟨a, b⟩ := leaf_mem G n k h3 x hx
      obtain ⟨c, d, e⟩ := (kid_iff G).mp hk
      exact ⟨a, e ▸ chain_par G x a k b c⟩
theorem leaves_ne (G : Good rows) : ∀ (n p : Nat), p < rows.length → rows.length ≤ p + n → leaves n rows p ≠ []
  | 0, p, h, h2 => by omega
  | n + 1, p, hp, h2 => by
    unfold leaves
    split
    · simp
    · rename_i hk
      obtain ⟨k, r, e⟩ := List.exists_cons_of_ne_nil hk
      obtain ⟨h1, h3, h4⟩ := kid_chain G (show k ∈ kids rows (p : Nat) by rw [e]; simp)
      rw [e, List.flatMap_cons]
      have := leaves_ne G n k h4 (by omega)
      intro hn
      exact this (List.append_eq_nil_iff.mp hn).1
theorem leaves_nodup (G : Good rows) : ∀ (n p : Nat), p < rows.length → (leaves n rows p).Nodup
  | 0, p, _ => by unfold leaves; exact List.Pairwise.nil
  | n + 1, p, hp => by
    unfold leaves
    split
    · simp
    · unfold List.Nodup
      rw [List.pairwise_flatMap]
      refine ⟨fun k hk => leaves_nodup G n k (kid_chain G hk).2.2, ?_⟩
      refine List.Pairwise.imp_of_mem ?_ (kids_nodup (rows := rows) (p : Nat))
      intro i j hi hj hne x hx y hy e
      subst e
      obtain ⟨a, b⟩ := leaf_mem G n i (kid_chain G hi).2.2 x hx
      obtain ⟨_, d⟩ := leaf_mem G n j (kid_chain G hj).2.2 x hy
      obtain ⟨i0, _, ip⟩ := (kid_iff G).mp hi
      obtain ⟨j0, _, jp⟩ := (kid_iff G).mp hj
      exact hne (chain_one G i0 j0 (by omega) x a b d)

theorem nodup_len : ∀ (n : Nat) (l : List Nat), l.Nodup → (∀ x ∈ l, x < n) → l.length ≤ n
  | 0, l, _, h => by
    cases l with
    | nil => simp
    | cons a r => exact absurd (h a (by simp)) (by omega)
  | n + 1, l, hn, h => by
    have h1 := nodup_len n (l.erase n) (hn.erase n) fun x hx => by
      have h2 := (hn.mem_erase_iff).mp hx
      have := h x h2.2
      have := h2.1
      omega
    rw [List.length_erase] at h1
    split at h1 <;> omega
theorem leaves_len (G : Good rows) (n p : Nat) (hp : p < rows.length) : (leaves n rows p).length ≤ 17 :=
  Nat.le_trans (nodup_len rows.length _ (leaves_nodup G n p hp) fun x hx => (leaf_mem G n p hp x hx).1) G.len

theorem chF_len : ∀ (n : Nat) (c : List Nat), (chF n rows c).length = (leaves n rows (c.getLastD 0)).length
  | 0, _ => rfl
  | n + 1, c => by
    unfold chF leaves
    split
    · rfl
    · rw [List.length_flatMap, List.length_flatMap]
      congr 1
      refine List.map_congr_left fun k _ => ?_
      rw [chF_len n, List.getLastD_concat]
theorem chF_count (G : Good rows) (n : Nat) (c : List Nat) : (chF n rows c).length ≤ 1000000 := by
  rw [chF_len]
  generalize c.getLastD 0 = p
  by_cases hp : p < rows.length
  · have := leaves_len G n p hp; omega
  · cases n with
    | zero => unfold leaves; simp
    | succ n =>
      unfold leaves
      have : kids rows (p : Nat) = [] := by
        apply List.eq_nil_iff_forall_not_mem.mpr
        intro k hk
        have := kid_chain G hk
        omega
      rw [if_pos this]; simp

/-- preorder below a node -/
noncomputable def pre : Nat → List Row → Nat → List Nat
  | 0, _, _ => []
  | n + 1, rows, p => (kids rows (p : Nat)).flatMap fun k => k :: pre n rows k
theorem pre_mem (G : Good rows) : ∀ (n p : Nat), p < rows.length → ∀ x ∈ pre n rows p, x < rows.length ∧ p ∈ chainOf rows x ∧ p < x
  | 0, p, _, x, hx => by unfold pre at hx; simp at hx
  | n + 1, p, hp, x, hx => by
    unfold pre at hx
    obtain ⟨k, hk, hx⟩ := List.mem_flatMap.mp hx
    obtain ⟨h1, h2, h3⟩ := kid_chain G hk
    rcases List.mem_cons.mp hx with rfl | hx
    · exact ⟨h3, by rw [h1]; exact List.mem_append.mpr (.inl (chain_self G p hp)), h2⟩
    · obtain ⟨a, b, d⟩ := pre_mem G n k h3 x hx
      obtain ⟨c, _, e⟩ := (kid_iff G).mp hk
      exact ⟨a, e ▸ chain_par G x a k b c, by omega⟩
theorem pre_nodup (G : Good rows) : ∀ (n p : Nat), p < rows.length → (pre n rows p).Nodup
  | 0, p, _ => by unfold pre; exact List.Pairwise.nil
  | n + 1, p, hp => by
    unfold pre List.Nodup
    rw [List.pairwise_flatMap]
    refine ⟨fun k hk => ?_, ?_⟩
    · have h3 := (kid_chain G hk).2.2
      refine List.Pairwise.cons (fun x hx e => ?_) (pre_nodup G n k h3)
      have := (pre_mem G n k h3 x hx).2.2
      omega
    · refine List.Pairwise.imp_of_mem ?_ (kids_nodup (rows := rows) (p : Nat))
      intro i j hi hj hne x hx y hy e
      subst e
      have mem : ∀ k ∈ kids rows (p : Nat), x ∈ k :: pre n rows k → x < rows.length ∧ k ∈ chainOf rows x := by
        intro k hk hx
        have h3 := (kid_chain G hk).2.2
        rcases List.mem_cons.mp hx with rfl | hx
        · exact ⟨h3, chain_self G _ h3⟩
        · exact ⟨(pre_mem G n k h3 x hx).1, (pre_mem G n k h3 x hx).2.1⟩
      obtain ⟨a, b⟩ := mem i hi hx
      obtain ⟨_, d⟩ := mem j hj hy
      obtain ⟨i0, _, ip⟩ := (kid_iff G).mp hi
      obtain ⟨j0, _, jp⟩ := (kid_iff G).mp hj
      exact hne (chain_one G i0 j0 (by omega) x a b d)

theorem flat_one {α β : Type} {f : α → List β} {a : α} : ∀ {l : List α}, l.Nodup → a ∈ l → (∀ x ∈ l, x ≠ a → f x = []) → l.flatMap f = f a
  | [], _, h, _ => absurd h (by simp)
  | x :: r, hn, h, hf => by
    have hn' := List.nodup_cons.mp hn
    rw [List.flatMap_cons]
    by_cases e : x = a
    · subst e
      have : r.flatMap f = [] := List.flatMap_eq_nil_iff.mpr fun y hy => hf y (by simp [hy]) (by rintro rfl; exact hn'.1 hy)
      rw [this]; simp
    · rw [hf x (by simp) e, List.nil_append]
      exact flat_one hn'.2 (by simpa [Ne.symm e] using h) fun y hy => hf y (by simp [hy])

theorem pre_filter (G : Good rows) {p : Nat} (hp : p < rows.length) : ∀ (n q : Nat), q < rows.length → rows.length ≤ q + n →
    (pre n rows q).filter (fun k => decide (parN rows k = p)) = if q ∈ chainOf rows p then kids rows (p : Nat) else []
  | 0, q, h, h2 => by omega
  | n + 1, q, hq, h2 => by
    unfold pre
    rw [List.filter_flatMap]
    have e : ∀ k ∈ kids rows (q : Nat), (k :: pre n rows k).filter (fun k => decide (parN rows k = p)) = (if q = p then [k] else []) ++ (if k ∈ chainOf rows p then kids rows (p : Nat) else []) := by
      intro k hk
      obtain ⟨h1, h3, h4⟩ := kid_chain G hk
      obtain ⟨_, _, h5⟩ := (kid_iff G).mp hk
      rw [List.filter_cons, pre_filter G hp n k h4 (by omega), h5]
      by_cases hqp : q = p
      · simp [hqp]
      · simp [hqp]
    rw [flat_congr e]
    by_cases hqp : q = p
    · subst hqp
      rw [if_pos (chain_self G q hp)]
      have e2 : ∀ k ∈ kids rows (q : Nat), ((if q = q then [k] else []) ++ (if k ∈ chainOf rows q then kids rows (q : Nat) else [])) = [k] := by
        intro k hk
        have h3 := kid_chain G hk
        have : k ∉ chainOf rows q := fun h => by have := chain_le G q hp k h; omega
        simp [this]
      rw [flat_congr e2]
      simp
    · have e2 : ∀ k ∈ kids rows (q : Nat), ((if q = p then [k] else []) ++ (if k ∈ chainOf rows p then kids rows (p : Nat) else [])) = if k ∈ chainOf rows p then kids rows (p : Nat) else [] := by
        intro k hk; simp [hqp]
      rw [flat_congr e2]
      by_cases hm : q ∈ chainOf rows p
      · rw [if_pos hm]
        obtain ⟨k, hk, hkm⟩ := chain_next G p hp hm hqp
        rw [flat_one (a := k) (kids_nodup (rows := rows) (q : Nat)) hk ?_, if_pos hkm]
        intro j hj hne
        obtain ⟨i0, _, ip⟩ := (kid_iff G).mp hk
        obtain ⟨j0, _, jp⟩ := (kid_iff G).mp hj
        rw [if_neg]
        intro hj2
        exact hne (chain_one G j0 i0 (by omega) p hp hj2 hkm)
      · rw [if_neg hm]
        refine List.flatMap_eq_nil_iff.mpr fun k hk => ?_
        obtain ⟨i0, _, ip⟩ := (kid_iff G).mp hk
        rw [if_neg]
        intro h
        exact hm (ip ▸ chain_par G p hp k h i0)
end
end
section
set_option Elab.async false
set_option maxRecDepth 100000
set_option maxHeartbeats 4000000
open StrLaws
noncomputable def namesOf (rows : List Row) (k : Nat) : List Str := ((chainOf rows k).drop 1).map (nameK rows)
noncomputable def pathOf (rows : List Row) (k : Nat) : Str := "/" ++ Txt.join "/" (namesOf rows k)
noncomputable def frontOf (rows : List Row) (k : Nat) : Str := if parN rows k = 0 then Str.empty else pathOf rows (parN rows k)

theorem join_txt (s : Str) (l : List Str) : Txt.join s l = Str.join s l := glued_eq_join s l
theorem mul_all (n : Int) : ∀ c ∈ (Txt.mul "/" n).cps.toList, c = 47 := by
  unfold Txt.mul
  split
  · intro c hc; simp [Str.empty] at hc
  · split
    · rw [slash_cps]; intro c hc; simpa using hc
    · generalize n.toNat = m
      have key : ∀ (m : Nat) (a : Array Nat), (∀ c ∈ a.toList, c = 47) → ∀ c ∈ ((List.replicate m (Str.ofString "/").cps).foldl (· ++ ·) a).toList, c = 47 := by
        intro m
        induction m with
        | zero => intro a h; simpa using h
        | succ m ih =>
          intro a h
          rw [List.replicate_succ, List.foldl_cons]
          refine ih _ fun c hc => ?_
          rw [Array.toList_append, slash_cps] at hc
          rcases List.mem_append.mp hc with h1 | h1
          · exact h c h1
          · simpa using h1
      exact key m #[] (by simp)

theorem cut_at {u v : Str} (h : 47 ∉ v.cps.toList) : cutI (u ++ "/" ++ v) = u.length + 1 := by
  have e : (u ++ "/" ++ v).cps.toList = u.cps.toList ++ 47 :: v.cps.toList := by rw [cps_app, cps_app, slash_cps]; simp
  have hat : ∀ i, At (u ++ "/" ++ v) "/" (u ++ "/" ++ v).length i ↔ (u ++ "/" ++ v).cps.toList[i]? = some 47 := by
    intro i; rw [slash_eq]; exact subAt_one _ 47 i
  have hm : (u ++ "/" ++ v).cps.toList[u.length]? = some 47 := by
    rw [e, List.getElem?_append_right (by rw [len_cps]; exact Nat.le_refl _), ← len_cps, Nat.sub_self]; rfl
  unfold cutI Txt.rfind
  rcases last_spec (u ++ "/" ++ v) "/" with ⟨_, h2⟩ | ⟨i, h1, h2, h3⟩
  · exact absurd ((hat _).mpr hm) (h2 _)
  · rw [h1]
    have hi : i = u.length := by
      rcases Nat.lt_trichotomy i u.length with hl | hl | hl
      · exact absurd ((hat _).mpr hm) (h3 _ hl)
      · exact hl
      · exfalso
        have := (hat i).mp h2
        rw [e, List.getElem?_append_right (by rw [← len_cps]; omega), ← len_cps] at this
        obtain ⟨j, hj⟩ : ∃ j, i - u.length = j + 1 := ⟨i - u.length - 1, by omega⟩
        rw [hj, List.getElem?_cons_succ] at this
        exact h (List.mem_of_getElem? this)
    subst hi
    show ((u.length : Int) + 1).toNat = u.length + 1
    omega
theorem tail_at {u v : Str} (h : 47 ∉ v.cps.toList) : tailF (u ++ "/" ++ v) = v := by
  unfold tailF
  rw [cut_at h]
  unfold cutS cutL
  apply cps_inj
  have e : (u ++ "/" ++ v).cps.toList = (u.cps.toList ++ [47]) ++ v.cps.toList := by rw [cps_app, cps_app, slash_cps]
  rw [e]
  simp only [Option.getD_some]
  rw [show u.length + 1 = (u.cps.toList ++ [47]).length by rw [len_cps]; simp, List.drop_left]
theorem front_at {u v : Str} (h : 47 ∉ v.cps.toList) : cutS none (some (cutI (u ++ "/" ++ v))) (u ++ "/" ++ v) = u ++ "/" := by
  rw [cut_at h]
  unfold cutS cutL
  apply cps_inj
  have e : (u ++ "/" ++ v).cps.toList = (u.cps.toList ++ [47]) ++ v.cps.toList := by rw [cps_app, cps_app, slash_cps]
  rw [e]
  simp only [Option.getD_none, List.drop_zero]
  rw [show u.length + 1 = (u.cps.toList ++ [47]).length by rw [len_cps]; simp, List.take_left, cps_app, slash_cps]
theorem head_root {v : Str} (h : 47 ∉ v.cps.toList) : headF (Str.empty ++ "/" ++ v) = "/" := by
  unfold headF
  rw [front_at h]
  decide +kernel
theorem strip_slash {u : Str} {a : Nat} {l : List Nat} (hu : u.cps.toList = l ++ [a]) (ha : a ≠ 47) : Txt.rstripChars (u ++ "/") "/" = u := by
  have hx : (u ++ "/").cps.toList = (l ++ [a]) ++ [47] := by rw [cps_app, slash_cps, hu]
  have hlo : stripLo (Str.ofString "/").cps.contains false (u ++ "/") = 0 := rfl
  have hlen : (u ++ "/").length = u.length + 1 := by rw [Str.length_append, slash_len]
  have hgo : ∀ c, (Str.ofString "/").cps.contains c = decide (c = 47) := by
    intro c; rw [slash_eq]; simp [Array.contains_eq_mem]
  have hhi : stripHi (Str.ofString "/").cps.contains true (u ++ "/") 0 = u.length := by
    unfold stripHi
    rw [if_pos rfl, List.drop_zero, hx, hlen, List.reverse_append, List.reverse_append]
    have g1 : (Str.ofString "/").cps.contains 47 = true := by rw [hgo]; rfl
    have g2 : (Str.ofString "/").cps.contains a = false := by rw [hgo]; exact decide_eq_false ha
    rw [List.reverse_singleton, List.reverse_singleton, List.singleton_append, List.singleton_append, List.takeWhile_cons, if_pos g1, List.takeWhile_cons, if_neg (by rw [g2]; simp)]
    rfl
  unfold Txt.rstripChars Txt.stripBy stripSame PySem.stripped
  rw [hlo, hhi, hlen]
  rw [if_neg (by simp)]
  apply cps_inj
  rw [strSub_toList, cps_app, List.drop_zero, Nat.sub_zero, len_cps, List.take_left]
theorem head_deep {u v : Str} {a : Nat} {l : List Nat} (hu : u.cps.toList = l ++ [a]) (ha : a ≠ 47) (h : 47 ∉ v.cps.toList) : headF (u ++ "/" ++ v) = u := by
  unfold headF
  rw [front_at h]
  have hl : (u ++ "/").length = u.length + 1 := by rw [Str.length_append, slash_len]
  have hc : (u ++ "/").length ≠ 0 ∧ u ++ "/" ≠ Txt.mul "/" ((u ++ "/").length : Int) := ⟨by omega, ?_⟩
  · exact (if_pos hc).trans (strip_slash hu ha)
  intro e
  have : a ∈ (u ++ "/").cps.toList := by rw [cps_app, hu]; simp
  rw [e] at this
  exact ha (mul_all _ a this)

section
variable {rows : List Row}
theorem names_zero : namesOf rows 0 = [] := by unfold namesOf; rw [chain_zero]; rfl
theorem names_step (G : Good rows) {k : Nat} (h0 : 0 < k) (hk : k < rows.length) : namesOf rows k = namesOf rows (parN rows k) ++ [nameK rows k] := by
  unfold namesOf
  obtain ⟨t, e, _⟩ := chain_cons G (parN rows k) (by have := par_lt G h0 hk; omega)
  rw [chain_step G h0 hk, e]
  simp
theorem names_ne (G : Good rows) {k : Nat} (h0 : 0 < k) (hk : k < rows.length) : namesOf rows k ≠ [] := by
  rw [names_step G h0 hk]; simp
theorem names_nice (G : Good rows) {k : Nat} (hk : k < rows.length) : ∀ x ∈ namesOf rows k, Nice x := by
  intro x hx
  unfold namesOf at hx
  obtain ⟨j, hj, rfl⟩ := List.mem_map.mp hx
  obtain ⟨t, e, ht⟩ := chain_cons G k hk
  have hm : j ∈ chainOf rows k := List.mem_of_mem_drop hj
  rw [e] at hj
  have := chain_le G k hk j hm
  exact name_nice G (ht j hj) (by omega)
theorem path_zero : pathOf rows 0 = "/" := by
  unfold pathOf
  rw [names_zero]
  exact Str.append_empty _
theorem path_step (G : Good rows) {k : Nat} (h0 : 0 < k) (hk : k < rows.length) : pathOf rows k = frontOf rows k ++ "/" ++ nameK rows k := by
  unfold frontOf
  split
  · rename_i hp
    unfold pathOf
    rw [names_step G h0 hk, hp, names_zero, Str.empty_append]; rfl
  · rename_i hp
    have hlt := par_lt G h0 hk
    unfold pathOf
    rw [names_step G h0 hk, join_txt, join_txt, join_app _ (names_ne G (by omega) (by omega)) (by simp)]
    simp only [Str.append_assoc]; rfl
theorem path_end (G : Good rows) {k : Nat} (h0 : 0 < k) (hk : k < rows.length) : ∃ l a, (pathOf rows k).cps.toList = l ++ [a] ∧ a ≠ 47 := by
  have hn := name_nice G h0 hk
  have hne : (nameK rows k).cps.toList ≠ [] := by
    intro h; have := hn.ne; rw [len_cps, h] at this; exact this rfl
  refine ⟨(frontOf rows k ++ "/").cps.toList ++ (nameK rows k).cps.toList.dropLast, (nameK rows k).cps.toList.getLast hne, ?_, ?_⟩
  · rw [path_step G h0 hk, cps_app, List.append_assoc, List.dropLast_concat_getLast]
  · intro h
    exact hn.free (h ▸ List.getLast_mem hne)
theorem path_head (G : Good rows) {k : Nat} (h0 : 0 < k) (hk : k < rows.length) : headF (pathOf rows k) = pathOf rows (parN rows k) := by
  have hn := name_nice G h0 hk
  have hlt := par_lt G h0 hk
  rw [path_step G h0 hk]
  unfold frontOf
  split
  · rename_i hp
    rw [head_root hn.free, hp, path_zero]
  · rename_i hp
    obtain ⟨l, a, h1, h2⟩ := path_end G (k := parN rows k) (by omega) (by omega)
    exact head_deep h1 h2 hn.free
theorem path_tail (G : Good rows) {k : Nat} (h0 : 0 < k) (hk : k < rows.length) : tailF (pathOf rows k) = nameK rows k := by
  rw [path_step G h0 hk]
  exact tail_at (name_nice G h0 hk).free
theorem path_len (G : Good rows) {k : Nat} (hk : k < rows.length) : (pathOf rows k).length ≤ 145 := by
  unfold pathOf
  rw [Str.length_append, slash_len]
  have h1 := join_len (sep := "/") (xs := namesOf rows k) (B := 8) fun x hx => (names_nice G hk x hx).len
  rw [slash_len] at h1
  have h2 : (namesOf rows k).length ≤ 16 := by
    unfold namesOf
    rw [List.length_map, List.length_drop]
    have := chain_len G k hk
    have := G.len
    omega
  omega
theorem path_up (G : Good rows) {k : Nat} (h0 : 0 < k) (hk : k < rows.length) : (pathOf rows (parN rows k)).length < (pathOf rows k).length := by
  have hn := (name_nice G h0 hk).ne
  rw [path_step G h0 hk, Str.length_append, Str.length_append, slash_len]
  unfold frontOf
  split
  · rename_i hp
    rw [hp, path_zero, slash_len]; omega
  · omega
theorem path_ne (G : Good rows) {k : Nat} (h0 : 0 < k) (hk : k < rows.length) : pathOf rows k ≠ "/" := by
  intro h
  obtain ⟨l, a, h1, h2⟩ := path_end G h0 hk
  rw [h, slash_cps] at h1
  cases l with
  | nil => simp at h1; exact h2 h1.symm
  | cons b l => simp at h1
theorem path_climbs (G : Good rows) : ∀ k, k < rows.length → Climbs (pathOf rows k) (((chainOf rows k).drop 1).map (pathOf rows)) :=
  down G (by rw [path_zero, chain_zero]; exact Climbs.top) fun k a b c ih => by
    obtain ⟨t, e, _⟩ := chain_cons G (parN rows k) (by omega)
    have h1 : ((chainOf rows k).drop 1).map (pathOf rows) = ((chainOf rows (parN rows k)).drop 1).map (pathOf rows) ++ [pathOf rows k] := by
      rw [chain_step G a b, e]; simp
    rw [h1]
    refine Climbs.up (path_ne G a b) (by have := path_len G b; omega) ?_
    rw [path_head G a b]
    exact ih

theorem path_split (G : Good rows) {k : Nat} (h0 : 0 < k) (hk : k < rows.length) : Txt.split (pathOf rows k) "/" = Str.empty :: namesOf rows k := by
  unfold pathOf
  rw [split_lead, join_txt, slash_eq, split_eq (names_ne G h0 hk) fun p hp => (names_nice G hk p hp).free]
theorem split_zero : Txt.split (pathOf rows 0) "/" = [Str.empty, Str.empty] := by
  rw [path_zero]; decide +kernel
theorem comps_path (G : Good rows) {k : Nat} (hk : k < rows.length) : compsC (pathOf rows k) = namesOf rows k := by
  unfold compsC
  by_cases h0 : k = 0
  · subst h0
    rw [split_zero, names_zero]; decide +kernel
  · rw [path_split G (by omega) hk, List.filter_cons, if_neg (by decide +kernel)]
    refine List.filter_eq_self.mpr fun x hx => ?_
    have := names_nice G hk x hx
    simp [this.ne, this.d1]
theorem names_inj (G : Good rows) : ∀ i, i < rows.length → ∀ j, j < rows.length → namesOf rows i = namesOf rows j → i = j :=
  down G (by
    intro j hj h
    rw [names_zero] at h
    by_cases h0 : j = 0
    · exact h0.symm
    · exact absurd h.symm (names_ne G (by omega) hj)) fun i a b c ih j hj h => by
    by_cases h0 : j = 0
    · subst h0; rw [names_zero] at h; exact absurd h (names_ne G a b)
    · have hlt := par_lt G (by omega : 0 < j) hj
      have hlt2 := par_lt G a b
      rw [names_step G a b, names_step G (by omega) hj] at h
      have h1 := List.append_inj' h rfl
      have h2 := ih (parN rows j) (by omega) h1.1
      have h3 : nameK rows i = nameK rows j := by simpa using h1.2
      exact name_inj G a b (by omega) hj (by omega) h3
theorem path_inj (G : Good rows) {i j : Nat} (hi : i < rows.length) (hj : j < rows.length) (h : pathOf rows i = pathOf rows j) : i = j := by
  refine names_inj G i hi j hj ?_
  rw [← comps_path G hi, ← comps_path G hj, h]

/-- a way down from p -/
noncomputable def Dn (rows : List Row) : Nat → List Nat → Prop
  | _, [] => True
  | p, k :: r => k ∈ kids rows (p : Nat) ∧ Dn rows k r
theorem dn_snoc : ∀ {r : List Nat} {p k : Nat}, Dn rows p r → k ∈ kids rows ((r.getLastD p : Nat) : Int) → Dn rows p (r ++ [k])
  | [], p, k, _, h => ⟨h, trivial⟩
  | x :: r, p, k, ⟨h1, h2⟩, h => ⟨h1, dn_snoc h2 (by cases r with | nil => exact h | cons y r => exact h)⟩
theorem chain_dn (G : Good rows) : ∀ k, k < rows.length → Dn rows 0 ((chainOf rows k).drop 1) :=
  down G (by rw [chain_zero]; trivial) fun k a b c ih => by
    obtain ⟨t, e, _⟩ := chain_cons G (parN rows k) (by omega)
    have hl := chain_last G (parN rows k) (by omega)
    rw [e] at hl ih
    rw [chain_step G a b, e]
    refine dn_snoc (r := t) ih ?_
    have : t.getLastD 0 = parN rows k := by
      cases t with
      | nil => exact hl
      | cons x t => exact hl
    rw [this]
    exact (kid_iff G).mpr ⟨a, b, rfl⟩
theorem both_off (G : Good rows) : ∀ {r s : List Nat} {p q : Nat}, Dn rows p r → Dn rows q s → p ≠ q → bothF r s = []
  | [], _, _, _, _, _, _ => rfl
  | _ :: _, [], _, _, _, _, _ => rfl
  | x :: r, y :: s, p, q, ⟨h1, h2⟩, ⟨h3, h4⟩, hne => by
    have hxy : x ≠ y := by
      rintro rfl
      have := ((kid_iff G).mp h1).2.2
      have := ((kid_iff G).mp h3).2.2
      omega
    have ih := both_off G h2 h4 hxy
    unfold bothF at ih ⊢
    rw [List.zip_cons_cons, List.filter_cons, if_neg (by simpa using hxy)]
    exact ih
theorem both_com (G : Good rows) : ∀ {r s : List Nat} {p : Nat}, Dn rows p r → Dn rows p s → comP (r.map (nameK rows)) (s.map (nameK rows)) = (bothF r s).map (nameK rows)
  | [], s, _, _, _ => by cases s <;> rfl
  | _ :: _, [], _, _, _ => rfl
  | x :: r, y :: s, p, ⟨h1, h2⟩, ⟨h3, h4⟩ => by
    obtain ⟨x0, x1, x2⟩ := (kid_iff G).mp h1
    obtain ⟨y0, y1, y2⟩ := (kid_iff G).mp h3
    have hx := par_lt G x0 x1
    have hy := par_lt G y0 y1
    rw [List.map_cons, List.map_cons]
    unfold comP
    by_cases e : x = y
    · subst e
      have ih := both_com G h2 h4
      have e2 : bothF (x :: r) (x :: s) = x :: bothF r s := by
        unfold bothF
        rw [List.zip_cons_cons, List.filter_cons, if_pos (by simp)]; rfl
      rw [if_pos rfl, ih, e2]; rfl
    · have hne : nameK rows x ≠ nameK rows y := fun h => e (name_inj G x0 x1 y0 y1 (by omega) h)
      have e2 : bothF (x :: r) (y :: s) = [] := by
        have ih := both_off G h2 h4 e
        unfold bothF at ih ⊢
        rw [List.zip_cons_cons, List.filter_cons, if_neg (by simpa using e)]
        exact ih
      rw [if_neg hne, e2]; rfl
end

theorem comP_symm : ∀ a b : List Str, comP a b = comP b a
  | [], b => by cases b <;> rfl
  | _ :: _, [] => rfl
  | x :: a, y :: b => by
    unfold comP
    by_cases h : x = y
    · subst h; rw [if_pos rfl, if_pos rfl, comP_symm a b]
    · rw [if_neg h, if_neg (Ne.symm h)]
theorem nats_tri : ∀ a b : List Nat, a ≠ b → a < b ∨ b < a
  | [], [], h => absurd rfl h
  | [], _ :: _, _ => .inl (List.nil_lt_cons _ _)
  | _ :: _, [], _ => .inr (List.nil_lt_cons _ _)
  | x :: a, y :: b, h => by
    rw [List.cons_lt_cons_iff, List.cons_lt_cons_iff]
    rcases Nat.lt_trichotomy x y with h1 | h1 | h1
    · exact .inl (.inl h1)
    · subst h1
      rcases nats_tri a b (by simpa using h) with h2 | h2
      · exact .inl (.inr ⟨rfl, h2⟩)
      · exact .inr (.inr ⟨rfl, h2⟩)
    · exact .inr (.inl h1)
theorem nats_asym : ∀ a b : List Nat, a < b → ¬ b < a
  | [], [], h => by simp at h
  | [], _ :: _, _ => by simp
  | _ :: _, [], h => by simp at h
  | x :: a, y :: b, h => by
    rw [List.cons_lt_cons_iff] at h ⊢
    rintro (h2 | ⟨h2, h3⟩)
    · rcases h with h | ⟨h, _⟩ <;> omega
    · rcases h with h | ⟨_, h⟩
      · omega
      · exact nats_asym a b h h3
theorem ltL_asym : ∀ a b : List Str, ltL a b = true → ltL b a = false
  | [], [], h => by simp [ltL] at h
  | [], _ :: _, _ => rfl
  | _ :: _, [], h => by simp [ltL] at h
  | x :: a, y :: b, h => by
    unfold ltL at h ⊢
    by_cases e : x = y
    · subst e; rw [if_pos rfl] at h ⊢; exact ltL_asym a b h
    · rw [if_neg e] at h
      rw [if_neg (Ne.symm e)]
      unfold ltS at h ⊢
      exact decide_eq_false (nats_asym _ _ (of_decide_eq_true h))
theorem ltL_tri : ∀ a b : List Str, a ≠ b → ltL a b = true ∨ ltL b a = true
  | [], [], h => absurd rfl h
  | [], _ :: _, _ => .inl rfl
  | _ :: _, [], _ => .inr rfl
  | x :: a, y :: b, h => by
    unfold ltL
    by_cases e : x = y
    · subst e; rw [if_pos rfl, if_pos rfl]; exact ltL_tri a b (by simpa using h)
    · rw [if_neg e, if_neg (Ne.symm e)]
      unfold ltS
      rcases nats_tri x.cps.toList y.cps.toList (fun h => e (cps_inj h)) with h1 | h1
      · exact .inl (decide_eq_true h1)
      · exact .inr (decide_eq_true h1)
theorem minmax (a b : List Str) : comP (minL a b) (maxL a b) = comP a b := by
  unfold minL maxL
  by_cases h1 : ltL b a = true
  · rw [if_pos h1, ltL_asym b a h1, if_neg (by simp), comP_symm]
  · rw [if_neg h1]
    by_cases h2 : ltL a b = true
    · rw [if_pos h2]
    · rw [if_neg h2]
      by_cases e : a = b
      · rw [e]
      · rcases ltL_tri a b e with h | h
        · exact absurd h h2
        · exact absurd h h1

section
variable {rows : List Row}
theorem com_shared (G : Good rows) {i j : Nat} (hi : i < rows.length) (hj : j < rows.length) : commonF (pathOf rows i) (pathOf rows j) = sharedF rows (chainOf rows i) (chainOf rows j) := by
  unfold commonF sharedF
  rw [minmax, comps_path G hi, comps_path G hj]
  have h := both_com G (chain_dn G i hi) (chain_dn G j hj)
  obtain ⟨t, e, _⟩ := chain_cons G i hi
  obtain ⟨s, e2, _⟩ := chain_cons G j hj
  unfold namesOf
  rw [h, e, e2]
  rfl
theorem strOk_app {a b : Str} (ha : PyData.strOk a = true) (hb : PyData.strOk b = true) : PyData.strOk (a ++ b) = true := by
  unfold PyData.strOk at *
  rw [← Array.all_toList] at *
  rw [cps_app, List.all_append, ha, hb]; rfl
theorem strOk_join {s : Str} (hs : PyData.strOk s = true) : ∀ l : List Str, (∀ x ∈ l, PyData.strOk x = true) → PyData.strOk (Str.join s l) = true
  | [], _ => by show PyData.strOk Str.empty = true; decide +kernel
  | [x], h => h x (by simp)
  | x :: y :: r, h => by
    rw [join_cons]
    exact strOk_app (strOk_app (h x (by simp)) hs) (strOk_join hs (y :: r) fun z hz => h z (List.mem_cons_of_mem _ hz))
theorem shared_ok (G : Good rows) {i : Nat} (hi : i < rows.length) (d : List Nat) : PyData.strOk (sharedF rows (chainOf rows i) d) = true := by
  unfold sharedF
  rw [join_txt]
  refine strOk_app (by decide +kernel) (strOk_join (by decide +kernel) _ fun x hx => ?_)
  obtain ⟨k, hk, rfl⟩ := List.mem_map.mp hx
  obtain ⟨t, e, ht⟩ := chain_cons G i hi
  have hm := both_mem (List.mem_of_mem_drop hk)
  have hle := chain_le G i hi k hm
  have h0 : 0 < k := by
    rw [e] at hk
    cases d with
    | nil => simp [bothF] at hk
    | cons y d =>
      unfold bothF at hk
      rw [List.zip_cons_cons, List.filter_cons] at hk
      split at hk
      · rw [List.map_cons, List.drop_one, List.tail_cons] at hk
        exact ht k (both_mem (two := d) hk)
      · exact ht k (both_mem (two := d) (List.mem_of_mem_drop hk))
  exact (name_nice G h0 (by omega)).ok
end
end
section
set_option Elab.async false
set_option maxRecDepth 100000
set_option maxHeartbeats 4000000
noncomputable def stepQ (acc l : List Nat) : List Nat := acc ++ l.filter fun z => !(acc.any (· == z))
noncomputable def tlOf (rows : List Row) (k : Nat) : List Nat := (chainOf rows k).drop 1
noncomputable def upOf (rows : List Row) (c : List Nat) : List Str := (c.drop 1).map (pathOf rows)

section
variable {rows : List Row}
theorem step_map (G : Good rows) {acc l : List Nat} (ha : ∀ x ∈ acc, x < rows.length) (hl : ∀ x ∈ l, x < rows.length) : stepP (acc.map (pathOf rows)) (l.map (pathOf rows)) = (stepQ acc l).map (pathOf rows) := by
  unfold stepP stepQ
  rw [List.map_append, List.filter_map]
  congr 2
  refine List.filter_congr fun z hz => ?_
  simp only [Function.comp_apply]
  congr 1
  rw [Bool.eq_iff_iff, List.any_eq_true, List.any_eq_true]
  constructor
  · rintro ⟨y, hy, e⟩
    obtain ⟨x, hx, rfl⟩ := List.mem_map.mp hy
    exact ⟨x, hx, by rw [beq_iff_eq] at e ⊢; exact path_inj G (ha x hx) (hl z hz) e⟩
  · rintro ⟨x, hx, e⟩
    exact ⟨pathOf rows x, List.mem_map_of_mem hx, by rw [beq_iff_eq] at e ⊢; rw [e]⟩
theorem fold_map (G : Good rows) : ∀ (ls : List (List Nat)) (acc : List Nat), (∀ x ∈ acc, x < rows.length) → (∀ l ∈ ls, ∀ x ∈ l, x < rows.length) → (ls.map (List.map (pathOf rows))).foldl stepP (acc.map (pathOf rows)) = (ls.foldl stepQ acc).map (pathOf rows)
  | [], _, _, _ => rfl
  | l :: r, acc, ha, hl => by
    rw [List.map_cons, List.foldl_cons, List.foldl_cons, step_map G ha (hl l (by simp))]
    refine fold_map G r _ (fun x hx => ?_) fun m hm => hl m (List.mem_cons_of_mem _ hm)
    unfold stepQ at hx
    rcases List.mem_append.mp hx with h | h
    · exact ha x h
    · exact hl l (by simp) x (List.mem_filter.mp h).1

theorem stepQ_old {acc old new : List Nat} (h1 : ∀ x ∈ old, x ∈ acc) (h2 : ∀ x ∈ new, x ∉ acc) : stepQ acc (old ++ new) = acc ++ new := by
  unfold stepQ
  rw [List.filter_append]
  have e1 : old.filter (fun z => !(acc.any (· == z))) = [] := List.filter_eq_nil_iff.mpr fun x hx => by
    have := h1 x hx
    simp [this]
  have e2 : new.filter (fun z => !(acc.any (· == z))) = new := List.filter_eq_self.mpr fun x hx => by
    have := h2 x hx
    rw [Bool.not_eq_true', List.any_eq_false]
    intro y hy e
    rw [beq_iff_eq] at e
    exact this (e ▸ hy)
  rw [e1, e2, List.nil_append]

theorem tl_kid (G : Good rows) {p k : Nat} (hp : p < rows.length) (h : k ∈ kids rows (p : Nat)) : tlOf rows k = tlOf rows p ++ [k] := by
  unfold tlOf
  obtain ⟨t, e, _⟩ := chain_cons G p hp
  rw [(kid_chain G h).1, e]; rfl
theorem kid_par (G : Good rows) {p k x : Nat} (h : k ∈ kids rows (p : Nat)) (hx : x < rows.length) (hm : k ∈ chainOf rows x) : p ∈ chainOf rows x := by
  obtain ⟨a, _, c⟩ := (kid_iff G).mp h
  exact c ▸ chain_par G x hx k hm a
theorem kid_same (G : Good rows) {p i j x : Nat} (hi : i ∈ kids rows (p : Nat)) (hj : j ∈ kids rows (p : Nat)) (hx : x < rows.length) (h1 : i ∈ chainOf rows x) (h2 : j ∈ chainOf rows x) : i = j := by
  obtain ⟨a, _, c⟩ := (kid_iff G).mp hi
  obtain ⟨d, _, e⟩ := (kid_iff G).mp hj
  exact chain_one G a d (by omega) x hx h1 h2

noncomputable def Walked (rows : List Row) (n : Nat) : Prop := ∀ (p : Nat), p < rows.length → rows.length ≤ p + n → ∀ (acc old new : List Nat), tlOf rows p = old ++ new → (∀ x ∈ old, x ∈ acc) → (∀ x ∈ new, x ∉ acc) →
    (∀ x ∈ acc, x < rows.length ∧ (p ∈ chainOf rows x → x = p)) → ((leaves n rows p).map (tlOf rows)).foldl stepQ acc = acc ++ new ++ pre n rows p

theorem walk_kids (G : Good rows) {n p : Nat} (hp : p < rows.length) (hn : rows.length ≤ p + (n + 1)) (W : Walked rows n) : ∀ (ks acc : List Nat), (∀ k ∈ ks, k ∈ kids rows (p : Nat)) → ks.Nodup → (∀ x ∈ tlOf rows p, x ∈ acc) →
    (∀ x ∈ acc, x < rows.length ∧ ∀ k ∈ ks, k ∉ chainOf rows x) → ((ks.flatMap (leaves n rows)).map (tlOf rows)).foldl stepQ acc = acc ++ ks.flatMap fun k => k :: pre n rows k
  | [], acc, _, _, _, _ => by simp
  | k :: ks, acc, hk, hd, ht, ha => by
    have hk1 := hk k (by simp)
    obtain ⟨h1, h2, h3⟩ := kid_chain G hk1
    have hd' := List.nodup_cons.mp hd
    rw [List.flatMap_cons, List.flatMap_cons, List.map_append, List.foldl_append]
    rw [W k h3 (by omega) acc (tlOf rows p) [k] (tl_kid G hp hk1) ht (by
      intro x hx hm
      rw [List.mem_singleton.mp hx] at hm
      exact (ha k hm).2 k (by simp) (chain_self G k h3)) (fun x hx => ⟨(ha x hx).1, fun h => absurd h ((ha x hx).2 k (by simp))⟩)]
    rw [walk_kids G hp hn W ks _ (fun j hj => hk j (List.mem_cons_of_mem _ hj)) hd'.2 (fun x hx => List.mem_append.mpr (.inl (List.mem_append.mpr (.inl (ht x hx))))) ?_]
    · simp
    · intro x hx
      have key : x < rows.length ∧ k ∈ chainOf rows x → x < rows.length ∧ ∀ j ∈ ks, j ∉ chainOf rows x := by
        rintro ⟨a, b⟩
        refine ⟨a, fun j hj hm => ?_⟩
        have := kid_same G hk1 (hk j (List.mem_cons_of_mem _ hj)) a b hm
        exact hd'.1 (this ▸ hj)
      rcases List.mem_append.mp hx with hx | hx
      · rcases List.mem_append.mp hx with hx | hx
        · exact ⟨(ha x hx).1, fun j hj => (ha x hx).2 j (List.mem_cons_of_mem _ hj)⟩
        · rw [List.mem_singleton.mp hx]
          rw [List.mem_singleton.mp hx] at key
          exact key ⟨h3, chain_self G k h3⟩
      · obtain ⟨a, b, _⟩ := pre_mem G n k h3 x hx
        exact key ⟨a, b⟩

theorem walked (G : Good rows) : ∀ n, Walked rows n
  | 0 => fun p hp h => by omega
  | n + 1 => by
    intro p hp hn acc old new ht ho hw ha
    have W := walked G n
    unfold leaves pre
    split
    · rename_i hk
      rw [hk, List.map_singleton, List.foldl_cons, List.foldl_nil, ht, stepQ_old ho hw]
      simp
    · rename_i hk
      obtain ⟨k, ks, e⟩ := List.exists_cons_of_ne_nil hk
      have hall : ∀ j ∈ k :: ks, j ∈ kids rows (p : Nat) := by rw [e]; exact fun _ h => h
      have hd : (k :: ks).Nodup := e ▸ kids_nodup (rows := rows) (p : Nat)
      have hd' := List.nodup_cons.mp hd
      have hk1 := hall k (by simp)
      obtain ⟨h1, h2, h3⟩ := kid_chain G hk1
      rw [e, List.flatMap_cons, List.flatMap_cons, List.map_append, List.foldl_append]
      have hoff : ∀ x ∈ acc, ∀ j ∈ k :: ks, j ∉ chainOf rows x := by
        intro x hx j hj hm
        have h4 := (ha x hx).2 (kid_par G (hall j hj) (ha x hx).1 hm)
        have h5 := chain_le G x (ha x hx).1 j hm
        have h6 := (kid_chain G (hall j hj)).2.1
        omega
      rw [W k h3 (by omega) acc old (new ++ [k]) (by rw [tl_kid G hp hk1, ht, List.append_assoc]) ho (by
        intro x hx hm
        rcases List.mem_append.mp hx with hx | hx
        · exact hw x hx hm
        · rw [List.mem_singleton.mp hx] at hm
          exact hoff k hm k (by simp) (chain_self G k h3)) (fun x hx => ⟨(ha x hx).1, fun h => absurd h (hoff x hx k (by simp))⟩)]
      rw [walk_kids G hp hn W ks _ (fun j hj => hall j (List.mem_cons_of_mem _ hj)) hd'.2 ?_ ?_]
      · simp
      · intro x hx
        rw [ht] at hx
        rcases List.mem_append.mp hx with hx | hx
        · exact List.mem_append.mpr (.inl (List.mem_append.mpr (.inl (ho x hx))))
        · exact List.mem_append.mpr (.inl (List.mem_append.mpr (.inr (List.mem_append.mpr (.inl hx)))))
      · intro x hx
        have key : x < rows.length ∧ k ∈ chainOf rows x → x < rows.length ∧ ∀ j ∈ ks, j ∉ chainOf rows x := by
          rintro ⟨a, b⟩
          refine ⟨a, fun j hj hm => ?_⟩
          have := kid_same G hk1 (hall j (List.mem_cons_of_mem _ hj)) a b hm
          exact hd'.1 (this ▸ hj)
        rcases List.mem_append.mp hx with hx | hx
        · rcases List.mem_append.mp hx with hx | hx
          · exact ⟨(ha x hx).1, fun j hj => hoff x hx j (List.mem_cons_of_mem _ hj)⟩
          · rcases List.mem_append.mp hx with hx | hx
            · have hxt : x ∈ tlOf rows p := by rw [ht]; exact List.mem_append.mpr (.inr hx)
              have hxp := chain_le G p hp x (List.mem_of_mem_drop hxt)
              refine ⟨by omega, fun j hj hm => ?_⟩
              have h5 := chain_le G x (by omega) j hm
              have h6 := (kid_chain G (hall j (List.mem_cons_of_mem _ hj))).2.1
              omega
            · rw [List.mem_singleton.mp hx]
              rw [List.mem_singleton.mp hx] at key
              exact key ⟨h3, chain_self G k h3⟩
        · obtain ⟨a, b, _⟩ := pre_mem G n k h3 x hx
          exact key ⟨a, b⟩

theorem places_pre (G : Good rows) : placesF ((chF rows.length rows [0]).map (upOf rows)) = (pre rows.length rows 0).map (pathOf rows) := by
  have hp := G.pos
  have e : chF rows.length rows [0] = (leaves rows.length rows 0).map (chainOf rows) := by
    rw [← chF_leaves G _ 0 hp, chain_zero]
  have e2 : (chF rows.length rows [0]).map (upOf rows) = ((leaves rows.length rows 0).map (tlOf rows)).map (List.map (pathOf rows)) := by
    rw [e, List.map_map, List.map_map]; rfl
  unfold placesF
  rw [e2]
  have h1 := fold_map G ((leaves rows.length rows 0).map (tlOf rows)) [] (by simp) (by
    intro l hl x hx
    obtain ⟨k, hk, rfl⟩ := List.mem_map.mp hl
    have hk2 := (leaf_mem G _ 0 hp k hk).1
    have := chain_le G k hk2 x (List.mem_of_mem_drop hx)
    omega)
  have h2 := walked G rows.length 0 hp (by omega) [] [] [] (by unfold tlOf; rw [chain_zero]; rfl) (by simp) (by simp) (by simp)
  rw [h2] at h1
  exact h1

noncomputable def entry (rows : List Row) (k : Nat) : Str × Str × Str := (headF (pathOf rows k), tailF (pathOf rows k), pathOf rows k)
theorem shelf_filter (G : Good rows) {p : Nat} (hp : p < rows.length) : (shelfOf ((pre rows.length rows 0).map (pathOf rows))).filter (fun e => decide (e.1 = pathOf rows p)) = (kids rows (p : Nat)).map (entry rows) := by
  have e : shelfOf ((pre rows.length rows 0).map (pathOf rows)) = (pre rows.length rows 0).map (entry rows) := by
    unfold shelfOf; rw [List.map_map]; rfl
  rw [e, List.filter_map]
  have h := pre_filter G hp rows.length 0 G.pos (by omega)
  rw [if_pos (chain_root G p hp)] at h
  rw [← h]
  congr 1
  refine List.filter_congr fun k hk => ?_
  obtain ⟨k1, _, k2⟩ := pre_mem G _ 0 G.pos k hk
  have hlt := par_lt G k2 k1
  refine decide_eq_decide.mpr ?_
  have hh : (entry rows k).1 = pathOf rows (parN rows k) := path_head G k2 k1
  constructor
  · intro h; exact path_inj G (by omega) hp (hh.symm.trans h)
  · intro h; exact hh.trans (congrArg (pathOf rows) h)
theorem read_tree (G : Good rows) : ∀ (m m' p : Nat), p < rows.length → rows.length ≤ p + m → rows.length ≤ p + m' → readD m (shelfOf ((pre rows.length rows 0).map (pathOf rows))) (pathOf rows p) = treeD m' rows p
  | 0, _, p, hp, h, _ => by omega
  | _ + 1, 0, p, hp, _, h => by omega
  | m + 1, m' + 1, p, hp, h1, h2 => by
    unfold readD treeD
    rw [shelf_filter G hp, List.map_map]
    congr 1
    refine List.map_congr_left fun k hk => ?_
    obtain ⟨k0, k1, _⟩ := (kid_iff G).mp hk
    have := (kid_chain G hk).2.1
    simp only [Function.comp_apply, entry]
    rw [path_tail G k0 k1, name_read G k0 k1, read_tree G m m' k k1 (by omega) (by omega)]

theorem all_lay : ∀ l : List PyData, (∀ x ∈ l, x.canLay0 = true) → PyData.canLayAll0 l = true
  | [], _ => by simp [PyData.canLayAll0]
  | x :: r, h => by simp [PyData.canLayAll0, h x (by simp), all_lay r fun y hy => h y (by simp [hy])]
theorem all_depth {B : Nat} : ∀ l : List PyData, (∀ x ∈ l, x.depth ≤ B) → PyData.depthAll l ≤ B
  | [], _ => by simp [PyData.depthAll]
  | x :: r, h => by
    have h1 := h x (by simp)
    have h2 := all_depth r fun y hy => h y (by simp [hy])
    simp only [PyData.depthAll]; omega
theorem all_eqv : ∀ l : List PyData, (∀ x ∈ l, PyData.eqv x x = true) → PyData.eqvAll l l = true
  | [], _ => by simp [PyData.eqvAll]
  | x :: r, h => by simp [PyData.eqvAll, h x (by simp), all_eqv r fun y hy => h y (by simp [hy])]
theorem tree_ok (G : Good rows) : ∀ (n p : Nat), (treeD n rows p).canLay0 = true ∧ (treeD n rows p).depth ≤ 2 * n + 1 ∧ PyData.eqv (treeD n rows p) (treeD n rows p) = true
  | 0, p => by unfold treeD; simp [PyData.canLay0, PyData.canLayAll0, PyData.depth, PyData.depthAll, PyData.eqv, PyData.eqvAll]
  | n + 1, p => by
    unfold treeD
    refine ⟨?_, ?_, ?_⟩
    · simp only [PyData.canLay0]
      refine all_lay _ fun x hx => ?_
      obtain ⟨k, hk, rfl⟩ := List.mem_map.mp hx
      obtain ⟨k0, k1, _⟩ := (kid_iff G).mp hk
      have h1 := (ws_facts _ (row_ws G k0 k1)).2.2.2.2.2
      have h2 := (tree_ok G n k).1
      simp [PyData.canLay0, PyData.canLayAll0, h1, h2]
    · simp only [PyData.depth]
      have := all_depth (B := 2 * n + 2) ((kids rows (p : Nat)).map fun k => PyData.list [.str (titleL (rowAt rows k).ws), treeD n rows k]) fun x hx => by
        obtain ⟨k, hk, rfl⟩ := List.mem_map.mp hx
        have h2 := (tree_ok G n k).2.1
        simp only [PyData.depth, PyData.depthAll]
        omega
      omega
    · simp only [PyData.eqv]
      refine all_eqv _ fun x hx => ?_
      obtain ⟨k, hk, rfl⟩ := List.mem_map.mp hx
      have h2 := (tree_ok G n k).2.2
      simp [PyData.eqv, PyData.eqvAll, h2]
end
end
section
set_option Elab.async false
set_option maxRecDepth 100000
set_option maxHeartbeats 4000000
theorem at_old {rows : List Row} {r : Row} {k : Nat} (h : k < rows.length) : rowAt (rows ++ [r]) k = rowAt rows k := by
  unfold rowAt
  rw [List.getD_eq_getElem?_getD, List.getD_eq_getElem?_getD, List.getElem?_append_left h]
theorem at_new {rows : List Row} {r : Row} : rowAt (rows ++ [r]) rows.length = r := by
  unfold rowAt
  rw [List.getD_eq_getElem?_getD, List.getElem?_append_right (Nat.le_refl _), Nat.sub_self]; rfl
theorem at_mem {rows : List Row} {k : Nat} (h : k < rows.length) : rowAt rows k ∈ rows := by
  unfold rowAt
  rw [List.getD_eq_getElem?_getD, List.getElem?_eq_getElem h]
  exact List.getElem_mem h

theorem good_step {rows : List Row} (G : Good rows) (hl : rows.length + 1 ≤ 17) (x : Int) : Good (stepR rows x) ∧ (stepR rows x).length ≤ rows.length + 1 := by
  unfold stepR
  split
  · exact ⟨G, by omega⟩
  · rename_i hs
    have hp := G.pos
    have hnew : ∀ a ∈ rows, ¬ (a.par = (mkRow rows.length x).par ∧ a.ws = (mkRow rows.length x).ws) := by
      intro a ha hb
      apply hs
      rw [List.any_eq_true]
      exact ⟨a, ha, by unfold same; rw [decide_eq_true hb.1, decide_eq_true hb.2]; rfl⟩
    have hpar : 0 ≤ (mkRow rows.length x).par ∧ (mkRow rows.length x).par < rows.length := by
      unfold mkRow
      exact ⟨Int.fmod_nonneg_of_pos x (by omega), Int.fmod_lt_of_pos x (by omega)⟩
    have hws : (mkRow rows.length x).ws ≠ [] ∧ (mkRow rows.length x).ws.length ≤ 2 := by
      unfold mkRow
      refine ⟨by simp, ?_⟩
      simp only [List.length_append]
      split <;> simp
    have hkind : 0 ≤ (mkRow rows.length x).kind ∧ (mkRow rows.length x).kind < 4 := by
      unfold mkRow
      exact ⟨Int.fmod_nonneg_of_pos _ (by omega), Int.fmod_lt_of_pos _ (by omega)⟩
    have hok : RowOk (mkRow rows.length x) := mkRow_ok _ _
    generalize mkRow rows.length x = r at *
    have hlen : (rows ++ [r]).length = rows.length + 1 := by simp
    have hat : ∀ k, k < (rows ++ [r]).length → (k < rows.length ∧ rowAt (rows ++ [r]) k = rowAt rows k) ∨ (k = rows.length ∧ rowAt (rows ++ [r]) k = r) := by
      intro k hk
      by_cases h : k < rows.length
      · exact .inl ⟨h, at_old h⟩
      · have : k = rows.length := by omega
        subst this
        exact .inr ⟨rfl, at_new⟩
    refine ⟨⟨by omega, by omega, ?_, ?_, ?_, ?_, ?_, ?_⟩, by omega⟩
    · rw [at_old hp]; exact G.root
    · intro k h0 hk
      rcases hat k hk with ⟨h, e⟩ | ⟨h, e⟩ <;> rw [e]
      · exact G.up k h0 h
      · exact ⟨hpar.1, by omega⟩
    · intro k h0 hk
      rcases hat k hk with ⟨h, e⟩ | ⟨h, e⟩ <;> rw [e]
      · exact G.ws k h0 h
      · exact hws
    · intro k h0 hk
      rcases hat k hk with ⟨h, e⟩ | ⟨h, e⟩ <;> rw [e]
      · exact G.kind k h0 h
      · exact hkind
    · intro k hk
      rcases hat k hk with ⟨h, e⟩ | ⟨h, e⟩ <;> rw [e]
      · exact G.ok k h
      · exact hok
    · intro i j i0 hi j0 hj
      rcases hat i hi with ⟨h, e⟩ | ⟨h, e⟩ <;> rcases hat j hj with ⟨h', e'⟩ | ⟨h', e'⟩ <;> rw [e, e'] <;> intro h1 h2
      · exact G.uniq i j i0 h j0 h' h1 h2
      · exact absurd ⟨h1, h2⟩ (hnew _ (at_mem h))
      · exact absurd ⟨h1.symm, h2.symm⟩ (hnew _ (at_mem h'))
      · omega
theorem good_fold : ∀ (xs : List Int) (rows : List Row), Good rows → rows.length + xs.length ≤ 17 → Good (xs.foldl stepR rows)
  | [], rows, G, _ => G
  | x :: r, rows, G, h => by
    rw [List.length_cons] at h
    obtain ⟨h1, h2⟩ := good_step G (by omega) x
    exact good_fold r _ h1 (by omega)
theorem good_rows (xs : List Int) (h : xs.length ≤ 16) : Good (rowsF xs) := by
  unfold rowsF
  refine good_fold xs _ ?_ (by simp; omega)
  refine ⟨by simp, by simp, rfl, ?_, ?_, ?_, ?_, ?_⟩
  · intro k h0 hk; simp at hk; omega
  · intro k h0 hk; simp at hk; omega
  · intro k h0 hk; simp at hk; omega
  · intro k hk
    have : k = 0 := by simp at hk; omega
    subst this
    intro x hx
    simp [rowAt] at hx
  · intro i j h0 hi; simp at hi; omega

noncomputable def rankS (s : Str) : Nat := 150 - s.length
theorem law_ok {rows : List Row} (G : Good rows) : LawOk rows (chF rows.length rows [0]) (upOf rows) rankS 150 := by
  have hp := G.pos
  have hL := G.len
  have e : chF rows.length rows [0] = (leaves rows.length rows 0).map (chainOf rows) := by
    rw [← chF_leaves G _ 0 hp, chain_zero]
  have hch : ∀ c ∈ chF rows.length rows [0], ∃ k, k < rows.length ∧ c = chainOf rows k := by
    intro c hc
    rw [e] at hc
    obtain ⟨k, hk, rfl⟩ := List.mem_map.mp hc
    exact ⟨k, (leaf_mem G _ 0 hp k hk).1, rfl⟩
  have hdrop : ∀ k, k < rows.length → ∀ x ∈ (chainOf rows k).drop 1, 0 < x ∧ x < rows.length := by
    intro k hk x hx
    obtain ⟨t, e2, ht⟩ := chain_cons G k hk
    have := chain_le G k hk x (List.mem_of_mem_drop hx)
    rw [e2] at hx
    exact ⟨ht x hx, by omega⟩
  have hlen : ∀ k, k < rows.length → (chainOf rows k).length ≤ 17 := by
    intro k hk
    have := chain_len G k hk
    omega
  have hplain : ∀ k, k < rows.length → plainOf rows (chainOf rows k) = pathOf rows k := fun k hk => (way_facts G (hdrop k hk) (hlen k hk)).2.2.2
  have hpl := places_pre G
  refine
    { G := G
      cnt := chF_count G
      chE := rfl
      ne := ?_
      few := ?_
      lt := ?_
      pos := ?_
      len := ?_
      way := ?_
      pl := ?_
      com := ?_
      okS := ?_
      climb := ?_
      plc := ?_
      plcL := ?_
      rnk := ?_
      top := ?_
      nle := by omega
      read := ?_
      lay := (tree_ok G _ _).1
      dep := ?_
      self := (tree_ok G _ _).2.2 }
  · rw [e]
    intro h
    exact leaves_ne G _ 0 hp (by omega) (List.map_eq_nil_iff.mp h)
  · rw [e, List.length_map]
    have := leaves_len G rows.length 0 hp
    omega
  · intro c hc x hx
    obtain ⟨k, hk, rfl⟩ := hch c hc
    have := chain_le G k hk x hx
    omega
  · intro c hc x hx
    obtain ⟨k, hk, rfl⟩ := hch c hc
    exact (hdrop k hk x hx).1
  · intro c hc
    obtain ⟨k, hk, rfl⟩ := hch c hc
    exact hlen k hk
  · intro c hc
    obtain ⟨k, hk, rfl⟩ := hch c hc
    obtain ⟨a, b, d, _⟩ := way_facts G (hdrop k hk) (hlen k hk)
    exact ⟨a, b, d⟩
  · intro c hc
    obtain ⟨k, hk, rfl⟩ := hch c hc
    rw [hplain k hk]
    refine ⟨by have := path_len G hk; omega, (starts_iff _).mpr ?_⟩
    unfold pathOf
    rw [cps_app, slash_cps]; simp
  · intro i c d hc hd
    obtain ⟨k, hk, rfl⟩ := hch c (List.mem_of_getElem? hc)
    obtain ⟨j, hj, rfl⟩ := hch d (List.mem_of_getElem? hd)
    rw [hplain k hk, hplain j hj]
    exact com_shared G hk hj
  · intro i c d hc _
    obtain ⟨k, hk, rfl⟩ := hch c (List.mem_of_getElem? hc)
    exact shared_ok G hk d
  · intro c hc
    obtain ⟨k, hk, rfl⟩ := hch c hc
    rw [hplain k hk]
    refine ⟨path_climbs G k hk, ?_⟩
    unfold upOf
    rw [List.length_map, List.length_drop]
    have := hlen k hk
    omega
  · rw [hpl, List.length_map]
    have := nodup_len rows.length _ (pre_nodup G rows.length 0 hp) fun x hx => (pre_mem G _ 0 hp x hx).1
    omega
  · intro p hq
    rw [hpl] at hq
    obtain ⟨k, hk, rfl⟩ := List.mem_map.mp hq
    have := path_len G (pre_mem G _ 0 hp k hk).1
    omega
  · intro en he
    rw [hpl] at he
    unfold shelfOf at he
    obtain ⟨p, hq, rfl⟩ := List.mem_map.mp he
    obtain ⟨k, hk, rfl⟩ := List.mem_map.mp hq
    obtain ⟨k1, _, k2⟩ := pre_mem G _ 0 hp k hk
    have h1 := path_len G k1
    have h2 := path_up G k2 k1
    show rankS (pathOf rows k) < rankS (headF (pathOf rows k))
    rw [path_head G k2 k1]
    unfold rankS
    omega
  · have h : rankS "/" = 149 := by unfold rankS; rw [slash_len]
    rw [h]; omega
  · rw [hpl]
    have := read_tree G 150 rows.length 0 hp (by omega) (by omega)
    rw [path_zero] at this
    exact this
  · have := (tree_ok G rows.length 0).2.1
    omega

theorem pure_law (script : List Int) : ∃ chains up rank n, LawOk (rowsF (numsOf' script)) chains up rank n :=
  ⟨_, _, _, _, law_ok (good_rows (numsOf' script) (by unfold numsOf'; simp; omega))⟩
end
end Mine
end
section
open PySem PySem.W PyProof.Rows
set_option Elab.async false
set_option maxRecDepth 100000
set_option maxHeartbeats 8000000
namespace Mine

theorem law_call {C : Cx} {X : Addr → Prop} {name : Str} {params : Arguments} {body : List Stmt} {scope : Scope} {x0 : Str} {d r : PyData} {ρ : Rho} {a : Addr} {o : Obj} {pm code doc : Value} {A : Around} {s : Shared} {v : Value} {R : Result → Shared → Prop}
    (h2 : C.hb.get? a = some o) (h3 : o.data = .func (Calls.docDef name params body scope pm code doc)) (h4 : C.hb.CodeRec code name)
    (hbind : ∀ (v : Value), bindArgs (Calls.docDef name params body scope pm code doc) ⟨[v], []⟩ = pure [(x0, v)])
    (hkd : (scope.names.lookup x0 == some .local || scope.names.lookup x0 == some .cell) = true)
    (hcn : ((cellsFrom 0 scope.names []).map (·.1)).Nodup) (hρ : ParOk scope.names [(x0, d)] ρ) (hbody : ExR C 200 ρ body (.ret r)) (O : Ok C X 201 A s) (hr : Rd X s.heap d v)
    (hR : ∀ v s', PySem.Keeps s s' → Rd X s'.heap r v → R (.ok (.ret v)) s')
    (hco : scope.isCoroutine = false := by rfl) (hgen : scope.isGenerator = false := by rfl) (hk : scope.kind = .function := by rfl) : codeAny C.M A (.call (.ref a) ⟨[v], []⟩) R s := by
  refine codeAny_call_cells (binds := [(x0, v)]) (body := body) (by have := O.dp; show _ < 1000; omega) (O.base _ _ h2) h3 (C.nolimit.keeps O.base) (h4.keeps O.base) rfl (hbind v) rfl
    (kinds_all (by rw [List.all_eq_true]; intro p hp; simp only [List.mem_singleton] at hp; subst hp; exact hkd) _) (fun s₁ x => ?_) hco hgen hk
  have S := par_sees (fd := Calls.docDef name params body scope pm code doc) (names := [x0]) (ds := [d]) (vs := [v]) rfl rfl hk (by simp) rfl x ⟨v, [], rfl, hr, rfl⟩ ρ hρ
  have hL : s.heap.objs.size ≤ (callEnvC (Calls.docDef name params body scope pm code doc) s.heap.objs.size a).locals := Nat.le_refl _
  have hb1 : Grow s.heap s₁.heap := x.toInCall.keep
  have O1 : Ok C X 200 (A.deeper (callEnvC (Calls.docDef name params body scope pm code doc) s.heap.objs.size a)) s₁ := ⟨O.hd, by have := O.dp; show A.depth + 1 + 200 ≤ 950; omega, by have := O.un; show A.units + 3 + 20 * 200 ≤ 9700; omega, fun b o e => hb1 b o (O.base b o e), fun b hb => let ⟨x, e⟩ := O.xb b hb; ⟨x, hb1 b x e⟩⟩
  have w1 : Own C (callEnvC (Calls.docDef name params body scope pm code doc) s.heap.objs.size a) s₁.heap := by
    refine ⟨⟨_, x.toInCall.ns⟩, fun n c hm => ⟨_, x.cell n c (lookup_of_mem_nodup (cells_nodup hcn _) hm)⟩, none_of_base O (get_none hL), fun n c hm => none_of_base O (get_none (Nat.le_of_lt (x.above n c hm))), x.apart⟩
  refine hbody X _ _ s₁ O1 w1 S _ _ fun fl s2 k2 w2 e2 => ?_
  obtain ⟨v, rfl, rv⟩ := e2
  obtain ⟨hh, tk, e1, keep⟩ := x.done
  obtain ⟨h', tk', e2, g⟩ := k2
  subst e1
  subst e2
  refine hR v _ ⟨h', tk', rfl, fun b o e => g b o ?_ (keep b o e)⟩ rv
  have hlt := Heap.lt_size e
  rintro (q | ⟨n', hm⟩)
  · exact absurd hlt (Nat.not_lt.mpr (q ▸ hL))
  · exact absurd hlt (Nat.not_lt.mpr (Nat.le_of_lt (x.above _ _ hm)))

theorem rd_ints {h : Heap} : ∀ {vs : List Value} {ns : List Int}, IntsAre vs ns → RdL (fun _ => False) h (ns.map PyData.int) vs := by
  intro vs ns hi
  induction hi with
  | nil => exact rfl
  | cons n t r ih => exact ⟨_, _, rfl, ⟨_, rfl⟩, ih⟩


noncomputable abbrev ent (P : Params) (x : Str) (t : Nat) (v : Value) : DictEntry := ⟨PyData.keyHash P x, .str x t, v⟩
/-- the four objects of the end state that the walk asks for -/
noncomputable def kf (P : Params) : Frag := [
  (3, { cls := .type "dict", data := .dict #[ent P "__name__" 165 (.str "law_pd0053_01" 387), ent P "__doc__" 166 (.none), ent P "__package__" 167 (.none), ent P "__loader__" 168 (.builtin "__main__.__loader__#opaque"), ent P "__spec__" 169 (.none), ent P "__annotations__" 170 (.ref 6), ent P "__builtins__" 171 (.ref 4), ent P "__file__" 173 (.str "/claim/cut.py" 172), ent P "__cached__" 174 (.none), ent P "_wall" 193 (.ref 21), ent P "capwords" 203 (.ref 29), ent P "_plain_name" 214 (.ref 36), ent P "ABCMeta" 240 (.ref 53), ent P "_ABCLike" 283 (.ref 86), ent P "_abc_plain_meta" 290 (.ref 95), ent P "fspath" 302 (.ref 102), ent P "_check_arg_types" 315 (.ref 109), ent P "_get_sep" 324 (.ref 116), ent P "join" 335 (.ref 123), ent P "split" 346 (.ref 130), ent P "splitroot" 355 (.ref 137), ent P "dirname" 365 (.ref 144), ent P "normpath" 380 (.ref 151), ent P "commonpath" 386 (.ref 156), ent P "_law_rows" 394 (.ref 161), ent P "_law_tree" 400 (.ref 166), ent P "_law_chains" 406 (.ref 171), ent P "_law_way" 416 (.ref 178), ent P "_law_places" 422 (.ref 183), ent P "_law_read" 428 (.ref 188), ent P "_law_shared" 434 (.ref 193), ent P "law" 440 (.ref 198)] 32 }),
  (22, { cls := .type "tuple", data := .seq #[.none] }),
  (28, { cls := .type "code", data := .fields #[.str "capwords" 196, .str "capwords" 197, .str "/claim/cut.py" 198, .int 5 0, .int 2 0, .int 0 0, .int 0 0, .int 3 0, .ref 23, .bool true, .int 181 0, .ref 24, .none, .ref 25, .ref 26, .ref 27, .int 201 0, .int 5 0, .str "/claim/cut.py" 202] }),
  (29, { cls := .type "function", data := .func { Calls.docDef "capwords" (argsOf "capwords") (bodyOf "capwords") (scopeOf "capwords") (.str "cpy313.string" 194) (.ref 28) .none with defaults := .ref 22, kwdefaults := .none } })]
theorem kf_as (P : Params) : [3, 22, 28, 29] = (kf P).map (·.1) := rfl
theorem def_of {C : Cx} {q : Program} {l : List Str} {mean : ExcName → Option Value} (T : Top q l mean C.mg C.mb C.hb) (n : Str) {i : Nat} {d : DefRec} (h : (recsOf q)[i]? = some d) (h1 : d.name = n) (h2 : d.params = argsOf n) (h3 : d.body = bodyOf n) (h4 : d.scope = scopeOf n) : DefOf C n := by
  obtain ⟨a, o, pm, code, doc, k1, k2, k3, k4⟩ := T.fn d (List.mem_of_getElem? h)
  subst h1
  rw [h2, h3, h4] at k3
  exact ⟨a, o, pm, code, doc, k1, k2, k3, k4⟩
theorem free_of {C : Cx} {q : Program} {l : List Str} {mean : ExcName → Option Value} (T : Top q l mean C.mg C.mb C.hb) (n : Str) (h : (decide (n ∉ startupNames) && decide (n ∉ l) && decide (n ∉ (recsOf q).map (·.name)) && decide (n ∉ (litsOf q).map (·.1)) && decide (n ∉ (clssOf q l).map (·.name))) = true) : C.mg n = none := by
  simp only [Bool.and_eq_true, decide_eq_true_eq] at h
  exact T.free n h.1.1.1.1 h.1.1.1.2 h.1.1.2 h.1.2 h.2
theorem cap_in (P : Params) : ∃ o es ep, (kf P).lookup 3 = some o ∧ o.data = .dict es ep ∧ ∃ A, nsFind es "capwords" = some (.ref A) ∧ ∃ oA, (kf P).lookup A = some oA ∧ ∃ pm code doc d, oA.data = .func { Calls.docDef "capwords" (argsOf "capwords") (bodyOf "capwords") (scopeOf "capwords") pm code doc with defaults := .ref d, kwdefaults := .none } ∧
   (∃ c o vs t, code = .ref c ∧ (kf P).lookup c = some o ∧ o.data = .fields vs ∧ vs[1]? = some (.str "capwords" t)) ∧ ∃ od u n, (kf P).lookup d = some od ∧ od.data = .seq #[u] n := by
  refine ⟨_, _, _, rfl, rfl, ?_⟩
  refine ⟨_, rfl, ?_⟩
  refine ⟨_, rfl, ?_⟩
  refine ⟨_, _, _, _, rfl, ?_⟩
  refine ⟨?_, _, _, _, rfl, rfl⟩
  refine ⟨_, _, _, _, rfl, rfl, rfl, rfl⟩
theorem cap_of {C : Cx} {P : Params} (X : (kf P).In C.hb) : DefD C "capwords" (argsOf "capwords") (bodyOf "capwords") (scopeOf "capwords") := by
  obtain ⟨o, es, ep, l3, ho, A, hA, oA, lA, pm, code, doc, d, hoA, ⟨c, oc, vs, t, hc, lc, hoc, hv⟩, od, u, n, ld, hod⟩ := cap_in P
  obtain ⟨o', es', ep', ho', hd', _, hf⟩ := C.g
  have e3 : C.hb.get? mainGlobals = some o := X 3 o l3
  rw [e3] at ho'
  cases ho'
  rw [ho] at hd'
  cases hd'
  exact ⟨A, oA, pm, code, doc, d, od, u, n, (hf _).symm.trans hA, X _ _ lA, hoA, ⟨c, oc, vs, t, hc, X _ _ lc, hoc, hv⟩, X _ _ ld, hod⟩
end Mine

end

open PySem PySem.W PyProof.Rows
set_option maxRecDepth 100000 in
set_option maxHeartbeats 8000000 in
theorem PySem.Challenge.cw_pd0053_01_holds : PySem.Challenge.rw_pd0053_01.Holds := by
  w_on
  o_law
  o_head (kHook Mine.kf [3, 22, 28, 29] Mine.kf_as)
  (case hw => w_witness2)
  intro w s₀ s₁ mg mb G Y fa o pm cd doc dV kV ho hd hcd hD hmg hg args vals as hpre hlay hrd hwl hlo
  have KX := kIn_of Y
  refine Ground.open G ?_
  intro T B D TE TW
  wrow_args hpre hlay hrd hwl hlo
  refine enter_call ?_
  w_top on
  refine codeAny_mono ?_ (fun _ _ g => GoodW.toG g)
  rename_i nsV _ _ _ _ _ _ _ wl vsl _ hL _ _ _ hI _ hc _
  let C : Mine.Cx := ⟨PySem.Challenge.rw_pd0053_01.row.prog, w, s₁.heap, mg, mb, T.g, T.b, T.nolimit, T.builtins⟩
  have N : Mine.Nm2 C := {
    type := Mine.free_of (C := C) T "type" (by decide +kernel)
    issubclass := Mine.free_of (C := C) T "issubclass" (by decide +kernel)
    isinstance := Mine.free_of (C := C) T "isinstance" (by decide +kernel)
    str := Mine.free_of (C := C) T "str" (by decide +kernel)
    bytes := Mine.free_of (C := C) T "bytes" (by decide +kernel)
    len := Mine.free_of (C := C) T "len" (by decide +kernel)
    range := Mine.free_of (C := C) T "range" (by decide +kernel)
    zip := Mine.free_of (C := C) T "zip" (by decide +kernel)
    enumerate := Mine.free_of (C := C) T "enumerate" (by decide +kernel)
    min := Mine.free_of (C := C) T "min" (by decide +kernel)
    max := Mine.free_of (C := C) T "max" (by decide +kernel)
    tuple := Mine.free_of (C := C) T "tuple" (by decide +kernel)
    map := Mine.free_of (C := C) T "map" (by decide +kernel)
    fspath := Mine.def_of (C := C) T "fspath" (i := 3) rfl rfl rfl rfl rfl
    get_sep := Mine.def_of (C := C) T "_get_sep" (i := 5) rfl rfl rfl rfl rfl
    join := Mine.def_of (C := C) T "join" (i := 6) rfl rfl rfl rfl rfl
    split := Mine.def_of (C := C) T "split" (i := 7) rfl rfl rfl rfl rfl
    splitroot := Mine.def_of (C := C) T "splitroot" (i := 8) rfl rfl rfl rfl rfl
    dirname := Mine.def_of (C := C) T "dirname" (i := 9) rfl rfl rfl rfl rfl
    normpath := Mine.def_of (C := C) T "normpath" (i := 10) rfl rfl rfl rfl rfl
    commonpath := Mine.def_of (C := C) T "commonpath" (i := 11) rfl rfl rfl rfl rfl
    rows := Mine.def_of (C := C) T "_law_rows" (i := 12) rfl rfl rfl rfl rfl
    tree := Mine.def_of (C := C) T "_law_tree" (i := 13) rfl rfl rfl rfl rfl
    chains := Mine.def_of (C := C) T "_law_chains" (i := 14) rfl rfl rfl rfl rfl
    way := Mine.def_of (C := C) T "_law_way" (i := 15) rfl rfl rfl rfl rfl
    places := Mine.def_of (C := C) T "_law_places" (i := 16) rfl rfl rfl rfl rfl
    read := Mine.def_of (C := C) T "_law_read" (i := 17) rfl rfl rfl rfl rfl
    shared := Mine.def_of (C := C) T "_law_shared" (i := 18) rfl rfl rfl rfl rfl }
  have DC := Mine.cap_of (C := C) KX
  obtain ⟨chains, up, rank, n, H⟩ := Mine.pure_law nsV
  have edV : dV = .none := by
    rcases hD.pos with ⟨_, e⟩ | ⟨e, _⟩
    · exact e
    · exact absurd rfl e
  have ekV : kV = .none := by
    rcases hD.kw with ⟨_, e⟩ | ⟨e, _⟩
    · exact e
    · exact absurd rfl e
  subst edV ekV
  have O : Mine.Ok C (fun _ => False) 201 callerA s₁ := ⟨rfl, by decide, by decide, fun _ _ e => e, fun _ q => q.elim⟩
  refine Mine.law_call (C := C) (X := fun _ => False) (name := "law") (params := Mine.argsOf "law") (body := Mine.bodyOf "law") (scope := Mine.scopeOf "law") (x0 := "script") (d := .list (nsV.map PyData.int)) (r := .bool true) ho hd hcd (fun v => by rfl) (by decide +kernel) (by decide +kernel) (ρ := Mine.rhoL nsV .unc .unc .unc .unl .unl .unl) ?_ (Mine.law_body N DC nsV (by omega) H) O ⟨wl, vsl.toArray, rfl, fun q => q, hL, Mine.rd_ints hI⟩ fun v s' kp r => ?_
  · exact ⟨⟨rfl, rfl⟩, rfl, rfl, rfl, rfl, rfl, rfl, rfl, rfl, rfl, rfl, rfl, rfl, rfl, trivial⟩
  · obtain ⟨h', tk, rfl, g⟩ := kp
    cases r
    refine ⟨.inl ⟨.bool true, .bool true, [], rfl, ?_, .bool true, ?_, unshared_nil⟩, g, rfl, hg⟩
    · refine raisesW_false ?_
      wrow_none_raised
    · wrow_post
