import PyProof.Rows.All
import Wide.All
import OpenK.AllK
import Wide.FinOn
import Lean
import PySem.Challenge.RW_sn0023_01
set_option Elab.async false
set_option linter.all false
/-! SnH -/
section
open PySem PySem.W PyProof.Rows
set_option maxRecDepth 100000
set_option maxHeartbeats 8000000
namespace Mine
open_top hd for PySem.Challenge.rw_sn0023_01
end Mine
end
/-! B1 -/
section
open PySem PySem.W PyProof.Rows PySem.Spec PySem.Calls
set_option maxRecDepth 100000
set_option maxHeartbeats 1000000
set_option linter.unusedVariables false
namespace Mine

abbrev prog : Program := PySem.Challenge.rw_sn0023_01.row.prog

abbrev PM := Addr → Option Obj
noncomputable def PM.le (z z' : PM) : Prop := ∀ a o, z a = some o → z' a = some o
theorem PM.le.refl (z : PM) : z.le z := fun _ _ e => e
theorem PM.le.trans {z z' z'' : PM} (x : z.le z') (y : z'.le z'') : z.le z'' := fun a o e => y a o (x a o e)
noncomputable def PM.put (z : PM) (a : Addr) (o : Obj) : PM := fun b => if b = a then some o else z b
theorem PM.le.put {z : PM} {a : Addr} {o : Obj} (h : z a = none) : z.le (z.put a o) := fun b o' e => by
  unfold PM.put
  split
  · rename_i hb; subst hb; rw [h] at e; cases e
  · exact e
theorem PM.put_self (z : PM) (a : Addr) (o : Obj) : (z.put a o) a = some o := if_pos rfl

structure WS where
  raw : Str
  n : Int
  nt : Int
  count : List Int
  b : Int
  simple : Bool

inductive D
  | none
  | bool (b : Bool)
  | int (i : Int)
  | str (x : Str)
  | list (xs : List D)
  | tup (xs : List D)
  | rng (a b c : Int)
  | ws (W : WS)
  | val (v : Value)

abbrev LO (vs : List Value) (n : Nat) : Obj := { cls := .type "list", dict := .none, data := .seq vs.toArray n, slots := #[] }
abbrev TO (vs : List Value) (n : Nat) : Obj := { cls := .type "tuple", dict := .none, data := .seq vs.toArray n, slots := #[] }
abbrev RO (a b c : Int) (t u v : Tok) : Obj := { cls := .type "range", dict := .none, data := .fields #[.int a t, .int b u, .int c v], slots := #[] }

noncomputable def IntRep (ns : List Int) (vs : List Value) : Prop := vs.length = ns.length ∧ ∀ (i : Nat) (n : Int), ns[i]? = some n → ∃ t, vs[i]? = some (Value.int n t)

/-- the entries of a finished object -/
noncomputable def WsEs (z : PM) (W : WS) (es : List DictEntry) : Prop :=
  (∃ t, getL "raw" es = some (some (.str W.raw t))) ∧ (∃ t, getL "n" es = some (some (.int W.n t))) ∧ (∃ t, getL "nt" es = some (some (.int W.nt t))) ∧
  getL "is_simple" es = some (some (.bool W.simple)) ∧
  (∃ a k tc vs n t, getL "norm" es = some (some (.ref a)) ∧ z a = some (TO [.ref tc, .int W.b t] k) ∧ z tc = some (TO vs n) ∧ IntRep W.count vs) ∧
  getL "longest_run_of_spaces" es = some none ∧ getL "indent_level" es = some none ∧ getL "less" es = some none ∧ getL "not_equal_witness" es = some none

mutual
noncomputable def Rep (z : PM) : D → Value → Prop
  | .none, v => v = .none
  | .bool b, v => v = .bool b
  | .int i, v => ∃ t, v = .int i t
  | .str x, v => ∃ t, v = .str x t
  | .list xs, v => ∃ a vs n, v = .ref a ∧ z a = some (LO vs n) ∧ Reps z xs vs
  | .tup xs, v => ∃ a vs n, v = .ref a ∧ z a = some (TO vs n) ∧ Reps z xs vs
  | .rng a b c, v => ∃ r t u x, v = .ref r ∧ z r = some (RO a b c t u x)
  | .ws W, v => ∃ x dx es n, v = .ref x ∧ z x = some (instObj 131 dx) ∧ z dx = some (dictOf es n) ∧ WsEs z W es
  | .val u, v => v = u
noncomputable def Reps (z : PM) : List D → List Value → Prop
  | [], vs => vs = []
  | d :: ds, vs => ∃ v r, vs = v :: r ∧ Rep z d v ∧ Reps z ds r
end

theorem WsEs.mono {z z' : PM} (h : z.le z') {W : WS} {es : List DictEntry} : WsEs z W es → WsEs z' W es := by
  rintro ⟨h1, h2, h3, h4, ⟨a, k, tc, vs, n, t, e1, e2, e3, e4⟩, h6⟩
  exact ⟨h1, h2, h3, h4, ⟨a, k, tc, vs, n, t, e1, h _ _ e2, h _ _ e3, e4⟩, h6⟩

mutual
theorem Rep.mono {z z' : PM} (h : z.le z') : ∀ (d : D) {v : Value}, Rep z d v → Rep z' d v
  | .none, _, x => x
  | .bool _, _, x => x
  | .int _, _, x => x
  | .str _, _, x => x
  | .list xs, _, ⟨a, vs, n, e, ha, hr⟩ => ⟨a, vs, n, e, h _ _ ha, Reps.mono h xs hr⟩
  | .tup xs, _, ⟨a, vs, n, e, ha, hr⟩ => ⟨a, vs, n, e, h _ _ ha, Reps.mono h xs hr⟩
  | .rng _ _ _, _, ⟨r, t, u, x, e, hr⟩ => ⟨r, t, u, x, e, h _ _ hr⟩
  | .ws _, _, ⟨x, dx, es, n, e, h1, h2, h3⟩ => ⟨x, dx, es, n, e, h _ _ h1, h _ _ h2, h3.mono h⟩
  | .val _, _, x => x
theorem Reps.mono {z z' : PM} (h : z.le z') : ∀ (ds : List D) {vs : List Value}, Reps z ds vs → Reps z' ds vs
  | [], _, x => x
  | d :: ds, _, ⟨v, r, e, h1, h2⟩ => ⟨v, r, e, Rep.mono h d h1, Reps.mono h ds h2⟩
end

theorem Reps.length {z : PM} : ∀ {ds : List D} {vs : List Value}, Reps z ds vs → vs.length = ds.length
  | [], _, e => by rw [show _ = [] from e]; rfl
  | _ :: _, _, ⟨_, _, e, _, h⟩ => by rw [e, List.length_cons, List.length_cons, Reps.length h]
theorem Reps.get {z : PM} : ∀ {ds : List D} {vs : List Value}, Reps z ds vs → ∀ {i : Nat} {d : D}, ds[i]? = some d → ∃ v, vs[i]? = some v ∧ Rep z d v
  | [], _, _, i, d, e => by simp at e
  | _ :: _, _, ⟨v, r, e, h1, h2⟩, 0, d, q => by
    subst e; simp at q; subst q; exact ⟨v, rfl, h1⟩
  | _ :: _, _, ⟨v, r, e, h1, h2⟩, i + 1, d, q => by
    subst e
    obtain ⟨v', a, b⟩ := Reps.get h2 (i := i) (d := d) (by simpa using q)
    exact ⟨v', by simpa using a, b⟩
theorem Reps.append {z : PM} : ∀ {ds : List D} {vs : List Value} {ds' : List D} {vs' : List Value}, Reps z ds vs → Reps z ds' vs' → Reps z (ds ++ ds') (vs ++ vs')
  | [], _, _, _, e, h' => by rw [show _ = [] from e]; exact h'
  | _ :: _, _, _, _, ⟨v, r, e, h1, h2⟩, h' => ⟨v, r ++ _, by rw [e]; rfl, h1, Reps.append h2 h'⟩
theorem Reps.one {z : PM} {d : D} {v : Value} (h : Rep z d v) : Reps z [d] [v] := ⟨v, [], rfl, h, rfl⟩
theorem Reps.cons {z : PM} {d : D} {v : Value} {ds vs} (h : Rep z d v) (h' : Reps z ds vs) : Reps z (d :: ds) (v :: vs) := ⟨v, vs, rfl, h, h'⟩
theorem Reps.take {z : PM} : ∀ (k : Nat) {ds : List D} {vs : List Value}, Reps z ds vs → Reps z (ds.take k) (vs.take k)
  | 0, _, _, _ => by simp only [List.take_zero]; exact rfl
  | _ + 1, [], _, e => by rw [show _ = [] from e]; simp only [List.take_nil]; exact rfl
  | k + 1, _ :: _, _, ⟨v, r, e, h1, h2⟩ => by rw [e]; simp only [List.take_succ_cons]; exact ⟨v, _, rfl, h1, Reps.take k h2⟩
theorem Reps.drop {z : PM} : ∀ (k : Nat) {ds : List D} {vs : List Value}, Reps z ds vs → Reps z (ds.drop k) (vs.drop k)
  | 0, _, _, h => by simpa using h
  | _ + 1, [], _, e => by rw [show _ = [] from e]; simp only [List.drop_nil]; exact rfl
  | k + 1, _ :: _, _, ⟨v, r, e, h1, h2⟩ => by rw [e]; simp only [List.drop_succ_cons]; exact Reps.drop k h2

inductive Slot
  | no
  | val (d : D)
  | own (ds : List D)
abbrev Frame := List (Str × Slot)

structure Cx where
  w : World
  A : Around
  env : Env
  h0 : Heap
  g : Array GenState
  dr : Drawn
  os : OsState

noncomputable def Bound (c : Cx) (m : Str → Option Value) (h : Heap) (x : Str) (v : Value) : Prop :=
  (c.env.kindOf x = some .local ∧ m x = some v) ∨ (c.env.kindOf x = some .cell ∧ ∃ ca, c.env.cells.lookup x = some ca ∧ h.IsCell ca (some v))
noncomputable def Named (c : Cx) (x : Str) : Prop := c.env.kindOf x = some .local ∨ (c.env.kindOf x = some .cell ∧ ∃ ca, c.env.cells.lookup x = some ca)

noncomputable def SlotOk (c : Cx) (m : Str → Option Value) (h : Heap) (o : Str → Addr) (z : PM) (x : Str) : Slot → Prop
  | .no => True
  | .val d => ∃ v, Bound c m h x v ∧ Rep z d v
  | .own ds => c.env.kindOf x = some .local ∧ m x = some (.ref (o x)) ∧ ∃ vs n, h.get? (o x) = some (LO vs n) ∧ Reps z ds vs

inductive Priv (c : Cx) (ρ : Frame) (o : Str → Addr) : Addr → Prop
  | loc : Priv c ρ o c.env.locals
  | cell {x a} : (x, a) ∈ c.env.cells → Priv c ρ o a
  | own {x ds} : (x, Slot.own ds) ∈ ρ → Priv c ρ o (o x)

structure St (c : Cx) (ρ : Frame) (o : Str → Addr) (z R : PM) (s : Shared) : Prop where
  zh : ∀ a b, z a = some b → s.heap.get? a = some b
  rh : ∀ a b, R a = some b → s.heap.get? a = some b
  bz : ∀ a b, c.h0.get? a = some b → z a = some b
  zr : ∀ a, z a ≠ none → R a = none
  gs : s.gens = c.g
  ds : s.drawn = c.dr
  oss : s.os = c.os
  nodup : (ρ.map (·.1)).Nodup
  named : ∀ p ∈ ρ, Named c p.1 ∧ (p.1 == ("__debug__" : Str)) = false
  sep : ∀ a, Priv c ρ o a → z a = none ∧ R a = none
  cellL : ∀ p ∈ c.env.cells, p.2 ≠ c.env.locals ∧ ∃ v, s.heap.IsCell p.2 v
  cellD : c.env.cells.Pairwise fun x y => x.2 ≠ y.2
  ownL : ∀ x ds, (x, Slot.own ds) ∈ ρ → o x ≠ c.env.locals ∧ ∀ p ∈ c.env.cells, p.2 ≠ o x
  ownD : ∀ x y dx dy, (x, Slot.own dx) ∈ ρ → (y, Slot.own dy) ∈ ρ → x ≠ y → o x ≠ o y
  slots : ∃ m, s.heap.Ns c.env.locals m ∧ ∀ p ∈ ρ, SlotOk c m s.heap o z p.1 p.2

theorem Bound.mono {c : Cx} {m : Str → Option Value} {h h' : Heap} {x : Str} {v : Value} (hk : ∀ b o, h.get? b = some o → h'.get? b = some o) : Bound c m h x v → Bound c m h' x v
  | .inl e => .inl e
  | .inr ⟨a, ca, b, d⟩ => .inr ⟨a, ca, b, d.keeps hk⟩
theorem SlotOk.mono {c : Cx} {m : Str → Option Value} {h h' : Heap} {o : Str → Addr} {z z' : PM} {x : Str} (hk : ∀ b o, h.get? b = some o → h'.get? b = some o) (hz : z.le z') : ∀ {sl : Slot}, SlotOk c m h o z x sl → SlotOk c m h' o z' x sl
  | .no, _ => trivial
  | .val d, ⟨v, a, b⟩ => ⟨v, a.mono hk, Rep.mono hz d b⟩
  | .own ds, ⟨a, b, vs, n, e, f⟩ => ⟨a, b, vs, n, hk _ _ e, Reps.mono hz ds f⟩

theorem St.live {c : Cx} {ρ : Frame} {o : Str → Addr} {z R : PM} {s : Shared} (S : St c ρ o z R s) {a : Addr} (h : Priv c ρ o a) : ∃ b, s.heap.get? a = some b := by
  obtain ⟨m, hn, hs⟩ := S.slots
  cases h with
  | loc => obtain ⟨b, _, _, e, _⟩ := hn; exact ⟨b, e⟩
  | cell hm => obtain ⟨_, v, b, e, _⟩ := S.cellL _ hm; exact ⟨b, e⟩
  | own hm => obtain ⟨_, _, vs, n, e, _⟩ := hs _ hm; exact ⟨_, e⟩

/-- everything that stood stands; z may have grown by new objects -/
theorem St.grow {c : Cx} {ρ : Frame} {o : Str → Addr} {z R z' : PM} {s : Shared} {h' : Heap} {t' : Nat} (S : St c ρ o z R s) (hk : ∀ b o', s.heap.get? b = some o' → h'.get? b = some o') (hz : z.le z')
    (zh : ∀ a b, z' a = some b → h'.get? a = some b) (hnew : ∀ a, z' a ≠ none → z a ≠ none ∨ s.heap.get? a = none) : St c ρ o z' R { s with heap := h', toks := t' } where
  zh := zh
  rh := fun a b e => hk _ _ (S.rh a b e)
  bz := fun a b e => hz _ _ (S.bz a b e)
  zr := fun a h => (hnew a h).elim (S.zr a) fun e => by
    cases q : R a with
    | none => rfl
    | some b => rw [S.rh _ _ q] at e; cases e
  gs := S.gs
  ds := S.ds
  oss := S.oss
  nodup := S.nodup
  named := S.named
  sep := fun a hp => by
    refine ⟨?_, (S.sep a hp).2⟩
    cases e : z' a with
    | none => rfl
    | some b =>
      rcases hnew a (by rw [e]; exact fun h => nomatch h) with h | h
      · exact absurd (S.sep a hp).1 h
      · obtain ⟨b', e'⟩ := S.live hp
        rw [h] at e'; cases e'
  cellL := fun p hp => ⟨(S.cellL p hp).1, let ⟨v, x⟩ := (S.cellL p hp).2; ⟨v, x.keeps hk⟩⟩
  cellD := S.cellD
  ownL := S.ownL
  ownD := S.ownD
  slots := let ⟨m, hn, hs⟩ := S.slots; ⟨m, hn.keeps hk, fun p hp => (hs p hp).mono hk hz⟩

theorem St.tok {c : Cx} {ρ : Frame} {o : Str → Addr} {z R : PM} {s : Shared} (S : St c ρ o z R s) (t : Nat) : St c ρ o z R { s with toks := t } :=
  S.grow (h' := s.heap) (fun _ _ e => e) (PM.le.refl z) S.zh (fun _ h => .inl h)
theorem St.temp {c : Cx} {ρ : Frame} {o : Str → Addr} {z R : PM} {s : Shared} {h' : Heap} {t : Nat} (S : St c ρ o z R s) (hk : ∀ b o', s.heap.get? b = some o' → h'.get? b = some o') : St c ρ o z R { s with heap := h', toks := t } :=
  S.grow hk (PM.le.refl z) (fun a b e => hk _ _ (S.zh a b e)) (fun _ h => .inl h)
theorem get_size_none (h : Heap) : h.get? h.objs.size = none := by
  cases e : h.get? h.objs.size with
  | none => rfl
  | some o => exact absurd (Heap.lt_size e) (Nat.lt_irrefl _)
theorem push_keeps (h : Heap) (b : Obj) : ∀ a o', h.get? a = some o' → (h.push b).get? a = some o' := fun _ _ e => Heap.get?_push_of_some _ e
theorem St.znew {c : Cx} {ρ : Frame} {o : Str → Addr} {z R : PM} {s : Shared} (S : St c ρ o z R s) {a : Addr} (h : s.heap.get? a = none) : z a = none := by
  cases e : z a with
  | none => rfl
  | some b => rw [S.zh _ _ e] at h; cases h
theorem St.rnew {c : Cx} {ρ : Frame} {o : Str → Addr} {z R : PM} {s : Shared} (S : St c ρ o z R s) {a : Addr} (h : s.heap.get? a = none) : R a = none := by
  cases e : R a with
  | none => rfl
  | some b => rw [S.rh _ _ e] at h; cases h
/-- a new frozen object -/
theorem St.push {c : Cx} {ρ : Frame} {o : Str → Addr} {z R : PM} {s : Shared} (S : St c ρ o z R s) (b : Obj) (t : Nat) (hf : b.isFreed = false := by rfl) :
    St c ρ o (z.put s.heap.objs.size b) R { s with heap := s.heap.push b, toks := t } :=
  S.grow (push_keeps _ _) (PM.le.put (S.znew (get_size_none _))) (fun a b' e => by
    unfold PM.put at e
    split at e
    · rename_i q; cases e; subst q; exact Heap.get?_push_size _ hf
    · exact push_keeps _ _ _ _ (S.zh _ _ e)) (fun a h => by
    unfold PM.put at h
    split at h
    · rename_i q; subst q; exact .inr (get_size_none _)
    · exact .inl h)

structure Ext (z : PM) (s : Shared) (z' : PM) (s' : Shared) : Prop where
  le : z.le z'
  kp : ∀ b o', s.heap.get? b = some o' → s'.heap.get? b = some o'
theorem Ext.trans {z z' z'' : PM} {s s' s'' : Shared} (x : Ext z s z' s') (y : Ext z' s' z'' s'') : Ext z s z'' s'' := ⟨x.le.trans y.le, fun b o e => y.kp b o (x.kp b o e)⟩
theorem Ext.rfl' {z : PM} {s : Shared} : Ext z s z s := ⟨PM.le.refl z, fun _ _ e => e⟩
theorem Ext.tk {z : PM} {s : Shared} {t : Nat} : Ext z s z { s with toks := t } := ⟨PM.le.refl z, fun _ _ e => e⟩
theorem Ext.ps {z : PM} {s : Shared} {t : Nat} {ob : Obj} : Ext z s z { s with heap := s.heap.push ob, toks := t } := ⟨PM.le.refl z, push_keeps _ _⟩

section
variable (c : Cx) (ρ : Frame)
structure EOk (e : Expr) (d : D) : Prop where
  run : ∀ o z R s (Q : Value → Shared → Prop) (E : Value → Shared → Prop), St c ρ o z R s → (∀ v z' s', Ext z s z' s' → St c ρ o z' R s' → Rep z' d v → Q v s') → wpAny (model prog c.w) c.A (eval e c.env) Q E s
structure TOk (e : Expr) (b : Bool) : Prop where
  run : ∀ o z R s (Q : Bool → Shared → Prop) (E : Value → Shared → Prop), St c ρ o z R s → (∀ z' s', Ext z s z' s' → St c ρ o z' R s' → Q b s') → wpAny (model prog c.w) c.A (isTrue e c.env (eval e c.env)) Q E s
structure AOk (es : List Expr) (ds : List D) : Prop where
  run : ∀ pos o z R s (Q : List Value → Shared → Prop) (E : Value → Shared → Prop), St c ρ o z R s → (∀ vs z' s', Ext z s z' s' → St c ρ o z' R s' → Reps z' ds vs → Q vs s') → wpAny (model prog c.w) c.A (spliced (backTo pos (starEach es c.env))) Q E s
/-- a new list that nobody else holds -/
structure NOk (e : Expr) (ds : List D) : Prop where
  run : ∀ o z R s (Q : Value → Shared → Prop) (E : Value → Shared → Prop), St c ρ o z R s →
    (∀ a vs n z' s', Ext z s z' s' → St c ρ o z' R s' → s'.heap.get? a = some (LO vs n) → Reps z' ds vs → z' a = none → R a = none → ¬ Priv c ρ o a → Q (.ref a) s') → wpAny (model prog c.w) c.A (eval e c.env) Q E s
end
structure OpOk (c : Cx) (op : Operator) (d1 d2 d : D) : Prop where
  run : ∀ ρ o z R s v1 v2 (Q : Value → Shared → Prop) (E : Value → Shared → Prop), St c ρ o z R s → Rep z d1 v1 → Rep z d2 v2 → (∀ v z' s', Ext z s z' s' → St c ρ o z' R s' → Rep z' d v → Q v s') → wpAny (model prog c.w) c.A (binaryOp op v1 v2) Q E s
structure CmpOk (c : Cx) (op : CmpOp) (d1 d2 : D) (b : Bool) : Prop where
  run : ∀ ρ o z R s v1 v2 (Q : Value → Shared → Prop) (E : Value → Shared → Prop), St c ρ o z R s → Rep z d1 v1 → Rep z d2 v2 → (∀ s', Ext z s z s' → St c ρ o z R s' → Q (.bool b) s') → wpAny (model prog c.w) c.A (compareOp op v1 v2) Q E s

inductive Fl
  | next | brk | cont
  | ret (d : D)
noncomputable def FlRep (z : PM) : Fl → Flow → Prop
  | .next, f => f = .next
  | .brk, f => f = .brk
  | .cont, f => f = .cont
  | .ret d, f => ∃ v, f = .ret v ∧ Rep z d v

structure XOk (c : Cx) (ρ : Frame) (st : Stmt) (P : Fl → Frame → Prop) : Prop where
  run : ∀ o z R s (Q : Flow → Shared → Prop) (E : Value → Shared → Prop), St c ρ o z R s →
    (∀ fl ρ' o' z' s' f, z.le z' → St c ρ' o' z' R s' → FlRep z' fl f → P fl ρ' → Q f s') → wpAny (model prog c.w) c.A (exec st c.env) Q E s
structure XsOk (c : Cx) (ρ : Frame) (ss : List Stmt) (P : Fl → Frame → Prop) : Prop where
  run : ∀ o z R s (Q : Flow → Shared → Prop) (E : Value → Shared → Prop), St c ρ o z R s →
    (∀ fl ρ' o' z' s' f, z.le z' → St c ρ' o' z' R s' → FlRep z' fl f → P fl ρ' → Q f s') → wpAny (model prog c.w) c.A (execs ss c.env) Q E s

theorem X_nil {c : Cx} {ρ : Frame} {P : Fl → Frame → Prop} (h : P .next ρ) : XsOk c ρ [] P := .mk fun o z R s Q E S k => wpAny_execs_nil (k .next ρ o z s _ (PM.le.refl z) S rfl h)
theorem X_cons {c : Cx} {ρ : Frame} {P : Fl → Frame → Prop} {st : Stmt} {rest : List Stmt} (h : XOk c ρ st fun fl ρ' => match fl with | .next => XsOk c ρ' rest P | _ => P fl ρ') : XsOk c ρ (st :: rest) P := by
  constructor
  intro o z R s Q E S k
  rw [execs_cons]
  refine wpAny_bind (h.run o z R s _ _ S fun fl ρ' o' z' s' f le S' hf hP => ?_)
  cases fl with
  | next => rw [show f = .next from hf]; exact hP.run o' z' R s' Q E S' fun fl ρ'' o'' z'' s'' f' le' S'' => k fl ρ'' o'' z'' s'' f' (le.trans le') S''
  | brk => rw [show f = .brk from hf]; exact wpAny_pure (k .brk ρ' o' z' s' _ le S' rfl hP)
  | cont => rw [show f = .cont from hf]; exact wpAny_pure (k .cont ρ' o' z' s' _ le S' rfl hP)
  | ret d => obtain ⟨v, rfl, hv⟩ := hf; exact wpAny_pure (k (.ret d) ρ' o' z' s' _ le S' ⟨v, rfl, hv⟩ hP)
theorem XOk.mono {c : Cx} {ρ : Frame} {P P' : Fl → Frame → Prop} {st : Stmt} (h : XOk c ρ st P) (hP : ∀ fl ρ', P fl ρ' → P' fl ρ') : XOk c ρ st P' :=
  .mk fun o z R s Q E S k => h.run o z R s Q E S fun fl ρ' o' z' s' f a b d e => k fl ρ' o' z' s' f a b d (hP _ _ e)
theorem XsOk.mono {c : Cx} {ρ : Frame} {P P' : Fl → Frame → Prop} {ss : List Stmt} (h : XsOk c ρ ss P) (hP : ∀ fl ρ', P fl ρ' → P' fl ρ') : XsOk c ρ ss P' :=
  .mk fun o z R s Q E S k => h.run o z R s Q E S fun fl ρ' o' z' s' f a b d e => k fl ρ' o' z' s' f a b d (hP _ _ e)

structure CxOk (c : Cx) : Prop where
  hnd : c.A.handled = none
  un : c.A.units + 40 < cLine
  kf : c.env.scope.kind = .function
  gl : c.env.globals = mainGlobals
  bl : c.env.builtins = builtinsNs
  K : (Mine.hd.heap_39 c.w.params).In c.h0
  T : ∃ p loose mean mg mb, Top p loose mean mg mb c.h0

theorem E_bin {c : Cx} {ρ : Frame} {l r : Expr} {op : Operator} {pos : Pos} {d1 d2 d : D} (hl : EOk c ρ l d1) (hr : EOk c ρ r d2) (ho : OpOk c op d1 d2 d) : EOk c ρ (.BinOp l op r pos) d :=
  .mk fun o z R s Q E S k => wpAny_BinOp (hl.run o z R s _ _ S fun v1 z1 s1 le1 S1 r1 => hr.run o z1 R s1 _ _ S1 fun v2 z2 s2 le2 S2 r2 =>
    ho.run ρ o z2 R s2 v1 v2 _ _ S2 (Rep.mono le2.le d1 r1) r2 fun v z3 s3 le3 S3 r3 => k v z3 s3 (le1.trans (le2.trans le3)) S3 r3)

end Mine
end
/-! B2 -/
section
open PySem PySem.W PyProof.Rows PySem.Spec PySem.Calls
set_option maxRecDepth 100000
set_option maxHeartbeats 1000000
set_option linter.unusedVariables false
namespace Mine
variable {c : Cx} {ρ : Frame}

/-! constants, names -/
theorem E_int {i : Int} {k pos} : EOk c ρ (.Constant (.int i) k pos) (.int i) := .mk fun o z R s Q E S K =>
  wpAny_Constant_int (K _ z _ Ext.tk (S.tok _) ⟨_, rfl⟩)
theorem E_str {x : Str} {k pos} : EOk c ρ (.Constant (.str x) k pos) (.str x) := .mk fun o z R s Q E S K =>
  Calls.Constant_str (K _ z _ Ext.tk (S.tok _) ⟨_, rfl⟩)
theorem E_boolc {b : Bool} {k pos} : EOk c ρ (.Constant (.bool b) k pos) (.bool b) := .mk fun o z R s Q E S K =>
  Constant_bool (K _ z _ Ext.rfl' S rfl)

theorem E_name (ok : CxOk c) {x : Str} {d : D} {pos} (hx : (x, Slot.val d) ∈ ρ) : EOk c ρ (.Name x pos) d := by
  constructor
  intro o z R s Q E S K
  obtain ⟨m, hn, hs⟩ := S.slots
  obtain ⟨v, hb, hr⟩ := hs _ hx
  refine wpAny_Name ?_ (S.named _ hx).2
  rcases hb with ⟨hl, hv⟩ | ⟨hl, ca, hc, hv⟩
  · exact wpAny_loadName_local ok.kf hl hn hv (K v z s Ext.rfl' S hr)
  · exact wpAny_loadName_cell ok.kf hl hc hv (K v z s Ext.rfl' S hr)

theorem St.keep {c : Cx} {ρ : Frame} {o : Str → Addr} {z R : PM} {s : Shared} (S : St c ρ o z R s) : ∀ b o', c.h0.get? b = some o' → s.heap.get? b = some o' := fun b o' e => S.zh _ _ (S.bz _ _ e)

theorem E_glob (ok : CxOk c) {x : Str} {v : Value} {pos} (hx : c.env.kindOf x = some .globalImplicit) (e : nsIn (Mine.hd.heap_39 c.w.params) mainGlobals x = some (some v)) (hd : (x == ("__debug__" : Str)) = false := by decide) :
    EOk c ρ (.Name x pos) (.val v) := by
  constructor
  intro o z R s Q E S K
  obtain ⟨p, loose, mean, mg, mb, T⟩ := ok.T
  refine Name_function_global ok.kf hx (loadGlobal_global (mg := mg) ?_ (mg_of ok.K T.g e) (K v z s Ext.rfl' S rfl)) hd
  rw [ok.gl]
  exact T.g.keeps S.keep
theorem E_blt (ok : CxOk c) {x : Str} {v : Value} {pos} (hx : c.env.kindOf x = some .globalImplicit) (e : nsIn (Mine.hd.heap_39 c.w.params) mainGlobals x = some none) (hv : bootBuiltins x = some v) (hn : x ≠ "__name__") (hd : (x == ("__debug__" : Str)) = false := by decide) :
    EOk c ρ (.Name x pos) (.val v) := by
  constructor
  intro o z R s Q E S K
  obtain ⟨p, loose, mean, mg, mb, T⟩ := ok.T
  refine Name_function_global ok.kf hx (loadGlobal_builtin (mg := mg) (mb := mb) ?_ (mg_none_of ok.K T.g e) ?_ ((T.builtins x hn).trans hv) (K v z s Ext.rfl' S rfl)) hd
  · rw [ok.gl]; exact T.g.keeps S.keep
  · rw [ok.bl]; exact T.b.keeps S.keep

/-! int operations -/
section
variable {a b : Int}
theorem O_add : OpOk c .Add (.int a) (.int b) (.int (a + b)) := by
  constructor
  rintro ρ o z R s v1 v2 Q E S ⟨t, rfl⟩ ⟨u, rfl⟩ K
  exact add_int (K _ z _ Ext.tk (S.tok _) ⟨_, rfl⟩)
theorem O_fdiv (hb : b ≠ 0) (hp : Builtin.divisionGoesByPylong a b = false) : OpOk c .FloorDiv (.int a) (.int b) (.int (a.fdiv b)) := by
  constructor
  rintro ρ o z R s v1 v2 Q E S ⟨t, rfl⟩ ⟨u, rfl⟩ K
  exact floordiv_int hb (K _ z _ Ext.tk (S.tok _) ⟨_, rfl⟩) (.inl hp)
theorem O_mod (hb : b ≠ 0) : OpOk c .Mod (.int a) (.int b) (.int (a.fmod b)) := by
  constructor
  rintro ρ o z R s v1 v2 Q E S ⟨t, rfl⟩ ⟨u, rfl⟩ K
  exact mod_int' hb (K _ z _ Ext.tk (S.tok _) ⟨_, rfl⟩)
theorem O_and : OpOk c .BitAnd (.int a) (.int b) (.int (Builtin.bitAnd a b)) := by
  constructor
  rintro ρ o z R s v1 v2 Q E S ⟨t, rfl⟩ ⟨u, rfl⟩ K
  exact and_int (K _ z _ Ext.tk (S.tok _) ⟨_, rfl⟩)
end
theorem O_adds {x y : Str} (h : x.length + y.length ≤ sizeLine) : OpOk c .Add (.str x) (.str y) (.str (x ++ y)) := by
  constructor
  rintro ρ o z R s v1 v2 Q E S ⟨t, rfl⟩ ⟨u, rfl⟩ K
  exact add_str (fun t' tk => K _ z _ Ext.tk (S.tok _) ⟨_, rfl⟩) h
theorem O_muls {x : Str} {n : Int} (h : MulOk x n) : OpOk c .Mult (.str x) (.int n) (.str (Txt.mul x n)) := by
  constructor
  rintro ρ o z R s v1 v2 Q E S ⟨t, rfl⟩ ⟨u, rfl⟩ K
  exact SB.mul h (fun t' tk => K _ z _ Ext.tk (S.tok _) ⟨_, rfl⟩)

/-! comparisons -/
section
variable {a b : Int}
theorem C_lt : CmpOk c .Lt (.int a) (.int b) (decide (a < b)) := by
  constructor
  rintro ρ o z R s v1 v2 Q E S ⟨t, rfl⟩ ⟨u, rfl⟩ K
  exact wpAny_lt_int (K _ Ext.rfl' S)
theorem C_eq : CmpOk c .Eq (.int a) (.int b) (a == b) := by
  constructor
  rintro ρ o z R s v1 v2 Q E S ⟨t, rfl⟩ ⟨u, rfl⟩ K
  exact eq_int (K _ Ext.rfl' S)
end
theorem C_eqs {x y : Str} : CmpOk c .Eq (.str x) (.str y) (x == y) := by
  constructor
  rintro ρ o z R s v1 v2 Q E S ⟨t, rfl⟩ ⟨u, rfl⟩ K
  exact eq_str (K _ Ext.rfl' S)
theorem E_cmp {l r : Expr} {op : CmpOp} {pos : Pos} {d1 d2 : D} {b : Bool} (hl : EOk c ρ l d1) (hr : EOk c ρ r d2) (ho : CmpOk c op d1 d2 b) (hm : behindInMarks op r = false := by rfl) : EOk c ρ (.Compare l [op] [r] pos) (.bool b) :=
  .mk fun o z R s Q E S K => wpAny_Compare1 (hl.run o z R s _ _ S fun v1 z1 s1 le1 S1 r1 => hr.run o z1 R s1 _ _ S1 fun v2 z2 s2 le2 S2 r2 =>
    ho.run ρ o z2 R s2 v1 v2 _ _ S2 (Rep.mono le2.le d1 r1) r2 fun s3 le3 S3 => K _ z2 s3 (le1.trans (le2.trans le3)) S3 rfl) hm
theorem T_cmp {l r : Expr} {op : CmpOp} {pos : Pos} {d1 d2 : D} {b : Bool} (hl : EOk c ρ l d1) (hr : EOk c ρ r d2) (ho : CmpOk c op d1 d2 b) (hm : behindInMarks op r = false := by rfl) : TOk c ρ (.Compare l [op] [r] pos) b :=
  .mk fun o z R s Q E S K => wpAny_isTrue_Compare1 (hl.run o z R s _ _ S fun v1 z1 s1 le1 S1 r1 => hr.run o z1 R s1 _ _ S1 fun v2 z2 s2 le2 S2 r2 =>
    ho.run ρ o z2 R s2 v1 v2 _ _ S2 (Rep.mono le2.le d1 r1) r2 fun s3 le3 S3 => wpAny_truthy_bool (K z2 s3 (le1.trans (le2.trans le3)) S3)) hm
theorem T_and0 {pos} : TOk c ρ (.BoolOp .And [] pos) true := .mk fun o z R s Q E S K => isTrue_and_nil (K z s Ext.rfl' S)
theorem T_or0 {pos} : TOk c ρ (.BoolOp .Or [] pos) false := .mk fun o z R s Q E S K => isTrue_or_nil (K z s Ext.rfl' S)
theorem isTrue_whole {e : Expr} {env : Env} {op vs pos} (h : e = .BoolOp op vs pos) (w w' : Sem Value) : isTrue e env w = isTrue e env w' := by subst h; rfl
theorem T_and {x : Expr} {rest : List Expr} {pos} {a b : Bool} (h1 : TOk c ρ x a) (h2 : a = true → TOk c ρ (.BoolOp .And rest pos) b) : TOk c ρ (.BoolOp .And (x :: rest) pos) (a && b) := by
  constructor
  intro o z R s Q E S K
  refine isTrue_and (h1.run o z R s _ _ S fun z1 s1 le1 S1 => ?_)
  cases a with
  | false => exact K z1 s1 le1 S1
  | true =>
    simp only [if_true]
    rw [isTrue_whole rfl _ (eval (.BoolOp .And rest pos) c.env)]
    exact (h2 rfl).run o z1 R s1 _ _ S1 fun z2 s2 le2 S2 => K z2 s2 (le1.trans le2) S2
theorem T_or {x : Expr} {rest : List Expr} {pos} {a b : Bool} (h1 : TOk c ρ x a) (h2 : a = false → TOk c ρ (.BoolOp .Or rest pos) b) : TOk c ρ (.BoolOp .Or (x :: rest) pos) (a || b) := by
  constructor
  intro o z R s Q E S K
  refine isTrue_or (h1.run o z R s _ _ S fun z1 s1 le1 S1 => ?_)
  cases a with
  | true => exact K z1 s1 le1 S1
  | false =>
    simp only [Bool.false_eq_true, if_false]
    rw [isTrue_whole rfl _ (eval (.BoolOp .Or rest pos) c.env)]
    exact (h2 rfl).run o z1 R s1 _ _ S1 fun z2 s2 le2 S2 => K z2 s2 (le1.trans le2) S2
/-- the truth of a bool's or an int's value -/
theorem T_bool {e : Expr} {b : Bool} (h : EOk c ρ e (.bool b)) (he : ∀ env whole, isTrue e env whole = (do let v ← whole; standAt e.pos; holding [v] (truthy v)) := by intro _ _; rfl) : TOk c ρ e b :=
  .mk fun o z R s Q E S K => isTrue_plain (h.run o z R s _ _ S fun v z1 s1 le1 S1 r1 => by rw [show v = .bool b from r1]; exact wpAny_truthy_bool (K z1 s1 le1 S1)) (he _ _)

theorem E_if {test body orelse : Expr} {pos} {b : Bool} {d : D} (ht : TOk c ρ test b) (h1 : b = true → EOk c ρ body d) (h2 : b = false → EOk c ρ orelse d) : EOk c ρ (.IfExp test body orelse pos) d := by
  constructor
  intro o z R s Q E S K
  refine IfExp_ (ht.run o z R s _ _ S fun z1 s1 le1 S1 => ?_)
  cases b with
  | true => simp only [if_true]; exact (h1 rfl).run o z1 R s1 _ _ S1 fun v z2 s2 le2 S2 => K v z2 s2 (le1.trans le2) S2
  | false => simp only [Bool.false_eq_true, if_false]; exact (h2 rfl).run o z1 R s1 _ _ S1 fun v z2 s2 le2 S2 => K v z2 s2 (le1.trans le2) S2

/-! displays, arguments -/
theorem A_nil : AOk c ρ [] [] := .mk fun pos o z R s Q E S K => spliced_none (K [] z s Ext.rfl' S rfl)
theorem A_cons {e : Expr} {es : List Expr} {d : D} {ds : List D} (h : EOk c ρ e d) (h' : AOk c ρ es ds) (he : starEach (e :: es) c.env = (false, eval e c.env) :: starEach es c.env := by rfl) : AOk c ρ (e :: es) (d :: ds) :=
  .mk fun pos o z R s Q E S K => spliced_more (h.run o z R s _ _ S fun v z1 s1 le1 S1 r1 => h'.run pos o z1 R s1 _ _ S1 fun vs z2 s2 le2 S2 r2 =>
    K (v :: vs) z2 s2 (le1.trans le2) S2 ⟨v, vs, rfl, Rep.mono le2.le d r1, r2⟩) he

theorem priv_new {o : Str → Addr} {z R : PM} {s : Shared} (S : St c ρ o z R s) {a : Addr} (h : s.heap.get? a = none) : ¬ Priv c ρ o a := fun hp => by
  obtain ⟨b, e⟩ := S.live hp; rw [h] at e; cases e
/-- an unheld new list may be frozen -/
theorem NOk.e {e : Expr} {ds : List D} (h : NOk c ρ e ds) : EOk c ρ e (.list ds) := by
  constructor
  intro o z R s Q E S K
  refine h.run o z R s Q E S fun a vs n z' s' le S' ha hr hz hR hp => ?_
  have hle : z'.le (z'.put a (LO vs n)) := PM.le.put hz
  refine K _ (z'.put a (LO vs n)) s' ⟨le.le.trans hle, le.kp⟩ ?_ ⟨a, vs, n, rfl, PM.put_self _ _ _, Reps.mono hle ds hr⟩
  exact { S' with
    zh := fun b o' e => by
      unfold PM.put at e; split at e
      · rename_i q; cases e; subst q; exact ha
      · exact S'.zh _ _ e
    bz := fun b o' e => hle _ _ (S'.bz _ _ e)
    zr := fun b h => by
      unfold PM.put at h; split at h
      · rename_i q; subst q; exact hR
      · exact S'.zr _ h
    sep := fun b hb => by
      refine ⟨?_, (S'.sep b hb).2⟩
      unfold PM.put
      rw [if_neg (by rintro rfl; exact hp hb)]
      exact (S'.sep b hb).1
    slots := let ⟨m, hn, hs⟩ := S'.slots; ⟨m, hn, fun p hp => (hs p hp).mono (fun _ _ e => e) hle⟩ }

theorem N_list {es : List Expr} {ds : List D} {pos} (h : AOk c ρ es ds) (hsz : ds.length ≤ sizeLine) : NOk c ρ (.List es pos) ds := by
  constructor
  intro o z R s Q E S K
  refine List_ (h.run pos o z R s _ _ S fun vs z1 s1 le1 S1 r1 => ?_)
  have hn := get_size_none s1.heap
  exact wpAny_newObj_type (K _ vs 0 z1 _ (le1.trans Ext.ps) (S1.temp (push_keeps _ _)) (Heap.get?_push_size _ rfl) r1 (S1.znew hn) (S1.rnew hn) (priv_new S1 hn)) (by show vs.toArray.size ≤ sizeLine; rw [List.size_toArray, r1.length]; exact hsz)
theorem E_tuple {es : List Expr} {ds : List D} {k pos} (h : AOk c ρ es ds) (hsz : ds.length ≤ sizeLine) : EOk c ρ (.Tuple es k pos) (.tup ds) := by
  constructor
  intro o z R s Q E S K
  refine Tuple_ (h.run pos o z R s _ _ S fun vs z1 s1 le1 S1 r1 => ?_)
  have hle := PM.le.put (o := TO vs 0) (S1.znew (get_size_none s1.heap))
  exact wpAny_newObj_type (K _ _ _ ⟨le1.le.trans hle, (le1.trans Ext.ps).kp⟩ (S1.push (TO vs 0) _) ⟨_, vs, 0, rfl, PM.put_self _ _ _, Reps.mono hle ds r1⟩) (by show vs.toArray.size ≤ sizeLine; rw [List.size_toArray, r1.length]; exact hsz)

end Mine
end
/-! B3 -/
section
open PySem PySem.W PyProof.Rows PySem.Spec PySem.Calls
set_option maxRecDepth 100000
set_option maxHeartbeats 1000000
set_option linter.unusedVariables false
namespace Mine
variable {c : Cx} {ρ ρ' : Frame}

inductive Put (x : Str) (sl : Slot) : Frame → Frame → Prop
  | head {old r} : Put x sl ((x, old) :: r) ((x, sl) :: r)
  | tail {p r r'} : Put x sl r r' → Put x sl (p :: r) (p :: r')
theorem Put.names {x sl} : ∀ {ρ ρ' : Frame}, Put x sl ρ ρ' → ρ'.map (·.1) = ρ.map (·.1)
  | _, _, .head => rfl
  | _, _, .tail h => by rw [List.map_cons, List.map_cons, Put.names h]
theorem Put.mem {x sl} : ∀ {ρ ρ' : Frame}, Put x sl ρ ρ' → (x, sl) ∈ ρ' ∧ ∃ old, (x, old) ∈ ρ
  | _, _, .head => ⟨List.mem_cons_self, _, List.mem_cons_self⟩
  | _, _, .tail h => ⟨List.mem_cons_of_mem _ (Put.mem h).1, let ⟨old, e⟩ := (Put.mem h).2; ⟨old, List.mem_cons_of_mem _ e⟩⟩
theorem Put.of {x sl} : ∀ {ρ ρ' : Frame}, Put x sl ρ ρ' → (ρ.map (·.1)).Nodup → ∀ q ∈ ρ', q = (x, sl) ∨ (q ∈ ρ ∧ q.1 ≠ x)
  | _, _, .head, hn, q, hq => by
    rw [List.map_cons, List.nodup_cons] at hn
    rcases List.mem_cons.mp hq with e | hq
    · exact .inl e
    · exact .inr ⟨List.mem_cons_of_mem _ hq, fun e => hn.1 (e ▸ List.mem_map_of_mem (f := (·.1)) hq)⟩
  | _, _, .tail (p := p) h, hn, q, hq => by
    rw [List.map_cons, List.nodup_cons] at hn
    rcases List.mem_cons.mp hq with e | hq
    · subst e
      refine .inr ⟨List.mem_cons_self, fun e => hn.1 ?_⟩
      obtain ⟨old, ho⟩ := (Put.mem h).2
      rw [e]; exact List.mem_map_of_mem (f := (·.1)) ho
    · rcases Put.of h hn.2 q hq with e | ⟨a, b⟩
      · exact .inl e
      · exact .inr ⟨List.mem_cons_of_mem _ a, b⟩

theorem mem_lookup {cs : List (Str × Addr)} (hp : cs.Pairwise fun x y => x.2 ≠ y.2) {n n' : Str} {a : Addr} (h : cs.lookup n = some a) (h' : cs.lookup n' = some a) : n = n' :=
  name_of_addr hp (mem_of_lookup h) (mem_of_lookup h')

theorem kind_ok (ok : CxOk c) : (c.env.scope.kind == .class || (c.env.scope.kind == .module && c.env.locals != c.env.globals)) = false := by rw [ok.kf]; rfl

/-- a name gets a new slot: the frame behind it, by what the new slot needs -/
theorem store_val (ok : CxOk c) {o : Str → Addr} {z R : PM} {s : Shared} {x : Str} {d : D} {v : Value} {Q : Unit → Shared → Prop} {E : Value → Shared → Prop}
    (S : St c ρ o z R s) (hu : Put x (.val d) ρ ρ') (hr : Rep z d v) (K : ∀ s', St c ρ' o z R s' → (c.env.kindOf x = some .local → ∀ b o', b ≠ c.env.locals → s.heap.get? b = some o' → s'.heap.get? b = some o') → Q () s') : wpAny (model prog c.w) c.A (storeName c.env x v) Q E s := by
  obtain ⟨m, hn, hs⟩ := S.slots
  obtain ⟨old, hold⟩ := hu.mem.2
  have hof := hu.of S.nodup
  have hpriv : ∀ a, Priv c ρ' o a → Priv c ρ o a := fun a h => by
    cases h with
    | loc => exact .loc
    | cell h => exact .cell h
    | own h => rcases hof _ h with e | ⟨h, _⟩
               · cases e
               · exact .own h
  have hown : ∀ y dy, (y, Slot.own dy) ∈ ρ' → (y, Slot.own dy) ∈ ρ := fun y dy h => by
    rcases hof _ h with e | ⟨h, _⟩
    · cases e
    · exact h
  rcases (S.named _ hold).1 with hl | ⟨hl, ca, hc⟩
  · refine wpAny_storeName_local hl hn (fun h' hn' hs' => K _ ?_ fun _ b o' hb e => (hs'.2 b hb).trans e) (kind_ok ok)
    have hL := (S.sep _ .loc).1
    have hLR := (S.sep _ .loc).2
    exact {
      zh := fun a b e => (hs'.2 a (fun q => by rw [q, hL] at e; cases e)).trans (S.zh a b e)
      rh := fun a b e => (hs'.2 a (fun q => by rw [q, hLR] at e; cases e)).trans (S.rh a b e)
      bz := S.bz
      zr := S.zr
      gs := S.gs
      ds := S.ds
      oss := S.oss
      nodup := by rw [hu.names]; exact S.nodup
      named := fun p hp => by
        rcases hof p hp with e | ⟨h, _⟩
        · rw [e]; exact (show Named c x ∧ (x == ("__debug__" : Str)) = false from S.named (x, old) hold)
        · exact S.named _ h
      sep := fun a h => S.sep a (hpriv a h)
      cellL := fun p hp => ⟨(S.cellL p hp).1, let ⟨v, q⟩ := (S.cellL p hp).2; ⟨v, q.sameBut hs' (S.cellL p hp).1⟩⟩
      cellD := S.cellD
      ownL := fun y dy h => S.ownL y dy (hown _ _ h)
      ownD := fun y y' dy dy' h h' => S.ownD y y' dy dy' (hown _ _ h) (hown _ _ h')
      slots := ⟨_, hn', fun p hp => by
        rcases hof p hp with e | ⟨h, hne⟩
        · rw [e]; exact ⟨v, .inl ⟨hl, if_pos rfl⟩, hr⟩
        · have hold := hs p h
          obtain ⟨y, sl⟩ := p
          cases sl with
          | no => trivial
          | val d' =>
            obtain ⟨v', hb, hr'⟩ := hold
            refine ⟨v', ?_, hr'⟩
            rcases hb with ⟨a1, a2⟩ | ⟨a1, ca', a2, a3⟩
            · exact .inl ⟨a1, (if_neg hne).trans a2⟩
            · exact .inr ⟨a1, ca', a2, a3.sameBut hs' (S.cellL _ (mem_of_lookup a2)).1⟩
          | own ds =>
            obtain ⟨a1, a2, vs, n, a3, a4⟩ := hold
            exact ⟨a1, (if_neg hne).trans a2, vs, n, (hs'.2 _ (S.ownL y ds h).1).trans a3, a4⟩⟩ }
  · obtain ⟨v0, hv0⟩ := (S.cellL _ (mem_of_lookup hc)).2
    refine wpAny_storeName_cell ok.kf hl hc hv0 fun h' hc' hs' => K _ ?_ fun hl' => by rw [hl] at hl'; cases hl'
    have hcp : Priv c ρ o ca := .cell (mem_of_lookup hc)
    have hcz := (S.sep _ hcp).1
    have hcR := (S.sep _ hcp).2
    have hcL := (S.cellL _ (mem_of_lookup hc)).1
    exact {
      zh := fun a b e => (hs'.2 a (fun q => by rw [q, hcz] at e; cases e)).trans (S.zh a b e)
      rh := fun a b e => (hs'.2 a (fun q => by rw [q, hcR] at e; cases e)).trans (S.rh a b e)
      bz := S.bz
      zr := S.zr
      gs := S.gs
      ds := S.ds
      oss := S.oss
      nodup := by rw [hu.names]; exact S.nodup
      named := fun p hp => by
        rcases hof p hp with e | ⟨h, _⟩
        · rw [e]; exact (show Named c x ∧ (x == ("__debug__" : Str)) = false from S.named (x, old) hold)
        · exact S.named _ h
      sep := fun a h => S.sep a (hpriv a h)
      cellL := fun p hp => ⟨(S.cellL p hp).1, by
        by_cases q : p.2 = ca
        · rw [q]; exact ⟨_, hc'⟩
        · obtain ⟨v, y⟩ := (S.cellL p hp).2; exact ⟨v, y.sameBut hs' q⟩⟩
      cellD := S.cellD
      ownL := fun y dy h => S.ownL y dy (hown _ _ h)
      ownD := fun y y' dy dy' h h' => S.ownD y y' dy dy' (hown _ _ h) (hown _ _ h')
      slots := ⟨m, hn.sameBut hs' (Ne.symm hcL), fun p hp => by
        rcases hof p hp with e | ⟨h, hne⟩
        · rw [e]; exact ⟨v, .inr ⟨hl, ca, hc, hc'⟩, hr⟩
        · have hold := hs p h
          obtain ⟨y, sl⟩ := p
          cases sl with
          | no => trivial
          | val d' =>
            obtain ⟨v', hb, hr'⟩ := hold
            refine ⟨v', ?_, hr'⟩
            rcases hb with ⟨a1, a2⟩ | ⟨a1, ca', a2, a3⟩
            · exact .inl ⟨a1, a2⟩
            · exact .inr ⟨a1, ca', a2, a3.sameBut hs' fun e => hne (mem_lookup S.cellD a2 (e ▸ hc))⟩
          | own ds =>
            obtain ⟨a1, a2, vs, n, a3, a4⟩ := hold
            exact ⟨a1, a2, vs, n, (hs'.2 _ fun e => (S.ownL y ds h).2 _ (mem_of_lookup hc) e.symm).trans a3, a4⟩⟩ }

theorem X_assign (ok : CxOk c) {x : Str} {d : D} {value : Expr} {p pos} {P : Fl → Frame → Prop} (he : EOk c ρ value d) (hu : Put x (.val d) ρ ρ') (hP : P .next ρ')
    (hs : swapsWith value (some (.Name x p)) pos.line c.env = pure false := by rfl) : XOk c ρ (.Assign [.Name x p] value pos) P :=
  .mk fun o z R s Q E S K => wpAny_Assign_Name (he.run o z R s _ _ S fun v z1 s1 le1 S1 r1 => store_val ok S1 hu r1 fun s2 S2 _ => K .next ρ' o z1 s2 _ le1.le S2 rfl hP) hs

theorem X_if {test : Expr} {body orelse : List Stmt} {pos} {b : Bool} {P : Fl → Frame → Prop} (ht : TOk c ρ test b) (h1 : b = true → XsOk c ρ body P) (h2 : b = false → XsOk c ρ orelse P) : XOk c ρ (.If test body orelse pos) P := by
  constructor
  intro o z R s Q E S K
  refine wpAny_If (ht.run o z R s _ _ S fun z1 s1 le1 S1 => ?_)
  cases b with
  | true => rw [if_pos rfl]; exact (h1 rfl).run o z1 R s1 _ _ S1 fun fl ρ' o' z' s' f le => K fl ρ' o' z' s' f (le1.le.trans le)
  | false => rw [if_neg (by decide)]; exact (h2 rfl).run o z1 R s1 _ _ S1 fun fl ρ' o' z' s' f le => K fl ρ' o' z' s' f (le1.le.trans le)

theorem X_ret {e : Expr} {pos} {d : D} {P : Fl → Frame → Prop} (h : EOk c ρ e d) (hP : P (.ret d) ρ) : XOk c ρ (.Return (some e) pos) P :=
  .mk fun o z R s Q E S K => wpAny_Return_some (h.run o z R s _ _ S fun v z1 s1 le1 S1 r1 => K (.ret d) ρ o z1 s1 _ le1.le S1 ⟨v, rfl, r1⟩ hP)
theorem X_pass {pos} {P : Fl → Frame → Prop} (hP : P .next ρ) : XOk c ρ (.Pass pos) P := .mk fun o z R s Q E S K => wpAny_Pass (K .next ρ o z s _ (PM.le.refl z) S rfl hP)
theorem X_break {pos} {P : Fl → Frame → Prop} (hP : P .brk ρ) : XOk c ρ (.Break pos) P := by
  constructor
  intro o z R s Q E S K
  show wpAny _ _ (do standAt pos; pure Flow.brk) Q E s
  exact wpAny_bind (wpAny_standAt (wpAny_pure (K .brk ρ o z s _ (PM.le.refl z) S rfl hP)))

/-! sources of a loop -/
structure ItOk (c : Cx) (ρ : Frame) (iter : Expr) (ds : List D) : Prop where
  run : ∀ o z R s (Q : Value → Shared → Prop) (E : Value → Shared → Prop), St c ρ o z R s →
    (∀ I fp wr Pv Wst z' s', Ext z s z' s' → St c ρ o z' R s' → Walks prog c.w c.A I fp wr ds.length Pv Wst → (∀ i d v, ds[i]? = some d → Pv i v → Rep z' d v) → Wst 0 s'.heap →
      (∀ b ∈ wr, z' b = none ∧ R b = none ∧ ¬ Priv c ρ o b) → (∀ i h, Wst i h → ∀ b ∈ wr, ∃ ob, h.get? b = some ob) → (∀ b ∈ fp, b ∈ wr ∨ ∃ ob, z' b = some ob) →
      (∀ i target v (s : Shared) (Q : Unit → Shared → Prop) (E : Value → Shared → Prop), Wst i s.heap → Q () s → wpAny (model prog c.w) c.A (letOwnedTupleGo target (.ref I) v) Q E s) → (∀ b ∈ wr, s.heap.get? b = none) → Q (.ref I) s') →
    wpAny (model prog c.w) c.A (eval iter c.env) (fun x s₁ => wpAny (model prog c.w) c.A (pyIter x) Q E s₁) E s

noncomputable def ItAt (c : Cx) (ρ : Frame) (iter : Expr) (ds : List D) (o : Str → Addr) (z R : PM) (s : Shared) : Prop :=
  ∀ (Q : Value → Shared → Prop) (E : Value → Shared → Prop),
    (∀ I fp wr Pv Wst z' s', Ext z s z' s' → St c ρ o z' R s' → Walks prog c.w c.A I fp wr ds.length Pv Wst → (∀ i d v, ds[i]? = some d → Pv i v → Rep z' d v) → Wst 0 s'.heap →
      (∀ b ∈ wr, z' b = none ∧ R b = none ∧ ¬ Priv c ρ o b) → (∀ i h, Wst i h → ∀ b ∈ wr, ∃ ob, h.get? b = some ob) → (∀ b ∈ fp, b ∈ wr ∨ ∃ ob, z' b = some ob) →
      (∀ i target v (s : Shared) (Q : Unit → Shared → Prop) (E : Value → Shared → Prop), Wst i s.heap → Q () s → wpAny (model prog c.w) c.A (letOwnedTupleGo target (.ref I) v) Q E s) → (∀ b ∈ wr, s.heap.get? b = none) → Q (.ref I) s') →
    wpAny (model prog c.w) c.A (eval iter c.env) (fun x s₁ => wpAny (model prog c.w) c.A (pyIter x) Q E s₁) E s


theorem go_plain {M : Model} {A : Around} {I : Addr} {target : Expr} {v : Value} {s : Shared} {Q : Unit → Shared → Prop} {E : Value → Shared → Prop} {T : String} {ob : Obj} (ho : s.heap.get? I = some ob) (hc : ob.cls = .type T)
    (hT : (["enumerate", "zip", "dict_itemiterator", "dict_reverseitemiterator", "odict_iterator", "itertools.zip_longest", "itertools.pairwise"] : List String).contains T = false) (h : Q () s) : wpAny M A (letOwnedTupleGo target (.ref I) v) Q E s := by
  have one : wpAny M A (do
      let (.ref r, .ref a) := ((Value.ref I), v) | return
      let o ← load r
      match o.cls, o.data with
      | .type n, .fields vs =>
        if (["enumerate", "zip", "dict_itemiterator", "dict_reverseitemiterator", "odict_iterator", "itertools.zip_longest", "itertools.pairwise"] : List String).contains n && vs[0]? == some (rawInt a) then
          rule "for.unpacks-the-owned-tuple"
          updateField r 0 .none
      | _, _ => pure ()) Q E s := by
    cases v <;> first
      | exact wpAny_pure h
      | (refine wpAny_bind (wpAny_load ho ?_)
         rw [hc]
         split
         · rename_i n vs e1 e2
           cases e1
           rw [hT, Bool.false_and, if_neg Bool.false_ne_true]; exact wpAny_pure h
         · exact wpAny_pure h)
  unfold letOwnedTupleGo
  split <;> first | exact one | exact wpAny_pure h

theorem old_none {z z1 : PM} {s s1 : Shared} (x : Ext z s z1 s1) : s.heap.get? s1.heap.objs.size = none := by
  cases e : s.heap.get? s1.heap.objs.size with
  | none => rfl
  | some o => have := x.kp _ _ e; rw [get_size_none] at this; cases this

theorem It_list (ok : CxOk c) {iter : Expr} {ds : List D} (h : EOk c ρ iter (.list ds)) : ItOk c ρ iter ds := by
  constructor
  intro o z R s Q E S K
  refine h.run o z R s _ _ S fun v z1 s1 le1 S1 r1 => ?_
  obtain ⟨a, vs, n, rfl, ha, hr⟩ := r1
  have hl : s1.heap.IsList a vs.toArray := ⟨_, S1.zh _ _ ha, rfl, n, rfl⟩
  refine wpAny_pyIter_list hl ?_
  have hnew := get_size_none s1.heap
  have hne : a ≠ s1.heap.objs.size := fun e => by rw [e, S1.znew hnew] at ha; cases ha
  have W := Walks.list (prog := prog) (w := c.w) ok.hnd s1.heap.objs.size a hne vs.toArray
  rw [show vs.toArray.size = ds.length from by rw [List.size_toArray, hr.length]] at W
  refine K s1.heap.objs.size [s1.heap.objs.size, a] [s1.heap.objs.size] _ _ z1 _ (le1.trans Ext.ps) (S1.temp (push_keeps _ _)) W (fun i d v hd hv => ?_) ⟨⟨_, Heap.get?_push_size _ rfl, rfl, rfl⟩, hl.push _⟩ (fun b hb => ?_) (fun i h st b hb => ?_) (fun b hb => ?_) ?_ (fun b hb => by rw [List.mem_singleton.mp hb]; exact old_none le1)
  · obtain ⟨v', a1, a2⟩ := hr.get hd
    have hv' : vs.toArray[i]? = some v := hv
    rw [List.getElem?_toArray, a1] at hv'; cases hv'; exact a2
  · rw [List.mem_singleton.mp hb]; exact ⟨S1.znew hnew, S1.rnew hnew, priv_new S1 hnew⟩
  · rw [List.mem_singleton.mp hb]; obtain ⟨⟨ob, e, _⟩, _⟩ := st; exact ⟨ob, e⟩
  · rcases List.mem_cons.mp hb with e | hb
    · exact .inl (by rw [e]; exact List.mem_singleton_self _)
    · rw [List.mem_singleton.mp hb]; exact .inr ⟨_, ha⟩
  · intro i target v s Q E st hQ
    obtain ⟨⟨ob, e, hc, _⟩, _⟩ := st
    exact go_plain e hc (by decide) hQ

/-- objects outside wr are kept: the state stands -/
theorem St.other {o : Str → Addr} {z R : PM} {s : Shared} {h' : Heap} {t : Nat} {wr : List Addr} (S : St c ρ o z R s) (hw : ∀ b ∈ wr, z b = none ∧ R b = none ∧ ¬ Priv c ρ o b) (hk : ∀ b o', b ∉ wr → s.heap.get? b = some o' → h'.get? b = some o') :
    St c ρ o z R { s with heap := h', toks := t } where
  zh := fun a b e => hk _ _ (fun hm => by rw [(hw _ hm).1] at e; cases e) (S.zh a b e)
  rh := fun a b e => hk _ _ (fun hm => by rw [(hw _ hm).2.1] at e; cases e) (S.rh a b e)
  bz := S.bz
  zr := S.zr
  gs := S.gs
  ds := S.ds
  oss := S.oss
  nodup := S.nodup
  named := S.named
  sep := S.sep
  cellL := fun p hp => ⟨(S.cellL p hp).1, let ⟨v, ob, e, hd⟩ := (S.cellL p hp).2; ⟨v, ob, hk _ _ (fun hm => (hw _ hm).2.2 (.cell (x := p.1) hp)) e, hd⟩⟩
  cellD := S.cellD
  ownL := S.ownL
  ownD := S.ownD
  slots := by
    obtain ⟨m, hn, hs⟩ := S.slots
    refine ⟨m, hn.at' fun ob e => hk _ _ (fun hm => (hw _ hm).2.2 .loc) e, fun p hp => ?_⟩
    have := hs p hp
    obtain ⟨y, sl⟩ := p
    cases sl with
    | no => trivial
    | val d =>
      obtain ⟨v, hb, hr⟩ := this
      refine ⟨v, ?_, hr⟩
      rcases hb with a | ⟨a1, ca, a2, ob, a3, a4⟩
      · exact .inl a
      · exact .inr ⟨a1, ca, a2, ob, hk _ _ (fun hm => (hw _ hm).2.2 (.cell (mem_of_lookup a2))) a3, a4⟩
    | own ds =>
      obtain ⟨a1, a2, vs, n, a3, a4⟩ := this
      exact ⟨a1, a2, vs, n, hk _ _ (fun hm => (hw _ hm).2.2 (.own hp)) a3, a4⟩

noncomputable def hold (R : PM) (wr : List Addr) (h : Heap) : PM := fun a => if a ∈ wr then h.get? a else R a
theorem St.holding {o : Str → Addr} {z R : PM} {s : Shared} {wr : List Addr} (S : St c ρ o z R s) (hw : ∀ b ∈ wr, z b = none ∧ R b = none ∧ ¬ Priv c ρ o b) : St c ρ o z (hold R wr s.heap) s :=
  { S with
    rh := fun a b e => by unfold hold at e; split at e; exact e; exact S.rh _ _ e
    zr := fun a h => by
      unfold hold
      rw [if_neg (fun hm => h (hw _ hm).1)]; exact S.zr a h
    sep := fun a h => ⟨(S.sep a h).1, by
      unfold hold
      rw [if_neg (fun hm => (hw _ hm).2.2 h)]; exact (S.sep a h).2⟩ }
theorem St.unhold {o : Str → Addr} {z R : PM} {s : Shared} {wr : List Addr} {h : Heap} (S : St c ρ o z (hold R wr h) s) (hR : ∀ b ∈ wr, R b = none) (hl : ∀ b ∈ wr, ∃ ob, h.get? b = some ob) :
    St c ρ o z R s ∧ (∀ b ∈ wr, s.heap.get? b = h.get? b) ∧ (∀ b ∈ wr, z b = none ∧ R b = none ∧ ¬ Priv c ρ o b) := by
  have hin : ∀ b ∈ wr, hold R wr h b = h.get? b := fun b hb => if_pos hb
  have hz : ∀ b ∈ wr, z b = none := fun b hb => by
    cases e : z b with
    | none => rfl
    | some q =>
      have := S.zr b (by rw [e]; exact fun h => nomatch h)
      rw [hin b hb] at this
      obtain ⟨ob, e'⟩ := hl b hb
      rw [e'] at this; cases this
  refine ⟨{ S with
    rh := fun a b e => S.rh a b (by unfold hold; rw [if_neg (fun hm => by rw [hR a hm] at e; cases e)]; exact e)
    zr := fun a hne => by
      by_cases hm : a ∈ wr
      · exact hR a hm
      · have := S.zr a hne; unfold hold at this; rwa [if_neg hm] at this
    sep := fun a hp => ⟨(S.sep a hp).1, by
      by_cases hm : a ∈ wr
      · exact hR a hm
      · have := (S.sep a hp).2; unfold hold at this; rwa [if_neg hm] at this⟩ }, fun b hb => ?_, fun b hb => ⟨hz b hb, hR b hb, fun hp => ?_⟩⟩
  · obtain ⟨ob, e⟩ := hl b hb
    rw [e]; exact S.rh b ob (by rw [hin b hb]; exact e)
  · obtain ⟨ob, e⟩ := hl b hb
    have := (S.sep b hp).2
    rw [hin b hb, e] at this; cases this

structure GOk (c : Cx) (ρ : Frame) (t : Expr) (d : D) (ρ' : Frame) : Prop where
  run : ∀ o z R s v (Q : Unit → Shared → Prop) (E : Value → Shared → Prop), St c ρ o z R s → Rep z d v → (∀ s', St c ρ' o z R s' → Q () s') → wpAny (model prog c.w) c.A (assign t c.env v) Q E s
theorem G_name (ok : CxOk c) {x : Str} {d : D} {p} (hu : Put x (.val d) ρ ρ') : GOk c ρ (.Name x p) d ρ' :=
  .mk fun o z R s v Q E S r K => wpAny_assign_Name (store_val ok S hu r fun s' S' _ => K s' S')

/-- for, by an invariant on what is left and the frame -/
theorem X_for_at (ok : CxOk c) {target iter : Expr} {body : List Stmt} {pos} {ds : List D} {P : Fl → Frame → Prop} {o : Str → Addr} {z R : PM} {s : Shared} (hi : ItAt c ρ iter ds o z R s) (I : Nat → Frame → Prop) (h0 : I 0 ρ)
    (turn : ∀ i d ρ₁, ds[i]? = some d → I i ρ₁ → ∃ ρ₂, GOk c ρ₁ target d ρ₂ ∧ XsOk c ρ₂ body fun fl ρ₃ => match fl with
      | .next | .cont => I (i + 1) ρ₃
      | .brk => P .next ρ₃
      | .ret d => P (.ret d) ρ₃)
    (done : ∀ ρ₁, I ds.length ρ₁ → P .next ρ₁) (hset : ∀ x, foldedSetIterable iter c.env x = pure x := by intro _; rfl) {Q : Flow → Shared → Prop} {E : Value → Shared → Prop}
    (K : ∀ fl ρ' o' z' s' f, z.le z' → St c ρ' o' z' R s' → FlRep z' fl f → P fl ρ' → Q f s') : wpAny (model prog c.w) c.A (exec (.For target iter body [] pos) c.env) Q E s := by
  refine wpAny_For (hi _ _ fun J fp wr Pv Wst z1 s1 le1 S1 W hrep hst hw hlive hfp hgo _ => ?_) hset
  refine codeAny_forLoop_any (fun n s' => ∃ i ρi oi zi, n = ds.length + 1 - i ∧ i ≤ ds.length ∧ z1.le zi ∧ St c ρi oi zi R s' ∧ Wst i s'.heap ∧ I i ρi ∧ ∀ b ∈ wr, zi b = none ∧ R b = none ∧ ¬ Priv c ρi oi b) ?_ (ds.length + 1)
    ⟨0, ρ, o, z1, rfl, Nat.zero_le _, PM.le.refl _, S1, hst, h0, hw⟩
  rintro n s' ⟨i, ρi, oi, zi, rfl, hi, lei, Si, hsti, hI, hwi⟩
  by_cases hlt : i < ds.length
  · refine W.item i s' _ _ hlt hsti fun v h₁ tk₁ hPv hst₁ hk₁ => ?_
    have S2 := Si.other (t := tk₁) hwi hk₁
    refine hgo _ _ _ _ _ _ hst₁ ?_
    have S3 := S2.holding (wr := wr) hwi
    have hd : ds[i]? = some ds[i] := List.getElem?_eq_getElem hlt
    obtain ⟨ρ₂, hG, hX⟩ := turn i ds[i] ρi hd hI
    refine hG.run oi zi _ _ v _ _ S3 (Rep.mono lei _ (hrep i _ v hd hPv)) fun s4 S4 => ?_
    refine hX.run oi zi _ s4 _ _ S4 fun fl ρ₃ o₃ z₃ s₅ f le5 S5 hf hP => ?_
    obtain ⟨S6, hsame, hw6⟩ := S5.unhold (fun b hb => (hwi b hb).2.1) (hlive _ _ hst₁)
    have hst6 : Wst (i + 1) s₅.heap := W.frame _ _ _ hst₁ fun b hb ob e => by
      rcases hfp b hb with hb | hz
      · rw [hsame b hb]; exact e
      · obtain ⟨oz, ez⟩ := hz
        have e1 := S2.zh b oz (lei _ _ ez)
        rw [show h₁.get? b = some oz from e1] at e; cases e
        exact S6.zh b _ (le5 _ _ (lei _ _ ez))
    cases fl with
    | next => rw [show f = .next from hf]; exact ⟨ds.length + 1 - (i + 1), by omega, i + 1, ρ₃, o₃, z₃, rfl, hlt, lei.trans le5, S6, hst6, hP, hw6⟩
    | cont => rw [show f = .cont from hf]; exact ⟨ds.length + 1 - (i + 1), by omega, i + 1, ρ₃, o₃, z₃, rfl, hlt, lei.trans le5, S6, hst6, hP, hw6⟩
    | brk => rw [show f = .brk from hf]; exact K .next ρ₃ o₃ z₃ s₅ _ (le1.le.trans (lei.trans le5)) S6 rfl hP
    | ret d => obtain ⟨v', rfl, hv'⟩ := hf; exact K (.ret d) ρ₃ o₃ z₃ s₅ _ (le1.le.trans (lei.trans le5)) S6 ⟨v', rfl, hv'⟩ hP
  · have hin : i = ds.length := by omega
    subst hin
    refine W.done _ _ _ hsti fun h₁ tk₁ hk₁ => wpAny_execs_nil ?_
    exact K .next ρi oi zi _ _ (le1.le.trans lei) (Si.other hwi hk₁) rfl (done _ hI)

theorem X_for (ok : CxOk c) {target iter : Expr} {body : List Stmt} {pos} {ds : List D} {P : Fl → Frame → Prop} (hi : ItOk c ρ iter ds) (I : Nat → Frame → Prop) (h0 : I 0 ρ)
    (turn : ∀ i d ρ₁, ds[i]? = some d → I i ρ₁ → ∃ ρ₂, GOk c ρ₁ target d ρ₂ ∧ XsOk c ρ₂ body fun fl ρ₃ => match fl with
      | .next | .cont => I (i + 1) ρ₃
      | .brk => P .next ρ₃
      | .ret d => P (.ret d) ρ₃)
    (done : ∀ ρ₁, I ds.length ρ₁ → P .next ρ₁) (hset : ∀ x, foldedSetIterable iter c.env x = pure x := by intro _; rfl) : XOk c ρ (.For target iter body [] pos) P :=
  .mk fun o z R s Q E S K => X_for_at ok (fun Q E K => hi.run o z R s Q E S K) I h0 turn done hset K
end Mine
end
/-! B4 -/
section
open PySem PySem.W PyProof.Rows PySem.Spec PySem.Calls
set_option maxRecDepth 100000
set_option maxHeartbeats 1000000
set_option linter.unusedVariables false
namespace Mine
variable {c : Cx} {ρ ρ' : Frame}

/-! more operations -/
section
variable {a b : Int}
theorem O_sub : OpOk c .Sub (.int a) (.int b) (.int (a - b)) := by
  constructor
  rintro ρ o z R s v1 v2 Q E S ⟨t, rfl⟩ ⟨u, rfl⟩ K
  exact P.sub_int (K _ z _ Ext.tk (S.tok _) ⟨_, rfl⟩)
theorem O_mul (h : IntMulOk a b) : OpOk c .Mult (.int a) (.int b) (.int (a * b)) := by
  constructor
  rintro ρ o z R s v1 v2 Q E S ⟨t, rfl⟩ ⟨u, rfl⟩ K
  exact P.mul_int (K _ z _ Ext.tk (S.tok _) ⟨_, rfl⟩) h
theorem O_pow (hb : 0 ≤ b) (hs : (Builtin.Int.intBits a : Int) * b ≤ 2 ^ 27) : OpOk c .Pow (.int a) (.int b) (.int (a ^ b.toNat)) := by
  constructor
  rintro ρ o z R s v1 v2 Q E S ⟨t, rfl⟩ ⟨u, rfl⟩ K
  exact PyProof.Rows.pow_int hb hs (K _ z _ Ext.tk (S.tok _) ⟨_, rfl⟩)
theorem C_le : CmpOk c .LtE (.int a) (.int b) (decide (a ≤ b)) := by
  constructor
  rintro ρ o z R s v1 v2 Q E S ⟨t, rfl⟩ ⟨u, rfl⟩ K
  exact P.le_int (K _ Ext.rfl' S)
theorem C_gt : CmpOk c .Gt (.int a) (.int b) (decide (a > b)) := by
  constructor
  rintro ρ o z R s v1 v2 Q E S ⟨t, rfl⟩ ⟨u, rfl⟩ K
  exact P.gt_int (K _ Ext.rfl' S)
theorem C_ge : CmpOk c .GtE (.int a) (.int b) (decide (a ≥ b)) := by
  constructor
  rintro ρ o z R s v1 v2 Q E S ⟨t, rfl⟩ ⟨u, rfl⟩ K
  exact P.ge_int (K _ Ext.rfl' S)
theorem C_ne : CmpOk c .NotEq (.int a) (.int b) (a != b) := by
  constructor
  rintro ρ o z R s v1 v2 Q E S ⟨t, rfl⟩ ⟨u, rfl⟩ K
  exact P.ne_int (K _ Ext.rfl' S)
end
theorem C_nes {x y : Str} : CmpOk c .NotEq (.str x) (.str y) (x != y) := by
  constructor
  rintro ρ o z R s v1 v2 Q E S ⟨t, rfl⟩ ⟨u, rfl⟩ K
  exact PyProof.Rows.ne_str (K _ Ext.rfl' S)
theorem C_neb {x y : Bool} : CmpOk c .NotEq (.bool x) (.bool y) (x != y) := by
  constructor
  rintro ρ o z R s v1 v2 Q E S rfl rfl K
  exact PyProof.Rows.ne_bool (K _ Ext.rfl' S)
theorem C_isnot {x y : Bool} : CmpOk c .IsNot (.bool x) (.bool y) (x != y) := by
  constructor
  rintro ρ o z R s v1 v2 Q E S rfl rfl K
  exact PyProof.Rows.isnot_bool (K _ Ext.rfl' S)

theorem keepsNew {h h' : Heap} {z z' : PM} (zh : ∀ a b, z a = some b → h.get? a = some b) : True := trivial

/-! calls -/
structure FnOk (w : World) (h0 : Heap) (f : Value) (ds : List D) (d : D) (rk : Nat) : Prop where
  run : ∀ (A : Around) (z : PM) (s : Shared) (vs : List Value) (Q : Value → Shared → Prop) (E : Value → Shared → Prop), A.handled = none → A.depth + rk < recursionLimit → A.units + 60 * (rk + 1) < cLine →
    (∀ a b, z a = some b → s.heap.get? a = some b) → (∀ a b, h0.get? a = some b → z a = some b) → Reps z ds vs →
    (∀ v z' h' t', z.le z' → (∀ a b, z' a = some b → h'.get? a = some b) → (∀ b o, s.heap.get? b = some o → h'.get? b = some o) → (∀ a, z' a ≠ none → z a ≠ none ∨ s.heap.get? a = none) → Rep z' d v → Q v { s with heap := h', toks := t' }) →
    wpAny (model prog w) A (call f vs) Q E s

/-- a call's way: how callWith hands the arguments on -/
structure WayOk (c : Cx) (f : Value) : Prop where
  run : ∀ (s₀ : Shared) (pos : Pos) (e : Expr) (rest : List Expr) (Q : Value → Shared → Prop) (E : Value → Shared → Prop),
    wpAny (model prog c.w) c.A (spliced (backTo pos (starEach (e :: rest) c.env))) (fun vs s₁ => (∀ b o', c.h0.get? b = some o' → s₁.heap.get? b = some o') ∧ wpAny (model prog c.w) c.A (call f vs) Q E s₁) E s₀ →
    starEach (e :: rest) c.env = (false, eval e c.env) :: starEach rest c.env → (backTo pos (starEach rest c.env)).any (·.1) = false →
    wpAny (model prog c.w) c.A (callWith pos f [] (backTo pos (starEach (e :: rest) c.env)) []) Q E s₀
theorem W_blt {id : String} : WayOk c (.builtin id) := .mk fun s₀ pos e rest Q E h he hp =>
  PyProof.Rows.callWith_builtin1 (wpAny_mono h (fun _ _ x => x.2) fun _ _ x => x) he hp
theorem W_typ {T : String} : WayOk c (.type T) := .mk fun s₀ pos e rest Q E h he hp =>
  Pv.callWith_type1 (wpAny_mono h (fun _ _ x => x.2) fun _ _ x => x) he hp
theorem W_ref (ok : CxOk c) {f : Addr} (hk : keepIn (Mine.hd.heap_39 c.w.params) (.ref f) = true) : WayOk c (.ref f) := .mk fun s₀ pos e rest Q E h he hp =>
  callWith_K (K := Mine.hd.heap_39 c.w.params) (h₀ := c.h0) ok.K hk (first := []) (wpAny_mono h (fun _ _ x => ⟨ok.K.keeps x.1, x.2⟩) fun _ _ x => x) he hp

structure Room (c : Cx) (rk : Nat) : Prop where
  dp : c.A.depth + rk < recursionLimit
  un : c.A.units + 60 * (rk + 1) < cLine

theorem FnOk.at {f : Value} {ds : List D} {d : D} {rk : Nat} (h : FnOk c.w c.h0 f ds d rk) (ok : CxOk c) (hr : Room c rk) {o : Str → Addr} {z R : PM} {s : Shared} {vs : List Value} {Q : Value → Shared → Prop} {E : Value → Shared → Prop} (S : St c ρ o z R s) (hvs : Reps z ds vs)
    (K : ∀ v z' s', Ext z s z' s' → St c ρ o z' R s' → Rep z' d v → Q v s') : wpAny (model prog c.w) c.A (call f vs) Q E s :=
  h.run c.A z s vs Q E ok.hnd hr.dp hr.un S.zh S.bz hvs fun v z' h' t' le zh hk hnew hr => K v z' _ ⟨le, hk⟩ (S.grow hk le zh hnew) hr

theorem E_call (ok : CxOk c) {func : Expr} {f : Value} {e : Expr} {rest : List Expr} {pos : Pos} {ds : List D} {d : D} {rk : Nat} (hf : EOk c ρ func (.val f)) (hw : WayOk c f) (ha : AOk c ρ (e :: rest) ds) (hc : FnOk c.w c.h0 f ds d rk) (hr : Room c rk)
    (he : starEach (e :: rest) c.env = (false, eval e c.env) :: starEach rest c.env := by rfl) (hp : (backTo pos (starEach rest c.env)).any (·.1) = false := by rfl)
    (hcall : ∀ env, eval (.Call func (e :: rest) [] pos) env = (do callWith pos (← eval func env) [] (backTo pos (starEach (e :: rest) env)) (backToKw pos (keywordEach [] env))) := by intro _; rfl) : EOk c ρ (.Call func (e :: rest) [] pos) d := by
  constructor
  intro o z R s Q E S K
  refine Call_ (hf.run o z R s _ _ S fun v z1 s1 le1 S1 r1 => ?_) (hcall _)
  rw [show v = f from r1]
  refine hw.run s1 pos e rest _ _ (ha.run pos o z1 R s1 _ _ S1 fun vs z2 s2 le2 S2 r2 => ⟨S2.keep, hc.at ok hr S2 r2 fun v z3 s3 le3 S3 r3 => K v z3 s3 (le1.trans (le2.trans le3)) S3 r3⟩) he hp

/-! built-ins -/
section
variable {w : World} {h0 : Heap} {rk : Nat}

theorem two_units {A : Around} {n : Nat} (h : A.units + 60 * (n + 1) < cLine) : A.units < cLine := by omega

theorem F_len {xs : List D} (h : xs.length ≤ sizeLine) : FnOk w h0 (.builtin "len") [.list xs] (.int xs.length) 0 := by
  constructor
  intro A z s vs Q E hA hd hu zh hb hvs K
  obtain ⟨v, r, rfl, hv, hr⟩ := hvs
  obtain rfl : r = [] := hr
  obtain ⟨a, ws, n, rfl, ha, hws⟩ := hv
  have hl : s.heap.IsList a ws.toArray := ⟨_, zh _ _ ha, rfl, n, rfl⟩
  have hlen : ws.toArray.size = xs.length := by rw [List.size_toArray, hws.length]
  refine call_len_list hl (by rw [hlen]; have := sizeLine_eq; omega) ?_
  rw [hlen]
  exact K _ z s.heap _ (PM.le.refl z) zh (fun _ _ e => e) (fun _ h => .inl h) ⟨_, rfl⟩
theorem F_lens {x : Str} (h : x.length ≤ sizeLine) : FnOk w h0 (.builtin "len") [.str x] (.int x.length) 0 := by
  constructor
  intro A z s vs Q E hA hd hu zh hb hvs K
  obtain ⟨v, r, rfl, ⟨t, rfl⟩, hr⟩ := hvs
  obtain rfl : r = [] := hr
  refine P.len_str (by have := sizeLine_eq; omega) ?_
  exact K _ z s.heap _ (PM.le.refl z) zh (fun _ _ e => e) (fun _ h => .inl h) ⟨_, rfl⟩
theorem F_int {b : Bool} : FnOk w h0 (.type "int") [.bool b] (.int (if b then 1 else 0)) 0 := by
  constructor
  intro A z s vs Q E hA hd hu zh hb hvs K
  obtain ⟨v, r, rfl, hv, hr⟩ := hvs
  obtain rfl : r = [] := hr
  obtain rfl : v = .bool b := hv
  exact call_int_bool (K _ z s.heap _ (PM.le.refl z) zh (fun _ _ e => e) (fun _ h => .inl h) ⟨_, rfl⟩)

theorem intsAre_of {z : PM} : ∀ {ns : List Int} {vs : List Value}, Reps z (ns.map D.int) vs → IntsAre vs ns
  | [], _, e => by rw [show _ = [] from e]; exact .nil
  | n :: ns, _, ⟨v, r, e, ⟨t, hv⟩, h⟩ => by subst e; rw [hv]; exact .cons n t (intsAre_of h)
theorem reps_ints {z : PM} : ∀ {ns : List Int} {vs : List Value}, IntsAre vs ns → Reps z (ns.map D.int) vs
  | _, _, .nil => rfl
  | _, _, .cons n t h => ⟨_, _, rfl, ⟨t, rfl⟩, reps_ints h⟩

theorem F_sum {ns : List Int} : FnOk w h0 (.builtin "sum") [.list (ns.map D.int)] (.int ns.sum) 0 := by
  constructor
  intro A z s vs Q E hA hd hu zh hb hvs K
  obtain ⟨v, r, rfl, hv, hr⟩ := hvs
  obtain rfl : r = [] := hr
  obtain ⟨a, ws, n, rfl, ha, hws⟩ := hv
  have hl : s.heap.IsList a ws.toArray := ⟨_, zh _ _ ha, rfl, n, rfl⟩
  have hi := intsAre_of hws
  obtain ⟨xs, hx⟩ := hi.allInts.items
  have hn : numsOf ws.toArray.toList = ns := by rw [show ws.toArray.toList = ws from rfl, hi.numsOf]
  rw [hx] at hl hn
  rw [nums_intItems] at hn
  refine sum_intListG hA hl fun h' tk t' hk => ?_
  rw [preSum_eq, List.take_of_length_le (by simp), hn]
  exact K _ z h' tk (PM.le.refl z) (fun a b e => hk _ _ (zh a b e)) hk (fun _ h => .inl h) ⟨_, rfl⟩

theorem F_max2 {a b : Int} : FnOk w h0 (.builtin "max") [.int a, .int b] (.int (max a b)) 0 := by
  constructor
  intro A z s vs Q E hA hd hu zh hb hvs K
  obtain ⟨v, r, rfl, ⟨t, rfl⟩, v2, r2, rfl, ⟨u, rfl⟩, hr⟩ := hvs
  obtain rfl : r2 = [] := hr
  refine max_two_ints hA fun h' tk hk => ?_
  refine K _ z h' tk (PM.le.refl z) (fun a b e => hk _ _ (zh a b e)) hk (fun _ h => .inl h) ?_
  split
  · exact ⟨u, by rw [Int.max_eq_right (by omega)]⟩
  · exact ⟨t, by rw [Int.max_eq_left (by omega)]⟩

theorem grow1 {z : PM} {s : Shared} {h : Heap} (zh : ∀ a b, z a = some b → s.heap.get? a = some b) (hk : ∀ b o, s.heap.get? b = some o → h.get? b = some o) (ob : Obj) (hf : ob.isFreed = false := by rfl) :
    z.le (z.put h.objs.size ob) ∧ (∀ a b, (z.put h.objs.size ob) a = some b → (h.push ob).get? a = some b) ∧ (∀ b o, s.heap.get? b = some o → (h.push ob).get? b = some o) ∧ (∀ a, (z.put h.objs.size ob) a ≠ none → z a ≠ none ∨ s.heap.get? a = none) := by
  have hn : s.heap.get? h.objs.size = none := by
    cases e : s.heap.get? h.objs.size with
    | none => rfl
    | some o => have := hk _ _ e; rw [get_size_none] at this; cases this
  have hz : z h.objs.size = none := by
    cases e : z h.objs.size with
    | none => rfl
    | some o => rw [zh _ _ e] at hn; cases hn
  refine ⟨PM.le.put hz, fun a b e => ?_, fun b o e => push_keeps _ _ _ _ (hk _ _ e), fun a h' => ?_⟩
  · unfold PM.put at e; split at e
    · rename_i q; cases e; subst q; exact Heap.get?_push_size _ hf
    · exact push_keeps _ _ _ _ (hk _ _ (zh _ _ e))
  · unfold PM.put at h'; split at h'
    · rename_i q; subst q; exact .inr hn
    · exact .inl h'

theorem F_tuple {xs : List D} (h : xs.length ≤ sizeLine) : FnOk w h0 (.type "tuple") [.list xs] (.tup xs) 0 := by
  constructor
  intro A z s vs Q E hA hd hu zh hb hvs K
  obtain ⟨v, r, rfl, hv, hr⟩ := hvs
  obtain rfl : r = [] := hr
  obtain ⟨a, ws, n, rfl, ha, hws⟩ := hv
  have hl : s.heap.IsList a ws.toArray := ⟨_, zh _ _ ha, rfl, n, rfl⟩
  refine call_tuple_list hl (fun h' hk => ?_) (by rw [List.size_toArray, hws.length]; exact h)
  obtain ⟨g1, g2, g3, g4⟩ := grow1 zh hk (TO ws 0)
  exact K _ _ _ s.toks g1 g2 g3 g4 ⟨_, ws, 0, rfl, PM.put_self _ _ _, Reps.mono g1 xs hws⟩

theorem F_range1 {n : Int} : FnOk w h0 (.type "range") [.int n] (.rng 0 n 1) 0 := by
  constructor
  intro A z s vs Q E hA hd hu zh hb hvs K
  obtain ⟨v, r, rfl, ⟨t, rfl⟩, hr⟩ := hvs
  obtain rfl : r = [] := hr
  refine call_range_1 ?_
  obtain ⟨g1, g2, g3, g4⟩ := grow1 zh (fun _ _ e => e) (RO 0 n 1 s.toks t (s.toks + 1))
  exact K _ _ _ _ g1 g2 g3 g4 ⟨_, _, _, _, rfl, PM.put_self _ _ _⟩
theorem F_range2 {a b : Int} : FnOk w h0 (.type "range") [.int a, .int b] (.rng a b 1) 0 := by
  constructor
  intro A z s vs Q E hA hd hu zh hb hvs K
  obtain ⟨v, r, rfl, ⟨t, rfl⟩, v2, r2, rfl, ⟨u, rfl⟩, hr⟩ := hvs
  obtain rfl : r2 = [] := hr
  refine call_range_2 ?_
  obtain ⟨g1, g2, g3, g4⟩ := grow1 zh (fun _ _ e => e) (RO a b 1 t u s.toks)
  exact K _ _ _ _ g1 g2 g3 g4 ⟨_, _, _, _, rfl, PM.put_self _ _ _⟩
theorem F_range3 {a b d : Int} (hd : d ≠ 0) (hp : Builtin.divisionGoesByPylong (b - a) d = false) : FnOk w h0 (.type "range") [.int a, .int b, .int d] (.rng a b d) 0 := by
  constructor
  intro A z s vs Q E hA hd' hu zh hb hvs K
  obtain ⟨v, r, rfl, ⟨t, rfl⟩, v2, r2, rfl, ⟨u, rfl⟩, v3, r3, rfl, ⟨u3, rfl⟩, hr⟩ := hvs
  obtain rfl : r3 = [] := hr
  refine call_range_3 hd ?_ (.inl hp)
  obtain ⟨g1, g2, g3, g4⟩ := grow1 zh (fun _ _ e => e) (RO a b d t u u3)
  exact K _ _ _ _ g1 g2 g3 g4 ⟨_, _, _, _, rfl, PM.put_self _ _ _⟩
end

/-! range and text as sources -/
noncomputable def rngInts (a d : Int) (n : Nat) : List Int := (List.range n).map fun (i : Nat) => a + (i : Int) * d
theorem rngInts_get {a d : Int} {n i : Nat} (h : i < n) : (rngInts a d n)[i]? = some (a + (i : Int) * d) := by
  unfold rngInts; rw [List.getElem?_map, List.getElem?_range h]; rfl
theorem It_rng (ok : CxOk c) {iter : Expr} {a b d : Int} {n : Nat} (h : EOk c ρ iter (.rng a b d)) (hn : Builtin.Range.rangeSize a b d = (n : Int)) (hs : Builtin.Range.small a b d = true) : ItOk c ρ iter ((rngInts a d n).map D.int) := by
  constructor
  intro o z R s Q E S K
  refine h.run o z R s _ _ S fun v z1 s1 le1 S1 r1 => ?_
  obtain ⟨r, t, u, x, rfl, hr⟩ := r1
  refine wpAny_pyIter_range (S1.zh _ _ hr) hs ?_
  have hnew := get_size_none s1.heap
  have W := Walks.range (prog := prog) (w := c.w) ok.hnd s1.heap.objs.size a d n
  rw [show n = ((rngInts a d n).map D.int).length by simp [rngInts]] at W
  refine K s1.heap.objs.size [s1.heap.objs.size] [s1.heap.objs.size] _ _ z1 _ (le1.trans Ext.ps) (S1.temp (push_keeps _ _)) W (fun i dd v hd hv => ?_) ?_ (fun b hb => ?_) (fun i h st b hb => ?_) (fun b hb => ?_) ?_ (fun b hb => by rw [List.mem_singleton.mp hb]; exact old_none le1)
  · obtain ⟨t, rfl⟩ := hv
    rw [List.getElem?_map] at hd
    by_cases hi : i < n
    · rw [rngInts_get hi] at hd; cases hd; exact ⟨t, rfl⟩
    · rw [List.getElem?_eq_none (by simp [rngInts]; omega)] at hd; cases hd
  · rw [hn]
    show IsRangeIter _ _ (a + ((0 : Nat) : Int) * d) _ d
    have e : ((((rngInts a d n).map D.int).length : Nat) : Int) - ((0 : Nat) : Int) = (n : Int) := by simp [rngInts]
    rw [e, show a + ((0 : Nat) : Int) * d = a by simp]
    exact Heap.get?_push_size _ rfl
  · rw [List.mem_singleton.mp hb]; exact ⟨S1.znew hnew, S1.rnew hnew, priv_new S1 hnew⟩
  · rw [List.mem_singleton.mp hb]; exact ⟨_, st⟩
  · exact .inl hb
  · intro i target v s Q E st hQ
    exact go_plain (T := "range_iterator") st rfl (by decide) hQ

noncomputable def EAt (c : Cx) (ρ : Frame) (e : Expr) (d : D) (o : Str → Addr) (z R : PM) (s : Shared) : Prop :=
  ∀ (Q : Value → Shared → Prop) (E : Value → Shared → Prop), (∀ v z' s', Ext z s z' s' → St c ρ o z' R s' → Rep z' d v → Q v s') → wpAny (model prog c.w) c.A (eval e c.env) Q E s
theorem It_str_at (ok : CxOk c) {iter : Expr} {x : Str} {o : Str → Addr} {z R : PM} {s : Shared} (h : EAt c ρ iter (.str x) o z R s) : ItAt c ρ iter (x.cps.toList.map fun n => D.str ⟨#[n]⟩) o z R s := by
  intro Q E K
  refine h _ _ fun v z1 s1 le1 S1 r1 => ?_
  obtain ⟨t, rfl⟩ := r1
  have hnew := get_size_none s1.heap
  have hlen : x.cps.size = (x.cps.toList.map fun n => D.str ⟨#[n]⟩).length := by simp
  have hrep : ∀ (z1 : PM) i d v, (x.cps.toList.map fun n => D.str ⟨#[n]⟩)[i]? = some d → SignAt x i v → Rep z1 d v := by
    rintro z1 i d v hd ⟨k, u, hk, rfl⟩
    rw [List.getElem?_map, Array.getElem?_toList, hk] at hd
    cases hd; exact ⟨u, rfl⟩
  cases ha : x.cps.all (· < 128)
  · refine wpAny_pyIter_wide ha ?_
    have W := Walks.strWide (prog := prog) (w := c.w) ok.hnd s1.heap.objs.size x t
    rw [hlen] at W
    refine K s1.heap.objs.size [s1.heap.objs.size] [s1.heap.objs.size] _ _ z1 _ (le1.trans Ext.ps) (S1.temp (push_keeps _ _)) W (hrep z1) ⟨_, Heap.get?_push_size _ rfl, rfl, rfl⟩ (fun b hb => ?_) (fun i h st b hb => ?_) (fun b hb => .inl hb) ?_ (fun b hb => by rw [List.mem_singleton.mp hb]; exact old_none le1)
    · rw [List.mem_singleton.mp hb]; exact ⟨S1.znew hnew, S1.rnew hnew, priv_new S1 hnew⟩
    · rw [List.mem_singleton.mp hb]; obtain ⟨ob, e, _⟩ := st; exact ⟨ob, e⟩
    · intro i target v s Q E st hQ
      obtain ⟨ob, e, hc, _⟩ := st
      exact go_plain e hc (by decide) hQ
  · refine wpAny_pyIter_ascii ha ?_
    have W := Walks.strAscii (prog := prog) (w := c.w) ok.hnd s1.heap.objs.size x t
    rw [hlen] at W
    refine K s1.heap.objs.size [s1.heap.objs.size] [s1.heap.objs.size] _ _ z1 _ (le1.trans Ext.ps) (S1.temp (push_keeps _ _)) W (hrep z1) ⟨_, Heap.get?_push_size _ rfl, rfl, rfl⟩ (fun b hb => ?_) (fun i h st b hb => ?_) (fun b hb => .inl hb) ?_ (fun b hb => by rw [List.mem_singleton.mp hb]; exact old_none le1)
    · rw [List.mem_singleton.mp hb]; exact ⟨S1.znew hnew, S1.rnew hnew, priv_new S1 hnew⟩
    · rw [List.mem_singleton.mp hb]; obtain ⟨ob, e, _⟩ := st; exact ⟨ob, e⟩
    · intro i target v s Q E st hQ
      obtain ⟨ob, e, hc, _⟩ := st
      exact go_plain e hc (by decide) hQ

theorem It_str (ok : CxOk c) {iter : Expr} {x : Str} (h : EOk c ρ iter (.str x)) : ItOk c ρ iter (x.cps.toList.map fun n => D.str ⟨#[n]⟩) :=
  .mk fun o z R s Q E S K => It_str_at ok (fun Q E K => h.run o z R s Q E S K) Q E K
end Mine
end
/-! B5 -/
section
open PySem PySem.W PyProof.Rows PySem.Spec PySem.Calls
set_option maxRecDepth 100000
set_option maxHeartbeats 1000000
set_option linter.unusedVariables false
namespace Mine

structure BaseOk (w : World) (h0 : Heap) : Prop where
  K : (Mine.hd.heap_39 w.params).In h0
  T : ∃ p loose mean mg mb, Top p loose mean mg mb h0

theorem cellsFrom_names : ∀ (names : List (Str × NameKind)) (n n' : Nat) (acc acc' : List (Str × Addr)), acc.map (·.1) = acc'.map (·.1) → (cellsFrom n names acc).map (·.1) = (cellsFrom n' names acc').map (·.1)
  | [], _, _, _, _, h => h
  | (x, k) :: r, n, n', acc, acc', h => by
    unfold cellsFrom
    split
    · exact cellsFrom_names r _ _ _ _ (by rw [List.map_cons, List.map_cons, h])
    · exact cellsFrom_names r _ _ _ _ h
theorem lookup_of_mem : ∀ {cs : List (Str × Addr)} {n : Str} {a : Addr}, (cs.map (·.1)).Nodup → (n, a) ∈ cs → cs.lookup n = some a
  | (x, b) :: r, n, a, hn, hm => by
    rw [List.map_cons, List.nodup_cons] at hn
    rw [List.lookup_cons]
    rcases List.mem_cons.mp hm with e | hm
    · cases e; simp
    · have hne : (n == x) = false := beq_eq_false_iff_ne.mpr fun e => hn.1 (e ▸ List.mem_map_of_mem (f := (·.1)) hm)
      rw [hne]; exact lookup_of_mem hn.2 hm

noncomputable def kidOf (f : Addr) (fd : FuncData) (c : Cx) (s : Shared) : Cx := { c with A := c.A.deeper (callEnvC fd s.heap.objs.size f), env := callEnvC fd s.heap.objs.size f }

/-- the frame's shape: names, and which are cells -/
noncomputable def frameOk (sc : Scope) (ρ : Frame) : Bool :=
  ρ.all fun p => (sc.names.lookup p.1 == some .local || (sc.names.lookup p.1 == some .cell && ((cellsFrom 0 sc.names []).any fun q => q.1 == p.1))) && !(p.1 == ("__debug__" : Str))

theorem any_names {p : Str → Bool} : ∀ {l l' : List (Str × Addr)}, l.map (·.1) = l'.map (·.1) → (l.any fun q => p q.1) = (l'.any fun q => p q.1)
  | [], [], _ => rfl
  | [], _ :: _, h => by cases h
  | _ :: _, [], h => by cases h
  | x :: l, y :: l', h => by
    rw [List.map_cons, List.map_cons, List.cons.injEq] at h
    rw [List.any_cons, List.any_cons, h.1, any_names h.2]
theorem lookup_some_of_any {n : Str} : ∀ {l : List (Str × Addr)}, (l.any fun q => q.1 == n) = true → ∃ a, l.lookup n = some a
  | [], h => by cases h
  | (x, a) :: r, h => by
    rw [List.any_cons] at h
    rw [List.lookup_cons]
    by_cases e : n = x
    · subst e; exact ⟨a, by simp⟩
    · have h1 : (x == n) = false := beq_eq_false_iff_ne.mpr fun q => e q.symm
      have h2 : (n == x) = false := beq_eq_false_iff_ne.mpr e
      dsimp only at h
      rw [h1, Bool.false_or] at h
      rw [h2]; exact lookup_some_of_any h

noncomputable def restW (z : PM) (wr : List Addr) (h : Heap) : PM := fun a => if z a = none ∧ a ∉ wr then h.get? a else none

/-- into a def: the state of its frame; wr: objects that are left out -/
theorem enter_def {w : World} {h0 : Heap} (hb0 : BaseOk w h0) {f : Addr} {name qual : Str} {params : Arguments} {body : List Stmt} {scope : Scope} {dV kV doc pm cdv ct oc : Value} {an od : Option Addr} {osl : Array (Option Value)} {ds : List D} {xs : List Str} {ρ : Frame}
    (ho : (Mine.hd.heap_39 w.params).lookup f = some ⟨oc, od, .func (fnOf name qual params body scope dV kV doc pm an cdv ct), osl⟩) (hcd : codeIn (Mine.hd.heap_39 w.params) cdv qual = true)
    (hbind : ∀ vs : List Value, vs.length = ds.length → bindArgs (fnOf name qual params body scope dV kV doc pm an cdv ct) ⟨vs, []⟩ = pure (xs.zip vs)) (hxs : xs.length = ds.length) (hxl : ∀ x ∈ xs, scope.names.lookup x = some .local)
    (hfr : frameOk scope ρ = true) (hnd : (ρ.map (·.1)).Nodup) (hcn : ((cellsFrom 0 scope.names []).map (·.1)).Nodup)
    (hini : ∀ p ∈ ρ, p.2 = .no ∨ ∃ (i : Nat) (x : Str) (d : D), xs[i]? = some x ∧ ds[i]? = some d ∧ p = (x, .val d)) (hxd : xs.Nodup)
    {A : Around} {z : PM} {s : Shared} {vs : List Value} {Q : Value → Shared → Prop} {E : Value → Shared → Prop} (wr : List Addr)
    (hA : A.handled = none) {rk : Nat} (hd : A.depth + (rk + 1) < recursionLimit) (hu : A.units + 60 * (rk + 1 + 1) < cLine) (zh : ∀ a b, z a = some b → s.heap.get? a = some b) (hb : ∀ a b, h0.get? a = some b → z a = some b) (hvs : Reps z ds vs)
    (hwr : ∀ b ∈ wr, ∃ ob, s.heap.get? b = some ob)
    (hbody : ∀ (c : Cx) (L : Addr) (s₁ : Shared), CxOk c → c.w = w → c.h0 = h0 → c.g = s.gens → c.dr = s.drawn → c.os = s.os → Room c rk → c.env = callEnvC (fnOf name qual params body scope dV kV doc pm an cdv ct) L f → c.A = A.deeper (callEnvC (fnOf name qual params body scope dV kV doc pm an cdv ct) L f) → s.heap.get? L = none →
      (∀ b o, s.heap.get? b = some o → s₁.heap.get? b = some o) → St c ρ (fun _ => 0) z (restW z wr s.heap) s₁ → (∀ b ∈ wr, ¬ Priv c ρ (fun _ => 0) b) →
      wpAny (model prog c.w) c.A (execs body c.env) (fun f s' => Q (match f with | .ret v => v | _ => .none) s') (fun e s' => wpAny (model prog c.w) c.A (leaving c.env e) (fun _ s'' => E e s'') (fun e' s'' => E e' s'') s') s₁)
    (hco : scope.isCoroutine = false := by rfl) (hgen : scope.isGenerator = false := by rfl) (hk : scope.kind = .function := by rfl) : wpAny (model prog w) A (call (.ref f) vs) Q E s := by
  obtain ⟨p, loose, mean, mg, mb, T⟩ := hb0.T
  have keep : ∀ b o, h0.get? b = some o → s.heap.get? b = some o := fun b o e => zh _ _ (hb _ _ e)
  have X : (Mine.hd.heap_39 w.params).In s.heap := hb0.K.keeps keep
  refine wpAny_call (codeAny_call_cells (fd := fnOf name qual params body scope dV kV doc pm an cdv ct) (by omega) (X _ _ ho) rfl (T.nolimit.keeps keep) (codeRec_of X hcd) rfl (hbind vs hvs.length) rfl (fun x hx => ?_) (fun s₁ C => ?_) hco hgen hk)
  · exact .inl (hxl x.1 (List.of_mem_zip hx).1)
  generalize hL : s.heap.objs.size = L at C
  have hLn : s.heap.get? L = none := hL ▸ get_size_none _
  have big : ∀ a, L ≤ a → s.heap.get? a = none := fun a ha => by
    cases e : s.heap.get? a with
    | none => rfl
    | some b => exact absurd (hL ▸ Heap.lt_size e : a < L) (Nat.not_lt.mpr ha)
  have znew : ∀ a, s.heap.get? a = none → z a = none := fun a h => by
    cases e : z a with
    | none => rfl
    | some b => rw [zh _ _ e] at h; cases h
  let c : Cx := { w := w, A := A.deeper (callEnvC (fnOf name qual params body scope dV kV doc pm an cdv ct) L f), env := callEnvC (fnOf name qual params body scope dV kV doc pm an cdv ct) L f, h0 := h0, g := s.gens, dr := s.drawn, os := s.os }
  have ok : CxOk c := ⟨hA, by show A.units + 3 + 40 < cLine; omega, hk, rfl, rfl, hb0.K, hb0.T⟩
  have room : Room c rk := ⟨by show A.depth + 1 + rk < recursionLimit; omega, by show A.units + 3 + 60 * (rk + 1) < cLine; omega⟩
  have hnames : c.env.cells.map (·.1) = (cellsFrom 0 scope.names []).map (·.1) := cellsFrom_names _ _ _ _ _ rfl
  obtain ⟨h₁, tk₁, e₁⟩ := C.toInCall.same
  have hpn : ∀ a, Priv c ρ (fun _ => 0) a → s.heap.get? a = none := fun a hp => by
    cases hp with
    | loc => exact hLn
    | cell hm => exact big _ (Nat.le_of_lt (C.above _ _ hm))
    | own hm => rcases hini _ hm with e | ⟨_, _, _, _, _, e⟩ <;> cases e
  have S : St c ρ (fun _ => 0) z (restW z wr s.heap) s₁ := {
    zh := fun a b e => C.toInCall.keep _ _ (zh a b e)
    rh := fun a b e => by
      unfold restW at e; split at e
      · exact C.toInCall.keep _ _ e
      · cases e
    bz := hb
    zr := fun a h => if_neg fun h' => h h'.1
    gs := by rw [e₁]
    ds := by rw [e₁]
    oss := by rw [e₁]
    nodup := hnd
    named := fun p hp => by
      have := List.all_eq_true.mp hfr p hp
      rw [Bool.and_eq_true, Bool.or_eq_true, Bool.and_eq_true, beq_iff_eq, beq_iff_eq, Bool.not_eq_true'] at this
      refine ⟨?_, this.2⟩
      rcases this.1 with h | ⟨h, h'⟩
      · exact .inl h
      · rw [any_names (p := (· == p.1)) hnames.symm] at h'
        exact .inr ⟨h, lookup_some_of_any h'⟩
    sep := fun a hp => by
      have := hpn a hp
      refine ⟨znew a this, ?_⟩
      unfold restW; split
      · exact this
      · rfl
    cellL := fun p hp => ⟨Nat.ne_of_gt (C.above p.1 p.2 hp), _, C.cell p.1 p.2 (lookup_of_mem (by rw [hnames]; exact hcn) hp)⟩
    cellD := C.apart
    ownL := fun x ds' h => by rcases hini _ h with e | ⟨_, _, _, _, _, e⟩ <;> cases e
    ownD := fun x y dx dy h => by rcases hini _ h with e | ⟨_, _, _, _, _, e⟩ <;> cases e
    slots := ⟨_, C.toInCall.ns, fun p hp => by
      obtain ⟨x, sl⟩ := p
      rcases hini _ hp with e | ⟨i, y, d', hi, hd', e⟩
      · rw [show sl = .no from e]; trivial
      · cases e
        obtain ⟨v, hv, hr⟩ := hvs.get hd'
        refine ⟨v, .inl ⟨hxl _ (List.mem_of_getElem? hi), ?_⟩, hr⟩
        have gen : ∀ (binds : List (Str × Value)) (m : Str → Option Value), (∀ y ∈ binds, scope.names.lookup y.1 = some .local) → (binds.map (·.1)).Nodup → (x, v) ∈ binds → bindL c.env.kindOf binds m x = some v := by
          intro binds
          induction binds with
          | nil => intro m _ _ h; cases h
          | cons q r ih =>
            obtain ⟨n, u⟩ := q
            intro m hl hn hm
            rw [List.map_cons, List.nodup_cons] at hn
            unfold bindL
            rw [if_pos (show c.env.kindOf n = some .local from hl _ List.mem_cons_self)]
            rcases List.mem_cons.mp hm with e | hm
            · cases e
              have other : ∀ (r : List (Str × Value)) (m : Str → Option Value), x ∉ r.map (·.1) → bindL c.env.kindOf r m x = m x := by
                intro r
                induction r with
                | nil => intro m _; rfl
                | cons q r ih =>
                  intro m hx
                  rw [List.map_cons, List.mem_cons, not_or] at hx
                  unfold bindL
                  rw [ih _ hx.2]
                  split
                  · exact if_neg hx.1
                  · rfl
              rw [other _ _ hn.1]; exact if_pos rfl
            · exact ih _ (fun y hy => hl y (List.mem_cons_of_mem _ hy)) hn.2 hm
        refine gen _ _ (fun y hy => hxl _ (List.of_mem_zip hy).1) ?_ ?_
        · rw [List.map_fst_zip (by rw [hxs, hvs.length]; exact Nat.le_refl _)]; exact hxd
        · have : (xs.zip vs)[i]? = some (x, v) := by rw [List.getElem?_zip_eq_some]; exact ⟨hi, hv⟩
          exact List.mem_of_getElem? this⟩ }
  have hb := hbody c L s₁ ok rfl rfl rfl rfl rfl room rfl rfl hLn (fun b o e => C.toInCall.keep _ _ e) S fun b hb hp => by
    obtain ⟨ob, e⟩ := hwr b hb
    rw [hpn b hp] at e; cases e
  refine wpAny_mono hb (fun f s' h => ?_) fun _ _ h => h
  exact h

/-- what stands behind a return -/
theorem back_def {c : Cx} {ρ ρ' : Frame} {z z' R : PM} {o o' : Str → Addr} {s s' : Shared} {wr : List Addr} (hg : c.g = s.gens) (hd : c.dr = s.drawn) (hos : c.os = s.os) (zh : ∀ a b, z a = some b → s.heap.get? a = some b) (le : z.le z') (S' : St c ρ' o' z' (restW z wr s.heap) s') :
    s' = { s with heap := s'.heap, toks := s'.toks } ∧ (∀ b o, b ∉ wr → s.heap.get? b = some o → s'.heap.get? b = some o) ∧ (∀ a, a ∉ wr → z' a ≠ none → z a ≠ none ∨ s.heap.get? a = none) := by
  refine ⟨?_, fun b o hw e => ?_, fun a hw h => ?_⟩
  · obtain ⟨a1, a2, a3, a4, a5⟩ := s'
    have b1 := S'.gs; have b2 := S'.ds; have b3 := S'.oss
    dsimp only at b1 b2 b3
    rw [b1, b2, b3, hg, hd, hos]
  · cases hz : z b with
    | none => exact S'.rh b o (by unfold restW; rw [if_pos ⟨hz, hw⟩]; exact e)
    | some q => have := zh _ _ hz; rw [e] at this; cases this; exact S'.zh _ _ (le _ _ hz)
  · have hR := S'.zr a h
    by_cases hz : z a = none
    · right; unfold restW at hR; rwa [if_pos ⟨hz, hw⟩] at hR
    · exact .inl hz

/-- the contract of a def from its body: all parameters are plain locals -/
theorem F_def {w : World} {h0 : Heap} (hb0 : BaseOk w h0) {f : Addr} {name qual : Str} {params : Arguments} {body : List Stmt} {scope : Scope} {dV kV doc pm cdv ct oc : Value} {an od : Option Addr} {osl : Array (Option Value)} {ds : List D} {d : D} {rk : Nat} {xs : List Str} {ρ : Frame}
    (ho : (Mine.hd.heap_39 w.params).lookup f = some ⟨oc, od, .func (fnOf name qual params body scope dV kV doc pm an cdv ct), osl⟩) (hcd : codeIn (Mine.hd.heap_39 w.params) cdv qual = true)
    (hbind : ∀ vs : List Value, vs.length = ds.length → bindArgs (fnOf name qual params body scope dV kV doc pm an cdv ct) ⟨vs, []⟩ = pure (xs.zip vs)) (hxs : xs.length = ds.length) (hxl : ∀ x ∈ xs, scope.names.lookup x = some .local)
    (hfr : frameOk scope ρ = true) (hnd : (ρ.map (·.1)).Nodup) (hcn : ((cellsFrom 0 scope.names []).map (·.1)).Nodup)
    (hini : ∀ p ∈ ρ, p.2 = .no ∨ ∃ (i : Nat) (x : Str) (d : D), xs[i]? = some x ∧ ds[i]? = some d ∧ p = (x, .val d)) (hxd : xs.Nodup)
    (hbody : ∀ (c : Cx), CxOk c → c.w = w → c.h0 = h0 → Room c rk → (∃ L, c.env = callEnvC (fnOf name qual params body scope dV kV doc pm an cdv ct) L f) → XsOk c ρ body fun fl _ => fl = .ret d)
    (hco : scope.isCoroutine = false := by rfl) (hgen : scope.isGenerator = false := by rfl) (hk : scope.kind = .function := by rfl) : FnOk w h0 (.ref f) ds d (rk + 1) := by
  constructor
  intro A z s vs Q E hA hd hu zh hb hvs K
  refine enter_def hb0 ho hcd hbind hxs hxl hfr hnd hcn hini hxd [] hA hd hu zh hb hvs (fun b h => by cases h) (fun c L s₁ ok hw hh hg hdr hos rm he hcA hLn hk S _ => ?_) hco hgen hk
  refine (hbody c ok hw hh rm ⟨L, he⟩).run _ _ _ _ _ _ S fun fl ρ' o' z' s' fw le S' hf hP => ?_
  subst hP
  obtain ⟨v, rfl, hv⟩ := hf
  obtain ⟨e1, e2, e3⟩ := back_def (o := fun _ => 0) (ρ := []) (R := fun _ => none) hg hdr hos zh le S'
  show Q v s'
  rw [e1]
  exact K v z' s'.heap s'.toks le S'.zh (fun b o e => e2 b o (by simp) e) (fun a h => e3 a (by simp) h) hv

end Mine
end
/-! B6 -/
section
open PySem PySem.W PyProof.Rows PySem.Spec PySem.Calls
set_option maxRecDepth 100000
set_option maxHeartbeats 1000000
set_option linter.unusedVariables false
namespace Mine
variable {c : Cx} {ρ ρ' : Frame}

/-! items -/
theorem E_item {value i : Expr} {pos} {xs : List D} {k : Int} {d : D} (hv : EOk c ρ value (.list xs)) (hi : EOk c ρ i (.int k)) (h0 : 0 ≤ k) (h63 : k < 2 ^ 63) (hx : xs[k.toNat]? = some d)
    (hs : ∀ o' i', subscripted i false o' i' = operate [o', i'] (getItem o' i') := by intro _ _; rfl) : EOk c ρ (.Subscript value i pos) d := by
  constructor
  intro o z R s Q E S K
  refine Subscript_ (hv.run o z R s _ _ S fun v1 z1 s1 le1 S1 r1 => hi.run o z1 R s1 _ _ S1 fun v2 z2 s2 le2 S2 r2 => ?_)
  obtain ⟨a, vs, n, rfl, ha, hr⟩ := Rep.mono le2.le _ r1
  obtain ⟨t, rfl⟩ := r2
  obtain ⟨v, hv, hrv⟩ := hr.get hx
  have hl : s2.heap.IsList a vs.toArray := ⟨_, S2.zh _ _ ha, rfl, n, rfl⟩
  exact tail_any hl.typeIs slot_list_getitem.lookup (wpAny_getItem_list hl h0 h63 (by rw [List.getElem?_toArray]; exact hv) (K v z2 s2 (le1.trans le2) S2 hrv)) (hs _ _)
theorem seqIndex_nat {k : Int} {n : Nat} (h0 : 0 ≤ k) (hn : k.toNat < n) : seqIndex? k n = some k.toNat := seqIndex_of h0 (by omega)
theorem E_itemT {value i : Expr} {pos} {xs : List D} {k : Int} {d : D} (hv : EOk c ρ value (.tup xs)) (hi : EOk c ρ i (.int k)) (h0 : 0 ≤ k) (h63 : k < 2 ^ 63) (hx : xs[k.toNat]? = some d)
    (hs : ∀ o' i', subscripted i false o' i' = operate [o', i'] (getItem o' i') := by intro _ _; rfl) : EOk c ρ (.Subscript value i pos) d := by
  constructor
  intro o z R s Q E S K
  refine Subscript_ (hv.run o z R s _ _ S fun v1 z1 s1 le1 S1 r1 => hi.run o z1 R s1 _ _ S1 fun v2 z2 s2 le2 S2 r2 => ?_)
  obtain ⟨a, vs, n, rfl, ha, hr⟩ := Rep.mono le2.le _ r1
  obtain ⟨t, rfl⟩ := r2
  obtain ⟨v, hv, hrv⟩ := hr.get hx
  have ht : IsT s2.heap a vs.toArray n := S2.zh _ _ ha
  have hlt : k.toNat < vs.length := by
    by_cases q : k.toNat < vs.length
    · exact q
    · rw [List.getElem?_eq_none (by omega)] at hv; cases hv
  exact tail_any (T := "tuple") ⟨_, ht, rfl⟩ F.slot_tuple_getitem.lookup (P.getItem_tuple ht (by omega) h63 (seqIndex_nat h0 (by rw [List.size_toArray]; exact hlt)) (by rw [List.getElem?_toArray]; exact hv) (K v z2 s2 (le1.trans le2) S2 hrv)) (hs _ _)

/-! the parts of a slice -/
inductive Part | none | some (i : Int)
noncomputable def Part.opt : Part → Option Int
  | .none => Option.none
  | .some i => Option.some i
structure PtOk (c : Cx) (ρ : Frame) (e : Option Expr) (p : Option Int) : Prop where
  run : ∀ o z R s (Q : Value → Shared → Prop) (E : Value → Shared → Prop), St c ρ o z R s → (∀ v z' s', Ext z s z' s' → St c ρ o z' R s' → (match p with | Option.none => v = .none | Option.some i => ∃ t, v = .int i t) → Q v s') → wpAny (model prog c.w) c.A (evalPart e c.env) Q E s
theorem Pt_none : PtOk c ρ none none := .mk fun o z R s Q E S K => by rw [evalPart_none]; exact wpAny_pure (K _ z s Ext.rfl' S rfl)
theorem Pt_some {e : Expr} {i : Int} (h : EOk c ρ e (.int i)) : PtOk c ρ (some e) (some i) := .mk fun o z R s Q E S K => by rw [evalPart_some]; exact h.run o z R s Q E S K
theorem part_is {p : Option Int} {v : Value} (h : match p with | Option.none => v = .none | Option.some i => ∃ t, v = .int i t) : IsPart v p := by
  cases p with
  | none => rw [show v = .none from h]; exact .none
  | some i => obtain ⟨t, rfl⟩ := h; exact .int i t

/-- what a slice picks -/
noncomputable def pick {α : Type} (xs : List α) (lo hi st : Option Int) : List α := (sliceRange (sliceBounds lo hi st xs.length).1 (sliceBounds lo hi st xs.length).2.1 (sliceBounds lo hi st xs.length).2.2).filterMap fun i => xs[i]?
theorem reps_filterMap {z : PM} {xs : List D} {vs : List Value} (h : Reps z xs vs) : ∀ is : List Nat, Reps z (is.filterMap fun i => xs[i]?) (is.filterMap fun i => vs[i]?)
  | [] => rfl
  | i :: r => by
    rw [List.filterMap_cons, List.filterMap_cons]
    cases e : xs[i]? with
    | none =>
      have : vs[i]? = none := by
        rw [List.getElem?_eq_none_iff] at e ⊢
        rw [h.length]; exact e
      rw [this]; exact reps_filterMap h r
    | some d =>
      obtain ⟨v, hv, hr⟩ := h.get e
      rw [hv]; exact Reps.cons hr (reps_filterMap h r)
theorem reps_pick {z : PM} {xs : List D} {vs : List Value} (h : Reps z xs vs) (lo hi st : Option Int) : Reps z (pick xs lo hi st) (slicePick vs.toArray lo hi st).toList := by
  unfold pick slicePick
  rw [List.size_toArray, h.length]
  have := reps_filterMap h (sliceRange (sliceBounds lo hi st xs.length).1 (sliceBounds lo hi st xs.length).2.1 (sliceBounds lo hi st xs.length).2.2)
  simpa using this

theorem E_sliceN {value : Expr} {lower upper : Option Expr} {p pos : Pos} {xs : List D} {lo hi : Option Int} (hv : EOk c ρ value (.list xs)) (hl : PtOk c ρ lower lo) (hu : PtOk c ρ upper hi) (hsz : xs.length ≤ sizeLine)
    (ht : ∀ o r, letTemporaryGo value o r = pure () := by intro _ _; rfl) : EOk c ρ (.Subscript value (.Slice lower upper none p) pos) (.list (pick xs lo hi none)) := by
  constructor
  intro o z R s Q E S K
  refine wpAny_Subscript_list_slice (hv.run o z R s _ _ S fun v1 z1 s1 le1 S1 r1 => hl.run o z1 R s1 _ _ S1 fun v2 z2 s2 le2 S2 r2 => hu.run o z2 R s2 _ _ S2 fun v3 z3 s3 le3 S3 r3 => ?_) ht
  obtain ⟨a, vs, n, rfl, ha, hr⟩ := Rep.mono (le2.trans le3).le _ r1
  refine ⟨a, vs.toArray, lo, hi, rfl, ⟨_, S3.zh _ _ ha, rfl, n, rfl⟩, by rw [List.size_toArray, hr.length]; exact hsz, part_is r2, part_is r3, ?_⟩
  obtain ⟨g1, g2, g3, g4⟩ := grow1 S3.zh (push_keeps s3.heap { cls := .type "slice", data := .fields #[v2, v3, .none] }) (LO (slicePick vs.toArray lo hi none).toList 0)
  rw [Heap.size_push] at g1 g2 g4
  exact K _ _ _ (le1.trans (le2.trans (le3.trans ⟨g1, g3⟩))) (S3.grow g3 g1 g2 g4) ⟨_, _, 0, rfl, PM.put_self _ _ _, Reps.mono g1 _ (reps_pick hr lo hi none)⟩

theorem E_sliceS {value st : Expr} {lower upper : Option Expr} {p pos : Pos} {xs : List D} {lo hi : Option Int} {k : Int} (hv : EOk c ρ value (.list xs)) (hl : PtOk c ρ lower lo) (hu : PtOk c ρ upper hi) (hk : EOk c ρ st (.int k)) (hk0 : k ≠ 0) (hsz : xs.length ≤ sizeLine)
    (ht : ∀ o r, letTemporaryGo value o r = pure () := by intro _ _; rfl) : EOk c ρ (.Subscript value (.Slice lower upper (some st) p) pos) (.list (pick xs lo hi (some k))) := by
  constructor
  intro o z R s Q E S K
  refine wpAny_Subscript_Slice_step (T := "list") list_getitem_lookup (hv.run o z R s _ _ S fun v1 z1 s1 le1 S1 r1 => wpAny_Slice (hl.run o z1 R s1 _ _ S1 fun v2 z2 s2 le2 S2 r2 => hu.run o z2 R s2 _ _ S2 fun v3 z3 s3 le3 S3 r3 => ?_)) ht
  rw [evalPart_some]
  refine hk.run o z3 R s3 _ _ S3 fun v4 z4 s4 le4 S4 r4 => ?_
  obtain ⟨a, vs, n, rfl, ha, hr⟩ := Rep.mono (le2.trans (le3.trans le4)).le _ r1
  obtain ⟨t, rfl⟩ := r4
  have hl4 : s4.heap.IsList a vs.toArray := ⟨_, S4.zh _ _ ha, rfl, n, rfl⟩
  refine ⟨(hl4.push _).typeIs, wpAny_getItem_list_slice (hl4.push _) (Heap.IsSliceOf.new ..) (part_is r2) (part_is r3) (.int k t) (fun e => hk0 (Option.some.inj e)) ?_ (by rw [List.size_toArray, hr.length]; exact hsz)⟩
  obtain ⟨g1, g2, g3, g4⟩ := grow1 S4.zh (push_keeps s4.heap { cls := .type "slice", data := .fields #[v2, v3, .int k t] }) (LO (slicePick vs.toArray lo hi (some k)).toList 0)
  exact K _ _ _ (le1.trans (le2.trans (le3.trans (le4.trans ⟨g1, g3⟩)))) (S4.grow g3 g1 g2 g4) ⟨_, _, 0, rfl, PM.put_self _ _ _, Reps.mono g1 _ (reps_pick hr lo hi (some k))⟩

theorem sliceRange_len (a b : Int) (n : Nat) (h : 0 ≤ a) (hb : b ≤ n) : (sliceRange a b 1).length ≤ n := sliceRange_length_le a b 1 n (fun _ => ⟨h, hb⟩) (fun h => absurd (by decide) h)
/-- x[:k] of a text -/
theorem E_sliceT {value : Expr} {upper : Expr} {p pos : Pos} {x : Str} {k : Nat} (hv : EOk c ρ value (.str x)) (hu : EOk c ρ upper (.int k)) (hsz : x.length ≤ sizeLine)
    (ht : ∀ o r, letTemporaryGo value o r = pure () := by intro _ _; rfl) : EOk c ρ (.Subscript value (.Slice none (some upper) none p) pos) (.str ⟨x.cps.extract 0 k⟩) := by
  constructor
  intro o z R s Q E S K
  refine wpAny_Subscript_str_slice (hv.run o z R s _ _ S fun v1 z1 s1 le1 S1 r1 => ?_) ht
  rw [evalPart_none, evalPart_some]
  refine wpAny_pure (hu.run o z1 R s1 _ _ S1 fun v2 z2 s2 le2 S2 r2 => ?_)
  obtain ⟨t, rfl⟩ := r1
  obtain ⟨u, rfl⟩ := r2
  refine ⟨x, t, none, some (k, u), rfl, rfl, rfl, ?_⟩
  have hp : slicePicked x none (some (k, u)) none = List.range (min k x.length) := by
    unfold slicePicked Builtin.Str.strSliceIndices
    simp only [Option.map_none, Option.map_some, Option.getD_none, show (1 : Int) > 0 by decide, if_true]
    have e : max 0 (min (if (k : Int) < 0 then (k : Int) + (x.length : Int) else (k : Int)) (x.length : Int)) = ((min k x.length : Nat) : Int) := by
      rw [if_neg (by omega)]; omega
    rw [e]
    have := sliceRange_one 0 (min k x.length)
    simpa using this
  have hx : (⟨((slicePicked x none (some (k, u)) none).filterMap (x.cps[·]?)).toArray⟩ : Str) = ⟨x.cps.extract 0 k⟩ := by
    rw [hp]
    congr 1
    apply Array.toList_inj.mp
    simp only [Array.toList_extract, Nat.sub_zero, List.drop_zero]
    have gen : ∀ (l : List Nat) (n : Nat), (List.range (min n l.length)).filterMap (l[·]?) = l.take n := by
      intro l n
      induction n generalizing l with
      | zero => simp
      | succ n ih =>
        cases l with
        | nil => simp
        | cons y r =>
          rw [List.take_succ_cons, ← ih r]
          rw [show min (n + 1) (y :: r).length = min n r.length + 1 by rw [List.length_cons]; omega, List.range_succ_eq_map, List.filterMap_cons]
          simp [List.filterMap_map, Function.comp_def]
    have := gen x.cps.toList k
    simpa [Str.length] using this
  unfold sliceMade
  have S3 := S2.temp (t := s2.toks) (push_keeps s2.heap { cls := .type "slice", data := .fields #[partValue none, partValue (some ((k : Int), u)), .none] })
  split
  · rename_i hc
    rw [Bool.and_eq_true, beq_iff_eq, beq_iff_eq] at hc
    have hlen := hc.2
    rw [hp, List.length_range] at hlen
    refine K _ z2 _ (le1.trans (le2.trans Ext.ps)) S3 ⟨t, ?_⟩
    rw [show x.length = x.cps.size from rfl] at hlen
    rw [Array.extract_eq_self_of_le (show x.cps.size ≤ k by omega)]
  · rw [hx]
    refine ⟨?_, ?_⟩
    · have : (x.cps.extract 0 k).size ≤ x.cps.size := by rw [Array.size_extract]; omega
      exact Nat.le_trans this hsz
    · exact K _ z2 _ (le1.trans (le2.trans Ext.ps)) (S3.tok _) ⟨_, rfl⟩

end Mine
end
/-! B7 -/
section
open PySem PySem.W PyProof.Rows PySem.Spec PySem.Calls
set_option maxRecDepth 100000
set_option maxHeartbeats 1000000
set_option linter.unusedVariables false
namespace Mine
variable {c : Cx} {ρ ρ' ρ₂ : Frame}

/-! tuple targets -/
structure GsOk (c : Cx) (ρ : Frame) (ts : List Expr) (ds : List D) (ρ' : Frame) : Prop where
  run : ∀ o z R s vs (Q : Unit → Shared → Prop) (E : Value → Shared → Prop), St c ρ o z R s → Reps z ds vs → (∀ s', St c ρ' o z R s' → Q () s') → wpAny (model prog c.w) c.A (assignInOrder ((assignEach ts c.env).map (·.2)) vs) Q E s
theorem Gs_nil : GsOk c ρ [] [] ρ := .mk fun o z R s vs Q E S h K => assignInOrder_nil (K s S)
theorem Gs_cons {t : Expr} {ts : List Expr} {d : D} {ds : List D} (h : GOk c ρ t d ρ') (h' : GsOk c ρ' ts ds ρ₂) (he : (assignEach (t :: ts) c.env).map (·.2) = assign t c.env :: (assignEach ts c.env).map (·.2) := by rfl) : GsOk c ρ (t :: ts) (d :: ds) ρ₂ := by
  constructor
  rintro o z R s vs Q E S ⟨v, r, rfl, hv, hr⟩ K
  rw [he]
  exact assignInOrder_cons (h.run o z R s v _ _ S hv fun s' S' => h'.run o z R s' r _ _ S' hr K)
theorem G_tup (ok : CxOk c) {ts : List Expr} {k tpos} {ds : List D} (h : GsOk c ρ ts ds ρ') (hn : (assignEach ts c.env).length = ds.length := by rfl) (hstar : (assignEach ts c.env).findIdx? (·.1) = none := by rfl) : GOk c ρ (.Tuple ts k tpos) (.tup ds) ρ' := by
  constructor
  rintro o z R s v Q E S ⟨a, vs, n, rfl, ha, hr⟩ K
  refine assign_Tuple_tuple ok.hnd (t := a) (items := vs.toArray) ⟨_, S.zh _ _ ha, rfl, n, rfl⟩ (by rw [List.size_toArray, hr.length]; exact hn) hstar fun h' he => ?_
  have hk : ∀ b o', s.heap.get? b = some o' → h'.get? b = some o' := fun b o' e => he b o' (Nat.ne_of_lt (Heap.lt_size e)) e
  exact h.run o z R _ vs _ _ (S.temp (t := s.toks) hk) hr K
theorem X_assignG {elts : List Expr} {k tpos} {value : Expr} {pos} {d : D} {P : Fl → Frame → Prop} (he : EOk c ρ value d) (hg : GOk c ρ (.Tuple elts k tpos) d ρ') (hP : P .next ρ')
    (hs : swapsWithSole [.Tuple elts k tpos] value pos.line c.env = pure false := by rfl) (hw : swappedStores [.Tuple elts k tpos] value c.env = pure none := by rfl) : XOk c ρ (.Assign [.Tuple elts k tpos] value pos) P :=
  .mk fun o z R s Q E S K => Assign_Tuple (he.run o z R s _ _ S fun v z1 s1 le1 S1 r1 => hg.run o z1 R s1 v _ _ S1 r1 fun s2 S2 => K .next ρ' o z1 s2 _ le1.le S2 rfl hP) hs hw
theorem X_assign3 {ρ₁ ρ₃ : Frame} {t1 t2 t3 value : Expr} {pos} {d : D} {P : Fl → Frame → Prop} (he : EOk c ρ value d) (h1 : GOk c ρ t1 d ρ₁) (h2 : GOk c ρ₁ t2 d ρ₂) (h3 : GOk c ρ₂ t3 d ρ₃) (hP : P .next ρ₃)
    (hh : (assignEach [t1, t2, t3] c.env).map (·.2) = [assign t1 c.env, assign t2 c.env, assign t3 c.env] := by rfl) (hw : swappedStores [t1, t2, t3] value c.env = pure none := by rfl) : XOk c ρ (.Assign [t1, t2, t3] value pos) P :=
  .mk fun o z R s Q E S K => wpAny_Assign_three (he.run o z R s _ _ S fun v z1 s1 le1 S1 r1 => h1.run o z1 R s1 v _ _ S1 r1 fun s2 S2 => h2.run o z1 R s2 v _ _ S2 r1 fun s3 S3 => h3.run o z1 R s3 v _ _ S3 r1 fun s4 S4 => K .next ρ₃ o z1 s4 _ le1.le S4 rfl hP) hh hw

/-! names read and stored at once -/
theorem load_name (ok : CxOk c) {x : Str} {d : D} (hx : (x, Slot.val d) ∈ ρ) {o : Str → Addr} {z R : PM} {s : Shared} {Q : Value → Shared → Prop} {E : Value → Shared → Prop} (S : St c ρ o z R s) (K : ∀ v, Rep z d v → Q v s) : wpAny (model prog c.w) c.A (loadName c.env x) Q E s := by
  obtain ⟨m, hn, hs⟩ := S.slots
  obtain ⟨v, hb, hr⟩ := hs _ hx
  rcases hb with ⟨hl, hv⟩ | ⟨hl, ca, hc, hv⟩
  · exact wpAny_loadName_local ok.kf hl hn hv (K v hr)
  · exact wpAny_loadName_cell ok.kf hl hc hv (K v hr)
structure IOpOk (c : Cx) (op : Operator) (d1 d2 d : D) : Prop where
  run : ∀ ρ o z R s v1 v2 (Q : Value → Shared → Prop) (E : Value → Shared → Prop), St c ρ o z R s → Rep z d1 v1 → Rep z d2 v2 → (∀ v z' s', Ext z s z' s' → St c ρ o z' R s' → Rep z' d v → Q v s') → wpAny (model prog c.w) c.A (inplaceOp op v1 v2) Q E s
theorem I_shl {a n : Int} (hn : 0 ≤ n) (hs : (Builtin.Int.intBits a : Int) + n ≤ 2 ^ 27) : IOpOk c .LShift (.int a) (.int n) (.int (a * 2 ^ n.toNat)) := by
  constructor
  rintro ρ o z R s v1 v2 Q E S ⟨t, rfl⟩ ⟨u, rfl⟩ K
  exact PyProof.Rows.ilshift_int hn hs (K _ z _ Ext.tk (S.tok _) ⟨_, rfl⟩)
theorem I_or {a b : Int} : IOpOk c .BitOr (.int a) (.int b) (.int (Builtin.bitOr a b)) := by
  constructor
  rintro ρ o z R s v1 v2 Q E S ⟨t, rfl⟩ ⟨u, rfl⟩ K
  exact PyProof.Rows.ior_int (K _ z _ Ext.tk (S.tok _) ⟨_, rfl⟩)
theorem X_aug (ok : CxOk c) {x : Str} {op : Operator} {value : Expr} {p pos} {d1 d2 d : D} {P : Fl → Frame → Prop} (hx : (x, Slot.val d1) ∈ ρ) (he : EOk c ρ value d2) (ho : IOpOk c op d1 d2 d) (hu : Put x (.val d) ρ ρ') (hP : P .next ρ') : XOk c ρ (.AugAssign (.Name x p) op value pos) P := by
  constructor
  intro o z R s Q E S K
  refine wpAny_AugAssign_Name (load_name ok hx S fun v1 r1 => he.run o z R s _ _ S fun v2 z2 s2 le2 S2 r2 => ?_)
  exact ho.run ρ o z2 R s2 v1 v2 _ _ S2 (Rep.mono le2.le _ r1) r2 fun v z3 s3 le3 S3 r3 => store_val ok S3 hu r3 fun s4 S4 _ => K .next ρ' o z3 s4 _ (le2.trans le3).le S4 rfl hP

/-! a list of one's own -/
theorem own_read (ok : CxOk c) {x : Str} {ds : List D} {pos} (hx : (x, Slot.own ds) ∈ ρ) {o : Str → Addr} {z R : PM} {s : Shared} {Q : Value → Shared → Prop} {E : Value → Shared → Prop} (S : St c ρ o z R s) (K : Q (.ref (o x)) s) : wpAny (model prog c.w) c.A (eval (.Name x pos) c.env) Q E s := by
  obtain ⟨m, hn, hs⟩ := S.slots
  obtain ⟨hl, hv, _⟩ := hs _ hx
  exact wpAny_Name (wpAny_loadName_local ok.kf hl hn hv K) (S.named _ hx).2
theorem own_at {x : Str} {ds : List D} (hx : (x, Slot.own ds) ∈ ρ) {o : Str → Addr} {z R : PM} {s : Shared} (S : St c ρ o z R s) : ∃ vs n, s.heap.get? (o x) = some (LO vs n) ∧ Reps z ds vs := by
  obtain ⟨m, hn, hs⟩ := S.slots
  exact (hs _ hx).2.2

theorem E_ownItem (ok : CxOk c) {x : Str} {i : Expr} {p pos} {ds : List D} {k : Int} {d : D} (hx : (x, Slot.own ds) ∈ ρ) (hi : EOk c ρ i (.int k)) (h0 : 0 ≤ k) (h63 : k < 2 ^ 63) (hd : ds[k.toNat]? = some d)
    (hs : ∀ o' i', subscripted i false o' i' = operate [o', i'] (getItem o' i') := by intro _ _; rfl) : EOk c ρ (.Subscript (.Name x p) i pos) d := by
  constructor
  intro o z R s Q E S K
  refine Subscript_ (own_read ok hx S (hi.run o z R s _ _ S fun v2 z2 s2 le2 S2 r2 => ?_))
  obtain ⟨t, rfl⟩ := r2
  obtain ⟨vs, n, ha, hr⟩ := own_at hx S2
  obtain ⟨v, hv, hrv⟩ := hr.get hd
  have hl : s2.heap.IsList (o x) vs.toArray := ⟨_, ha, rfl, n, rfl⟩
  exact tail_any hl.typeIs slot_list_getitem.lookup (wpAny_getItem_list hl h0 h63 (by rw [List.getElem?_toArray]; exact hv) (K v z2 s2 le2 S2 hrv)) (hs _ _)
theorem E_ownLen (ok : CxOk c) {func : Expr} {x : Str} {p pos} {ds : List D} (hf : EOk c ρ func (.val (.builtin "len"))) (hx : (x, Slot.own ds) ∈ ρ) (hsz : ds.length ≤ sizeLine)
    (hcall : ∀ env, eval (.Call func [.Name x p] [] pos) env = (do callWith pos (← eval func env) [] (backTo pos (starEach [.Name x p] env)) (backToKw pos (keywordEach [] env))) := by intro _; rfl) : EOk c ρ (.Call func [.Name x p] [] pos) (.int ds.length) := by
  constructor
  intro o z R s Q E S K
  refine Call_ (hf.run o z R s _ _ S fun v z1 s1 le1 S1 r1 => ?_) (hcall _)
  rw [show v = .builtin "len" from r1]
  refine PyProof.Rows.callWith_builtin1 (spliced_more (own_read ok hx S1 (spliced_none ?_)))
  obtain ⟨vs, n, ha, hr⟩ := own_at hx S1
  have hlen : vs.toArray.size = ds.length := by rw [List.size_toArray, hr.length]
  refine call_len_list ⟨_, ha, rfl, n, rfl⟩ (by rw [hlen]; have := sizeLine_eq; omega) ?_
  rw [hlen]
  exact K _ z1 _ (le1.trans Ext.tk) (S1.tok _) ⟨_, rfl⟩
theorem N_addL {x : Str} {p : Pos} {r : Expr} {pos} {ds es : List D} (ok : CxOk c) (hx : (x, Slot.own ds) ∈ ρ) (hr : EOk c ρ r (.list es)) (hsz : ds.length + es.length ≤ sizeLine) : NOk c ρ (.BinOp (.Name x p) .Add r pos) (ds ++ es) := by
  constructor
  intro o z R s Q E S K
  refine wpAny_BinOp (own_read ok hx S (hr.run o z R s _ _ S fun v2 z2 s2 le2 S2 r2 => ?_))
  obtain ⟨b, ws, n2, rfl, hb, hws⟩ := r2
  obtain ⟨vs, n, ha, hvs⟩ := own_at hx S2
  have hn := get_size_none s2.heap
  refine P.add_list (n := n) (n2 := n2) ha (S2.zh _ _ hb) ?_ (by rw [List.size_toArray, List.size_toArray, hvs.length, hws.length]; exact hsz)
  have e : (vs.toArray ++ ws.toArray) = (vs ++ ws).toArray := by simp
  rw [e]
  exact K _ (vs ++ ws) 0 z2 _ (le2.trans Ext.ps) (S2.temp (push_keeps _ _)) (Heap.get?_push_size _ rfl) (Reps.append hvs hws) (S2.znew hn) (S2.rnew hn) (priv_new S2 hn)
theorem N_add {l r : Expr} {pos} {ds es : List D} (hl : EOk c ρ l (.list ds)) (hr : EOk c ρ r (.list es)) (hsz : ds.length + es.length ≤ sizeLine) : NOk c ρ (.BinOp l .Add r pos) (ds ++ es) := by
  constructor
  intro o z R s Q E S K
  refine wpAny_BinOp (hl.run o z R s _ _ S fun v1 z1 s1 le1 S1 r1 => hr.run o z1 R s1 _ _ S1 fun v2 z2 s2 le2 S2 r2 => ?_)
  obtain ⟨a, vs, n, rfl, ha, hvs⟩ := Rep.mono le2.le _ r1
  obtain ⟨b, ws, n2, rfl, hb, hws⟩ := r2
  have hn := get_size_none s2.heap
  refine P.add_list (n := n) (n2 := n2) (S2.zh _ _ ha) (S2.zh _ _ hb) ?_ (by rw [List.size_toArray, List.size_toArray, hvs.length, hws.length]; exact hsz)
  have e : (vs.toArray ++ ws.toArray) = (vs ++ ws).toArray := by simp
  rw [e]
  exact K _ (vs ++ ws) 0 z2 _ (le1.trans (le2.trans Ext.ps)) (S2.temp (push_keeps _ _)) (Heap.get?_push_size _ rfl) (Reps.append hvs hws) (S2.znew hn) (S2.rnew hn) (priv_new S2 hn)

/-- the frame behind a change of the own list's slot -/
theorem store_own (ok : CxOk c) {o : Str → Addr} {z R : PM} {s : Shared} {x : Str} {ds : List D} {a : Addr} {vs : List Value} {n : Nat} {Q : Unit → Shared → Prop} {E : Value → Shared → Prop}
    (S : St c ρ o z R s) (hu : Put x (.own ds) ρ ρ') (hkl : c.env.kindOf x = some .local) (ha : s.heap.get? a = some (LO vs n)) (hr : Reps z ds vs) (hz : z a = none) (hR : R a = none) (hp : ¬ Priv c ρ o a)
    (K : ∀ o' s', St c ρ' o' z R s' → Q () s') : wpAny (model prog c.w) c.A (storeName c.env x (.ref a)) Q E s := by
  obtain ⟨m, hn, hs⟩ := S.slots
  obtain ⟨old, hold⟩ := hu.mem.2
  have hof := hu.of S.nodup
  refine wpAny_storeName_local hkl hn (fun h' hn' hs' => K (fun y => if y = x then a else o y) _ ?_) (kind_ok ok)
  have hL := (S.sep _ .loc).1
  have hLR := (S.sep _ .loc).2
  have haL : a ≠ c.env.locals := fun e => hp (e ▸ .loc)
  have hpriv : ∀ b, Priv c ρ' (fun y => if y = x then a else o y) b → b = a ∨ Priv c ρ o b := fun b h => by
    cases h with
    | loc => exact .inr .loc
    | cell h => exact .inr (.cell h)
    | own h =>
      rename_i y dy
      rcases hof _ h with e | ⟨h, hne⟩
      · cases e; exact .inl (if_pos rfl)
      · right; (try dsimp only); rw [if_neg hne]; exact .own h
  exact {
    zh := fun b q e => (hs'.2 b (fun q => by rw [q, hL] at e; cases e)).trans (S.zh b q e)
    rh := fun b q e => (hs'.2 b (fun q => by rw [q, hLR] at e; cases e)).trans (S.rh b q e)
    bz := S.bz
    zr := S.zr
    gs := S.gs
    ds := S.ds
    oss := S.oss
    nodup := by rw [hu.names]; exact S.nodup
    named := fun p hp => by
      rcases hof p hp with e | ⟨h, _⟩
      · rw [e]; exact (show Named c x ∧ (x == ("__debug__" : Str)) = false from S.named (x, old) hold)
      · exact S.named _ h
    sep := fun b h => (hpriv b h).elim (fun e => e ▸ ⟨hz, hR⟩) (S.sep b)
    cellL := fun p hp => ⟨(S.cellL p hp).1, let ⟨v, q⟩ := (S.cellL p hp).2; ⟨v, q.sameBut hs' (S.cellL p hp).1⟩⟩
    cellD := S.cellD
    ownL := fun y dy h => by
      rcases hof _ h with e | ⟨h, hne⟩
      · cases e; (try dsimp only); rw [if_pos rfl]; exact ⟨haL, fun p hm e => hp (e ▸ .cell (x := p.1) hm)⟩
      · (try dsimp only); rw [if_neg hne]; exact S.ownL y dy h
    ownD := fun y y' dy dy' h h' hne => by
      rcases hof _ h with e | ⟨h, hy⟩ <;> rcases hof _ h' with e' | ⟨h', hy'⟩
      · cases e; cases e'; exact absurd rfl hne
      · cases e
        (try dsimp only); rw [if_pos rfl, if_neg hy']; exact fun e => hp (e ▸ .own h')
      · cases e'
        (try dsimp only); rw [if_pos rfl, if_neg hy]; exact fun e => hp (e ▸ .own h)
      · (try dsimp only); rw [if_neg hy, if_neg hy']; exact S.ownD y y' dy dy' h h' hne
    slots := ⟨_, hn', fun p hp' => by
      rcases hof p hp' with e | ⟨h, hne⟩
      · rw [e]
        refine ⟨hkl, ?_, vs, n, ?_, hr⟩
        · (try dsimp only); rw [if_pos rfl, if_pos rfl]
        · (try dsimp only); rw [if_pos rfl]; exact (hs'.2 a haL).trans ha
      · have hold := hs p h
        obtain ⟨y, sl⟩ := p
        cases sl with
        | no => trivial
        | val d' =>
          obtain ⟨v', hb, hr'⟩ := hold
          refine ⟨v', ?_, hr'⟩
          rcases hb with ⟨a1, a2⟩ | ⟨a1, ca', a2, a3⟩
          · exact .inl ⟨a1, (if_neg hne).trans a2⟩
          · exact .inr ⟨a1, ca', a2, a3.sameBut hs' (S.cellL _ (mem_of_lookup a2)).1⟩
        | own ds' =>
          obtain ⟨a1, a2, vs', n', a3, a4⟩ := hold
          refine ⟨a1, ?_, vs', n', ?_, a4⟩
          · (try dsimp only); rw [if_neg hne, if_neg hne]; exact a2
          · (try dsimp only); rw [if_neg hne]; exact (hs'.2 _ (S.ownL y ds' h).1).trans a3⟩ }
theorem X_assignN (ok : CxOk c) {x : Str} {ds : List D} {value : Expr} {p pos} {P : Fl → Frame → Prop} (he : NOk c ρ value ds) (hu : Put x (.own ds) ρ ρ') (hkl : c.env.kindOf x = some .local) (hP : P .next ρ')
    (hs : swapsWith value (some (.Name x p)) pos.line c.env = pure false := by rfl) : XOk c ρ (.Assign [.Name x p] value pos) P :=
  .mk fun o z R s Q E S K => wpAny_Assign_Name (he.run o z R s _ _ S fun a vs n z1 s1 le1 S1 ha hr hz hR hp => store_own ok S1 hu hkl ha hr hz hR hp fun o2 s2 S2 => K .next ρ' o2 z1 s2 _ le1.le S2 rfl hP) hs

/-- the own list's object has been changed in place -/
theorem St.own_set {o : Str → Addr} {z R : PM} {s : Shared} {x : Str} {ds ds' : List D} {vs : List Value} {n : Nat} {h' : Heap} {t : Nat} (S : St c ρ o z R s) (hx : (x, Slot.own ds) ∈ ρ) (hu : Put x (.own ds') ρ ρ') (hs : Heap.SameBut (o x) s.heap h')
    (ha : h'.get? (o x) = some (LO vs n)) (hr : Reps z ds' vs) : St c ρ' o z R { s with heap := h', toks := t } := by
  have hof := hu.of S.nodup
  have hox : Priv c ρ o (o x) := .own hx
  have hz := (S.sep _ hox).1
  have hR := (S.sep _ hox).2
  have hpriv : ∀ b, Priv c ρ' o b → Priv c ρ o b := fun b h => by
    cases h with
    | loc => exact .loc
    | cell h => exact .cell h
    | own h => rcases hof _ h with e | ⟨h, _⟩
               · cases e; exact hox
               · exact .own h
  have hL := (S.ownL x ds hx).1
  exact {
    zh := fun a b e => (hs.2 a (fun q => by rw [q, hz] at e; cases e)).trans (S.zh a b e)
    rh := fun a b e => (hs.2 a (fun q => by rw [q, hR] at e; cases e)).trans (S.rh a b e)
    bz := S.bz
    zr := S.zr
    gs := S.gs
    ds := S.ds
    oss := S.oss
    nodup := by rw [hu.names]; exact S.nodup
    named := fun p hp => by
      rcases hof p hp with e | ⟨h, _⟩
      · rw [e]; exact (show Named c x ∧ (x == ("__debug__" : Str)) = false from S.named (x, .own ds) hx)
      · exact S.named _ h
    sep := fun a h => S.sep a (hpriv a h)
    cellL := fun p hp => ⟨(S.cellL p hp).1, let ⟨v, q⟩ := (S.cellL p hp).2; ⟨v, q.sameBut hs ((S.ownL x ds hx).2 p hp)⟩⟩
    cellD := S.cellD
    ownL := fun y dy h => by
      rcases hof _ h with e | ⟨h, _⟩
      · cases e; exact S.ownL x ds hx
      · exact S.ownL y dy h
    ownD := fun y y' dy dy' h h' hne => by
      have get : ∀ y dy, (y, Slot.own dy) ∈ ρ' → ∃ dy0, (y, Slot.own dy0) ∈ ρ := fun y dy h => by
        rcases hof _ h with e | ⟨h, _⟩
        · cases e; exact ⟨_, hx⟩
        · exact ⟨_, h⟩
      obtain ⟨_, g⟩ := get _ _ h
      obtain ⟨_, g'⟩ := get _ _ h'
      exact S.ownD y y' _ _ g g' hne
    slots := by
      obtain ⟨m, hn, hsl⟩ := S.slots
      refine ⟨m, hn.sameBut hs (Ne.symm hL), fun p hp' => ?_⟩
      rcases hof p hp' with e | ⟨h, hne⟩
      · rw [e]; obtain ⟨a1, a2, _⟩ := hsl _ hx; exact ⟨a1, a2, vs, n, ha, hr⟩
      · have hold := hsl p h
        obtain ⟨y, sl⟩ := p
        cases sl with
        | no => trivial
        | val d' =>
          obtain ⟨v', hb, hr'⟩ := hold
          refine ⟨v', ?_, hr'⟩
          rcases hb with ⟨a1, a2⟩ | ⟨a1, ca', a2, a3⟩
          · exact .inl ⟨a1, a2⟩
          · exact .inr ⟨a1, ca', a2, a3.sameBut hs ((S.ownL x ds hx).2 _ (mem_of_lookup a2))⟩
        | own ds2 =>
          obtain ⟨a1, a2, vs2, n2, a3, a4⟩ := hold
          exact ⟨a1, a2, vs2, n2, (hs.2 _ (S.ownD y x ds2 ds h hx hne)).trans a3, a4⟩ }

theorem X_append (ok : CxOk c) {x : Str} {ds : List D} {d : D} {e : Expr} {p ap p2 pos} {P : Fl → Frame → Prop} (hx : (x, Slot.own ds) ∈ ρ) (he : EOk c ρ e d) (hsz : ds.length ≤ sizeLine) (hu : Put x (.own (ds ++ [d])) ρ ρ') (hP : P .next ρ')
    (hse : starEach [e] c.env = (false, eval e c.env) :: starEach [] c.env := by rfl)
    (hme : eval (.Call (.Attribute (.Name x p) "append" ap) [e] [] p2) c.env = (do
      let ov ← eval (.Name x p) c.env
      standAt ap.atName
      let (f, first) ← holding [ov] (getMethod ov "append" (do return (← importBound (.Name x p) c.env).getD true))
      callWith p2 f first (backTo p2 (starEach [e] c.env)) []) := by rfl)
    (hi : interactive c.env = false := by rfl) (hsw : swapsWith (.Call (.Attribute (.Name x p) "append" ap) [e] [] p2) none pos.line c.env = pure false := by rfl) : XOk c ρ (.Expr (.Call (.Attribute (.Name x p) "append" ap) [e] [] p2) pos) P := by
  constructor
  intro o z R s Q E S K
  refine wpAny_Expr (MethodCall_ (pl := (do return (← importBound (.Name x p) c.env).getD true)) (own_read ok hx S ?_) hme) hi hsw
  obtain ⟨vs, n, ha, hr⟩ := own_at hx S
  refine getMethod_list_append ha rfl rfl ?_
  refine callWith_method1 (spliced_more (he.run o z R s _ _ S fun v z1 s1 le1 S1 r1 => spliced_none ?_) hse) hse
  obtain ⟨vs1, n1, ha1, hr1⟩ := own_at hx S1
  refine wpAny_list_append_plain (items := vs1.toArray) ⟨n1, ha1⟩ (fun h' hl hs => ?_) (by rw [List.size_toArray, hr1.length]; exact hsz)
  obtain ⟨n', hl'⟩ := hl
  have e' : vs1.toArray.push v = (vs1 ++ [v]).toArray := by simp
  rw [e'] at hl'
  exact K .next ρ' o z1 _ _ le1.le (S1.own_set (t := s1.toks) hx hu hs hl' (Reps.append hr1 (Reps.one r1))) rfl hP

/-- an own list is held fast -/
theorem X_freeze {x : Str} {ds : List D} {ss : List Stmt} {P : Fl → Frame → Prop} (hx : (x, Slot.own ds) ∈ ρ) (hu : Put x (.val (.list ds)) ρ ρ') (h : XsOk c ρ' ss P) : XsOk c ρ ss P := by
  constructor
  intro o z R s Q E S K
  obtain ⟨vs, n, ha, hr⟩ := own_at hx S
  have hox : Priv c ρ o (o x) := .own hx
  have hz := (S.sep _ hox).1
  have hR := (S.sep _ hox).2
  have hof := hu.of S.nodup
  have le : z.le (z.put (o x) (LO vs n)) := PM.le.put hz
  have hne : ∀ a, Priv c ρ' o a → Priv c ρ o a ∧ a ≠ o x := fun a h => by
    cases h with
    | loc => exact ⟨.loc, fun e => (S.ownL x ds hx).1 e.symm⟩
    | cell h => exact ⟨.cell h, fun e => (S.ownL x ds hx).2 _ h e⟩
    | own h => rcases hof _ h with e | ⟨h, hn⟩
               · cases e
               · exact ⟨.own h, S.ownD _ _ _ _ h hx hn⟩
  refine h.run o (z.put (o x) (LO vs n)) R s Q E ?_ fun fl ρ'' o'' z'' s'' f le' => K fl ρ'' o'' z'' s'' f (le.trans le')
  exact { S with
    zh := fun a b e => by
      unfold PM.put at e; split at e
      · rename_i q; cases e; subst q; exact ha
      · exact S.zh _ _ e
    bz := fun a b e => le _ _ (S.bz _ _ e)
    zr := fun a h => by
      unfold PM.put at h; split at h
      · rename_i q; subst q; exact hR
      · exact S.zr _ h
    nodup := by rw [hu.names]; exact S.nodup
    named := fun p hp => by
      rcases hof p hp with e | ⟨h, _⟩
      · rw [e]; exact (show Named c x ∧ (x == ("__debug__" : Str)) = false from S.named (x, .own ds) hx)
      · exact S.named _ h
    sep := fun a hp => by
      refine ⟨?_, (S.sep a (hne a hp).1).2⟩
      unfold PM.put; rw [if_neg (hne a hp).2]; exact (S.sep a (hne a hp).1).1
    ownL := fun y dy h => by
      rcases hof _ h with e | ⟨h, _⟩
      · cases e
      · exact S.ownL y dy h
    ownD := fun y y' dy dy' h h' => by
      rcases hof _ h with e | ⟨h, _⟩
      · cases e
      · rcases hof _ h' with e | ⟨h', _⟩
        · cases e
        · exact S.ownD y y' dy dy' h h'
    slots := by
      obtain ⟨m, hn, hsl⟩ := S.slots
      refine ⟨m, hn, fun p hp => ?_⟩
      rcases hof p hp with e | ⟨h, _⟩
      · rw [e]; obtain ⟨a1, a2, _⟩ := hsl _ hx
        exact ⟨_, .inl ⟨a1, a2⟩, o x, vs, n, rfl, PM.put_self _ _ _, Reps.mono le ds hr⟩
      · exact (hsl p h).mono (fun _ _ e => e) le }

end Mine
end
/-! B8 -/
section
open PySem PySem.W PyProof.Rows PySem.Spec PySem.Calls
set_option maxRecDepth 100000
set_option maxHeartbeats 1000000
set_option linter.unusedVariables false
namespace Mine
variable {c : Cx} {ρ ρ' ρ₂ : Frame}

/-! comprehensions -/
noncomputable def clOf (env : Env) : List (Str × NameKind) → List (Str × Addr) → List (Str × Addr)
  | [], acc => acc
  | (n, k) :: r, acc => if k == .free then clOf env r ((n, (env.cells.lookup n).getD 0) :: acc) else clOf env r acc
theorem closure_is {env : Env} : ∀ (names : List (Str × NameKind)) (acc : List (Str × Addr)), (∀ p ∈ names, p.2 = .free → ∃ a, env.cells.lookup p.1 = some a) →
    (forIn names acc fun (x : Str × NameKind) (cs : List (Str × Addr)) => (if x.2 == .free then do let a ← cellOf env x.1; pure (ForInStep.yield ((x.1, a) :: cs)) else pure (ForInStep.yield cs) : Sem (ForInStep (List (Str × Addr))))) = pure (clOf env names acc)
  | [], acc, _ => by rw [List.forIn_nil]; rfl
  | (n, k) :: r, acc, h => by
    rw [List.forIn_cons]
    unfold clOf
    by_cases hk : (k == NameKind.free) = true
    · obtain ⟨a, ha⟩ := h (n, k) List.mem_cons_self (by simpa using hk)
      dsimp only at ha ⊢
      rw [if_pos hk, if_pos hk, ha]
      have : cellOf env n = pure a := by unfold cellOf; rw [ha]
      rw [this]
      exact closure_is r _ fun p hp => h p (List.mem_cons_of_mem _ hp)
    · dsimp only
      rw [if_neg hk, if_neg hk]
      exact closure_is r _ fun p hp => h p (List.mem_cons_of_mem _ hp)
theorem closure_eq {scope : Scope} {env : Env} (h : ∀ p ∈ scope.names, p.2 = .free → ∃ a, env.cells.lookup p.1 = some a) : closureFor scope env = pure (clOf env scope.names []) := by
  rw [← closure_is scope.names [] h]
  unfold closureFor
  have e : ∀ (x : Str × NameKind) (cs : List (Str × Addr)), (match x with | (name, kind) => (if (kind == NameKind.free) = true then do let a ← cellOf env name; pure (ForInStep.yield ((name, a) :: cs)) else pure (ForInStep.yield cs) : Sem (ForInStep (List (Str × Addr))))) =
    (if x.2 == .free then do let a ← cellOf env x.1; pure (ForInStep.yield ((x.1, a) :: cs)) else pure (ForInStep.yield cs)) := fun x cs => by obtain ⟨n, k⟩ := x; rfl
  simp only [bind_pure]
theorem clOf_mem {env : Env} : ∀ (names : List (Str × NameKind)) (acc : List (Str × Addr)), (∀ p ∈ names, p.2 = .free → ∃ a, env.cells.lookup p.1 = some a) → ∀ n a, (n, a) ∈ clOf env names acc → (n, a) ∈ acc ∨ ((n, NameKind.free) ∈ names ∧ env.cells.lookup n = some a)
  | [], acc, _, n, a, h => .inl h
  | (x, k) :: r, acc, hf, n, a, h => by
    have hr := fun p hp => hf p (List.mem_cons_of_mem _ hp)
    unfold clOf at h
    split at h
    · rename_i hk
      have hk' : k = .free := by simpa using hk
      rcases clOf_mem r _ hr n a h with h | ⟨h, h'⟩
      · rcases List.mem_cons.mp h with e | h
        · cases e
          obtain ⟨b, hb⟩ := hf (x, k) List.mem_cons_self hk'
          exact .inr ⟨by rw [hk']; exact List.mem_cons_self, by rw [show List.lookup x env.cells = some b from hb]; rfl⟩
        · exact .inl h
      · exact .inr ⟨List.mem_cons_of_mem _ h, h'⟩
    · rcases clOf_mem r _ hr n a h with h | ⟨h, h'⟩
      · exact .inl h
      · exact .inr ⟨List.mem_cons_of_mem _ h, h'⟩
theorem clOf_has {env : Env} : ∀ (names : List (Str × NameKind)) (acc : List (Str × Addr)) (n : Str), ((n, NameKind.free) ∈ names ∨ n ∈ acc.map (·.1)) → n ∈ (clOf env names acc).map (·.1)
  | [], acc, n, h => by
    rcases h with h | h
    · cases h
    · exact h
  | (x, k) :: r, acc, n, h => by
    unfold clOf
    split
    · refine clOf_has r _ n ?_
      rcases h with h | h
      · rcases List.mem_cons.mp h with e | h
        · cases e; exact .inr (by simp)
        · exact .inl h
      · exact .inr (by rw [List.map_cons]; exact List.mem_cons_of_mem _ h)
    · rename_i hk
      refine clOf_has r _ n ?_
      rcases h with h | h
      · rcases List.mem_cons.mp h with e | h
        · cases e; exact absurd (by rfl) hk
        · exact .inl h
      · exact .inr h
theorem clOf_names {env : Env} : ∀ (names : List (Str × NameKind)) (acc : List (Str × Addr)), (names.map (·.1)).Nodup → (acc.map (·.1)).Nodup → (∀ n ∈ acc.map (·.1), n ∉ names.map (·.1)) → ((clOf env names acc).map (·.1)).Nodup
  | [], acc, _, h, _ => h
  | (x, k) :: r, acc, h, h', hd => by
    rw [List.map_cons, List.nodup_cons] at h
    unfold clOf
    split
    · refine clOf_names r _ h.2 ?_ ?_
      · rw [List.map_cons, List.nodup_cons]; exact ⟨fun hm => hd x hm (by simp), h'⟩
      · intro n hn
        rw [List.map_cons] at hn
        rcases List.mem_cons.mp hn with e | hn
        · rw [e]; exact h.1
        · exact fun hm => hd n hn (by rw [List.map_cons]; exact List.mem_cons_of_mem _ hm)
    · exact clOf_names r _ h.2 h' fun n hn hm => hd n hn (by rw [List.map_cons]; exact List.mem_cons_of_mem _ hm)

theorem relabel_lookup {env : Env} : ∀ {names : List (Str × NameKind)} {x : Str} {k : NameKind}, names.lookup x = some k →
    (names.map fun (n, k) => if (k == NameKind.free && env.scope.kind == .function && env.kindOf n == some .cell) then (n, NameKind.cell) else (n, k)).lookup x = some (if (k == NameKind.free && env.scope.kind == .function && env.kindOf x == some .cell) = true then NameKind.cell else k)
  | [], _, _, h => by simp at h
  | (n, k') :: r, x, k, h => by
    have ih := @relabel_lookup env r x k
    show List.lookup x ((if (k' == NameKind.free && env.scope.kind == .function && env.kindOf n == some .cell) = true then (n, NameKind.cell) else (n, k')) :: _) = _
    cases hx : x == n with
    | true =>
      simp only [List.lookup_cons, hx] at h
      cases h
      have e : x = n := beq_iff_eq.mp hx
      subst e
      by_cases hc : (k' == NameKind.free && env.scope.kind == .function && env.kindOf x == some .cell) = true
      · rw [if_pos hc, if_pos hc]; simp [List.lookup_cons]
      · rw [if_neg hc, if_neg hc]; simp [List.lookup_cons]
    | false =>
      simp only [List.lookup_cons, hx] at h
      by_cases hc : (k' == NameKind.free && env.scope.kind == .function && env.kindOf n == some .cell) = true
      · rw [if_pos hc]; simp only [List.lookup_cons, hx]; exact ih h
      · rw [if_neg hc]; simp only [List.lookup_cons, hx]; exact ih h

/-- what a comprehension's own frame is: its names, and those that it looks through -/
structure KidOk (c : Cx) (ρ : Frame) (scope : Scope) (own : List Str) (caps : List (Str × D)) : Prop where
  kind : scope.kind = .function
  nocell : ∀ x ∈ scope.names, x.2 ≠ .cell
  nodup : (scope.names.map (·.1)).Nodup
  ownk : ∀ x ∈ own, scope.names.lookup x = some .local ∧ (x == ("__debug__" : Str)) = false
  fnodup : (own ++ caps.map (·.1)).Nodup
  capk : ∀ p ∈ caps, c.env.kindOf p.1 = some .cell ∧ scope.names.lookup p.1 = some .free
  capm : ∀ p ∈ caps, (p.1, Slot.val p.2) ∈ ρ
  all : ∀ n, (n, NameKind.free) ∈ scope.names → n ∈ caps.map (·.1)
noncomputable def kidF (own : List Str) (caps : List (Str × D)) : Frame := own.map (fun x => (x, Slot.no)) ++ caps.map (fun p => (p.1, Slot.val p.2))
noncomputable def kidC (c : Cx) (scope : Scope) (C : Addr) : Cx := { c with env := compEnvC scope (clOf c.env scope.names []) C c.env }

structure IsKid (c : Cx) (scope : Scope) (c' : Cx) : Prop where
  ok : CxOk c'
  w : c'.w = c.w
  h0 : c'.h0 = c.h0
  A : c'.A = c.A
  kind : ∀ x k, scope.names.lookup x = some k → k ≠ .free → c'.env.kindOf x = some k
  sck : c'.env.scope.kind = .function

theorem kid_is (ok : CxOk c) {scope : Scope} (hk : scope.kind = .function) (C : Addr) : IsKid c scope (kidC c scope C) where
  ok := ⟨ok.hnd, ok.un, hk, ok.gl, ok.bl, ok.K, ok.T⟩
  w := rfl
  h0 := rfl
  A := rfl
  kind := fun x k h hne => by
    show (relabel scope c.env).names.lookup x = some k
    have := relabel_lookup (env := c.env) h
    have hb : (k == NameKind.free) = false := by simpa using hne
    rw [hb, Bool.false_and, Bool.false_and, if_neg (by decide)] at this
    exact this
  sck := hk

theorem kid_cell (ok : CxOk c) {scope : Scope} {C : Addr} {x : Str} (h1 : c.env.kindOf x = some .cell) (h2 : scope.names.lookup x = some .free) : (kidC c scope C).env.kindOf x = some .cell :=
  (relabel_lookup (env := c.env) h2).trans (congrArg some (if_pos (by rw [h1, ok.kf]; rfl)))
theorem nodup_val {β : Type} : ∀ {l : List (Str × β)} {y : Str} {a b : β}, (l.map (·.1)).Nodup → (y, a) ∈ l → (y, b) ∈ l → a = b
  | (x, v) :: r, y, a, b, hn, ha, hb => by
    rw [List.map_cons, List.nodup_cons] at hn
    rcases List.mem_cons.mp ha with e | ha <;> rcases List.mem_cons.mp hb with e' | hb
    · cases e; cases e'; rfl
    · cases e; exact absurd (List.mem_map_of_mem (f := (·.1)) hb) hn.1
    · cases e'; exact absurd (List.mem_map_of_mem (f := (·.1)) ha) hn.1
    · exact nodup_val hn.2 ha hb

theorem kidF_mem {own : List Str} {caps : List (Str × D)} {p : Str × Slot} (h : p ∈ kidF own caps) : (∃ x ∈ own, p = (x, .no)) ∨ ∃ q ∈ caps, p = (q.1, .val q.2) := by
  rcases List.mem_append.mp h with h | h
  · obtain ⟨x, hx, rfl⟩ := List.mem_map.mp h; exact .inl ⟨x, hx, rfl⟩
  · obtain ⟨q, hq, rfl⟩ := List.mem_map.mp h; exact .inr ⟨q, hq, rfl⟩

noncomputable def restOf (z : PM) (C : Addr) (cl : List (Str × Addr)) (h : Heap) : PM := fun a => if ((z a).isNone && !(a == C) && cl.all fun p => !(p.2 == a)) = true then h.get? a else none

theorem cl_free (ok : CxOk c) {scope : Scope} {own caps} (KO : KidOk c ρ scope own caps) {o z R s} (S : St c ρ o z R s) : ∀ p ∈ scope.names, p.2 = .free → ∃ a, c.env.cells.lookup p.1 = some a := by
  intro p hp hf
  obtain ⟨n, k⟩ := p
  obtain rfl : k = .free := hf
  obtain ⟨q, hq, e⟩ := List.mem_map.mp (KO.all n hp)
  have hk := (KO.capk q hq).1
  rw [e] at hk
  obtain ⟨hN, _⟩ := S.named _ (KO.capm q hq)
  rcases hN with h | ⟨_, h⟩
  · rw [show c.env.kindOf q.1 = some .cell from (KO.capk q hq).1] at h; cases h
  · rw [show (q.1, Slot.val q.2).1 = n from e] at h; exact h

theorem kid_st (ok : CxOk c) {scope : Scope} {own : List Str} {caps : List (Str × D)} (KO : KidOk c ρ scope own caps) {o : Str → Addr} {z R : PM} {s : Shared} (S : St c ρ o z R s) {C : Addr} {m : Str → Option Value} (hn : s.heap.Ns C m) (hz : z C = none) (hp : ¬ Priv c ρ o C) :
    St (kidC c scope C) (kidF own caps) o z (restOf z C (clOf c.env scope.names []) s.heap) s := by
  have hfree := cl_free ok KO S
  have hcl : ∀ n a, (n, a) ∈ clOf c.env scope.names [] → (n, NameKind.free) ∈ scope.names ∧ c.env.cells.lookup n = some a := fun n a h => by
    rcases clOf_mem scope.names [] hfree n a h with h | h
    · cases h
    · exact h
  have hcn : ((clOf c.env scope.names []).map (·.1)).Nodup := clOf_names _ _ KO.nodup List.nodup_nil (fun n h => by cases h)
  have hnd : (kidF own caps).map (·.1) = own ++ caps.map (·.1) := by simp [kidF, List.map_append, Function.comp_def]
  exact {
    zh := S.zh
    rh := fun a b e => by unfold restOf at e; split at e; exact e; cases e
    bz := S.bz
    zr := fun a h => by
      unfold restOf
      rw [if_neg]
      intro hb
      rw [Bool.and_eq_true, Bool.and_eq_true] at hb
      exact h (Option.isNone_iff_eq_none.mp hb.1.1)
    gs := S.gs
    ds := S.ds
    oss := S.oss
    nodup := by rw [hnd]; exact KO.fnodup
    named := fun p hp' => by
      rcases kidF_mem hp' with ⟨x, hx, rfl⟩ | ⟨q, hq, rfl⟩
      · exact ⟨.inl ((kid_is ok KO.kind C).kind _ _ (KO.ownk x hx).1 (by decide)), (KO.ownk x hx).2⟩
      · refine ⟨.inr ⟨?_, ?_⟩, (S.named _ (KO.capm q hq)).2⟩
        · exact kid_cell ok (KO.capk q hq).1 (KO.capk q hq).2
        · have hm := clOf_has (env := c.env) scope.names [] q.1 (.inl (mem_of_lookup (KO.capk q hq).2))
          obtain ⟨r, hr, e⟩ := List.mem_map.mp hm
          exact ⟨r.2, lookup_of_mem hcn (by rw [← e]; exact hr)⟩
    sep := fun a h => by
      cases h with
      | loc => exact ⟨hz, by unfold restOf; rw [if_neg]; intro hb; simp at hb; exact hb.1.2 rfl⟩
      | cell hm =>
        have hpr : Priv c ρ o a := .cell (mem_of_lookup (hcl _ _ hm).2)
        refine ⟨(S.sep a hpr).1, ?_⟩
        unfold restOf
        rw [if_neg]
        intro hb
        rw [Bool.and_eq_true] at hb
        have := List.all_eq_true.mp hb.2 _ hm
        simp at this
      | own hm => rcases kidF_mem hm with ⟨_, _, e⟩ | ⟨_, _, e⟩ <;> cases e
    cellL := fun p hm => by
      have hl := (hcl p.1 p.2 hm).2
      exact ⟨fun (e : p.2 = C) => hp (e ▸ .cell (mem_of_lookup hl)), (S.cellL _ (mem_of_lookup hl)).2⟩
    cellD := by
      have h1 : (clOf c.env scope.names []).Pairwise fun x y => x.1 ≠ y.1 := by
        have := hcn; rw [List.Nodup, List.pairwise_map] at this; exact this
      exact h1.imp_of_mem fun {x y} hx hy hne e => hne (mem_lookup S.cellD (hcl x.1 x.2 hx).2 (by rw [e]; exact (hcl y.1 y.2 hy).2))
    ownL := fun x dx h => by rcases kidF_mem h with ⟨_, _, e⟩ | ⟨_, _, e⟩ <;> cases e
    ownD := fun x y dx dy h => by rcases kidF_mem h with ⟨_, _, e⟩ | ⟨_, _, e⟩ <;> cases e
    slots := ⟨m, hn, fun p hp' => by
      rcases kidF_mem hp' with ⟨x, hx, rfl⟩ | ⟨q, hq, rfl⟩
      · trivial
      · obtain ⟨m0, _, hs⟩ := S.slots
        obtain ⟨v, hb, hr⟩ := hs _ (KO.capm q hq)
        refine ⟨v, .inr ?_, hr⟩
        rcases hb with ⟨h, _⟩ | ⟨_, ca, h2, h3⟩
        · rw [show c.env.kindOf (q.1, Slot.val q.2).1 = some .cell from (KO.capk q hq).1] at h; cases h
        · refine ⟨?_, ca, ?_, h3⟩
          · exact kid_cell ok (KO.capk q hq).1 (KO.capk q hq).2
          · have hm := clOf_has (env := c.env) scope.names [] q.1 (.inl (mem_of_lookup (KO.capk q hq).2))
            obtain ⟨r, hr', e⟩ := List.mem_map.mp hm
            have h5 := (hcl r.1 r.2 hr').2
            rw [e] at h5
            rw [show List.lookup q.1 c.env.cells = some ca from h2] at h5
            have h6 : (q.1, ca) ∈ clOf c.env scope.names [] := by cases h5; rw [← e]; exact hr'
            exact lookup_of_mem hcn h6⟩ }

/-- back to the outer frame: what stood stands, the looked-through names too -/
theorem kid_back (ok : CxOk c) {scope : Scope} {own : List Str} {caps : List (Str × D)} (KO : KidOk c ρ scope own caps) {o o' : Str → Addr} {z z' R : PM} {s s' : Shared} (S : St c ρ o z R s) {C : Addr} {ρd : Frame} (hzC : z C = none) (hRC : R C = none) (hp : ¬ Priv c ρ o C) (le : z.le z')
    (S' : St (kidC c scope C) ρd o' z' (restOf z C (clOf c.env scope.names []) s.heap) s') (hcap : ∀ q ∈ caps, (q.1, Slot.val q.2) ∈ ρd) :
    St c ρ o z' R s' ∧ (∀ a b, z a = none → a ≠ C → ¬ Priv c ρ o a → s.heap.get? a = some b → s'.heap.get? a = some b) ∧ (∀ a, z' a ≠ none → z a ≠ none ∨ s.heap.get? a = none) ∧ (∃ m, s'.heap.Ns C m) ∧ z' C = none := by
  have hfree := cl_free ok KO S
  have hcl : ∀ n a, (n, a) ∈ clOf c.env scope.names [] → (n, NameKind.free) ∈ scope.names ∧ c.env.cells.lookup n = some a := fun n a h => by
    rcases clOf_mem scope.names [] hfree n a h with h | h
    · cases h
    · exact h
  have hcn : ((clOf c.env scope.names []).map (·.1)).Nodup := clOf_names _ _ KO.nodup List.nodup_nil (fun n h => by cases h)
  have rest : ∀ a b, z a = none → a ≠ C → (∀ p ∈ clOf c.env scope.names [], p.2 ≠ a) → s.heap.get? a = some b → s'.heap.get? a = some b := fun a b h1 h2 h3 e => S'.rh a b (by
    unfold restOf
    rw [if_pos]
    · exact e
    · rw [Bool.and_eq_true, Bool.and_eq_true]
      exact ⟨⟨by rw [h1]; rfl, by simpa using h2⟩, List.all_eq_true.mpr fun p hp => by simpa using h3 p hp⟩)
  have fresh : ∀ a, z' a ≠ none → z a ≠ none ∨ s.heap.get? a = none := fun a h => by
    by_cases hz : z a = none
    · right
      cases e : s.heap.get? a with
      | none => rfl
      | some b =>
        exfalso
        by_cases h2 : a = C
        · exact h ((S'.sep a (h2 ▸ .loc)).1)
        · by_cases h3 : ∀ p ∈ clOf c.env scope.names [], p.2 ≠ a
          · have := S'.zr a h
            unfold restOf at this
            rw [if_pos, e] at this
            · cases this
            · rw [Bool.and_eq_true, Bool.and_eq_true]
              exact ⟨⟨by rw [hz]; rfl, by simpa using h2⟩, List.all_eq_true.mpr fun p hp => by simpa using h3 p hp⟩
          · obtain ⟨p, hp'⟩ := Classical.not_forall.mp h3
            obtain ⟨hp', hne⟩ := Classical.not_imp.mp hp'
            have e' : p.2 = a := Classical.not_not.mp hne
            exact h (S'.sep a (.cell (x := p.1) (show (p.1, a) ∈ clOf c.env scope.names [] by rw [← e']; exact hp'))).1
    · exact .inl hz
  have clPriv : ∀ p ∈ clOf c.env scope.names [], Priv c ρ o p.2 := fun p hp => .cell (mem_of_lookup (hcl p.1 p.2 hp).2)
  have zP : ∀ a, Priv c ρ o a → z' a = none := fun a hpa => by
    cases e : z' a with
    | none => rfl
    | some b =>
      rcases fresh a (by rw [e]; exact fun h => nomatch h) with h | h
      · exact absurd (S.sep a hpa).1 h
      · obtain ⟨b', e'⟩ := S.live hpa; rw [h] at e'; cases e'
  -- a private object that is no looked-through cell is kept
  have kept : ∀ a b, Priv c ρ o a → (∀ p ∈ clOf c.env scope.names [], p.2 ≠ a) → s.heap.get? a = some b → s'.heap.get? a = some b := fun a b hpa hno e => rest a b (S.sep a hpa).1 (fun h => hp (h ▸ hpa)) hno e
  obtain ⟨m0, hn0, hs0⟩ := S.slots
  have capOf : ∀ n ca, (n, ca) ∈ clOf c.env scope.names [] → ∃ q ∈ caps, q.1 = n := fun n ca h => by
    obtain ⟨q, hq, e⟩ := List.mem_map.mp (KO.all n (hcl n ca h).1)
    exact ⟨q, hq, e⟩
  have locNo : ∀ p ∈ clOf c.env scope.names [], p.2 ≠ c.env.locals := fun p hp' => (S.cellL _ (mem_of_lookup (hcl p.1 p.2 hp').2)).1
  refine ⟨?_, fun a b h1 h2 h3 e => rest a b h1 h2 (fun p hp' e' => h3 (e' ▸ clPriv p hp')) e, fresh, ?_, (S'.sep C .loc).1⟩
  · exact {
      zh := S'.zh
      rh := fun a b e => by
        refine rest a b ?_ (fun h => by rw [h, hRC] at e; cases e) (fun p hp' e' => ?_) (S.rh a b e)
        · cases q : z a with
          | none => rfl
          | some _ => have := S.zr a (by rw [q]; exact fun h => nomatch h); rw [this] at e; cases e
        · have := (S.sep _ (clPriv p hp')).2; rw [e'] at this; rw [this] at e; cases e
      bz := fun a b e => le _ _ (S.bz a b e)
      zr := fun a h => (fresh a h).elim (S.zr a) fun h => S.rnew h
      gs := S'.gs
      ds := S'.ds
      oss := S'.oss
      nodup := S.nodup
      named := S.named
      sep := fun a h => ⟨zP a h, (S.sep a h).2⟩
      cellL := fun p hm => by
        refine ⟨(S.cellL p hm).1, ?_⟩
        by_cases hin : ∀ q ∈ clOf c.env scope.names [], q.2 ≠ p.2
        · obtain ⟨v, ob, e, hd⟩ := (S.cellL p hm).2
          exact ⟨v, ob, kept _ _ (.cell (x := p.1) hm) hin e, hd⟩
        · obtain ⟨q, hq⟩ := Classical.not_forall.mp hin
          obtain ⟨hq, hne⟩ := Classical.not_imp.mp hq
          rw [← Classical.not_not.mp hne]; exact (S'.cellL q hq).2
      cellD := S.cellD
      ownL := S.ownL
      ownD := S.ownD
      slots := by
        refine ⟨m0, hn0.at' fun ob e => kept _ _ .loc locNo e, fun p hpm => ?_⟩
        have h0 := hs0 p hpm
        obtain ⟨y, sl⟩ := p
        cases sl with
        | no => trivial
        | own ds =>
          obtain ⟨a1, a2, vs, n, a3, a4⟩ := h0
          exact ⟨a1, a2, vs, n, kept _ _ (.own hpm) (fun q hq => (S.ownL y ds hpm).2 _ (mem_of_lookup (hcl q.1 q.2 hq).2)) a3, Reps.mono le ds a4⟩
        | val d =>
          obtain ⟨v, hb, hr⟩ := h0
          rcases hb with a | ⟨a1, ca, a2, ob, a3, a4⟩
          · exact ⟨v, .inl a, Rep.mono le d hr⟩
          · by_cases hin : ∀ q ∈ clOf c.env scope.names [], q.2 ≠ ca
            · exact ⟨v, .inr ⟨a1, ca, a2, ob, kept _ _ (.cell (mem_of_lookup a2)) hin a3, a4⟩, Rep.mono le d hr⟩
            · obtain ⟨q, hq⟩ := Classical.not_forall.mp hin
              obtain ⟨hq, hne⟩ := Classical.not_imp.mp hq
              have hqc : q.2 = ca := Classical.not_not.mp hne
              have hyq : q.1 = y := mem_lookup S.cellD (by rw [← hqc]; exact (hcl q.1 q.2 hq).2) a2
              obtain ⟨cp, hcp, ecp⟩ := capOf q.1 q.2 hq
              -- the slot in the kid's frame
              obtain ⟨m', _, hs'⟩ := S'.slots
              obtain ⟨v', hb', hr'⟩ := hs' _ (hcap cp hcp)
              have hd : cp.2 = d := by
                have h1 := KO.capm cp hcp
                have e1 : cp.1 = y := ecp.trans hyq
                rw [e1] at h1
                have := nodup_val S.nodup h1 hpm
                cases this; rfl
              rcases hb' with ⟨b1, _⟩ | ⟨_, ca', b2, b3⟩
              · rw [show (kidC c scope C).env.kindOf (cp.1, Slot.val cp.2).1 = some .cell from kid_cell ok (KO.capk cp hcp).1 (KO.capk cp hcp).2] at b1; cases b1
              · have e1 : cp.1 = y := ecp.trans hyq
                have e2 : ca' = ca := by
                  have := (hcl cp.1 ca' (mem_of_lookup b2)).2
                  rw [e1] at this
                  rw [show c.env.cells.lookup y = some ca from a2] at this; cases this; rfl
                subst e2
                exact ⟨v', .inr ⟨a1, ca', a2, b3⟩, hd ▸ hr'⟩ }
  · obtain ⟨m', hn', _⟩ := S'.slots
    exact ⟨m', hn'⟩

end Mine
end
/-! B9 -/
section
open PySem PySem.W PyProof.Rows PySem.Spec PySem.Calls
set_option maxRecDepth 100000
set_option maxHeartbeats 1000000
set_option linter.unusedVariables false
namespace Mine
variable {c : Cx} {ρ ρ' ρ₂ : Frame}

/-- targets that are plain locals -/
structure LOk (c : Cx) (ρ : Frame) (t : Expr) (d : D) (ρ' : Frame) : Prop where
  run : ∀ o z R s v (Q : Unit → Shared → Prop) (E : Value → Shared → Prop), St c ρ o z R s → Rep z d v → (∀ s', St c ρ' o z R s' → (∀ b o', b ≠ c.env.locals → s.heap.get? b = some o' → s'.heap.get? b = some o') → Q () s') → wpAny (model prog c.w) c.A (assign t c.env v) Q E s
theorem L_name (ok : CxOk c) {x : Str} {d : D} {p} (hk : c.env.kindOf x = some .local) (hu : Put x (.val d) ρ ρ') : LOk c ρ (.Name x p) d ρ' :=
  .mk fun o z R s v Q E S r K => wpAny_assign_Name (store_val ok S hu r fun s' S' h => K s' S' (h hk))
structure LsOk (c : Cx) (ρ : Frame) (ts : List Expr) (ds : List D) (ρ' : Frame) : Prop where
  run : ∀ o z R s vs (Q : Unit → Shared → Prop) (E : Value → Shared → Prop), St c ρ o z R s → Reps z ds vs → (∀ s', St c ρ' o z R s' → (∀ b o', b ≠ c.env.locals → s.heap.get? b = some o' → s'.heap.get? b = some o') → Q () s') → wpAny (model prog c.w) c.A (assignInOrder ((assignEach ts c.env).map (·.2)) vs) Q E s
theorem Ls_nil : LsOk c ρ [] [] ρ := .mk fun o z R s vs Q E S h K => assignInOrder_nil (K s S fun _ _ _ e => e)
theorem Ls_cons {t : Expr} {ts : List Expr} {d : D} {ds : List D} (h : LOk c ρ t d ρ') (h' : LsOk c ρ' ts ds ρ₂) (he : (assignEach (t :: ts) c.env).map (·.2) = assign t c.env :: (assignEach ts c.env).map (·.2) := by rfl) : LsOk c ρ (t :: ts) (d :: ds) ρ₂ := by
  constructor
  rintro o z R s vs Q E S ⟨v, r, rfl, hv, hr⟩ K
  rw [he]
  exact assignInOrder_cons (h.run o z R s v _ _ S hv fun s' S' k1 => h'.run o z R s' r _ _ S' hr fun s'' S'' k2 => K s'' S'' fun b o' hb e => k2 b o' hb (k1 b o' hb e))
theorem L_tup (ok : CxOk c) {ts : List Expr} {k tpos} {ds : List D} (h : LsOk c ρ ts ds ρ') (hn : (assignEach ts c.env).length = ds.length := by rfl) (hstar : (assignEach ts c.env).findIdx? (·.1) = none := by rfl) : LOk c ρ (.Tuple ts k tpos) (.tup ds) ρ' := by
  constructor
  rintro o z R s v Q E S ⟨a, vs, n, rfl, ha, hr⟩ K
  refine assign_Tuple_tuple ok.hnd (t := a) (items := vs.toArray) ⟨_, S.zh _ _ ha, rfl, n, rfl⟩ (by rw [List.size_toArray, hr.length]; exact hn) hstar fun h' he => ?_
  have hk : ∀ b o', s.heap.get? b = some o' → h'.get? b = some o' := fun b o' e => he b o' (Nat.ne_of_lt (Heap.lt_size e)) e
  exact h.run o z R _ vs _ _ (S.temp (t := s.toks) hk) hr fun s' S' k => K s' S' fun b o' hb e => k b o' hb (hk b o' e)

structure ElemOk (c' : Cx) (ρc : Frame) (target : Expr) (ifs : List Expr) (elt : Expr) (caps : List (Str × D)) (d : D) (out : Option D) : Prop where
  run : ∃ ρd, LOk c' ρc target d ρd ∧ (∀ q ∈ caps, (q.1, Slot.val q.2) ∈ ρd) ∧ match ifs with
    | [] => ∃ y, out = some y ∧ EOk c' ρd elt y
    | [t] => ∃ b, TOk c' ρd t b ∧ (b = true → ∃ y, out = some y ∧ EOk c' ρd elt y) ∧ (b = false → out = none)
    | _ => False

section
variable {w : World} {A : Around} {R : Result → Shared → Prop} {s : Shared}
theorem codeAny_compLoop_go {elt target iter : Expr} {ifs : List Expr} {scope : Scope} {pos : Pos} {it acc : Value} {env : Env} (I : Nat → Shared → Prop)
    (turn : ∀ n s, I n s → wpAny (model prog w) A (pyNext it) (fun r s₁ => match r with
      | none => R (.ok .next) s₁
      | some v => wpAny (model prog w) A (letOwnedTupleGo target it v) (fun _ s₁' => wpAny (model prog w) A (assign target env v) (fun _ s₂ =>
          wpAny (model prog w) A (forIn ifs true fun c r => if r = true then do let ok ← isTrue c env (eval c env); pure (ForInStep.yield ok) else pure (ForInStep.yield r)) (fun ok s₃ =>
            if ok = true then wpAny (model prog w) A (eval elt env) (fun x s₄ =>
              wpAny (model prog w) A (call (.builtin "list.append") [acc, x]) (fun _ s₅ => ∃ m, m < n ∧ I m s₅) (notedBy (model prog w) A env fun e s' => R (.error e) s') s₄) (notedBy (model prog w) A env fun e s' => R (.error e) s') s₃
            else ∃ m, m < n ∧ I m s₃) (notedBy (model prog w) A env fun e s' => R (.error e) s') s₂) (notedBy (model prog w) A env fun e s' => R (.error e) s') s₁') (notedBy (model prog w) A env fun e s' => R (.error e) s') s₁) (notedBy (model prog w) A env fun e s' => R (.error e) s') s)
    (n : Nat) (h : I n s) : codeAny (model prog w) A (.compLoop (.ListComp elt [⟨target, iter, ifs, 0⟩] scope pos) 0 it acc env) R s := by
  refine codeAny_loop rfl I (fun n s hI => ?_) n h
  show wpAny _ A ((compTurn (.ListComp elt [⟨target, iter, ifs, 0⟩] scope pos) 0 it acc env).onRaise (fun x => do noteFrame x env; theTreesLotGoes x)) _ _ s
  refine wpAny_noted ?_
  rw [compTurn_list]
  refine wpAny_bind (wpAny_standAt (wpAny_bind (wpAny_mono (turn n s hI) (fun r s₁ h₁ => ?_) fun _ _ h' => h')))
  cases r with
  | none => exact wpAny_pure h₁
  | some v =>
    refine wpAny_bind (wpAny_mono h₁ (fun _ s₁' h₁' => ?_) fun _ _ h' => h')
    refine wpAny_bind (wpAny_mono h₁' (fun _ s₂ h₂ => wpAny_bind (wpAny_mono h₂ (fun ok s₃ h₃ => ?_) fun _ _ h' => h')) fun _ _ h' => h')
    cases ok with
    | false => exact wpAny_pure ⟨rfl, h₃⟩
    | true =>
      exact wpAny_bind (wpAny_bind (wpAny_mono h₃ (fun x s₄ h₄ => wpAny_bind (wpAny_mono h₄ (fun _ s₅ h₅ => wpAny_pure (wpAny_pure ⟨rfl, h₅⟩)) fun _ _ h' => h')) fun _ _ h' => h'))
end

theorem take_step {α β : Type} (ds : List α) (f : α → Option β) {i : Nat} {d : α} (h : ds[i]? = some d) : (ds.take (i + 1)).filterMap f = (ds.take i).filterMap f ++ (f d).toList := by
  rw [List.take_add_one, h, List.filterMap_append]
  cases e : f d <;> simp [e]

/-- what stands at a comprehension's turn -/
structure CI (c : Cx) (ρ : Frame) (o : Str → Addr) (R z1 : PM) (h1 : Heap) (wr : List Addr) (Wst : Nat → Heap → Prop) (Da Ca : Addr) (res : Nat → List D) (N i : Nat) (zi : PM) (vs : List Value) (s' : Shared) : Prop where
  le : z1.le zi
  st : St c ρ o zi R s'
  ws : Wst i s'.heap
  hd : ∃ k, s'.heap.get? Da = some (LO vs k)
  rp : Reps zi (res i) vs
  ln : vs.length ≤ i * N
  ns : ∃ m, s'.heap.Ns Ca m
  zd : zi Da = none
  zc : zi Ca = none
  zw : ∀ b ∈ wr, zi b = none
  kp : ∀ b o', b ≠ Ca → b ≠ Da → b ∉ wr → h1.get? b = some o' → s'.heap.get? b = some o'
noncomputable def CIx (c : Cx) (ρ : Frame) (o : Str → Addr) (R z1 : PM) (h1 : Heap) (wr : List Addr) (Wst : Nat → Heap → Prop) (Da Ca : Addr) (res : Nat → List D) (N L n : Nat) (s' : Shared) : Prop :=
  ∃ i zi vs, (n = L + 1 - i ∧ i ≤ L) ∧ CI c ρ o R z1 h1 wr Wst Da Ca res N i zi vs s'
/-- the heart of a comprehension: one clause; K says what comes behind -/
theorem comp_main (ok : CxOk c) {elt target iter : Expr} {ifs : List Expr} {scope : Scope} {pos p0 : Pos} {own : List Str} {caps : List (Str × D)} {ds : List D} {out : D → Option D} {use : Option (Value → Sem Unit)}
    (KO : KidOk c ρ scope own caps) (hi : ItOk c ρ iter ds) (hsz : ds.length ≤ sizeLine)
    (hel : ∀ c', IsKid c scope c' → ∀ (i : Nat) (d : D), ds[i]? = some d → ElemOk c' (kidF own caps) target ifs elt caps d (out d))
    {o : Str → Addr} {z R : PM} {s : Shared} {Q : Value → Shared → Prop} {E : Value → Shared → Prop} (S : St c ρ o z R s)
    (K : ∀ a C vs n m z' s', Ext z s z' s' → St c ρ o z' R s' → s'.heap.get? a = some (LO vs n) → Reps z' (ds.filterMap out) vs → z' a = none → R a = none → ¬ Priv c ρ o a →
      s'.heap.Ns C m → z' C = none → R C = none → ¬ Priv c ρ o C → a ≠ C → (∀ b o', s.heap.get? b = some o' → b ≠ C) → compPost (model prog c.w) c.A E use Q (.ref a) C (.ok .next) s')
    (hset : ∀ x, foldedSetIterable iter c.env x = pure x := by intro _; rfl) :
    wpAny (model prog c.w) c.A (comprehension (.ListComp elt [⟨target, iter, ifs, 0⟩] scope pos) scope c.env p0 (newList []) false (eval iter c.env) use) Q E s := by
  have hnames : ∀ x ∈ scope.names, x.2 = .local → scope.names.lookup x.1 = some .local := fun x hx hl => by
    have : ∀ (l : List (Str × NameKind)), (l.map (·.1)).Nodup → x ∈ l → l.lookup x.1 = some x.2 := by
      intro l
      induction l with
      | nil => intro _ h; cases h
      | cons y r ih =>
        intro hn hm
        rw [List.map_cons, List.nodup_cons] at hn
        obtain ⟨n, k⟩ := y
        rw [List.lookup_cons]
        rcases List.mem_cons.mp hm with e | hm
        · rw [e]; simp
        · have hne : (x.1 == n) = false := beq_eq_false_iff_ne.mpr fun e => hn.1 (e ▸ List.mem_map_of_mem (f := (·.1)) hm)
          rw [hne]; exact ih hn.2 hm
    rw [this _ KO.nodup hx, hl]
  refine wpAny_comprehension_free (cl := clOf c.env scope.names []) (g := ⟨target, iter, ifs, 0⟩) (gs := []) rfl hset (closure_eq (cl_free ok KO S)) KO.kind hnames ?_
  refine hi.run o z R s _ _ S fun J fp wr Pv Wst z1 s1 le1 S1 W hrep hst hw hlive hfp hgo hfw => ?_
  -- the list
  refine wpAny_newObj_type ?_ (by show ([] : List Value).toArray.size ≤ sizeLine; simp)
  have hDn := get_size_none s1.heap
  have hwlt : ∀ b ∈ wr, b < s1.heap.objs.size := fun b hb => by obtain ⟨ob, e⟩ := hlive 0 _ hst b hb; exact Heap.lt_size e
  have hfplt : ∀ b ∈ fp, b < s1.heap.objs.size := fun b hb => (hfp b hb).elim (hwlt b) fun ⟨ob, e⟩ => Heap.lt_size (S1.zh _ _ e)
  generalize hH2 : s1.heap.push { cls := .type "list", dict := none, data := .seq ([] : List Value).toArray } = H2
  have hDsz : H2.objs.size = s1.heap.objs.size + 1 := by rw [← hH2, Heap.size_push]
  have hk2 : ∀ b o', s1.heap.get? b = some o' → H2.get? b = some o' := by rw [← hH2]; exact push_keeps _ _
  have hD2 : H2.get? s1.heap.objs.size = some (LO [] 0) := by rw [← hH2]; exact Heap.get?_push_size _ rfl
  generalize hDd : s1.heap.objs.size = Da at hDn hD2 hDsz hwlt hfplt
  have S2 : St c ρ o z1 R { s1 with heap := H2 } := S1.temp (t := s1.toks) hk2
  refine wpAny_newFunctionEnv KO.nocell (by intro y hy; simp at hy) (fun h₁ hns₁ hsb₁ => ?_) KO.kind
  dsimp only at hns₁ hsb₁ ⊢
  have hCn := get_size_none H2
  have hk3 : ∀ b o', H2.get? b = some o' → h₁.get? b = some o' := fun b o' e => hsb₁.extBut b o' (Nat.ne_of_lt (Heap.lt_size e)) (push_keeps _ _ _ _ e)
  generalize hCc : H2.objs.size = Ca at hns₁ hsb₁ hCn hDsz
  have S3 : St c ρ o z1 R { s1 with heap := h₁, toks := s1.toks + ([] : List (Str × Value)).length } := S2.temp hk3
  have hDC : Da ≠ Ca := by omega
  have hDw : Da ∉ wr := fun h => Nat.lt_irrefl _ (hwlt _ h)
  have hCw : Ca ∉ wr := fun h => by have h2 : @LT.lt Nat _ Ca Da := hwlt _ h; omega
  have hCf : Ca ∉ fp := fun h => by have h2 : @LT.lt Nat _ Ca Da := hfplt _ h; omega
  have hDf : Da ∉ fp := fun h => Nat.lt_irrefl _ (hfplt _ h)
  have zD : z1 Da = none ∧ R Da = none ∧ ¬ Priv c ρ o Da := ⟨S1.znew hDn, S1.rnew hDn, priv_new S1 hDn⟩
  have zC : z1 Ca = none ∧ R Ca = none ∧ ¬ Priv c ρ o Ca := ⟨S2.znew hCn, S2.rnew hCn, priv_new S2 hCn⟩
  have hst3 : Wst 0 h₁ := W.frame _ _ _ hst fun b _ ob e => hk3 _ _ (hk2 _ _ e)
  have oldW : ∀ b o', s.heap.get? b = some o' → b ∉ wr := fun b o' e hb => by rw [hfw b hb] at e; cases e
  have oldC : ∀ b o', s.heap.get? b = some o' → b ≠ Ca := fun b o' e h => by rw [h] at e; have := hk2 _ _ (le1.kp _ _ e); rw [hCn] at this; cases this
  have oldD : ∀ b o', s.heap.get? b = some o' → b ≠ Da := fun b o' e h => by rw [h] at e; have := le1.kp _ _ e; rw [hDn] at this; cases this
  have loop : ∀ sx : Shared, sx = { s1 with heap := h₁, toks := s1.toks + ([] : List (Str × Value)).length } →
      codeAny (model prog c.w) c.A (.compLoop (.ListComp elt [⟨target, iter, ifs, 0⟩] scope pos) 0 (.ref J) (.ref Da) (compEnvC scope (clOf c.env scope.names []) Ca c.env)) (compPost (model prog c.w) c.A E use Q (.ref Da) Ca) sx := by
    rintro sx rfl
    refine codeAny_compLoop_go (CIx c ρ o R z1 s1.heap wr Wst Da Ca (fun i => (ds.take i).filterMap out) 1 ds.length) ?_ (ds.length + 1)
      ⟨0, z1, [], ⟨rfl, Nat.zero_le _⟩, PM.le.refl _, S3, hst3, ⟨0, hk3 _ _ hD2⟩, by show Reps _ ((ds.take 0).filterMap _) _; simp only [List.take_zero, List.filterMap_nil]; exact rfl, Nat.zero_le _, ⟨_, hns₁⟩, zD.1, zC.1, fun b hb => (hw b hb).1, fun b o' _ _ _ e => hk3 _ _ (hk2 _ _ e)⟩
    rintro n s' ⟨i, zi, vs, ⟨rfl, hi'⟩, lei, Si, hsti, ⟨k, hDi⟩, hvs, hvl, ⟨m, hm⟩, zDi, zCi, zwi, hkp⟩
    have hwi : ∀ b ∈ wr, zi b = none ∧ R b = none ∧ ¬ Priv c ρ o b := fun b hb => ⟨zwi b hb, (hw b hb).2⟩
    by_cases hlt : i < ds.length
    · refine W.item i s' _ _ hlt hsti fun v h₂ tk₂ hPv hst₂ hk₂ => ?_
      have Sa := Si.other (t := tk₂) hwi hk₂
      refine hgo _ _ _ _ _ _ hst₂ ?_
      have hd : ds[i]? = some ds[i] := List.getElem?_eq_getElem hlt
      have hmC : h₂.Ns Ca m := hm.at' fun ob e => hk₂ _ _ hCw e
      have Sk := kid_st ok KO Sa hmC zCi zC.2.2
      obtain ⟨ρd, hG, hcap, htest⟩ := hel (kidC c scope Ca) (kid_is ok KO.kind Ca) i _ hd
      refine hG.run o zi _ _ v _ _ Sk (Rep.mono lei _ (hrep i _ v hd hPv)) fun s4 S4 kp4 => ?_
      have hDw2 : h₂.get? Da = some (LO vs k) := hk₂ _ _ hDw hDi
      -- what stands behind the turn, the list as it was
      have back : ∀ z6 s6, Ext zi s4 z6 s6 → St (kidC c scope Ca) ρd o z6 (restOf zi Ca (clOf c.env scope.names []) h₂) s6 →
          St c ρ o z6 R s6 ∧ Wst (i + 1) s6.heap ∧ s6.heap.get? Da = some (LO vs k) ∧ (∃ m, s6.heap.Ns Ca m) ∧ (z6 Da = none ∧ z6 Ca = none ∧ ∀ b ∈ wr, z6 b = none) ∧ ∀ b o', b ≠ Ca → b ≠ Da → b ∉ wr → s1.heap.get? b = some o' → s6.heap.get? b = some o' := by
        intro z6 s6 x6 S6
        obtain ⟨b1, b2, b3, b4, b5⟩ := kid_back ok KO Sa zCi zC.2.1 zC.2.2 x6.le S6 hcap
        have kp6 : ∀ b o', b ≠ Ca → h₂.get? b = some o' → s6.heap.get? b = some o' := fun b o' hb e => x6.kp b o' (kp4 b o' hb e)
        have hno : ∀ b ob, zi b = none → h₂.get? b = some ob → z6 b = none := fun b ob hz he => by
          cases q : z6 b with
          | none => rfl
          | some x => rcases b3 b (by rw [q]; exact fun h => nomatch h) with h | h
                      · exact absurd hz h
                      · rw [show h₂.get? b = none from h] at he; cases he
        refine ⟨b1, ?_, kp6 _ _ hDC hDw2, b4, ⟨hno _ _ zDi hDw2, b5, fun b hb => ?_⟩, fun b o' h1 h2 h3 e => kp6 b o' h1 (hk₂ _ _ h3 (hkp b o' h1 h2 h3 e))⟩
        · exact W.frame _ _ _ hst₂ fun b hb ob e => kp6 b ob (fun h => hCf (h ▸ hb)) e
        · obtain ⟨ob, e⟩ := hlive _ _ hst₂ b hb
          exact hno _ _ (zwi b hb) e
      have skip : ∀ z6 s6, Ext zi s4 z6 s6 → St (kidC c scope Ca) ρd o z6 (restOf zi Ca (clOf c.env scope.names []) h₂) s6 → out ds[i] = none →
          ∃ m, m < ds.length + 1 - i ∧ CIx c ρ o R z1 s1.heap wr Wst Da Ca (fun i => (ds.take i).filterMap out) 1 ds.length m s6 := by
        intro z6 s6 x6 S6 hout
        obtain ⟨b1, b2, b3, b4, b5, b6⟩ := back z6 s6 x6 S6
        refine ⟨ds.length + 1 - (i + 1), by omega, i + 1, z6, vs, ⟨rfl, hlt⟩, lei.trans x6.le, b1, b2, ⟨k, b3⟩, ?_, by omega, b4, b5.1, b5.2.1, b5.2.2, b6⟩
        show Reps _ ((ds.take (i + 1)).filterMap out) _
        rw [take_step ds out hd, hout, Option.toList_none, List.append_nil]
        exact Reps.mono x6.le _ hvs
      have take : ∀ z5 s5, Ext zi s4 z5 s5 → St (kidC c scope Ca) ρd o z5 (restOf zi Ca (clOf c.env scope.names []) h₂) s5 → ∀ y, out ds[i] = some y → EOk (kidC c scope Ca) ρd elt y →
          ∀ E', wpAny (model prog c.w) c.A (eval elt (compEnvC scope (clOf c.env scope.names []) Ca c.env)) (fun x s₄ => wpAny (model prog c.w) c.A (call (.builtin "list.append") [.ref Da, x]) (fun _ s6 =>
            ∃ m, m < ds.length + 1 - i ∧ CIx c ρ o R z1 s1.heap wr Wst Da Ca (fun i => (ds.take i).filterMap out) 1 ds.length m s6) E' s₄) E' s5 := by
        intro z5 s5 x5 S5 y hout hE E'
        refine hE.run o z5 _ s5 _ _ S5 fun x z6 s6 le6 S6 r6 => ?_
        obtain ⟨b1, b2, b3, b4, b5, b6⟩ := back z6 s6 (x5.trans le6) S6
        refine wpAny_list_append_plain (items := vs.toArray) ⟨k, b3⟩ (fun h' hl hs => ?_) (by rw [List.size_toArray]; omega)
        obtain ⟨k', hl'⟩ := hl
        have e' : vs.toArray.push x = (vs ++ [x]).toArray := by simp
        rw [e'] at hl'
        have S7 : St c ρ o z6 R { s6 with heap := h', toks := s6.toks } := b1.other (wr := [Da]) (fun b hb => by rw [List.mem_singleton.mp hb]; exact ⟨b5.1, zD.2⟩) fun b o' hb e => hs.extBut b o' (fun h => hb (by rw [h]; exact List.mem_singleton_self _)) e
        refine ⟨ds.length + 1 - (i + 1), by omega, i + 1, z6, vs ++ [x], ⟨rfl, hlt⟩, lei.trans (x5.trans le6).le, S7, ?_, ⟨k', hl'⟩, ?_, by rw [List.length_append, List.length_singleton]; omega, ?_, b5.1, b5.2.1, b5.2.2, fun b o' h1 h2 h3 e => hs.extBut b o' h2 (b6 b o' h1 h2 h3 e)⟩
        · exact W.frame _ _ _ b2 fun b hb ob e => hs.extBut b ob (fun h => hDf (h ▸ hb)) e
        · show Reps _ ((ds.take (i + 1)).filterMap out) _
          rw [take_step ds out hd, hout]
          exact Reps.append (Reps.mono (x5.trans le6).le _ hvs) (Reps.one r6)
        · obtain ⟨m', hm'⟩ := b4; exact ⟨m', hm'.sameBut hs (Ne.symm hDC)⟩
      match ifs, htest with
      | [], ⟨y, hout, hE⟩ => exact wpAny_tests_nil (by rw [if_pos rfl]; exact take zi s4 Ext.rfl' S4 y hout hE _)
      | [t], ⟨b, hT, h1, h2⟩ =>
        refine wpAny_tests_one (hT.run o zi _ s4 _ _ S4 fun z5 s5 le5 S5 => ?_)
        cases b with
        | true => obtain ⟨y, hout, hE⟩ := h1 rfl; rw [if_pos rfl]; exact take z5 s5 le5 S5 y hout hE _
        | false => rw [if_neg (by decide)]; exact skip z5 s5 le5 S5 (h2 rfl)
    · have hin : i = ds.length := by omega
      subst hin
      refine W.done _ _ _ hsti fun h₂ tk₂ hk₂ => ?_
      have Sa := Si.other (t := tk₂) hwi hk₂
      refine K Da Ca vs k m zi _ ⟨le1.le.trans lei, fun b o' e => hk₂ _ _ ?_ (hkp b o' (oldC b o' e) (oldD b o' e) ?_ (le1.kp _ _ e))⟩ Sa (hk₂ _ _ hDw hDi) (by have hvs : Reps zi ((ds.take ds.length).filterMap out) vs := hvs; rw [List.take_length] at hvs; exact hvs) zDi zD.2.1 zD.2.2 (hm.at' fun ob e => hk₂ _ _ hCw e) zCi zC.2.1 zC.2.2 hDC oldC
      · intro hb; exact oldW b o' e hb
      · intro hb; exact oldW b o' e hb
  exact codeAny_compStart_list (loop _ rfl) (W.self 0 _ _ _ hst3 (loop _ rfl))

end Mine
end
/-! B10 -/
section
open PySem PySem.W PyProof.Rows PySem.Spec PySem.Calls
set_option maxRecDepth 100000
set_option maxHeartbeats 1000000
set_option linter.unusedVariables false
namespace Mine
variable {c : Cx} {ρ ρ' ρ₂ : Frame}

theorem N_comp (ok : CxOk c) {elt target iter : Expr} {ifs : List Expr} {scope : Scope} {pos : Pos} (own : List Str) (caps : List (Str × D)) {ds : List D} {out : D → Option D}
    (KO : KidOk c ρ scope own caps) (hi : ItOk c ρ iter ds) (hsz : ds.length ≤ sizeLine)
    (hel : ∀ c', IsKid c scope c' → ∀ (i : Nat) (d : D), ds[i]? = some d → ElemOk c' (kidF own caps) target ifs elt caps d (out d))
    (hset : ∀ x, foldedSetIterable iter c.env x = pure x := by intro _; rfl) : NOk c ρ (.ListComp elt [⟨target, iter, ifs, 0⟩] scope pos) (ds.filterMap out) := by
  constructor
  intro o z R s Q E S K
  rw [eval_ListComp]
  refine comp_main ok KO hi hsz hel S (fun a C vs n m z' s' x S' ha hr hz hR hp hm zC RC pC hne hold => ?_) hset
  refine ⟨m, hm, fun h' hs => ?_⟩
  have S7 : St c ρ o z' R { s' with heap := h' } := S'.other (t := s'.toks) (wr := [C]) (fun b hb => by rw [List.mem_singleton.mp hb]; exact ⟨zC, RC, pC⟩) fun b o' hb e => hs.extBut b o' (fun h => hb (by rw [h]; exact List.mem_singleton_self _)) e
  exact K a vs n z' _ ⟨x.le, fun b o' e => hs.extBut b o' (hold b o' e) (x.kp b o' e)⟩ S7 (hs.extBut a _ hne ha) hr hz hR hp

/-- a new unheld list, frozen -/
theorem St.freeze {o : Str → Addr} {z R : PM} {s : Shared} {a : Addr} {vs : List Value} {n : Nat} (S : St c ρ o z R s) (ha : s.heap.get? a = some (LO vs n)) (hz : z a = none) (hR : R a = none) (hp : ¬ Priv c ρ o a) : St c ρ o (z.put a (LO vs n)) R s :=
  have hle : z.le (z.put a (LO vs n)) := PM.le.put hz
  { S with
    zh := fun b o' e => by
      unfold PM.put at e; split at e
      · rename_i q; cases e; subst q; exact ha
      · exact S.zh _ _ e
    bz := fun b o' e => hle _ _ (S.bz _ _ e)
    zr := fun b h => by
      unfold PM.put at h; split at h
      · rename_i q; subst q; exact hR
      · exact S.zr _ h
    sep := fun b hb => by
      refine ⟨?_, (S.sep b hb).2⟩
      unfold PM.put
      rw [if_neg (by rintro rfl; exact hp hb)]
      exact (S.sep b hb).1
    slots := let ⟨m, hn, hs⟩ := S.slots; ⟨m, hn, fun p hp => (hs p hp).mono (fun _ _ e => e) hle⟩ }

/-- x = [.. for ..] where the interpreter exchanges the stores -/
theorem X_assignC (ok : CxOk c) {x : Str} {p : Pos} {elt target iter : Expr} {ifs : List Expr} {scope : Scope} {pos pos' : Pos} (own : List Str) (caps : List (Str × D)) {ds : List D} {out : D → Option D} {P : Fl → Frame → Prop}
    (KO : KidOk c ρ scope own caps) (hi : ItOk c ρ iter ds) (hsz : ds.length ≤ sizeLine)
    (hel : ∀ c', IsKid c scope c' → ∀ (i : Nat) (d : D), ds[i]? = some d → ElemOk c' (kidF own caps) target ifs elt caps d (out d))
    (hu : Put x (.val (.list (ds.filterMap out))) ρ ρ') (hP : P .next ρ')
    (hsw : swapsWithSole [.Name x p] (.ListComp elt [⟨target, iter, ifs, 0⟩] scope pos) pos'.line c.env = pure true)
    (hset : ∀ x, foldedSetIterable iter c.env x = pure x := by intro _; rfl) : XOk c ρ (.Assign [.Name x p] (.ListComp elt [⟨target, iter, ifs, 0⟩] scope pos) pos') P := by
  constructor
  intro o z R s Q E S K
  rw [exec_Assign]
  refine wpAny_bind (wpAny_standAt ?_)
  rw [hsw]
  refine wpAny_bind (wpAny_pure ?_)
  rw [if_pos rfl]
  show wpAny _ _ (evalThenUse (.ListComp elt [⟨target, iter, ifs, 0⟩] scope pos) c.env (fun v => assignAll v [assign (.Name x p) c.env]) >>= fun _ => pure Flow.next) Q E s
  refine wpAny_bind ?_
  show wpAny _ _ (comprehension (.ListComp elt [⟨target, iter, ifs, 0⟩] scope pos) scope c.env iter.pos (newList []) false (eval iter c.env) (some fun v => assignAll v [assign (.Name x p) c.env]) >>= fun _ => pure ()) _ E s
  refine wpAny_bind ?_
  refine comp_main ok KO hi hsz hel S (fun a C vs n m z' s' x' S' ha hr hz hR hp hm zC RC pC hne hold => ?_) hset
  have hle : z'.le (z'.put a (LO vs n)) := PM.le.put hz
  have S5 := S'.freeze ha hz hR hp
  have hzC5 : (z'.put a (LO vs n)) C = none := by unfold PM.put; rw [if_neg (Ne.symm hne)]; exact zC
  have S6 := S5.holding (wr := [C]) (fun b hb => by rw [List.mem_singleton.mp hb]; exact ⟨hzC5, RC, pC⟩)
  show wpAny _ _ (assignAll (.ref a) [assign (.Name x p) c.env]) _ E s'
  have one : wpAny (model prog c.w) c.A (assign (.Name x p) c.env (.ref a)) (fun _ s'' => ∃ m, s''.heap.Ns C m ∧ ∀ h', Heap.SameBut C s''.heap h' → wpAny (model prog c.w) c.A (pure ()) (fun a s => wpAny (model prog c.w) c.A (pure Flow.next) Q E s) E { s'' with heap := h' }) E s' := by
    refine wpAny_assign_Name (store_val ok S6 hu ⟨a, vs, n, rfl, PM.put_self _ _ _, Reps.mono hle _ hr⟩ fun s7 S7 _ => ?_)
    obtain ⟨oC, eC⟩ : ∃ ob, s'.heap.get? C = some ob := by obtain ⟨ob, _, _, e, _⟩ := hm; exact ⟨ob, e⟩
    obtain ⟨S8, hsame, hw8⟩ := S7.unhold (fun b hb => by rw [List.mem_singleton.mp hb]; exact RC) (fun b hb => by rw [List.mem_singleton.mp hb]; exact ⟨oC, eC⟩)
    refine ⟨m, hm.at' fun ob e => by rw [hsame C (List.mem_singleton_self _)]; exact e, fun h' hs => wpAny_pure (wpAny_pure ?_)⟩
    have S9 : St c ρ' o (z'.put a (LO vs n)) R { s7 with heap := h' } := S8.other (t := s7.toks) (wr := [C]) hw8 fun b o' hb e => hs.extBut b o' (fun h => hb (by rw [h]; exact List.mem_singleton_self _)) e
    exact K .next ρ' o _ _ _ (x'.le.trans hle) S9 rfl hP
  exact one

/-! lists times a number; stores into an own list -/
theorem foldl_rep {α : Type} (xs : List α) : ∀ (k : Nat) (acc : Array α), ((List.replicate k xs.toArray).foldl (· ++ ·) acc).toList = acc.toList ++ (List.replicate k xs).flatten
  | 0, acc => by simp
  | k + 1, acc => by
    rw [List.replicate_succ, List.foldl_cons, foldl_rep xs k, List.replicate_succ, List.flatten_cons]
    simp
theorem reps_rep {z : PM} {ds : List D} {vs : List Value} (h : Reps z ds vs) : ∀ k : Nat, Reps z (List.replicate k ds).flatten (List.replicate k vs).flatten
  | 0 => rfl
  | k + 1 => by rw [List.replicate_succ, List.flatten_cons, List.replicate_succ, List.flatten_cons]; exact Reps.append h (reps_rep h k)

end Mine
end
/-! R1 -/
section
open PySem PySem.W PyProof.Rows PySem.Spec PySem.Calls
set_option maxRecDepth 100000
set_option maxHeartbeats 1000000
set_option linter.unusedVariables false
set_option linter.unusedSimpArgs false
namespace Mine
open PySem.Sre

noncomputable def it : Nat → Sre.M → Sre.M
  | 0, m => m
  | n + 1, m => it n m.step
theorem it_add : ∀ (a b : Nat) (m : Sre.M), it (a + b) m = it b (it a m)
  | 0, b, m => by rw [Nat.zero_add]; rfl
  | a + 1, b, m => by rw [Nat.add_right_comm]; exact it_add a b m.step
theorem step_done {m : Sre.M} (h : m.outcome.isSome = true) : m.step = m := by unfold M.step; rw [if_pos h]
theorem it_done {m : Sre.M} (h : m.outcome.isSome = true) : ∀ n, it n m = m
  | 0 => rfl
  | n + 1 => by show it n m.step = m; rw [step_done h]; exact it_done h n
theorem runFor_it : ∀ (n : Nat) (m : Sre.M), M.runFor n m = it n m
  | 0, m => rfl
  | n + 1, m => by
    unfold M.runFor
    split
    · rename_i h; rw [it_done h]
    · exact runFor_it n m.step

section
variable {M : Model} {A : Around} {E : Value → Shared → Prop} {s : Shared}
theorem wpAny_reDrive {Q : Sre.M → Shared → Prop} : ∀ (turns : Nat) (m : Sre.M) (n : Nat), n ≤ 4 * turns → 0 < turns → (it n m).outcome.isSome = true → Q (it n m) s → wpAny M A (Builtin.Re.reDrive turns m) Q E s
  | 0, m, n, hn, h0, _, _ => absurd h0 (by decide)
  | turns + 1, m, n, hn, h0, ho, hq => by
    show wpAny M A (if (m.runFor 4).outcome.isSome = true then pure (m.runFor 4) else do rule "sre.turn"; Builtin.Re.reDrive turns (m.runFor 4)) Q E s
    rw [runFor_it]
    by_cases h : (it 4 m).outcome.isSome = true
    · rw [if_pos h]
      refine wpAny_pure ?_
      have e : it 4 m = it n m := by
        rcases Nat.le_total n 4 with hl | hl
        · have : 4 = n + (4 - n) := by omega
          rw [this, it_add, it_done ho]
        · have : n = 4 + (n - 4) := by omega
          rw [this, it_add, it_done h]
      rw [e]; exact hq
    · rw [if_neg h]
      have hl : 4 < n := by
        rcases Nat.lt_or_ge 4 n with hl | hl
        · exact hl
        · exact absurd (by have : 4 = n + (4 - n) := by omega
                           rw [this, it_add, it_done ho]; exact ho) h
      have e : it n m = it (n - 4) (it 4 m) := by rw [← it_add]; congr 1; omega
      refine wpAny_bind (wpAny_rule ?_)
      refine wpAny_reDrive turns (it 4 m) (n - 4) (by omega) (by omega) (by rw [← e]; exact ho) (by rw [← e]; exact hq)
end

/-- what a search finds -/
noncomputable def Hits (m : Sre.M) (N : Nat) : Option (Nat × Nat) → Prop
  | some (a, b) => ∃ n, n ≤ N ∧ (it n m).outcome = some .matched ∧ (it n m).start = a ∧ (it n m).handed = b
  | none => ∃ n, n ≤ N ∧ (it n m).outcome = some .failed

theorem Hits.back {m m' : Sre.M} {k N : Nat} {r : Option (Nat × Nat)} (e : it k m = m') (h : Hits m' N r) : Hits m (k + N) r := by
  cases r with
  | none => obtain ⟨n, hn, h⟩ := h; exact ⟨k + n, by omega, by rw [it_add, e]; exact h⟩
  | some p => obtain ⟨n, hn, h1, h2, h3⟩ := h; exact ⟨k + n, by omega, by rw [it_add, e]; exact h1, by rw [it_add, e]; exact h2, by rw [it_add, e]; exact h3⟩
theorem Hits.le {m : Sre.M} {N N' : Nat} {r : Option (Nat × Nat)} (h : Hits m N r) (hl : N ≤ N') : Hits m N' r := by
  cases r with
  | none => obtain ⟨n, hn, h⟩ := h; exact ⟨n, by omega, h⟩
  | some p => obtain ⟨n, hn, h⟩ := h; exact ⟨n, by omega, h⟩

noncomputable def code1 : Array Nat := #[14,4,0,1,1,6,1,16,46,1]
noncomputable def code2 : Array Nat := #[14,9,4,1,2,16,10,16,13,0,7,7,16,13,16,10,15,18,5,16,10,15,13,11,16,13,5,5,0,16,10,1,15,2,0,1]

/-- pattern 2, about to try at e -/
noncomputable def at2 (text : Array Nat) (lim e : Nat) (first : Bool) (h : Nat) (sn : Sre.Seen) : Sre.M :=
  { code := code2, text, lim, start := e, lastStart := lim, pc := 10, pos := e, handed := e, outermost := first, marks := #[], frames := [{ wait := .nextStart, pc := 10, pos := e, outermost := first }], weight := 1, seen := sn }



theorem Hits.step {m : Sre.M} {N : Nat} {r : Option (Nat × Nat)} (h : Hits m.step N r) : Hits m (N + 1) r := by
  rw [Nat.add_comm]; exact Hits.back (k := 1) rfl h
theorem Hits.end1 {m : Sre.M} {N a b : Nat} (h : m.outcome = some .matched) (h1 : m.start = a) (h2 : m.handed = b) : Hits m N (some (a, b)) := ⟨0, Nat.zero_le _, h, h1, h2⟩
theorem Hits.end0 {m : Sre.M} {N : Nat} (h : m.outcome = some .failed) : Hits m N none := ⟨0, Nat.zero_le _, h⟩

noncomputable def isEol (c : Nat) : Bool := c == 10 || c == 13
theorem inSet2 (c : Nat) (sn : Sre.Seen) : ∃ sn', inSet code2 c code2.size 5 true sn = .ok (isEol c, sn') := by
  unfold isEol
  cases h1 : (c == 10) <;> cases h2 : (c == 13) <;> simp [inSet, code2, ops, h1, h2]

/-- the next sign of an end from place s on, within n places -/
noncomputable def eolAt (text : Array Nat) : (n s : Nat) → Option Nat
  | 0, s => none
  | n + 1, s => if isEol (text.getD s 0) then some s else eolAt text n (s + 1)

theorem eolAt_lt {text : Array Nat} : ∀ (n s e : Nat), eolAt text n s = some e → s ≤ e ∧ e < s + n ∧ isEol (text.getD e 0) = true
  | 0, s, e, h => nomatch h
  | n + 1, s, e, h => by
    unfold eolAt at h
    split at h
    · rename_i hc; cases h; exact ⟨Nat.le_refl _, by omega, hc⟩
    · have ⟨h1, h2, h3⟩ := eolAt_lt n (s + 1) e h; exact ⟨by omega, by omega, h3⟩

theorem admitted2 (m : Sre.M) (hc : m.code = code2) : ∀ (n s : Nat) (sn : Sre.Seen), s + n = m.lim → ∃ sn', M.admitted m (n + 1) s sn = .ok (eolAt m.text n s, sn')
  | 0, s, sn, h => ⟨sn, by unfold M.admitted; rw [if_pos (by omega)]; rfl⟩
  | n + 1, s, sn, h => by
    obtain ⟨sn1, h1⟩ := inSet2 (m.text.getD s 0) sn
    unfold M.admitted eolAt
    rw [if_neg (by omega), hc, h1]
    cases hE : isEol (m.text.getD s 0)
    · obtain ⟨sn', h2⟩ := admitted2 m hc n (s + 1) sn1 (by omega)
      exact ⟨sn', h2⟩
    · exact ⟨sn1, rfl⟩

/-- what pattern 2 finds from place s on -/
noncomputable def next2 (text : Array Nat) (s : Nat) : Option (Nat × Nat) :=
  match eolAt text (text.size - s) s with
  | none => none
  | some e => some (e, if text.getD e 0 == 13 && e + 1 < text.size && text.getD (e + 1) 0 == 10 then e + 2 else e + 1)


theorem hit2_10 {text : Array Nat} {lim e h : Nat} {f : Bool} {sn : Sre.Seen} (hl : e < lim) (hc : text.getD e 0 = 10) : Hits (at2 text lim e f h sn) 30 (some (e, e + 1)) := by
  have hl' : ¬ e ≥ lim := by omega
  unfold at2
  repeat (first | exact Hits.end1 rfl rfl rfl | (refine Hits.step ?_; simp [M.step, M.exec, M.word, code2, ops, M.alternative, M.attempt, M.frame, M.keep, accepts, M.say, M.resume, M.putBack, itemWidth, hl', hc]))
theorem hit2_1310 {text : Array Nat} {lim e h : Nat} {f : Bool} {sn : Sre.Seen} (hl : e + 1 < lim) (hc : text.getD e 0 = 13) (hc' : text.getD (e + 1) 0 = 10) : Hits (at2 text lim e f h sn) 30 (some (e, e + 2)) := by
  have hl' : ¬ e ≥ lim := by omega
  have hl2 : ¬ e + 1 ≥ lim := by omega
  unfold at2
  repeat (first | exact Hits.end1 rfl rfl rfl | (refine Hits.step ?_; simp [M.step, M.exec, M.word, code2, ops, M.alternative, M.attempt, M.frame, M.keep, accepts, M.say, M.resume, M.putBack, itemWidth, hl', hl2, hc, hc']))
theorem hit2_13x {text : Array Nat} {lim e h : Nat} {f : Bool} {sn : Sre.Seen} (hl : e + 1 < lim) (hc : text.getD e 0 = 13) (hc' : (text.getD (e + 1) 0 == 10) = false) : Hits (at2 text lim e f h sn) 30 (some (e, e + 1)) := by
  have hl' : ¬ e ≥ lim := by omega
  have hl2 : ¬ e + 1 ≥ lim := by omega
  have hc2 : (text[e + 1]?.getD 0 == 10) = false := by rw [← Array.getD_eq_getD_getElem?]; exact hc'
  unfold at2
  repeat (first | exact Hits.end1 rfl rfl rfl | (refine Hits.step ?_; simp [M.step, M.exec, M.word, code2, ops, M.alternative, M.attempt, M.frame, M.keep, accepts, M.say, M.resume, M.putBack, itemWidth, hl', hl2, hc, hc2]))
theorem hit2_13e {text : Array Nat} {lim e h : Nat} {f : Bool} {sn : Sre.Seen} (hl : e + 1 = lim) (hc : text.getD e 0 = 13) : Hits (at2 text lim e f h sn) 30 (some (e, e + 1)) := by
  have hl' : ¬ e ≥ lim := by omega
  have hl2 : e + 1 ≥ lim := by omega
  unfold at2
  repeat (first | exact Hits.end1 rfl rfl rfl | (refine Hits.step ?_; simp [M.step, M.exec, M.word, code2, ops, M.alternative, M.attempt, M.frame, M.keep, accepts, M.say, M.resume, M.putBack, itemWidth, hl', hl2, hc]))


theorem search2 {text : Array Nat} {s : Nat} (hs : s ≤ text.size) : Hits (forSearch code2 text 0 s text.size false) 31 (next2 text s) := by
  have e0 : ∃ sn0 : Sre.Seen, forSearch code2 text 0 s text.size false = if (decide (s > text.size) || decide (text.size - s < 1)) = true then M.say { code := code2, text, lim := text.size, start := s, pc := 10, pos := s, handed := s, marks := #[], mustAdvance := false, seen := sn0 } false
     else M.attemptFrom { code := code2, text, lim := text.size, start := s, lastStart := text.size, pc := 10, pos := s, handed := s, marks := #[], mustAdvance := false, seen := sn0 } s true := ⟨_, rfl⟩
  obtain ⟨sn0, e0⟩ := e0
  rw [e0]
  unfold next2
  by_cases hE : s = text.size
  · subst hE
    have e1 : text.size - text.size = 0 := by omega
    rw [if_pos (by simp [e1]), e1]
    refine Hits.step ?_
    exact Hits.end0 rfl
  · rw [if_neg (by simp; omega)]
    unfold M.attemptFrom
    rw [if_neg (by simp [M.hasFirstSet, code2, ops])]
    obtain ⟨sn', h2⟩ := admitted2 { code := code2, text, lim := text.size, start := s, lastStart := text.size, pc := 10, pos := s, handed := s, marks := #[], mustAdvance := false, seen := sn0 } rfl (text.size - s) s sn0 (by show s + (text.size - s) = text.size; omega)
    have e3 : text.size + 1 - s = text.size - s + 1 := by omega
    show Hits (match M.admitted _ (text.size + 1 - s) s sn0 with | .ok (some s, seen) => _ | .ok (none, seen) => _ | .error why => _) 31 _
    rw [e3, h2]
    cases hn : eolAt text (text.size - s) s with
    | none =>
      refine Hits.step ?_
      exact Hits.end0 rfl
    | some e =>
      obtain ⟨h1, h2, h3⟩ := eolAt_lt _ _ _ hn
      have hlt : e < text.size := by omega
      show Hits (at2 text text.size e true e sn') 31 _
      refine Hits.le (N := 30) ?_ (by decide)
      rcases (by simpa [isEol] using h3 : text.getD e 0 = 10 ∨ text.getD e 0 = 13) with h4 | h4
      · simp only [h4]
        exact hit2_10 hlt h4
      · simp only [h4]
        by_cases h5 : e + 1 < text.size
        · cases h6 : (text.getD (e + 1) 0 == 10)
          · simp only [Bool.and_false, Bool.false_eq_true, if_false]
            exact hit2_13x h5 h4 h6
          · simp only [h5, beq_self_eq_true, decide_true, Bool.and_self, if_true]
            exact hit2_1310 h5 h4 (by simpa using h6)
        · simp only [h5, decide_false, Bool.and_false, Bool.false_and, Bool.false_eq_true, if_false]
          exact hit2_13e (by omega) h4


/-- pattern 1, about to try at e -/
noncomputable def at1 (text : Array Nat) (s0 lim e : Nat) (f : Bool) (sn : Sre.Seen) : Sre.M :=
  { code := code1, text, lim, start := e, lastStart := lim, pc := 5, pos := e, handed := e, outermost := f, marks := #[], frames := [{ wait := .nextStart, pc := 5, pos := e, outermost := f }], weight := 1, seen := sn }

noncomputable def dotHere (text : Array Nat) (e : Nat) : Bool := (e == 0 || text.getD (e - 1) 0 == 10) && text.getD e 0 == 46
noncomputable def dotAt (text : Array Nat) : (n s : Nat) → Option Nat
  | 0, s => none
  | n + 1, s => if dotHere text s then some s else dotAt text n (s + 1)
theorem dotAt_lt {text : Array Nat} : ∀ (n s e : Nat), dotAt text n s = some e → s ≤ e ∧ e < s + n ∧ dotHere text e = true
  | 0, s, e, h => nomatch h
  | n + 1, s, e, h => by
    unfold dotAt at h
    split at h
    · rename_i hc; cases h; exact ⟨Nat.le_refl _, by omega, hc⟩
    · have ⟨h1, h2, h3⟩ := dotAt_lt n (s + 1) e h; exact ⟨by omega, by omega, h3⟩

theorem hit1_yes {text : Array Nat} {s0 lim e : Nat} {f : Bool} {sn : Sre.Seen} (hl : e < lim) (hd : dotHere text e = true) : Hits (at1 text s0 lim e f sn) 10 (some (e, e + 1)) := by
  have hl' : ¬ e ≥ lim := by omega
  unfold dotHere at hd
  rw [Bool.and_eq_true] at hd
  obtain ⟨h1, h2⟩ := hd
  have h2' : text.getD e 0 = 46 := by simpa using h2
  rw [Array.getD_eq_getD_getElem?] at h1
  unfold at1
  repeat (first | exact Hits.end1 rfl rfl rfl | (refine Hits.step ?_; simp [M.step, M.exec, M.word, code1, ops, M.isAt, M.attempt, M.frame, M.keep, accepts, M.say, M.resume, M.putBack, itemWidth, hl', h1, h2', -Bool.or_eq_true]))
theorem hit1_no {text : Array Nat} {s0 lim e N : Nat} {f : Bool} {sn : Sre.Seen} {r : Option (Nat × Nat)} (hl : e < lim) (hd : dotHere text e = false) (h : ∀ sn', Hits (at1 text s0 lim (e + 1) false sn') N r) : Hits (at1 text s0 lim e f sn) (N + 6) r := by
  have hl' : ¬ e ≥ lim := by omega
  unfold dotHere at hd
  unfold at1
  rw [Array.getD_eq_getD_getElem? (i := e - 1)] at hd
  cases h1 : (e == 0 || text[e - 1]?.getD 0 == 10)
  · refine Hits.step ?_
    simp [M.step, M.exec, M.word, code1, ops, M.isAt, M.attempt, M.frame, M.keep, accepts, M.say, M.resume, M.putBack, itemWidth, hl', h1, -Bool.or_eq_false_iff]
    refine Hits.step ?_
    simp [M.step, M.exec, M.word, code1, ops, M.isAt, M.attempt, M.frame, M.keep, accepts, M.say, M.resume, M.putBack, itemWidth, hl', hl, M.attemptFrom, M.attemptAt, M.hasFirstSet]
    exact Hits.le (h _) (by omega)
  · rw [h1, Bool.true_and] at hd
    rw [Array.getD_eq_getD_getElem?] at hd
    refine Hits.step ?_
    simp [M.step, M.exec, M.word, code1, ops, M.isAt, M.attempt, M.frame, M.keep, accepts, M.say, M.resume, M.putBack, itemWidth, hl', h1, -Bool.or_eq_true]
    refine Hits.step ?_
    simp [M.step, M.exec, M.word, code1, ops, M.isAt, M.attempt, M.frame, M.keep, accepts, M.say, M.resume, M.putBack, itemWidth, hl', hd, -Bool.or_eq_true]
    refine Hits.step ?_
    simp [M.step, M.exec, M.word, code1, ops, M.isAt, M.attempt, M.frame, M.keep, accepts, M.say, M.resume, M.putBack, itemWidth, hl', hl, M.attemptFrom, M.attemptAt, M.hasFirstSet]
    exact Hits.le (h _) (by omega)
theorem hit1_end {text : Array Nat} {s0 lim : Nat} {f : Bool} {sn : Sre.Seen} : Hits (at1 text s0 lim lim f sn) 10 none := by
  unfold at1
  cases h1 : (lim == 0 || text[lim - 1]?.getD 0 == 10)
  · repeat (first | exact Hits.end0 rfl | (refine Hits.step ?_; simp [M.step, M.exec, M.word, code1, ops, M.isAt, M.attempt, M.frame, M.keep, accepts, M.say, M.resume, M.putBack, itemWidth, h1, M.attemptFrom, M.attemptAt, M.hasFirstSet, -Bool.or_eq_false_iff]))
  · repeat (first | exact Hits.end0 rfl | (refine Hits.step ?_; simp [M.step, M.exec, M.word, code1, ops, M.isAt, M.attempt, M.frame, M.keep, accepts, M.say, M.resume, M.putBack, itemWidth, h1, M.attemptFrom, M.attemptAt, M.hasFirstSet, -Bool.or_eq_true]))


noncomputable def next1 (text : Array Nat) (s : Nat) : Option (Nat × Nat) :=
  match dotAt text (text.size - s) s with
  | none => none
  | some e => some (e, e + 1)

theorem try1 {text : Array Nat} {s0 : Nat} : ∀ (n s : Nat) (f : Bool) (sn : Sre.Seen), s + n = text.size → Hits (at1 text s0 text.size s f sn) (n * 6 + 10) (match dotAt text n s with | none => none | some e => some (e, e + 1))
  | 0, s, f, sn, h => by
    have : s = text.size := by omega
    subst this; exact hit1_end.le (by omega)
  | n + 1, s, f, sn, h => by
    unfold dotAt
    cases hd : dotHere text s
    · refine (hit1_no (N := n * 6 + 10) (by omega) hd fun sn' => ?_).le (by omega)
      exact try1 n (s + 1) false sn' (by omega)
    · exact (hit1_yes (by omega) hd).le (by omega)
theorem search1 {text : Array Nat} {s : Nat} (hs : s ≤ text.size) : Hits (forSearch code1 text 0 s text.size false) (text.size * 6 + 11) (next1 text s) := by
  have e0 : ∃ sn0 : Sre.Seen, forSearch code1 text 0 s text.size false = if (decide (s > text.size) || decide (text.size - s < 1)) = true then M.say { code := code1, text, lim := text.size, start := s, pc := 5, pos := s, handed := s, marks := #[], mustAdvance := false, seen := sn0 } false
     else M.attemptFrom { code := code1, text, lim := text.size, start := s, lastStart := text.size, pc := 5, pos := s, handed := s, marks := #[], mustAdvance := false, seen := sn0 } s true := ⟨_, rfl⟩
  obtain ⟨sn0, e0⟩ := e0
  rw [e0]
  unfold next1
  by_cases hE : s = text.size
  · subst hE
    have e1 : text.size - text.size = 0 := by omega
    rw [if_pos (by simp [e1]), e1]
    refine Hits.step ?_
    exact Hits.end0 rfl
  · rw [if_neg (by simp; omega)]
    show Hits (at1 text s text.size s true sn0) _ _
    exact (try1 (text.size - s) s true sn0 (by omega)).le (by omega)

end Mine
end
/-! R2 -/
section
open PySem PySem.W PyProof.Rows PySem.Spec PySem.Calls
set_option maxRecDepth 100000
set_option maxHeartbeats 400000
set_option linter.unusedVariables false
set_option linter.unusedSimpArgs false
namespace Mine

inductive Subs (text : Array Nat) (nx : Nat → Option (Nat × Nat)) (rep : List Nat) : Nat → List Nat → Prop
  | fin {p : Nat} : p ≤ text.size → nx p = none → Subs text nx rep p (text.toList.drop p)
  | hit {p a b : Nat} {out : List Nat} : nx p = some (a, b) → p ≤ a → a < b → b ≤ text.size → Subs text nx rep b out → Subs text nx rep p ((text.toList.take a).drop p ++ rep ++ out)

noncomputable def eolsF : Bool → List Nat → List Nat
  | _, [] => []
  | k, c :: r => if c == 13 then 13 :: 10 :: eolsF true r else if c == 10 then (if k then eolsF false r else 13 :: 10 :: eolsF false r) else c :: eolsF false r
noncomputable def dotsF : Bool → List Nat → List Nat
  | _, [] => []
  | k, c :: r => if k && c == 46 then 46 :: 46 :: dotsF false r else c :: dotsF (c == 10) r

theorem drop_at {text : Array Nat} {s : Nat} (h : s < text.size) : text.toList.drop s = text.getD s 0 :: text.toList.drop (s + 1) := by
  have hl : s < text.toList.length := by rw [Array.length_toList]; exact h
  rw [List.drop_eq_getElem_cons hl]
  congr 1
  rw [Array.getD_eq_getD_getElem?, Array.getElem?_eq_getElem h]
  simp
theorem take_drop_at {text : Array Nat} {s e : Nat} (h : s < e) (he : e ≤ text.size) : (text.toList.take e).drop s = text.getD s 0 :: (text.toList.take e).drop (s + 1) := by
  have hl : s < (text.toList.take e).length := by rw [List.length_take, Array.length_toList]; omega
  rw [List.drop_eq_getElem_cons hl]
  congr 1
  rw [Array.getD_eq_getD_getElem?, Array.getElem?_eq_getElem (show s < text.size by omega)]
  simp
theorem take_drop_self {l : List Nat} {s : Nat} : (l.take s).drop s = [] := by
  apply List.drop_eq_nil_of_le; rw [List.length_take]; omega
theorem drop_end {text : Array Nat} {s : Nat} (h : text.size ≤ s) : text.toList.drop s = [] := List.drop_eq_nil_of_le (by rw [Array.length_toList]; exact h)

theorem eols_at {text : Array Nat} : ∀ (n s : Nat), s + n = text.size → match eolAt text n s with
    | none => eolsF false (text.toList.drop s) = text.toList.drop s
    | some e => eolsF false (text.toList.drop s) = (text.toList.take e).drop s ++ eolsF false (text.toList.drop e)
  | 0, s, h => by rw [drop_end (text := text) (s := s) (by omega)]; rfl
  | n + 1, s, h => by
    unfold eolAt
    cases hE : isEol (text.getD s 0)
    · have ih := eols_at (text := text) n (s + 1) (by omega)
      have h13 : (text.getD s 0 == 13) = false := by unfold isEol at hE; rw [Bool.or_eq_false_iff] at hE; exact hE.2
      have h10 : (text.getD s 0 == 10) = false := by unfold isEol at hE; rw [Bool.or_eq_false_iff] at hE; exact hE.1
      have e1 : eolsF false (text.toList.drop s) = text.getD s 0 :: eolsF false (text.toList.drop (s + 1)) := by
        rw [drop_at (text := text) (s := s) (by omega)]
        show (if (text.getD s 0 == 13) = true then _ else if (text.getD s 0 == 10) = true then _ else _) = _
        rw [h13, h10]; rfl
      rw [if_neg Bool.false_ne_true]
      cases hn : eolAt text n (s + 1) with
      | none =>
        rw [hn] at ih
        show eolsF false _ = _
        rw [e1, ih]; exact (drop_at (text := text) (s := s) (by omega)).symm
      | some e =>
        rw [hn] at ih
        obtain ⟨h1, h2, h3⟩ := eolAt_lt _ _ _ hn
        show eolsF false _ = _
        rw [e1, ih, take_drop_at (text := text) (s := s) (e := e) (by omega) (by omega)]; rfl
    · rw [if_pos rfl]
      show eolsF false _ = _
      rw [take_drop_self]; rfl

theorem subs2 {text : Array Nat} : ∀ (n p : Nat), p + n = text.size → Subs text (next2 text) [13, 10] p (eolsF false (text.toList.drop p)) := by
  intro n
  induction n using Nat.strongRecOn with
  | ind n ih =>
    intro p hp
    have h := eols_at n p hp
    have hsz : text.size - p = n := by omega
    cases hn : eolAt text n p with
    | none =>
      rw [hn] at h
      rw [show eolsF false (text.toList.drop p) = text.toList.drop p from h]
      exact .fin (by omega) (by unfold next2; rw [hsz, hn])
    | some e =>
      rw [hn] at h
      obtain ⟨h1, h2, h3⟩ := eolAt_lt _ _ _ hn
      have hlt : e < text.size := by omega
      rw [show eolsF false (text.toList.drop p) = (text.toList.take e).drop p ++ eolsF false (text.toList.drop e) from h]
      have go : ∀ b, b = (if text.getD e 0 == 13 && e + 1 < text.size && text.getD (e + 1) 0 == 10 then e + 2 else e + 1) → eolsF false (text.toList.drop e) = [13, 10] ++ eolsF false (text.toList.drop b) → e < b → b ≤ text.size → Subs text (next2 text) [13, 10] p ((text.toList.take e).drop p ++ eolsF false (text.toList.drop e)) := by
        intro b hb he h4 h5
        rw [he, ← List.append_assoc]
        refine .hit (b := b) (by unfold next2; rw [hsz, hn, hb]) h1 h4 h5 (ih (text.size - b) (by omega) b (by omega))
      rcases (by simpa [isEol] using h3 : text.getD e 0 = 10 ∨ text.getD e 0 = 13) with h4 | h4
      · refine go (e + 1) (by rw [h4]; rfl) ?_ (by omega) (by omega)
        rw [drop_at hlt, h4]; rfl
      · by_cases h5 : e + 1 < text.size
        · cases h6 : (text.getD (e + 1) 0 == 10)
          · refine go (e + 1) (by rw [h6, Bool.and_false]; rfl) ?_ (by omega) (by omega)
            rw [drop_at hlt, h4, drop_at h5]
            show 13 :: 10 :: eolsF true _ = 13 :: 10 :: eolsF false _
            congr 2
            show (if _ then _ else _) = (if _ then _ else _)
            rw [h6]; rfl
          · refine go (e + 2) (by rw [h4, h6, decide_eq_true h5]; rfl) ?_ (by omega) (by omega)
            rw [drop_at hlt, h4, drop_at h5, show text.getD (e + 1) 0 = 10 from by simpa using h6]; rfl
        · refine go (e + 1) (by rw [decide_eq_false h5, Bool.and_false, Bool.false_and]; rfl) ?_ (by omega) (by omega)
          rw [drop_at hlt, h4, drop_end (s := e + 1) (by omega)]; rfl

noncomputable def begAt (text : Array Nat) (s : Nat) : Bool := s == 0 || text.getD (s - 1) 0 == 10
theorem beg_next {text : Array Nat} {s : Nat} : begAt text (s + 1) = (text.getD s 0 == 10) := by
  unfold begAt; rw [Nat.add_sub_cancel]; simp

theorem dots_at {text : Array Nat} : ∀ (n s : Nat), s + n = text.size → match dotAt text n s with
    | none => dotsF (begAt text s) (text.toList.drop s) = text.toList.drop s
    | some e => dotsF (begAt text s) (text.toList.drop s) = (text.toList.take e).drop s ++ dotsF (begAt text e) (text.toList.drop e)
  | 0, s, h => by rw [drop_end (text := text) (s := s) (by omega)]; rfl
  | n + 1, s, h => by
    unfold dotAt
    cases hE : dotHere text s
    · have ih := dots_at (text := text) n (s + 1) (by omega)
      have e1 : dotsF (begAt text s) (text.toList.drop s) = text.getD s 0 :: dotsF (begAt text (s + 1)) (text.toList.drop (s + 1)) := by
        rw [drop_at (text := text) (s := s) (by omega), beg_next]
        have hE' : (begAt text s && text.getD s 0 == 46) = false := hE
        show (if (begAt text s && text.getD s 0 == 46) = true then _ else _) = _
        rw [hE']; rfl
      rw [if_neg Bool.false_ne_true]
      cases hn : dotAt text n (s + 1) with
      | none =>
        rw [hn] at ih
        show dotsF _ _ = _
        rw [e1, ih]; exact (drop_at (text := text) (s := s) (by omega)).symm
      | some e =>
        rw [hn] at ih
        obtain ⟨h1, h2, h3⟩ := dotAt_lt _ _ _ hn
        show dotsF _ _ = _
        rw [e1, ih, take_drop_at (text := text) (s := s) (e := e) (by omega) (by omega)]; rfl
    · rw [if_pos rfl]
      show dotsF _ _ = _
      rw [take_drop_self]; rfl

theorem subs1 {text : Array Nat} : ∀ (n p : Nat), p + n = text.size → Subs text (next1 text) [46, 46] p (dotsF (begAt text p) (text.toList.drop p)) := by
  intro n
  induction n using Nat.strongRecOn with
  | ind n ih =>
    intro p hp
    have h := dots_at n p hp
    have hsz : text.size - p = n := by omega
    cases hn : dotAt text n p with
    | none =>
      rw [hn] at h
      rw [show dotsF _ (text.toList.drop p) = text.toList.drop p from h]
      exact .fin (by omega) (by unfold next1; rw [hsz, hn])
    | some e =>
      rw [hn] at h
      obtain ⟨h1, h2, h3⟩ := dotAt_lt _ _ _ hn
      have hlt : e < text.size := by omega
      rw [show dotsF _ (text.toList.drop p) = (text.toList.take e).drop p ++ dotsF (begAt text e) (text.toList.drop e) from h]
      have h4 : (begAt text e && text.getD e 0 == 46) = true := h3
      have he : dotsF (begAt text e) (text.toList.drop e) = [46, 46] ++ dotsF (begAt text (e + 1)) (text.toList.drop (e + 1)) := by
        rw [drop_at hlt, beg_next]
        show (if (begAt text e && text.getD e 0 == 46) = true then _ else _) = _
        rw [h4]
        rw [Bool.and_eq_true] at h4
        rw [show text.getD e 0 = 46 from by simpa using h4.2]; rfl
      rw [he, ← List.append_assoc]
      exact .hit (b := e + 1) (by unfold next1; rw [hsz, hn]) h1 (by omega) (by omega) (ih (text.size - (e + 1)) (by omega) (e + 1) (by omega))

/-- _fix_eols and quotedata, on texts -/
noncomputable def eolsS (x : Str) : Str := ⟨(eolsF false x.cps.toList).toArray⟩
noncomputable def dotsS (x : Str) : Str := ⟨(dotsF true x.cps.toList).toArray⟩
noncomputable def quoteS (x : Str) : Str := dotsS (eolsS x)
theorem subs2' (x : Str) : Subs x.cps (next2 x.cps) [13, 10] 0 (eolsF false x.cps.toList) := subs2 x.cps.size 0 (by omega)
theorem subs1' (x : Str) : Subs x.cps (next1 x.cps) [46, 46] 0 (dotsF true x.cps.toList) := subs1 x.cps.size 0 (by omega)
theorem eolsF_len : ∀ (l : List Nat) (k : Bool), (eolsF k l).length ≤ 2 * l.length
  | [], k => Nat.zero_le _
  | c :: r, k => by
    unfold eolsF
    have h1 := eolsF_len r true
    have h2 := eolsF_len r false
    split
    · simp only [List.length_cons]; omega
    · split
      · split
        · simp only [List.length_cons]; omega
        · simp only [List.length_cons]; omega
      · simp only [List.length_cons]; omega
theorem dotsF_len : ∀ (l : List Nat) (k : Bool), (dotsF k l).length ≤ 2 * l.length
  | [], k => Nat.zero_le _
  | c :: r, k => by
    unfold dotsF
    have h1 := dotsF_len r (c == 10)
    have h2 := dotsF_len r false
    split <;> simp only [List.length_cons] <;> omega
theorem eolsS_len (x : Str) : (eolsS x).length ≤ 2 * x.length := by
  show (eolsF false x.cps.toList).toArray.size ≤ 2 * x.cps.size
  rw [List.size_toArray]; have := eolsF_len x.cps.toList false; rw [Array.length_toList] at this; exact this
theorem dotsS_len (x : Str) : (dotsS x).length ≤ 2 * x.length := by
  show (dotsF true x.cps.toList).toArray.size ≤ 2 * x.cps.size
  rw [List.size_toArray]; have := dotsF_len x.cps.toList true; rw [Array.length_toList] at this; exact this
end Mine
end
/-! F1 -/
section
open PySem PySem.W PyProof.Rows PySem.Spec PySem.Calls
set_option maxRecDepth 100000
namespace Mine
theorem pattern_attrs : PlainAttrs "re.Pattern" :=
  ⟨⟨"object.__getattribute__", by rw [typeLookup_type, builtinLookup_eq_fast]; kernel_rfl, by decide +kernel⟩, by rw [typeLookup_type, builtinLookup_eq_fast]; kernel_rfl⟩
theorem slot_sub : PySem.Slot "re.Pattern" "sub" "re.Pattern.sub" :=
  .of (owner := "re.Pattern") (n := "sub") (by rw [typeLookup_type, builtinLookup_eq_fast]; kernel_rfl) (by decide +kernel) (by decide +kernel) (by decide +kernel)
    (by first | exact .inl (by decide +kernel) | exact .inr (by decide +kernel)) (by rw [isSubtype_type]; kernel_rfl)
theorem type_sub : typeOf (.builtin "re.Pattern.sub") = pure (.type "method_descriptor") := by show builtinType _ = _; rw [builtinType_eq_fast]; kernel_rfl
theorem entry_sub : entryFor table "re.Pattern.sub" = some Builtin.«re.Pattern.sub» := entryFor_of_tree (by kernel_rfl)
theorem entry_sub_loop : entryFor table "re.Pattern.sub.loop" = some Builtin.«re.Pattern.sub.loop» := entryFor_of_tree (by kernel_rfl)
theorem quiet_sub_loop (args : Args) : (Code.builtin "re.Pattern.sub.loop" args).quiet = true := Code.quiet_builtin args (by decide +kernel)
theorem owner_pattern : Manifest.owners.lookup (String.ofList ['n', 'r', 'e', 't', 't', 'a', 'P', '.', 'e', 'r'].reverse) = some Manifest.sig_re_Pattern := by kernel_rfl
theorem args_sub (a b c : Value) : argsOk "re.Pattern.sub" ⟨[a, b, c], []⟩ := by
  unfold argsOk; rw [signature?_of (id := "re.Pattern.sub") (n := ['b', 'u', 's']) (o := ['n', 'r', 'e', 't', 't', 'a', 'P', '.', 'e', 'r']) (by kernel_rfl) owner_pattern]; kernel_rfl
end Mine
end
/-! R3 -/
section
open PySem PySem.W PyProof.Rows PySem.Spec PySem.Calls
set_option maxRecDepth 100000
set_option maxHeartbeats 400000
set_option linter.unusedVariables false
set_option linter.unusedSimpArgs false
namespace Mine
open PySem.Builtin.Re

section
variable {M : Model} {A : Around} {E : Value → Shared → Prop} {s : Shared}
theorem wpAny_tags {Q : PUnit → Shared → Prop} (f : Nat → Bool) (g : Nat → String) (h : Q ⟨⟩ s) : ∀ l : List Nat, wpAny M A (forIn l PUnit.unit fun i r => if f i = true then (do rule (g i); pure (ForInStep.yield PUnit.unit)) else pure (ForInStep.yield PUnit.unit)) Q E s
  | [] => wpAny_pure h
  | i :: l => by
    rw [List.forIn_cons]
    refine wpAny_bind ?_
    split
    · exact wpAny_bind (wpAny_rule (wpAny_pure (wpAny_tags f g h l)))
    · exact wpAny_pure (wpAny_tags f g h l)

theorem wpAny_next {t : ReTarget} {p N : Nat} {r : Option (Nat × Nat)} {Q : Option Sre.M → Shared → Prop} (h : Hits (Sre.forSearch t.code t.text t.groups p t.lim false) N r) (hN : N ≤ 4 * 2 ^ 64)
    (h0 : r = none → Q none s) (h1 : ∀ a b m, r = some (a, b) → m.start = a → m.handed = b → Q (some m) s) : wpAny M A (reNextFound t p false) Q E s := by
  unfold reNextFound reRunToEnd
  cases r with
  | none =>
    obtain ⟨n, hn, ho⟩ := h
    refine wpAny_bind (wpAny_reDrive _ _ n (by omega) (by decide) (by rw [ho]; rfl) ?_)
    refine wpAny_bind (wpAny_tags _ _ ?_ _)
    show wpAny M A (match (it n _).outcome with | some .matched => _ | some .failed => _ | some (.stuck why) => _ | none => _) Q E s
    rw [ho]
    exact wpAny_pure (h0 rfl)
  | some ab =>
    obtain ⟨n, hn, ho, ha, hb⟩ := h
    refine wpAny_bind (wpAny_reDrive _ _ n (by omega) (by decide) (by rw [ho]; rfl) ?_)
    refine wpAny_bind (wpAny_tags _ _ ?_ _)
    show wpAny M A (match (it n _).outcome with | some .matched => _ | some .failed => _ | some (.stuck why) => _ | none => _) Q E s
    rw [ho]
    exact wpAny_pure (h1 _ _ _ rfl ha hb)
end

/-- a compiled pattern at an address -/
structure PatAt (h : Heap) (a : Addr) (code : Array Nat) : Prop where
  ob : ∃ (pat gi ix : Value) (fl ct : Addr) (t1 t2 t3 : Tok) (n : Nat) (f1 : Int), h.get? a = some { cls := .type "re.Pattern", data := .fields #[pat, .int f1 t1, .int 0 t2, gi, ix, .ref ct, .int 0 t3] } ∧
    ∃ items, (∃ o, h.get? ct = some o ∧ o.data = .seq items n) ∧ (items.map reRawOf).map (·.toNat) = code
theorem PatAt.mono {h h' : Heap} {a : Addr} {code : Array Nat} (p : PatAt h a code) (hk : ∀ b o, h.get? b = some o → h'.get? b = some o) : PatAt h' a code := by
  obtain ⟨pat, gi, ix, fl, ct, t1, t2, t3, n, f1, e, items, ⟨o, ho, hd⟩, hc⟩ := p.ob
  exact ⟨pat, gi, ix, fl, ct, t1, t2, t3, n, f1, hk _ _ e, items, ⟨o, hk _ _ ho, hd⟩, hc⟩

section
variable {prog : Program} {w : World} {A : Around} {E : Value → Shared → Prop} {s : Shared}
theorem wpAny_target {a : Addr} {code : Array Nat} {x : Str} {u : Tok} {Q : ReTarget → Shared → Prop} (p : PatAt s.heap a code)
    (h : Q { pattern := .ref a, string := .str x u, code := code, text := x.cps, kind := 0, groups := 0, pos := 0, lim := x.cps.size } s) : wpAny (model prog w) A (reWholeTarget (.ref a) (.str x u)) Q E s := by
  obtain ⟨pat, gi, ix, fl, ct, t1, t2, t3, n, f1, e, items, ⟨o, ho, hd⟩, hc⟩ := p.ob
  unfold reWholeTarget
  refine wpAny_bind (wpAny_fieldsOf e rfl ?_)
  refine wpAny_bind (wpAny_pure ?_)
  refine wpAny_bind (m := reRawItems (.ref ct)) ?_
  unfold reRawItems
  refine wpAny_bind (wpAny_seqItems ho hd ?_)
  refine wpAny_pure ?_
  show wpAny _ _ (pure { pattern := .ref a, string := .str x u, code := (items.map reRawOf).map (·.toNat), text := x.cps, kind := 0, groups := 0, pos := 0, lim := x.cps.size }) Q E s
  rw [hc]
  exact wpAny_pure h
end

noncomputable def chars (x : Str) : List Nat := x.cps.toList
theorem strs_snoc {vs : List Value} {ys : List Str} {y : Str} {t : Tok} (h : StrsAre vs ys) : StrsAre (vs ++ [.str y t]) (ys ++ [y]) := by
  induction h with
  | nil => exact .cons _ _ .nil
  | cons x t _ ih => exact .cons _ _ ih

/-- the pieces joined -/
noncomputable def joined (ys : List Str) : List Nat := (ys.map chars).flatten
theorem joined_snoc (ys : List Str) (y : Str) : joined (ys ++ [y]) = joined ys ++ chars y := by unfold joined; simp
theorem join_chars : ∀ ys : List Str, (Str.join (⟨#[]⟩ : Str) ys) = ⟨(joined ys).toArray⟩
  | [] => rfl
  | [x] => by show x = ⟨(chars x ++ []).toArray⟩; unfold chars; simp
  | x :: y :: r => by
    show x ++ (⟨#[]⟩ : Str) ++ Str.join _ (y :: r) = _
    rw [join_chars (y :: r)]
    have e : joined (x :: y :: r) = chars x ++ joined (y :: r) := rfl
    rw [e]
    show (⟨(x.cps ++ #[]) ++ (joined (y :: r)).toArray⟩ : Str) = ⟨(chars x ++ joined (y :: r)).toArray⟩
    unfold chars; congr 1; simp
theorem joined_len (ys : List Str) : (ys.map (·.length)).sum = (joined ys).length := by
  unfold joined
  rw [List.length_flatten, List.map_map]
  congr 1

theorem ext_len {x : Array Nat} {b e : Nat} (he : e ≤ x.size) : (x.extract b e).size ≤ x.size := by rw [Array.size_extract]; omega
theorem slice_chars (x : Array Nat) (b e : Nat) : chars ⟨x.extract b e⟩ = (x.toList.take e).drop b := by
  unfold chars
  show (x.extract b e).toList = _
  rw [Array.toList_extract, List.extract_eq_take_drop, List.drop_take]

noncomputable def tgt (a : Addr) (x : Str) (u : Tok) (code : Array Nat) : ReTarget := { pattern := .ref a, string := .str x u, code := code, text := x.cps, kind := 0, groups := 0, pos := 0, lim := x.cps.size }

section
variable {M : Model} {A : Around} {E : Value → Shared → Prop} {s : Shared}
theorem wpAny_pushL {L : Addr} {vs : List Value} {n : Nat} {v : Value} {h1 : Heap} {Q : Unit → Shared → Prop} (hl : s.heap.get? L = some (LO vs n)) (hL : h1.get? L = none) (hk : ∀ b o, h1.get? b = some o → s.heap.get? b = some o) (hsz : vs.length ≤ sizeLine)
    (K : ∀ h' n', h'.get? L = some (LO (vs ++ [v]) n') → (∀ b o, h1.get? b = some o → h'.get? b = some o) → Q () { s with heap := h' }) : wpAny M A (updateSeq L (·.push v)) Q E s := by
  refine wpAny_updateSeq hl rfl ?_ (by rw [List.size_toArray]; exact hsz) (by rw [Array.size_push, List.size_toArray]; omega)
  have e := Heap.get?_update_self (Obj.mapSeq (·.push v)) hl rfl
  have e' : vs.toArray.push v = (vs ++ [v]).toArray := by simp
  refine K _ (n + 1) ?_ fun b o hb => ?_
  · rw [e]; unfold LO Obj.mapSeq; dsimp only; rw [e', show ((vs ++ [v]).toArray.size == vs.toArray.size) = false from by simp]; rfl
  · have hne : b ≠ L := by rintro rfl; rw [hL] at hb; cases hb
    exact (Heap.get?_update_ne _ _ _ _ hne).trans (hk _ _ hb)
end

theorem codeAny_sub_loop {prog : Program} {w : World} {A : Around} {R : Result → Shared → Prop} {a L : Addr} {code : Array Nat} {x rep : Str} {u v : Tok} {nx : Nat → Option (Nat × Nat)} {N : Nat} (hN : N ≤ 4 * 2 ^ 64)
    (hnx : ∀ p, p ≤ x.cps.size → Hits (Sre.forSearch code x.cps 0 p x.cps.size false) N (nx p)) (hx : x.length ≤ 100000) {hp1 : Heap} (P : PatAt hp1 a code) (hL : hp1.get? L = none) {p : Nat} {out : List Nat} (hs : Subs x.cps nx (chars rep) p out) :
    ∀ (s : Shared) (vs : List Value) (ys : List Str) (n : Nat) (n' : Int) (t1 t2 t3 t4 t5 : Tok), p ≤ x.cps.size → (∀ b o, hp1.get? b = some o → s.heap.get? b = some o) → s.heap.get? L = some (LO vs n) → StrsAre vs ys → ys.length ≤ 2 * p → (joined ys).length + out.length ≤ 400000 →
      (∀ h' tk t', (∀ b o, hp1.get? b = some o → h'.get? b = some o) → R (.ok (.ret (.str ⟨(joined ys ++ out).toArray⟩ tk))) { s with heap := h', toks := t' }) →
      codeAny (model prog w) A (.builtin "re.Pattern.sub.loop" ⟨[.ref a, .str x u, .str rep v, .int 0 t1, .int 0 t2, .int n' t3, .int p t4, .int p t5, .bool false, .ref L, .bool false], []⟩) R s := by
  have hxs : x.cps.size ≤ 100000 := hx
  have hsl := sizeLine_eq
  induction hs with
  | @fin p hp h =>
    intro s vs ys n n' t1 t2 t3 t4 t5 _ hk hl hys hc hz K
    refine codeAny_builtin entry_sub_loop ?_
    refine wpAny_bind (wpAny_target (P.mono hk) ?_)
    dsimp only
    refine wpAny_bind ?_
    rw [if_neg (by simp)]
    have ep : ((p : Nat) : Int).toNat = p := Int.toNat_natCast p
    rw [ep]
    refine wpAny_pure (wpAny_bind ?_)
    refine wpAny_next (t := tgt a x u code) (r := nx p) (hnx p hp) hN (fun _ => ?_) (fun a b m e => by rw [h] at e; cases e)
    dsimp only
    have fini : ∀ (s2 : Shared) vs2 ys2 n2, s2.heap.get? L = some (LO vs2 n2) → StrsAre vs2 ys2 → joined ys2 = joined ys ++ x.cps.toList.drop p → ys2.length ≤ 300000 → (∀ b o, hp1.get? b = some o → s2.heap.get? b = some o) → (∃ h t, s2 = { s with heap := h, toks := t }) →
        wpAny (model prog w) (A.under (.builtin "re.Pattern.sub.loop" ⟨[.ref a, .str x u, .str rep v, .int 0 t1, .int 0 t2, .int n' t3, .int p t4, .int p t5, .bool false, .ref L, .bool false], []⟩)) (do
                let joiner ← reSlice x.cps 0 0 0
                let __do_lift ← seqItems? (Value.ref L)
                if (__do_lift.getD #[]).isEmpty = true then do
                    let text ← pure joiner
                    if false = true then do
                        let __do_lift ←
                          holding [text] do
                              let __do_lift ← mkInt n'
                              newTuple [text, __do_lift]
                        ret __do_lift
                      else ret text
                  else do
                    let text ←
                      call (Value.builtin (if (0 == 0) = true then "str.join" else "bytes.join")) [joiner, Value.ref L]
                    if false = true then do
                        let __do_lift ←
                          holding [text] do
                              let __do_lift ← mkInt n'
                              newTuple [text, __do_lift]
                        ret __do_lift
                      else ret text) (fun fin s' =>
          match fin with
          | Fin.done f => R (Except.ok f) s'
          | Fin.again c' => c'.quiet = true ∧ codeAny (model prog w) A c' R s')
        (fun e s' => R (Except.error e) s') s2 := by
      rintro s2 vs2 ys2 n2 hl2 hys2 hj hlen hk2 ⟨h, t, rfl⟩
      refine wpAny_bind (wpAny_mkStr ?_ (by show (x.cps.extract 0 0).size ≤ _; rw [Array.size_extract]; omega))
      refine wpAny_bind (wpAny_seqItems hl2 rfl ?_)
      dsimp only
      have hjo : (joined ys2).length ≤ 400000 := by rw [hj, List.length_append]; exact hz
      cases hys2 with
      | nil =>
        rw [if_pos (show ((some (#[] : Array Value)).getD #[]).isEmpty = true from rfl)]
        refine wpAny_bind (wpAny_pure ?_)
        refine wpAny_pure ?_
        rw [← hj] at K
        show R (.ok (.ret (.str ⟨x.cps.extract 0 0⟩ t))) _
        rw [show x.cps.extract 0 0 = #[] from by simp]
        exact K _ _ _ hk2
      | cons y0 t0 hys3 =>
        rw [if_neg (by simp [LO])]
        refine wpAny_bind (join_listW (x := ⟨x.cps.extract 0 0⟩) (items := (_ :: _ : List Value).toArray) ⟨_, hl2, rfl, _, rfl⟩ (.cons y0 t0 hys3) (by show (x.cps.extract 0 0).size ≤ 16; rw [Array.size_extract]; omega) (by rw [joined_len]; omega) fun t' k => ?_)
        refine wpAny_pure ?_
        have ex : (⟨x.cps.extract 0 0⟩ : Str) = ⟨#[]⟩ := by congr 1; simp
        rw [ex]
        rw [show ∀ l, Txt.join (⟨#[]⟩ : Str) l = _ from fun l => (StrLaws.glued_eq_join _ l).trans (join_chars l), hj]
        exact K _ _ _ hk2
    by_cases hlt : p < x.cps.size
    · rw [if_pos hlt]
      refine wpAny_bind (wpAny_mkStr ?_ (by show (x.cps.extract p x.cps.size).size ≤ _; rw [Array.size_extract]; omega))
      refine wpAny_bind (wpAny_pushL hl hL hk (by rw [hys.len_eq]; omega) fun h' n2 hl2 hk2 => ?_)
      refine fini _ _ _ n2 hl2 (strs_snoc hys) ?_ ?_ hk2 ⟨_, _, rfl⟩
      · rw [joined_snoc, slice_chars]
        congr 1
        rw [List.take_of_length_le (by rw [Array.length_toList]; exact Nat.le_refl _)]
      · rw [List.length_append]; show _ + 1 ≤ _; omega
    · rw [if_neg hlt]
      refine fini _ _ _ n hl hys ?_ (by omega) hk ⟨_, _, rfl⟩
      rw [drop_end (by omega), List.append_nil]
  | @hit p e b out h h1 h2 h3 _ ih =>
    intro s vs ys n n' t1 t2 t3 t4 t5 hp hk hl hys hc hz K
    refine codeAny_builtin entry_sub_loop ?_
    refine wpAny_bind (wpAny_target (P.mono hk) ?_)
    dsimp only
    refine wpAny_bind ?_
    rw [if_neg (by simp)]
    have ep : ((p : Nat) : Int).toNat = p := Int.toNat_natCast p
    rw [ep]
    refine wpAny_pure (wpAny_bind ?_)
    refine wpAny_next (t := tgt a x u code) (r := nx p) (hnx p hp) hN (fun e => by rw [h] at e; cases e) (fun a' b' m e' em eb => ?_)
    rw [h] at e'; cases e'
    dsimp only
    rw [em, eb]
    have more : ∀ (s2 : Shared) vs2 ys2 n2, s2.heap.get? L = some (LO vs2 n2) → StrsAre vs2 ys2 → joined ys2 = joined ys ++ (x.cps.toList.take e).drop p → ys2.length ≤ ys.length + 1 → (∀ b o, hp1.get? b = some o → s2.heap.get? b = some o) → (∃ h t, s2 = { s with heap := h, toks := t }) →
        wpAny (model prog w) (A.under (.builtin "re.Pattern.sub.loop" ⟨[.ref a, .str x u, .str rep v, .int 0 t1, .int 0 t2, .int n' t3, .int p t4, .int p t5, .bool false, .ref L, .bool false], []⟩)) (
          if ((0 : Int) == 0) = true then do
          let item ← pure (Value.str rep v)
          if (item != Value.none) = true then do
              updateSeq L fun x => x.push item
              again
                  (Code.builtin "re.Pattern.sub.loop"
                    {
                      pos :=
                        [Value.ref a, Value.str x u, Value.str rep v, rawInt 0, rawInt 0, rawInt (n' + 1), rawInt ↑b,
                          rawInt ↑b, Value.bool (b == e), Value.ref L, Value.bool false] })
            else
              again
                (Code.builtin "re.Pattern.sub.loop"
                  {
                    pos :=
                      [Value.ref a, Value.str x u, Value.str rep v, rawInt 0, rawInt 0, rawInt (n' + 1), rawInt ↑b,
                        rawInt ↑b, Value.bool (b == e), Value.ref L, Value.bool false] })
          else do
          let found ← reNewMatch (Value.ref a) (Value.str x u) 0 0 x.cps.size m
          let item ←
            holding [found]
                (if ((0 : Int) == 1) = true then call (Value.str rep v) [found]
                else do
                  let __do_lift ← reFound found
                  reExpand (Value.str rep v) __do_lift)
          if (item != Value.none) = true then do
              updateSeq L fun x => x.push item
              again
                  (Code.builtin "re.Pattern.sub.loop"
                    {
                      pos :=
                        [Value.ref a, Value.str x u, Value.str rep v, rawInt 0, rawInt 0, rawInt (n' + 1), rawInt ↑b,
                          rawInt ↑b, Value.bool (b == e), Value.ref L, Value.bool false] })
            else
              again
                (Code.builtin "re.Pattern.sub.loop"
                  {
                    pos :=
                      [Value.ref a, Value.str x u, Value.str rep v, rawInt 0, rawInt 0, rawInt (n' + 1), rawInt ↑b,
                        rawInt ↑b, Value.bool (b == e), Value.ref L, Value.bool false] })) (fun fin s' =>
          match fin with
          | Fin.done f => R (Except.ok f) s'
          | Fin.again c' => c'.quiet = true ∧ codeAny (model prog w) A c' R s')
        (fun e s' => R (Except.error e) s') s2 := by
      rintro s2 vs2 ys2 n2 hl2 hys2 hj hlen hk2 ⟨h, t, rfl⟩
      rw [if_pos (show ((0 : Int) == 0) = true from rfl)]
      refine wpAny_bind (wpAny_pure ?_)
      rw [if_pos (show (Value.str rep v != Value.none) = true from rfl)]
      refine wpAny_bind (wpAny_pushL hl2 hL hk2 (by rw [hys2.len_eq]; omega) fun h' n3 hl3 hk3 => ?_)
      have hne : (b == e) = false := by rw [beq_eq_false_iff_ne]; omega
      rw [hne]
      refine wpAny_pure ⟨quiet_sub_loop _, ?_⟩
      have hj3 : joined (ys2 ++ [rep]) = joined ys ++ (x.cps.toList.take e).drop p ++ chars rep := by rw [joined_snoc, hj]
      refine ih _ _ (ys2 ++ [rep]) n3 (n' + 1) 0 0 0 0 0 h3 hk3 hl3 (strs_snoc hys2) (by rw [List.length_append]; show _ + 1 ≤ _; omega) ?_ fun h' tk t' hk' => ?_
      · rw [hj3]; simp only [List.length_append] at hz ⊢; omega
      · rw [hj3]
        have := K h' tk t' hk'
        simpa only [List.append_assoc] using this
    by_cases hlt : p < e
    · rw [if_pos hlt]
      refine wpAny_bind (wpAny_mkStr ?_ (by show (x.cps.extract p e).size ≤ _; rw [Array.size_extract]; omega))
      refine wpAny_bind (wpAny_pushL hl hL hk (by rw [hys.len_eq]; omega) fun h' n2 hl2 hk2 => ?_)
      refine more _ _ _ n2 hl2 (strs_snoc hys) ?_ ?_ hk2 ⟨_, _, rfl⟩
      · rw [joined_snoc, slice_chars]
      · rw [List.length_append]; exact Nat.le_refl _
    · rw [if_neg hlt]
      refine more _ _ _ n hl hys ?_ (by omega) hk ⟨_, _, rfl⟩
      rw [show e = p from by omega, take_drop_self, List.append_nil]
end Mine
end
/-! R4 -/
section
open PySem PySem.W PyProof.Rows PySem.Spec PySem.Calls
set_option maxRecDepth 100000
set_option maxHeartbeats 400000
set_option linter.unusedVariables false
set_option linter.unusedSimpArgs false
namespace Mine
open PySem.Builtin.Re

theorem str_nocall : typeLookup (.type "str") (Str.ofString "__call__") = pure none := by
  rw [typeLookup_type, builtinLookup_eq_fast]; kernel_rfl

theorem F_sub {w : World} {h0 : Heap} {a : Addr} {code : Array Nat} {x rep : Str} {nx : Nat → Option (Nat × Nat)} {N : Nat} {out : List Nat} (P : PatAt h0 a code) (hN : N ≤ 4 * 2 ^ 64)
    (hnx : ∀ p, p ≤ x.cps.size → Hits (Sre.forSearch code x.cps 0 p x.cps.size false) N (nx p)) (hx : x.length ≤ 100000) (hs : Subs x.cps nx (chars rep) 0 out) (hout : out.length ≤ 400000) (hrep : rep.cps.contains 92 = false) :
    FnOk w h0 (.builtin "re.Pattern.sub") [.val (.ref a), .str rep, .str x] (.str ⟨out.toArray⟩) 0 := by
  constructor
  intro A z s vs Q E hA hd hu zh hb hvs K
  obtain ⟨v, r, rfl, hv, v2, r2, rfl, ⟨t2, rfl⟩, v3, r3, rfl, ⟨t3, rfl⟩, hr⟩ := hvs
  obtain rfl : v = .ref a := hv
  obtain rfl : r3 = [] := hr
  have hk0 : ∀ b o, h0.get? b = some o → s.heap.get? b = some o := fun b o e => zh _ _ (hb _ _ e)
  have hT : s.TypeIs (.ref a) "re.Pattern" := by
    obtain ⟨pat, gi, ix, fl, ct, t1, t2, t3, n, f1, e, _⟩ := (P.mono hk0).ob
    exact ⟨_, e, rfl⟩
  refine wpAny_call (codeAny_call_builtin slot_sub.plain entry_sub (slot_sub.check _ _ _ _ _ _ _ _ hT (args_sub _ _ _) ?_))
  show wpAny _ _ (reSubstitute "re.Pattern.sub" "sub" false ⟨[.ref a, .str rep t2, .str x t3], []⟩) _ _ _
  unfold reSubstitute
  dsimp only
  refine wpAny_bind (m := reNamed "re.Pattern.sub" "sub" ["repl", "string", "count"] 2 [.str rep t2, .str x t3] []) ?_
  rw [show reNamed "re.Pattern.sub" "sub" ["repl", "string", "count"] 2 [.str rep t2, .str x t3] [] = pure [some (.str rep t2), some (.str x t3), none] from rfl]
  refine wpAny_pure ?_
  dsimp only
  refine wpAny_bind (wpAny_pure ?_)
  refine wpAny_bind (wpAny_specialOf (T := "str") (typeIs_str _ _ _) str_nocall ?_)
  refine wpAny_bind (m := (pure (some rep) : Sem (Option Str))) (wpAny_pure ?_)
  dsimp only
  rw [hrep]
  refine wpAny_bind (wpAny_pure ?_)
  refine wpAny_ite ?_
  rw [if_neg (show ¬ (none : Option Value).isSome = true from by simp)]
  refine wpAny_ite ?_
  rw [if_pos (show (!false) = true from rfl)]
  refine wpAny_bind (wpAny_pure ?_)
  refine wpAny_bind (wpAny_holding (wpAny_target (P.mono hk0) ?_))
  refine wpAny_ite ?_
  rw [if_neg (show ¬ ((0 : Int) == 1) = true from by decide)]
  refine wpAny_bind (wpAny_newList ?_)
  refine wpAny_pure ⟨quiet_sub_loop _, ?_⟩
  have hL : s.heap.get? s.heap.objs.size = none := get_size_none _
  refine codeAny_sub_loop (code := code) (nx := nx) (N := N) (hp1 := s.heap) hN hnx hx (P.mono hk0) hL hs _ [] [] 0 0 _ _ _ _ _ (Nat.zero_le _) (fun b o e => push_keeps _ _ _ _ e) (Heap.get?_push_size _ rfl) .nil (Nat.zero_le _) (by show 0 + _ ≤ _; omega) fun h' tk t' hk' => ?_
  exact K _ z h' t' (PM.le.refl z) (fun b o e => hk' _ _ (zh _ _ e)) hk' (fun _ h => .inl h) ⟨tk, rfl⟩
end Mine
end
/-! B11 -/
section
open PySem PySem.W PyProof.Rows PySem.Spec PySem.Calls
set_option maxRecDepth 100000
set_option maxHeartbeats 1000000
set_option linter.unusedVariables false
namespace Mine
variable {c : Cx} {ρ ρ' ρ₂ : Frame}

/-- a method of a built-in type -/
theorem E_meth (ok : CxOk c) {recv e : Expr} {rest : List Expr} {name : Str} {ap p2 : Pos} {T id : String} {d0 d : D} {ds : List D} {rk : Nat}
    (hr : EOk c ρ recv d0) (hT : ∀ o z R s v, St c ρ o z R s → Rep z d0 v → s.TypeIs v T ∧ ∀ a, v = .ref a → ∃ ob, s.heap.get? a = some ob ∧ ob.dict = none)
    (pa : PlainAttrs T) (slot : PySem.Slot T name id) (hty : typeOf (.builtin id) = pure (.type "method_descriptor"))
    (ha : AOk c ρ (e :: rest) ds) (hc : FnOk c.w c.h0 (.builtin id) (d0 :: ds) d rk) (hrm : Room c rk)
    (he : starEach (e :: rest) c.env = (false, eval e c.env) :: starEach rest c.env := by rfl) (hp : (backTo p2 (starEach rest c.env)).any (·.1) = false := by rfl)
    (hme : eval (.Call (.Attribute recv name ap) (e :: rest) [] p2) c.env = (do
      let ov ← eval recv c.env
      standAt ap.atName
      let (f, first) ← holding [ov] (getMethod ov name (do return (← importBound recv c.env).getD true))
      callWith p2 f first (backTo p2 (starEach (e :: rest) c.env)) []) := by rfl) : EOk c ρ (.Call (.Attribute recv name ap) (e :: rest) [] p2) d := by
  constructor
  intro o z R s Q E S K
  refine MethodCall_ (pl := (do return (← importBound recv c.env).getD true)) (hr.run o z R s _ _ S fun v z1 s1 le1 S1 r1 => ?_) hme
  obtain ⟨hT1, hd1⟩ := hT o z1 R s1 v S1 r1
  refine getMethod_builtin hT1 pa slot hty hd1 ?_
  refine callWith_method1 (ha.run p2 o z1 R s1 _ _ S1 fun vs z2 s2 le2 S2 r2 => ?_) he hp
  exact hc.at ok hrm S2 (vs := v :: vs) (Reps.cons (Rep.mono le2.le d0 r1) r2) fun v z3 s3 le3 S3 r3 => K v z3 s3 (le1.trans (le2.trans le3)) S3 r3

theorem is_str {o : Str → Addr} {z R : PM} {s : Shared} {v : Value} {x : Str} (S : St c ρ o z R s) (h : Rep z (.str x) v) : s.TypeIs v "str" ∧ ∀ a, v = .ref a → ∃ ob, s.heap.get? a = some ob ∧ ob.dict = none := by
  obtain ⟨t, rfl⟩ := h
  exact ⟨typeIs_str _ _ _, fun a e => by cases e⟩
theorem is_pat {a : Addr} {code : Array Nat} {o : Str → Addr} {z R : PM} {s : Shared} {v : Value} (P : PatAt c.h0 a code) (S : St c ρ o z R s) (h : Rep z (.val (.ref a)) v) : s.TypeIs v "re.Pattern" ∧ ∀ a, v = .ref a → ∃ ob, s.heap.get? a = some ob ∧ ob.dict = none := by
  obtain rfl : v = .ref a := h
  obtain ⟨pat, gi, ix, fl, ct, t1, t2, t3, n, f1, e, _⟩ := (P.mono S.keep).ob
  exact ⟨⟨_, e, rfl⟩, fun b e' => by cases e'; exact ⟨_, e, rfl⟩⟩

section
variable {w : World} {h0 : Heap} {rk : Nat}
theorem strs_of {z : PM} : ∀ {ys : List Str} {vs : List Value}, Reps z (ys.map D.str) vs → StrsAre vs ys
  | [], _, e => by rw [show _ = [] from e]; exact .nil
  | y :: ys, _, ⟨v, r, e, ⟨t, hv⟩, h⟩ => by subst e; rw [hv]; exact .cons y t (strs_of h)
theorem reps_strs {z : PM} : ∀ (l : List (Str × Tok)), Reps z ((l.map (·.1)).map D.str) (strValues l)
  | [] => rfl
  | p :: l => ⟨_, _, rfl, ⟨p.2, rfl⟩, reps_strs l⟩

theorem F_join {x : Str} {ys : List Str} (hsep : x.length ≤ 16) (hw : (ys.map (·.length)).sum + ys.length ≤ 1048576) : FnOk w h0 (.builtin "str.join") [.str x, .list (ys.map D.str)] (.str (Str.join x ys)) 0 := by
  constructor
  intro A z s vs Q E hA hd hu zh hb hvs K
  obtain ⟨v, r, rfl, ⟨t, rfl⟩, v2, r2, rfl, ⟨a, ws, n, rfl, ha, hws⟩, hr⟩ := hvs
  obtain rfl : r2 = [] := hr
  refine join_listW (items := ws.toArray) ⟨_, zh _ _ ha, rfl, _, rfl⟩ (strs_of hws) hsep hw fun t' k => ?_
  rw [show Txt.join x ys = Str.join x ys from StrLaws.glued_eq_join _ _]
  exact K _ z s.heap k (PM.le.refl z) zh (fun _ _ e => e) (fun _ h => .inl h) ⟨_, rfl⟩

open PySem.Builtin PySem.Builtin.Str in
theorem F_split {x y : Str} (hy : (y.length == 0) = false) (hsz : x.length + 2 ≤ sizeLine) : FnOk w h0 (.builtin "str.split") [.str x, .str y] (.list ((Txt.split x y).map D.str)) 0 := by
  constructor
  intro A z s vs Q E hA hd hu zh hb hvs K
  obtain ⟨v, r, rfl, ⟨t, rfl⟩, v2, r2, rfl, ⟨u, rfl⟩, hr⟩ := hvs
  obtain rfl : r2 = [] := hr
  have h : ∀ (l : List (Str × Tok)) k, l.map (·.1) = Txt.split x y → Q (.ref s.heap.objs.size) { s with heap := s.heap.push { cls := .type "list", data := .seq (strValues l).toArray }, toks := k } := fun l k e => by
    obtain ⟨g1, g2, g3, g4⟩ := grow1 zh (fun _ _ e => e) (LO (strValues l) 0)
    refine K _ _ _ k g1 g2 g3 g4 ⟨_, strValues l, 0, rfl, PM.put_self _ _ _, ?_⟩
    rw [← e]; exact reps_strs l
  have hn : (partsBetween x (occurrences x y 0 x.length (x.length + 1)) y.length).length ≤ sizeLine := by
    have e1 := StrLaws.occ_length_le x y 0 x.length (x.length + 1)
    rw [length_partsBetween]; omega
  cases h1 : (decide (x.length < y.length) || decide (strKind x < strKind y))
  · cases hf : (occurrences x y 0 x.length (x.length + 1)).isEmpty
    · refine call_meets F.slot_str_split (typeIs_str _ _ _) F.entry_str_split (F.args_str_split_2 _ _) (meets_str_split_sep x y t u h1 hy hf (by omega) hn) ?_
      show wants Q E _ { s with toks := _, heap := s.heap.push { cls := .type "list", data := .seq (strsFrom s.toks (partsBetween x (occurrences x y 0 x.length (x.length + 1)) y.length)).toArray } }
      rw [strsFrom_eq]
      exact h (numbered s.toks _) _ ((numbered_texts _ _).trans ((if_neg (ne_true_of_eq_false h1)).trans (if_neg (ne_true_of_eq_false hf))).symm)
    · exact call_meets F.slot_str_split (typeIs_str _ _ _) F.entry_str_split (F.args_str_split_2 _ _) (meets_str_split_not_found x y t u h1 hy hf)
        (h [(x, t)] s.toks ((if_neg (ne_true_of_eq_false h1)).trans (if_pos hf)).symm)
  · exact call_meets F.slot_str_split (typeIs_str _ _ _) F.entry_str_split (F.args_str_split_2 _ _) (meets_str_split_cannot_occur x y t u h1)
      (h [(x, t)] s.toks (if_pos h1).symm)
end

theorem E_joinM (ok : CxOk c) {recv e : Expr} {ap p2 : Pos} {x : Str} {ys : List Str} (hr : EOk c ρ recv (.str x)) (ha : EOk c ρ e (.list (ys.map D.str))) (hsep : x.length ≤ 16) (hw : (ys.map (·.length)).sum + ys.length ≤ 1048576) (hrm : Room c 0)
    (he : starEach [e] c.env = (false, eval e c.env) :: starEach [] c.env := by rfl)
    (hme : eval (.Call (.Attribute recv "join" ap) [e] [] p2) c.env = (do
      let ov ← eval recv c.env
      standAt ap.atName
      let (f, first) ← holding [ov] (getMethod ov "join" (do return (← importBound recv c.env).getD true))
      callWith p2 f first (backTo p2 (starEach [e] c.env)) []) := by rfl) : EOk c ρ (.Call (.Attribute recv "join" ap) [e] [] p2) (.str (Str.join x ys)) :=
  E_meth ok hr (fun _ _ _ _ _ S h => is_str S h) F.plainAttrs_str F.slot_str_join F.type_str_join (A_cons ha A_nil he) (F_join hsep hw) hrm he rfl hme
theorem E_splitM (ok : CxOk c) {recv e : Expr} {ap p2 : Pos} {x y : Str} (hr : EOk c ρ recv (.str x)) (ha : EOk c ρ e (.str y)) (hy : (y.length == 0) = false) (hsz : x.length + 2 ≤ sizeLine) (hrm : Room c 0)
    (he : starEach [e] c.env = (false, eval e c.env) :: starEach [] c.env := by rfl)
    (hme : eval (.Call (.Attribute recv "split" ap) [e] [] p2) c.env = (do
      let ov ← eval recv c.env
      standAt ap.atName
      let (f, first) ← holding [ov] (getMethod ov "split" (do return (← importBound recv c.env).getD true))
      callWith p2 f first (backTo p2 (starEach [e] c.env)) []) := by rfl) : EOk c ρ (.Call (.Attribute recv "split" ap) [e] [] p2) (.list ((Txt.split x y).map D.str)) :=
  E_meth ok hr (fun _ _ _ _ _ S h => is_str S h) F.plainAttrs_str F.slot_str_split F.type_str_split (A_cons ha A_nil he) (F_split hy hsz) hrm he rfl hme
theorem E_subM (ok : CxOk c) {recv e1 e2 : Expr} {ap p2 : Pos} {a : Addr} {code : Array Nat} {x rep : Str} {nx : Nat → Option (Nat × Nat)} {N : Nat} {out : List Nat} (P : PatAt c.h0 a code) (hr : EOk c ρ recv (.val (.ref a))) (h1 : EOk c ρ e1 (.str rep)) (h2 : EOk c ρ e2 (.str x)) (hN : N ≤ 4 * 2 ^ 64)
    (hnx : ∀ p, p ≤ x.cps.size → Hits (Sre.forSearch code x.cps 0 p x.cps.size false) N (nx p)) (hx : x.length ≤ 100000) (hs : Subs x.cps nx (chars rep) 0 out) (hout : out.length ≤ 400000) (hrep : rep.cps.contains 92 = false) (hrm : Room c 0)
    (he : starEach [e1, e2] c.env = (false, eval e1 c.env) :: starEach [e2] c.env := by rfl) (he2 : starEach [e2] c.env = (false, eval e2 c.env) :: starEach [] c.env := by rfl) (hp : (backTo p2 (starEach [e2] c.env)).any (·.1) = false := by rfl)
    (hme : eval (.Call (.Attribute recv "sub" ap) [e1, e2] [] p2) c.env = (do
      let ov ← eval recv c.env
      standAt ap.atName
      let (f, first) ← holding [ov] (getMethod ov "sub" (do return (← importBound recv c.env).getD true))
      callWith p2 f first (backTo p2 (starEach [e1, e2] c.env)) []) := by rfl) : EOk c ρ (.Call (.Attribute recv "sub" ap) [e1, e2] [] p2) (.str ⟨out.toArray⟩) :=
  E_meth ok hr (fun _ _ _ _ _ S h => is_pat P S h) pattern_attrs slot_sub type_sub (A_cons h1 (A_cons h2 A_nil he2) he) (F_sub P hN hnx hx hs hout hrep) hrm he hp hme
end Mine
end
/-! B12 -/
section
open PySem PySem.W PyProof.Rows PySem.Spec PySem.Calls
set_option maxRecDepth 100000
set_option maxHeartbeats 1000000
set_option linter.unusedVariables false
namespace Mine

/-- keep the row and the written part in sight, for the library's k_fill -/
noncomputable def Sight (_ : PySem.W.OpenLaw) (_ : Params → Frag) (P : Prop) : Prop := P

noncomputable def nodupB : List Str → Bool
  | [] => true
  | x :: r => !r.contains x && nodupB r
theorem nodup_of : ∀ {l : List Str}, nodupB l = true → l.Nodup
  | [], _ => List.nodup_nil
  | x :: r, h => by
    unfold nodupB at h
    rw [Bool.and_eq_true] at h
    exact List.nodup_cons.mpr ⟨fun hm => by have := List.contains_iff_mem.mpr hm; rw [this] at h; exact absurd h.1 (by decide), nodup_of h.2⟩

noncomputable def goOk (sc : Scope) (xs rest : List Str) : Bool :=
  (xs ++ rest).all (fun x => (sc.names.lookup x == some .local || (sc.names.lookup x == some .cell && ((cellsFrom 0 sc.names []).any fun q => q.1 == x))) && !(x == ("__debug__" : Str)))
  && xs.all (fun x => sc.names.lookup x == some .local) && nodupB (xs ++ rest) && nodupB ((cellsFrom 0 sc.names []).map (·.1))

noncomputable def goFrame : List Str → List D → List Str → Frame
  | x :: xs, d :: ds, rest => (x, .val d) :: goFrame xs ds rest
  | _, _, rest => rest.map fun x => (x, .no)
theorem goFrame_names : ∀ (xs : List Str) (ds : List D) (rest : List Str), xs.length = ds.length → (goFrame xs ds rest).map (·.1) = xs ++ rest
  | [], [], rest, _ => by unfold goFrame; rw [List.map_map]; exact List.map_id _
  | x :: xs, d :: ds, rest, h => by
    unfold goFrame
    rw [List.map_cons, goFrame_names xs ds rest (by simpa using h)]; rfl
theorem goFrame_ini : ∀ (xs : List Str) (ds : List D) (rest : List Str), xs.length = ds.length → ∀ p ∈ goFrame xs ds rest, p.2 = .no ∨ ∃ (i : Nat) (x : Str) (d : D), xs[i]? = some x ∧ ds[i]? = some d ∧ p = (x, .val d)
  | [], [], rest, _, p, hp => by
    unfold goFrame at hp
    obtain ⟨x, _, rfl⟩ := List.mem_map.mp hp
    exact .inl rfl
  | x :: xs, d :: ds, rest, h, p, hp => by
    unfold goFrame at hp
    rcases List.mem_cons.mp hp with rfl | hp
    · exact .inr ⟨0, x, d, rfl, rfl, rfl⟩
    · rcases goFrame_ini xs ds rest (by simpa using h) p hp with h' | ⟨i, x', d', h1, h2, h3⟩
      · exact .inl h'
      · exact .inr ⟨i + 1, x', d', h1, h2, h3⟩

theorem F_go {w : World} {h0 : Heap} (hb0 : BaseOk w h0) {f : Addr} {name qual : Str} {params : Arguments} {body : List Stmt} {scope : Scope} {dV kV doc pm cdv ct oc : Value} {an od : Option Addr} {osl : Array (Option Value)} {ds : List D} {d : D} {rk : Nat} (xs rest : List Str)
    (ho : (Mine.hd.heap_39 w.params).lookup f = some ⟨oc, od, .func (fnOf name qual params body scope dV kV doc pm an cdv ct), osl⟩) (hcd : codeIn (Mine.hd.heap_39 w.params) cdv qual = true)
    (hxs : xs.length = ds.length) (hchk : goOk scope xs rest = true)
    (hbind : ∀ vs : List Value, vs.length = ds.length → bindArgs (fnOf name qual params body scope dV kV doc pm an cdv ct) ⟨vs, []⟩ = pure (xs.zip vs))
    (hbody : ∀ (c : Cx), CxOk c → c.w = w → c.h0 = h0 → Room c rk → (∃ L, c.env = callEnvC (fnOf name qual params body scope dV kV doc pm an cdv ct) L f) → XsOk c (goFrame xs ds rest) body fun fl _ => fl = .ret d)
    (hco : scope.isCoroutine = false := by rfl) (hgen : scope.isGenerator = false := by rfl) (hk : scope.kind = .function := by rfl) : FnOk w h0 (.ref f) ds d (rk + 1) := by
  unfold goOk at hchk
  rw [Bool.and_eq_true, Bool.and_eq_true, Bool.and_eq_true] at hchk
  obtain ⟨⟨⟨h1, h2⟩, h3⟩, h4⟩ := hchk
  have hn := goFrame_names xs ds rest hxs
  have hnd := nodup_of h3
  refine F_def hb0 ho hcd hbind hxs (fun x hx => ?_) ?_ (by rw [hn]; exact hnd) (nodup_of h4) (goFrame_ini xs ds rest hxs) (List.nodup_append.mp hnd).1 hbody hco hgen hk
  · have := List.all_eq_true.mp h2 x hx
    simpa using this
  · unfold frameOk
    rw [List.all_eq_true]
    intro p hp
    exact List.all_eq_true.mp h1 p.1 (by rw [← hn]; exact List.mem_map_of_mem hp)

theorem at_ {ρ : Frame} {p : Str × Slot} (i : Nat) (h : ρ[i]? = some p) : p ∈ ρ := List.mem_of_getElem? h
theorem put_ : ∀ {ρ : Frame} {x : Str} {sl : Slot} (i : Nat), (ρ[i]?).map (·.1) = some x → Put x sl ρ (ρ.set i (x, sl))
  | [], _, _, i, h => by simp at h
  | (y, old) :: r, x, sl, 0, h => by
    have e : y = x := by simpa using h
    subst e; exact .head
  | q :: r, x, sl, i + 1, h => .tail (put_ i (by simpa using h))
end Mine
end
/-! L1 -/
section
open PySem PySem.W PyProof.Rows PySem.Spec PySem.Calls
set_option maxRecDepth 100000
set_option maxHeartbeats 1000000
set_option linter.unusedVariables false
namespace Mine

noncomputable def so (x : String) : Str := Str.ofString x
noncomputable def laidMid : List Str := [Str.ofString "", Str.ofString "a", Str.ofString " .", Str.ofString "\n\n\r\r ."]
noncomputable def laidEnd : List Str := [Str.ofString "\n", Str.ofString "\r", Str.ofString "\r\n"]
noncomputable def evenMid : List Str := [Str.ofString "", Str.ofString "a", Str.ofString " .", Str.ofString "\r\n\r\n\r\n\r\n ."]
noncomputable def laidS (d : Int) : Str := Str.ofString "." ++ laidMid.getD ((d.fdiv 6).fmod 4).toNat (Str.ofString "") ++ laidEnd.getD ((d.fdiv 2).fmod 3).toNat (Str.ofString "")
noncomputable def evenS (d : Int) : Str := Str.ofString "." ++ evenMid.getD ((d.fdiv 6).fmod 4).toNat (Str.ofString "") ++ Str.ofString "\r\n"

theorem fmod_lt (a : Int) {b : Int} (hb : 0 < b) : 0 ≤ a.fmod b ∧ a.fmod b < b := ⟨Int.fmod_nonneg_of_pos a hb, Int.fmod_lt_of_pos a hb⟩
theorem get_str {l : List Str} {i : Nat} (h : i < l.length) : (l.map D.str)[i]? = some (D.str (l.getD i (Str.ofString ""))) := by
  rw [List.getElem?_map, List.getElem?_eq_getElem h, List.getD_eq_getElem?_getD, List.getElem?_eq_getElem h]; rfl
theorem getD_len {l : List Str} {i n : Nat} (h : ∀ x ∈ l, x.length ≤ n) : (l.getD i (Str.ofString "")).length ≤ n := by
  rw [List.getD_eq_getElem?_getD]
  cases e : l[i]? with
  | none => exact Nat.zero_le _
  | some x => exact h x (List.mem_of_getElem? e)


theorem len_dot : (Str.ofString ".").length = 1 := by decide
theorem len_crlf : (Str.ofString "\r\n").length = 2 := by decide
theorem E_strv {c : Cx} {ρ : Frame} {e : Expr} {x : Str} {t : Tok} (h : EOk c ρ e (.val (.str x t))) : EOk c ρ e (.str x) :=
  .mk fun o z R s Q E S K => h.run o z R s Q E S fun v z' s' le S' r => K v z' s' le S' ⟨t, r⟩

theorem c_laid {w : World} {h0 : Heap} (hb0 : BaseOk w h0) (d : Int) : FnOk w h0 (.ref 142) [.int d] (.str (laidS d)) 1 := by
  have : Sight PySem.Challenge.rw_sn0023_01 Mine.hd.heap_39 (FnOk w h0 (.ref 142) [.int d] (.str (laidS d)) 1) := by
    k_fill
    unfold Sight
    refine' F_go hb0 (f := 142) [Str.ofString "d"] [] ?ho ?hcd rfl ?hchk (fun vs h => ?hbind) ?hbody ?c1 ?c2 ?c3
    case ho => k_is
    case hcd => k_is
    case c1 => rfl
    case c2 => rfl
    case c3 => rfl
    case hchk => decide +kernel
    case hbind =>
      match vs, h with
      | [v], _ => rfl
    rintro ⟨w', A, env, h0', g, dr, os⟩ ok rfl rfl rm ⟨L, rfl⟩
    have f4 := fmod_lt (d.fdiv 6) (b := 4) (by decide)
    have f3 := fmod_lt (d.fdiv 2) (b := 3) (by decide)
    have l1 : (laidMid.getD ((d.fdiv 6).fmod 4).toNat (Str.ofString "")).length ≤ 10 := getD_len (by decide)
    have l2 : (laidEnd.getD ((d.fdiv 2).fmod 3).toNat (Str.ofString "")).length ≤ 10 := getD_len (by decide)
    have hz := sizeLine_eq
    have a1 : (Str.ofString ".").length + (laidMid.getD ((d.fdiv 6).fmod 4).toNat (Str.ofString "")).length ≤ sizeLine := by rw [len_dot]; omega
    have a2 : (Str.ofString "." ++ laidMid.getD ((d.fdiv 6).fmod 4).toNat (Str.ofString "")).length + (laidEnd.getD ((d.fdiv 2).fmod 3).toNat (Str.ofString "")).length ≤ sizeLine := by
      first | (rw [strLen_append, len_dot]; omega) | (rw [strLen_append, len_dot, len_crlf]; omega)
    exact X_cons (X_ret (E_bin (E_bin E_str (E_item (k := (d.fdiv 6).fmod 4) (NOk.e (N_list (A_cons E_str (A_cons E_str (A_cons E_str (A_cons E_str A_nil)))) (by decide))) (E_bin (E_bin (E_name ok (at_ 0 rfl)) E_int (O_fdiv (by decide) (PyProof.noPylong_small (by decide)))) E_int (O_mod (by decide))) f4.1 (by omega) (get_str (l := laidMid) (by show _ < 4; omega))) (O_adds a1))
       (E_item (k := (d.fdiv 2).fmod 3) (NOk.e (N_list (A_cons E_str (A_cons E_str (A_cons E_str A_nil))) (by decide))) (E_bin (E_bin (E_name ok (at_ 0 rfl)) E_int (O_fdiv (by decide) (PyProof.noPylong_small (by decide)))) E_int (O_mod (by decide))) f3.1 (by omega) (get_str (l := laidEnd) (by show _ < 3; omega))) (O_adds a2)) rfl)
  exact this

theorem c_even {w : World} {h0 : Heap} (hb0 : BaseOk w h0) (d : Int) : FnOk w h0 (.ref 149) [.int d] (.str (evenS d)) 1 := by
  have : Sight PySem.Challenge.rw_sn0023_01 Mine.hd.heap_39 (FnOk w h0 (.ref 149) [.int d] (.str (evenS d)) 1) := by
    k_fill
    unfold Sight
    refine' F_go hb0 (f := 149) [Str.ofString "d"] [] ?ho ?hcd rfl ?hchk (fun vs h => ?hbind) ?hbody ?c1 ?c2 ?c3
    case ho => k_is
    case hcd => k_is
    case c1 => rfl
    case c2 => rfl
    case c3 => rfl
    case hchk => decide +kernel
    case hbind =>
      match vs, h with
      | [v], _ => rfl
    rintro ⟨w', A, env, h0', g, dr, os⟩ ok rfl rfl rm ⟨L, rfl⟩
    have f4 := fmod_lt (d.fdiv 6) (b := 4) (by decide)
    have l1 : (evenMid.getD ((d.fdiv 6).fmod 4).toNat (Str.ofString "")).length ≤ 10 := getD_len (by decide)
    have hz := sizeLine_eq
    have a1 : (Str.ofString ".").length + (evenMid.getD ((d.fdiv 6).fmod 4).toNat (Str.ofString "")).length ≤ sizeLine := by rw [len_dot]; omega
    have a2 : (Str.ofString "." ++ evenMid.getD ((d.fdiv 6).fmod 4).toNat (Str.ofString "")).length + (Str.ofString "\r\n").length ≤ sizeLine := by
      rw [strLen_append, len_dot, len_crlf]; omega
    exact X_cons (X_ret (E_bin (E_bin E_str (E_item (k := (d.fdiv 6).fmod 4) (NOk.e (N_list (A_cons E_str (A_cons E_str (A_cons E_str (A_cons E_str A_nil)))) (by decide))) (E_bin (E_bin (E_name ok (at_ 0 rfl)) E_int (O_fdiv (by decide) (PyProof.noPylong_small (by decide)))) E_int (O_mod (by decide))) f4.1 (by omega) (get_str (l := evenMid) (by show _ < 4; omega))) (O_adds a1))
       E_str (O_adds a2)) rfl)
  exact this

theorem pat_of {w : World} {h0 : Heap} (hb0 : BaseOk w h0) {a ct : Addr} {code : Array Nat} {pat gi ix : Value} {t1 t2 t3 : Tok} {n : Nat} {f1 : Int} {items : Array Value} {ob : Obj}
    (h1 : (Mine.hd.heap_39 w.params).lookup a = some { cls := .type "re.Pattern", data := .fields #[pat, .int f1 t1, .int 0 t2, gi, ix, .ref ct, .int 0 t3] })
    (h2 : (Mine.hd.heap_39 w.params).lookup ct = some ob) (hd : ob.data = .seq items n) (hc : (items.map Builtin.Re.reRawOf).map (·.toNat) = code) : PatAt h0 a code :=
  ⟨pat, gi, ix, 0, ct, t1, t2, t3, n, f1, hb0.K _ _ h1, items, ⟨ob, hb0.K _ _ h2, hd⟩, hc⟩

theorem p_eols {w : World} {h0 : Heap} (hb0 : BaseOk w h0) : PatAt h0 55 code2 := by
  have : Sight PySem.Challenge.rw_sn0023_01 Mine.hd.heap_39 (PatAt h0 55 code2) := by
    k_fill
    unfold Sight
    refine' pat_of hb0 (a := 55) (ct := 54) ?h1 ?h2 ?h3 ?h4
    case h1 => k_is
    case h2 => k_is
    case h3 => rfl
    case h4 => decide +kernel
  exact this
theorem p_dots {w : World} {h0 : Heap} (hb0 : BaseOk w h0) : PatAt h0 50 code1 := by
  have : Sight PySem.Challenge.rw_sn0023_01 Mine.hd.heap_39 (PatAt h0 50 code1) := by
    k_fill
    unfold Sight
    refine' pat_of hb0 (a := 50) (ct := 49) ?h1 ?h2 ?h3 ?h4
    case h1 => k_is
    case h2 => k_is
    case h3 => rfl
    case h4 => decide +kernel
  exact this
end Mine
end
/-! L2 -/
section
open PySem PySem.W PyProof.Rows PySem.Spec PySem.Calls
set_option maxRecDepth 100000
set_option maxHeartbeats 1000000
set_option linter.unusedVariables false
namespace Mine

theorem crlf_chars : chars (Str.ofString "\r\n") = [13, 10] := by decide
theorem dots_chars : chars (Str.ofString "..") = [46, 46] := by decide

theorem eols_sz {x : Str} {n : Nat} (h : x.length ≤ n) (hn : 2 * n ≤ 400000) : (eolsF false x.cps.toList).length ≤ 400000 :=
  Nat.le_trans (eolsF_len _ _) (by rw [Array.length_toList]; exact Nat.le_trans (Nat.mul_le_mul_left 2 h) hn)
theorem dots_sz {x : Str} {n : Nat} (h : x.length ≤ n) (hn : 2 * n ≤ 400000) : (dotsF true x.cps.toList).length ≤ 400000 :=
  Nat.le_trans (dotsF_len _ _) (by rw [Array.length_toList]; exact Nat.le_trans (Nat.mul_le_mul_left 2 h) hn)
theorem crlf_plain : (Str.ofString "\r\n").cps.contains 92 = false := by decide +kernel
theorem dots_plain : (Str.ofString "..").cps.contains 92 = false := by decide +kernel
theorem Room.sub {c : Cx} {a b : Nat} (h : Room c a) (hl : b ≤ a) : Room c b := ⟨by have := h.dp; omega, by have := h.un; omega⟩

theorem c_eols {w : World} {h0 : Heap} (hb0 : BaseOk w h0) (x : Str) (hx : x.length ≤ 100000) : FnOk w h0 (.ref 69) [.str x] (.str (eolsS x)) 1 := by
  have P := p_eols hb0
  have : Sight PySem.Challenge.rw_sn0023_01 Mine.hd.heap_39 (FnOk w h0 (.ref 69) [.str x] (.str (eolsS x)) 1) := by
    k_fill
    unfold Sight
    refine' F_go hb0 (f := 69) [Str.ofString "data"] [] ?ho ?hcd rfl ?hchk (fun vs h => ?hbind) ?hbody ?c1 ?c2 ?c3
    case ho => k_is
    case hcd => k_is
    case c1 => rfl
    case c2 => rfl
    case c3 => rfl
    case hchk => decide +kernel
    case hbind =>
      match vs, h with
      | [v], _ => rfl
    rintro ⟨w', A, env, h0', g, dr, os⟩ ok rfl rfl rm ⟨L, rfl⟩
    have hl := eolsS_len x
    refine' X_cons (X_ret (E_subM (N := 31) (nx := next2 x.cps) (rep := Str.ofString "\r\n") ok P (E_glob ok rfl ?g1) (E_strv (E_glob ok rfl ?g2)) (E_name ok (at_ 0 rfl)) (by decide) (fun p hp => search2 hp) hx (by rw [crlf_chars]; exact subs2' x) (eols_sz hx (by decide)) crlf_plain (rm.sub (Nat.zero_le _))) rfl)
    case g1 => k_is
    case g2 => k_is
    all_goals k_is
  exact this

theorem c_quote {w : World} {h0 : Heap} (hb0 : BaseOk w h0) (x : Str) (hx : x.length ≤ 50000) : FnOk w h0 (.ref 62) [.str x] (.str (quoteS x)) 1 := by
  have P := p_eols hb0
  have P1 := p_dots hb0
  have : Sight PySem.Challenge.rw_sn0023_01 Mine.hd.heap_39 (FnOk w h0 (.ref 62) [.str x] (.str (quoteS x)) 1) := by
    k_fill
    unfold Sight
    refine' F_go hb0 (f := 62) [Str.ofString "data"] [] ?ho ?hcd rfl ?hchk (fun vs h => ?hbind) ?hbody ?c1 ?c2 ?c3
    case ho => k_is
    case hcd => k_is
    case c1 => rfl
    case c2 => rfl
    case c3 => rfl
    case hchk => decide +kernel
    case hbind =>
      match vs, h with
      | [v], _ => rfl
    rintro ⟨w', A, env, h0', g, dr, os⟩ ok rfl rfl rm ⟨L, rfl⟩
    have hl := eolsS_len x
    have hy : (eolsS x).length ≤ 100000 := by omega
    have hys : (eolsS x).cps.size ≤ 100000 := hy
    refine' X_cons (X_ret (E_subM (x := eolsS x) (N := (eolsS x).cps.size * 6 + 11) (nx := next1 (eolsS x).cps) (rep := Str.ofString "..") ok P1 (E_glob ok rfl ?g3) E_str
      (E_subM (N := 31) (nx := next2 x.cps) (rep := Str.ofString "\r\n") ok P (E_glob ok rfl ?g1) (E_strv (E_glob ok rfl ?g2)) (E_name ok (at_ 0 rfl)) (by decide) (fun p hp => search2 hp) (Nat.le_trans hx (by decide)) (by rw [crlf_chars]; exact subs2' x) (eols_sz hx (by decide)) crlf_plain (rm.sub (Nat.zero_le _)))
      (by omega) (fun p hp => search1 hp) hy (by rw [dots_chars]; exact subs1' (eolsS x)) (dots_sz hy (by decide)) dots_plain (rm.sub (Nat.zero_le _))) rfl)
    case g1 => k_is
    case g2 => k_is
    all_goals k_is
  exact this
end Mine
end
/-! L3 -/
section
open PySem PySem.W PyProof.Rows PySem.Spec PySem.Calls
set_option maxRecDepth 100000
set_option maxHeartbeats 1000000
set_option linter.unusedVariables false
namespace Mine

noncomputable def GNone (w : World) (x : Str) : Prop := nsIn (Mine.hd.heap_39 w.params) mainGlobals x = some none
noncomputable def GRef (w : World) (x : Str) (a : Addr) : Prop := nsIn (Mine.hd.heap_39 w.params) mainGlobals x = some (some (.ref a)) ∧ keepIn (Mine.hd.heap_39 w.params) (.ref a) = true
structure Globs (w : World) : Prop where
  sum : GNone w (Str.ofString "sum")
  len : GNone w (Str.ofString "len")
  range : GNone w (Str.ofString "range")
  int : GNone w (Str.ofString "int")
  max : GNone w (Str.ofString "max")
  tuple : GNone w (Str.ofString "tuple")
  enumerate : GNone w (Str.ofString "enumerate")
  iter : GNone w (Str.ofString "iter")
  next : GNone w (Str.ofString "next")
  stop : GNone w (Str.ofString "StopIteration")
  quotedata : GRef w (Str.ofString "quotedata") 62
  eols : GRef w (Str.ofString "_fix_eols") 69
  ws : GRef w (Str.ofString "Whitespace") 131
  laid : GRef w (Str.ofString "_law_laid") 142
  even : GRef w (Str.ofString "_law_even") 149
  mails : GRef w (Str.ofString "_law_mails") 156
  hooks : GRef w (Str.ofString "_law_hooks") 161
  tally : GRef w (Str.ofString "_law_tally") 166
  parts : GRef w (Str.ofString "_law_parts") 173
  varint : GRef w (Str.ofString "_parse_varint") 45

theorem globs (w : World) : Globs w := by
  have : Sight PySem.Challenge.rw_sn0023_01 Mine.hd.heap_39 (Globs w) := by
    k_fill
    unfold Sight
    constructor
    all_goals first
      | (unfold GNone; k_is)
      | (unfold GRef; constructor <;> k_is)
  exact this

variable {c : Cx} {ρ : Frame}
theorem E_glob1 (ok : CxOk c) {x : Str} {a : Addr} {pos} (hx : c.env.kindOf x = some .globalImplicit) (g : GRef c.w x a) (hd : (x == ("__debug__" : Str)) = false) : EOk c ρ (.Name x pos) (.val (.ref a)) :=
  E_glob ok hx g.1 hd
/-- a function of the program, called by its name -/
theorem E_pcall (ok : CxOk c) {x : Str} {a : Addr} {p pos : Pos} {e : Expr} {rest : List Expr} {ds : List D} {d : D} {rk : Nat} (g : GRef c.w x a) (ha : AOk c ρ (e :: rest) ds) (hc : FnOk c.w c.h0 (.ref a) ds d rk) (hr : Room c rk)
    (hx : c.env.kindOf x = some .globalImplicit := by rfl) (hd : (x == ("__debug__" : Str)) = false := by decide +kernel)
    (he : starEach (e :: rest) c.env = (false, eval e c.env) :: starEach rest c.env := by rfl) (hp : (backTo pos (starEach rest c.env)).any (·.1) = false := by rfl)
    (hcall : ∀ env, eval (.Call (.Name x p) (e :: rest) [] pos) env = (do callWith pos (← eval (.Name x p) env) [] (backTo pos (starEach (e :: rest) env)) (backToKw pos (keywordEach [] env))) := by intro _; rfl) : EOk c ρ (.Call (.Name x p) (e :: rest) [] pos) d :=
  E_call ok (E_glob ok hx g.1 hd) (W_ref ok g.2) ha hc hr he hp hcall
/-- a built-in function or type, called by its name -/
theorem E_bcall (ok : CxOk c) {x : Str} {v : Value} {p pos : Pos} {e : Expr} {rest : List Expr} {ds : List D} {d : D} {rk : Nat} (g : GNone c.w x) (hv : bootBuiltins x = some v) (hw : WayOk c v) (ha : AOk c ρ (e :: rest) ds) (hc : FnOk c.w c.h0 v ds d rk) (hr : Room c rk)
    (hn : x ≠ "__name__") (hx : c.env.kindOf x = some .globalImplicit) (hd : (x == ("__debug__" : Str)) = false)
    (he : starEach (e :: rest) c.env = (false, eval e c.env) :: starEach rest c.env) (hp : (backTo pos (starEach rest c.env)).any (·.1) = false)
    (hcall : ∀ env, eval (.Call (.Name x p) (e :: rest) [] pos) env = (do callWith pos (← eval (.Name x p) env) [] (backTo pos (starEach (e :: rest) env)) (backToKw pos (keywordEach [] env)))) : EOk c ρ (.Call (.Name x p) (e :: rest) [] pos) d :=
  E_call ok (E_blt ok hx g hv hn hd) hw ha hc hr he hp hcall

theorem b_sum : bootBuiltins (Str.ofString "sum") = some (.builtin "sum") := by decide +kernel
theorem b_len : bootBuiltins (Str.ofString "len") = some (.builtin "len") := by decide +kernel
theorem b_max : bootBuiltins (Str.ofString "max") = some (.builtin "max") := by decide +kernel
theorem b_int : bootBuiltins (Str.ofString "int") = some (.type "int") := by decide +kernel
theorem b_range : bootBuiltins (Str.ofString "range") = some (.type "range") := by decide +kernel
theorem b_tuple : bootBuiltins (Str.ofString "tuple") = some (.type "tuple") := by decide +kernel

section
variable {e e2 e3 : Expr} {p pos : Pos}
theorem E_sum (ok : CxOk c) (rm : Room c 0) (hns : List Int) (h : EOk c ρ e (.list (hns.map .int))) (hx : c.env.kindOf (Str.ofString "sum") = some .globalImplicit := by rfl) (he : starEach [e] c.env = [(false, eval e c.env)] := by rfl)
    (hcall : ∀ env, eval (.Call (.Name (Str.ofString "sum") p) [e] [] pos) env = (do callWith pos (← eval (.Name (Str.ofString "sum") p) env) [] (backTo pos (starEach [e] env)) (backToKw pos (keywordEach [] env))) := by intro _; rfl) : EOk c ρ (.Call (.Name (Str.ofString "sum") p) [e] [] pos) (.int hns.sum) :=
  E_bcall ok (globs _).sum b_sum W_blt (A_cons h A_nil he) F_sum rm (by decide +kernel) hx (by decide +kernel) he rfl hcall
theorem E_len (ok : CxOk c) (rm : Room c 0) {xs : List D} (h : EOk c ρ e (.list xs)) (hz : xs.length ≤ sizeLine) (hx : c.env.kindOf (Str.ofString "len") = some .globalImplicit := by rfl) (he : starEach [e] c.env = [(false, eval e c.env)] := by rfl)
    (hcall : ∀ env, eval (.Call (.Name (Str.ofString "len") p) [e] [] pos) env = (do callWith pos (← eval (.Name (Str.ofString "len") p) env) [] (backTo pos (starEach [e] env)) (backToKw pos (keywordEach [] env))) := by intro _; rfl) : EOk c ρ (.Call (.Name (Str.ofString "len") p) [e] [] pos) (.int xs.length) :=
  E_bcall ok (globs _).len b_len W_blt (A_cons h A_nil he) (F_len hz) rm (by decide +kernel) hx (by decide +kernel) he rfl hcall
theorem E_lens (ok : CxOk c) (rm : Room c 0) {x : Str} (h : EOk c ρ e (.str x)) (hz : x.length ≤ sizeLine) (hx : c.env.kindOf (Str.ofString "len") = some .globalImplicit := by rfl) (he : starEach [e] c.env = [(false, eval e c.env)] := by rfl)
    (hcall : ∀ env, eval (.Call (.Name (Str.ofString "len") p) [e] [] pos) env = (do callWith pos (← eval (.Name (Str.ofString "len") p) env) [] (backTo pos (starEach [e] env)) (backToKw pos (keywordEach [] env))) := by intro _; rfl) : EOk c ρ (.Call (.Name (Str.ofString "len") p) [e] [] pos) (.int x.length) :=
  E_bcall ok (globs _).len b_len W_blt (A_cons h A_nil he) (F_lens hz) rm (by decide +kernel) hx (by decide +kernel) he rfl hcall
theorem E_intb (ok : CxOk c) (rm : Room c 0) {b : Bool} (h : EOk c ρ e (.bool b)) (hx : c.env.kindOf (Str.ofString "int") = some .globalImplicit := by rfl) (he : starEach [e] c.env = [(false, eval e c.env)] := by rfl)
    (hcall : ∀ env, eval (.Call (.Name (Str.ofString "int") p) [e] [] pos) env = (do callWith pos (← eval (.Name (Str.ofString "int") p) env) [] (backTo pos (starEach [e] env)) (backToKw pos (keywordEach [] env))) := by intro _; rfl) : EOk c ρ (.Call (.Name (Str.ofString "int") p) [e] [] pos) (.int (if b then 1 else 0)) :=
  E_bcall ok (globs _).int b_int W_typ (A_cons h A_nil he) F_int rm (by decide +kernel) hx (by decide +kernel) he rfl hcall
theorem E_tupl (ok : CxOk c) (rm : Room c 0) {xs : List D} (h : EOk c ρ e (.list xs)) (hz : xs.length ≤ sizeLine) (hx : c.env.kindOf (Str.ofString "tuple") = some .globalImplicit := by rfl) (he : starEach [e] c.env = [(false, eval e c.env)] := by rfl)
    (hcall : ∀ env, eval (.Call (.Name (Str.ofString "tuple") p) [e] [] pos) env = (do callWith pos (← eval (.Name (Str.ofString "tuple") p) env) [] (backTo pos (starEach [e] env)) (backToKw pos (keywordEach [] env))) := by intro _; rfl) : EOk c ρ (.Call (.Name (Str.ofString "tuple") p) [e] [] pos) (.tup xs) :=
  E_bcall ok (globs _).tuple b_tuple W_typ (A_cons h A_nil he) (F_tuple hz) rm (by decide +kernel) hx (by decide +kernel) he rfl hcall
theorem E_range1 (ok : CxOk c) (rm : Room c 0) {n : Int} (h : EOk c ρ e (.int n)) (hx : c.env.kindOf (Str.ofString "range") = some .globalImplicit := by rfl) (he : starEach [e] c.env = [(false, eval e c.env)] := by rfl)
    (hcall : ∀ env, eval (.Call (.Name (Str.ofString "range") p) [e] [] pos) env = (do callWith pos (← eval (.Name (Str.ofString "range") p) env) [] (backTo pos (starEach [e] env)) (backToKw pos (keywordEach [] env))) := by intro _; rfl) : EOk c ρ (.Call (.Name (Str.ofString "range") p) [e] [] pos) (.rng 0 n 1) :=
  E_bcall ok (globs _).range b_range W_typ (A_cons h A_nil he) F_range1 rm (by decide +kernel) hx (by decide +kernel) he rfl hcall
theorem E_range2 (ok : CxOk c) (rm : Room c 0) {a b : Int} (h : EOk c ρ e (.int a)) (h2 : EOk c ρ e2 (.int b)) (hx : c.env.kindOf (Str.ofString "range") = some .globalImplicit := by rfl) (he : starEach [e, e2] c.env = (false, eval e c.env) :: starEach [e2] c.env := by rfl) (he2 : starEach [e2] c.env = [(false, eval e2 c.env)] := by rfl)
    (hcall : ∀ env, eval (.Call (.Name (Str.ofString "range") p) [e, e2] [] pos) env = (do callWith pos (← eval (.Name (Str.ofString "range") p) env) [] (backTo pos (starEach [e, e2] env)) (backToKw pos (keywordEach [] env))) := by intro _; rfl) (hp : (backTo pos (starEach [e2] c.env)).any (·.1) = false := by rfl) : EOk c ρ (.Call (.Name (Str.ofString "range") p) [e, e2] [] pos) (.rng a b 1) :=
  E_bcall ok (globs _).range b_range W_typ (A_cons h (A_cons h2 A_nil he2) he) F_range2 rm (by decide +kernel) hx (by decide +kernel) he hp hcall
theorem E_max2 (ok : CxOk c) (rm : Room c 0) {a b : Int} (h : EOk c ρ e (.int a)) (h2 : EOk c ρ e2 (.int b)) (hx : c.env.kindOf (Str.ofString "max") = some .globalImplicit := by rfl) (he : starEach [e, e2] c.env = (false, eval e c.env) :: starEach [e2] c.env := by rfl) (he2 : starEach [e2] c.env = [(false, eval e2 c.env)] := by rfl)
    (hcall : ∀ env, eval (.Call (.Name (Str.ofString "max") p) [e, e2] [] pos) env = (do callWith pos (← eval (.Name (Str.ofString "max") p) env) [] (backTo pos (starEach [e, e2] env)) (backToKw pos (keywordEach [] env))) := by intro _; rfl) (hp : (backTo pos (starEach [e2] c.env)).any (·.1) = false := by rfl) : EOk c ρ (.Call (.Name (Str.ofString "max") p) [e, e2] [] pos) (.int (max a b)) :=
  E_bcall ok (globs _).max b_max W_blt (A_cons h (A_cons h2 A_nil he2) he) F_max2 rm (by decide +kernel) hx (by decide +kernel) he hp hcall
theorem E_range3 (ok : CxOk c) (rm : Room c 0) {a b d : Int} (h : EOk c ρ e (.int a)) (h2 : EOk c ρ e2 (.int b)) (h3 : EOk c ρ e3 (.int d)) (hd0 : d ≠ 0) (hpy : Builtin.divisionGoesByPylong (b - a) d = false) (hx : c.env.kindOf (Str.ofString "range") = some .globalImplicit := by rfl) (he : starEach [e, e2, e3] c.env = (false, eval e c.env) :: starEach [e2, e3] c.env := by rfl) (he2 : starEach [e2, e3] c.env = (false, eval e2 c.env) :: starEach [e3] c.env := by rfl) (he3 : starEach [e3] c.env = [(false, eval e3 c.env)] := by rfl)
    (hcall : ∀ env, eval (.Call (.Name (Str.ofString "range") p) [e, e2, e3] [] pos) env = (do callWith pos (← eval (.Name (Str.ofString "range") p) env) [] (backTo pos (starEach [e, e2, e3] env)) (backToKw pos (keywordEach [] env))) := by intro _; rfl) (hp : (backTo pos (starEach [e2, e3] c.env)).any (·.1) = false := by rfl) : EOk c ρ (.Call (.Name (Str.ofString "range") p) [e, e2, e3] [] pos) (.rng a b d) :=
  E_bcall ok (globs _).range b_range W_typ (A_cons h (A_cons h2 (A_cons h3 A_nil he3) he2) he) (F_range3 hd0 hpy) rm (by decide +kernel) hx (by decide +kernel) he hp hcall
end
end Mine
end
/-! L4 -/
section
open PySem PySem.W PyProof.Rows PySem.Spec PySem.Calls
set_option maxRecDepth 100000
set_option maxHeartbeats 1000000
set_option linter.unusedVariables false
namespace Mine

structure Mails where
  mail : Str
  told : Str
  typed : Str
  even : Str
noncomputable def freeAt (bs : List Int) (p : Nat) : Int := (p : Int) - (bs.take p).sum
noncomputable def mailStep (dr bs : List Int) (p : Nat) (m : Mails) : Mails :=
  if bs.getD p 0 == 0 then { m with mail := quoteS m.mail } else
  { mail := m.mail ++ laidS (dr.getD p 0)
    told := m.told ++ (if freeAt bs p == 0 then laidS (dr.getD p 0) else Txt.mul (Str.ofString ".") (freeAt bs p) ++ evenS (dr.getD p 0))
    typed := m.typed ++ laidS (dr.getD p 0)
    even := m.even ++ evenS (dr.getD p 0) }
noncomputable def mailsAt (dr bs : List Int) : Nat → Mails
  | 0 => ⟨⟨#[]⟩, ⟨#[]⟩, ⟨#[]⟩, ⟨#[]⟩⟩
  | i + 1 => mailStep dr bs (5 - i) (mailsAt dr bs i)

theorem laidS_len (d : Int) : (laidS d).length ≤ 21 := by
  have l1 : (laidMid.getD ((d.fdiv 6).fmod 4).toNat (Str.ofString "")).length ≤ 10 := getD_len (by decide)
  have l2 : (laidEnd.getD ((d.fdiv 2).fmod 3).toNat (Str.ofString "")).length ≤ 10 := getD_len (by decide)
  unfold laidS; rw [strLen_append, strLen_append, len_dot]; omega
theorem evenS_len (d : Int) : (evenS d).length ≤ 21 := by
  have l1 : (evenMid.getD ((d.fdiv 6).fmod 4).toNat (Str.ofString "")).length ≤ 10 := getD_len (by decide)
  unfold evenS; rw [strLen_append, strLen_append, len_dot, len_crlf]; omega
theorem quoteS_len (x : Str) : (quoteS x).length ≤ 4 * x.length := by
  have h1 := eolsS_len x
  have h2 := dotsS_len (eolsS x)
  unfold quoteS; omega
theorem mul_len1 {n : Int} {N : Nat} (h : n ≤ (N : Int)) : (Txt.mul (Str.ofString ".") n).length ≤ N := by
  have := len_mul_leN (x := Str.ofString ".") (n := n) (L := 1) (N := N) (by rw [len_dot]; exact Nat.le_refl _) h
  omega
structure Fits (dr bs : List Int) : Prop where
  nd : dr.length = 6
  nb : bs.length = 6
  bit : ∀ b ∈ bs, b = 0 ∨ b = 1
theorem sum_bits : ∀ {l : List Int}, (∀ b ∈ l, b = 0 ∨ b = 1) → 0 ≤ l.sum ∧ l.sum ≤ l.length
  | [], _ => by simp
  | b :: l, h => by
    have ih := sum_bits (l := l) fun x hx => h x (List.mem_cons_of_mem _ hx)
    rw [List.sum_cons, List.length_cons]
    rcases h b List.mem_cons_self with e | e <;> omega
theorem free_bd {dr bs : List Int} (F : Fits dr bs) {p : Nat} (hp : p ≤ 5) : 0 ≤ freeAt bs p ∧ freeAt bs p ≤ 5 := by
  have h := sum_bits (l := bs.take p) fun b hb => F.bit b (List.mem_of_mem_take hb)
  have hl : (bs.take p).length = p := by rw [List.length_take, F.nb]; omega
  unfold freeAt; omega
structure MBd (m : Mails) (n : Nat) : Prop where
  a : m.mail.length ≤ n
  b : m.told.length ≤ n
  c : m.typed.length ≤ n
  d : m.even.length ≤ n
theorem step_bd {dr bs : List Int} (F : Fits dr bs) {p : Nat} (hp : p ≤ 5) {m : Mails} {n : Nat} (h : MBd m n) : MBd (mailStep dr bs p m) (4 * n + 30) := by
  obtain ⟨h1, h2, h3, h4⟩ := h
  have q := quoteS_len m.mail
  have l := laidS_len (dr.getD p 0)
  have e := evenS_len (dr.getD p 0)
  have f := free_bd F hp
  unfold mailStep
  split
  · exact ⟨by show (quoteS m.mail).length ≤ _; omega, by show m.told.length ≤ _; omega, by show m.typed.length ≤ _; omega, by show m.even.length ≤ _; omega⟩
  · refine ⟨?_, ?_, ?_, ?_⟩
    · show (m.mail ++ _).length ≤ _; rw [strLen_append]; omega
    · show (m.told ++ _).length ≤ _; rw [strLen_append]; split
      · omega
      · have := mul_len1 (N := 5) f.2
        rw [strLen_append]; omega
    · show (m.typed ++ _).length ≤ _; rw [strLen_append]; omega
    · show (m.even ++ _).length ≤ _; rw [strLen_append]; omega
noncomputable def bdAt : Nat → Nat
  | 0 => 0
  | i + 1 => 4 * bdAt i + 30
theorem mails_bd {dr bs : List Int} (F : Fits dr bs) : ∀ i, MBd (mailsAt dr bs i) (bdAt i)
  | 0 => ⟨Nat.le_refl _, Nat.le_refl _, Nat.le_refl _, Nat.le_refl _⟩
  | i + 1 => step_bd F (by omega) (mails_bd F i)
theorem bdAt_le {i : Nat} (h : i ≤ 6) : bdAt i ≤ 40950 := by
  match i, h with
  | 0, _ | 1, _ | 2, _ | 3, _ | 4, _ | 5, _ | 6, _ => decide
theorem pick_seg {α : Type} (xs : List α) (a : Nat) : ∀ k : Nat, ((List.range k).map (a + ·)).filterMap (fun i => xs[i]?) = (xs.drop a).take k
  | 0 => rfl
  | k + 1 => by
    rw [List.range_succ, List.map_append, List.filterMap_append, pick_seg xs a k, List.take_add_one, List.getElem?_drop]
    simp only [List.map_cons, List.map_nil, List.filterMap_cons, List.filterMap_nil]
    cases xs[a + k]? <;> rfl
theorem pick_plain {α : Type} (xs : List α) (lo hi : Option Int) : pick xs lo hi none = (xs.drop (lo.elim 0 (clipAt xs.length))).take (hi.elim xs.length (clipAt xs.length) - lo.elim 0 (clipAt xs.length)) := by
  unfold pick
  rw [sliceBounds_plain]
  simp only [sliceRange_one]
  exact pick_seg xs _ _
theorem pick_take {α : Type} (xs : List α) (p : Nat) : pick xs none (some (p : Int)) none = xs.take p := by
  rw [pick_plain]
  simp only [Option.elim, clipAt_nat, List.drop_zero, Nat.sub_zero]
  rcases Nat.le_total p xs.length with h | h
  · rw [Nat.min_eq_left h]
  · rw [Nat.min_eq_right h, List.take_of_length_le (Nat.le_refl _), List.take_of_length_le h]
theorem pick_drop {α : Type} (xs : List α) (p : Nat) : pick xs (some (p : Int)) none none = xs.drop p := by
  rw [pick_plain]
  simp only [Option.elim, clipAt_nat]
  rcases Nat.le_total p xs.length with h | h
  · rw [Nat.min_eq_left h, List.take_of_length_le (by simp)]
  · rw [Nat.min_eq_right h, List.drop_of_length_le (Nat.le_refl _), List.drop_of_length_le h, List.take_nil]
theorem E_sliceL {c : Cx} {ρ : Frame} {value : Expr} {lower upper : Option Expr} {p pos : Pos} {xs ys : List D} {lo hi : Option Int} (hv : EOk c ρ value (.list xs)) (hl : PtOk c ρ lower lo) (hu : PtOk c ρ upper hi) (hsz : xs.length ≤ sizeLine) (hp : pick xs lo hi none = ys)
    (ht : ∀ o r, letTemporaryGo value o r = pure () := by intro _ _; rfl) : EOk c ρ (.Subscript value (.Slice lower upper none p) pos) (.list ys) := hp ▸ E_sliceN hv hl hu hsz ht
theorem E_neg {c : Cx} {ρ : Frame} {e : Expr} {pos : Pos} {a : Int} (h : EOk c ρ e (.int a)) : EOk c ρ (.UnaryOp .USub e pos) (.int (-a)) :=
  .mk fun o z R s Q E S K => UnaryOp_ (h.run o z R s _ _ S fun v z1 s1 le1 S1 r1 => by
    obtain ⟨t, rfl⟩ := r1
    exact P.neg_int (K _ z1 _ (le1.trans Ext.tk) (S1.tok _) ⟨_, rfl⟩))

noncomputable def mailFr (dr bs : List Int) (m : Mails) (pl fr : Slot) : Frame :=
  [(Str.ofString "drawn", .val (.list (dr.map .int))), (Str.ofString "bits", .val (.list (bs.map .int))), (Str.ofString "mail", .val (.str m.mail)), (Str.ofString "told", .val (.str m.told)), (Str.ofString "typed", .val (.str m.typed)), (Str.ofString "even", .val (.str m.even)), (Str.ofString "place", pl), (Str.ofString "free", fr)]

theorem c_mails {w : World} {h0 : Heap} (hb0 : BaseOk w h0) {dr bs : List Int} (F : Fits dr bs) : FnOk w h0 (.ref 156) [.list (dr.map .int), .list (bs.map .int)] (.tup [.str (mailsAt dr bs 6).mail, .str (mailsAt dr bs 6).told, .str (mailsAt dr bs 6).typed, .str (mailsAt dr bs 6).even]) 2 := by
  have : Sight PySem.Challenge.rw_sn0023_01 Mine.hd.heap_39 (FnOk w h0 (.ref 156) [.list (dr.map .int), .list (bs.map .int)] (.tup [.str (mailsAt dr bs 6).mail, .str (mailsAt dr bs 6).told, .str (mailsAt dr bs 6).typed, .str (mailsAt dr bs 6).even]) 2) := by
    k_fill
    unfold Sight
    refine' F_go hb0 (f := 156) [Str.ofString "drawn", Str.ofString "bits"] [Str.ofString "mail", Str.ofString "told", Str.ofString "typed", Str.ofString "even", Str.ofString "place", Str.ofString "free"] ?ho ?hcd rfl ?hchk (fun vs h => ?hbind) ?hbody ?c1 ?c2 ?c3
    case ho => k_is
    case hcd => k_is
    case c1 => rfl
    case c2 => rfl
    case c3 => rfl
    case hchk => decide +kernel
    case hbind =>
      match vs, h with
      | [v, v2], _ => rfl
    rintro ⟨w', A, env, h0', g, dr', os⟩ ok rfl rfl rm ⟨L, rfl⟩
    refine X_cons (X_assign ok E_str (put_ 2 rfl) ?_)
    refine X_cons (X_assign ok E_str (put_ 3 rfl) ?_)
    refine X_cons (X_assign ok E_str (put_ 4 rfl) ?_)
    refine X_cons (X_assign ok E_str (put_ 5 rfl) ?_)
    refine X_cons (X_for (ds := (rngInts 5 (-1) 6).map D.int) ok (It_rng ok (E_range3 (a := 5) (b := -1) (d := -1) ok (rm.sub (Nat.zero_le _)) E_int (E_neg E_int) (E_neg E_int) (by decide) (PyProof.noPylong_small (by decide))) rfl rfl) (fun i ρ => ∃ pl fr, ρ = mailFr dr bs (mailsAt dr bs i) pl fr) ⟨.no, .no, rfl⟩ ?turn ?done)
    case done =>
      rintro ρ₁ ⟨pl, fr, rfl⟩
      refine X_cons (X_ret (E_tuple (A_cons (E_name ok (at_ 2 rfl)) (A_cons (E_name ok (at_ 3 rfl)) (A_cons (E_name ok (at_ 4 rfl)) (A_cons (E_name ok (at_ 5 rfl)) A_nil)))) (by show 4 ≤ sizeLine; decide)) rfl)
    case turn =>
      rintro i d ρ₁ hd ⟨pl, fr, rfl⟩
      have hi : i < 6 := by
        have := (List.getElem?_eq_some_iff.mp hd).1
        simpa [rngInts] using this
      have hd' : d = .int ((5 - i : Nat) : Int) := by
        rw [List.getElem?_map, rngInts_get hi] at hd
        injection hd with hd; rw [← hd]; congr 1; omega
      subst hd'
      have hp : 5 - i ≤ 5 := by omega
      generalize hpe : 5 - i = p at hp
      refine ⟨_, G_name ok (put_ 6 rfl), ?_⟩
      have hb6 : bs.length = 6 := F.nb
      have hd6 : dr.length = 6 := F.nd
      have hz := sizeLine_eq
      have f := free_bd F hp
      have mb := mails_bd F i
      have b6 := bdAt_le (i := i) (by omega)
      have gb : (bs.map D.int)[((p : Nat) : Int).toNat]? = some (.int (bs.getD p 0)) := by
        rw [Int.toNat_natCast, List.getElem?_map, List.getD_eq_getElem?_getD, List.getElem?_eq_getElem (by omega)]; rfl
      have gd : (dr.map D.int)[((p : Nat) : Int).toNat]? = some (.int (dr.getD p 0)) := by
        rw [Int.toNat_natCast, List.getElem?_map, List.getD_eq_getElem?_getD, List.getElem?_eq_getElem (by omega)]; rfl
      have la := laidS_len (dr.getD p 0)
      have le := evenS_len (dr.getD p 0)
      have lm := mul_len1 (N := 5) f.2
      have m1 := mb.a
      have m2 := mb.b
      have m3 := mb.c
      have m4 := mb.d
      refine X_cons (X_assign (d := .int (freeAt bs p)) ok (E_bin (E_name ok (at_ 6 rfl)) (E_sum ok (rm.sub (Nat.zero_le _)) (bs.take p) (E_sliceL (E_name ok (at_ 1 rfl)) Pt_none (Pt_some (E_name ok (at_ 6 rfl))) (by rw [List.length_map]; omega) (by rw [pick_take, List.map_take]))) O_sub) (put_ 7 rfl) ?_)
      refine X_cons (X_if (T_cmp (E_item (E_name ok (at_ 1 rfl)) (E_name ok (at_ 6 rfl)) (by omega) (by omega) gb) E_int C_eq) ?h1 ?h2)
      case h1 =>
        intro hb
        have e : mailsAt dr bs (i + 1) = { mailsAt dr bs i with mail := quoteS (mailsAt dr bs i).mail } := by
          show mailStep dr bs (5 - i) _ = _
          rw [hpe]; unfold mailStep; rw [if_pos hb]
        refine X_cons (X_assign ok (E_pcall ok (globs _).quotedata (A_cons (E_name ok (at_ 2 rfl)) A_nil) (c_quote hb0 (mailsAt dr bs i).mail (by omega)) rm) (put_ 2 rfl) (X_nil (X_nil ?_)))
        exact ⟨_, _, by rw [e]; rfl⟩
      case h2 =>
        intro hb
        have e : mailsAt dr bs (i + 1) = { mail := (mailsAt dr bs i).mail ++ laidS (dr.getD p 0)
                                           told := (mailsAt dr bs i).told ++ (if freeAt bs p == 0 then laidS (dr.getD p 0) else Txt.mul (Str.ofString ".") (freeAt bs p) ++ evenS (dr.getD p 0))
                                           typed := (mailsAt dr bs i).typed ++ laidS (dr.getD p 0)
                                           even := (mailsAt dr bs i).even ++ evenS (dr.getD p 0) } := by
          show mailStep dr bs (5 - i) _ = _
          rw [hpe]; unfold mailStep; rw [if_neg (by rw [hb]; decide)]
        have cl := fun (rm' : Nat) => c_laid hb0 (dr.getD p 0)
        refine X_cons (X_assign ok (E_bin (E_name ok (at_ 2 rfl)) (E_pcall ok (globs _).laid (A_cons (E_item (E_name ok (at_ 0 rfl)) (E_name ok (at_ 6 rfl)) (by omega) (by omega) gd) A_nil) (c_laid hb0 (dr.getD p 0)) rm) (O_adds (by omega))) (put_ 2 rfl) ?_)
        refine X_cons (X_assign (d := .str ((mailsAt dr bs i).told ++ (if freeAt bs p == 0 then laidS (dr.getD p 0) else Txt.mul (Str.ofString ".") (freeAt bs p) ++ evenS (dr.getD p 0)))) ok (E_bin (E_name ok (at_ 3 rfl)) (E_if (T_cmp (E_name ok (at_ 7 rfl)) E_int C_eq) (fun hf => ?i1) (fun hf => ?i2)) (O_adds ?sz)) (put_ 3 rfl) ?_)
        case i1 =>
          rw [if_pos hf]
          exact E_pcall ok (globs _).laid (A_cons (E_item (E_name ok (at_ 0 rfl)) (E_name ok (at_ 6 rfl)) (by omega) (by omega) gd) A_nil) (c_laid hb0 (dr.getD p 0)) rm
        case i2 =>
          rw [if_neg (by rw [hf]; decide)]
          exact E_bin (E_bin E_str (E_name ok (at_ 7 rfl)) (O_muls (mulOk_of 1 5 (by rw [len_dot]; exact Nat.le_refl _) f.2 (by omega) (by decide) (by decide)))) (E_pcall ok (globs _).even (A_cons (E_item (E_name ok (at_ 0 rfl)) (E_name ok (at_ 6 rfl)) (by omega) (by omega) gd) A_nil) (c_even hb0 (dr.getD p 0)) rm) (O_adds (by omega))
        case sz =>
          split
          · omega
          · rw [strLen_append]; omega
        refine X_cons (X_assign ok (E_bin (E_name ok (at_ 4 rfl)) (E_pcall ok (globs _).laid (A_cons (E_item (E_name ok (at_ 0 rfl)) (E_name ok (at_ 6 rfl)) (by omega) (by omega) gd) A_nil) (c_laid hb0 (dr.getD p 0)) rm) (O_adds (by omega))) (put_ 4 rfl) ?_)
        refine X_cons (X_assign ok (E_bin (E_name ok (at_ 5 rfl)) (E_pcall ok (globs _).even (A_cons (E_item (E_name ok (at_ 0 rfl)) (E_name ok (at_ 6 rfl)) (by omega) (by omega) gd) A_nil) (c_even hb0 (dr.getD p 0)) rm) (O_adds (by omega))) (put_ 5 rfl) (X_nil (X_nil ?_)))
        exact ⟨_, _, by rw [e]; rfl⟩
  exact this
end Mine
end
/-! L5 -/
section
open PySem PySem.W PyProof.Rows PySem.Spec PySem.Calls
set_option maxRecDepth 100000
set_option maxHeartbeats 1000000
set_option linter.unusedVariables false
namespace Mine

noncomputable def kidB (sc : Scope) (own caps : List Str) : Bool :=
  (sc.kind == .function) && sc.names.all (fun p => !(p.2 == NameKind.cell)) && nodupB (sc.names.map (·.1)) && own.all (fun x => sc.names.lookup x == some .local && !(x == ("__debug__" : Str))) && nodupB (own ++ caps) && caps.all (fun x => sc.names.lookup x == some .free)
  && sc.names.all (fun p => !(p.2 == NameKind.free) || caps.contains p.1)
theorem kid_of {c : Cx} {ρ : Frame} {scope : Scope} {own : List Str} {caps : List (Str × D)} (capn : List Str) (hn : caps.map (·.1) = capn) (h : kidB scope own capn = true) (hc : ∀ x ∈ capn, c.env.kindOf x = some .cell) (hm : ∀ p ∈ caps, (p.1, Slot.val p.2) ∈ ρ) : KidOk c ρ scope own caps := by
  subst hn
  unfold kidB at h
  simp only [Bool.and_eq_true] at h
  obtain ⟨⟨⟨⟨⟨⟨h1, h2⟩, h3⟩, h4⟩, h5⟩, h6⟩, h7⟩ := h
  refine ⟨by simpa using h1, fun x hx he => ?_, nodup_of h3, fun x hx => ?_, nodup_of h5, fun p hp => ⟨hc _ (List.mem_map_of_mem hp), ?_⟩, hm, fun n hn => ?_⟩
  · have := List.all_eq_true.mp h2 x hx
    rw [he] at this; exact absurd this (by decide)
  · have := List.all_eq_true.mp h4 x hx
    rw [Bool.and_eq_true] at this
    exact ⟨by simpa using this.1, by simpa using this.2⟩
  · have := List.all_eq_true.mp h6 p.1 (List.mem_map_of_mem hp)
    simpa using this
  · have := List.all_eq_true.mp h7 _ hn
    simpa using this

noncomputable def hookAt (sp : List Int) (r c : Nat) : Int := sp.getD r 0 - (c : Int) + (((sp.drop (r + 1)).filter (fun x => decide (x > (c : Int)))).length : Int)
noncomputable def hooksRow (sp : List Int) (r : Nat) (k : Nat) : List Int := (List.range k).map (hookAt sp r)
noncomputable def hooksUpto (sp : List Int) : Nat → List Int
  | 0 => []
  | r + 1 => hooksUpto sp r ++ hooksRow sp r (sp.getD r 0).toNat
noncomputable def hooksOf (sp : List Int) : List Int := hooksUpto sp sp.length


noncomputable def hookFr (sp hs : List Int) (sr : Slot) (sc : Slot) : Frame :=
  [(Str.ofString "spare", .val (.list (sp.map .int))), (Str.ofString "hooks", .own (hs.map .int)), (Str.ofString "r", sr), (Str.ofString "c", sc)]


theorem rng_map {a : Int} {n : Nat} : (rngInts a 1 n).map D.int = (List.range n).map fun i : Nat => D.int (a + i) := by
  unfold rngInts
  rw [List.map_map]
  congr 1
  funext i
  show D.int (a + (i : Int) * 1) = _
  rw [Int.mul_one]
theorem rng_get {f : Nat → D} {n i : Nat} {d : D} (h : ((List.range n).map f)[i]? = some d) : i < n ∧ d = f i := by
  rw [List.getElem?_map, Option.map_eq_some_iff] at h
  obtain ⟨k, hk, rfl⟩ := h
  obtain ⟨hlt, e⟩ := List.getElem?_eq_some_iff.mp hk
  rw [List.length_range] at hlt
  rw [List.getElem_range] at e
  subst e; exact ⟨hlt, rfl⟩
theorem rng_len {f : Nat → D} {n : Nat} : ((List.range n).map f).length = n := by simp
theorem size_up (a b : Int) : Builtin.Range.rangeSize a b 1 = (((b - a).toNat : Nat) : Int) := by
  unfold Builtin.Range.rangeSize
  rw [if_pos (by decide)]
  split <;> omega
section
variable {c : Cx} {ρ : Frame} {e e2 : Expr} {p pos : Pos}
theorem It_r1 (ok : CxOk c) (rm : Room c 0) {n : Nat} (h : EOk c ρ e (.int n)) (hn : n ≤ 1000) (hx : c.env.kindOf (Str.ofString "range") = some .globalImplicit := by rfl) (he : starEach [e] c.env = [(false, eval e c.env)] := by rfl)
    (hcall : ∀ env, eval (.Call (.Name (Str.ofString "range") p) [e] [] pos) env = (do callWith pos (← eval (.Name (Str.ofString "range") p) env) [] (backTo pos (starEach [e] env)) (backToKw pos (keywordEach [] env))) := by intro _; rfl) :
    ItOk c ρ (.Call (.Name (Str.ofString "range") p) [e] [] pos) ((List.range n).map fun i : Nat => D.int i) := by
  have := It_rng ok (E_range1 (p := p) (pos := pos) ok rm h hx he hcall) (n := n) (by rw [size_up]; omega) (small_one (by omega) (by omega) (by omega) (by omega))
  rw [rng_map] at this
  simpa only [Int.zero_add] using this
theorem It_r2 (ok : CxOk c) (rm : Room c 0) {a b : Int} (h : EOk c ρ e (.int a)) (h2 : EOk c ρ e2 (.int b)) (ha : -1000 ≤ a ∧ a ≤ 1000) (hb : -1000 ≤ b ∧ b ≤ 1000) (hx : c.env.kindOf (Str.ofString "range") = some .globalImplicit := by rfl) (he : starEach [e, e2] c.env = (false, eval e c.env) :: starEach [e2] c.env := by rfl) (he2 : starEach [e2] c.env = [(false, eval e2 c.env)] := by rfl)
    (hcall : ∀ env, eval (.Call (.Name (Str.ofString "range") p) [e, e2] [] pos) env = (do callWith pos (← eval (.Name (Str.ofString "range") p) env) [] (backTo pos (starEach [e, e2] env)) (backToKw pos (keywordEach [] env))) := by intro _; rfl) (hp : (backTo pos (starEach [e2] c.env)).any (·.1) = false := by rfl) :
    ItOk c ρ (.Call (.Name (Str.ofString "range") p) [e, e2] [] pos) ((List.range (b - a).toNat).map fun i : Nat => D.int (a + i)) := by
  have := It_rng ok (E_range2 (p := p) (pos := pos) ok rm h h2 hx he he2 hcall hp) (n := (b - a).toNat) (size_up a b) (small_one (by omega) (by omega) (by omega) (by omega))
  rw [rng_map] at this
  exact this
theorem N_compE (ok : CxOk c) {elt target iter : Expr} {ifs : List Expr} {scope : Scope} (own : List Str) (caps : List (Str × D)) {ds ys : List D} (out : D → Option D)
    (KO : KidOk c ρ scope own caps) (hi : ItOk c ρ iter ds) (hsz : ds.length ≤ sizeLine)
    (hel : ∀ c', IsKid c scope c' → ∀ (i : Nat) (d : D), ds[i]? = some d → ElemOk c' (kidF own caps) target ifs elt caps d (out d)) (hy : ds.filterMap out = ys)
    (hset : ∀ x, foldedSetIterable iter c.env x = pure x := by intro _; rfl) : NOk c ρ (.ListComp elt [⟨target, iter, ifs, 0⟩] scope pos) ys := hy ▸ N_comp ok own caps KO hi hsz hel hset
end

theorem hooksUpto_len {sp : List Int} (h : ∀ x ∈ sp, 0 ≤ x ∧ x ≤ 6) : ∀ r, (hooksUpto sp r).length ≤ 6 * r
  | 0 => Nat.le_refl _
  | r + 1 => by
    have ih := hooksUpto_len h r
    unfold hooksUpto hooksRow
    rw [List.length_append, List.length_map, List.length_range]
    have : (sp.getD r 0).toNat ≤ 6 := by
      rw [List.getD_eq_getElem?_getD]
      cases e : sp[r]? with
      | none => decide
      | some x => have := h x (List.mem_of_getElem? e); show x.toNat ≤ 6; omega
    omega
theorem hooksRow_succ (sp : List Int) (r j : Nat) : hooksRow sp r (j + 1) = hooksRow sp r j ++ [hookAt sp r j] := by
  unfold hooksRow; rw [List.range_succ, List.map_append]; rfl
theorem filterMap_if (l : List Int) (p : Int → Bool) : (l.map D.int).filterMap (fun d => match d with | .int x => if p x then some (.int x) else none | _ => none) = (l.filter p).map D.int := by
  induction l with
  | nil => rfl
  | cons x l ih =>
    rw [List.map_cons, List.filterMap_cons, List.filter_cons]
    dsimp only
    cases p x
    · rw [if_neg (by decide), if_neg (by decide)]; exact ih
    · rw [if_pos rfl, if_pos rfl, List.map_cons, ← ih]

structure Small (sp : List Int) : Prop where
  len : sp.length ≤ 6
  bd : ∀ x ∈ sp, 0 ≤ x ∧ x ≤ 6

theorem c_hooks {w : World} {h0 : Heap} (hb0 : BaseOk w h0) {sp : List Int} (F : Small sp) : FnOk w h0 (.ref 161) [.list (sp.map .int)] (.list ((hooksOf sp).map .int)) 2 := by
  have : Sight PySem.Challenge.rw_sn0023_01 Mine.hd.heap_39 (FnOk w h0 (.ref 161) [.list (sp.map .int)] (.list ((hooksOf sp).map .int)) 2) := by
    k_fill
    unfold Sight
    refine' F_go hb0 (f := 161) [Str.ofString "spare"] [Str.ofString "hooks", Str.ofString "r", Str.ofString "c"] ?ho ?hcd rfl ?hchk (fun vs h => ?hbind) ?hbody ?c1 ?c2 ?c3
    case ho => k_is
    case hcd => k_is
    case c1 => rfl
    case c2 => rfl
    case c3 => rfl
    case hchk => decide +kernel
    case hbind =>
      match vs, h with
      | [v], _ => rfl
    rintro ⟨w', A, env, h0', g, dr', os⟩ ok rfl rfl rm ⟨L, rfl⟩
    have hz := sizeLine_eq
    have hl := F.len
    refine X_cons (X_assignN ok (N_list (ds := []) A_nil (by decide)) (put_ 1 rfl) rfl ?_)
    refine X_cons (X_for ok (It_r1 ok (rm.sub (Nat.zero_le _)) (E_len (xs := sp.map .int) ok (rm.sub (Nat.zero_le _)) (E_name ok (at_ 0 rfl)) (by rw [List.length_map]; omega)) (by rw [List.length_map]; omega)) (fun i ρ => ∃ pl fr, ρ = hookFr sp (hooksUpto sp i) pl fr) ⟨.no, .no, rfl⟩ ?turn ?done)
    case done =>
      rintro ρ₁ ⟨pl, fr, rfl⟩
      rw [rng_len, List.length_map]
      exact X_freeze (at_ 1 rfl) (put_ 1 rfl) (X_cons (X_ret (E_name ok (at_ 1 rfl)) rfl))
    case turn =>
      rintro i d ρ₁ hd ⟨pl, fr, rfl⟩
      obtain ⟨hi, rfl⟩ := rng_get hd
      rw [List.length_map] at hi
      have gs : (sp.map D.int)[((i : Nat) : Int).toNat]? = some (.int (sp.getD i 0)) := by
        rw [Int.toNat_natCast, List.getElem?_map, List.getD_eq_getElem?_getD, List.getElem?_eq_getElem (by omega)]; rfl
      have hb : 0 ≤ sp.getD i 0 ∧ sp.getD i 0 ≤ 6 := by
        rw [List.getD_eq_getElem?_getD, List.getElem?_eq_getElem hi]
        exact F.bd _ (List.getElem_mem hi)
      have hul := hooksUpto_len F.bd i
      refine ⟨_, G_name ok (put_ 2 rfl), ?_⟩
      refine X_cons (X_for ok (It_r1 (n := (sp.getD i 0).toNat) ok (rm.sub (Nat.zero_le _)) (by rw [Int.toNat_of_nonneg hb.1]; exact E_item (E_name ok (at_ 0 rfl)) (E_name ok (at_ 2 rfl)) (by omega) (by omega) gs) (by omega)) (fun j ρ => ∃ fr, ρ = hookFr sp (hooksUpto sp i ++ hooksRow sp i j) (.val (.int i)) fr) ⟨fr, by rw [show hooksRow sp i 0 = [] from rfl, List.append_nil]; rfl⟩ ?turn2 ?done2)
      case done2 =>
        rintro ρ₁ ⟨fr, rfl⟩
        rw [rng_len]
        exact X_nil ⟨_, _, rfl⟩
      case turn2 =>
        rintro j d ρ₁ hd ⟨fr, rfl⟩
        obtain ⟨hj, rfl⟩ := rng_get hd
        have hrl : (hooksRow sp i j).length = j := by unfold hooksRow; simp
        refine ⟨_, G_name ok (put_ 3 rfl), ?_⟩
        have hfl : ((sp.drop (i + 1)).filter (fun x => decide (x > (j : Int)))).length ≤ 6 := by
          have h1 := List.length_filter_le (fun x => decide (x > (j : Int))) (sp.drop (i + 1))
          rw [List.length_drop] at h1; omega
        refine X_cons (X_append (d := .int (hookAt sp i j)) (x := Str.ofString "hooks") ok (at_ 1 rfl) (E_bin (E_bin (E_item (E_name ok (at_ 0 rfl)) (E_name ok (at_ 2 rfl)) (by omega) (by omega) gs) (E_name ok (at_ 3 rfl)) O_sub) (E_len (xs := ((sp.drop (i + 1)).filter (fun x => decide (x > (j : Int)))).map .int) ok (rm.sub (Nat.zero_le _)) (NOk.e ?comp) (by rw [List.length_map]; omega)) (by rw [List.length_map]; exact O_add)) (by rw [List.length_map, List.length_append]; omega) (put_ 1 rfl) (X_nil ⟨_, by rw [hooksRow_succ, ← List.append_assoc]; unfold hookFr; rw [List.map_append (l₁ := hooksUpto sp i ++ hooksRow sp i j)]; rfl⟩))
        refine N_compE ok [Str.ofString "other"] [(Str.ofString "c", .int j)] (fun d => match d with | .int x => if decide (x > (j : Int)) then some (.int x) else none | _ => none) (kid_of [Str.ofString "c"] rfl (by decide +kernel) (by intro x hx; rw [List.mem_singleton.mp hx]; rfl) (by intro p hp; rw [List.mem_singleton.mp hp]; exact at_ 3 rfl))
          (It_list ok (E_sliceL (E_name ok (at_ 0 rfl)) (Pt_some (E_bin (E_name ok (at_ 2 rfl)) E_int O_add)) Pt_none (by rw [List.length_map]; omega) (show _ = (sp.drop (i + 1)).map D.int from by rw [show ((i : Int) + 1) = ((i + 1 : Nat) : Int) from rfl, pick_drop, List.map_drop]))) (by rw [List.length_map, List.length_drop]; omega) ?hel (filterMap_if _ _)
        rintro c' kd k d hk
        obtain ⟨x, hx, rfl⟩ := List.mem_map.mp (List.mem_of_getElem? hk)
        exact ⟨_, L_name kd.ok (kd.kind _ _ rfl (by decide)) (put_ 0 rfl), (by intro q hq; rw [List.mem_singleton.mp hq]; exact at_ 1 rfl), decide (x > (j : Int)), T_cmp (E_name kd.ok (at_ 0 rfl)) (E_name kd.ok (at_ 1 rfl)) C_gt, fun h => ⟨_, by dsimp only; rw [if_pos h], E_name kd.ok (at_ 0 rfl)⟩, fun h => by dsimp only; rw [if_neg (by rw [h]; decide)]⟩
  exact this
end Mine
end
/-! L6 -/
section
open PySem PySem.W PyProof.Rows PySem.Spec PySem.Calls
set_option maxRecDepth 100000
set_option maxHeartbeats 1000000
set_option linter.unusedVariables false
namespace Mine

noncomputable def partAt (ps : List Int) (t : Nat) : Nat → Int
  | 0 => 64 ^ t - 1
  | j + 1 => if (t : Int).fmod ((j + 1 : Nat) : Int) == 0 then (partAt ps t j).fdiv (ps.getD (j + 1) 0) else partAt ps t j
noncomputable def partsUpto : Nat → List Int
  | 0 => [0, 63]
  | k + 1 => partsUpto k ++ [partAt (partsUpto k) (k + 2) (k + 1)]
noncomputable def partsOf (most : Nat) : List Int := partsUpto (most - 1)
theorem partsUpto_len : ∀ k, (partsUpto k).length = k + 2
  | 0 => rfl
  | k + 1 => by unfold partsUpto; rw [List.length_append, partsUpto_len k]; rfl
theorem parts_ok : ∀ k < 20, ∀ d < 30, d < k + 1 → ((partsUpto k).getD (d + 1) 0 != 0 && decide (((partsUpto k).getD (d + 1) 0).natAbs < 2 ^ 1000)) = true := by decide +kernel
theorem getI {l : List Int} {i : Nat} (h : i < l.length) : (l.map D.int)[((i : Nat) : Int).toNat]? = some (.int (l.getD i 0)) := by
  rw [Int.toNat_natCast, List.getElem?_map, List.getD_eq_getElem?_getD, List.getElem?_eq_getElem h]; rfl

noncomputable def partFr (most : Int) (ps : List Int) (st sp sd : Slot) : Frame :=
  [(Str.ofString "most", .val (.int most)), (Str.ofString "parts", .own (ps.map .int)), (Str.ofString "t", st), (Str.ofString "part", sp), (Str.ofString "d", sd)]

theorem log2_lt {n : Nat} (h : n < 2 ^ 1000) : n.log2 < 9000 := by
  rcases Nat.eq_zero_or_pos n with rfl | hp
  · decide
  · have := (Nat.log2_lt (by omega)).mpr h; omega

theorem c_parts {w : World} {h0 : Heap} (hb0 : BaseOk w h0) {most : Nat} (hm : most ≤ 20) : FnOk w h0 (.ref 173) [.int most] (.list ((partsOf most).map .int)) 2 := by
  have : Sight PySem.Challenge.rw_sn0023_01 Mine.hd.heap_39 (FnOk w h0 (.ref 173) [.int most] (.list ((partsOf most).map .int)) 2) := by
    k_fill
    unfold Sight
    refine' F_go hb0 (f := 173) [Str.ofString "most"] [Str.ofString "parts", Str.ofString "t", Str.ofString "part", Str.ofString "d"] ?ho ?hcd rfl ?hchk (fun vs h => ?hbind) ?hbody ?c1 ?c2 ?c3
    case ho => k_is
    case hcd => k_is
    case c1 => rfl
    case c2 => rfl
    case c3 => rfl
    case hchk => decide +kernel
    case hbind =>
      match vs, h with
      | [v], _ => rfl
    rintro ⟨w', A, env, h0', g, dr', os⟩ ok rfl rfl rm ⟨L, rfl⟩
    have hz := sizeLine_eq
    refine X_cons (X_assignN ok (N_list (ds := [.int 0, .int 63]) (A_cons E_int (A_cons E_int A_nil)) (by decide)) (put_ 1 rfl) rfl ?_)
    refine X_cons (X_for ok (It_r2 ok (rm.sub (Nat.zero_le _)) E_int (E_bin (E_name ok (at_ 0 rfl)) E_int O_add) (by omega) (by omega)) (fun i ρ => ∃ a b c, ρ = partFr most (partsUpto i) a b c) ⟨.no, .no, .no, rfl⟩ ?turn ?done)
    case done =>
      rintro ρ₁ ⟨a, b, c, rfl⟩
      rw [rng_len, show (((most : Int) + 1 - 2).toNat) = most - 1 from by omega]
      exact X_freeze (at_ 1 rfl) (put_ 1 rfl) (X_cons (X_ret (E_name ok (at_ 1 rfl)) rfl))
    case turn =>
      rintro i d ρ₁ hd ⟨a, b, c, rfl⟩
      obtain ⟨hi, rfl⟩ := rng_get hd
      have hi' : i < 20 := by omega
      have hpl := partsUpto_len i
      have ht : (2 : Int) + (i : Int) = ((i + 2 : Nat) : Int) := by omega
      rw [ht]
      refine ⟨_, G_name ok (put_ 2 rfl), ?_⟩
      refine X_cons (X_assign (d := .int (partAt (partsUpto i) (i + 2) 0)) ok (E_bin (E_bin E_int (E_name ok (at_ 2 rfl)) (O_pow (by omega) ?pw)) E_int O_sub) (put_ 3 rfl) ?_)
      case pw =>
        have h64 : Builtin.Int.intBits 64 = 7 := by decide +kernel
        rw [h64]; omega
      refine X_cons (X_for ok (It_r2 (a := 1) (b := ((i + 2 : Nat) : Int)) ok (rm.sub (Nat.zero_le _)) E_int (E_name ok (at_ 2 rfl)) (by omega) (by omega)) (fun j ρ => ∃ c, ρ = partFr most (partsUpto i) (.val (.int ((i + 2 : Nat) : Int))) (.val (.int (partAt (partsUpto i) (i + 2) j))) c) ⟨c, rfl⟩ ?turn2 ?done2)
      case done2 =>
        rintro ρ₁ ⟨c, rfl⟩
        rw [rng_len, show (((i + 2 : Nat) : Int) - 1).toNat = i + 1 from by omega]
        have e : (partsUpto i).map D.int ++ [.int (partAt (partsUpto i) (i + 2) (i + 1))] = (partsUpto (i + 1)).map D.int := by
          show _ = (partsUpto i ++ [_]).map _
          rw [List.map_append]; rfl
        refine X_cons (X_append (d := .int (partAt (partsUpto i) (i + 2) (i + 1))) ok (at_ 1 rfl) (E_name ok (at_ 3 rfl)) (by rw [List.length_map]; omega) (put_ 1 rfl) (X_nil ?_))
        rw [e]
        exact ⟨_, _, _, rfl⟩
      case turn2 =>
        rintro j d ρ₁ hd ⟨c, rfl⟩
        obtain ⟨hj, rfl⟩ := rng_get hd
        have hd1 : (1 : Int) + (j : Int) = ((j + 1 : Nat) : Int) := by omega
        rw [hd1]
        have pk := parts_ok i hi' j (by omega) (by omega)
        rw [Bool.and_eq_true] at pk
        have pk1 : (partsUpto i).getD (j + 1) 0 ≠ 0 := by simpa using pk.1
        have pk2 : ((partsUpto i).getD (j + 1) 0).natAbs < 2 ^ 1000 := of_decide_eq_true pk.2
        refine ⟨_, G_name ok (put_ 4 rfl), ?_⟩
        refine X_cons (X_if (T_cmp (E_bin (E_name ok (at_ 2 rfl)) (E_name ok (at_ 4 rfl)) (O_mod (by omega))) E_int C_eq) (fun hb => ?y) (fun hb => ?n))
        case y =>
          refine X_cons (X_assign ok (E_bin (E_name ok (at_ 3 rfl)) (E_ownItem ok (at_ 1 rfl) (E_name ok (at_ 4 rfl)) (by omega) (by omega) (getI (by omega))) (O_fdiv pk1 (PyProof.noPylong_of_log2 (log2_lt pk2)))) (put_ 3 rfl) (X_nil (X_nil ?_)))
          rw [show partAt (partsUpto i) (i + 2) (j + 1) = (partAt (partsUpto i) (i + 2) j).fdiv ((partsUpto i).getD (j + 1) 0) from if_pos hb]
          exact ⟨_, rfl⟩
        case n =>
          refine X_nil (X_nil ?_)
          rw [show partAt (partsUpto i) (i + 2) (j + 1) = partAt (partsUpto i) (i + 2) j from if_neg (by rw [hb]; decide)]
          exact ⟨_, rfl⟩
  exact this
end Mine
end
/-! B13 -/
section
open PySem PySem.W PyProof.Rows PySem.Spec PySem.Calls
set_option maxRecDepth 100000
set_option maxHeartbeats 1000000
set_option linter.unusedVariables false
namespace Mine

section
variable {prog' : Program} {w : World} {A : Around} {E : Value → Shared → Prop} {s : Shared}
theorem setItem_LO {l : Addr} {vs : List Value} {n : Nat} {k : Int} {t : Tok} {v : Value} {Q : Unit → Shared → Prop} (ho : s.heap.get? l = some (LO vs n))
    (h0 : 0 ≤ k) (hfit : k < 2 ^ 63) (hn : k.toNat < vs.length)
    (hQ : ∀ h' n', h'.get? l = some (LO (vs.set k.toNat v) n') → Heap.SameBut l s.heap h' → Q () { s with heap := h' }) :
    wpAny (model prog' w) A (setItem (.ref l) (.int k t) v) Q E s := by
  have hl : s.heap.IsList l vs.toArray := ⟨_, ho, rfl, n, rfl⟩
  have hd : (LO vs n).data = .seq vs.toArray n := rfl
  unfold setItem
  try with_reducible refine wpAny_holding ?_
  first | refine wpAny_bind (wpAny_pure ?_) | skip
  refine wpAny_bind (wpAny_sequenceKey hl.typeIs (by decide) ?_)
  refine wpAny_bind (wpAny_callSpecial?_slot (name := Str.ofString "__setitem__") hl.typeIs slot_list_setitem
    (wpAny_call_entry slot_list_setitem hl.typeIs entry_list_setitem ?_ (args_list_setitem _ _ _)))
  show wpAny _ _ (Builtin.List.listSubscript? (.int k t) >>= _) _ _ s
  refine wpAny_bind (wpAny_listSubscript_int (fitsIndex_of h0 hfit) ?_)
  clear hfit
  obtain ⟨j, rfl⟩ := Int.eq_ofNat_of_zero_le h0
  have hj : j < vs.toArray.size := by rw [List.size_toArray]; simpa using hn
  have hx' : vs.toArray[j]? = some vs.toArray[j] := Array.getElem?_eq_getElem hj
  show wpAny _ _ ((seqItemAt l j >>= fun r => pure (r.map (j, ·))) >>= _) _ _ s
  refine wpAny_bind (wpAny_bind (wpAny_seqItemAt ho hd (wpAny_pure ?_)))
  rw [hx']
  show wpAny _ _ (setSeqItemAt l j v >>= _) _ _ s
  have e := Heap.get?_update_self (Obj.mapSeq (·.setIfInBounds j v)) ho rfl
  have e' : vs.toArray.setIfInBounds j v = (vs.set j v).toArray := by simp
  have hfin : ∃ n', (s.heap.update l (Obj.mapSeq (·.setIfInBounds j v))).get? l = some (LO (vs.set (Int.ofNat j).toNat v) n') := by
    refine ⟨n, ?_⟩
    rw [e]; unfold LO Obj.mapSeq; dsimp only; rw [if_pos (by simp), e']; rfl
  obtain ⟨n', hfin⟩ := hfin
  refine wpAny_bind (wpAny_setSeqItemAt ho hd ?_)
  first
    | exact wpAny_bind (wpAny_pure (wpAny_pure ⟨.none, rfl, wpAny_pure (hQ _ _ hfin (Heap.SameBut.update ..))⟩))
    | exact wpAny_pure ⟨.none, rfl, wpAny_pure (hQ _ _ hfin (Heap.SameBut.update ..))⟩
end

variable {c : Cx} {ρ ρ' : Frame}
theorem reps_set {z : PM} : ∀ {ds : List D} {vs : List Value} {d : D} {v : Value} (k : Nat), Reps z ds vs → Rep z d v → Reps z (ds.set k d) (vs.set k v)
  | [], _, _, _, k, h, _ => by rw [show _ = [] from h]; exact rfl
  | d0 :: ds, _, d, v, k, ⟨v0, r, e, h0, h1⟩, hd => by
    subst e
    cases k with
    | zero => exact ⟨v, r, rfl, hd, h1⟩
    | succ k => exact ⟨v0, _, rfl, h0, reps_set k h1 hd⟩

theorem X_setitem (ok : CxOk c) {x : Str} {i value : Expr} {p pos' pos : Pos} {ds : List D} {k : Int} {d : D} {P : Fl → Frame → Prop} (hx : (x, Slot.own ds) ∈ ρ) (hv : EOk c ρ value d) (hi : EOk c ρ i (.int k)) (h0 : 0 ≤ k) (hk : k.toNat < ds.length) (hz : ds.length ≤ sizeLine)
    (hu : Put x (.own (ds.set k.toNat d)) ρ ρ') (hP : P .next ρ')
    (hs : swapsWith value (some (.Subscript (.Name x p) i pos')) pos.line c.env = pure false := by rfl) : XOk c ρ (.Assign [.Subscript (.Name x p) i pos'] value pos) P := by
  constructor
  intro o z R s Q E S K
  have hzl := sizeLine_eq
  refine wpAny_Assign_Subscript (hv.run o z R s _ _ S fun v1 z1 s1 le1 S1 r1 => own_read ok hx S1 (hi.run o z1 R s1 _ _ S1 fun v2 z2 s2 le2 S2 r2 => ?_)) hs
  obtain ⟨t, rfl⟩ := r2
  obtain ⟨vs, n, ha, hr⟩ := own_at hx S2
  refine setItem_LO ha h0 (by omega) (by rw [hr.length]; exact hk) fun h' n' ha' hs' => ?_
  exact K .next ρ' o z2 _ _ (le1.le.trans le2.le) (S2.own_set (t := s2.toks) hx hu hs' ha' (reps_set _ hr (Rep.mono le2.le _ r1))) rfl hP

theorem N_mul {l r : Expr} {pos} {ds : List D} {k : Int} (hl : EOk c ρ l (.list ds)) (hr : EOk c ρ r (.int k)) (h0 : 0 ≤ k) (hsz : ds.length * k.toNat ≤ 2 ^ 24) (hne : ds ≠ []) : NOk c ρ (.BinOp l .Mult r pos) (List.replicate k.toNat ds).flatten := by
  constructor
  intro o z R s Q E S K
  refine wpAny_BinOp (hl.run o z R s _ _ S fun v1 z1 s1 le1 S1 r1 => hr.run o z1 R s1 _ _ S1 fun v2 z2 s2 le2 S2 r2 => ?_)
  obtain ⟨a, vs, n, rfl, ha, hvs⟩ := Rep.mono le2.le _ r1
  obtain ⟨u, rfl⟩ := r2
  have hl2 := S2.zh _ _ ha
  have hlen := hvs.length
  have hpos : 0 < ds.length := List.length_pos_iff.mpr hne
  have hk24 : k.toNat ≤ 2 ^ 24 := by
    have : 1 * k.toNat ≤ ds.length * k.toNat := Nat.mul_le_mul_right _ hpos
    omega
  have hn := get_size_none s2.heap
  have hsz' : vs.toArray.size * k.toNat ≤ 2 ^ 24 := by rw [List.size_toArray, hlen]; exact hsz
  refine wpAny_binaryOp_repeat_ref (T := "list") (U := "int") (by decide) ⟨_, hl2, rfl⟩ (fun s' => typeIs_int s' k u) noFill_list_mul F.fills_int_mul F.slot_int_rmul repeat_list F.slot_int_index.lookup
    (call_meets F.slot_int_rmul (typeIs_int _ k u) F.entry_int_rmul (F.args_int_rmul_2 _ _) (int___rmul___int_list k u a vs.toArray n)
      ⟨hl2, rfl, ⟨_, hl2, rfl⟩, call_meets F.slot_list_mul ⟨_, hl2, rfl⟩ F.entry_list_mul (F.args_list_mul_2 _ _)
        (AutoListH.list___mul___list_int_3 a vs.toArray n k u (by simp [Builtin.List.listFitsIndex]; omega) (by omega) (by simpa [Builtin.List.listTooLong, sizeLine] using hsz'))
        ⟨hl2, ?_⟩⟩)
  have hemp : vs.toArray.isEmpty = false := by
    cases vs with
    | nil => rw [List.length_nil] at hlen; omega
    | cons => rfl
  have e : (List.foldl (fun x1 x2 => x1 ++ x2) #[] (List.replicate (if vs.toArray.isEmpty = true then 0 else k.toNat) vs.toArray)) = ((List.replicate k.toNat vs).flatten).toArray := by
    rw [hemp, if_neg Bool.false_ne_true]
    apply Array.toList_inj.mp
    rw [foldl_rep vs k.toNat #[]]; simp
  show Q (.ref s2.heap.objs.size) { s2 with heap := s2.heap.push { cls := .type "list", data := .seq (List.foldl (fun x1 x2 => x1 ++ x2) #[] (List.replicate (if vs.toArray.isEmpty = true then 0 else k.toNat) vs.toArray)) } }
  rw [e]
  exact K _ _ 0 z2 _ (le1.trans (le2.trans Ext.ps)) (S2.temp (push_keeps _ _)) (Heap.get?_push_size _ rfl) (reps_rep hvs k.toNat) (S2.znew hn) (S2.rnew hn) (priv_new S2 hn)

/-- the greatest of a list -/
noncomputable def maxL : List Int → Int
  | [] => 0
  | [x] => x
  | x :: y :: r => max x (maxL (y :: r))
theorem maxL_is : ∀ {ns : List Int} {M : Int}, M ∈ ns → (∀ a ∈ ns, a ≤ M) → M = maxL ns
  | [x], M, hm, _ => List.mem_singleton.mp hm
  | x :: y :: r, M, hm, hb => by
    unfold maxL
    have hx := hb x List.mem_cons_self
    rcases List.mem_cons.mp hm with e | hm
    · subst e
      have h1 : maxL (y :: r) ≤ M := by
        have : ∀ {l : List Int}, l ≠ [] → (∀ a ∈ l, a ≤ M) → maxL l ≤ M := by
          intro l
          induction l with
          | nil => intro h; exact absurd rfl h
          | cons a l ih =>
            intro _ h
            cases l with
            | nil => exact h a List.mem_cons_self
            | cons b l =>
              unfold maxL
              have h1 := h a List.mem_cons_self
              have h2 := ih (List.cons_ne_nil _ _) fun q hq => h q (List.mem_cons_of_mem _ hq)
              omega
        exact this (List.cons_ne_nil _ _) fun a ha => hb a (List.mem_cons_of_mem _ ha)
      omega
    · have := maxL_is hm fun a ha => hb a (List.mem_cons_of_mem _ ha)
      omega
theorem F_maxL {w : World} {h0 : Heap} {ns : List Int} (hne : ns ≠ []) : FnOk w h0 (.builtin "max") [.list (ns.map D.int)] (.int (maxL ns)) 0 := by
  constructor
  intro A z s vs Q E hA hd hu zh hb hvs K
  obtain ⟨v, r, rfl, hv, hr⟩ := hvs
  obtain rfl : r = [] := hr
  obtain ⟨a, ws, n, rfl, ha, hws⟩ := hv
  have hl : s.heap.IsList a ws.toArray := ⟨_, zh _ _ ha, rfl, n, rfl⟩
  have hi := intsAre_of hws
  obtain ⟨xs, e⟩ := hi.allInts.items
  have hns : ns = xs.toList.map (·.1) := by rw [← hi.numsOf, ← nums_intItems, ← e]
  have hsz : 0 < xs.size := by
    have h3 := List.length_pos_iff.mpr hne; rw [hns, List.length_map, Array.length_toList] at h3; exact h3
  rw [e] at hl
  refine max_intList hA hl hsz fun v h' tk hv hk => ?_
  obtain ⟨t, rfl⟩ := intItems_at hv
  obtain ⟨h1, h2⟩ := argBest_gt (numAt xs) (xs.size - 1)
  refine K _ z h' tk (PM.le.refl z) (fun a b e => hk _ _ (zh a b e)) hk (fun _ h => .inl h) ⟨t, ?_⟩
  congr 1
  refine maxL_is ?_ fun a ha => ?_
  · rw [hns, numAt_eq]; exact getD_mem (by rw [List.length_map, Array.length_toList]; omega)
  · rw [hns] at ha
    obtain ⟨j, hj, rfl⟩ := mem_getD ha
    rw [List.length_map, Array.length_toList] at hj
    rw [← numAt_eq]; exact h2 j (by omega)
theorem E_maxl (ok : CxOk c) (rm : Room c 0) {e : Expr} {p pos : Pos} {ns : List Int} (hne : ns ≠ []) (h : EOk c ρ e (.list (ns.map .int))) (hx : c.env.kindOf (Str.ofString "max") = some .globalImplicit := by rfl) (he : starEach [e] c.env = [(false, eval e c.env)] := by rfl)
    (hcall : ∀ env, eval (.Call (.Name (Str.ofString "max") p) [e] [] pos) env = (do callWith pos (← eval (.Name (Str.ofString "max") p) env) [] (backTo pos (starEach [e] env)) (backToKw pos (keywordEach [] env))) := by intro _; rfl) : EOk c ρ (.Call (.Name (Str.ofString "max") p) [e] [] pos) (.int (maxL ns)) :=
  E_bcall ok (globs _).max b_max W_blt (A_cons h A_nil he) (F_maxL hne) rm (by decide +kernel) hx (by decide +kernel) he rfl hcall
end Mine
end
/-! L7 -/
section
open PySem PySem.W PyProof.Rows PySem.Spec PySem.Calls
set_option maxRecDepth 100000
set_option maxHeartbeats 1000000
set_option linter.unusedVariables false
namespace Mine

structure Way where
  laid : List Int
  last : Int
  total : Int
noncomputable def wayD (w : Way) : D := .tup [.list (w.laid.map .int), .int w.last, .int w.total]
noncomputable def growB (sp laid : List Int) (r : Nat) : Bool := decide (laid.getD r 0 < sp.getD r 0) && (((r : Int) == 0 || (decide (laid.getD r 0 < laid.getD (r - 1) 0) || false)) && true)
noncomputable def growW (k : Nat) (w : Way) (r : Nat) : Way := { laid := w.laid.take r ++ [w.laid.getD r 0 + 1] ++ w.laid.drop (r + 1), last := r, total := w.total + k * (if decide ((r : Int) > w.last) then 1 else 0) }
noncomputable def growRow (sp : List Int) (k : Nat) (w : Way) : Nat → List Way
  | 0 => []
  | r + 1 => growRow sp k w r ++ (if growB sp w.laid r then [growW k w r] else [])
noncomputable def growAll (sp : List Int) (k : Nat) (ws : List Way) : List Way := ws.flatMap fun w => growRow sp k w sp.length
noncomputable def waysAt (sp : List Int) : Nat → List Way
  | 0 => [⟨sp.map fun _ => 0, 0, 0⟩]
  | k + 1 => growAll sp k (waysAt sp k)
noncomputable def tallySet (t : List Int) (w : Way) : List Int := t.set w.total.toNat (t.getD w.total.toNat 0 + 1)
noncomputable def endWays (sp : List Int) : List Way := waysAt sp sp.sum.toNat
noncomputable def tallyLen (sp : List Int) : Int := 1 + maxL ((endWays sp).map (·.total))
noncomputable def tallyOf (sp : List Int) : List Int := (endWays sp).foldl tallySet (List.replicate (tallyLen sp).toNat 0)
structure TallyOk (sp : List Int) : Prop where
  small : Small sp
  cnt : ∀ k ≤ sp.sum.toNat, (waysAt sp k).length ≤ 1000
  lens : ∀ k ≤ sp.sum.toNat, ∀ w ∈ waysAt sp k, w.laid.length = sp.length
  tot : ∀ w ∈ endWays sp, 0 ≤ w.total ∧ w.total ≤ 1000
  ne : endWays sp ≠ []

theorem growRow_len (sp : List Int) (k : Nat) (w : Way) : ∀ r, (growRow sp k w r).length ≤ r
  | 0 => Nat.le_refl _
  | r + 1 => by
    have ih := growRow_len sp k w r
    unfold growRow
    rw [List.length_append]
    split <;> simp <;> omega
theorem growAll_len (sp : List Int) (k : Nat) : ∀ ws : List Way, (growAll sp k ws).length ≤ ws.length * sp.length
  | [] => Nat.zero_le _
  | w :: ws => by
    have ih := growAll_len sp k ws
    have h := growRow_len sp k w sp.length
    unfold growAll at *
    rw [List.flatMap_cons, List.length_append, List.length_cons, Nat.add_mul]; omega
theorem growAll_take (sp : List Int) (k : Nat) {ws : List Way} {i : Nat} {w : Way} (h : ws[i]? = some w) : growAll sp k (ws.take (i + 1)) = growAll sp k (ws.take i) ++ growRow sp k w sp.length := by
  unfold growAll
  rw [List.take_add_one, h, List.flatMap_append]
  simp
theorem sum_nonneg {l : List Int} (h : ∀ x ∈ l, 0 ≤ x ∧ x ≤ 6) : 0 ≤ l.sum ∧ l.sum ≤ 6 * l.length := by
  induction l with
  | nil => simp
  | cons x l ih =>
    have := h x List.mem_cons_self
    have := ih fun y hy => h y (List.mem_cons_of_mem _ hy)
    rw [List.sum_cons, List.length_cons]; omega
theorem bits_small {a : Int} (h : a.natAbs < 2 ^ 60) : Builtin.Int.intBits a ≤ 64 := by
  unfold Builtin.Int.intBits
  split
  · decide
  · rename_i hne
    have h0 : a.natAbs ≠ 0 := by
      intro e; apply hne; have : a = 0 := by omega
      rw [this]; rfl
    have := (Nat.log2_lt h0).mpr h; omega
theorem filterMap_const {α : Type} (l : List α) (f : α → D) (y : D) : (l.map f).filterMap (fun _ => some y) = l.map fun _ => y := by
  induction l with
  | nil => rfl
  | cons x l ih => rw [List.map_cons, List.filterMap_cons, List.map_cons, ← ih]
theorem maxL_ge : ∀ {l : List Int} {a : Int}, a ∈ l → a ≤ maxL l
  | [x], a, h => by rw [List.mem_singleton.mp h]; exact Int.le_refl _
  | x :: y :: r, a, h => by
    unfold maxL
    rcases List.mem_cons.mp h with e | h
    · subst e; omega
    · have := maxL_ge h; omega
theorem maxL_mem : ∀ {l : List Int}, l ≠ [] → maxL l ∈ l
  | [], h => absurd rfl h
  | [x], _ => List.mem_singleton.mpr rfl
  | x :: y :: r, _ => by
    unfold maxL
    have := maxL_mem (l := y :: r) (List.cons_ne_nil _ _)
    rcases Int.le_total x (maxL (y :: r)) with h | h
    · rw [Int.max_eq_right h]; exact List.mem_cons_of_mem _ this
    · rw [Int.max_eq_left h]; exact List.mem_cons_self
theorem foldl_len (l : List Way) : ∀ t : List Int, (l.foldl tallySet t).length = t.length := by
  induction l with
  | nil => intro t; rfl
  | cons w l ih => intro t; rw [List.foldl_cons, ih]; unfold tallySet; rw [List.length_set]
theorem ways0 (sp : List Int) : (waysAt sp 0).map wayD = [.tup [.list ((sp.map fun _ => (0 : Int)).map .int), .int 0, .int 0]] := rfl

noncomputable def tFr (sp : List Int) (sw sk sg s1 s2 s3 sr st sy : Slot) : Frame :=
  [(Str.ofString "spare", .val (.list (sp.map .int))), (Str.ofString "ways", sw), (Str.ofString "k", sk), (Str.ofString "grown", sg), (Str.ofString "laid", s1), (Str.ofString "last", s2), (Str.ofString "total", s3), (Str.ofString "r", sr), (Str.ofString "tally", st), (Str.ofString "way", sy)]
noncomputable def waysV (ws : List Way) : Slot := .val (.list (ws.map wayD))

theorem c_tally {w : World} {h0 : Heap} (hb0 : BaseOk w h0) {sp : List Int} (F : TallyOk sp) : FnOk w h0 (.ref 166) [.list (sp.map .int)] (.list ((tallyOf sp).map .int)) 2 := by
  have : Sight PySem.Challenge.rw_sn0023_01 Mine.hd.heap_39 (FnOk w h0 (.ref 166) [.list (sp.map .int)] (.list ((tallyOf sp).map .int)) 2) := by
    k_fill
    unfold Sight
    refine' F_go hb0 (f := 166) [Str.ofString "spare"] [Str.ofString "ways", Str.ofString "k", Str.ofString "grown", Str.ofString "laid", Str.ofString "last", Str.ofString "total", Str.ofString "r", Str.ofString "tally", Str.ofString "way"] ?ho ?hcd rfl ?hchk (fun vs h => ?hbind) ?hbody ?c1 ?c2 ?c3
    case ho => k_is
    case hcd => k_is
    case c1 => rfl
    case c2 => rfl
    case c3 => rfl
    case hchk => decide +kernel
    case hbind =>
      match vs, h with
      | [v], _ => rfl
    rintro ⟨w', A, env, h0', g, dr', os⟩ ok rfl rfl rm ⟨L, rfl⟩
    have hz := sizeLine_eq
    have hl := F.small.len
    have hsum := sum_nonneg F.small.bd
    refine X_cons (X_assign (d := .list ((waysAt sp 0).map wayD)) ok (ways0 sp ▸ NOk.e (N_list (A_cons (E_tuple (A_cons (NOk.e ?comp0) (A_cons E_int (A_cons E_int A_nil))) (by show 3 ≤ sizeLine; decide)) A_nil) (by show 1 ≤ sizeLine; decide))) (put_ 1 rfl) ?_)
    case comp0 =>
      refine N_compE ok [Str.ofString "one"] [] (fun _ => some (.int 0)) (kid_of [] rfl (by decide +kernel) (by intro x hx; cases hx) (by intro p hp; cases hp)) (It_list ok (E_name ok (at_ 0 rfl))) (by rw [List.length_map]; omega) ?_ ?_
      · rintro c' kd k d hk
        exact ⟨_, L_name kd.ok (kd.kind _ _ rfl (by decide)) (put_ 0 rfl), (by intro q hq; cases hq), _, rfl, E_int⟩
      · rw [filterMap_const, List.map_map]; rfl
    refine X_cons (X_for ok (It_r1 (n := sp.sum.toNat) ok (rm.sub (Nat.zero_le _)) (by rw [Int.toNat_of_nonneg hsum.1]; exact E_sum ok (rm.sub (Nat.zero_le _)) sp (E_name ok (at_ 0 rfl))) (by omega)) (fun k ρ => ∃ a b s1 s2 s3 s4, ρ = tFr sp (waysV (waysAt sp k)) a b s1 s2 s3 s4 .no .no) ⟨.no, .no, .no, .no, .no, .no, rfl⟩ ?turn ?done)
    case done =>
      rintro ρ₁ ⟨a, b, s1, s2, s3, s4, rfl⟩
      rw [rng_len]
      have hne : (endWays sp).map (·.total) ≠ [] := by
        intro e; exact F.ne (List.map_eq_nil_iff.mp e)
      have hmem : ∀ w ∈ endWays sp, w.total ≤ maxL ((endWays sp).map (·.total)) := fun w hw => maxL_ge (List.mem_map_of_mem hw)
      have hmx : 0 ≤ maxL ((endWays sp).map (·.total)) ∧ maxL ((endWays sp).map (·.total)) ≤ 1000 := by
        obtain ⟨w, hw, e⟩ := List.mem_map.mp (maxL_mem hne)
        have := F.tot w hw
        rw [← e]; exact this
      have hcnt := F.cnt sp.sum.toNat (Nat.le_refl _)
      refine X_cons (X_assignN (ds := (List.replicate (tallyLen sp).toNat (0 : Int)).map .int) ok ?nm (put_ 8 rfl) rfl ?_)
      case nm =>
        have e : (List.replicate (tallyLen sp).toNat [D.int 0]).flatten = (List.replicate (tallyLen sp).toNat (0 : Int)).map D.int := by
          generalize (tallyLen sp).toNat = n
          induction n with
          | zero => rfl
          | succ n ih => rw [List.replicate_succ, List.flatten_cons, ih, List.replicate_succ, List.map_cons]; rfl
        rw [← e]
        refine N_mul (NOk.e (N_list (A_cons E_int A_nil) (by show 1 ≤ sizeLine; decide))) (E_bin E_int (E_maxl (ns := (endWays sp).map (·.total)) ok (rm.sub (Nat.zero_le _)) hne (NOk.e ?mc)) O_add) (by unfold tallyLen; omega) (by show 1 * _ ≤ _; unfold tallyLen; omega) (List.cons_ne_nil _ _)
        refine N_compE ok [Str.ofString "way"] [] (fun d => match d with | .tup [_, _, t] => some t | _ => none) (kid_of [] rfl (by decide +kernel) (by intro x hx; cases hx) (by intro p hp; cases hp)) (It_list ok (E_name ok (at_ 1 rfl))) (by rw [List.length_map]; omega) ?_ ?_
        · rintro c' kd k d hk
          obtain ⟨w, hw, rfl⟩ := List.mem_map.mp (List.mem_of_getElem? hk)
          exact ⟨_, L_name kd.ok (kd.kind _ _ rfl (by decide)) (put_ 0 rfl), (by intro q hq; cases hq), _, rfl, E_itemT (k := 2) (E_name kd.ok (at_ 0 rfl)) E_int (by decide) (by decide) rfl⟩
        · show ((endWays sp).map wayD).filterMap _ = _
          generalize endWays sp = ws
          induction ws with
          | nil => rfl
          | cons x l ih => rw [List.map_cons, List.filterMap_cons]; dsimp only [wayD]; rw [ih]; rfl
      have hTL : (tallyLen sp).toNat ≤ 1001 := by unfold tallyLen; omega
      refine X_cons (X_for ok (It_list ok (E_name ok (at_ 1 rfl))) (fun i ρ => ∃ sy, ρ = tFr sp (waysV (endWays sp)) a b s1 s2 s3 s4 (.own ((((endWays sp).take i).foldl tallySet (List.replicate (tallyLen sp).toNat 0)).map .int)) sy) ⟨.no, rfl⟩ ?turnT ?doneT)
      case doneT =>
        rintro ρ₁ ⟨sy, rfl⟩
        have e0 : (endWays sp).take (((waysAt sp sp.sum.toNat).map wayD).length) = endWays sp := by rw [List.length_map]; exact List.take_of_length_le (Nat.le_refl _)
        rw [e0]
        exact X_freeze (at_ 8 rfl) (put_ 8 rfl) (X_cons (X_ret (E_name ok (at_ 8 rfl)) rfl))
      case turnT =>
        rintro i d ρ₁ hd ⟨sy, rfl⟩
        rw [List.getElem?_map, Option.map_eq_some_iff] at hd
        obtain ⟨wy, hwy, rfl⟩ := hd
        have hwy : (endWays sp)[i]? = some wy := hwy
        have hw := List.mem_of_getElem? hwy
        have ht := F.tot wy hw
        have hm := hmem wy hw
        have hlt : wy.total.toNat < (((endWays sp).take i).foldl tallySet (List.replicate (tallyLen sp).toNat 0)).length := by
          rw [foldl_len, List.length_replicate]; unfold tallyLen; omega
        have hlb : (((endWays sp).take i).foldl tallySet (List.replicate (tallyLen sp).toNat 0)).length ≤ 1001 := by
          rw [foldl_len, List.length_replicate]; exact hTL
        refine ⟨_, G_name ok (put_ 9 rfl), ?_⟩
        have e : (((endWays sp).take (i + 1)).foldl tallySet (List.replicate (tallyLen sp).toNat 0)).map D.int = ((((endWays sp).take i).foldl tallySet (List.replicate (tallyLen sp).toNat 0)).map D.int).set wy.total.toNat (.int ((((endWays sp).take i).foldl tallySet (List.replicate (tallyLen sp).toNat 0)).getD wy.total.toNat 0 + 1)) := by
          rw [List.take_add_one, hwy, List.foldl_append]
          show (tallySet _ wy).map D.int = _
          unfold tallySet
          rw [List.map_set]
        generalize ((endWays sp).take i).foldl tallySet (List.replicate (tallyLen sp).toNat 0) = T at hlt hlb e
        have gt : (T.map D.int)[wy.total.toNat]? = some (.int (T.getD wy.total.toNat 0)) := by
          rw [List.getElem?_map, List.getD_eq_getElem?_getD, List.getElem?_eq_getElem hlt]; rfl
        refine X_cons (X_setitem ok (at_ 8 rfl) (E_bin (E_ownItem ok (at_ 8 rfl) (E_itemT (k := 2) (d := .int wy.total) (E_name ok (at_ 9 rfl)) E_int (by decide) (by decide) rfl) ht.1 (by omega) gt) E_int O_add) (E_itemT (k := 2) (d := .int wy.total) (E_name ok (at_ 9 rfl)) E_int (by decide) (by decide) rfl) ht.1 (by rw [List.length_map]; exact hlt) (by rw [List.length_map]; omega) (put_ 8 rfl) (X_nil ?_))
        rw [e]
        exact ⟨_, rfl⟩
    case turn =>
      rintro k d ρ₁ hd ⟨a, b, s1, s2, s3, s4, rfl⟩
      obtain ⟨hk, rfl⟩ := rng_get hd
      have hcnt := F.cnt k (by omega)
      have hlens := F.lens k (by omega)
      refine ⟨_, G_name ok (put_ 2 rfl), ?_⟩
      refine X_cons (X_assignN ok (N_list (ds := []) A_nil (by decide)) (put_ 3 rfl) rfl ?_)
      refine X_cons (X_for ok (It_list ok (E_name ok (at_ 1 rfl))) (fun i ρ => ∃ s1 s2 s3 s4, ρ = tFr sp (waysV (waysAt sp k)) (.val (.int k)) (.own ((growAll sp k ((waysAt sp k).take i)).map wayD)) s1 s2 s3 s4 .no .no) ⟨s1, s2, s3, s4, rfl⟩ ?turn2 ?done2)
      case done2 =>
        rintro ρ₁ ⟨s1, s2, s3, s4, rfl⟩
        rw [List.length_map, List.take_of_length_le (Nat.le_refl _)]
        refine X_freeze (at_ 3 rfl) (put_ 3 rfl) (X_cons (X_assign ok (E_name ok (at_ 3 rfl)) (put_ 1 rfl) (X_nil ?_)))
        exact ⟨_, _, _, _, _, _, rfl⟩
      case turn2 =>
        rintro i d ρ₁ hd ⟨s1, s2, s3, s4, rfl⟩
        rw [List.getElem?_map, Option.map_eq_some_iff] at hd
        obtain ⟨wy, hwy, rfl⟩ := hd
        have hlen := hlens wy (List.mem_of_getElem? hwy)
        have hi : i < (waysAt sp k).length := (List.getElem?_eq_some_iff.mp hwy).1
        have hga := growAll_len sp k ((waysAt sp k).take i)
        rw [List.length_take] at hga
        refine ⟨_, G_tup ok (Gs_cons (G_name ok (put_ 4 rfl)) (Gs_cons (G_name ok (put_ 5 rfl)) (Gs_cons (G_name ok (put_ 6 rfl)) Gs_nil))), ?_⟩
        refine X_cons (X_for ok (It_r1 (n := sp.length) ok (rm.sub (Nat.zero_le _)) (by rw [show ((sp.length : Nat) : Int) = (((sp.map D.int).length : Nat) : Int) from by rw [List.length_map]]; exact E_len ok (rm.sub (Nat.zero_le _)) (E_name ok (at_ 0 rfl)) (by rw [List.length_map]; omega)) (by omega)) (fun r ρ => ∃ s4, ρ = tFr sp (waysV (waysAt sp k)) (.val (.int k)) (.own ((growAll sp k ((waysAt sp k).take i) ++ growRow sp k wy r).map wayD)) (.val (.list (wy.laid.map .int))) (.val (.int wy.last)) (.val (.int wy.total)) s4 .no .no) ⟨s4, by rw [show growRow sp k wy 0 = [] from rfl, List.append_nil]; rfl⟩ ?turn3 ?done3)
        case done3 =>
          rintro ρ₁ ⟨s4, rfl⟩
          rw [rng_len, ← growAll_take sp k hwy]
          exact X_nil ⟨_, _, _, _, rfl⟩
        case turn3 =>
          rintro r d ρ₁ hd ⟨s4, rfl⟩
          obtain ⟨hr, rfl⟩ := rng_get hd
          have hgr := growRow_len sp k wy r
          have hmul : ((waysAt sp k).take i).length * sp.length ≤ 1000 * 6 := Nat.mul_le_mul (by rw [List.length_take]; omega) hl
          rw [List.length_take] at hmul
          have e1 : growRow sp k wy (r + 1) = growRow sp k wy r ++ (if growB sp wy.laid r then [growW k wy r] else []) := rfl
          have hr1 : ((r : Int) == 0) = false → 0 ≤ (r : Int) - 1 := fun hr0 => by
            have : (r : Int) ≠ 0 := by simpa using hr0
            omega
          have hr2 : ((r : Int) == 0) = false → (wy.laid.map D.int)[((r : Int) - 1).toNat]? = some (.int (wy.laid.getD (r - 1) 0)) := fun hr0 => by
            have : (r : Int) ≠ 0 := by simpa using hr0
            have e2 : ((r : Int) - 1) = ((r - 1 : Nat) : Int) := by omega
            rw [e2]; exact getI (by omega)
          refine ⟨_, G_name ok (put_ 7 rfl), ?_⟩
          refine X_cons (X_if (b := growB sp wy.laid r) (T_and (T_cmp (E_item (E_name ok (at_ 4 rfl)) (E_name ok (at_ 7 rfl)) (by omega) (by omega) (getI (by omega))) (E_item (E_name ok (at_ 0 rfl)) (E_name ok (at_ 7 rfl)) (by omega) (by omega) (getI (by omega))) C_lt) (fun _ => T_and (T_or (T_cmp (E_name ok (at_ 7 rfl)) E_int C_eq) (fun hr0 => T_or (T_cmp (E_item (E_name ok (at_ 4 rfl)) (E_name ok (at_ 7 rfl)) (by omega) (by omega) (getI (by omega))) (E_item (k := (r : Int) - 1) (E_name ok (at_ 4 rfl)) (E_bin (E_name ok (at_ 7 rfl)) E_int O_sub) (hr1 hr0) (by omega) (hr2 hr0)) C_lt) (fun _ => T_or0))) (fun _ => T_and0))) (fun hb => ?cy) (fun hb => ?cn))
          case cy =>
            rw [e1, if_pos hb]
            have hgo : (growAll sp k ((waysAt sp k).take i) ++ growRow sp k wy r).length ≤ 7000 := by rw [List.length_append]; omega
            refine X_cons (X_append (d := wayD (growW k wy r)) ok (at_ 3 rfl) ?ctupl (by rw [List.length_map]; omega) (put_ 3 rfl) (X_nil (X_nil ?_)))
            case ctupl =>
              refine E_tuple (A_cons (NOk.e ?nl) (A_cons (E_name ok (at_ 7 rfl)) (A_cons (E_bin (E_name ok (at_ 6 rfl)) (E_bin (E_name ok (at_ 2 rfl)) (E_intb ok (rm.sub (Nat.zero_le _)) (E_cmp (E_name ok (at_ 7 rfl)) (E_name ok (at_ 5 rfl)) C_gt)) (O_mul (IntMulOk.of_left (bits_small (by omega))))) O_add) A_nil))) (by show 3 ≤ sizeLine; decide)
              show NOk _ _ _ ((wy.laid.take r ++ [wy.laid.getD r 0 + 1] ++ wy.laid.drop (r + 1)).map D.int)
              rw [List.map_append (l₁ := wy.laid.take r ++ [wy.laid.getD r 0 + 1])]
              refine N_add (NOk.e ?m1) ?m2 ?m3
              case m2 => exact E_sliceL (E_name ok (at_ 4 rfl)) (Pt_some (E_bin (E_name ok (at_ 7 rfl)) E_int O_add)) Pt_none (by rw [List.length_map]; omega) (by rw [show ((r : Int) + 1) = ((r + 1 : Nat) : Int) from rfl, pick_drop, List.map_drop])
              case m3 => simp only [List.length_append, List.length_map, List.length_take, List.length_drop, List.length_cons, List.length_nil]; omega
              rw [List.map_append (l₁ := wy.laid.take r)]
              refine N_add ?m4 (NOk.e ?m5) ?m6
              case m4 => exact E_sliceL (E_name ok (at_ 4 rfl)) Pt_none (Pt_some (E_name ok (at_ 7 rfl))) (by rw [List.length_map]; omega) (by rw [pick_take, List.map_take])
              case m6 => simp only [List.length_map, List.length_take, List.length_cons, List.length_nil]; omega
              refine N_list (A_cons (d := .int (wy.laid.getD r 0 + 1)) ?m7 A_nil) (by show 1 ≤ sizeLine; decide)
              exact E_bin (E_item (E_name ok (at_ 4 rfl)) (E_name ok (at_ 7 rfl)) (by omega) (by omega) (getI (by omega))) E_int O_add
            have e3 : (growAll sp k ((waysAt sp k).take i) ++ growRow sp k wy r).map wayD ++ [wayD (growW k wy r)] = (growAll sp k ((waysAt sp k).take i) ++ (growRow sp k wy r ++ [growW k wy r])).map wayD := by
              rw [← List.append_assoc, List.map_append (l₁ := _ ++ _)]; rfl
            rw [e3]
            exact ⟨_, rfl⟩
          case cn =>
            rw [e1, if_neg (by rw [hb]; decide), List.append_nil]
            exact X_nil (X_nil ⟨_, rfl⟩)
  exact this
end Mine
end
/-! B14 -/
section
open PySem PySem.W PyProof.Rows PySem.Spec PySem.Calls
set_option maxRecDepth 100000
set_option maxHeartbeats 1000000
set_option linter.unusedVariables false
namespace Mine

section
variable {prog' : Program} {w : World} {A : Around} {E : Value → Shared → Prop} {s : Shared} {K : Frag} {x C dx : Addr}
theorem setattr_same {es : List DictEntry} {n : Nat} {name : Str} {v : Value} {Q : Unit → Shared → Prop} (X : K.In s.heap) (hx : s.heap.get? x = some (instObj C dx)) (D : s.heap.get? dx = some (dictOf es n))
    (hs : findIn K (.ref C) "__setattr__" = some (some (.builtin "object.__setattr__"))) (hp : plainOver K C = true) (ht : takerIn K C name = some none) (hh : hasDictIn K C = true) (hl : (getL name es).isSome = true)
    (hz : (putL name (PyData.keyHash w.params name) (.str name (s.toks + 1)) v es).length ≤ 1000)
    (h : ∀ h', Heap.SameBut dx s.heap h' → h'.get? dx = some (dictOf (putL name (PyData.keyHash w.params name) (.str name (s.toks + 1)) v es) (putN name es n)) → Q () { s with heap := h', toks := s.toks + 2 }) :
    wpAny (model prog' w) A (setAttr (.ref x) name v) Q E s := by
  have I : InstAt s.heap x (instObj C dx) C (some (dictOf es n)) := ⟨hx, rfl, rfl, D⟩
  refine set_plain X I hs ?_
  refine osa_open (s := { s with toks := s.toks + 1 }) X I hp ht fun b => ?_
  obtain ⟨cd, hc, hd'⟩ := any_some hh
  have D' := Heap.get?_update_self (Obj.putName name (PyData.keyHash w.params name) (.str name (s.toks + 1)) v) D (by rw [putName_dict]; rfl)
  rw [putName_dict] at D'
  refine wpAny_bind (wpAny_pure (wpAny_bind (wpAny_bind (wpAny_loadPart hx (wpAny_bind (Looks.here (s := { s with toks := s.toks + 1 }) (looks_clsIn X hc) ?_))))))
  rw [hd']
  refine wpAny_pure (a := some dx) (wpAny_bind (wpAny_pure (wpAny_bind ?_)))
  unfold nsSet
  refine wpAny_bind (wpAny_bind (wpAny_askSetting (wpAny_pure (wpAny_bind (wpAny_mkText (wpAny_bind (wpAny_loadPart D ?_)))))))
  dsimp only
  have c : (!es.toArray.any (·.key.isStr name) && es.toArray.any (·.refKey)) = false := by
    rw [← Array.any_toList, ← Array.any_toList]
    unfold getL at hl
    split at hl
    · rename_i en he
      rw [List.any_eq_true.mpr ⟨en, List.mem_of_find?_eq_some he, List.find?_some he⟩]; rfl
    · split at hl
      · cases hl
      · rename_i z; rw [Bool.not_eq_true] at z; rw [show es.toArray.toList.any (·.refKey) = false from z, Bool.and_false]
  rw [aRefKeyMayBeTheName_at, c]
  refine wpAny_updatePart D ?_
  refine wpAny_bind (wpAny_lookBehind D' (pastItsLine_dict (by rw [List.size_toArray, sizeLine_eq]; omega)) ?_)
  exact wpAny_pure (h _ (Heap.SameBut.update ..) D')
end
end Mine
end
/-! B15 -/
section
open PySem PySem.W PyProof.Rows PySem.Spec PySem.Calls
set_option maxRecDepth 100000
set_option maxHeartbeats 1000000
set_option linter.unusedVariables false
namespace Mine

noncomputable def MethK (w : World) (name : Str) (f : Addr) : Prop := findIn (Mine.hd.heap_39 w.params) (.ref 131) name = some (some (.ref f)) ∧ typeIn (Mine.hd.heap_39 w.params) (.ref f) = some (.type "function") ∧ keepIn (Mine.hd.heap_39 w.params) (.ref f) = true
noncomputable def OwnK (w : World) (name : Str) : Prop := findIn (Mine.hd.heap_39 w.params) (.ref 131) name = some none ∧ takerIn (Mine.hd.heap_39 w.params) 131 name = some none
structure ClsK (w : World) : Prop where
  ga : findIn (Mine.hd.heap_39 w.params) (.ref 131) "__getattribute__" = some (some (.builtin "object.__getattribute__"))
  gt : findIn (Mine.hd.heap_39 w.params) (.ref 131) "__getattr__" = some none
  sa : findIn (Mine.hd.heap_39 w.params) (.ref 131) "__setattr__" = some (some (.builtin "object.__setattr__"))
  hd : hasDictIn (Mine.hd.heap_39 w.params) 131 = true
  po : plainOver (Mine.hd.heap_39 w.params) 131 = true
  mkk : makesIn (Mine.hd.heap_39 w.params) 131 = true
  ini : MethK w "__init__" 86
  run : MethK w "longest_run_of_spaces" 93
  ind : MethK w "indent_level" 100
  nev : MethK w "not_equal_witness" 114
  less : MethK w "less" 121
  raw : OwnK w "raw"
  n : OwnK w "n"
  nt : OwnK w "nt"
  norm : OwnK w "norm"
  simp : OwnK w "is_simple"
  reads : readsIn (Mine.hd.heap_39 w.params) 131 (.type "type") = true
  S : ∃ t, findCls (Mine.hd.heap_39 w.params) (.ref 131) (.type "type") "S" = some (.val (.str (Str.ofString " ") t))
  T : ∃ t, findCls (Mine.hd.heap_39 w.params) (.ref 131) (.type "type") "T" = some (.val (.str (Str.ofString "\t") t))
theorem clsK (w : World) : ClsK w := by
  have : Sight PySem.Challenge.rw_sn0023_01 Mine.hd.heap_39 (ClsK w) := by
    k_fill
    unfold Sight
    constructor
    all_goals first
      | k_is
      | (unfold MethK; refine ⟨?_, ?_, ?_⟩ <;> k_is)
      | (unfold OwnK; refine ⟨?_, ?_⟩ <;> k_is)
      | (refine ⟨391, ?_⟩; k_is)
      | (refine ⟨392, ?_⟩; k_is)
  exact this

variable {c : Cx} {ρ ρ' : Frame}
theorem ws_at {z : PM} {W : WS} {v : Value} (h : Rep z (.ws W) v) : ∃ x dx es n, v = .ref x ∧ z x = some (instObj 131 dx) ∧ z dx = some (dictOf es n) ∧ WsEs z W es := h
theorem ws_own {name : Str} (ok : CxOk c) {o : Str → Addr} {z R : PM} {s : Shared} {x dx : Addr} {es : List DictEntry} {n : Nat} {v : Value} {Q : Value → Shared → Prop} {E : Value → Shared → Prop} (S : St c ρ o z R s) (hx : z x = some (instObj 131 dx)) (hd : z dx = some (dictOf es n)) (g : OwnK c.w name)
    (hl : getL name es = some (some v)) (hv : handedIn v = true) (K : Q v { s with toks := s.toks + 1 }) : wpAny (model prog c.w) c.A (getAttr (.ref x) name true) Q E s :=
  get_value (ok.K.keeps S.keep) (⟨S.zh _ _ hx, rfl, rfl, S.zh _ _ hd⟩ : InstAt s.heap x (instObj 131 dx) 131 (some (dictOf es n))) (clsK c.w).ga (findObj_own (clsK c.w).hd g.1 rfl hl) hv K

theorem E_attr (ok : CxOk c) {e : Expr} {name : Str} {pos : Pos} {W : WS} {d : D} (g : OwnK c.w name) (hg : ∀ z es, WsEs z W es → ∃ v, getL name es = some (some v) ∧ handedIn v = true ∧ Rep z d v) (h : EOk c ρ e (.ws W))
    (he : eval (.Attribute e name pos) c.env = (do
      let o ← eval e c.env
      standAt pos.atName
      let r ← holding [o] (getAttr o name true)
      letTemporaryGo e o r
      pure r) := by rfl) : EOk c ρ (.Attribute e name pos) d := by
  constructor
  intro o z R s Q E S K
  refine Attribute_any_ (h.run o z R s _ _ S fun v z1 s1 le1 S1 r1 => ?_) he
  obtain ⟨x, dx, es, n, rfl, hx, hd, hW⟩ := ws_at r1
  obtain ⟨v, h1, h2, h3⟩ := hg z1 es hW
  exact ws_own ok S1 hx hd g h1 h2 (K v z1 _ (le1.trans Ext.tk) (S1.tok _) h3)
theorem reps_intRep {z : PM} : ∀ {ns : List Int} {vs : List Value}, IntRep ns vs → Reps z (ns.map D.int) vs
  | [], vs, h => by have := h.1; cases vs with | nil => rfl | cons => simp at this
  | n :: ns, vs, h => by
    cases vs with
    | nil => have := h.1; simp at this
    | cons v vs =>
      obtain ⟨t, ht⟩ := h.2 0 n rfl
      have ht' : v = .int n t := by simpa using ht
      refine ⟨v, vs, rfl, ⟨t, ht'⟩, reps_intRep ⟨by have := h.1; simpa using this, fun i m hi => ?_⟩⟩
      obtain ⟨u, hu⟩ := h.2 (i + 1) m (by simpa using hi)
      exact ⟨u, by simpa using hu⟩
section
variable {e : Expr} {pos : Pos} {W : WS} (nm : Str)
theorem g_raw (z : PM) (es : List DictEntry) (h : WsEs z W es) : ∃ v, getL "raw" es = some (some v) ∧ handedIn v = true ∧ Rep z (.str W.raw) v := by
  obtain ⟨⟨t, h⟩, _⟩ := h; exact ⟨_, h, rfl, t, rfl⟩
theorem g_n (z : PM) (es : List DictEntry) (h : WsEs z W es) : ∃ v, getL "n" es = some (some v) ∧ handedIn v = true ∧ Rep z (.int W.n) v := by
  obtain ⟨_, ⟨t, h⟩, _⟩ := h; exact ⟨_, h, rfl, t, rfl⟩
theorem g_nt (z : PM) (es : List DictEntry) (h : WsEs z W es) : ∃ v, getL "nt" es = some (some v) ∧ handedIn v = true ∧ Rep z (.int W.nt) v := by
  obtain ⟨_, _, ⟨t, h⟩, _⟩ := h; exact ⟨_, h, rfl, t, rfl⟩
theorem g_simple (z : PM) (es : List DictEntry) (h : WsEs z W es) : ∃ v, getL "is_simple" es = some (some v) ∧ handedIn v = true ∧ Rep z (.bool W.simple) v := by
  obtain ⟨_, _, _, h, _⟩ := h; exact ⟨_, h, rfl, rfl⟩
theorem g_norm (z : PM) (es : List DictEntry) (h : WsEs z W es) : ∃ v, getL "norm" es = some (some v) ∧ handedIn v = true ∧ Rep z (.tup [.tup (W.count.map .int), .int W.b]) v := by
  obtain ⟨_, _, _, _, ⟨a, k, tc, vs, n, t, h1, h2, h3, h4⟩, _⟩ := h
  exact ⟨_, h1, rfl, a, _, k, rfl, h2, .ref tc, _, rfl, ⟨tc, vs, n, rfl, h3, reps_intRep h4⟩, .int W.b t, [], rfl, ⟨t, rfl⟩, rfl⟩
end

/-- a method of an object -/
theorem E_wsCall (ok : CxOk c) {recv e : Expr} {rest : List Expr} {name : Str} {ap p2 : Pos} {W : WS} {f : Addr} {ds : List D} {d : D} {rk : Nat} (g : MethK c.w name f) (hn : ∀ z es, WsEs z W es → getL name es = some none)
    (hr : EOk c ρ recv (.ws W)) (ha : AOk c ρ (e :: rest) ds) (hc : FnOk c.w c.h0 (.ref f) (.ws W :: ds) d rk) (hrm : Room c rk)
    (he : starEach (e :: rest) c.env = (false, eval e c.env) :: starEach rest c.env := by rfl) (hp : (backTo p2 (starEach rest c.env)).any (·.1) = false := by rfl)
    (hme : eval (.Call (.Attribute recv name ap) (e :: rest) [] p2) c.env = (do
      let ov ← eval recv c.env
      standAt ap.atName
      let (f, first) ← holding [ov] (getMethod ov name (do return (← importBound recv c.env).getD true))
      callWith p2 f first (backTo p2 (starEach (e :: rest) c.env)) []) := by rfl) : EOk c ρ (.Call (.Attribute recv name ap) (e :: rest) [] p2) d := by
  constructor
  intro o z R s Q E S K
  refine MethodCall_ (pl := (do return (← importBound recv c.env).getD true)) (hr.run o z R s _ _ S fun v z1 s1 le1 S1 r1 => ?_) hme
  have r1' := r1
  obtain ⟨x, dx, es, n, rfl, hx, hd, hW⟩ := ws_at r1
  refine method_fn (ok.K.keeps S1.keep) (⟨S1.zh _ _ hx, rfl, rfl, S1.zh _ _ hd⟩ : InstAt s1.heap x (instObj 131 dx) 131 (some (dictOf es n))) (clsK c.w).ga (clsK c.w).gt g.1 g.2.1 (by show (lookIn name (dictOf es n)).map _ = _; rw [lookIn_dict, hn z1 es hW]; rfl) ?_
  refine callWith_K (K := Mine.hd.heap_39 c.w.params) (h₀ := c.h0) ok.K g.2.2 (ha.run p2 o z1 R s1 _ _ S1 fun vs z2 s2 le2 S2 r2 => ⟨ok.K.keeps S2.keep, ?_⟩) he hp
  exact hc.at ok hrm S2 (vs := .ref x :: vs) (Reps.cons (Rep.mono le2.le (.ws W) r1') r2) fun v z3 s3 le3 S3 r3 => K v z3 s3 (le1.trans (le2.trans le3)) S3 r3
theorem E_wsCall0 (ok : CxOk c) {recv : Expr} {name : Str} {ap p2 : Pos} {W : WS} {f : Addr} {d : D} {rk : Nat} (g : MethK c.w name f) (hn : ∀ z es, WsEs z W es → getL name es = some none)
    (hr : EOk c ρ recv (.ws W)) (hc : FnOk c.w c.h0 (.ref f) [.ws W] d rk) (hrm : Room c rk)
    (hme : eval (.Call (.Attribute recv name ap) [] [] p2) c.env = (do
      let ov ← eval recv c.env
      standAt ap.atName
      let (f, first) ← holding [ov] (getMethod ov name (do return (← importBound recv c.env).getD true))
      callWith p2 f first (backTo p2 (starEach [] c.env)) []) := by rfl) : EOk c ρ (.Call (.Attribute recv name ap) [] [] p2) d := by
  constructor
  intro o z R s Q E S K
  refine MethodCall_ (pl := (do return (← importBound recv c.env).getD true)) (hr.run o z R s _ _ S fun v z1 s1 le1 S1 r1 => ?_) hme
  have r1' := r1
  obtain ⟨x, dx, es, n, rfl, hx, hd, hW⟩ := ws_at r1
  refine method_fn (ok.K.keeps S1.keep) (⟨S1.zh _ _ hx, rfl, rfl, S1.zh _ _ hd⟩ : InstAt s1.heap x (instObj 131 dx) 131 (some (dictOf es n))) (clsK c.w).ga (clsK c.w).gt g.1 g.2.1 (by show (lookIn name (dictOf es n)).map _ = _; rw [lookIn_dict, hn z1 es hW]; rfl) ?_
  refine callWith_K0 (K := Mine.hd.heap_39 c.w.params) (ok.K.keeps S1.keep) g.2.2 ?_
  exact hc.at ok hrm S1 (vs := [.ref x]) ⟨_, _, rfl, r1', rfl⟩ fun v z3 s3 le3 S3 r3 => K v z3 s3 (le1.trans le3) S3 r3
theorem m_run {W : WS} (z : PM) (es : List DictEntry) (h : WsEs z W es) : getL "longest_run_of_spaces" es = some none := h.2.2.2.2.2.1
theorem m_ind {W : WS} (z : PM) (es : List DictEntry) (h : WsEs z W es) : getL "indent_level" es = some none := h.2.2.2.2.2.2.1
theorem m_less {W : WS} (z : PM) (es : List DictEntry) (h : WsEs z W es) : getL "less" es = some none := h.2.2.2.2.2.2.2.1
theorem m_nev {W : WS} (z : PM) (es : List DictEntry) (h : WsEs z W es) : getL "not_equal_witness" es = some none := h.2.2.2.2.2.2.2.2

/-- a plain attribute of the class -/
theorem E_clsattr (ok : CxOk c) {e : Expr} {name : Str} {pos : Pos} {v : Value} (hf : findCls (Mine.hd.heap_39 c.w.params) (.ref 131) (.type "type") name = some (.val v)) (hv : handedIn v = true) (h : EOk c ρ e (.val (.ref 131)))
    (he : eval (.Attribute e name pos) c.env = (do
      let o ← eval e c.env
      standAt pos.atName
      let r ← holding [o] (getAttr o name true)
      letTemporaryGo e o r
      pure r) := by rfl) : EOk c ρ (.Attribute e name pos) (.val v) := by
  constructor
  intro o z R s Q E S K
  refine Attribute_any_ (h.run o z R s _ _ S fun v1 z1 s1 le1 S1 r1 => ?_) he
  rw [show v1 = .ref 131 from r1]
  exact cls_value (ok.K.keeps S1.keep) (clsK c.w).reads hf hv (K v z1 _ (le1.trans Ext.tk) (S1.tok _) rfl)
end Mine
end
/-! L8 -/
section
open PySem PySem.W PyProof.Rows PySem.Spec PySem.Calls
set_option maxRecDepth 100000
set_option maxHeartbeats 1000000
set_option linter.unusedVariables false
namespace Mine

noncomputable def runOf (W : WS) : Int := max ((W.count.length : Int) - 1) W.b
noncomputable def ilAt (W : WS) (ts : Nat) : Nat → Int
  | 0 => 0
  | k + 1 => ilAt W ts k + ((ts + k : Nat) : Int).fdiv ts * W.count.getD (ts + k) 0
noncomputable def indOf (W : WS) (ts : Nat) : Int := W.b + ts * (ilAt W ts (W.count.length - ts) + W.nt)

theorem F_lenT {w : World} {h0 : Heap} {xs : List D} (h : xs.length ≤ sizeLine) : FnOk w h0 (.builtin "len") [.tup xs] (.int xs.length) 0 := by
  constructor
  intro A z s vs Q E hA hd hu zh hb hvs K
  obtain ⟨v, r, rfl, hv, hr⟩ := hvs
  obtain rfl : r = [] := hr
  obtain ⟨a, ws, n, rfl, ha, hws⟩ := hv
  have hl : IsTup s.heap a ws.toArray := ⟨_, zh _ _ ha, rfl, n, rfl⟩
  have hlen : ws.toArray.size = xs.length := by rw [List.size_toArray, hws.length]
  refine len_tuple hl (by rw [hlen]; have := sizeLine_eq; omega) ?_
  rw [hlen]
  exact K _ z s.heap _ (PM.le.refl z) zh (fun _ _ e => e) (fun _ h => .inl h) ⟨_, rfl⟩
theorem E_lenT {c : Cx} {ρ : Frame} {e : Expr} {p pos : Pos} (ok : CxOk c) (rm : Room c 0) {xs : List Int} (h : EOk c ρ e (.tup (xs.map .int))) (hz : xs.length ≤ sizeLine) (hx : c.env.kindOf (Str.ofString "len") = some .globalImplicit := by rfl) (he : starEach [e] c.env = [(false, eval e c.env)] := by rfl)
    (hcall : ∀ env, eval (.Call (.Name (Str.ofString "len") p) [e] [] pos) env = (do callWith pos (← eval (.Name (Str.ofString "len") p) env) [] (backTo pos (starEach [e] env)) (backToKw pos (keywordEach [] env))) := by intro _; rfl) : EOk c ρ (.Call (.Name (Str.ofString "len") p) [e] [] pos) (.int xs.length) := by
  have := F_lenT (w := c.w) (h0 := c.h0) (xs := xs.map D.int) (by rw [List.length_map]; exact hz)
  rw [List.length_map] at this
  exact E_bcall ok (globs _).len b_len W_blt (A_cons h A_nil he) this rm (by decide +kernel) hx (by decide +kernel) he rfl hcall

theorem c_run {w : World} {h0 : Heap} (hb0 : BaseOk w h0) {W : WS} (F : W.count.length ≤ 200) : FnOk w h0 (.ref 93) [.ws W] (.int (runOf W)) 1 := by
  have : Sight PySem.Challenge.rw_sn0023_01 Mine.hd.heap_39 (FnOk w h0 (.ref 93) [.ws W] (.int (runOf W)) 1) := by
    k_fill
    unfold Sight
    refine' F_go hb0 (f := 93) [Str.ofString "self"] [Str.ofString "count", Str.ofString "trailing"] ?ho ?hcd rfl ?hchk (fun vs h => ?hbind) ?hbody ?c1 ?c2 ?c3
    case ho => k_is
    case hcd => k_is
    case c1 => rfl
    case c2 => rfl
    case c3 => rfl
    case hchk => decide +kernel
    case hbind =>
      match vs, h with
      | [v], _ => rfl
    rintro ⟨w', A, env, h0', g, dr', os⟩ ok rfl rfl rm ⟨L, rfl⟩
    have hz := sizeLine_eq
    refine X_cons (X_assignG (E_attr ok (clsK _).norm g_norm (E_name ok (at_ 0 rfl))) (G_tup ok (Gs_cons (G_name ok (put_ 1 rfl)) (Gs_cons (G_name ok (put_ 2 rfl)) Gs_nil))) ?_)
    exact X_cons (X_ret (E_max2 ok (rm.sub (Nat.zero_le _)) (E_bin (E_lenT ok (rm.sub (Nat.zero_le _)) (E_name ok (at_ 1 rfl)) (by omega)) E_int O_sub) (E_name ok (at_ 2 rfl))) rfl)
  exact this

noncomputable def indFr (W : WS) (ts : Nat) (il i : Slot) : Frame :=
  [(Str.ofString "self", .val (.ws W)), (Str.ofString "tabsize", .val (.int ts)), (Str.ofString "count", .val (.tup (W.count.map .int))), (Str.ofString "trailing", .val (.int W.b)), (Str.ofString "il", il), (Str.ofString "i", i)]
theorem c_ind {w : World} {h0 : Heap} (hb0 : BaseOk w h0) {W : WS} (F : W.count.length ≤ 200) {ts : Nat} (h1 : 1 ≤ ts) (h2 : ts ≤ 500) : FnOk w h0 (.ref 100) [.ws W, .int ts] (.int (indOf W ts)) 1 := by
  have : Sight PySem.Challenge.rw_sn0023_01 Mine.hd.heap_39 (FnOk w h0 (.ref 100) [.ws W, .int ts] (.int (indOf W ts)) 1) := by
    k_fill
    unfold Sight
    refine' F_go hb0 (f := 100) [Str.ofString "self", Str.ofString "tabsize"] [Str.ofString "count", Str.ofString "trailing", Str.ofString "il", Str.ofString "i"] ?ho ?hcd rfl ?hchk (fun vs h => ?hbind) ?hbody ?c1 ?c2 ?c3
    case ho => k_is
    case hcd => k_is
    case c1 => rfl
    case c2 => rfl
    case c3 => rfl
    case hchk => decide +kernel
    case hbind =>
      match vs, h with
      | [v, v2], _ => rfl
    rintro ⟨w', A, env, h0', g, dr', os⟩ ok rfl rfl rm ⟨L, rfl⟩
    have hz := sizeLine_eq
    refine X_cons (X_assignG (E_attr ok (clsK _).norm g_norm (E_name ok (at_ 0 rfl))) (G_tup ok (Gs_cons (G_name ok (put_ 2 rfl)) (Gs_cons (G_name ok (put_ 3 rfl)) Gs_nil))) ?_)
    refine X_cons (X_assign ok E_int (put_ 4 rfl) ?_)
    refine X_cons (X_for ok (It_r2 (a := (ts : Int)) (b := (W.count.length : Int)) ok (rm.sub (Nat.zero_le _)) (E_name ok (at_ 1 rfl)) (E_lenT ok (rm.sub (Nat.zero_le _)) (E_name ok (at_ 2 rfl)) (by omega)) (by omega) (by omega)) (fun k ρ => ∃ i, ρ = indFr W ts (.val (.int (ilAt W ts k))) i) ⟨.no, rfl⟩ ?turn ?done)
    case done =>
      rintro ρ₁ ⟨i, rfl⟩
      rw [rng_len, show ((W.count.length : Int) - (ts : Int)).toNat = W.count.length - ts from by omega]
      exact X_cons (X_ret (E_bin (E_name ok (at_ 3 rfl)) (E_bin (E_name ok (at_ 1 rfl)) (E_bin (E_name ok (at_ 4 rfl)) (E_attr ok (clsK _).nt g_nt (E_name ok (at_ 0 rfl))) O_add) (O_mul (IntMulOk.of_left (bits_small (by omega))))) O_add) rfl)
    case turn =>
      rintro k d ρ₁ hd ⟨i, rfl⟩
      obtain ⟨hk, rfl⟩ := rng_get hd
      have hidx : ts + k < W.count.length := by omega
      have e1 : (ts : Int) + (k : Int) = ((ts + k : Nat) : Int) := by omega
      rw [e1]
      have hq : (((ts + k : Nat) : Int).fdiv (ts : Int)).natAbs < 2 ^ 60 := by
        have hf : ((ts + k : Nat) : Int).fdiv (ts : Int) = (((ts + k) / ts : Nat) : Int) := by
          rw [Int.fdiv_eq_ediv_of_nonneg _ (by omega)]; rfl
        rw [hf, Int.natAbs_natCast]
        exact Nat.lt_of_le_of_lt (Nat.div_le_self (ts + k) ts) (by omega)
      refine ⟨_, G_name ok (put_ 5 rfl), ?_⟩
      refine X_cons (X_assign (d := .int (ilAt W ts (k + 1))) ok (E_bin (E_name ok (at_ 4 rfl)) (E_bin (E_bin (E_name ok (at_ 5 rfl)) (E_name ok (at_ 1 rfl)) (O_fdiv (by omega) (PyProof.noPylong_small (by omega)))) (E_itemT (E_name ok (at_ 2 rfl)) (E_name ok (at_ 5 rfl)) (by omega) (by omega) (getI hidx)) (O_mul (IntMulOk.of_left (bits_small hq)))) O_add) (put_ 4 rfl) (X_nil ⟨_, rfl⟩))
  exact this
end Mine
end
/-! L9 -/
section
open PySem PySem.W PyProof.Rows PySem.Spec PySem.Calls
set_option maxRecDepth 100000
set_option maxHeartbeats 1000000
set_option linter.unusedVariables false
namespace Mine

structure WsOk (W : WS) : Prop where
  len : W.count.length ≤ 200
  b0 : 0 ≤ W.b
  b2 : W.b ≤ 200
theorem run_bd {W : WS} (F : WsOk W) : 0 ≤ runOf W ∧ runOf W ≤ 200 := by
  have := F.len; have := F.b0; have := F.b2
  unfold runOf; omega
noncomputable def tup3 (t : Int × Int × Int) : D := .tup [.int t.1, .int t.2.1, .int t.2.2]
noncomputable def nevN (W V : WS) : Int := max (runOf W) (runOf V) + 1
noncomputable def nevUpto (W V : WS) : Nat → List (Int × Int × Int)
  | 0 => []
  | k + 1 => nevUpto W V k ++ (if indOf W (k + 1) != indOf V (k + 1) then [(((k + 1 : Nat) : Int), indOf W (k + 1), indOf V (k + 1))] else [])
noncomputable def nevOf (W V : WS) : List (Int × Int × Int) := nevUpto W V (nevN W V).toNat
theorem nevUpto_len (W V : WS) : ∀ k, (nevUpto W V k).length ≤ k
  | 0 => Nat.le_refl _
  | k + 1 => by
    have ih := nevUpto_len W V k
    unfold nevUpto
    rw [List.length_append]
    split
    · simp only [List.length_cons, List.length_nil]; omega
    · simp only [List.length_nil]; omega
noncomputable def lessOf (W V : WS) : Bool :=
  if decide (W.n ≥ V.n) then false else if (W.simple && (V.simple && true)) then decide (W.nt ≤ V.nt) else
  (List.range (nevN W V + 1 - 2).toNat).all fun k => !decide (indOf W (k + 2) ≥ indOf V (k + 2))

noncomputable def nevFr (W V : WS) (sn sa st : Slot) : Frame :=
  [(Str.ofString "self", .val (.ws W)), (Str.ofString "other", .val (.ws V)), (Str.ofString "n", sn), (Str.ofString "a", sa), (Str.ofString "ts", st)]

theorem c_nev {w : World} {h0 : Heap} (hb0 : BaseOk w h0) {W V : WS} (F : WsOk W) (G : WsOk V) : FnOk w h0 (.ref 114) [.ws W, .ws V] (.list ((nevOf W V).map tup3)) 2 := by
  have : Sight PySem.Challenge.rw_sn0023_01 Mine.hd.heap_39 (FnOk w h0 (.ref 114) [.ws W, .ws V] (.list ((nevOf W V).map tup3)) 2) := by
    k_fill
    unfold Sight
    refine' F_go hb0 (f := 114) [Str.ofString "self", Str.ofString "other"] [Str.ofString "n", Str.ofString "a", Str.ofString "ts"] ?ho ?hcd rfl ?hchk (fun vs h => ?hbind) ?hbody ?c1 ?c2 ?c3
    case ho => k_is
    case hcd => k_is
    case c1 => rfl
    case c2 => rfl
    case c3 => rfl
    case hchk => decide +kernel
    case hbind =>
      match vs, h with
      | [v, v2], _ => rfl
    rintro ⟨w', A, env, h0', g, dr', os⟩ ok rfl rfl rm ⟨L, rfl⟩
    have hz := sizeLine_eq
    have r1 := run_bd F
    have r2 := run_bd G
    have hn : 1 ≤ nevN W V ∧ nevN W V ≤ 201 := by unfold nevN; omega
    refine X_cons (X_assign (d := .int (nevN W V)) ok (E_bin (E_max2 ok (rm.sub (Nat.zero_le _)) (E_wsCall0 ok (clsK _).run m_run (E_name ok (at_ 0 rfl)) (c_run hb0 F.len) rm) (E_wsCall0 ok (clsK _).run m_run (E_name ok (at_ 1 rfl)) (c_run hb0 G.len) rm)) E_int O_add) (put_ 2 rfl) ?_)
    refine X_cons (X_assignN ok (N_list (ds := []) A_nil (by decide)) (put_ 3 rfl) rfl ?_)
    refine X_cons (X_for ok (It_r2 (a := 1) (b := nevN W V + 1) ok (rm.sub (Nat.zero_le _)) E_int (E_bin (E_name ok (at_ 2 rfl)) E_int O_add) (by omega) (by omega)) (fun k ρ => ∃ i, ρ = nevFr W V (.val (.int (nevN W V))) (.own ((nevUpto W V k).map tup3)) i) ⟨.no, rfl⟩ ?turn ?done)
    case done =>
      rintro ρ₁ ⟨i, rfl⟩
      rw [rng_len, show (nevN W V + 1 - 1).toNat = (nevN W V).toNat from by omega]
      exact X_freeze (at_ 3 rfl) (put_ 3 rfl) (X_cons (X_ret (E_name ok (at_ 3 rfl)) rfl))
    case turn =>
      rintro k d ρ₁ hd ⟨i, rfl⟩
      obtain ⟨hk, rfl⟩ := rng_get hd
      have e1 : (1 : Int) + (k : Int) = ((k + 1 : Nat) : Int) := by omega
      rw [e1]
      have hle := nevUpto_len W V k
      have cw := c_ind hb0 (W := W) F.len (ts := k + 1) (by omega) (by omega)
      have cv := c_ind hb0 (W := V) G.len (ts := k + 1) (by omega) (by omega)
      have e2 : nevUpto W V (k + 1) = nevUpto W V k ++ (if indOf W (k + 1) != indOf V (k + 1) then [(((k + 1 : Nat) : Int), indOf W (k + 1), indOf V (k + 1))] else []) := rfl
      refine ⟨_, G_name ok (put_ 4 rfl), ?_⟩
      refine X_cons (X_if (T_cmp (E_wsCall ok (clsK _).ind m_ind (E_name ok (at_ 0 rfl)) (A_cons (E_name ok (at_ 4 rfl)) A_nil) cw rm) (E_wsCall ok (clsK _).ind m_ind (E_name ok (at_ 1 rfl)) (A_cons (E_name ok (at_ 4 rfl)) A_nil) cv rm) C_ne) (fun hb => ?cy) (fun hb => ?cn))
      case cy =>
        refine X_cons (X_append (d := tup3 (((k + 1 : Nat) : Int), indOf W (k + 1), indOf V (k + 1))) ok (at_ 3 rfl) (E_tuple (A_cons (E_name ok (at_ 4 rfl)) (A_cons (E_wsCall ok (clsK _).ind m_ind (E_name ok (at_ 0 rfl)) (A_cons (E_name ok (at_ 4 rfl)) A_nil) cw rm) (A_cons (E_wsCall ok (clsK _).ind m_ind (E_name ok (at_ 1 rfl)) (A_cons (E_name ok (at_ 4 rfl)) A_nil) cv rm) A_nil))) (by show 3 ≤ sizeLine; decide)) (by rw [List.length_map]; omega) (put_ 3 rfl) (X_nil (X_nil ?_)))
        have e3 : (nevUpto W V k).map tup3 ++ [tup3 (((k + 1 : Nat) : Int), indOf W (k + 1), indOf V (k + 1))] = (nevUpto W V (k + 1)).map tup3 := by
          rw [e2, if_pos hb, List.map_append]; rfl
        rw [e3]
        exact ⟨_, rfl⟩
      case cn =>
        rw [e2, if_neg (by rw [hb]; decide), List.append_nil]
        exact X_nil (X_nil ⟨_, rfl⟩)
  exact this

noncomputable def lessFr (W V : WS) (sn st : Slot) : Frame :=
  [(Str.ofString "self", .val (.ws W)), (Str.ofString "other", .val (.ws V)), (Str.ofString "n", sn), (Str.ofString "ts", st)]
theorem c_less {w : World} {h0 : Heap} (hb0 : BaseOk w h0) {W V : WS} (F : WsOk W) (G : WsOk V) : FnOk w h0 (.ref 121) [.ws W, .ws V] (.bool (lessOf W V)) 2 := by
  have : Sight PySem.Challenge.rw_sn0023_01 Mine.hd.heap_39 (FnOk w h0 (.ref 121) [.ws W, .ws V] (.bool (lessOf W V)) 2) := by
    k_fill
    unfold Sight
    refine' F_go hb0 (f := 121) [Str.ofString "self", Str.ofString "other"] [Str.ofString "n", Str.ofString "ts"] ?ho ?hcd rfl ?hchk (fun vs h => ?hbind) ?hbody ?c1 ?c2 ?c3
    case ho => k_is
    case hcd => k_is
    case c1 => rfl
    case c2 => rfl
    case c3 => rfl
    case hchk => decide +kernel
    case hbind =>
      match vs, h with
      | [v, v2], _ => rfl
    rintro ⟨w', A, env, h0', g, dr', os⟩ ok rfl rfl rm ⟨L, rfl⟩
    have hz := sizeLine_eq
    have r1 := run_bd F
    have r2 := run_bd G
    have hn : 1 ≤ nevN W V ∧ nevN W V ≤ 201 := by unfold nevN; omega
    refine X_cons (X_if (T_cmp (E_attr ok (clsK _).n g_n (E_name ok (at_ 0 rfl))) (E_attr ok (clsK _).n g_n (E_name ok (at_ 1 rfl))) C_ge) (fun hb => X_cons (X_ret E_boolc ?l1)) (fun hb => X_nil ?_))
    case l1 => unfold lessOf; rw [if_pos hb]
    refine X_cons (X_if (T_and (T_bool (E_attr ok (clsK _).simp g_simple (E_name ok (at_ 0 rfl)))) (fun _ => T_and (T_bool (E_attr ok (clsK _).simp g_simple (E_name ok (at_ 1 rfl)))) (fun _ => T_and0))) (fun hb2 => X_cons (X_ret (E_cmp (E_attr ok (clsK _).nt g_nt (E_name ok (at_ 0 rfl))) (E_attr ok (clsK _).nt g_nt (E_name ok (at_ 1 rfl))) C_le) ?l2)) (fun hb2 => X_nil ?_))
    case l2 => unfold lessOf; rw [if_neg (by rw [hb]; decide), if_pos hb2]
    have e0 : lessOf W V = (List.range (nevN W V + 1 - 2).toNat).all fun k => !decide (indOf W (k + 2) ≥ indOf V (k + 2)) := by unfold lessOf; rw [if_neg (by rw [hb]; decide), if_neg (by rw [hb2]; decide)]
    refine X_cons (X_assign (d := .int (nevN W V)) ok (E_bin (E_max2 ok (rm.sub (Nat.zero_le _)) (E_wsCall0 ok (clsK _).run m_run (E_name ok (at_ 0 rfl)) (c_run hb0 F.len) rm) (E_wsCall0 ok (clsK _).run m_run (E_name ok (at_ 1 rfl)) (c_run hb0 G.len) rm)) E_int O_add) (put_ 2 rfl) ?_)
    refine X_cons (X_for ok (It_r2 (a := 2) (b := nevN W V + 1) ok (rm.sub (Nat.zero_le _)) E_int (E_bin (E_name ok (at_ 2 rfl)) E_int O_add) (by omega) (by omega)) (fun k ρ => (∀ j < k, decide (indOf W (j + 2) ≥ indOf V (j + 2)) = false) ∧ ∃ i, ρ = lessFr W V (.val (.int (nevN W V))) i) ⟨fun j hj => absurd hj (Nat.not_lt_zero j), .no, rfl⟩ ?turn ?done)
    case done =>
      rintro ρ₁ ⟨hall, i, rfl⟩
      refine X_cons (X_ret E_boolc ?_)
      rw [rng_len] at hall
      rw [e0]
      congr 2
      symm
      rw [List.all_eq_true]
      intro k hk
      rw [hall k (List.mem_range.mp hk)]; rfl
    case turn =>
      rintro k d ρ₁ hd ⟨hall, i, rfl⟩
      obtain ⟨hk, rfl⟩ := rng_get hd
      have e1 : (2 : Int) + (k : Int) = ((k + 2 : Nat) : Int) := by omega
      rw [e1]
      have cw := c_ind hb0 (W := W) F.len (ts := k + 2) (by omega) (by omega)
      have cv := c_ind hb0 (W := V) G.len (ts := k + 2) (by omega) (by omega)
      refine ⟨_, G_name ok (put_ 3 rfl), ?_⟩
      refine X_cons (X_if (T_cmp (E_wsCall ok (clsK _).ind m_ind (E_name ok (at_ 0 rfl)) (A_cons (E_name ok (at_ 3 rfl)) A_nil) cw rm) (E_wsCall ok (clsK _).ind m_ind (E_name ok (at_ 1 rfl)) (A_cons (E_name ok (at_ 3 rfl)) A_nil) cv rm) C_ge) (fun hb => X_cons (X_ret E_boolc ?cy)) (fun hb => X_nil (X_nil ⟨?cn, _, rfl⟩)))
      case cy =>
        show Fl.ret (.bool false) = Fl.ret (.bool (lessOf W V))
        rw [e0]
        congr 2
        symm
        rw [List.all_eq_false]
        exact ⟨k, List.mem_range.mpr hk, by rw [hb]; decide⟩
      case cn =>
        intro j hj
        rcases Nat.lt_succ_iff_lt_or_eq.mp hj with h | h
        · exact hall j h
        · subst h; exact hb
  exact this
end Mine
end
/-! B16 -/
section
open PySem PySem.W PyProof.Rows PySem.Spec PySem.Calls
set_option maxRecDepth 100000
set_option maxHeartbeats 1000000
set_option linter.unusedVariables false
namespace Mine

/-- the entries of an object's dict, as names and data -/
inductive Ents (z : PM) : List (Str × D) → List DictEntry → Prop
  | nil : Ents z [] []
  | cons {nm : Str} {t : Tok} {d : D} {v : Value} {h : Int} {fs es} : Rep z d v → Ents z fs es → Ents z ((nm, d) :: fs) (⟨h, .str nm t, v⟩ :: es)
theorem Ents.mono {z z' : PM} (h : z.le z') {fs : List (Str × D)} {es : List DictEntry} (e : Ents z fs es) : Ents z' fs es := by
  induction e with
  | nil => exact .nil
  | cons r _ ih => exact .cons (Rep.mono h _ r) ih
theorem Ents.put {z : PM} {fs : List (Str × D)} {es : List DictEntry} (e : Ents z fs es) {nm : Str} {d : D} {v : Value} {hh : Int} {t : Tok} (hn : nm ∉ fs.map (·.1)) (r : Rep z d v) : Ents z (fs ++ [(nm, d)]) (putL nm hh (.str nm t) v es) := by
  induction e with
  | nil => exact .cons r .nil
  | @cons nm' t' d' v' h' fs es r' _ ih =>
    rw [List.map_cons, List.mem_cons, not_or] at hn
    unfold putL
    have : (DictEntry.key ⟨h', .str nm' t', v'⟩).isStr nm = false := by
      show (nm' == nm) = false
      rw [beq_eq_false_iff_ne]; exact fun q => hn.1 q.symm
    rw [this, if_neg Bool.false_ne_true]
    exact .cons r' (ih hn.2)
theorem Ents.noref {z : PM} {fs : List (Str × D)} {es : List DictEntry} (e : Ents z fs es) : es.any (·.refKey) = false := by
  induction e with
  | nil => rfl
  | cons _ _ ih => rw [List.any_cons, ih]; rfl
theorem Ents.get {z : PM} {fs : List (Str × D)} {es : List DictEntry} (e : Ents z fs es) (nm : Str) : match fs.find? (·.1 == nm) with
    | some p => ∃ v, getL nm es = some (some v) ∧ Rep z p.2 v
    | none => getL nm es = some none := by
  induction e with
  | nil => rfl
  | @cons nm' t' d' v' h' fs es r' e' ih =>
    rw [List.find?_cons]
    cases q : (nm' == nm)
    · have q2 : (DictEntry.key ⟨h', .str nm' t', v'⟩).isStr nm = false := q
      have e1 : getL nm (⟨h', .str nm' t', v'⟩ :: es) = getL nm es := by
        unfold getL
        rw [List.find?_cons, q2, List.any_cons]
        rfl
      dsimp only
      rw [e1]; exact ih
    · have q2 : (DictEntry.key ⟨h', .str nm' t', v'⟩).isStr nm = true := q
      refine ⟨v', ?_, r'⟩
      unfold getL
      rw [List.find?_cons, q2]
theorem Ents.len {z : PM} {fs : List (Str × D)} {es : List DictEntry} (e : Ents z fs es) : es.length = fs.length := by
  induction e with
  | nil => rfl
  | cons _ _ ih => rw [List.length_cons, List.length_cons, ih]

/-- steps of a body that fills the object -/
structure InOk (c : Cx) (x dx : Addr) (ρ : Frame) (fs : List (Str × D)) (ss : List Stmt) (gs : List (Str × D)) : Prop where
  run : ∀ o z R s es n (Q : Flow → Shared → Prop) (E : Value → Shared → Prop), St c ρ o z R s → z x = some (instObj 131 dx) → z dx = none → R dx = none → ¬ Priv c ρ o dx → s.heap.get? dx = some (dictOf es n) → Ents z fs es →
    (∀ ρ' o' z' s' es' n', z.le z' → St c ρ' o' z' R s' → z' dx = none → s'.heap.get? dx = some (dictOf es' n') → Ents z' gs es' → Q .next s') → wpAny (model prog c.w) c.A (execs ss c.env) Q E s

variable {c : Cx} {ρ ρ' : Frame} {x dx : Addr} {fs gs : List (Str × D)} {ss : List Stmt}
theorem In_nil : InOk c x dx ρ fs [] fs := .mk fun o z R s es n Q E S hx hz hR hp hd he K => wpAny_execs_nil (K ρ o z s es n (PM.le.refl z) S hz hd he)
theorem St.same {o : Str → Addr} {z R : PM} {s : Shared} {h' : Heap} {t' : Nat} (S : St c ρ o z R s) (hz : z dx = none) (hR : R dx = none) (hp : ¬ Priv c ρ o dx) (hs : Heap.SameBut dx s.heap h') : St c ρ o z R { s with heap := h', toks := t' } :=
  S.other (t := t') (wr := [dx]) (fun b hb => by rw [List.mem_singleton.mp hb]; exact ⟨hz, hR, hp⟩) fun b o' hb e => (hs.2 b (fun q => hb (by rw [q]; exact List.mem_singleton_self _))).trans e

/-- an expression, while the dict is held -/
theorem at_held {o : Str → Addr} {z R : PM} {s : Shared} {es : List DictEntry} {n : Nat} (S : St c ρ o z R s) (hz : z dx = none) (hR : R dx = none) (hp : ¬ Priv c ρ o dx) (hd : s.heap.get? dx = some (dictOf es n)) :
    St c ρ o z (hold R [dx] s.heap) s ∧ ∀ {ρ' o' z' s'}, St c ρ' o' z' (hold R [dx] s.heap) s' → St c ρ' o' z' R s' ∧ s'.heap.get? dx = some (dictOf es n) ∧ z' dx = none ∧ ¬ Priv c ρ' o' dx := by
  refine ⟨S.holding fun b hb => by rw [List.mem_singleton.mp hb]; exact ⟨hz, hR, hp⟩, fun S' => ?_⟩
  obtain ⟨S2, h1, h2⟩ := S'.unhold (fun b hb => by rw [List.mem_singleton.mp hb]; exact hR) (fun b hb => by rw [List.mem_singleton.mp hb]; exact ⟨_, hd⟩)
  have h3 := h2 dx (List.mem_singleton_self _)
  exact ⟨S2, (h1 dx (List.mem_singleton_self _)).trans hd, h3.1, h3.2.2⟩

theorem In_step {st : Stmt} (h : XOk c ρ st fun fl ρ' => fl = .next ∧ InOk c x dx ρ' fs ss gs) : InOk c x dx ρ fs (st :: ss) gs := by
  constructor
  intro o z R s es n Q E S hx hz hR hp hd he K
  obtain ⟨S1, back⟩ := at_held S hz hR hp hd
  rw [show execs (st :: ss) c.env = (do match ← exec st c.env with | .next => execs ss c.env | f => pure f) from rfl]
  refine wpAny_bind (h.run o z _ s _ _ S1 fun fl ρ' o' z' s' f le S' hf hP => ?_)
  obtain ⟨rfl, hrest⟩ := hP
  obtain ⟨S2, hd2, hz2, hp2⟩ := back S'
  rw [show f = .next from hf]
  exact hrest.run o' z' R s' es n Q E S2 (le _ _ hx) hz2 hR hp2 hd2 (he.mono le) fun ρ'' o'' z'' s'' es' n' le' => K ρ'' o'' z'' s'' es' n' (le.trans le')

theorem In_set (ok : CxOk c) {self name : Str} {p ap pos : Pos} {value : Expr} {d : D} (hself : (self, Slot.val (.val (.ref x))) ∈ ρ) (g : OwnK c.w name) (he : EOk c ρ value d) (hn : name ∉ fs.map (·.1)) (hlen : fs.length ≤ 100)
    (h : InOk c x dx ρ (fs ++ [(name, d)]) ss gs)
    (hs : swapsWith value (some (.Attribute (.Name self p) name ap)) pos.line c.env = pure false := by rfl) : InOk c x dx ρ fs (.Assign [.Attribute (.Name self p) name ap] value pos :: ss) gs := by
  constructor
  intro o z R s es n Q E S hx hz hR hp hd hE K
  obtain ⟨S1, back⟩ := at_held S hz hR hp hd
  rw [show ∀ st, execs (st :: ss) c.env = (do match ← exec st c.env with | .next => execs ss c.env | f => pure f) from fun _ => rfl]
  refine wpAny_bind (plainObj_wpAny_Assign_Attribute (he.run o z _ s _ _ S1 fun v z1 s1 le1 S2 r1 => ?_) hs)
  refine (E_name ok hself).run o z1 _ s1 _ _ S2 fun v2 z2 s2 le2 S3 r2 => ?_
  rw [show v2 = .ref x from r2]
  obtain ⟨S4, hd4, hz4, hp4⟩ := back S3
  have E2 : Ents z2 fs es := hE.mono (le1.le.trans le2.le)
  have hnone : getL name es = some none := by
    have := E2.get name
    rw [List.find?_eq_none.mpr (fun q hq => by simpa using fun e : q.1 = name => hn (e ▸ List.mem_map_of_mem hq))] at this
    exact this
  have hE3 : ∀ hh t, Ents z2 (fs ++ [(name, d)]) (putL name hh (.str name t) v es) := fun hh t => E2.put hn (Rep.mono le2.le _ r1)
  have hx2 := S4.zh _ _ ((le1.le.trans le2.le) _ _ hx)
  refine setattr_same (ok.K.keeps S4.keep) hx2 hd4 (clsK c.w).sa (clsK c.w).po g.2 (clsK c.w).hd (by rw [hnone]; rfl) (by rw [(hE3 _ _).len, List.length_append]; show _ + 1 ≤ _; omega) fun h' hs' hd' => ?_
  exact h.run o z2 R _ _ _ Q E (S4.same hz4 hR hp4 hs') ((le1.le.trans le2.le) _ _ hx) hz4 hR hp4 hd' (hE3 _ _) fun ρ'' o'' z'' s'' es' n' le' => K ρ'' o'' z'' s'' es' n' ((le1.le.trans le2.le).trans le')

/-- a loop over a text that the object holds already -/
theorem In_for (ok : CxOk c) {self name : Str} {p ap pos : Pos} {target : Expr} {body : List Stmt} {X : Str} (hself : (self, Slot.val (.val (.ref x))) ∈ ρ) (g : OwnK c.w name) (hraw : fs.find? (·.1 == name) = some (name, .str X))
    (I : Nat → Frame → Prop) (h0 : I 0 ρ)
    (turn : ∀ i d ρ₁, (X.cps.toList.map fun n => D.str ⟨#[n]⟩)[i]? = some d → I i ρ₁ → ∃ ρ₂, GOk c ρ₁ target d ρ₂ ∧ XsOk c ρ₂ body fun fl ρ₃ => match fl with
      | .next | .cont => I (i + 1) ρ₃
      | .brk => InOk c x dx ρ₃ fs ss gs
      | .ret d => False)
    (done : ∀ ρ₁, I (X.cps.toList.map fun n => D.str ⟨#[n]⟩).length ρ₁ → InOk c x dx ρ₁ fs ss gs)
    (he : eval (.Attribute (.Name self p) name ap) c.env = (do
      let o ← eval (.Name self p) c.env
      standAt ap.atName
      let r ← holding [o] (getAttr o name true)
      letTemporaryGo (.Name self p) o r
      pure r) := by rfl)
    (hset : ∀ y, foldedSetIterable (.Attribute (.Name self p) name ap) c.env y = pure y := by intro _; rfl) : InOk c x dx ρ fs (.For target (.Attribute (.Name self p) name ap) body [] pos :: ss) gs := by
  constructor
  intro o z R s es n Q E S hx hz hR hp hd hE K
  obtain ⟨S1, back⟩ := at_held S hz hR hp hd
  rw [show ∀ st, execs (st :: ss) c.env = (do match ← exec st c.env with | .next => execs ss c.env | f => pure f) from fun _ => rfl]
  have hat : EAt c ρ (.Attribute (.Name self p) name ap) (.str X) o z (hold R [dx] s.heap) s := by
    intro Q E K
    refine Attribute_any_ ((E_name ok hself).run o z _ s _ _ S1 fun v2 z2 s2 le2 S3 r2 => ?_) he
    rw [show v2 = .ref x from r2]
    obtain ⟨S4, hd4, hz4, hp4⟩ := back S3
    have E2 := (hE.mono le2.le).get name
    rw [hraw] at E2
    obtain ⟨v, hv, hr⟩ := E2
    have hvh : handedIn v = true := by obtain ⟨t, rfl⟩ := hr; rfl
    exact get_value (ok.K.keeps S4.keep) (⟨S4.zh _ _ (le2.le _ _ hx), rfl, rfl, hd4⟩ : InstAt s2.heap x (instObj 131 dx) 131 (some (dictOf es n))) (clsK c.w).ga (findObj_own (clsK c.w).hd g.1 rfl hv) hvh (K v z2 _ (le2.trans Ext.tk) (S3.tok _) hr)
  refine wpAny_bind (X_for_at ok (P := fun fl ρ' => match fl with | .next => InOk c x dx ρ' fs ss gs | _ => False) (It_str_at ok hat) I h0 (fun i d ρ₁ hd' hI => ?_) done hset fun fl ρ' o' z' s' f le S' hf hP => ?_)
  · obtain ⟨ρ₂, hG, hX⟩ := turn i d ρ₁ hd' hI
    refine ⟨ρ₂, hG, hX.mono fun fl ρ₃ h => ?_⟩
    cases fl <;> exact h
  · cases fl with
    | next =>
      obtain ⟨S2, hd2, hz2, hp2⟩ := back S'
      rw [show f = .next from hf]
      exact hP.run o' z' R s' es n Q E S2 (le _ _ hx) hz2 hR hp2 hd2 (hE.mono le) fun ρ'' o'' z'' s'' es' n' le' => K ρ'' o'' z'' s'' es' n' (le.trans le')
    | brk => exact hP.elim
    | cont => exact hP.elim
    | ret d => exact hP.elim
end Mine
end
/-! B17 -/
section
open PySem PySem.W PyProof.Rows PySem.Spec PySem.Calls
set_option maxRecDepth 100000
set_option maxHeartbeats 1000000
set_option linter.unusedVariables false
namespace Mine

theorem codeAny_init {w : World} {h0 : Heap} (hb0 : BaseOk w h0) {f : Addr} {name qual : Str} {params : Arguments} {body : List Stmt} {scope : Scope} {dV kV doc pm cdv ct oc : Value} {an od : Option Addr} {osl : Array (Option Value)} {ds0 : List D} {rk : Nat} {xs : List Str} {ρ : Frame} {xo dx : Addr} {gs : List (Str × D)}
    (ho : (Mine.hd.heap_39 w.params).lookup f = some ⟨oc, od, .func (fnOf name qual params body scope dV kV doc pm an cdv ct), osl⟩) (hcd : codeIn (Mine.hd.heap_39 w.params) cdv qual = true)
    (hbind : ∀ (v : Value) (vs : List Value), vs.length = ds0.length → bindArgs (fnOf name qual params body scope dV kV doc pm an cdv ct) ⟨v :: vs, []⟩ = pure (xs.zip (v :: vs))) (hxs : xs.length = ds0.length + 1) (hxl : ∀ x ∈ xs, scope.names.lookup x = some .local)
    (hfr : frameOk scope ρ = true) (hnd : (ρ.map (·.1)).Nodup) (hcn : ((cellsFrom 0 scope.names []).map (·.1)).Nodup)
    (hini : ∀ p ∈ ρ, p.2 = .no ∨ ∃ (i : Nat) (y : Str) (d : D), xs[i]? = some y ∧ (D.val (.ref xo) :: ds0)[i]? = some d ∧ p = (y, .val d)) (hxd : xs.Nodup)
    (hbody : ∀ (c : Cx), CxOk c → c.w = w → c.h0 = h0 → Room c rk → (∃ L, c.env = callEnvC (fnOf name qual params body scope dV kV doc pm an cdv ct) L f) → InOk c xo dx ρ [] body gs)
    (hco : scope.isCoroutine = false) (hgen : scope.isGenerator = false) (hk : scope.kind = .function)
    {A : Around} {z : PM} {s : Shared} {vs0 : List Value} {RR : Result → Shared → Prop} (hA : A.handled = none) (hd : A.depth + (rk + 1) < recursionLimit) (hu : A.units + 60 * (rk + 1 + 1) < cLine)
    (zh : ∀ a b, z a = some b → s.heap.get? a = some b) (hb : ∀ a b, h0.get? a = some b → z a = some b) (hvs0 : Reps z ds0 vs0) (hx : z xo = some (instObj 131 dx)) (hz : z dx = none) (hdx : s.heap.get? dx = some (dictOf [] 0))
    (K : ∀ z' h' t' es n, z.le z' → (∀ a b, z' a = some b → h'.get? a = some b) → (∀ b o, b ≠ dx → s.heap.get? b = some o → h'.get? b = some o) → (∀ a, z' a ≠ none → z a ≠ none ∨ s.heap.get? a = none) → z' dx = none → h'.get? dx = some (dictOf es n) → Ents z' gs es → RR (.ok (.ret .none)) { s with heap := h', toks := t' }) :
    codeAny (model prog w) A (.call (.ref f) ⟨.ref xo :: vs0, []⟩) RR s := by
  have hvs : Reps z (D.val (.ref xo) :: ds0) (.ref xo :: vs0) := ⟨_, _, rfl, rfl, hvs0⟩
  generalize hds : D.val (.ref xo) :: ds0 = ds at hvs hini
  have hxs' : xs.length = ds.length := by rw [← hds, hxs]; rfl
  obtain ⟨p, loose, mean, mg, mb, T⟩ := hb0.T
  have keep : ∀ b o, h0.get? b = some o → s.heap.get? b = some o := fun b o e => zh _ _ (hb _ _ e)
  have X : (Mine.hd.heap_39 w.params).In s.heap := hb0.K.keeps keep
  refine (codeAny_call_cells (fd := fnOf name qual params body scope dV kV doc pm an cdv ct) (by omega) (X _ _ ho) rfl (T.nolimit.keeps keep) (codeRec_of X hcd) rfl (hbind (.ref xo) vs0 hvs0.length) rfl (fun x hx => ?_) (fun s₁ C => ?_) hco hgen hk)
  · exact .inl (hxl x.1 (List.of_mem_zip hx).1)
  generalize hL : s.heap.objs.size = L at C
  have hLn : s.heap.get? L = none := hL ▸ get_size_none _
  have big : ∀ a, L ≤ a → s.heap.get? a = none := fun a ha => by
    cases e : s.heap.get? a with
    | none => rfl
    | some b => exact absurd (hL ▸ Heap.lt_size e : a < L) (Nat.not_lt.mpr ha)
  have znew : ∀ a, s.heap.get? a = none → z a = none := fun a h => by
    cases e : z a with
    | none => rfl
    | some b => rw [zh _ _ e] at h; cases h
  let c : Cx := { w := w, A := A.deeper (callEnvC (fnOf name qual params body scope dV kV doc pm an cdv ct) L f), env := callEnvC (fnOf name qual params body scope dV kV doc pm an cdv ct) L f, h0 := h0, g := s.gens, dr := s.drawn, os := s.os }
  have ok : CxOk c := ⟨hA, by show A.units + 3 + 40 < cLine; omega, hk, rfl, rfl, hb0.K, hb0.T⟩
  have room : Room c rk := ⟨by show A.depth + 1 + rk < recursionLimit; omega, by show A.units + 3 + 60 * (rk + 1) < cLine; omega⟩
  let R : PM := fun a => if z a = none ∧ a ≠ dx then s.heap.get? a else none
  have hnames : c.env.cells.map (·.1) = (cellsFrom 0 scope.names []).map (·.1) := cellsFrom_names _ _ _ _ _ rfl
  obtain ⟨h₁, tk₁, e₁⟩ := C.toInCall.same
  have S : St c ρ (fun _ => 0) z R s₁ := {
    zh := fun a b e => C.toInCall.keep _ _ (zh a b e)
    rh := fun a b e => by
      dsimp only [R] at e; split at e
      · exact C.toInCall.keep _ _ e
      · cases e
    bz := hb
    zr := fun a h => if_neg fun q => h q.1
    gs := by rw [e₁]
    ds := by rw [e₁]
    oss := by rw [e₁]
    nodup := hnd
    named := fun p hp => by
      have := List.all_eq_true.mp hfr p hp
      rw [Bool.and_eq_true, Bool.or_eq_true, Bool.and_eq_true, beq_iff_eq, beq_iff_eq, Bool.not_eq_true'] at this
      refine ⟨?_, this.2⟩
      rcases this.1 with h | ⟨h, h'⟩
      · exact .inl h
      · rw [any_names (p := (· == p.1)) hnames.symm] at h'
        exact .inr ⟨h, lookup_some_of_any h'⟩
    sep := fun a hp => by
      have : s.heap.get? a = none := by
        cases hp with
        | loc => exact hLn
        | cell hm => exact big _ (Nat.le_of_lt (C.above _ _ hm))
        | own hm => rcases hini _ hm with e | ⟨_, _, _, _, _, e⟩ <;> cases e
      exact ⟨znew a this, by dsimp only [R]; split; exact this; rfl⟩
    cellL := fun p hp => ⟨Nat.ne_of_gt (C.above p.1 p.2 hp), _, C.cell p.1 p.2 (lookup_of_mem (by rw [hnames]; exact hcn) hp)⟩
    cellD := C.apart
    ownL := fun x ds' h => by rcases hini _ h with e | ⟨_, _, _, _, _, e⟩ <;> cases e
    ownD := fun x y dx dy h => by rcases hini _ h with e | ⟨_, _, _, _, _, e⟩ <;> cases e
    slots := ⟨_, C.toInCall.ns, fun p hp => by
      obtain ⟨x, sl⟩ := p
      rcases hini _ hp with e | ⟨i, y, d', hi, hd', e⟩
      · rw [show sl = .no from e]; trivial
      · cases e
        obtain ⟨v, hv, hr⟩ := hvs.get hd'
        refine ⟨v, .inl ⟨hxl _ (List.mem_of_getElem? hi), ?_⟩, hr⟩
        have gen : ∀ (binds : List (Str × Value)) (m : Str → Option Value), (∀ y ∈ binds, scope.names.lookup y.1 = some .local) → (binds.map (·.1)).Nodup → (x, v) ∈ binds → bindL c.env.kindOf binds m x = some v := by
          intro binds
          induction binds with
          | nil => intro m _ _ h; cases h
          | cons q r ih =>
            obtain ⟨n, u⟩ := q
            intro m hl hn hm
            rw [List.map_cons, List.nodup_cons] at hn
            unfold bindL
            rw [if_pos (show c.env.kindOf n = some .local from hl _ List.mem_cons_self)]
            rcases List.mem_cons.mp hm with e | hm
            · cases e
              have other : ∀ (r : List (Str × Value)) (m : Str → Option Value), x ∉ r.map (·.1) → bindL c.env.kindOf r m x = m x := by
                intro r
                induction r with
                | nil => intro m _; rfl
                | cons q r ih =>
                  intro m hx
                  rw [List.map_cons, List.mem_cons, not_or] at hx
                  unfold bindL
                  rw [ih _ hx.2]
                  split
                  · exact if_neg hx.1
                  · rfl
              rw [other _ _ hn.1]; exact if_pos rfl
            · exact ih _ (fun y hy => hl y (List.mem_cons_of_mem _ hy)) hn.2 hm
        refine gen _ _ (fun y hy => hxl _ (List.of_mem_zip hy).1) ?_ ?_
        · rw [List.map_fst_zip (by rw [hxs', hvs.length]; exact Nat.le_refl _)]; exact hxd
        · have : (xs.zip (.ref xo :: vs0))[i]? = some (x, v) := by rw [List.getElem?_zip_eq_some]; exact ⟨hi, hv⟩
          exact List.mem_of_getElem? this⟩ }
  have hdx1 : s₁.heap.get? dx = some (dictOf [] 0) := C.toInCall.keep _ _ hdx
  have hpriv : ¬ Priv c ρ (fun _ => 0) dx := fun hp => by
    cases hp with
    | loc => rw [show s.heap.get? c.env.locals = none from hLn] at hdx; cases hdx
    | cell hm => rw [big _ (Nat.le_of_lt (C.above _ _ hm))] at hdx; cases hdx
    | own hm => rcases hini _ hm with e | ⟨_, _, _, _, _, e⟩ <;> cases e
  have hRdx : R dx = none := if_neg fun h => h.2 rfl
  refine (hbody c ok rfl rfl room ⟨L, rfl⟩).run (fun _ => 0) z R s₁ [] 0 _ _ S hx hz hRdx hpriv hdx1 .nil fun ρ' o' z' s' es n le S' hz' hd' he' => ?_
  have es' : s' = { s with heap := s'.heap, toks := s'.toks } := by
    obtain ⟨a1, a2, a3, a4, a5⟩ := s'
    have b1 := S'.gs; have b2 := S'.ds; have b3 := S'.oss
    dsimp only at b1 b2 b3; subst b1 b2 b3; rfl
  show RR (.ok (.ret .none)) s'
  rw [es']
  refine K z' s'.heap s'.toks es n le S'.zh (fun b o hne e => ?_) (fun a h => ?_) hz' hd' he'
  · cases hzb : z b with
    | none => exact S'.rh b o (by dsimp only [R]; rw [if_pos ⟨hzb, hne⟩]; exact e)
    | some q => have := zh _ _ hzb; rw [e] at this; cases this; exact S'.zh _ _ (le _ _ hzb)
  · have hR := S'.zr a h
    by_cases hza : z a = none
    · right
      dsimp only [R] at hR
      by_cases hax : a = dx
      · subst hax; exact absurd hz' h
      · rwa [if_pos ⟨hza, hax⟩] at hR
    · exact .inl hza


theorem tc_units (args : Args) : (Code.builtin "type.__call__" args).cUnits = 1 := by kernel_rfl
theorem tc_weight (vs : List Value) : (Code.builtin "type.__call__" ⟨.ref 131 :: vs, []⟩).weight = 1 := by kernel_rfl
theorem F_make {w : World} {h0 : Heap} (hb0 : BaseOk w h0) {name qual : Str} {params : Arguments} {body : List Stmt} {scope : Scope} {dV kV doc pm cdv ct oc : Value} {an od : Option Addr} {osl : Array (Option Value)} {ds : List D} {rk : Nat} (sf : Str) (xs rest : List Str) {W : WS} (gs : List (Str × D))
    (ho : (Mine.hd.heap_39 w.params).lookup 86 = some ⟨oc, od, .func (fnOf name qual params body scope dV kV doc pm an cdv ct), osl⟩) (hcd : codeIn (Mine.hd.heap_39 w.params) cdv qual = true)
    (hxs : xs.length = ds.length) (hchk : goOk scope (sf :: xs) rest = true)
    (hbind : ∀ (v : Value) (vs : List Value), vs.length = ds.length → bindArgs (fnOf name qual params body scope dV kV doc pm an cdv ct) ⟨v :: vs, []⟩ = pure ((sf :: xs).zip (v :: vs)))
    (hbody : ∀ (x dx : Addr) (c : Cx), CxOk c → c.w = w → c.h0 = h0 → Room c rk → (∃ L, c.env = callEnvC (fnOf name qual params body scope dV kV doc pm an cdv ct) L 86) → InOk c x dx (goFrame (sf :: xs) (.val (.ref x) :: ds) rest) [] body gs)
    (hW : ∀ z es, Ents z gs es → WsEs z W es)
    (hco : scope.isCoroutine = false := by rfl) (hgen : scope.isGenerator = false := by rfl) (hk : scope.kind = .function := by rfl) : FnOk w h0 (.ref 131) ds (.ws W) (rk + 3) := by
  constructor
  intro A z s vs Q E hA hd hu zh hb hvs K
  have keep : ∀ b o, h0.get? b = some o → s.heap.get? b = some o := fun b o e => zh _ _ (hb _ _ e)
  have X : (Mine.hd.heap_39 w.params).In s.heap := hb0.K.keeps keep
  obtain ⟨hh, g, d, t, os⟩ := s
  refine wpAny_call (make_core (makes_of X (clsK w).mkk) (looks_findIn X (clsK w).ini.1) (fun self => bind_fn X self (clsK w).ini.2.1) (.inl rfl) ?_)
  unfold goOk at hchk
  rw [Bool.and_eq_true, Bool.and_eq_true, Bool.and_eq_true] at hchk
  obtain ⟨⟨⟨h1, h2⟩, h3⟩, h4⟩ := hchk
  have hl : (sf :: xs).length = (D.val (.ref (hh.objs.size + 1)) :: ds).length := by rw [List.length_cons, List.length_cons, hxs]
  have hn := goFrame_names (sf :: xs) (.val (.ref (hh.objs.size + 1)) :: ds) rest hl
  have hnd := nodup_of h3
  have n1 : hh.get? hh.objs.size = none := get_size_none _
  have k1 : ∀ b o, hh.get? b = some o → (hh.push emptyDict).get? b = some o := fun b o e => push_keeps _ _ _ _ e
  have k2 : ∀ b o, (hh.push emptyDict).get? b = some o → ((hh.push emptyDict).push (instObj 131 hh.objs.size)).get? b = some o := fun b o e => push_keeps _ _ _ _ e
  have hsz : (hh.push emptyDict).objs.size = hh.objs.size + 1 := Heap.size_push ..
  have n2 : hh.get? (hh.objs.size + 1) = none := by
    cases e : hh.get? (hh.objs.size + 1) with
    | none => rfl
    | some b => exact absurd (Heap.lt_size e : hh.objs.size + 1 < hh.objs.size) (Nat.not_lt.mpr (Nat.le_succ _))
  have zn : ∀ a, hh.get? a = none → z a = none := fun a h => by
    cases e : z a with
    | none => rfl
    | some b => rw [show hh.get? a = some b from zh _ _ e] at h; cases h
  have hx0 : ((hh.push emptyDict).push (instObj 131 hh.objs.size)).get? (hh.objs.size + 1) = some (instObj 131 hh.objs.size) := by
    rw [← hsz]; exact Heap.get?_push_size _ rfl
  have hd0 : ((hh.push emptyDict).push (instObj 131 hh.objs.size)).get? hh.objs.size = some (dictOf [] 0) := k2 _ _ (Heap.get?_push_size _ rfl)
  have le0 : z.le (z.put (hh.objs.size + 1) (instObj 131 hh.objs.size)) := PM.le.put (zn _ n2)
  refine codeAny_init hb0 (f := 86) (xo := hh.objs.size + 1) (dx := hh.objs.size) (rk := rk) (z := z.put (hh.objs.size + 1) (instObj 131 hh.objs.size)) (ds0 := ds) (xs := sf :: xs) ho hcd hbind (by rw [List.length_cons, hxs]) (fun x hx => by have := List.all_eq_true.mp h2 x hx; simpa using this) ?fr (by rw [hn]; exact hnd) (nodup_of h4) (goFrame_ini _ _ _ hl) (List.nodup_append.mp hnd).1 (hbody _ _) hco hgen hk hA ?dp ?un ?zh (fun a b e => le0 _ _ (hb a b e)) (Reps.mono le0 _ hvs) (PM.put_self _ _ _) ?zd hd0 ?K
  case fr =>
    unfold frameOk
    rw [List.all_eq_true]
    intro p hp
    exact List.all_eq_true.mp h1 p.1 (by rw [← hn]; exact List.mem_map_of_mem hp)
  case dp =>
    show A.depth + (Code.builtin "type.__call__" ⟨.ref 131 :: vs, []⟩).weight + (rk + 1) < recursionLimit
    rw [tc_weight]
    omega
  case un =>
    show A.units + (Code.builtin "type.__call__" ⟨.ref 131 :: vs, []⟩).cUnits + 60 * (rk + 1 + 1) < cLine
    rw [tc_units]
    omega
  case zh =>
    intro a b e
    unfold PM.put at e; split at e
    · rename_i q; cases e; subst q; exact hx0
    · exact k2 _ _ (k1 _ _ (zh _ _ e))
  case zd =>
    unfold PM.put; rw [if_neg (Nat.ne_of_lt (Nat.lt_succ_self _))]; exact zn _ n1
  case K =>
    intro z' h' t' es n le hzh hkp hnew hzd hdd he
    refine ⟨rfl, ?_⟩
    have le2 : z'.le (z'.put hh.objs.size (dictOf es n)) := PM.le.put hzd
    refine K (.ref (hh.objs.size + 1)) (z'.put hh.objs.size (dictOf es n)) h' t' (le0.trans (le.trans le2)) ?_ ?_ ?_ ⟨_, hh.objs.size, es, n, rfl, le2 _ _ (le _ _ (PM.put_self _ _ _)), PM.put_self _ _ _, hW _ _ (he.mono le2)⟩
    · intro a b e
      unfold PM.put at e; split at e
      · rename_i q; cases e; subst q; exact hdd
      · exact hzh _ _ e
    · intro b o e
      exact hkp b o (by rintro rfl; rw [show hh.get? hh.objs.size = some o from e] at n1; cases n1) (k2 _ _ (k1 _ _ e))
    · intro a ha
      show z a ≠ none ∨ hh.get? a = none
      unfold PM.put at ha; split at ha
      · rename_i q; subst q; exact .inr n1
      · rcases hnew a ha with h | h
        · unfold PM.put at h; split at h
          · rename_i q; subst q; exact .inr n2
          · exact .inl h
        · right
          cases e : hh.get? a with
          | none => rfl
          | some o => rw [show ((hh.push emptyDict).push (instObj 131 hh.objs.size)).get? a = some o from k2 _ _ (k1 _ _ e)] at h; cases h
end Mine
end
/-! L10 -/
section
open PySem PySem.W PyProof.Rows PySem.Spec PySem.Calls
set_option maxRecDepth 100000
set_option maxHeartbeats 1000000
set_option linter.unusedVariables false
namespace Mine

section
variable {c : Cx} {ρ ρ' ρ₂ : Frame}
/-- x1, x2 = (.., ..), where the interpreter stores the last first -/
theorem X_assignSw (ok : CxOk c) {elts : List Expr} {k tpos} {value : Expr} {pos} {x1 x2 : Str} {d1 d2 : D} {P : Fl → Frame → Prop} (he : EOk c ρ value (.tup [d1, d2])) (h2 : Put x2 (.val d2) ρ ρ') (h1 : Put x1 (.val d1) ρ' ρ₂) (hP : P .next ρ₂)
    (hs : swapsWithSole [.Tuple elts k tpos] value pos.line c.env = pure false := by rfl) (hw : swappedStores [.Tuple elts k tpos] value c.env = pure (some [x1, x2]) := by rfl) : XOk c ρ (.Assign [.Tuple elts k tpos] value pos) P := by
  constructor
  intro o z R s Q E S K
  refine Assign_Tuple_swapped (names := [x1, x2]) (he.run o z R s _ _ S fun v z1 s1 le1 S1 r1 => ?_) hs hw
  obtain ⟨a, vs, n, rfl, ha, v1, r, rfl, hv1, v2, r2, rfl, hv2, hr⟩ := r1
  obtain rfl : r2 = [] := hr
  refine unpackItems_tuple (items := [v1, v2].toArray) ok.hnd ⟨_, S1.zh _ _ ha, rfl, n, rfl⟩ fun h' he' => ?_
  have hk : ∀ b o', s1.heap.get? b = some o' → h'.get? b = some o' := fun b o' e => he' b o' (Nat.ne_of_lt (Heap.lt_size e)) e
  have S2 := S1.temp (t := s1.toks) hk
  refine assignInOrder_cons (wpAny_bindName (store_val ok S2 h2 hv2 fun s3 S3 _ => ?_))
  refine assignInOrder_cons (wpAny_bindName (store_val ok S3 h1 hv1 fun s4 S4 _ => ?_))
  exact assignInOrder_nil (K .next ρ₂ o z1 s4 _ le1.le S4 rfl hP)
end

structure WSt where
  n : Nat
  b : Nat
  nt : Nat
  count : List Int
noncomputable def padTo (count : List Int) (b : Nat) : List Int := if decide ((b : Int) ≥ (count.length : Int)) then count ++ List.replicate (b - count.length + 1) 0 else count
noncomputable def tabStep (s : WSt) : WSt := { n := s.n + 1, b := 0, nt := s.nt + 1, count := (padTo s.count s.b).set s.b ((padTo s.count s.b).getD s.b 0 + 1) }
noncomputable def wsGo : WSt → List Nat → WSt
  | s, [] => s
  | s, c :: r => if c == 32 then wsGo { s with n := s.n + 1, b := s.b + 1 } r else if c == 9 then wsGo (tabStep s) r else s
noncomputable def wsEnd (x : Str) : WSt := wsGo ⟨0, 0, 0, []⟩ x.cps.toList
noncomputable def wsOf (x : Str) : WS := { raw := x, n := (wsEnd x).n, nt := (wsEnd x).nt, count := (wsEnd x).count, b := (wsEnd x).b, simple := decide (((wsEnd x).count.length : Int) ≤ 1) }
structure WBd (s : WSt) (i : Nat) : Prop where
  n : s.n ≤ i
  b : s.b ≤ i
  c : s.count.length ≤ i
theorem padTo_len {l : List Int} {b : Nat} : b < (padTo l b).length ∧ (padTo l b).length ≤ max l.length (b + 1) := by
  unfold padTo
  split
  · rename_i h; have := of_decide_eq_true h
    rw [List.length_append, List.length_replicate]; omega
  · rename_i h
    have : ¬ ((b : Int) ≥ (l.length : Int)) := fun q => h (decide_eq_true q)
    omega
theorem tab_bd {s : WSt} {i : Nat} (h : WBd s i) : WBd (tabStep s) (i + 1) := by
  have p := padTo_len (l := s.count) (b := s.b)
  have := h.n; have := h.b; have := h.c
  exact ⟨by show s.n + 1 ≤ _; omega, Nat.zero_le _, by show ((padTo s.count s.b).set _ _).length ≤ _; rw [List.length_set]; omega⟩
theorem go_bd : ∀ (l : List Nat) (s : WSt) (i : Nat), WBd s i → WBd (wsGo s l) (i + l.length)
  | [], s, i, h => h
  | c :: r, s, i, h => by
    have := h.n; have := h.b; have := h.c
    unfold wsGo
    rw [List.length_cons]
    split
    · have := go_bd r { s with n := s.n + 1, b := s.b + 1 } (i + 1) ⟨by show s.n + 1 ≤ _; omega, by show s.b + 1 ≤ _; omega, by show s.count.length ≤ _; omega⟩
      rwa [show i + (r.length + 1) = i + 1 + r.length from by omega]
    · split
      · have := go_bd r (tabStep s) (i + 1) (tab_bd h)
        rwa [show i + (r.length + 1) = i + 1 + r.length from by omega]
      · exact ⟨by omega, by omega, by omega⟩

noncomputable def wsFields (x : Str) : List (Str × D) :=
  [(Str.ofString "raw", .str x), (Str.ofString "n", .int (wsEnd x).n), (Str.ofString "nt", .int (wsEnd x).nt), (Str.ofString "norm", .tup [.tup ((wsEnd x).count.map .int), .int (wsEnd x).b]), (Str.ofString "is_simple", .bool (decide (((wsEnd x).count.length : Int) ≤ 1)))]
theorem intRep_of {z : PM} {ns : List Int} {vs : List Value} (h : Reps z (ns.map D.int) vs) : IntRep ns vs := by
  refine ⟨by rw [h.length, List.length_map], fun i n hi => ?_⟩
  obtain ⟨v, hv, t, rfl⟩ := h.get (i := i) (d := .int n) (by rw [List.getElem?_map, hi]; rfl)
  exact ⟨t, hv⟩
theorem ws_done (x : Str) (z : PM) (es : List DictEntry) (e : Ents z (wsFields x) es) : WsEs z (wsOf x) es := by
  have h1 := e.get (Str.ofString "raw")
  have h2 := e.get (Str.ofString "n")
  have h3 := e.get (Str.ofString "nt")
  have h4 := e.get (Str.ofString "is_simple")
  have h5 := e.get (Str.ofString "norm")
  have h6 := e.get (Str.ofString "longest_run_of_spaces")
  have h7 := e.get (Str.ofString "indent_level")
  have h8 := e.get (Str.ofString "less")
  have h9 := e.get (Str.ofString "not_equal_witness")
  obtain ⟨v1, g1, t1, rfl⟩ := h1
  obtain ⟨v2, g2, t2, rfl⟩ := h2
  obtain ⟨v3, g3, t3, rfl⟩ := h3
  obtain ⟨v4, g4, g4'⟩ := h4
  obtain ⟨v5, g5, a, vs, k, rfl, ha, w1, r, rfl, ⟨tc, ws, n, rfl, htc, hws⟩, w2, r2, rfl, ⟨t5, rfl⟩, hr⟩ := h5
  obtain rfl : r2 = [] := hr
  exact ⟨⟨t1, g1⟩, ⟨t2, g2⟩, ⟨t3, g3⟩, by rw [show v4 = .bool _ from g4'] at g4; exact g4, ⟨a, k, tc, ws, n, t5, g5, ha, htc, intRep_of hws⟩, h6, h7, h8, h9⟩

theorem In_zero {c : Cx} {ρ : Frame} {x dx : Addr} {fs gs : List (Str × D)} {ss : List Stmt} (h : XsOk c ρ [] fun fl ρ' => fl = .next ∧ InOk c x dx ρ' fs ss gs) : InOk c x dx ρ fs ss gs := by
  constructor
  intro o z R s es n Q E S hx hz hR hp hd hE K
  obtain ⟨S1, back⟩ := at_held S hz hR hp hd
  intro Γ p hΓ
  have q := h.run o z _ s (fun f s' => wpAny (model prog c.w) c.A (execs ss c.env) Q E s') (fun _ _ => True) S1 (fun fl ρ' o' z' s' f le S' hf hP => by
    obtain ⟨rfl, hI⟩ := hP
    obtain ⟨S2, hd2, hz2, hp2⟩ := back S'
    exact hI.run o' z' R s' es n Q E S2 (le _ _ hx) hz2 hR hp2 hd2 (hE.mono le) fun ρ'' o'' z'' s'' es' n' le' => K ρ'' o'' z'' s'' es' n' (le.trans le'))
  exact (show wpAny (model prog c.w) c.A (execs ss c.env) Q E s from q Γ p hΓ) Γ p hΓ

theorem In_for2 {c : Cx} {ρ : Frame} {x dx : Addr} {fs gs : List (Str × D)} {ss : List Stmt} (ok : CxOk c) {self name : Str} {p ap pos : Pos} {target : Expr} {body : List Stmt} {X : Str} (hself : (self, Slot.val (.val (.ref x))) ∈ ρ) (g : OwnK c.w name) (hraw : fs.find? (·.1 == name) = some (name, .str X))
    (I : Nat → Frame → Prop) (J : Frame → Prop) (h0 : I 0 ρ)
    (turn : ∀ i d ρ₁, (X.cps.toList.map fun n => D.str ⟨#[n]⟩)[i]? = some d → I i ρ₁ → ∃ ρ₂, GOk c ρ₁ target d ρ₂ ∧ XsOk c ρ₂ body fun fl ρ₃ => match fl with
      | .next | .cont => I (i + 1) ρ₃
      | .brk => J ρ₃
      | .ret d => False)
    (done : ∀ ρ₁, I (X.cps.toList.map fun n => D.str ⟨#[n]⟩).length ρ₁ → J ρ₁) (fin : ∀ ρ₁, J ρ₁ → InOk c x dx ρ₁ fs ss gs)
    (he : eval (.Attribute (.Name self p) name ap) c.env = (do
      let o ← eval (.Name self p) c.env
      standAt ap.atName
      let r ← holding [o] (getAttr o name true)
      letTemporaryGo (.Name self p) o r
      pure r) := by rfl)
    (hset : ∀ y, foldedSetIterable (.Attribute (.Name self p) name ap) c.env y = pure y := by intro _; rfl) : InOk c x dx ρ fs (.For target (.Attribute (.Name self p) name ap) body [] pos :: ss) gs :=
  In_for ok hself g hraw I h0 (fun i d ρ₁ hd hI => by
    obtain ⟨ρ₂, hG, hX⟩ := turn i d ρ₁ hd hI
    exact ⟨ρ₂, hG, hX.mono fun fl ρ₃ h => by
      cases fl with
      | brk => exact fin _ h
      | next => exact h
      | cont => exact h
      | ret d => exact h⟩) (fun ρ₁ h => fin _ (done _ h)) he hset

noncomputable def wsFr (x : Addr) (X : Str) (st : WSt) (ch : Slot) : Frame :=
  [(Str.ofString "self", .val (.val (.ref x))), (Str.ofString "ws", .val (.str X)), (Str.ofString "S", .val (.str (Str.ofString " "))), (Str.ofString "T", .val (.str (Str.ofString "\t"))), (Str.ofString "count", .own (st.count.map .int)), (Str.ofString "b", .val (.int st.b)), (Str.ofString "n", .val (.int st.n)), (Str.ofString "nt", .val (.int st.nt)), (Str.ofString "ch", ch)]

theorem one_is (c d : Nat) : ((⟨#[c]⟩ : Str) == ⟨#[d]⟩) = (c == d) := by
  by_cases h : c = d
  · subst h; simp
  · rw [beq_eq_false_iff_ne.mpr h, beq_eq_false_iff_ne]
    intro e; apply h
    have := congrArg (fun x : Str => x.cps.toList) e
    simpa using this
theorem blank_is : Str.ofString " " = ⟨#[32]⟩ := by decide
theorem tab_is : Str.ofString "\t" = ⟨#[9]⟩ := by decide

theorem c_ws {w : World} {h0 : Heap} (hb0 : BaseOk w h0) {X : Str} (hX : X.length ≤ 150) : FnOk w h0 (.ref 131) [.str X] (.ws (wsOf X)) 3 := by
  have : Sight PySem.Challenge.rw_sn0023_01 Mine.hd.heap_39 (FnOk w h0 (.ref 131) [.str X] (.ws (wsOf X)) 3) := by
    k_fill
    unfold Sight
    refine' F_make hb0 (rk := 0) (Str.ofString "self") [Str.ofString "ws"] [Str.ofString "S", Str.ofString "T", Str.ofString "count", Str.ofString "b", Str.ofString "n", Str.ofString "nt", Str.ofString "ch"] (wsFields X) ?ho ?hcd rfl ?hchk (fun v vs h => ?hbind) ?hbody (ws_done X) ?c1 ?c2 ?c3
    case ho => k_is
    case hcd => k_is
    case c1 => rfl
    case c2 => rfl
    case c3 => rfl
    case hchk => decide +kernel
    case hbind =>
      match vs, h with
      | [v2], _ => rfl
    rintro x dx ⟨w', A, env, h0', g, dr', os⟩ ok rfl rfl rm ⟨L, rfl⟩
    have hz := sizeLine_eq
    have hXs : X.cps.toList.length ≤ 150 := by rw [Array.length_toList]; exact hX
    obtain ⟨tS, hS⟩ := (clsK w').S
    obtain ⟨tT, hT⟩ := (clsK w').T
    refine In_set ok (at_ 0 rfl) (clsK _).raw (E_name ok (at_ 1 rfl)) (by intro h; cases h) (Nat.zero_le _) ?_
    refine In_step (X_assignSw ok (E_tuple (A_cons (E_strv (E_clsattr ok hS rfl (E_glob1 ok rfl (globs _).ws (by decide +kernel)))) (A_cons (E_strv (E_clsattr ok hT rfl (E_glob1 ok rfl (globs _).ws (by decide +kernel)))) A_nil)) (by show 2 ≤ sizeLine; decide)) (put_ 3 rfl) (put_ 2 rfl) ⟨rfl, ?_⟩)
    refine In_step (X_assignN ok (N_list (ds := []) A_nil (by decide)) (put_ 4 rfl) rfl ⟨rfl, ?_⟩)
    refine In_step (X_assign3 E_int (G_name ok (put_ 5 rfl)) (G_name ok (put_ 6 rfl)) (G_name ok (put_ 7 rfl)) ⟨rfl, ?_⟩)
    refine In_for2 ok (X := X) (at_ 0 rfl) (clsK _).raw rfl (fun i ρ => ∃ st ch, wsEnd X = wsGo st (X.cps.toList.drop i) ∧ WBd st i ∧ ρ = wsFr x X st ch) (fun ρ => ∃ st ch, wsEnd X = st ∧ WBd st 150 ∧ ρ = wsFr x X st ch) ⟨⟨0, 0, 0, []⟩, .no, rfl, ⟨Nat.le_refl _, Nat.le_refl _, Nat.le_refl _⟩, rfl⟩ ?turn ?done ?fin
    case done =>
      rintro ρ₁ ⟨st, ch, e, B, rfl⟩
      rw [List.length_map] at e B
      rw [List.drop_of_length_le (Nat.le_refl _)] at e
      have := B.n; have := B.b; have := B.c
      exact ⟨st, ch, e, ⟨by omega, by omega, by omega⟩, rfl⟩
    case fin =>
      rintro ρ₁ ⟨st, ch, e, B, rfl⟩
      have b1 := B.n; have b2 := B.b; have b3 := B.c
      refine In_zero (X_freeze (at_ 4 rfl) (put_ 4 rfl) (X_nil ⟨rfl, ?_⟩))
      refine In_set ok (at_ 0 rfl) (clsK _).n (E_name ok (at_ 6 rfl)) (by simp; decide) (by show 1 ≤ 100; decide) ?_
      refine In_set ok (at_ 0 rfl) (clsK _).nt (E_name ok (at_ 7 rfl)) (by simp; decide) (by show 2 ≤ 100; decide) ?_
      refine In_set ok (at_ 0 rfl) (clsK _).norm (E_tuple (A_cons (E_tupl ok rm (E_name ok (at_ 4 rfl)) (by rw [List.length_map]; omega)) (A_cons (E_name ok (at_ 5 rfl)) A_nil)) (by show 2 ≤ sizeLine; decide)) (by simp; decide) (by show 3 ≤ 100; decide) ?_
      refine In_set ok (at_ 0 rfl) (clsK _).simp (E_cmp (E_len ok rm (E_name ok (at_ 4 rfl)) (by rw [List.length_map]; omega)) E_int C_le) (by simp; decide) (by show 4 ≤ 100; decide) ?_
      rw [List.length_map]
      unfold wsFields
      rw [e]
      exact In_nil
    case turn =>
      rintro i d ρ₁ hd ⟨st, ch, e, B, rfl⟩
      rw [List.getElem?_map, Option.map_eq_some_iff] at hd
      obtain ⟨q, hq, rfl⟩ := hd
      have hi : i < X.cps.toList.length := (List.getElem?_eq_some_iff.mp hq).1
      have hdr : X.cps.toList.drop i = q :: X.cps.toList.drop (i + 1) := by
        rw [List.drop_eq_getElem_cons hi]; congr 1
        have := List.getElem?_eq_getElem hi
        rw [hq] at this; injection this with this; exact this.symm
      rw [hdr] at e
      have b1 := B.n; have b2 := B.b; have b3 := B.c
      have hpad := padTo_len (l := st.count) (b := st.b)
      refine ⟨_, G_name ok (put_ 8 rfl), ?_⟩
      refine X_cons (X_if (b := q == 32) (one_is q 32 ▸ blank_is ▸ T_cmp (E_name ok (at_ 8 rfl)) (E_name ok (at_ 2 rfl)) C_eqs) (fun h32 => ?csp) (fun h32 => ?cno))
      case csp =>
        refine X_cons (X_assign ok (E_bin (E_name ok (at_ 6 rfl)) E_int O_add) (put_ 6 rfl) ?_)
        refine X_cons (X_assign ok (E_bin (E_name ok (at_ 5 rfl)) E_int O_add) (put_ 5 rfl) (X_nil (X_nil ?_)))
        refine ⟨{ st with n := st.n + 1, b := st.b + 1 }, _, ?_, ⟨by show st.n + 1 ≤ _; omega, by show st.b + 1 ≤ _; omega, by show st.count.length ≤ _; omega⟩, rfl⟩
        rw [e]; show (if (q == 32) = true then _ else _) = _; rw [if_pos h32]
      case cno =>
        refine X_cons (X_if (b := q == 9) (one_is q 9 ▸ tab_is ▸ T_cmp (E_name ok (at_ 8 rfl)) (E_name ok (at_ 3 rfl)) C_eqs) (fun h9 => ?ctab) (fun h9 => ?cbr))
        case cbr =>
          refine X_cons (X_break ?_)
          refine ⟨st, _, ?_, ⟨by omega, by omega, by omega⟩, rfl⟩
          rw [e]; show (if (q == 32) = true then _ else (if (q == 9) = true then _ else _)) = _; rw [if_neg (by rw [h32]; decide), if_neg (by rw [h9]; decide)]
        case ctab =>
          refine X_cons (X_assign ok (E_bin (E_name ok (at_ 6 rfl)) E_int O_add) (put_ 6 rfl) ?_)
          refine X_cons (X_assign ok (E_bin (E_name ok (at_ 7 rfl)) E_int O_add) (put_ 7 rfl) ?_)
          have hlen : ((st.count.map D.int).length : Int) = (st.count.length : Int) := by rw [List.length_map]
          refine X_cons (X_if (b := decide ((st.b : Int) ≥ (st.count.length : Int))) (T_cmp (d2 := .int st.count.length) (E_name ok (at_ 5 rfl)) (by rw [← hlen]; exact E_ownLen ok (E_blt ok rfl (globs _).len b_len (by decide +kernel) (by decide +kernel)) (at_ 4 rfl) (by rw [List.length_map]; omega)) C_ge) (fun hb => ?cpad) (fun hb => X_nil ?cnop))
          case cpad =>
            have hge := of_decide_eq_true hb
            have he0 : st.count.map D.int ++ (List.replicate ((st.b : Int) - (st.count.length : Int) + 1).toNat [D.int 0]).flatten = (st.count ++ List.replicate (st.b - st.count.length + 1) 0).map D.int := by
              rw [List.map_append, show ((st.b : Int) - (st.count.length : Int) + 1).toNat = st.b - st.count.length + 1 from by omega]
              congr 1
              generalize st.b - st.count.length + 1 = m
              induction m with
              | zero => rfl
              | succ m ih => rw [List.replicate_succ, List.flatten_cons, ih, List.replicate_succ, List.map_cons]; rfl
            have hT' : st.count ++ List.replicate (st.b - st.count.length + 1) 0 = padTo st.count st.b := by unfold padTo; rw [if_pos hb]
            refine X_cons (X_assignN (ds := (st.count ++ List.replicate (st.b - st.count.length + 1) 0).map .int) ok ?cn1 (put_ 4 rfl) rfl (X_nil ?_))
            case cn1 =>
              rw [← he0]
              exact N_addL ok (at_ 4 rfl) (NOk.e (N_mul (k := (st.b : Int) - (st.count.length : Int) + 1) (ds := [.int 0]) (NOk.e (N_list (A_cons E_int A_nil) (by show 1 ≤ sizeLine; decide))) (E_bin (d1 := .int ((st.b : Int) - (st.count.length : Int))) (E_bin (d2 := .int st.count.length) (E_name ok (at_ 5 rfl)) (by rw [← hlen]; exact E_ownLen ok (E_blt ok rfl (globs _).len b_len (by decide +kernel) (by decide +kernel)) (at_ 4 rfl) (by rw [List.length_map]; omega)) O_sub) E_int O_add) (by omega) (by show 1 * _ ≤ _; omega) (List.cons_ne_nil _ _)))
                (by have h := congrArg List.length he0; rw [List.length_append, List.length_map, List.length_map, hT'] at h; rw [List.length_map]; omega)
            generalize st.count ++ List.replicate (st.b - st.count.length + 1) 0 = T at hT'
            have hT := hT'
            have gt : (T.map D.int)[((st.b : Nat) : Int).toNat]? = some (.int (T.getD st.b 0)) := getI (by rw [hT]; exact hpad.1)
            have hTl : T.length ≤ 151 := by rw [hT]; omega
            have hTb : st.b < T.length := by rw [hT]; exact hpad.1
            refine X_cons (X_setitem ok (at_ 4 rfl) (E_bin (E_ownItem ok (at_ 4 rfl) (E_name ok (at_ 5 rfl)) (by omega) (by omega) gt) E_int O_add) (E_name ok (at_ 5 rfl)) (by omega) (by rw [List.length_map, Int.toNat_natCast]; exact hTb) (by rw [List.length_map]; omega) (put_ 4 rfl) ?_)
            refine X_cons (X_assign ok E_int (put_ 5 rfl) (X_nil (X_nil (X_nil ?_))))
            refine ⟨tabStep st, .val (.str ⟨#[q]⟩), ?_, tab_bd B, ?_⟩
            · rw [e]; show (if (q == 32) = true then _ else (if (q == 9) = true then _ else _)) = _; rw [if_neg (by rw [h32]; decide), if_pos h9]
            · unfold wsFr tabStep
              dsimp only
              rw [List.map_set, ← hT]; rfl
          case cnop =>
            have hT0 : st.count = padTo st.count st.b := by unfold padTo; rw [if_neg (by rw [hb]; decide)]
            have hT := hT0
            have gt : (st.count.map D.int)[((st.b : Nat) : Int).toNat]? = some (.int (st.count.getD st.b 0)) := getI (by have h := hpad.1; rw [← hT] at h; exact h)
            have hTl : st.count.length ≤ 151 := by omega
            have hTb : st.b < st.count.length := by have h := hpad.1; rw [← hT] at h; exact h
            refine X_cons (X_setitem ok (at_ 4 rfl) (E_bin (E_ownItem ok (at_ 4 rfl) (E_name ok (at_ 5 rfl)) (by omega) (by omega) gt) E_int O_add) (E_name ok (at_ 5 rfl)) (by omega) (by rw [List.length_map, Int.toNat_natCast]; exact hTb) (by rw [List.length_map]; omega) (put_ 4 rfl) ?_)
            refine X_cons (X_assign ok E_int (put_ 5 rfl) (X_nil (X_nil (X_nil ?_))))
            refine ⟨tabStep st, .val (.str ⟨#[q]⟩), ?_, tab_bd B, ?_⟩
            · rw [e]; show (if (q == 32) = true then _ else (if (q == 9) = true then _ else _)) = _; rw [if_neg (by rw [h32]; decide), if_pos h9]
            · unfold wsFr tabStep
              dsimp only
              rw [List.map_set, ← hT]; rfl
  exact this
end Mine
end
/-! L11 -/
section
open PySem PySem.W PyProof.Rows PySem.Spec PySem.Calls
set_option maxRecDepth 100000
set_option maxHeartbeats 1000000
set_option linter.unusedVariables false
namespace Mine

noncomputable def spareOf (bs : List Int) : List Int := ([5, 4, 3, 2, 1, 0].filter fun p => !(bs.getD p 0 == 0)).map (freeAt bs)
noncomputable def octetAt (tally : List Int) (n : Int) (s : Nat) : Int := 11 * tally.getD s 0 + 64 * (if decide ((s : Int) > 0) then 1 else 0) + 128 * (if (((s : Int) + n).fmod 3 == 0) then 1 else 0)
noncomputable def octetsOf (tally : List Int) (n : Int) : List Int := (List.range tally.length).map fun i => octetAt tally n (tally.length - 1 - i)
/-- _parse_varint: the value, and what is left -/
noncomputable def varGo : Int → List Int → Option (Int × List Int)
  | val, [] => none
  | val, b :: r =>
    let val' := Builtin.bitOr (val * 2 ^ 6) (Builtin.bitAnd b 63)
    if Builtin.bitAnd b 64 == 0 then some (val', r) else varGo val' r
noncomputable def varOf : List Int → Option (Int × List Int)
  | [] => none
  | b :: r => if Builtin.bitAnd b 64 == 0 then some (Builtin.bitAnd b 63, r) else varGo (Builtin.bitAnd b 63) r
noncomputable def blk : Str := Str.ofString " "
noncomputable def tb : Str := Str.ofString "\t"
noncomputable def firstOf (n : Int) (hooks : List Int) (gap : Int) : Str := Txt.mul blk n ++ tb ++ Str.join (Str.ofString "") (hooks.map fun h => Txt.mul blk (h - 1) ++ tb) ++ Txt.mul blk gap
noncomputable def secondOf (hooks : List Int) (gap : Int) : Str := tb ++ Str.join (Str.ofString "") (hooks.map fun h => Txt.mul blk h ++ tb) ++ Txt.mul blk gap

noncomputable def waysOf (bs : List Int) : List Int := (List.range 6).flatMap fun (p : Nat) => ((List.range p).filter fun (q : Nat) => decide (bs.getD p 0 > bs.getD q 0)).map fun (q : Nat) => (p : Int) - (q : Int)
noncomputable def dueAt (ways : List Int) (n gap : Int) (t : Int) : Int × Int × Int :=
  (t, gap + t * (n.fdiv t + 1 + (ways.map fun w => (w + t - 1).fdiv t).sum), gap + t * (1 + (ways.map fun w => w.fdiv t + 1).sum))
noncomputable def dueIf (ways : List Int) (n : Int) (t : Int) : Bool := n.fdiv t != ((ways.filter fun w => w.fmod t == 0).length : Int)
noncomputable def dueOf (ways : List Int) (n gap : Int) : List (Int × Int × Int) := ((List.range n.toNat).map fun i => ((i + 1 : Nat) : Int)).filterMap fun t => if dueIf ways n t then some (dueAt ways n gap t) else none
noncomputable def valueAt (parts : List Int) : List (Int × Int × Int) → Int → Int
  | [], v => v
  | (t, a, b) :: r, v => valueAt parts r (v * parts.getD t.toNat 0 ^ ((a - b).fdiv t).toNat)
noncomputable def eachOf (gap : Int) : List (Int × Int × Int) := ((List.range (gap + 3).toNat).map fun i => ((i + 1 : Nat) : Int)).filterMap fun t => if t * (gap + 1) != gap + 2 then some (t, t * (gap + 1), gap + 2) else none
/-- what the law asks behind the mail -/
noncomputable def lawB (bs : List Int) (gap : Int) : Bool :=
  let sp := spareOf bs
  let n := sp.sum
  let hooks := hooksOf sp
  let tally := tallyOf sp
  let octets := octetsOf tally n
  match varOf (octets ++ [255, 191, 65]) with
  | none => false
  | some (number, rest) =>
    rest == [255, 191, 65] &&
    let first := firstOf n hooks gap
    let second := secondOf hooks gap
    let near := wsOf (first ++ Str.ofString "x")
    let far := wsOf (second ++ Str.ofString "x \t")
    lessOf far (wsOf (first ++ Str.ofString " x")) &&
    (lessOf near (wsOf (second ++ Str.ofString " x")) == (tally.sum == 1)) &&
    let run := wsOf (Txt.mul blk n ++ Str.ofString "\tx")
    let tabs := wsOf (Txt.mul tb (gap + 1) ++ Str.ofString "x")
    let blanks := wsOf (Txt.mul blk (gap + 2) ++ Str.ofString "x")
    !lessOf (wsOf (Str.ofString "\tx")) run && !lessOf run (wsOf (Txt.mul tb n ++ Str.ofString "\tx")) && !lessOf tabs blanks &&
    (nevOf tabs blanks == eachOf gap) && (nevOf blanks tabs == (eachOf gap).map fun t => (t.1, t.2.2, t.2.1)) &&
    (nevOf near far == dueOf (waysOf bs) n gap) &&
    (number == 11 * valueAt (partsOf n.toNat) (nevOf near far) (64 ^ ((List.range sp.length).map fun r : Nat => (r : Int) * sp.getD r 0).sum.toNat))
noncomputable def bitsOf (k : Nat) : List Int := (List.range 6).map fun i => ((k / 2 ^ i % 2 : Nat) : Int)
theorem chunk8 {P : Nat → Prop} (h0 : ∀ k < 8, P (0 + k)) (h1 : ∀ k < 8, P (8 + k)) (h2 : ∀ k < 8, P (16 + k)) (h3 : ∀ k < 8, P (24 + k)) (h4 : ∀ k < 8, P (32 + k)) (h5 : ∀ k < 8, P (40 + k)) (h6 : ∀ k < 8, P (48 + k)) (h7 : ∀ k < 8, P (56 + k)) : ∀ k < 64, P k := by
  intro k hk
  have hm : k % 8 < 8 := Nat.mod_lt _ (by decide)
  have hd : k / 8 < 8 := by omega
  have e : k = 8 * (k / 8) + k % 8 := by omega
  have hc : k / 8 = 0 ∨ k / 8 = 1 ∨ k / 8 = 2 ∨ k / 8 = 3 ∨ k / 8 = 4 ∨ k / 8 = 5 ∨ k / 8 = 6 ∨ k / 8 = 7 := by omega
  rw [e]
  rcases hc with h | h | h | h | h | h | h | h <;> rw [h]
  · exact h0 _ hm
  · exact h1 _ hm
  · exact h2 _ hm
  · exact h3 _ hm
  · exact h4 _ hm
  · exact h5 _ hm
  · exact h6 _ hm
  · exact h7 _ hm
theorem law_a : ∀ k < 8, ∀ g < 3, lawB (bitsOf (0 + k)) (g : Nat) = true := by decide +kernel
theorem law_b : ∀ k < 8, ∀ g < 3, lawB (bitsOf (8 + k)) (g : Nat) = true := by decide +kernel
theorem law_c : ∀ k < 8, ∀ g < 3, lawB (bitsOf (16 + k)) (g : Nat) = true := by decide +kernel
theorem law_d : ∀ k < 8, ∀ g < 3, lawB (bitsOf (24 + k)) (g : Nat) = true := by decide +kernel
theorem law_e : ∀ k < 8, ∀ g < 3, lawB (bitsOf (32 + k)) (g : Nat) = true := by decide +kernel
theorem law_f : ∀ k < 8, ∀ g < 3, lawB (bitsOf (40 + k)) (g : Nat) = true := by decide +kernel
theorem law_g : ∀ k < 8, ∀ g < 3, lawB (bitsOf (48 + k)) (g : Nat) = true := by decide +kernel
theorem law_h : ∀ k < 8, ∀ g < 3, lawB (bitsOf (56 + k)) (g : Nat) = true := by decide +kernel
theorem law_all : ∀ k < 64, ∀ g < 3, lawB (bitsOf k) (g : Nat) = true := chunk8 (P := fun k => ∀ g < 3, lawB (bitsOf k) (g : Nat) = true) law_a law_b law_c law_d law_e law_f law_g law_h
end Mine
end
/-! L12 -/
section
open PySem PySem.W PyProof.Rows PySem.Spec PySem.Calls
set_option maxRecDepth 100000
set_option maxHeartbeats 1000000
set_option linter.unusedVariables false
namespace Mine

noncomputable def smallB (sp : List Int) : Bool := decide (sp.length ≤ 6) && sp.all fun x => decide (0 ≤ x) && decide (x ≤ 6)
noncomputable def tallyB (sp : List Int) : Bool := smallB sp && ((List.range (sp.sum.toNat + 1)).all fun k => decide ((waysAt sp k).length ≤ 1000) && (waysAt sp k).all fun w => w.laid.length == sp.length) && ((endWays sp).all fun w => decide (0 ≤ w.total) && decide (w.total ≤ 1000)) && !(endWays sp).isEmpty
theorem small_of {sp : List Int} (h : smallB sp = true) : Small sp := by
  unfold smallB at h
  rw [Bool.and_eq_true] at h
  refine ⟨of_decide_eq_true h.1, fun x hx => ?_⟩
  have := List.all_eq_true.mp h.2 x hx
  rw [Bool.and_eq_true] at this
  exact ⟨of_decide_eq_true this.1, of_decide_eq_true this.2⟩
theorem tallyOk_of {sp : List Int} (h : tallyB sp = true) : TallyOk sp := by
  unfold tallyB at h
  rw [Bool.and_eq_true, Bool.and_eq_true, Bool.and_eq_true] at h
  obtain ⟨⟨⟨h1, h2⟩, h3⟩, h4⟩ := h
  have hk : ∀ k ≤ sp.sum.toNat, (decide ((waysAt sp k).length ≤ 1000) && (waysAt sp k).all fun w => w.laid.length == sp.length) = true := fun k hk => List.all_eq_true.mp h2 k (List.mem_range.mpr (by omega))
  refine ⟨small_of h1, fun k h => ?_, fun k h w hw => ?_, fun w hw => ?_, fun e => ?_⟩
  · have := hk k h; rw [Bool.and_eq_true] at this; exact of_decide_eq_true this.1
  · have := hk k h; rw [Bool.and_eq_true] at this; simpa using List.all_eq_true.mp this.2 w hw
  · have := List.all_eq_true.mp h3 w hw; rw [Bool.and_eq_true] at this; exact ⟨of_decide_eq_true this.1, of_decide_eq_true this.2⟩
  · rw [e] at h4; cases h4
theorem tally_all_a : ∀ k < 8, tallyB (spareOf (bitsOf (0 + k))) = true := by decide +kernel
theorem tally_all_b : ∀ k < 8, tallyB (spareOf (bitsOf (8 + k))) = true := by decide +kernel
theorem tally_all_c : ∀ k < 8, tallyB (spareOf (bitsOf (16 + k))) = true := by decide +kernel
theorem tally_all_d : ∀ k < 8, tallyB (spareOf (bitsOf (24 + k))) = true := by decide +kernel
theorem tally_all_e : ∀ k < 8, tallyB (spareOf (bitsOf (32 + k))) = true := by decide +kernel
theorem tally_all_f : ∀ k < 8, tallyB (spareOf (bitsOf (40 + k))) = true := by decide +kernel
theorem tally_all_g : ∀ k < 8, tallyB (spareOf (bitsOf (48 + k))) = true := by decide +kernel
theorem tally_all_h : ∀ k < 8, tallyB (spareOf (bitsOf (56 + k))) = true := by decide +kernel
theorem tally_all : ∀ k < 64, tallyB (spareOf (bitsOf k)) = true := chunk8 (P := fun k => tallyB (spareOf (bitsOf k)) = true) tally_all_a tally_all_b tally_all_c tally_all_d tally_all_e tally_all_f tally_all_g tally_all_h
noncomputable def fitB (bs : List Int) : Bool :=
  let sp := spareOf bs
  let hooks := hooksOf sp
  let tally := tallyOf sp
  decide (sp.sum ≤ 12) && decide (0 ≤ sp.sum) && decide (hooks.length ≤ 20) && (hooks.all fun h => decide (1 ≤ h) && decide (h ≤ 12)) && decide (tally.length ≤ 40) && (tally.all fun x => decide (0 ≤ x) && decide (x ≤ 5)) &&
  decide ((firstOf sp.sum hooks 2).length ≤ 120) && decide ((secondOf hooks 2).length ≤ 120)
theorem fit_all_a : ∀ k < 8, fitB (bitsOf (0 + k)) = true := by decide +kernel
theorem fit_all_b : ∀ k < 8, fitB (bitsOf (8 + k)) = true := by decide +kernel
theorem fit_all_c : ∀ k < 8, fitB (bitsOf (16 + k)) = true := by decide +kernel
theorem fit_all_d : ∀ k < 8, fitB (bitsOf (24 + k)) = true := by decide +kernel
theorem fit_all_e : ∀ k < 8, fitB (bitsOf (32 + k)) = true := by decide +kernel
theorem fit_all_f : ∀ k < 8, fitB (bitsOf (40 + k)) = true := by decide +kernel
theorem fit_all_g : ∀ k < 8, fitB (bitsOf (48 + k)) = true := by decide +kernel
theorem fit_all_h : ∀ k < 8, fitB (bitsOf (56 + k)) = true := by decide +kernel
theorem fit_all : ∀ k < 64, fitB (bitsOf k) = true := chunk8 (P := fun k => fitB (bitsOf k) = true) fit_all_a fit_all_b fit_all_c fit_all_d fit_all_e fit_all_f fit_all_g fit_all_h
end Mine
end
/-! L13 -/
section
open PySem PySem.W PyProof.Rows PySem.Spec PySem.Calls
set_option maxRecDepth 100000
set_option maxHeartbeats 1000000
set_option linter.unusedVariables false
namespace Mine

theorem ws_ok {x : Str} (h : x.length ≤ 150) : WsOk (wsOf x) := by
  have hl : x.cps.toList.length ≤ 150 := by rw [Array.length_toList]; exact h
  have b := go_bd x.cps.toList ⟨0, 0, 0, []⟩ 0 ⟨Nat.le_refl _, Nat.le_refl _, Nat.le_refl _⟩
  have b2 := b.b
  have b3 := b.c
  refine ⟨?_, ?_, ?_⟩
  · show (wsEnd x).count.length ≤ 200; unfold wsEnd; omega
  · show (0 : Int) ≤ ((wsEnd x).b : Int); omega
  · show ((wsEnd x).b : Int) ≤ 200; unfold wsEnd; omega

/-! the mail, in codes -/
theorem eolsF_cons (k : Bool) (c : Nat) (r : List Nat) : eolsF k (c :: r) = if (c == 13) = true then 13 :: 10 :: eolsF true r else if (c == 10) = true then (if k = true then eolsF false r else 13 :: 10 :: eolsF false r) else c :: eolsF false r := rfl
theorem eolsF_append_dot : ∀ (a b : List Nat) (k : Bool), (b = [] ∨ ∃ r, b = 46 :: r) → eolsF k (a ++ b) = eolsF k a ++ eolsF false b
  | [], b, k, h => by
    rcases h with rfl | ⟨r, rfl⟩
    · rfl
    · cases k <;> rfl
  | c :: a, b, k, h => by
    rw [List.cons_append, eolsF_cons, eolsF_cons]
    by_cases h1 : (c == 13) = true
    · rw [if_pos h1, if_pos h1, eolsF_append_dot a b true h]; rfl
    · rw [if_neg h1, if_neg h1]
      by_cases h2 : (c == 10) = true
      · rw [if_pos h2, if_pos h2]
        cases k
        · rw [if_neg (by decide), if_neg (by decide), eolsF_append_dot a b false h]; rfl
        · rw [if_pos rfl, if_pos rfl, eolsF_append_dot a b false h]
      · rw [if_neg h2, if_neg h2, eolsF_append_dot a b false h]; rfl
end Mine
end
/-! L14 -/
section
open PySem PySem.W PyProof.Rows PySem.Spec PySem.Calls
set_option maxRecDepth 100000
set_option maxHeartbeats 1000000
set_option linter.unusedVariables false
namespace Mine

noncomputable def midAt (l : List Str) (d : Int) : Str := l.getD ((d.fdiv 6).fmod 4).toNat (Str.ofString "")
theorem laid_eols (d : Int) : eolsF false (chars (laidS d)) = chars (evenS d) := by
  have h : ∀ i < 4, ∀ j < 3, eolsF false (chars (Str.ofString "." ++ laidMid.getD i (Str.ofString "") ++ laidEnd.getD j (Str.ofString ""))) = chars (Str.ofString "." ++ evenMid.getD i (Str.ofString "") ++ Str.ofString "\r\n") := by decide +kernel
  have f4 := fmod_lt (d.fdiv 6) (b := 4) (by decide)
  have f3 := fmod_lt (d.fdiv 2) (b := 3) (by decide)
  exact h _ (by omega) _ (by omega)
theorem laid_dot (d : Int) : ∃ r, chars (laidS d) = 46 :: r := by
  have h : ∀ i < 4, ∀ j < 3, (chars (Str.ofString "." ++ laidMid.getD i (Str.ofString "") ++ laidEnd.getD j (Str.ofString ""))).head? = some 46 := by decide +kernel
  have f4 := fmod_lt (d.fdiv 6) (b := 4) (by decide)
  have f3 := fmod_lt (d.fdiv 2) (b := 3) (by decide)
  have := h ((d.fdiv 6).fmod 4).toNat (by omega) ((d.fdiv 2).fmod 3).toNat (by omega)
  obtain ⟨r, hr⟩ := List.head?_eq_some_iff.mp this
  exact ⟨r, hr⟩
/-- an even block: what a sending does to it, and to what stands behind it -/
theorem even_eols (d : Int) : eolsF false (chars (evenS d)) = chars (evenS d) := by
  have h : ∀ i < 4, eolsF false (chars (Str.ofString "." ++ evenMid.getD i (Str.ofString "") ++ Str.ofString "\r\n")) = chars (Str.ofString "." ++ evenMid.getD i (Str.ofString "") ++ Str.ofString "\r\n") := by decide +kernel
  have f4 := fmod_lt (d.fdiv 6) (b := 4) (by decide)
  exact h _ (by omega)
theorem even_dot (d : Int) : ∃ r, chars (evenS d) = 46 :: r ∧ ∀ b, dotsF false (r ++ b) = r ++ dotsF true b := by
  have f4 := fmod_lt (d.fdiv 6) (b := 4) (by decide)
  have e0 : chars (evenS d) = chars (Str.ofString "." ++ evenMid.getD ((d.fdiv 6).fmod 4).toNat (Str.ofString "") ++ Str.ofString "\r\n") := rfl
  rw [e0]
  have hc : ((d.fdiv 6).fmod 4).toNat = 0 ∨ ((d.fdiv 6).fmod 4).toNat = 1 ∨ ((d.fdiv 6).fmod 4).toNat = 2 ∨ ((d.fdiv 6).fmod 4).toNat = 3 := by omega
  rcases hc with h | h | h | h <;> rw [h]
  · exact ⟨[13, 10], by decide +kernel, fun b => rfl⟩
  · exact ⟨[97, 13, 10], by decide +kernel, fun b => rfl⟩
  · exact ⟨[32, 46, 13, 10], by decide +kernel, fun b => rfl⟩
  · exact ⟨[13, 10, 13, 10, 13, 10, 13, 10, 32, 46, 13, 10], by decide +kernel, fun b => rfl⟩
theorem eolsF_dots (q : Nat) (b : List Nat) : eolsF false (List.replicate q 46 ++ b) = List.replicate q 46 ++ eolsF false b := by
  induction q with
  | zero => rfl
  | succ q ih => rw [List.replicate_succ, List.cons_append, eolsF_cons, if_neg (by decide), if_neg (by decide), ih]; rfl
end Mine
end
/-! L15 -/
section
open PySem PySem.W PyProof.Rows PySem.Spec PySem.Calls
set_option maxRecDepth 100000
set_option maxHeartbeats 1000000
set_option linter.unusedVariables false
namespace Mine

noncomputable def blockL (d : Int) (q : Nat) : List Nat := if q = 0 then chars (laidS d) else List.replicate q 46 ++ chars (evenS d)
noncomputable def mailL (dr : List Int) (rows : List (Nat × Nat)) : List Nat := rows.flatMap fun r => blockL (dr.getD r.1 0) r.2
theorem block_dot (d : Int) (q : Nat) : ∃ r, blockL d q = 46 :: r := by
  unfold blockL
  split
  · exact laid_dot d
  · rename_i h
    obtain ⟨q', rfl⟩ : ∃ q', q = q' + 1 := ⟨q - 1, by omega⟩
    exact ⟨_, rfl⟩
theorem mail_head (dr : List Int) (rows : List (Nat × Nat)) : mailL dr rows = [] ∨ ∃ r, mailL dr rows = 46 :: r := by
  cases rows with
  | nil => exact .inl rfl
  | cons p rows =>
    obtain ⟨r, hr⟩ := block_dot (dr.getD p.1 0) p.2
    exact .inr ⟨r ++ mailL dr rows, by show blockL _ _ ++ mailL dr rows = _; rw [hr]; rfl⟩
theorem block_eols (d : Int) (q : Nat) : eolsF false (blockL d q) = List.replicate q 46 ++ chars (evenS d) := by
  unfold blockL
  split
  · rename_i h; subst h; rw [laid_eols]; rfl
  · rw [eolsF_dots, even_eols]
theorem dotsF_dots (n : Nat) (b : List Nat) : dotsF false (List.replicate n 46 ++ b) = List.replicate n 46 ++ dotsF false b := by
  induction n with
  | zero => rfl
  | succ n ih =>
    rw [List.replicate_succ, List.cons_append]
    show 46 :: dotsF false (List.replicate n 46 ++ b) = _
    rw [ih]; rfl
theorem sent_block (d : Int) (q : Nat) (b : List Nat) : dotsF true (List.replicate q 46 ++ chars (evenS d) ++ b) = blockL d (q + 1) ++ dotsF true b := by
  obtain ⟨r, hr, hb⟩ := even_dot d
  have e1 : List.replicate q 46 ++ chars (evenS d) ++ b = 46 :: (List.replicate q 46 ++ (r ++ b)) := by
    rw [hr, List.append_assoc, List.cons_append, List.append_cons, ← List.replicate_succ', List.replicate_succ]; rfl
  rw [e1]
  show 46 :: 46 :: dotsF false (List.replicate q 46 ++ (r ++ b)) = _
  rw [dotsF_dots, hb]
  unfold blockL
  rw [if_neg (Nat.succ_ne_zero q), hr]
  have e2 : List.replicate (q + 1) 46 ++ 46 :: r = 46 :: 46 :: (List.replicate q 46 ++ r) := by
    rw [List.append_cons, ← List.replicate_succ', List.replicate_succ, List.replicate_succ]; rfl
  rw [e2]; simp
theorem quote_mail (dr : List Int) : ∀ rows : List (Nat × Nat), dotsF true (eolsF false (mailL dr rows)) = mailL dr (rows.map fun r => (r.1, r.2 + 1))
  | [] => rfl
  | p :: rows => by
    show dotsF true (eolsF false (blockL _ _ ++ mailL dr rows)) = blockL _ _ ++ mailL dr (rows.map _)
    rw [eolsF_append_dot _ _ _ (mail_head dr rows), block_eols, sent_block, quote_mail dr rows]
end Mine
end
/-! L16 -/
section
open PySem PySem.W PyProof.Rows PySem.Spec PySem.Calls
set_option maxRecDepth 100000
set_option maxHeartbeats 1000000
set_option linter.unusedVariables false
namespace Mine

theorem chars_app (x y : Str) : chars (x ++ y) = chars x ++ chars y := by
  show (x.cps ++ y.cps).toList = _
  rw [Array.toList_append]; rfl
theorem chars_inj {x y : Str} (h : chars x = chars y) : x = y := by
  obtain ⟨a⟩ := x; obtain ⟨b⟩ := y
  unfold chars at h
  congr 1
  exact Array.toList_inj.mp h
theorem chars_quote (x : Str) : chars (quoteS x) = dotsF true (eolsF false (chars x)) := by
  show (dotsF true ((eolsF false x.cps.toList).toArray).toList).toArray.toList = _
  simp [chars]
theorem chars_eols (x : Str) : chars (eolsS x) = eolsF false (chars x) := by
  show ((eolsF false x.cps.toList).toArray).toList = _
  simp [chars]
theorem flat_one (c : Nat) : ∀ k : Nat, (List.replicate k [c]).flatten = List.replicate k c
  | 0 => rfl
  | k + 1 => by rw [List.replicate_succ, List.flatten_cons, flat_one c k, List.replicate_succ]; rfl
theorem foldl_nat (xs : List Nat) : ∀ (k : Nat) (acc : Array Nat), ((List.replicate k xs.toArray).foldl (· ++ ·) acc).toList = acc.toList ++ (List.replicate k xs).flatten := fun k acc => foldl_rep xs k acc
theorem chars_mul1 (c : Nat) (n : Int) : chars (Txt.mul ⟨#[c]⟩ n) = List.replicate n.toNat c := by
  unfold Txt.mul
  split
  · rw [show n.toNat = 0 from by omega]; rfl
  · split
    · rename_i h1 h2
      have : n = 1 := by
        rw [Bool.or_eq_true] at h2
        rcases h2 with h | h
        · simpa using h
        · exact absurd (show ((1 : Nat) == 0) = true from h) (by decide)
      subst this; rfl
    · show ((List.replicate n.toNat (#[c] : Array Nat)).foldl (· ++ ·) #[]).toList = _
      rw [show (#[c] : Array Nat) = [c].toArray from rfl, foldl_nat [c] n.toNat #[], flat_one]; rfl
theorem chars_dots (n : Int) : chars (Txt.mul (Str.ofString ".") n) = List.replicate n.toNat 46 := by
  rw [show Str.ofString "." = ⟨#[46]⟩ from by decide]; exact chars_mul1 46 n

/-- the rows so far: place, and how many sendings since -/
noncomputable def rowsQ (bs : List Int) : Nat → List (Nat × Nat)
  | 0 => []
  | i + 1 => if bs.getD (5 - i) 0 == 0 then (rowsQ bs i).map fun r => (r.1, r.2 + 1) else rowsQ bs i ++ [(5 - i, 0)]
noncomputable def rowsP (bs : List Int) : Nat → List Nat
  | 0 => []
  | i + 1 => if bs.getD (5 - i) 0 == 0 then rowsP bs i else rowsP bs i ++ [5 - i]
theorem mail_is (dr bs : List Int) : ∀ i, chars (mailsAt dr bs i).mail = mailL dr (rowsQ bs i)
  | 0 => rfl
  | i + 1 => by
    have ih := mail_is dr bs i
    show chars (mailStep dr bs (5 - i) (mailsAt dr bs i)).mail = _
    unfold mailStep rowsQ
    split
    · rw [show ({ mailsAt dr bs i with mail := quoteS (mailsAt dr bs i).mail } : Mails).mail = quoteS (mailsAt dr bs i).mail from rfl, chars_quote, ih, quote_mail]
    · show chars ((mailsAt dr bs i).mail ++ laidS (dr.getD (5 - i) 0)) = _
      rw [chars_app, ih]
      unfold mailL
      rw [List.flatMap_append]
      simp [blockL]
theorem told_is {dr bs : List Int} (F : Fits dr bs) : ∀ i, chars (mailsAt dr bs i).told = mailL dr ((rowsP bs i).map fun p => (p, (freeAt bs p).toNat))
  | 0 => rfl
  | i + 1 => by
    have ih := told_is F i
    have fb := free_bd F (p := 5 - i) (by omega)
    show chars (mailStep dr bs (5 - i) (mailsAt dr bs i)).told = _
    unfold mailStep rowsP
    split
    · exact ih
    · show chars ((mailsAt dr bs i).told ++ _) = _
      rw [chars_app, ih, List.map_append]
      unfold mailL
      rw [List.flatMap_append]
      congr 1
      show chars _ = blockL (dr.getD (5 - i) 0) (freeAt bs (5 - i)).toNat ++ []
      rw [List.append_nil]
      unfold blockL
      by_cases hf : freeAt bs (5 - i) = 0
      · rw [if_pos (by rw [hf]; decide), if_pos (by rw [hf]; rfl)]
      · rw [if_neg (by simpa using hf), if_neg (by omega), chars_app, chars_dots]
theorem rows_all : ∀ k < 64, rowsQ (bitsOf k) 6 = (rowsP (bitsOf k) 6).map fun p => (p, (freeAt (bitsOf k) p).toNat) := by decide +kernel
theorem spare_all : ∀ k < 64, spareOf (bitsOf k) = (rowsQ (bitsOf k) 6).map fun r => (r.2 : Int) := by decide +kernel
end Mine
end
/-! L17 -/
section
open PySem PySem.W PyProof.Rows PySem.Spec PySem.Calls
set_option maxRecDepth 100000
set_option maxHeartbeats 1000000
set_option linter.unusedVariables false
namespace Mine

theorem bits_enum {dr bs : List Int} (F : Fits dr bs) : ∃ k < 64, bs = bitsOf k := by
  obtain ⟨_, hl, hb⟩ := F
  match bs, hl with
  | [a, b, c, d, e, f], _ =>
    have ha := hb a (by simp); have hb' := hb b (by simp); have hc := hb c (by simp); have hd := hb d (by simp); have he := hb e (by simp); have hf := hb f (by simp)
    rcases ha with rfl | rfl <;> rcases hb' with rfl | rfl <;> rcases hc with rfl | rfl <;> rcases hd with rfl | rfl <;> rcases he with rfl | rfl <;> rcases hf with rfl | rfl
    all_goals first
      | exact (show ∃ k < 64, _ = bitsOf k from by decide +kernel)
theorem mail_told {dr bs : List Int} (F : Fits dr bs) : (mailsAt dr bs 6).mail = (mailsAt dr bs 6).told := by
  obtain ⟨k, hk, rfl⟩ := bits_enum F
  apply chars_inj
  rw [mail_is, told_is F, rows_all k hk]
theorem typed_is (dr bs : List Int) : ∀ i, chars (mailsAt dr bs i).typed = (rowsP bs i).flatMap fun p => chars (laidS (dr.getD p 0))
  | 0 => rfl
  | i + 1 => by
    have ih := typed_is dr bs i
    show chars (mailStep dr bs (5 - i) (mailsAt dr bs i)).typed = _
    unfold mailStep rowsP
    split
    · exact ih
    · show chars ((mailsAt dr bs i).typed ++ _) = _
      rw [chars_app, ih, List.flatMap_append]; simp
theorem even_is (dr bs : List Int) : ∀ i, chars (mailsAt dr bs i).even = (rowsP bs i).flatMap fun p => chars (evenS (dr.getD p 0))
  | 0 => rfl
  | i + 1 => by
    have ih := even_is dr bs i
    show chars (mailStep dr bs (5 - i) (mailsAt dr bs i)).even = _
    unfold mailStep rowsP
    split
    · exact ih
    · show chars ((mailsAt dr bs i).even ++ _) = _
      rw [chars_app, ih, List.flatMap_append]; simp
theorem typed_eols (dr : List Int) : ∀ ps : List Nat, eolsF false (ps.flatMap fun p => chars (laidS (dr.getD p 0))) = ps.flatMap fun p => chars (evenS (dr.getD p 0))
  | [] => rfl
  | p :: ps => by
    rw [List.flatMap_cons, List.flatMap_cons, eolsF_append_dot, laid_eols, typed_eols dr ps]
    cases ps with
    | nil => exact .inl rfl
    | cons q ps =>
      obtain ⟨r, hr⟩ := laid_dot (dr.getD q 0)
      exact .inr ⟨_, by rw [List.flatMap_cons, hr]; rfl⟩
theorem typed_even (dr bs : List Int) : eolsS (mailsAt dr bs 6).typed = (mailsAt dr bs 6).even := by
  apply chars_inj
  rw [chars_eols, typed_is, even_is, typed_eols]
end Mine
end
/-! L18 -/
section
open PySem PySem.W PyProof.Rows PySem.Spec PySem.Calls
set_option maxRecDepth 100000
set_option maxHeartbeats 1000000
set_option linter.unusedVariables false
namespace Mine
open PySem.Builtin PySem.Builtin.Str PySem.StrLaws

noncomputable def crlfAt : List Nat → Bool
  | 13 :: 10 :: _ => true
  | _ => false
noncomputable def cutsFrom : Nat → List Nat → List Nat
  | _, [] => []
  | i, c :: r => if crlfAt (c :: r) then i :: cutsFrom (i + 1) r else cutsFrom (i + 1) r
theorem crlfAt_iff (l : List Nat) : (l.take 2 == [13, 10]) = crlfAt l := by
  match l with
  | [] => rfl
  | [c] => cases h : (([c] : List Nat).take 2 == [13, 10]) <;> simp_all [crlfAt]
  | a :: b :: r =>
    by_cases h1 : a = 13
    · subst h1
      by_cases h2 : b = 10
      · subst h2; rfl
      · have : crlfAt (13 :: b :: r) = false := by unfold crlfAt; split <;> simp_all
        rw [this]; simp [h2]
    · have : crlfAt (a :: b :: r) = false := by unfold crlfAt; split <;> simp_all
      rw [this]; simp [h1]
theorem occ_loop (X : Str) (n : Nat) (hn : n = X.length) : ∀ (l : List Nat) (i : Nat) (st : Array Nat × Nat), X.cps.toList.drop i = l → i + l.length = n → st.1.size ≤ i → (st.2 ≤ i ∨ (st.2 = i + 1 ∧ crlfAt l = false)) →
    (forIn (List.range' i (l.length + 1)) st (occBody X (Str.ofString "\r\n") n (n + 1))).run.fst.toList = st.1.toList ++ cutsFrom i l
  | [], i, st, hd, hl, hs, hf => by
    show (forIn [i] st _ : Id _).run.fst.toList = _
    rw [List.forIn_cons]
    unfold occBody
    rw [if_neg (by intro h; have := h.1.2; rw [len_crlf] at this; simp at hl; omega)]
    show st.1.toList = st.1.toList ++ []
    rw [List.append_nil]
  | c :: r, i, st, hd, hl, hs, hf => by
    have hr : X.cps.toList.drop (i + 1) = r := by rw [← List.drop_drop, hd]; rfl
    rw [List.length_cons] at hl
    rw [show List.range' i ((c :: r).length + 1) = i :: List.range' (i + 1) (r.length + 1) from by rw [List.length_cons]; rfl, List.forIn_cons]
    have hat : (i + (Str.ofString "\r\n").length ≤ n ∧ subAt X (Str.ofString "\r\n") i = true) ↔ crlfAt (c :: r) = true := by
      rw [subAt_eq, hd, len_crlf, show (Str.ofString "\r\n").cps.toList = [13, 10] from by decide, crlfAt_iff]
      constructor
      · exact fun h => h.2
      · intro h
        refine ⟨?_, h⟩
        have : 2 ≤ (c :: r).length := by
          cases r with
          | nil => unfold crlfAt at h; split at h <;> simp_all
          | cons d r => simp
        rw [List.length_cons] at this; omega
    have hskip : crlfAt (c :: r) = true → crlfAt r = false := by
      intro h
      unfold crlfAt at h
      split at h
      · rename_i q e; cases e; rfl
      · cases h
    unfold occBody
    by_cases hc : crlfAt (c :: r) = true
    · have hfree : st.2 ≤ i := by
        rcases hf with h | ⟨_, h⟩
        · exact h
        · rw [hc] at h; cases h
      have h2 := hat.mpr hc
      rw [if_pos ⟨⟨⟨by omega, hfree⟩, h2.1⟩, h2.2⟩]
      have ih := occ_loop X n hn r (i + 1) (st.1.push i, i + (Str.ofString "\r\n").length) hr (by omega) (by rw [Array.size_push]; omega) (.inr ⟨by rw [len_crlf], hskip hc⟩)
      show (forIn (List.range' (i + 1) (r.length + 1)) (st.1.push i, i + (Str.ofString "\r\n").length) (occBody X (Str.ofString "\r\n") n (n + 1))).run.fst.toList = _
      rw [ih, Array.toList_push]
      show _ = st.1.toList ++ (if crlfAt (c :: r) = true then _ else _)
      rw [if_pos hc, List.append_assoc]; rfl
    · rw [if_neg (fun h => hc (hat.mp ⟨h.1.2, h.2⟩))]
      have ih := occ_loop X n hn r (i + 1) st hr (by omega) (by omega) (by rcases hf with h | ⟨h, _⟩ <;> exact .inl (by omega))
      show (forIn (List.range' (i + 1) (r.length + 1)) st (occBody X (Str.ofString "\r\n") n (n + 1))).run.fst.toList = _
      rw [ih]
      show _ = st.1.toList ++ (if crlfAt (c :: r) = true then _ else _)
      rw [if_neg hc]
theorem occ_crlf (X : Str) : occurrences X (Str.ofString "\r\n") 0 X.length (X.length + 1) = cutsFrom 0 (chars X) := by
  rw [occ_eq, Nat.sub_zero]
  have hl : X.length = (chars X).length := by unfold chars; rw [Array.length_toList]; rfl
  have h := occ_loop X X.length rfl (chars X) 0 (#[], 0) rfl (by rw [hl]; omega) (Nat.zero_le _) (.inl (Nat.le_refl _))
  rw [← hl] at h
  rw [h]; rfl
/-- the texts between, in codes -/
noncomputable def linesGo : Bool → List Nat → List Nat → List (List Nat)
  | _, cur, [] => [cur]
  | true, cur, _ :: r => linesGo false [] r
  | false, cur, c :: r => if crlfAt (c :: r) then cur :: linesGo true [] r else linesGo false (cur ++ [c]) r
theorem chars_sub (X : Str) (a b : Nat) : chars (strSub X a b) = ((chars X).take b).drop a := by
  show (X.cps.extract a b).toList = _
  rw [Array.toList_extract]
  simp [chars, List.extract_eq_take_drop, List.drop_take]
theorem split_is (X : Str) : Txt.split X (Str.ofString "\r\n") = partsFrom X 2 0 (cutsFrom 0 (chars X)) := by
  have h := m_split X (Str.ofString "\r\n") (by decide)
  have h2 : (if ((Str.ofString "\r\n").length == 0) = true then Option.none else some (WData.list ((partsBetween X (occurrences X (Str.ofString "\r\n") 0 X.length (X.length + 1)) (Str.ofString "\r\n").length).map .str))) = some (.list ((Txt.split X (Str.ofString "\r\n")).map .str)) := h
  rw [if_neg (by decide)] at h2
  injection h2 with h2
  injection h2 with h2
  have h3 := List.map_inj_right (fun a b e => by injection e) |>.mp h2
  rw [← h3, partsBetween_eq, occ_crlf, len_crlf]
theorem parts_lines (X : Str) : ∀ (n : Nat) (l : List Nat) (a i : Nat), l.length ≤ n → (chars X).drop i = l → a ≤ i →
    (partsFrom X 2 a (cutsFrom i l)).map chars = linesGo false (((chars X).take i).drop a) l
  | n, [], a, i, hn, hd, ha => by
    show [chars (strSub X a X.length)] = [_]
    rw [chars_sub]
    have hl : X.length = (chars X).length := by unfold chars; rw [Array.length_toList]; rfl
    have : (chars X).length ≤ i := List.drop_eq_nil_iff.mp hd
    rw [hl, List.take_of_length_le (Nat.le_refl _), List.take_of_length_le this]
  | 0, c :: r, a, i, hn, hd, ha => by simp at hn
  | n + 1, c :: r, a, i, hn, hd, ha => by
    have hr : (chars X).drop (i + 1) = r := by rw [← List.drop_drop, hd]; rfl
    rw [List.length_cons] at hn
    unfold cutsFrom linesGo
    split
    · rename_i hc
      have hc2 : ∃ q, c = 13 ∧ r = 10 :: q := by
        unfold crlfAt at hc
        split at hc
        · rename_i q e; cases e; exact ⟨q, rfl, rfl⟩
        · cases hc
      obtain ⟨q, rfl, rfl⟩ := hc2
      have hq : (chars X).drop (i + 2) = q := by rw [show i + 2 = (i + 1) + 1 from rfl, ← List.drop_drop, hr]; rfl
      have hcut : cutsFrom (i + 1) (10 :: q) = cutsFrom (i + 2) q := by
        conv => lhs; unfold cutsFrom
        rw [if_neg (by unfold crlfAt; split <;> simp_all)]
      rw [hcut]
      show chars (strSub X a i) :: (partsFrom X 2 (i + 2) (cutsFrom (i + 2) q)).map chars = _
      rw [chars_sub, parts_lines X n q (i + 2) (i + 2) (by simp at hn; omega) hq (Nat.le_refl _)]
      have : ((chars X).take (i + 2)).drop (i + 2) = [] := List.drop_eq_nil_iff.mpr (by rw [List.length_take]; omega)
      rw [this]; rfl
    · have ih := parts_lines X n r a (i + 1) (by omega) hr (by omega)
      rw [ih]
      congr 1
      have hi : i < (chars X).length := by
        apply Nat.lt_of_not_le; intro h; rw [List.drop_eq_nil_iff.mpr h] at hd; cases hd
      have e : (chars X).take (i + 1) = (chars X).take i ++ [c] := by
        rw [List.take_succ, show (chars X)[i]? = some c from by rw [← List.head?_drop, hd]; rfl]; rfl
      rw [e, List.drop_append_of_le_length (by rw [List.length_take]; omega)]
theorem split_lines (X : Str) : (Txt.split X (Str.ofString "\r\n")).map chars = linesGo false [] (chars X) := by
  rw [split_is, parts_lines X _ (chars X) 0 0 (Nat.le_refl _) rfl (Nat.le_refl _)]; rfl
end Mine
end
/-! L19 -/
section
open PySem PySem.W PyProof.Rows PySem.Spec PySem.Calls
set_option maxRecDepth 100000
set_option maxHeartbeats 1000000
set_option linter.unusedVariables false
namespace Mine
open PySem.Builtin PySem.Builtin.Str PySem.StrLaws

theorem crlfAt_no {c : Nat} {r : List Nat} (h : c ≠ 13) : crlfAt (c :: r) = false := by unfold crlfAt; split <;> simp_all
theorem lines_plain : ∀ (m a rest : List Nat), (∀ c ∈ m, c ≠ 13) → linesGo false a (m ++ 13 :: 10 :: rest) = (a ++ m) :: linesGo false [] rest
  | [], a, rest, h => by
    rw [List.nil_append, List.append_nil]
    rfl
  | c :: m, a, rest, h => by
    rw [List.cons_append]
    show (if crlfAt (c :: (m ++ 13 :: 10 :: rest)) = true then _ else _) = _
    rw [crlfAt_no (h c List.mem_cons_self), if_neg (by decide), lines_plain m (a ++ [c]) rest fun x hx => h x (List.mem_cons_of_mem _ hx)]
    simp
noncomputable def midOf (d : Int) : List Nat := ([[], [97], [32, 46], []] : List (List Nat)).getD ((d.fdiv 6).fmod 4).toNat []
noncomputable def dotLine (l : List Nat) : Bool := l.head? == some 46
noncomputable def dotsL (dr : List Int) (r : Nat × Nat) : List Nat := List.replicate (r.2 + 1) 46 ++ midOf (dr.getD r.1 0)
theorem dots13 (q : Nat) : ∀ c ∈ List.replicate q 46, c ≠ 13 := fun c h => by rw [List.eq_of_mem_replicate h]; decide
theorem block_lines (d : Int) (q : Nat) (rest : List Nat) : (linesGo false [] (List.replicate q 46 ++ chars (evenS d) ++ rest)).filter dotLine = (List.replicate (q + 1) 46 ++ midOf d) :: (linesGo false [] rest).filter dotLine := by
  have f4 := fmod_lt (d.fdiv 6) (b := 4) (by decide)
  have e0 : chars (evenS d) = chars (Str.ofString "." ++ evenMid.getD ((d.fdiv 6).fmod 4).toNat (Str.ofString "") ++ Str.ofString "\r\n") := rfl
  have hdot : ∀ m : List Nat, dotLine (List.replicate (q + 1) 46 ++ m) = true := fun m => by rw [List.replicate_succ]; rfl
  have one : ∀ m rest, (∀ c ∈ m, c ≠ 13) → linesGo false [] (List.replicate q 46 ++ (46 :: m ++ 13 :: 10 :: rest)) = (List.replicate (q + 1) 46 ++ m) :: linesGo false [] rest := by
    intro m rest hm
    have := lines_plain (List.replicate (q + 1) 46 ++ m) [] rest (fun c hc => (List.mem_append.mp hc).elim (dots13 _ c) (hm c))
    rw [List.nil_append] at this
    rw [← this]
    congr 1
    rw [List.replicate_succ']; simp
  rw [e0]
  unfold midOf
  have hc : ((d.fdiv 6).fmod 4).toNat = 0 ∨ ((d.fdiv 6).fmod 4).toNat = 1 ∨ ((d.fdiv 6).fmod 4).toNat = 2 ∨ ((d.fdiv 6).fmod 4).toNat = 3 := by omega
  rcases hc with h | h | h | h <;> rw [h]
  · rw [show chars (Str.ofString "." ++ evenMid.getD 0 (Str.ofString "") ++ Str.ofString "\r\n") = 46 :: [] ++ 13 :: 10 :: [] from by decide +kernel]
    rw [List.append_assoc, show (46 :: [] ++ 13 :: 10 :: [] ++ rest : List Nat) = 46 :: [] ++ 13 :: 10 :: rest from rfl, one [] rest (by simp), List.filter_cons, hdot]; rfl
  · rw [show chars (Str.ofString "." ++ evenMid.getD 1 (Str.ofString "") ++ Str.ofString "\r\n") = 46 :: [97] ++ 13 :: 10 :: [] from by decide +kernel]
    rw [List.append_assoc, show (46 :: [97] ++ 13 :: 10 :: [] ++ rest : List Nat) = 46 :: [97] ++ 13 :: 10 :: rest from rfl, one [97] rest (by simp), List.filter_cons, hdot]; rfl
  · rw [show chars (Str.ofString "." ++ evenMid.getD 2 (Str.ofString "") ++ Str.ofString "\r\n") = 46 :: [32, 46] ++ 13 :: 10 :: [] from by decide +kernel]
    rw [List.append_assoc, show (46 :: [32, 46] ++ 13 :: 10 :: [] ++ rest : List Nat) = 46 :: [32, 46] ++ 13 :: 10 :: rest from rfl, one [32, 46] rest (by simp), List.filter_cons, hdot]; rfl
  · rw [show chars (Str.ofString "." ++ evenMid.getD 3 (Str.ofString "") ++ Str.ofString "\r\n") = 46 :: [] ++ 13 :: 10 :: [13, 10, 13, 10, 13, 10, 32, 46, 13, 10] from by decide +kernel]
    rw [List.append_assoc, show (46 :: [] ++ 13 :: 10 :: [13, 10, 13, 10, 13, 10, 32, 46, 13, 10] ++ rest : List Nat) = 46 :: [] ++ 13 :: 10 :: (13 :: 10 :: 13 :: 10 :: 13 :: 10 :: 32 :: 46 :: 13 :: 10 :: rest) from rfl, one [] _ (by simp), List.filter_cons, hdot]; rfl
theorem mail_lines (dr : List Int) : ∀ rows : List (Nat × Nat), (linesGo false [] (eolsF false (mailL dr rows))).filter dotLine = rows.map (dotsL dr)
  | [] => rfl
  | p :: rows => by
    show (linesGo false [] (eolsF false (blockL _ _ ++ mailL dr rows))).filter dotLine = _
    rw [eolsF_append_dot _ _ _ (mail_head dr rows), block_eols, block_lines, mail_lines dr rows]; rfl

/-! one line's leading dots, told as the program tells them -/
noncomputable def isDot (X : Str) : Bool := (⟨X.cps.extract 0 1⟩ : Str) == Str.ofString "."
noncomputable def leadAt (X : Str) (i : Nat) : Bool := (⟨X.cps.extract 0 (i + 2)⟩ : Str) == Txt.mul (Str.ofString ".") ((i : Int) + 2)
noncomputable def leads (X : Str) : Nat := ((List.range (X.length - 1)).filter (leadAt X)).length
theorem chars_take (X : Str) (k : Nat) : chars ⟨X.cps.extract 0 k⟩ = (chars X).take k := by
  show (X.cps.extract 0 k).toList = _
  rw [Array.toList_extract]; simp [chars, List.extract_eq_take_drop]
theorem str_beq (x y : Str) : (x == y) = decide (chars x = chars y) := by
  by_cases h : chars x = chars y
  · rw [chars_inj h]; simp
  · rw [decide_eq_false h]
    exact beq_eq_false_iff_ne.mpr fun e => h (by rw [e])
theorem isDot_is (X : Str) : isDot X = dotLine (chars X) := by
  unfold isDot dotLine
  rw [str_beq, chars_take, show chars (Str.ofString ".") = [46] from by decide]
  cases chars X with
  | nil => rfl
  | cons c r =>
    rw [List.take_succ_cons, List.take_zero, List.head?_cons]
    by_cases h : c = 46
    · subst h; rfl
    · rw [decide_eq_false (by simpa using h)]
      exact (beq_eq_false_iff_ne.mpr (by simpa using h)).symm
theorem count_lt (q : Nat) : ∀ n, q ≤ n → ((List.range n).filter fun i => decide (i < q)).length = q
  | 0, h => by obtain rfl : q = 0 := by omega
               rfl
  | n + 1, h => by
    rw [List.range_succ, List.filter_append, List.length_append]
    by_cases e : q ≤ n
    · rw [count_lt q n e, List.filter_cons, if_neg (by simpa using e)]; rfl
    · obtain rfl : q = n + 1 := by omega
      rw [List.filter_cons, if_pos (by simp), List.filter_eq_self.mpr (fun i hi => by have := List.mem_range.mp hi; simp; omega)]
      simp
theorem leads_is {X : Str} {q : Nat} {m : List Nat} (h : chars X = List.replicate (q + 1) 46 ++ m) (hm : m.head? ≠ some 46) : leads X = q := by
  have hl : X.length = q + 1 + m.length := by
    have : X.length = (chars X).length := by unfold chars; rw [Array.length_toList]; rfl
    rw [this, h, List.length_append, List.length_replicate]
  unfold leads
  rw [show leadAt X = fun i => decide (i < q) from ?_]
  · exact count_lt q _ (by omega)
  · funext i
    unfold leadAt
    rw [str_beq, chars_take, chars_dots, h]
    rw [show ((i : Int) + 2).toNat = i + 2 from by omega]
    apply decide_eq_decide.mpr
    constructor
    · intro e
      apply Nat.lt_of_not_le; intro hq
      have e2 := congrArg (fun l => l[q + 1]?) e
      simp only [List.getElem?_take, List.getElem?_replicate] at e2
      rw [if_pos (by omega), if_pos (by omega), List.getElem?_append_right (by simp), List.length_replicate, Nat.sub_self] at e2
      apply hm
      rw [List.head?_eq_getElem?]; exact e2
    · intro hq
      rw [List.take_append_of_le_length (by rw [List.length_replicate]; omega), List.take_replicate, show min (i + 2) (q + 1) = i + 2 from by omega]
theorem midOf_no (d : Int) : (midOf d).head? ≠ some 46 ∧ (midOf d).length ≤ 2 := by
  have f4 := fmod_lt (d.fdiv 6) (b := 4) (by decide)
  unfold midOf
  have hc : ((d.fdiv 6).fmod 4).toNat = 0 ∨ ((d.fdiv 6).fmod 4).toNat = 1 ∨ ((d.fdiv 6).fmod 4).toNat = 2 ∨ ((d.fdiv 6).fmod 4).toNat = 3 := by omega
  rcases hc with h | h | h | h <;> rw [h] <;> decide
noncomputable def rowsS (dr bs : List Int) : List Str := (Txt.split (eolsS (mailsAt dr bs 6).mail) (Str.ofString "\r\n")).filter isDot
theorem rows_are (dr bs : List Int) : (rowsS dr bs).map chars = (rowsQ bs 6).map (dotsL dr) := by
  unfold rowsS
  have : ∀ l : List Str, (l.filter isDot).map chars = (l.map chars).filter dotLine := by
    intro l
    rw [List.filter_map]
    congr 1
    apply List.filter_congr
    intro X _
    exact isDot_is X
  rw [this, split_lines, chars_eols, mail_is, mail_lines]
theorem rows_leads {dr bs : List Int} (F : Fits dr bs) : (rowsS dr bs).map (fun X => (leads X : Int)) = spareOf bs := by
  obtain ⟨k, hk, rfl⟩ := bits_enum F
  rw [spare_all k hk]
  have h := rows_are dr (bitsOf k)
  generalize rowsS dr (bitsOf k) = xs at h
  generalize rowsQ (bitsOf k) 6 = rs at h
  induction xs generalizing rs with
  | nil =>
    cases rs with
    | nil => rfl
    | cons r rs => simp at h
  | cons x xs ih =>
    cases rs with
    | nil => simp at h
    | cons r rs =>
      rw [List.map_cons, List.map_cons, List.cons.injEq] at h
      rw [List.map_cons, List.map_cons, ih rs h.2, leads_is h.1 (midOf_no _).1]
theorem rowsQ_bd : ∀ k < 64, ((rowsQ (bitsOf k) 6).all fun r => decide (r.2 ≤ 6)) = true ∧ (rowsQ (bitsOf k) 6).length ≤ 6 := by decide +kernel
theorem rows_short {dr bs : List Int} (F : Fits dr bs) : (rowsS dr bs).length ≤ 6 ∧ ∀ X ∈ rowsS dr bs, X.length ≤ 10 := by
  obtain ⟨k, hk, rfl⟩ := bits_enum F
  have h := rows_are dr (bitsOf k)
  obtain ⟨h1, h2⟩ := rowsQ_bd k hk
  constructor
  · have := congrArg List.length h
    rw [List.length_map, List.length_map] at this
    omega
  · intro X hX
    have hm : chars X ∈ (rowsQ (bitsOf k) 6).map (dotsL dr) := by rw [← h]; exact List.mem_map_of_mem hX
    obtain ⟨r, hr, e⟩ := List.mem_map.mp hm
    have hq := of_decide_eq_true (List.all_eq_true.mp h1 r hr)
    have hl : X.length = (chars X).length := by unfold chars; rw [Array.length_toList]; rfl
    have := (midOf_no (dr.getD r.1 0)).2
    rw [hl, ← e]
    unfold dotsL
    rw [List.length_append, List.length_replicate]
    omega
end Mine
end
/-! B18 -/
section
open PySem PySem.W PyProof.Rows PySem.Spec PySem.Calls
set_option maxRecDepth 100000
set_option maxHeartbeats 1000000
set_option linter.unusedVariables false
namespace Mine

abbrev ItO (l : Value) (i : Nat) : Obj := { cls := .type "list_iterator", dict := none, data := .fields #[l, .int i 0], slots := #[] }

section
variable {prog' : Program} {w : World} {A : Around} {E : Value → Shared → Prop} {s : Shared}
theorem next_open {it l : Addr} {i : Nat} {Q : Value → Shared → Prop} (hit : s.heap.IsListIter it l i)
    (h : wpAny (model prog' w) A.in1 (callSpecial? (.ref it) (Str.ofString "__next__")) (fun r s' => ∃ v, r = some v ∧ Q v s') E s) : wpAny (model prog' w) A (call (.builtin "next") [.ref it]) Q E s := by
  refine call_function_entry (by decide +kernel) (by decide +kernel) kdk_entry_next (kdk_args_next _) ?_
  unfold Builtin.«next»
  refine wpAny_bind (m := someArgs "next" 1 2 _) (wpAny_of_eq (a := [Value.ref it]) (by first | rfl | kernel_rfl!) ?_)
  dsimp only
  refine wpAny_bind (wpAny_specialOf (name := Str.ofString "__next__") hit.typeIs slot_listiter_next.lookup ?_)
  refine wpAny_ite_split (fun hab => absurd hab (by decide)) (fun _ => ?_)
  refine wpAny_bind (wpAny_mono h (fun r s' x => ?_) fun _ _ x => x)
  obtain ⟨v, rfl, hq⟩ := x
  exact wpAny_pure ⟨_, rfl, hq⟩
theorem next_item {it l : Addr} {i n : Nat} {vs : List Value} {v : Value} {Q : Value → Shared → Prop} (ho : s.heap.get? it = some (ItO (.ref l) i)) (hl : s.heap.get? l = some (LO vs n)) (hx : vs[i]? = some v)
    (hQ : ∀ h', h'.get? it = some (ItO (.ref l) (i + 1)) → Heap.SameBut it s.heap h' → Q v { s with heap := h' }) : wpAny (model prog' w) A (call (.builtin "next") [.ref it]) Q E s := by
  have hit : s.heap.IsListIter it l i := ⟨_, ho, rfl, rfl⟩
  refine next_open hit (wpAny_callSpecial?_slot (name := Str.ofString "__next__") hit.typeIs slot_listiter_next
    (wpAny_call_entry slot_listiter_next hit.typeIs entry_listiter_next ?_ (args_listiter_next _)))
  show wpAny _ _ (field (.ref it) 0 >>= _) _ _ s
  refine wpAny_bind (wpAny_field ho rfl (x := .ref l) rfl ?_)
  show wpAny _ _ (if (Value.ref l == Value.none) = true then _ else _) _ _ s
  rw [if_neg (show ¬ ((Value.ref l == Value.none) = true) from Bool.false_ne_true)]
  show wpAny _ _ (field (.ref it) 1 >>= _) _ _ s
  refine wpAny_bind (wpAny_field ho rfl (x := .int i 0) rfl ?_)
  show wpAny _ _ (seqItems? (.ref l) >>= _) _ _ s
  refine wpAny_bind (wpAny_seqItems hl rfl ?_)
  simp only [Int.toNat_natCast, List.getElem?_toArray, hx]
  refine wpAny_bind (wpAny_setField_rec ho (by show 1 < 2; decide) fun h' h1 h2 => wpAny_pure ⟨v, rfl, v, rfl, hQ h' ?_ h2⟩)
  rw [h1]; rfl

end
end Mine
end
/-! B19 -/
section
open PySem PySem.W PyProof.Rows PySem.Spec PySem.Calls
set_option maxRecDepth 100000
set_option maxHeartbeats 1000000
set_option linter.unusedVariables false
namespace Mine

end Mine
end
/-! B20 -/
section
open PySem PySem.W PyProof.Rows PySem.Spec PySem.Calls
set_option maxRecDepth 100000
set_option maxHeartbeats 1000000
set_option linter.unusedVariables false
namespace Mine

abbrev stopT : String := "StopIteration"
section
variable {prog' : Program} {w : World} {A : Around} {E : Value → Shared → Prop} {s : Shared}
theorem newExc_stop {M : Model} {Q : Value → Shared → Prop} (h : ∀ h' e, Heap.MadeExc s.heap h' e "StopIteration" [] → Q (.ref e) { s with heap := h' }) : wpAny M A (newExc (.type "StopIteration") []) Q E s := by
  unfold newExc newTuple
  refine wpAny_bind (wpAny_newObj_type ?_ (by show ([] : List Value).toArray.size ≤ sizeLine; simp))
  refine wpAny_bind (m := firstArgMember _ _) (wpAny_of_eq (a := Value.none) (by unfold firstArgMember; simp) ?_)
  rw [show ownMembersOf (.type "StopIteration") [] = #[] from rfl]
  refine wpAny_newObj_type (h _ _ ⟨fun b o hb => Heap.get?_push_of_some _ (Heap.get?_push_of_some _ hb), Heap.get?_none_of_le (by simp), s.heap.objs.size, ?_, Heap.get?_none_of_le (Nat.le_refl _), ?_⟩)
  · exact Heap.get?_push_size _ rfl
  · exact Heap.get?_push_of_some _ (Heap.get?_push_size _ rfl)
abbrev ItE (i : Int) : Obj := { cls := .type "list_iterator", dict := none, data := .fields #[.none, .int i 0], slots := #[] }
theorem next_of {it : Addr} {ob : Obj} {Q : Value → Shared → Prop} (ho : s.heap.get? it = some ob) (hc : ob.cls = .type "list_iterator")
    (h : wpAny (model prog' w) A.in1.in1 (Builtin.«list_iterator.__next__» ⟨[.ref it], []⟩) (fun fin s' => ∃ v, fin = .done (.ret v) ∧ Q v s') E s) : wpAny (model prog' w) A (call (.builtin "next") [.ref it]) Q E s := by
  have hT : s.TypeIs (.ref it) "list_iterator" := ⟨_, ho, hc⟩
  refine call_function_entry (by decide +kernel) (by decide +kernel) kdk_entry_next (kdk_args_next _) ?_
  unfold Builtin.«next»
  refine wpAny_bind (m := someArgs "next" 1 2 _) (wpAny_of_eq (a := [Value.ref it]) (by first | rfl | kernel_rfl!) ?_)
  dsimp only
  refine wpAny_bind (wpAny_specialOf (name := Str.ofString "__next__") hT slot_listiter_next.lookup ?_)
  refine wpAny_ite_split (fun hab => absurd hab (by decide)) (fun _ => ?_)
  refine wpAny_bind (wpAny_callSpecial?_slot (name := Str.ofString "__next__") hT slot_listiter_next
    (wpAny_call_entry slot_listiter_next hT entry_listiter_next (wpAny_mono h (fun fin s' x => ?_) fun _ _ x => x) (args_listiter_next _)))
  obtain ⟨v, rfl, hq⟩ := x
  exact ⟨v, rfl, wpAny_pure ⟨v, rfl, hq⟩⟩
/-- the list's end -/
theorem next_stop {it l : Addr} {i n : Nat} {vs : List Value} {Q : Value → Shared → Prop} (hA : A.handled = none) (ho : s.heap.get? it = some (ItO (.ref l) i)) (hl : s.heap.get? l = some (LO vs n)) (hx : vs[i]? = none)
    (hE : ∀ h1 h' e, h1.get? it = some (ItE i) → Heap.SameBut it s.heap h1 → Heap.MadeExc h1 h' e "StopIteration" [] → E (.ref e) { s with heap := h' }) : wpAny (model prog' w) A (call (.builtin "next") [.ref it]) Q E s := by
  refine next_of ho rfl ?_
  show wpAny _ _ (field (.ref it) 0 >>= _) _ _ s
  refine wpAny_bind (wpAny_field ho rfl (x := .ref l) rfl ?_)
  show wpAny _ _ (if (Value.ref l == Value.none) = true then _ else _) _ _ s
  rw [if_neg (show ¬ ((Value.ref l == Value.none) = true) from Bool.false_ne_true)]
  show wpAny _ _ (field (.ref it) 1 >>= _) _ _ s
  refine wpAny_bind (wpAny_field ho rfl (x := .int i 0) rfl ?_)
  show wpAny _ _ (seqItems? (.ref l) >>= _) _ _ s
  refine wpAny_bind (wpAny_seqItems hl rfl ?_)
  simp only [Int.toNat_natCast, List.getElem?_toArray, hx]
  refine wpAny_bind (wpAny_rule ?_)
  refine wpAny_bind (wpAny_setField_rec ho (by show 0 < 2; decide) fun h1 e1 s1 => ?_)
  unfold Builtin.SmallTypes.stopIteration
  refine wpAny_bind (newExc_stop fun h' e hm => wpAny_raiseNew_none hA (hE h1 h' e ?_ s1 hm))
  rw [e1]; rfl
theorem next_ended {it : Addr} {i : Int} {Q : Value → Shared → Prop} (hA : A.handled = none) (ho : s.heap.get? it = some (ItE i))
    (hE : ∀ h' e, Heap.MadeExc s.heap h' e "StopIteration" [] → E (.ref e) { s with heap := h' }) : wpAny (model prog' w) A (call (.builtin "next") [.ref it]) Q E s := by
  refine next_of ho rfl ?_
  show wpAny _ _ (field (.ref it) 0 >>= _) _ _ s
  refine wpAny_bind (wpAny_field ho rfl (x := .none) rfl ?_)
  show wpAny _ _ (if (Value.none == Value.none) = true then _ else _) _ _ s
  rw [if_pos (show ((Value.none == Value.none) = true) from rfl)]
  refine wpAny_bind (wpAny_rule ?_)
  unfold Builtin.SmallTypes.stopIteration
  exact wpAny_bind (wpAny_bind (newExc_stop fun h' e hm => wpAny_raiseNew_none hA (hE h' e hm)))
end
end Mine
end
/-! L20 -/
section
open PySem PySem.W PyProof.Rows PySem.Spec PySem.Calls
set_option maxRecDepth 100000
set_option maxHeartbeats 1000000
set_option linter.unusedVariables false
namespace Mine

/-! an exception on its way out -/
theorem funFrames_of {h base : Heap} : ∀ {l : List Env}, (∀ env ∈ l, env.scope.kind ≠ .module ∧ ∃ L o, env.frame = some L ∧ base.get? L = none ∧ h.get? L = some o ∧ ∀ vs, o.data ≠ .fields vs) → h.FunFrames base l
  | [], _ => trivial
  | env :: l, H => ⟨(H env List.mem_cons_self).1, (H env List.mem_cons_self).2, funFrames_of fun e he => H e (List.mem_cons_of_mem _ he)⟩

section
variable {M : Model} {A : Around} {E : Value → Shared → Prop} {s : Shared}
/-- noted in its own frame for the first time -/
theorem looks_made {base h : Heap} {env : Env} {outer : List Env} {L e : Addr} {cls : Value} {args : List Value} {Q : Unit → Shared → Prop}
    (hfr : A.frames = some (env :: outer)) (hf : env.frame = some L) (hkb : base.StaysIn h) (hl : h.FunFrames base (env :: outer)) (hx : Heap.MadeExcOf h s.heap e cls args)
    (hQ : ∀ h' t, Heap.HeldW base (env :: outer) e cls (.ref t) L h' → s.heap.UpToSlots h' → Q () { s with heap := h' }) : wpAny M A (noteFrame (.ref e) env) Q E s := by
  obtain ⟨t, he, htn, ht⟩ := hx.there
  have fresh : ∀ b, h.get? b = none → base.get? b = none := fun b hb => by
    cases hq : base.get? b with
    | none => rfl
    | some o' => have := hkb b o' hq; rw [hb] at this; cases this
  unfold noteFrame
  simp only [hf]
  refine wpAny_bind (wpAny_field he rfl (x := .none) rfl ?_)
  rw [if_neg (by decide)]
  refine wpAny_entryW (a0 := .ref t) hfr (hl.of_keeps fun b o hb _ => ⟨o, hx.keeps b o hb, rfl⟩) hf he (fun b o hb => hx.keeps b o (hkb b o hb)) (fresh e hx.new) rfl (by show 1 < 6; decide) rfl fun h' hN => ?_
  obtain ⟨k1, k2, k3, k4⟩ := hN
  exact hQ h' t ⟨k1, fresh e hx.new, k2, k3⟩ k4
theorem came_held {base : Heap} {env : Env} {l : List Env} {L e : Addr} {cls a0 : Value} (hf : env.frame = some L) (hh : Heap.HeldW base l e cls a0 L s.heap)
    (hQ : ∀ h', Heap.HeldW base l e cls a0 L h' → s.heap.UpToSlots h' → E (.ref e) { s with heap := h' }) : cameBackBy M A env E (.ref e) s := by
  obtain ⟨hkb, hen, hl, oe, vs, T, oT, ts, he, hcls, hd, h1, hnT, hTe, hT, hdT, h3⟩ := hh
  have hsz3 : 3 < ts.size := (Array.getElem?_eq_some_iff.mp h3).1
  unfold cameBackBy
  refine wpAny_bind (wpAny_field he hd h1 ?_)
  rw [if_neg (show ¬ ((Value.ref T == Value.none) = true) from Bool.false_ne_true)]
  rw [hf]
  unfold setFlight
  refine wpAny_bind (wpAny_field he hd h1 ?_)
  rw [if_pos (show (Value.ref T != Value.none) = true from by simp)]
  have other : ∀ b, b ≠ T → (s.heap.update T (Obj.mapFields (·.setIfInBounds 3 ((some L : Option Addr).elim Value.none fun f => rawInt f)))).get? b = s.heap.get? b :=
    fun b hb => Heap.get?_update_other _ _ (Ne.symm hb)
  have noRecord : ∀ b o, s.heap.get? b = some o → (∀ vs, o.data ≠ .fields vs) → b ≠ T := fun b o hb hnf q => by
    rw [q, hT] at hb; injection hb with hb; subst hb; exact hnf ts hdT
  refine wpAny_setField hT hdT hsz3 (hQ _ ⟨fun b o hbo => (other b fun q => by rw [q, hnT] at hbo; cases hbo).trans (hkb b o hbo), hen, hl.of_keeps fun b o hb hnf => ⟨o, (other b (noRecord b o hb hnf)).trans hb, rfl⟩, ?_⟩ fun b o hb hn => ⟨o.slots, (other b (noRecord b o hb hn)).trans hb⟩)
  exact ⟨oe, vs, T, _, _, (other e (Ne.symm hTe)).trans he, hcls, hd, h1, hnT, hTe, Heap.get?_update_self _ hT (Obj.isFreed_of_fields (Obj.data_mapFields hdT _)), Obj.data_mapFields hdT _, by simp [hsz3]⟩
theorem loop_raise {base h : Heap} {env : Env} {outer : List Env} {L e : Addr} {cls : Value} {args : List Value}
    (hfr : A.frames = some (env :: outer)) (hf : env.frame = some L) (hkb : base.StaysIn h) (hl : h.FunFrames base (env :: outer)) (hx : Heap.MadeExcOf h s.heap e cls args)
    (hQ : ∀ h' t, Heap.HeldW base (env :: outer) e cls (.ref t) L h' → s.heap.UpToSlots h' → E (.ref e) { s with heap := h' }) : notedBy M A env (cameBackBy M A env E) (.ref e) s :=
  looks_made hfr hf hkb hl hx fun h' t hH hU => came_held hf hH fun h2 hH2 hU2 => hQ h2 t hH2 (hU.trans hU2)
theorem leaves_held {base : Heap} {env : Env} {outer : List Env} {L e : Addr} {cls a0 : Value} {Q : Unit → Shared → Prop} (hf : env.frame = some L)
    (hh : Heap.HeldW base (env :: outer) e cls a0 L s.heap) (hQ : ∀ h', Heap.FlyingW base outer e cls a0 h' → s.heap.UpToSlots h' → Q () { s with heap := h' }) : wpAny M A (leaving env (.ref e)) Q E s := by
  unfold leaving
  refine wpAny_bind (wpAny_noteFrame_againW hf hh.2.2.2 ?_)
  refine wpAny_landsW hh fun h' hfl hu => ?_
  obtain ⟨k1, k2, ⟨_, _, k3⟩, k4⟩ := hfl
  exact hQ h' ⟨k1, k2, k3, k4⟩ hu
end

section
variable {c : Cx} {ρ ρ' : Frame}
/-- the state, behind changes beside it and of the frame's own dict's slots -/
theorem St.after {o : Str → Addr} {z z' R : PM} {s : Shared} {h' : Heap} {t : Nat} {wr : List Addr} (S : St c ρ o z R s) (le : z.le z') (zh' : ∀ a b, z' a = some b → h'.get? a = some b) (hnew : ∀ a, z' a ≠ none → z a ≠ none ∨ s.heap.get? a = none)
    (hw : ∀ b ∈ wr, z b = none ∧ R b = none ∧ ¬ Priv c ρ o b) (hk : ∀ b ob, b ∉ wr → b ≠ c.env.locals → s.heap.get? b = some ob → h'.get? b = some ob) (hL : ∀ m, s.heap.Ns c.env.locals m → h'.Ns c.env.locals m) : St c ρ o z' R { s with heap := h', toks := t } where
  zh := zh'
  rh := fun a b e => hk _ _ (fun hm => by rw [(hw _ hm).2.1] at e; cases e) (fun q => by rw [q, (S.sep _ .loc).2] at e; cases e) (S.rh a b e)
  bz := fun a b e => le _ _ (S.bz a b e)
  zr := fun a h => (hnew a h).elim (S.zr a) S.rnew
  gs := S.gs
  ds := S.ds
  oss := S.oss
  nodup := S.nodup
  named := S.named
  sep := fun a hp => by
    refine ⟨?_, (S.sep a hp).2⟩
    cases e : z' a with
    | none => rfl
    | some b =>
      rcases hnew a (by rw [e]; exact fun h => nomatch h) with h | h
      · exact absurd (S.sep a hp).1 h
      · obtain ⟨b', e'⟩ := S.live hp
        rw [h] at e'; cases e'
  cellL := fun p hp => ⟨(S.cellL p hp).1, let ⟨v, ob, e, hd⟩ := (S.cellL p hp).2; ⟨v, ob, hk _ _ (fun hm => (hw _ hm).2.2 (.cell (x := p.1) hp)) (S.cellL p hp).1 e, hd⟩⟩
  cellD := S.cellD
  ownL := S.ownL
  ownD := S.ownD
  slots := by
    obtain ⟨m, hn, hs⟩ := S.slots
    refine ⟨m, hL m hn, fun p hp => ?_⟩
    have := hs p hp
    obtain ⟨y, sl⟩ := p
    cases sl with
    | no => trivial
    | val d =>
      obtain ⟨v, hb, hr⟩ := this
      refine ⟨v, ?_, Rep.mono le _ hr⟩
      rcases hb with a | ⟨a1, ca, a2, ob, a3, a4⟩
      · exact .inl a
      · exact .inr ⟨a1, ca, a2, ob, hk _ _ (fun hm => (hw _ hm).2.2 (.cell (mem_of_lookup a2))) (S.cellL _ (mem_of_lookup a2)).1 a3, a4⟩
    | own ds =>
      obtain ⟨a1, a2, vs, n, a3, a4⟩ := this
      exact ⟨a1, a2, vs, n, hk _ _ (fun hm => (hw _ hm).2.2 (.own hp)) (S.ownL _ _ hp).1 a3, Reps.mono le _ a4⟩

/-- an expression, while an object is held -/
theorem at_heldG {it : Addr} {ob : Obj} {o : Str → Addr} {z R : PM} {s : Shared} (S : St c ρ o z R s) (hz : z it = none) (hR : R it = none) (hp : ¬ Priv c ρ o it) (hd : s.heap.get? it = some ob) :
    St c ρ o z (hold R [it] s.heap) s ∧ ∀ {ρ' o' z' s'}, St c ρ' o' z' (hold R [it] s.heap) s' → St c ρ' o' z' R s' ∧ s'.heap.get? it = some ob ∧ z' it = none ∧ ¬ Priv c ρ' o' it := by
  refine ⟨S.holding fun b hb => by rw [List.mem_singleton.mp hb]; exact ⟨hz, hR, hp⟩, fun S' => ?_⟩
  obtain ⟨S2, h1, h2⟩ := S'.unhold (fun b hb => by rw [List.mem_singleton.mp hb]; exact hR) (fun b hb => by rw [List.mem_singleton.mp hb]; exact ⟨_, hd⟩)
  have h3 := h2 it (List.mem_singleton_self _)
  exact ⟨S2, (h1 it (List.mem_singleton_self _)).trans hd, h3.1, h3.2.2⟩

/-- an iterator's place: what is left of its list, or ended -/
noncomputable def Itr (z : PM) (it : Addr) (h : Heap) : Option (List D) → Prop
  | some ds => ∃ l vs n i, h.get? it = some (ItO (.ref l) i) ∧ z l = some (LO vs n) ∧ Reps z ds (vs.drop i)
  | none => ∃ i, h.get? it = some (ItE i)
theorem Itr.obj {z : PM} {it : Addr} {h : Heap} {r : Option (List D)} (x : Itr z it h r) : ∃ ob, h.get? it = some ob := by
  cases r with
  | none => obtain ⟨i, e⟩ := x; exact ⟨_, e⟩
  | some ds => obtain ⟨l, vs, n, i, e, _⟩ := x; exact ⟨_, e⟩
theorem Itr.mono {z z' : PM} {it : Addr} {h h' : Heap} {r : Option (List D)} (x : Itr z it h r) (le : z.le z') (e : h'.get? it = h.get? it) : Itr z' it h' r := by
  cases r with
  | none => obtain ⟨i, q⟩ := x; exact ⟨i, e.trans q⟩
  | some ds => obtain ⟨l, vs, n, i, q, hl, hr⟩ := x; exact ⟨l, vs, n, i, e.trans q, le _ _ hl, Reps.mono le _ hr⟩
/-- the call of next -/
theorem next_call (ok : CxOk c) {it : Addr} {r : Option (List D)} {o : Str → Addr} {z R : PM} {s : Shared} {Q E : Value → Shared → Prop} (S : St c ρ o z R s) (hz : z it = none) (hR : R it = none) (hp : ¬ Priv c ρ o it) (hi : Itr z it s.heap r)
    (hv : ∀ d ds v s', r = some (d :: ds) → St c ρ o z R s' → Itr z it s'.heap (some ds) → Rep z d v → Q v s')
    (he : ∀ s1 h' e, (r = some [] ∨ r = none) → St c ρ o z R s1 → Itr z it s1.heap none → Heap.MadeExc s1.heap h' e "StopIteration" [] → E (.ref e) { s1 with heap := h' }) : wpAny (model prog c.w) c.A (call (.builtin "next") [.ref it]) Q E s := by
  have same : ∀ h', Heap.SameBut it s.heap h' → St c ρ o z R { s with heap := h' } := fun h' hs =>
    S.other (t := s.toks) (wr := [it]) (fun b hb => by rw [List.mem_singleton.mp hb]; exact ⟨hz, hR, hp⟩) fun b o' hb e => (hs.2 b (fun q => hb (by rw [q]; exact List.mem_singleton_self _))).trans e
  match r, hi with
  | none, ⟨i, q⟩ => exact next_ended ok.hnd q fun h' e hm => he s h' e (.inr rfl) S ⟨i, q⟩ hm
  | some [], ⟨l, vs, n, i, q, hl, hr⟩ =>
    have hx : vs[i]? = none := by
      have : vs.drop i = [] := hr
      exact List.getElem?_eq_none_iff.mpr (List.drop_eq_nil_iff.mp this)
    exact next_stop ok.hnd q (S.zh _ _ hl) hx fun h1 h' e q1 s1 hm => he { s with heap := h1 } h' e (.inl rfl) (same h1 s1) ⟨i, q1⟩ hm
  | some (d :: ds), ⟨l, vs, n, i, q, hl, ⟨v, vr, e, hd, hr⟩⟩ =>
    have hx : vs[i]? = some v := by rw [← List.head?_drop, e]; rfl
    have hdr : vs.drop (i + 1) = vr := by rw [← List.drop_drop, e]; rfl
    exact next_item q (S.zh _ _ hl) hx fun h' q1 s1 => hv d ds v _ rfl (same h' s1) ⟨l, vs, n, i + 1, q1, hl, by rw [hdr]; exact hr⟩ hd
theorem b_next : bootBuiltins (Str.ofString "next") = some (.builtin "next") := by decide +kernel
theorem next_stmt (ok : CxOk c) {b y : Str} {p p1 p2 pos1 pos : Pos} {it : Addr} {r : Option (List D)} {o : Str → Addr} {z R : PM} {s : Shared} {Q : Flow → Shared → Prop} {E : Value → Shared → Prop} {ρf : D → Frame} (S : St c ρ o z R s) (hz : z it = none) (hR : R it = none) (hp : ¬ Priv c ρ o it) (hi : Itr z it s.heap r)
    (hy : (y, Slot.val (.val (.ref it))) ∈ ρ) (hu : ∀ d, Put b (.val d) ρ (ρf d))
    (hv : ∀ d ds z' s', r = some (d :: ds) → z.le z' → St c (ρf d) o z' R s' → z' it = none → ¬ Priv c (ρf d) o it → Itr z' it s'.heap (some ds) → Q .next s')
    (he : ∀ z' s1 h' e, (r = some [] ∨ r = none) → z.le z' → St c ρ o z' R s1 → z' it = none → Itr z' it s1.heap none → Heap.MadeExc s1.heap h' e "StopIteration" [] → E (.ref e) { s1 with heap := h' })
    (hx : c.env.kindOf (Str.ofString "next") = some .globalImplicit := by rfl) (hse : starEach [Expr.Name y p2] c.env = [(false, eval (.Name y p2) c.env)] := by rfl)
    (hcall : eval (.Call (.Name (Str.ofString "next") p1) [.Name y p2] [] pos1) c.env = (do callWith pos1 (← eval (.Name (Str.ofString "next") p1) c.env) [] (backTo pos1 (starEach [Expr.Name y p2] c.env)) (backToKw pos1 (keywordEach [] c.env))) := by rfl)
    (hs : swapsWith (.Call (.Name (Str.ofString "next") p1) [.Name y p2] [] pos1) (some (.Name b p)) pos.line c.env = pure false := by rfl) :
    wpAny (model prog c.w) c.A (exec (.Assign [.Name b p] (.Call (.Name (Str.ofString "next") p1) [.Name y p2] [] pos1) pos) c.env) Q E s := by
  obtain ⟨ob, hob⟩ := hi.obj
  obtain ⟨S1, back⟩ := at_heldG S hz hR hp hob
  refine wpAny_Assign_Name (Call_ ((E_blt ok hx (globs _).next b_next (by decide +kernel) (by decide +kernel)).run o z _ s _ _ S1 fun f z1 s1 le1 S2 r1 => ?_) hcall) hs
  rw [show f = .builtin "next" from r1]
  refine PyProof.Rows.callWith_builtin1 (spliced_more ((E_name ok hy).run o z1 _ s1 _ _ S2 fun v z2 s2 le2 S3 r2 => spliced_none ?_) hse) hse rfl
  rw [show v = .ref it from r2]
  obtain ⟨S4, hob2, hz2, hp2⟩ := back S3
  have le := le1.le.trans le2.le
  refine next_call ok S4 hz2 hR hp2 (hi.mono le (hob2.trans hob.symm)) (fun d ds v s' hr S5 hi5 hv5 => ?_) fun s5 h' e hr S5 hi5 hm => he z2 s5 h' e hr le S5 hz2 hi5 hm
  obtain ⟨ob5, hob5⟩ := hi5.obj
  obtain ⟨S6, back6⟩ := at_heldG S5 hz2 hR hp2 hob5
  refine store_val ok S6 (hu d) hv5 fun s7 S7 _ => ?_
  obtain ⟨S8, hob8, hz8, hp8⟩ := back6 S7
  exact hv d ds z2 s7 hr le S8 hz8 hp8 (hi5.mono (PM.le.refl _) (hob8.trans hob5.symm))
end
end Mine
end
/-! L21 -/
section
open PySem PySem.W PyProof.Rows PySem.Spec PySem.Calls
set_option maxRecDepth 100000
set_option maxHeartbeats 1000000
set_option linter.unusedVariables false
namespace Mine
variable {c : Cx} {ρ ρ' : Frame}

/-- a statement beside the iterator -/
theorem step_held {st : Stmt} {it : Addr} {r : Option (List D)} {ρ₂ : Frame} {o : Str → Addr} {z R : PM} {s : Shared} {Q : Flow → Shared → Prop} {E : Value → Shared → Prop} (h : XOk c ρ st fun fl ρ' => fl = .next ∧ ρ' = ρ₂) (S : St c ρ o z R s) (hz : z it = none) (hR : R it = none) (hp : ¬ Priv c ρ o it) (hi : Itr z it s.heap r)
    (K : ∀ o' z' s', z.le z' → St c ρ₂ o' z' R s' → z' it = none → ¬ Priv c ρ₂ o' it → Itr z' it s'.heap r → Q .next s') : wpAny (model prog c.w) c.A (exec st c.env) Q E s := by
  obtain ⟨ob, hob⟩ := hi.obj
  obtain ⟨S1, back⟩ := at_heldG S hz hR hp hob
  refine h.run o z _ s _ _ S1 fun fl ρ' o' z' s' f le S' hf hP => ?_
  obtain ⟨rfl, rfl⟩ := hP
  obtain ⟨S2, hob2, hz2, hp2⟩ := back S'
  rw [show f = .next from hf]
  exact K o' z' s' le S2 hz2 hp2 (hi.mono le (hob2.trans hob.symm))
theorem T_int {e : Expr} {i : Int} (h : EOk c ρ e (.int i)) (he : ∀ env whole, isTrue e env whole = (do let v ← whole; standAt e.pos; holding [v] (truthy v)) := by intro _ _; rfl) : TOk c ρ e (i != 0) :=
  .mk fun o z R s Q E S K => isTrue_plain (h.run o z R s _ _ S fun v z1 s1 le1 S1 r1 => by
    obtain ⟨t, rfl⟩ := r1
    exact P.truthy_int (K z1 s1 le1 S1)) (he _ _)

/-! what _parse_varint does with what is left -/
noncomputable def varL : Option (List Int) → Option (Int × List Int)
  | none => none
  | some xs => varOf xs
noncomputable def goV (v b : Int) (xs : List Int) : Option (Int × List Int) := if Builtin.bitAnd b 64 == 0 then some (v, xs) else varGo v xs
theorem varGo_cons (v b : Int) (r : List Int) : varGo v (b :: r) = goV (Builtin.bitOr (v * 2 ^ 6) (Builtin.bitAnd b 63)) b r := rfl
theorem varOf_cons (b : Int) (r : List Int) : varOf (b :: r) = goV (Builtin.bitAnd b 63) b r := rfl
noncomputable def fitGo : Int → List Int → Bool
  | v, [] => decide ((Builtin.Int.intBits v : Int) + 6 ≤ 2 ^ 27)
  | v, b :: r => decide ((Builtin.Int.intBits v : Int) + 6 ≤ 2 ^ 27) && (Builtin.bitAnd b 64 == 0 || fitGo (Builtin.bitOr (v * 2 ^ 6) (Builtin.bitAnd b 63)) r)
noncomputable def fitVar : List Int → Bool
  | [] => true
  | b :: r => Builtin.bitAnd b 64 == 0 || fitGo (Builtin.bitAnd b 63) r
noncomputable def pvFr (it : Addr) (b v : Slot) : Frame := [(Str.ofString "iterator", .val (.val (.ref it))), (Str.ofString "b", b), (Str.ofString "val", v)]

/-- the frames around: each has its own dict, that stands untouched -/
noncomputable def OutR (R : PM) (outer : List Env) : Prop := ∀ env ∈ outer, env.scope.kind ≠ .module ∧ ∃ L o, env.frame = some L ∧ R L = some o ∧ ∀ vs, o.data ≠ .fields vs
noncomputable def framesOf (l : List Env) : List Addr := l.filterMap (·.frame)
theorem funs_at {outer : List Env} {o : Str → Addr} {z R : PM} {s : Shared} (hk : c.env.scope.kind = .function) (hf : c.env.frame = some c.env.locals) (S : St c ρ o z R s) (hO : OutR R outer) : s.heap.FunFrames (hideAll s.heap (framesOf (c.env :: outer))) (c.env :: outer) := by
  refine funFrames_of fun env he => ?_
  have hin : ∀ L, env.frame = some L → L ∈ framesOf (c.env :: outer) := fun L hL => List.mem_filterMap.mpr ⟨env, he, hL⟩
  rcases List.mem_cons.mp he with rfl | ho
  · obtain ⟨m, ⟨ob, es, ep, h1, h2, _⟩, _⟩ := S.slots
    exact ⟨by rw [hk]; decide, _, ob, hf, hideAll_none _ (hin _ hf), h1, fun vs q => by rw [h2] at q; cases q⟩
  · obtain ⟨a, L, ob, b, d, e⟩ := hO env ho
    exact ⟨a, L, ob, b, hideAll_none _ (hin _ b), S.rh _ _ d, e⟩

theorem pv_loop (ok : CxOk c) {it : Addr} {outer : List Env} {xs : List Int} {v b : Int} {o : Str → Addr} {z R : PM} {s : Shared} {Q : Flow → Shared → Prop} {E : Value → Shared → Prop} {test : Expr} {body : List Stmt} {pos : Pos}
    (hfr : c.A.frames = some (c.env :: outer)) (hf : c.env.frame = some c.env.locals) (hO : OutR R outer)
    (htest : ∀ v b, TOk c (pvFr it (.val (.int b)) (.val (.int v))) test (Builtin.bitAnd b 64 != 0))
    (hbody : ∀ v b (ds : List Int) o z s (Q : Flow → Shared → Prop) (E : Value → Shared → Prop), ((Builtin.Int.intBits v : Int) + 6 ≤ 2 ^ 27) → St c (pvFr it (.val (.int b)) (.val (.int v))) o z R s → z it = none → ¬ Priv c (pvFr it (.val (.int b)) (.val (.int v))) o it → Itr z it s.heap (some (ds.map D.int)) →
      (∀ b' r o' z' s', ds = b' :: r → z.le z' → St c (pvFr it (.val (.int b')) (.val (.int (Builtin.bitOr (v * 2 ^ 6) (Builtin.bitAnd b' 63))))) o' z' R s' → z' it = none → ¬ Priv c (pvFr it (.val (.int b')) (.val (.int (Builtin.bitOr (v * 2 ^ 6) (Builtin.bitAnd b' 63))))) o' it → Itr z' it s'.heap (some (r.map D.int)) → Q .next s') →
      (∀ ρ' o' z' s1 h' e, ds = [] → z.le z' → St c ρ' o' z' R s1 → z' it = none → Itr z' it s1.heap none → Heap.MadeExc s1.heap h' e "StopIteration" [] → E (.ref e) { s1 with heap := h' }) → wpAny (model prog c.w) c.A (execs body c.env) Q E s)
    (S : St c (pvFr it (.val (.int b)) (.val (.int v))) o z R s) (hz : z it = none) (hR : R it = none) (hp : ¬ Priv c (pvFr it (.val (.int b)) (.val (.int v))) o it) (hi : Itr z it s.heap (some (xs.map D.int)))
    (hfit : (Builtin.bitAnd b 64 == 0 || fitGo v xs) = true)
    (hret : ∀ v' b' rest o' z' s', goV v b xs = some (v', rest) → z.le z' → St c (pvFr it (.val (.int b')) (.val (.int v'))) o' z' R s' → z' it = none → ¬ Priv c (pvFr it (.val (.int b')) (.val (.int v'))) o' it → Itr z' it s'.heap (some (rest.map D.int)) → Q .next s')
    (hheld : ∀ ρ' o' z' s1 h' e t, goV v b xs = none → z.le z' → St c ρ' o' z' R s1 → z' it = none → Itr z' it s1.heap none → Heap.HeldW (hideAll s1.heap (framesOf (c.env :: outer))) (c.env :: outer) e (.type "StopIteration") (.ref t) c.env.locals h' → s1.heap.UpToSlots h' → E (.ref e) { s1 with heap := h' }) :
    wpAny (model prog c.w) c.A (exec (.While test body [] pos) c.env) Q E s := by
  refine wpAny_While (codeAny_whileLoop (fun n s' => ∃ v₁ b₁ ds oi zi, n = ds.length ∧ goV v₁ b₁ ds = goV v b xs ∧ (Builtin.bitAnd b₁ 64 == 0 || fitGo v₁ ds) = true ∧ z.le zi ∧ St c (pvFr it (.val (.int b₁)) (.val (.int v₁))) oi zi R s' ∧ zi it = none ∧ ¬ Priv c (pvFr it (.val (.int b₁)) (.val (.int v₁))) oi it ∧ Itr zi it s'.heap (some ((ds : List Int).map D.int))) ?_ xs.length
    ⟨v, b, xs, o, z, rfl, rfl, hfit, PM.le.refl z, S, hz, hp, hi⟩)
  rintro n s' ⟨v₁, b₁, ds, oi, zi, rfl, hg, hft, lei, Si, hzi, hpi, hii⟩
  obtain ⟨ob, hob⟩ := hii.obj
  obtain ⟨S1, back⟩ := at_heldG Si hzi hR hpi hob
  refine (htest v₁ b₁).run oi zi _ s' _ _ S1 fun z1 s1 le1 S2 => ?_
  obtain ⟨S3, hob3, hz3, hp3⟩ := back S2
  have hi3 := hii.mono le1.le (hob3.trans hob.symm)
  cases hb : (Builtin.bitAnd b₁ 64 != 0) with
  | false =>
    rw [if_neg (by decide)]
    have hb0 : (Builtin.bitAnd b₁ 64 == 0) = true := by
      rw [bne, Bool.not_eq_false'] at hb; exact hb
    exact wpAny_execs_nil (hret v₁ b₁ ds oi z1 s1 (by rw [← hg]; unfold goV; rw [if_pos hb0]) (lei.trans le1.le) S3 hz3 hp3 hi3)
  | true =>
    rw [if_pos rfl]
    have hb0 : (Builtin.bitAnd b₁ 64 == 0) = false := by
      rw [bne, Bool.not_eq_true'] at hb; exact hb
    rw [hb0, Bool.false_or] at hft
    have hbits : (Builtin.Int.intBits v₁ : Int) + 6 ≤ 2 ^ 27 := by
      cases ds with
      | nil => unfold fitGo at hft; exact of_decide_eq_true hft
      | cons b' r => unfold fitGo at hft; rw [Bool.and_eq_true] at hft; exact of_decide_eq_true hft.1
    refine hbody v₁ b₁ ds oi z1 s1 _ _ hbits S3 hz3 hp3 hi3 (fun b' r o' z' s2 e le' S' hz' hp' hi' => ?_) fun ρ' o' z' s2 h' e hd le' S' hz' hi' hm => ?_
    · subst e
      refine ⟨r.length, by rw [List.length_cons]; omega, _, b', r, o', z', rfl, ?_, ?_, lei.trans (le1.le.trans le'), S', hz', hp', hi'⟩
      · rw [← hg]; unfold goV; rw [hb0, if_neg (show ¬ (false = true) by decide)]; rfl
      · unfold fitGo at hft; rw [Bool.and_eq_true] at hft; exact hft.2
    · subst hd
      have hgn : goV v b xs = none := by rw [← hg]; unfold goV; rw [hb0, if_neg (by decide)]; rfl
      exact loop_raise hfr hf (fun b' o'' q => of_hideAll _ q) (funs_at ok.kf hf S' hO) (Heap.MadeExc.of hm) fun h2 t hH hU => hheld ρ' o' z' s2 h2 e t hgn (lei.trans (le1.le.trans le')) S' hz' hi' hH ((Heap.UpToSlots.of_keeps hm.keeps).trans hU)
end Mine
end
/-! L22 -/
section
open PySem PySem.W PyProof.Rows PySem.Spec PySem.Calls
set_option maxRecDepth 100000
set_option maxHeartbeats 1000000
set_option linter.unusedVariables false
namespace Mine

theorem reps_it {z : PM} {it : Addr} : Reps z [.val (.ref it)] [.ref it] := ⟨_, _, rfl, rfl, rfl⟩
abbrev nm (x : String) (p : Pos) : Expr := .Name (Str.ofString x) p
theorem pv_body {c : Cx} (ok : CxOk c) {it : Addr} {r : Option (List Int)} {outer : List Env} {o : Str → Addr} {z R : PM} {s : Shared} {Q : Flow → Shared → Prop} {E : Value → Shared → Prop}
    {p1 p2 p3 p4 p5 p6 p7 p8 p9 p10 p11 p12 p13 p14 p15 p16 p17 p18 p19 p20 p21 p22 p23 p24 p25 p26 p27 p28 p29 : Pos}
    (k1 : c.env.kindOf (Str.ofString "next") = some .globalImplicit)
    (hfr : c.A.frames = some (c.env :: outer)) (hf : c.env.frame = some c.env.locals) (hO : OutR R outer)
    (S : St c (pvFr it .no .no) o z R s) (hz : z it = none) (hR : R it = none) (hp : ¬ Priv c (pvFr it .no .no) o it) (hi : Itr z it s.heap (r.map (List.map D.int))) (hfit : ∀ xs, r = some xs → fitVar xs = true)
    (hret : ∀ v b' rest o' z' s' u, varL r = some (v, rest) → z.le z' → St c (pvFr it (.val (.int b')) (.val (.int v))) o' z' R s' → z' it = none → Itr z' it s'.heap (some (rest.map D.int)) → (∃ t, u = .int v t) → Q (.ret u) s')
    (hmade : ∀ ρ' o' z' s1 h' e, varL r = none → z.le z' → St c ρ' o' z' R s1 → z' it = none → Itr z' it s1.heap none → Heap.MadeExc s1.heap h' e "StopIteration" [] → E (.ref e) { s1 with heap := h' })
    (hheld : ∀ ρ' o' z' s1 h' e t, varL r = none → z.le z' → St c ρ' o' z' R s1 → z' it = none → Itr z' it s1.heap none → Heap.HeldW (hideAll s1.heap (framesOf (c.env :: outer))) (c.env :: outer) e (.type "StopIteration") (.ref t) c.env.locals h' → s1.heap.UpToSlots h' → E (.ref e) { s1 with heap := h' }) :
    wpAny (model prog c.w) c.A (execs [.Assign [nm "b" p1] (.Call (nm "next" p2) [nm "iterator" p3] [] p4) p5,
      .Assign [nm "val" p6] (.BinOp (nm "b" p7) .BitAnd (.Constant (.int 63) 0 p8) p9) p10,
      .While (.BinOp (nm "b" p11) .BitAnd (.Constant (.int 64) 0 p12) p13) [.AugAssign (nm "val" p14) .LShift (.Constant (.int 6) 0 p15) p16,
        .Assign [nm "b" p17] (.Call (nm "next" p18) [nm "iterator" p19] [] p20) p21,
        .AugAssign (nm "val" p22) .BitOr (.BinOp (nm "b" p23) .BitAnd (.Constant (.int 63) 0 p24) p25) p26] [] p27,
      .Return (some (nm "val" p28)) p29] c.env) Q E s := by
  rw [execs_cons]
  refine wpAny_bind (next_stmt (ρf := fun d => pvFr it (.val d) .no) ok S hz hR hp hi (List.mem_cons_self) (fun d => put_ 1 rfl) (fun d ds z1 s1 hr le1 S1 hz1 hp1 hi1 => ?_) (fun z1 s1 h' e hr le1 S1 hz1 hi1 hm => ?_) k1)
  case refine_2 =>
    refine hmade _ o z1 s1 h' e ?_ le1 S1 hz1 hi1 hm
    cases r with
    | none => rfl
    | some xs =>
      rcases hr with hr | hr
      · cases xs with
        | nil => rfl
        | cons x xs => cases hr
      · cases hr
  obtain ⟨x, xs, rfl, rfl, rfl⟩ : ∃ x xs, r = some (x :: xs) ∧ d = .int x ∧ ds = xs.map D.int := by
    cases r with
    | none => cases hr
    | some ys =>
      cases ys with
      | nil => cases hr
      | cons x xs => cases hr; exact ⟨x, xs, rfl, rfl, rfl⟩
  rw [execs_cons]
  refine wpAny_bind (step_held (ρ₂ := pvFr it (.val (.int x)) (.val (.int (Builtin.bitAnd x 63)))) (X_assign ok (E_bin (E_name ok (at_ 1 rfl)) E_int O_and) (put_ 2 rfl) ⟨rfl, rfl⟩) S1 hz1 hR hp1 hi1 fun o2 z2 s2 le2 S2 hz2 hp2 hi2 => ?_)
  rw [execs_cons]
  have hfit' : (Builtin.bitAnd x 64 == 0 || fitGo (Builtin.bitAnd x 63) xs) = true := hfit _ rfl
  refine wpAny_bind (pv_loop ok hfr hf hO (fun v b => T_int (E_bin (E_name ok (at_ 1 rfl)) E_int O_and)) ?body S2 hz2 hR hp2 hi2 hfit' (fun v' b' rest o3 z3 s3 hg le3 S3 hz3 hp3 hi3 => ?_) fun ρ' o' z' s1 h' e t hg le' S' hz' hi' hH hU => hheld ρ' o' z' s1 h' e t hg (le1.trans (le2.trans le')) S' hz' hi' hH hU)
  case body =>
    intro v b ds o z s Q E hbits S hz hp hi hv he
    rw [execs_cons]
    refine wpAny_bind (step_held (ρ₂ := pvFr it (.val (.int b)) (.val (.int (v * 2 ^ 6)))) (X_aug ok (at_ 2 rfl) E_int (I_shl (by decide) (by omega)) (put_ 2 rfl) ⟨rfl, rfl⟩) S hz hR hp hi fun o2 z2 s2 le2 S2 hz2 hp2 hi2 => ?_)
    rw [execs_cons]
    refine wpAny_bind (next_stmt (ρf := fun d => pvFr it (.val d) (.val (.int (v * 2 ^ 6)))) ok S2 hz2 hR hp2 hi2 (List.mem_cons_self) (fun d => put_ 1 rfl) (fun d ds' z3 s3 hr le3 S3 hz3 hp3 hi3 => ?_) (fun z3 s3 h' e hr le3 S3 hz3 hi3 hm => ?_) k1)
    · obtain ⟨b', r', rfl, rfl, rfl⟩ : ∃ b' r', ds = b' :: r' ∧ d = .int b' ∧ ds' = r'.map D.int := by
        cases ds with
        | nil => cases hr
        | cons x xs => cases hr; exact ⟨x, xs, rfl, rfl, rfl⟩
      rw [execs_cons]
      refine wpAny_bind (step_held (ρ₂ := pvFr it (.val (.int b')) (.val (.int (Builtin.bitOr (v * 2 ^ 6) (Builtin.bitAnd b' 63))))) (X_aug ok (at_ 2 rfl) (E_bin (E_name ok (at_ 1 rfl)) E_int O_and) I_or (put_ 2 rfl) ⟨rfl, rfl⟩) S3 hz3 hR hp3 hi3 fun o4 z4 s4 le4 S4 hz4 hp4 hi4 => ?_)
      exact wpAny_execs_nil (hv b' r' o4 z4 s4 rfl (le2.trans (le3.trans le4)) S4 hz4 hp4 hi4)
    · refine he _ o2 z3 s3 h' e ?_ (le2.trans le3) S3 hz3 hi3 hm
      cases ds with
      | nil => rfl
      | cons x xs => rcases hr with hr | hr <;> cases hr
  · rw [execs_cons]
    obtain ⟨ob, hob⟩ := hi3.obj
    obtain ⟨S4, back⟩ := at_heldG S3 hz3 hR hp3 hob
    refine wpAny_bind (wpAny_Return_some ((E_name ok (at_ 2 rfl)).run o3 z3 _ s3 _ _ S4 fun u z5 s5 le5 S5 r5 => ?_))
    obtain ⟨S6, hob6, hz6, hp6⟩ := back S5
    exact wpAny_pure (hret v' b' rest o3 z5 s5 u hg (le1.trans (le2.trans (le3.trans le5.le))) S6 hz6 (hi3.mono le5.le (hob6.trans hob.symm)) r5)
end Mine
end
/-! L23 -/
section
open PySem PySem.W PyProof.Rows PySem.Spec PySem.Calls
set_option maxRecDepth 100000
set_option maxHeartbeats 1000000
set_option linter.unusedVariables false
namespace Mine

theorem pv_enter {w : World} {h0 : Heap} (hb0 : BaseOk w h0) {A : Around} {z : PM} {s : Shared} {it : Addr} {r : Option (List Int)} {outer : List Env} {Q E : Value → Shared → Prop} (hfr : A.frames = some outer) (hO : OutR (restW z [it] s.heap) outer)
    (hA : A.handled = none) (hd : A.depth + 1 < recursionLimit) (hu : A.units + 60 * 2 < cLine) (zh : ∀ a b, z a = some b → s.heap.get? a = some b) (hb : ∀ a b, h0.get? a = some b → z a = some b) (hz : z it = none) (hi : Itr z it s.heap (r.map (List.map D.int)))
    (hfit : ∀ xs, r = some xs → fitVar xs = true)
    (hret : ∀ v rest z' h' tk t, varL r = some (v, rest) → z.le z' → (∀ a b, z' a = some b → h'.get? a = some b) → (∀ b o, b ≠ it → s.heap.get? b = some o → h'.get? b = some o) → (∀ a, z' a ≠ none → z a ≠ none ∨ s.heap.get? a = none) → z' it = none →
      Itr z' it h' (some (rest.map D.int)) → Q (.int v t) { s with heap := h', toks := tk })
    (hfly : ∀ z' L h1 e t h' tk, varL r = none → z.le z' → (∀ a b, z' a = some b → h1.get? a = some b) → (∀ b o, b ≠ it → s.heap.get? b = some o → h1.get? b = some o) → (∀ a, z' a ≠ none → z a ≠ none ∨ s.heap.get? a = none) → z' it = none → z' L = none → s.heap.get? L = none →
      (∀ b ∈ framesOf outer, z' b = none) → Itr z' it h1 none → Heap.FlyingW (hideAll h1 (L :: framesOf outer)) outer e (.type "StopIteration") (.ref t) h' → h1.UpToSlots h' → E (.ref e) { s with heap := h', toks := tk }) :
    wpAny (model prog w) A (call (.ref 45) [.ref it]) Q E s := by
  have : Sight PySem.Challenge.rw_sn0023_01 Mine.hd.heap_39 (wpAny (model prog w) A (call (.ref 45) [.ref it]) Q E s) := by
    k_fill
    unfold Sight
    refine' enter_def (rk := 0) hb0 (f := 45) (xs := [Str.ofString "iterator"]) (ρ := pvFr it .no .no) ?ho ?hcd (fun vs h => ?hbind) rfl ?hxl ?hfr ?hnd ?hcn ?hini ?hxd [it] hA hd hu zh hb reps_it ?hwr ?hbody ?c1 ?c2 ?c3
    case ho => k_is
    case hcd => k_is
    case c1 => rfl
    case c2 => rfl
    case c3 => rfl
    case hbind =>
      match vs, h with
      | [v], _ => rfl
    case hxl => decide +kernel
    case hfr => rfl
    case hnd => exact (show ([Str.ofString "iterator", Str.ofString "b", Str.ofString "val"] : List Str).Nodup from by decide +kernel)
    case hcn => decide +kernel
    case hxd => decide +kernel
    case hini =>
      intro p hp
      rcases List.mem_cons.mp hp with rfl | hp
      · exact .inr ⟨0, _, _, rfl, rfl, rfl⟩
      rcases List.mem_cons.mp hp with rfl | hp
      · exact .inl rfl
      rcases List.mem_cons.mp hp with rfl | hp
      · exact .inl rfl
      · cases hp
    case hwr =>
      intro b hb
      rw [List.mem_singleton.mp hb]; exact hi.obj
    intro c L s₁ ok hcw hch hcg hcd hco rm henv hcA hLn hk S hpv
    have hRit : restW z [it] s.heap it = none := by unfold restW; rw [if_neg (fun h => h.2 (List.mem_singleton_self _))]
    have hpit := hpv it (List.mem_singleton_self _)
    have hi1 : Itr z it s₁.heap (r.map (List.map D.int)) := by
      obtain ⟨ob, hob⟩ := hi.obj
      exact hi.mono (PM.le.refl _) ((hk _ _ hob).trans hob.symm)
    have hf : c.env.frame = some c.env.locals := by rw [henv]; rfl
    have hcl : c.env.locals = L := by rw [henv]; rfl
    have hfr' : c.A.frames = some (c.env :: outer) := by rw [hcA, henv]; exact Around.frames_deeper hfr
    have hfrs : framesOf (c.env :: outer) = L :: framesOf outer := by unfold framesOf; rw [List.filterMap_cons, hf, hcl]
    -- the end by a return
    have common : ∀ ρ' (o' : Str → Addr) z' (s1 : Shared), z.le z' → St c ρ' o' z' (restW z [it] s.heap) s1 → z' it = none → s1 = { s with heap := s1.heap, toks := s1.toks } ∧ (∀ b o, b ≠ it → s.heap.get? b = some o → s1.heap.get? b = some o) ∧ (∀ a, z' a ≠ none → z a ≠ none ∨ s.heap.get? a = none) := by
      intro ρ' o' z' s1 le S' hz'
      obtain ⟨e1, e2, e3⟩ := back_def (o := fun _ => 0) (ρ := []) (R := fun _ => none) hcg hcd hco zh le S'
      refine ⟨e1, fun b o hb e => e2 b o (fun h => hb (List.mem_singleton.mp h)) e, fun a ha => ?_⟩
      by_cases q : a = it
      · rw [q] at ha; exact absurd hz' ha
      · exact e3 a (fun h => q (List.mem_singleton.mp h)) ha
    have flyQ : ∀ ρ' (o' : Str → Addr) z' (s1 : Shared) h' e t, varL r = none → z.le z' → St c ρ' o' z' (restW z [it] s.heap) s1 → z' it = none → Itr z' it s1.heap none → Heap.FlyingW (hideAll s1.heap (framesOf (c.env :: outer))) outer e (.type "StopIteration") (.ref t) h' → s1.heap.UpToSlots h' → E (.ref e) { s1 with heap := h' } := by
      intro ρ' o' z' s1 h' e t hg le S' hz' hi' hF hU
      obtain ⟨e1, e2, e3⟩ := common ρ' o' z' s1 le S' hz'
      have e4 : ({ s1 with heap := h' } : Shared) = { s with heap := h', toks := s1.toks } := by rw [e1]
      rw [e4]
      rw [hfrs] at hF
      refine hfly z' L s1.heap e t h' _ hg le S'.zh e2 e3 hz' (by have := (S'.sep _ .loc).1; rw [hcl] at this; exact this) hLn (fun b hb => ?_) hi' hF hU
      obtain ⟨env, he, hf⟩ := List.mem_filterMap.mp hb
      obtain ⟨_, L', ob, q1, q2, _⟩ := hO env he
      rw [q1] at hf; cases hf
      cases q : z' b with
      | none => rfl
      | some x => have := S'.zr b (by rw [q]; exact fun h => nomatch h); rw [this] at q2; cases q2
    refine' pv_body ok ?k1 hfr' hf hO S hz hRit hpit hi1 hfit ?hr ?hm ?hh
    case k1 => rw [henv]; rfl
    case hr =>
      rintro v b' rest o' z' s' u hg le S' hz' hi' ⟨t, rfl⟩
      obtain ⟨e1, e2, e3⟩ := common _ o' z' s' le S' hz'
      show Q (.int v t) s'
      rw [e1]
      exact hret v rest z' _ _ t hg le S'.zh e2 e3 hz' hi'
    case hm =>
      intro ρ' o' z' s1 h' e hg le S' hz' hi' hm
      exact wpAny_leaves_madeW hfr' hf (fun b' o'' q => of_hideAll _ q) (funs_at ok.kf hf S' hO) (Heap.MadeExc.of hm) fun h2 t hF _ _ hU => flyQ ρ' o' z' s1 h2 e t hg le S' hz' hi' hF ((Heap.UpToSlots.of_keeps hm.keeps).trans hU)
    case hh =>
      intro ρ' o' z' s1 h' e t hg le S' hz' hi' hH hU
      exact leaves_held hf hH fun h2 hF hU2 => flyQ ρ' o' z' s1 h2 e t hg le S' hz' hi' hF (hU.trans hU2)
  exact this
end Mine
end
/-! L24 -/
section
open PySem PySem.W PyProof.Rows PySem.Spec PySem.Calls
set_option maxRecDepth 100000
set_option maxHeartbeats 1000000
set_option linter.unusedVariables false
namespace Mine
variable {c : Cx} {ρ ρ' : Frame}

/-- the context of law itself: nothing below its frame -/
structure TopCx (c : Cx) : Prop where
  ok : CxOk c
  base : BaseOk c.w c.h0
  fr : c.A.frames = some [c.env]
  own : c.env.frame = some c.env.locals

/-- an exception has come to law's frame -/
noncomputable def Flown (c : Cx) (ρ : Frame) (o : Str → Addr) (z' R : PM) (it e : Addr) (s' : Shared) : Prop :=
  ∃ B a0, Heap.FlyingW B [c.env] e (.type "StopIteration") a0 s'.heap ∧ ∀ h2 t, B.StaysIn h2 → s'.heap.UpToSlots h2 → St c ρ o z' R { s' with heap := h2, toks := t } ∧ Itr z' it h2 none

theorem pv_expr (T : TopCx c) (rm : Room c 1) {y : Str} {p1 p2 p3 : Pos} {it : Addr} {r : Option (List Int)} {o : Str → Addr} {z R : PM} {s : Shared} {Q E : Value → Shared → Prop}
    (S : St c ρ o z R s) (hz : z it = none) (hR : R it = none) (hp : ¬ Priv c ρ o it) (hi : Itr z it s.heap (r.map (List.map D.int))) (hfit : ∀ xs, r = some xs → fitVar xs = true) (hy : (y, Slot.val (.val (.ref it))) ∈ ρ)
    (hret : ∀ v rest z' s' u, varL r = some (v, rest) → z.le z' → St c ρ o z' R s' → z' it = none → Itr z' it s'.heap (some (rest.map D.int)) → Rep z' (.int v) u → Q u s')
    (hfly : ∀ z' s' e, varL r = none → z.le z' → z' it = none → Flown c ρ o z' R it e s' → E (.ref e) s')
    (hx : c.env.kindOf (Str.ofString "_parse_varint") = some .globalImplicit := by rfl) (hse : starEach [Expr.Name y p2] c.env = [(false, eval (.Name y p2) c.env)] := by rfl)
    (hcall : eval (.Call (.Name (Str.ofString "_parse_varint") p1) [.Name y p2] [] p3) c.env = (do callWith p3 (← eval (.Name (Str.ofString "_parse_varint") p1) c.env) [] (backTo p3 (starEach [Expr.Name y p2] c.env)) (backToKw p3 (keywordEach [] c.env))) := by rfl) :
    wpAny (model prog c.w) c.A (eval (.Call (.Name (Str.ofString "_parse_varint") p1) [.Name y p2] [] p3) c.env) Q E s := by
  have ok := T.ok
  obtain ⟨ob, hob⟩ := hi.obj
  obtain ⟨S1, back⟩ := at_heldG S hz hR hp hob
  refine Call_ ((E_glob1 ok hx (globs _).varint (by decide +kernel)).run o z _ s _ _ S1 fun f z1 s1 le1 S2 r1 => ?_) hcall
  rw [show f = .ref 45 from r1]
  refine (W_ref ok (globs _).varint.2).run s1 p3 _ [] _ _ (spliced_more ((E_name ok hy).run o z1 _ s1 _ _ S2 fun v z2 s2 le2 S3 r2 => spliced_none ⟨S3.keep, ?_⟩) hse) hse rfl
  rw [show v = .ref it from r2]
  obtain ⟨S4, hob2, hz2, hp2⟩ := back S3
  have le := le1.le.trans le2.le
  have hne : c.env.locals ≠ it := fun e => hp2 (e ▸ .loc)
  have hzL := (S4.sep _ .loc).1
  have hi2 := hi.mono le (hob2.trans hob.symm)
  have hO : OutR (restW z2 [it] s2.heap) [c.env] := by
    intro env he
    rw [List.mem_singleton.mp he]
    obtain ⟨m, ⟨oL, es, ep, h1, h2, _⟩, _⟩ := S4.slots
    exact ⟨by rw [ok.kf]; decide, _, oL, T.own, by unfold restW; rw [if_pos ⟨hzL, by simpa using hne⟩]; exact h1, fun vs q => by rw [h2] at q; cases q⟩
  have hfs : framesOf [c.env] = [c.env.locals] := by unfold framesOf; rw [List.filterMap_cons, T.own]; rfl
  have hwr : ∀ b ∈ [it], z2 b = none ∧ R b = none ∧ ¬ Priv c ρ o b := fun b hb => by rw [List.mem_singleton.mp hb]; exact ⟨hz2, hR, hp2⟩
  refine pv_enter T.base T.fr hO ok.hnd rm.dp rm.un S4.zh S4.bz hz2 hi2 hfit (fun v rest z' h' tk t hg le' zh' hk hnew hz' hi' => ?_) fun z' L h1 e t h' tk hg le' zh' hk hnew hz' hzL' hLn hfr' hi' hF hU => ?_
  · exact hret v rest z' _ _ hg (le.trans le') (S4.after (t := tk) le' zh' hnew hwr (fun b ob' hb _ e => hk b ob' (fun q => hb (by rw [q]; exact List.mem_singleton_self _)) e) fun m hn => hn.at' fun ob' e => hk _ _ hne e) hz' hi' ⟨t, rfl⟩
  · rw [hfs] at hF hfr'
    have inB : ∀ b ob', h1.get? b = some ob' → b ≠ L → b ≠ c.env.locals → (hideAll h1 (L :: [c.env.locals])).get? b = some ob' := fun b ob' e n1 n2 => hideAll_get _ e fun hm => by
      rcases List.mem_cons.mp hm with q | hm
      · exact n1 q
      · exact n2 (List.mem_singleton.mp hm)
    refine hfly z' _ e hg (le.trans le') hz' ⟨_, _, hF, fun h2 t2 hst hup => ?_⟩
    have hL1 : h1.UpToSlots h2 := hU.trans hup
    refine ⟨S4.after (t := t2) le' (fun a b e => hst a b (inB a b (zh' a b e) (fun q => by rw [q, hzL'] at e; cases e) (fun q => by rw [q, hfr' _ (List.mem_singleton_self _)] at e; cases e))) hnew hwr (fun b ob' hb hbl e => ?_) fun m hn => ?_, ?_⟩
    · have hbi : b ≠ it := fun q => hb (by rw [q]; exact List.mem_singleton_self _)
      exact hst b ob' (inB b ob' (hk b ob' hbi e) (fun q => by rw [q] at e; rw [hLn] at e; cases e) hbl)
    · exact hL1.ns (hn.at' fun ob' e => hk _ _ hne e)
    · obtain ⟨i, q⟩ := hi'
      refine ⟨i, hst it _ (inB it _ q (fun q' => ?_) (Ne.symm hne))⟩
      rw [q'] at hob2; rw [hLn] at hob2; cases hob2
end Mine
end
/-! L25 -/
section
open PySem PySem.W PyProof.Rows PySem.Spec PySem.Calls
set_option maxRecDepth 100000
set_option maxHeartbeats 1000000
set_option linter.unusedVariables false
namespace Mine
variable {c : Cx} {ρ ρ' : Frame}

theorem stop_isExc : isSubtype (.type "StopIteration") (.type "BaseException") = pure true := by rw [isSubtype_type]; kernel_rfl
theorem stop_notTuple : isSubtype (.type ((Manifest.find? "StopIteration").elim "type" fun x => x.metatype)) (.type "tuple") = pure false := by rw [isSubtype_type]; kernel_rfl
theorem stop_self : isSubtype (.type "StopIteration") (.type "StopIteration") = pure true := by rw [isSubtype_type]; kernel_rfl
theorem b_stop : bootBuiltins (Str.ofString "StopIteration") = some (.type "StopIteration") := by decide +kernel

/-- statements beside the iterator, that may read on in it -/
structure SgOk (c : Cx) (it : Addr) (ρ : Frame) (r : Option (List Int)) (ss : List Stmt) (P : Fl → Frame → Prop) : Prop where
  run : ∀ o z R s (Q : Flow → Shared → Prop) (E : Value → Shared → Prop), St c ρ o z R s → z it = none → R it = none → ¬ Priv c ρ o it → Itr z it s.heap (r.map (List.map D.int)) →
    (∀ fl ρ' o' z' s' f, z.le z' → St c ρ' o' z' R s' → FlRep z' fl f → P fl ρ' → Q f s') → wpAny (model prog c.w) c.A (execs ss c.env) Q E s
theorem Sg_drop {it : Addr} {r : Option (List Int)} {ss : List Stmt} {P : Fl → Frame → Prop} (h : XsOk c ρ ss P) : SgOk c it ρ r ss P := .mk fun o z R s Q E S _ _ _ _ K => h.run o z R s Q E S K

/-- x = _parse_varint(reader) -/
theorem Sg_call (T : TopCx c) (rm : Room c 1) {x y : Str} {p p1 p2 p3 pos : Pos} {it : Addr} {r : Option (List Int)} {v : Int} {rest : List Int} {ss : List Stmt} {P : Fl → Frame → Prop} (hy : (y, Slot.val (.val (.ref it))) ∈ ρ) (hu : Put x (.val (.int v)) ρ ρ')
    (hfit : ∀ xs, r = some xs → fitVar xs = true) (hv : varL r = some (v, rest)) (h : SgOk c it ρ' (some rest) ss P)
    (hx : c.env.kindOf (Str.ofString "_parse_varint") = some .globalImplicit := by rfl) (hse : starEach [Expr.Name y p2] c.env = [(false, eval (.Name y p2) c.env)] := by rfl)
    (hcall : eval (.Call (.Name (Str.ofString "_parse_varint") p1) [.Name y p2] [] p3) c.env = (do callWith p3 (← eval (.Name (Str.ofString "_parse_varint") p1) c.env) [] (backTo p3 (starEach [Expr.Name y p2] c.env)) (backToKw p3 (keywordEach [] c.env))) := by rfl)
    (hs : swapsWith (.Call (.Name (Str.ofString "_parse_varint") p1) [.Name y p2] [] p3) (some (.Name x p)) pos.line c.env = pure false := by rfl) :
    SgOk c it ρ r (.Assign [.Name x p] (.Call (.Name (Str.ofString "_parse_varint") p1) [.Name y p2] [] p3) pos :: ss) P := by
  constructor
  intro o z R s Q E S hz hR hp hi K
  rw [execs_cons]
  refine wpAny_bind (wpAny_Assign_Name (pv_expr T rm S hz hR hp hi hfit hy (fun v' rest' z1 s1 u hg le1 S1 hz1 hi1 hu1 => ?_) (fun z1 s1 e hg => by rw [hv] at hg; cases hg) hx hse hcall) hs)
  rw [hv] at hg; cases hg
  obtain ⟨ob, hob⟩ := hi1.obj
  obtain ⟨S2, back⟩ := at_heldG S1 hz1 hR hp hob
  refine store_val T.ok S2 hu hu1 fun s3 S3 _ => ?_
  obtain ⟨S4, hob4, hz4, hp4⟩ := back S3
  exact h.run o z1 R s3 Q E S4 hz4 hR hp4 (hi1.mono (PM.le.refl _) (hob4.trans hob.symm)) fun fl ρ' o' z' s' f le => K fl ρ' o' z' s' f (le1.trans le)
/-- if _parse_varint(reader) != k: return False -/
theorem Sg_ifne (T : TopCx c) (rm : Room c 1) {y : Str} {kk : Nat} {p1 p2 p3 p4 p5 pos : Pos} {it : Addr} {r : Option (List Int)} {v : Int} {rest : List Int} {body ss : List Stmt} {P : Fl → Frame → Prop} (hy : (y, Slot.val (.val (.ref it))) ∈ ρ)
    (hfit : ∀ xs, r = some xs → fitVar xs = true) (hv : varL r = some (v, rest)) (h : SgOk c it ρ (some rest) ss P)
    (hx : c.env.kindOf (Str.ofString "_parse_varint") = some .globalImplicit := by rfl) (hse : starEach [Expr.Name y p2] c.env = [(false, eval (.Name y p2) c.env)] := by rfl)
    (hcall : eval (.Call (.Name (Str.ofString "_parse_varint") p1) [.Name y p2] [] p3) c.env = (do callWith p3 (← eval (.Name (Str.ofString "_parse_varint") p1) c.env) [] (backTo p3 (starEach [Expr.Name y p2] c.env)) (backToKw p3 (keywordEach [] c.env))) := by rfl) :
    SgOk c it ρ r (.If (.Compare (.Call (.Name (Str.ofString "_parse_varint") p1) [.Name y p2] [] p3) [.NotEq] [.Constant (.int v) kk p4] p5) body [] pos :: ss) P := by
  constructor
  intro o z R s Q E S hz hR hp hi K
  rw [execs_cons]
  refine wpAny_bind (wpAny_If (wpAny_isTrue_Compare1 (pv_expr T rm S hz hR hp hi hfit hy (fun v' rest' z1 s1 u hg le1 S1 hz1 hi1 hu1 => ?_) (fun z1 s1 e hg => by rw [hv] at hg; cases hg) hx hse hcall) (by rfl)))
  rw [hv] at hg; cases hg
  obtain ⟨ob, hob⟩ := hi1.obj
  obtain ⟨S2, back⟩ := at_heldG S1 hz1 hR hp hob
  refine (E_int (c := c) (ρ := ρ)).run o z1 _ s1 _ _ S2 fun u2 z2 s2 le2 S3 r2 => ?_
  refine (C_ne (c := c)).run ρ o z2 _ s2 u u2 _ _ S3 (Rep.mono le2.le _ hu1) r2 fun s3 le3 S4 => wpAny_truthy_bool ?_
  rw [show (v != v) = false from by simp, if_neg (by decide)]
  obtain ⟨S5, hob5, hz5, hp5⟩ := back S4
  refine wpAny_execs_nil ?_
  exact h.run o z2 R s3 Q E S5 hz5 hR hp5 (hi1.mono le2.le (hob5.trans hob.symm)) fun fl ρ' o' z' s' f le => K fl ρ' o' z' s' f (le1.trans (le2.le.trans le))

/-- the try that meets the end -/
theorem try_stop (T : TopCx c) (rm : Room c 1) {y : Str} {p1 p2 p3 p4 p5 p6 p7 p8 : Pos} {it : Addr} {r : Option (List Int)} {b1 : List Stmt} {o : Str → Addr} {z R : PM} {s : Shared} {Q : Flow → Shared → Prop} {E : Value → Shared → Prop}
    (S : St c ρ o z R s) (hz : z it = none) (hR : R it = none) (hp : ¬ Priv c ρ o it) (hi : Itr z it s.heap (r.map (List.map D.int))) (hfit : ∀ xs, r = some xs → fitVar xs = true) (hy : (y, Slot.val (.val (.ref it))) ∈ ρ) (hv : varL r = none)
    (K : ∀ z' s', z.le z' → St c ρ o z' R s' → z' it = none → Itr z' it s'.heap none → Q .next s')
    (hx : c.env.kindOf (Str.ofString "_parse_varint") = some .globalImplicit := by rfl) (hx2 : c.env.kindOf (Str.ofString "StopIteration") = some .globalImplicit := by rfl) (hse : starEach [Expr.Name y p2] c.env = [(false, eval (.Name y p2) c.env)] := by rfl)
    (hcall : eval (.Call (.Name (Str.ofString "_parse_varint") p1) [.Name y p2] [] p3) c.env = (do callWith p3 (← eval (.Name (Str.ofString "_parse_varint") p1) c.env) [] (backTo p3 (starEach [Expr.Name y p2] c.env)) (backToKw p3 (keywordEach [] c.env))) := by rfl)
    (hin : interactive c.env = false := by rfl) (hs : swapsWith (.Call (.Name (Str.ofString "_parse_varint") p1) [.Name y p2] [] p3) none p4.line c.env = pure false := by rfl) :
    wpAny (model prog c.w) c.A (exec (.Try (.Expr (.Call (.Name (Str.ofString "_parse_varint") p1) [.Name y p2] [] p3) p4 :: b1) [.ExceptHandler (some (.Name (Str.ofString "StopIteration") p5)) none [.Pass p6] p7] [] [] p8) c.env) Q E s := by
  refine wpAny_Try_except ?_
  rw [execs_cons]
  refine wpAny_bind (wpAny_Expr (pv_expr T rm S hz hR hp hi hfit hy (fun v' rest' z1 s1 u hg => by rw [hv] at hg; cases hg) (fun z1 s1 e hg le1 hz1 hF => ?_) hx hse hcall) hin hs)
  obtain ⟨B, a0, hF, clo⟩ := hF
  refine wpAny_looks_onW T.fr T.own hF fun h2 hH2 hU2 => ?_
  refine wpAny_landsW hH2 fun h3 hF3 hU3 => ?_
  obtain ⟨ob, hob, hobc⟩ := hF3.there
  refine wpAny_handleBy_builtin (X := "StopIteration") (T := "StopIteration") (b := true) stop_isExc stop_notTuple stop_self ?_
  have S3 := (clo h3 s1.toks hF3.1 (hU2.trans hU3)).1
  obtain ⟨p, loose, mean, mg, mb, TT⟩ := T.ok.T
  refine Name_function_global T.ok.kf hx2 (loadGlobal_builtin (mg := mg) (mb := mb) ?_ (mg_none_of T.ok.K TT.g (globs c.w).stop) ?_ ((TT.builtins _ (by decide +kernel)).trans b_stop) ⟨rfl, ⟨ob, hob, hobc⟩, ?_⟩) (by decide +kernel)
  · rw [T.ok.gl]; exact TT.g.keeps S3.keep
  · rw [T.ok.bl]; exact TT.b.keeps S3.keep
  rw [if_pos rfl]
  refine lands_againW hF3 fun h4 hF4 hU4 => ?_
  rw [execs_cons]
  refine wpAny_bind (wpAny_Pass (wpAny_execs_nil ?_))
  obtain ⟨S4, hi4⟩ := clo h4 s1.toks hF4.1 ((hU2.trans hU3).trans hU4)
  exact K z1 _ le1 S4 hz1 hi4
end Mine
end
/-! L26 -/
section
open PySem PySem.W PyProof.Rows PySem.Spec PySem.Calls
set_option maxRecDepth 100000
set_option maxHeartbeats 1000000
set_option linter.unusedVariables false
namespace Mine
variable {c : Cx} {ρ ρ' : Frame}

theorem Sg_for (T : TopCx c) (rm : Room c 1) {target iter : Expr} {y : Str} {p1 p2 p3 p4 p5 p6 p7 p8 pos : Pos} {it : Addr} {r : Option (List Int)} {b1 ss : List Stmt} {ds : List D} {P : Fl → Frame → Prop} (hi : ItOk c ρ iter ds) (I : Frame → Prop) (h0 : I ρ) (hy : ∀ ρ₁, I ρ₁ → (y, Slot.val (.val (.ref it))) ∈ ρ₁)
    (hG : ∀ (i : Nat) (d : D) (ρ₁ : Frame), ds[i]? = some d → I ρ₁ → ∃ ρ₂, GOk c ρ₁ target d ρ₂ ∧ I ρ₂) (hfit : ∀ xs, r = some xs → fitVar xs = true) (hv : varL r = none) (done : ∀ ρ₁, I ρ₁ → XsOk c ρ₁ ss P)
    (hset : ∀ x, foldedSetIterable iter c.env x = pure x := by intro _; rfl)
    (hx : c.env.kindOf (Str.ofString "_parse_varint") = some .globalImplicit := by rfl) (hx2 : c.env.kindOf (Str.ofString "StopIteration") = some .globalImplicit := by rfl) (hse : starEach [Expr.Name y p2] c.env = [(false, eval (.Name y p2) c.env)] := by rfl)
    (hcall : eval (.Call (.Name (Str.ofString "_parse_varint") p1) [.Name y p2] [] p3) c.env = (do callWith p3 (← eval (.Name (Str.ofString "_parse_varint") p1) c.env) [] (backTo p3 (starEach [Expr.Name y p2] c.env)) (backToKw p3 (keywordEach [] c.env))) := by rfl)
    (hin : interactive c.env = false := by rfl) (hs : swapsWith (.Call (.Name (Str.ofString "_parse_varint") p1) [.Name y p2] [] p3) none p4.line c.env = pure false := by rfl) :
    SgOk c it ρ r (.For target iter [.Try (.Expr (.Call (.Name (Str.ofString "_parse_varint") p1) [.Name y p2] [] p3) p4 :: b1) [.ExceptHandler (some (.Name (Str.ofString "StopIteration") p5)) none [.Pass p6] p7] [] [] p8] [] pos :: ss) P := by
  constructor
  intro o z R s Q E S hz hR hp hit K
  obtain ⟨ob, hob⟩ := hit.obj
  obtain ⟨S0, back⟩ := at_heldG S hz hR hp hob
  rw [execs_cons]
  refine wpAny_bind (wpAny_For (hi.run o z _ s _ _ S0 fun J fp wr Pv Wst z1 s1 le1 S1' W hrep hst hw' hlive hfp hgo _ => ?_) hset)
  obtain ⟨S1, hob1, hz1, hp1⟩ := back S1'
  have hitw : it ∉ wr := fun hm => by
    have := (hw' it hm).2.1
    unfold hold at this
    rw [if_pos (List.mem_singleton_self _), hob] at this; cases this
  have hw : ∀ b ∈ wr, z1 b = none ∧ R b = none ∧ ¬ Priv c ρ o b := fun b hb => by
    obtain ⟨a1, a2, a3⟩ := hw' b hb
    unfold hold at a2
    rw [if_neg (fun hm => hitw (by rw [← List.mem_singleton.mp hm]; exact hb))] at a2
    exact ⟨a1, a2, a3⟩
  have hi1 := hit.mono le1.le (hob1.trans hob.symm)
  refine codeAny_forLoop_any (fun n s' => ∃ i ρi oi zi ri, n = ds.length + 1 - i ∧ i ≤ ds.length ∧ z1.le zi ∧ St c ρi oi zi R s' ∧ Wst i s'.heap ∧ I ρi ∧ (∀ b ∈ wr, zi b = none ∧ R b = none ∧ ¬ Priv c ρi oi b) ∧ (∀ xs : List Int, ri = some xs → fitVar xs = true) ∧ varL ri = none ∧ zi it = none ∧ ¬ Priv c ρi oi it ∧ Itr zi it s'.heap (ri.map (List.map D.int))) ?_ (ds.length + 1)
    ⟨0, ρ, o, z1, r, rfl, Nat.zero_le _, PM.le.refl _, S1, hst, h0, hw, hfit, hv, hz1, hp1, hi1⟩
  rintro n s' ⟨i, ρi, oi, zi, ri, rfl, hi', lei, Si, hsti, hI, hwi, hfi, hvi, hzi, hpi, hii⟩
  by_cases hlt : i < ds.length
  · refine W.item i s' _ _ hlt hsti fun v h₁ tk₁ hPv hst₁ hk₁ => ?_
    have S2 := Si.other (t := tk₁) hwi hk₁
    obtain ⟨obi, hobi⟩ := hii.obj
    have hobi2 := hk₁ _ _ hitw hobi
    have hi2 : Itr zi it h₁ (ri.map (List.map D.int)) := hii.mono (PM.le.refl _) (hobi2.trans hobi.symm)
    refine hgo _ _ _ _ _ _ hst₁ ?_
    have S3 := S2.holding (wr := wr) hwi
    have hR3 : hold R wr h₁ it = none := by unfold hold; rw [if_neg hitw]; exact hR
    have hd : ds[i]? = some ds[i] := List.getElem?_eq_getElem hlt
    obtain ⟨ρ₂, hGG, hI2⟩ := hG i ds[i] ρi hd hI
    obtain ⟨S4, back4⟩ := at_heldG S3 hzi hR3 hpi hobi2
    refine hGG.run oi zi _ _ v _ _ S4 (Rep.mono lei _ (hrep i _ v hd hPv)) fun s5 S5 => ?_
    obtain ⟨S6, hob6, hz6, hp6⟩ := back4 S5
    have hi6 : Itr zi it s5.heap (ri.map (List.map D.int)) := hi2.mono (PM.le.refl _) (hob6.trans hobi2.symm)
    rw [execs_cons]
    refine wpAny_bind (try_stop T rm S6 hz6 hR3 hp6 hi6 hfi (hy _ hI2) hvi (fun z7 s7 le7 S7 hz7 hi7 => ?_) hx hx2 hse hcall hin hs)
    refine wpAny_execs_nil ?_
    obtain ⟨S8, hsame, hw8⟩ := S7.unhold (fun b hb => (hwi b hb).2.1) (hlive _ _ hst₁)
    have hst8 : Wst (i + 1) s7.heap := W.frame _ _ _ hst₁ fun b hb ob' e => by
      rcases hfp b hb with hb | hz
      · rw [hsame b hb]; exact e
      · obtain ⟨oz, ez⟩ := hz
        have e1 := S2.zh b oz (lei _ _ ez)
        rw [show h₁.get? b = some oz from e1] at e; cases e
        exact S8.zh b _ (le7 _ _ (lei _ _ ez))
    exact ⟨ds.length + 1 - (i + 1), by omega, i + 1, ρ₂, oi, z7, none, rfl, hlt, lei.trans le7, S8, hst8, hI2, hw8, (fun xs h => by cases h), rfl, hz7, hp6, hi7⟩
  · have hin' : i = ds.length := by omega
    subst hin'
    refine W.done _ _ _ hsti fun h₁ tk₁ hk₁ => wpAny_execs_nil ?_
    exact (done _ hI).run oi zi R _ Q E (Si.other hwi hk₁) fun fl ρ' o' z' s' f le => K fl ρ' o' z' s' f (le1.le.trans (lei.trans le))

theorem b_iter : bootBuiltins (Str.ofString "iter") = some (.builtin "iter") := by decide +kernel
/-- reader = iter(..) -/
theorem X_iter (ok : CxOk c) {x : Str} {p p1 p3 pos : Pos} {e : Expr} {xs : List Int} {ss : List Stmt} {P : Fl → Frame → Prop} {ρf : Addr → Frame} (h : EOk c ρ e (.list (xs.map D.int))) (hu : ∀ it, Put x (.val (.val (.ref it))) ρ (ρf it)) (hn : ∀ it, SgOk c it (ρf it) (some xs) ss P)
    (hx : c.env.kindOf (Str.ofString "iter") = some .globalImplicit := by rfl) (hse : starEach [e] c.env = [(false, eval e c.env)] := by rfl)
    (hcall : eval (.Call (.Name (Str.ofString "iter") p1) [e] [] p3) c.env = (do callWith p3 (← eval (.Name (Str.ofString "iter") p1) c.env) [] (backTo p3 (starEach [e] c.env)) (backToKw p3 (keywordEach [] c.env))) := by rfl)
    (hs : swapsWith (.Call (.Name (Str.ofString "iter") p1) [e] [] p3) (some (.Name x p)) pos.line c.env = pure false := by rfl) :
    XsOk c ρ (.Assign [.Name x p] (.Call (.Name (Str.ofString "iter") p1) [e] [] p3) pos :: ss) P := by
  constructor
  intro o z R s Q E S K
  rw [execs_cons]
  refine wpAny_bind (wpAny_Assign_Name (Call_ ((E_blt ok hx (globs _).iter b_iter (by decide +kernel) (by decide +kernel)).run o z _ s _ _ S fun f z1 s1 le1 S1 r1 => ?_) hcall) hs)
  rw [show f = .builtin "iter" from r1]
  refine PyProof.Rows.callWith_builtin1 (spliced_more (h.run o z1 _ s1 _ _ S1 fun v z2 s2 le2 S2 r2 => spliced_none ?_) hse) hse rfl
  obtain ⟨a, vs, n, rfl, ha, hr⟩ := r2
  have hl : s2.heap.IsList a vs.toArray := ⟨_, S2.zh _ _ ha, rfl, n, rfl⟩
  have hnew := get_size_none s2.heap
  refine call_function_entry (by decide +kernel) (by decide +kernel) kdk_entry_iter (kdk_args_iter _) ?_
  unfold Builtin.«iter»
  refine wpAny_bind (m := someArgs "iter" 1 2 _) (wpAny_of_eq (a := [Value.ref a]) (by first | rfl | kernel_rfl!) ?_)
  refine wpAny_bind (wpAny_pyIter_list hl (wpAny_pure ⟨_, rfl, ?_⟩))
  have S3 : St c ρ o z2 R { s2 with heap := s2.heap.push (ItO (.ref a) 0) } := S2.temp (t := s2.toks) (push_keeps _ _)
  have hz3 := S2.znew hnew
  have hR3 := S2.rnew hnew
  have hp3 := priv_new S2 hnew
  have hob3 : (s2.heap.push (ItO (.ref a) 0)).get? s2.heap.objs.size = some (ItO (.ref a) 0) := Heap.get?_push_size _ rfl
  obtain ⟨S4, back⟩ := at_heldG S3 hz3 hR3 hp3 hob3
  refine store_val ok S4 (hu _) (show Rep z2 (.val (.ref s2.heap.objs.size)) _ from rfl) fun s5 S5 _ => ?_
  obtain ⟨S6, hob6, hz6, hp6⟩ := back S5
  exact (hn _).run o z2 R s5 Q E S6 hz6 hR3 hp6 ⟨a, vs, n, 0, hob6, ha, by rw [List.drop_zero]; exact hr⟩ fun fl ρ' o' z' s' f le => K fl ρ' o' z' s' f ((le1.trans le2).le.trans le)
end Mine
end
/-! B21 -/
section
open PySem PySem.W PyProof.Rows PySem.Spec PySem.Calls
set_option maxRecDepth 100000
set_option maxHeartbeats 1000000
set_option linter.unusedVariables false
namespace Mine
variable {c : Cx} {ρ ρ' : Frame}

/-! a comprehension with a cell of its own -/
noncomputable def kidE (c : Cx) (scope : Scope) (cl : List (Str × Addr)) (C : Addr) : Cx := { c with env := compEnvC scope cl C c.env }
theorem kidE_is (ok : CxOk c) {scope : Scope} (hk : scope.kind = .function) (cl : List (Str × Addr)) (C : Addr) : IsKid c scope (kidE c scope cl C) where
  ok := ⟨ok.hnd, ok.un, hk, ok.gl, ok.bl, ok.K, ok.T⟩
  w := rfl
  h0 := rfl
  A := rfl
  kind := fun x k h hne => by
    show (relabel scope c.env).names.lookup x = some k
    have := relabel_lookup (env := c.env) h
    have hb : (k == NameKind.free) = false := by simpa using hne
    rw [hb, Bool.false_and, Bool.false_and, if_neg (by decide)] at this
    exact this
  sck := hk
theorem kidA_st (ok : CxOk c) {scope : Scope} {x : Str} {C K : Addr} (hsk : scope.kind = .function) (hx : scope.names.lookup x = some .cell) (hxd : (x == ("__debug__" : Str)) = false) {o : Str → Addr} {z R : PM} {s : Shared} (S : St c ρ o z R s) {m : Str → Option Value} {v : Option Value} (hn : s.heap.Ns C m) (hc : s.heap.IsCell K v) (hKC : K ≠ C) (hz : z C = none) (hzK : z K = none) :
    St (kidE c scope [(x, K)] C) [(x, .no)] o z (restW z [C, K] s.heap) s where
  zh := S.zh
  rh := fun a b e => by unfold restW at e; split at e; exact e; cases e
  bz := S.bz
  zr := fun a h => by unfold restW; rw [if_neg (fun q => h q.1)]
  gs := S.gs
  ds := S.ds
  oss := S.oss
  nodup := by simp
  named := fun p hp => by
    rw [List.mem_singleton.mp hp]
    exact ⟨.inr ⟨(kidE_is ok hsk [(x, K)] C).kind _ _ hx (by decide), K, by show List.lookup x [(x, K)] = some K; simp⟩, hxd⟩
  sep := fun a hp => by
    cases hp with
    | loc => exact ⟨hz, by unfold restW; rw [if_neg (fun q => q.2 List.mem_cons_self)]⟩
    | cell hm =>
      have hm' := List.mem_singleton.mp hm
      cases hm'
      exact ⟨hzK, by unfold restW; rw [if_neg (fun q => q.2 (by simp))]⟩
    | own hm => have := List.mem_singleton.mp hm; cases this
  cellL := fun p hp => by
    rw [List.mem_singleton.mp hp]; exact ⟨hKC, _, hc⟩
  cellD := List.pairwise_singleton _ _
  ownL := fun y dy h => by have := List.mem_singleton.mp h; cases this
  ownD := fun y y' dy dy' h => by have := List.mem_singleton.mp h; cases this
  slots := ⟨m, hn, fun p hp => by rw [List.mem_singleton.mp hp]; trivial⟩

theorem St.eta {c' : Cx} {o o' : Str → Addr} {z R z' R' : PM} {s s' : Shared} (S : St c ρ o z R s) (S' : St c' ρ' o' z' R' s') (h1 : c'.g = c.g) (h2 : c'.dr = c.dr) (h3 : c'.os = c.os) : s' = { s with heap := s'.heap, toks := s'.toks } := by
  obtain ⟨a1, a2, a3, a4, a5⟩ := s'
  have b1 := S'.gs; have b2 := S'.ds; have b3 := S'.oss
  dsimp only at b1 b2 b3
  rw [b1, b2, b3, h1, h2, h3, S.gs, S.ds, S.oss]
/-- back from a kid's frame -/
theorem kidA_back {c' : Cx} {ρd : Frame} {o o' : Str → Addr} {z z' R : PM} {s s' : Shared} {wr : List Addr} (S : St c ρ o z R s) (h1 : c'.g = c.g) (h2 : c'.dr = c.dr) (h3 : c'.os = c.os) (le : z.le z') (S' : St c' ρd o' z' (restW z wr s.heap) s')
    (hw : ∀ b ∈ wr, z b = none ∧ R b = none ∧ ¬ Priv c ρ o b) (hz' : ∀ b ∈ wr, z' b = none) :
    St c ρ o z' R s' ∧ (∀ b ob, b ∉ wr → s.heap.get? b = some ob → s'.heap.get? b = some ob) ∧ (∀ a, z' a ≠ none → z a ≠ none ∨ s.heap.get? a = none) := by
  have hk : ∀ b ob, b ∉ wr → s.heap.get? b = some ob → s'.heap.get? b = some ob := fun b ob hb e => by
    cases hz : z b with
    | none => exact S'.rh b ob (by unfold restW; rw [if_pos ⟨hz, hb⟩]; exact e)
    | some q => have := S.zh _ _ hz; rw [e] at this; cases this; exact S'.zh _ _ (le _ _ hz)
  have hnew : ∀ a, z' a ≠ none → z a ≠ none ∨ s.heap.get? a = none := fun a h => by
    by_cases ha : a ∈ wr
    · exact absurd (hz' a ha) h
    have hR := S'.zr a h
    by_cases hz : z a = none
    · right; unfold restW at hR; rwa [if_pos ⟨hz, ha⟩] at hR
    · exact .inl hz
  have hl : c.env.locals ∉ wr := fun hm => (hw _ hm).2.2 .loc
  refine ⟨?_, hk, hnew⟩
  have := S.after (t := s'.toks) le S'.zh hnew hw (fun b ob hb _ e => hk b ob hb e) fun m hn => hn.at' fun ob e => hk _ _ hl e
  rw [St.eta S S' h1 h2 h3]; exact this

theorem newEnv_own {M : Model} {A : Around} {E : Value → Shared → Prop} {s : Shared} {scope : Scope} {globals : Addr} {qual : Str} {env : Env} {x : Str} {Q : Env → Shared → Prop}
    (hcf : ∀ n, cellsFrom n scope.names [] = [(x, n)]) (hpc : ∀ h, pushCells h scope.names = h.push { cls := .type "cell", data := .cell none })
    (hQ : ∀ h', (∀ b o, s.heap.get? b = some o → h'.get? b = some o) → h'.Ns s.heap.objs.size (fun _ => none) → h'.IsCell (s.heap.objs.size + 1) none →
      Q { scope, locals := s.heap.objs.size, globals, cells := [(x, s.heap.objs.size + 1)], qual, func := none, code := env.code, frame := env.frame, builtins := env.builtins } { s with heap := h' }) :
    wpAny M A (newFunctionEnv scope globals [] [] qual none .none (some env)) Q E s := by
  simp only [newFunctionEnv, Option.isSome_some, if_true]
  refine wpAny_bind (wpAny_alloc ?_)
  refine wpAny_bind (wpAny_layCells _ (fun name kind cells => by cases hkc : kind == NameKind.cell <;> simp [hkc]) _ _ _ _ ?_)
  rw [hpc, hcf]
  rw [show ({ s with heap := s.heap.push { cls := .type "dict", data := .dict #[] } } : Shared).heap.objs.size = s.heap.objs.size + 1 from Heap.size_push ..]
  rw [List.forIn_nil]
  refine wpAny_bind (wpAny_pure (wpAny_pure (hQ _ (fun b o e => Heap.get?_push_of_some _ (Heap.get?_push_of_some _ e)) ((Heap.Ns.new s.heap (.type "dict")).keeps (push_keeps _ _)) ?_)))
  have := Heap.get?_push_size (s.heap.push { cls := .type "dict", data := .dict #[] }) (o := { cls := .type "cell", data := .cell none }) rfl
  rw [Heap.size_push] at this
  exact ⟨_, this, rfl⟩

theorem N_compA (ok : CxOk c) {elt target iter : Expr} {scope : Scope} {pos : Pos} {x : Str} {ds : List D} (f : D → D) (hsk : scope.kind = .function) (hx : scope.names.lookup x = some .cell) (hxd : (x == ("__debug__" : Str)) = false) (hnofree : ∀ p ∈ scope.names, p.2 ≠ .free) (hnames : ∀ x ∈ scope.names, x.2 = .local → scope.names.lookup x.1 = some .local)
    (hcf : ∀ n, cellsFrom n scope.names [] = [(x, n)]) (hpc : ∀ h, pushCells h scope.names = h.push { cls := .type "cell", data := .cell none })
    (hi : ItOk c ρ iter ds) (hsz : ds.length ≤ sizeLine)
    (hel : ∀ cl C, cl = cl → IsKid c scope (kidE c scope cl C) → ∀ (i : Nat) (d : D), ds[i]? = some d → (∃ K, cl = [(x, K)]) → ∃ ρd, GOk (kidE c scope cl C) [(x, .no)] target d ρd ∧ EOk (kidE c scope cl C) ρd elt (f d))
    (hset : ∀ x, foldedSetIterable iter c.env x = pure x := by intro _; rfl) : NOk c ρ (.ListComp elt [⟨target, iter, [], 0⟩] scope pos) (ds.map f) := by
  constructor
  intro o z R s Q E S K
  rw [eval_ListComp]
  have hclo : closureFor scope c.env = pure [] := by
    rw [closure_eq (fun p hp hf => absurd hf (hnofree p hp))]
    congr 1
    have : ∀ (names : List (Str × NameKind)) (acc : List (Str × Addr)), (∀ p ∈ names, p.2 ≠ .free) → clOf c.env names acc = acc := by
      intro names
      induction names with
      | nil => intro acc _; rfl
      | cons p r ih =>
        intro acc h
        obtain ⟨n, k⟩ := p
        unfold clOf
        have hk : (k == NameKind.free) = false := by simpa using h (n, k) List.mem_cons_self
        rw [hk, if_neg (by decide)]
        exact ih acc fun p hp => h p (List.mem_cons_of_mem _ hp)
    exact this _ _ hnofree
  refine wpAny_comprehension_free (cl := []) (g := ⟨target, iter, [], 0⟩) (gs := []) rfl hset hclo hsk hnames ?_
  refine hi.run o z R s _ _ S fun J fp wr Pv Wst z1 s1 le1 S1 W hrep hst hw hlive hfp hgo hfw => ?_
  refine wpAny_newObj_type ?_ (by show ([] : List Value).toArray.size ≤ sizeLine; simp)
  have hDn := get_size_none s1.heap
  have hwlt : ∀ b ∈ wr, b < s1.heap.objs.size := fun b hb => by obtain ⟨ob, e⟩ := hlive 0 _ hst b hb; exact Heap.lt_size e
  have hfplt : ∀ b ∈ fp, b < s1.heap.objs.size := fun b hb => (hfp b hb).elim (hwlt b) fun ⟨ob, e⟩ => Heap.lt_size (S1.zh _ _ e)
  generalize hH2 : s1.heap.push { cls := .type "list", dict := none, data := .seq ([] : List Value).toArray } = H2
  have hDsz : H2.objs.size = s1.heap.objs.size + 1 := by rw [← hH2, Heap.size_push]
  have hk2 : ∀ b o', s1.heap.get? b = some o' → H2.get? b = some o' := by rw [← hH2]; exact push_keeps _ _
  have hD2 : H2.get? s1.heap.objs.size = some (LO [] 0) := by rw [← hH2]; exact Heap.get?_push_size _ rfl
  generalize hDd : s1.heap.objs.size = Da at hDn hD2 hDsz hwlt hfplt
  have S2 : St c ρ o z1 R { s1 with heap := H2 } := S1.temp (t := s1.toks) hk2
  refine newEnv_own (x := x) hcf hpc fun h₁ hk3 hns₁ hcell₁ => ?_
  dsimp only at hk3 hns₁ hcell₁ ⊢
  have hCn := get_size_none H2
  have hKn : H2.get? (H2.objs.size + 1) = none := Heap.get?_none_of_le (Nat.le_succ _)
  generalize hCc : H2.objs.size = Ca at hns₁ hcell₁ hCn hDsz hKn
  have hKC : (Ca + 1 : Nat) ≠ Ca := Nat.succ_ne_self _
  generalize hKk : (Ca + 1 : Nat) = Ka at hcell₁ hKn hKC
  have S3 : St c ρ o z1 R { s1 with heap := h₁ } := S2.temp (t := s1.toks) hk3
  have hDC : Da ≠ Ca := by omega
  have hDK : Da ≠ Ka := by omega
  have hDw : Da ∉ wr := fun h => Nat.lt_irrefl _ (hwlt _ h)
  have hCw : Ca ∉ wr := fun h => by have h2 : @LT.lt Nat _ Ca Da := hwlt _ h; omega
  have hKw : Ka ∉ wr := fun h => by have h2 : @LT.lt Nat _ Ka Da := hwlt _ h; omega
  have hCf : Ca ∉ fp := fun h => by have h2 : @LT.lt Nat _ Ca Da := hfplt _ h; omega
  have hKf : Ka ∉ fp := fun h => by have h2 : @LT.lt Nat _ Ka Da := hfplt _ h; omega
  have hDf : Da ∉ fp := fun h => Nat.lt_irrefl _ (hfplt _ h)
  have zD : z1 Da = none ∧ R Da = none ∧ ¬ Priv c ρ o Da := ⟨S1.znew hDn, S1.rnew hDn, priv_new S1 hDn⟩
  have zC : z1 Ca = none ∧ R Ca = none ∧ ¬ Priv c ρ o Ca := ⟨S2.znew hCn, S2.rnew hCn, priv_new S2 hCn⟩
  have zK : z1 Ka = none ∧ R Ka = none ∧ ¬ Priv c ρ o Ka := ⟨S2.znew hKn, S2.rnew hKn, priv_new S2 hKn⟩
  have hst3 : Wst 0 h₁ := W.frame _ _ _ hst fun b _ ob e => hk3 _ _ (hk2 _ _ e)
  have oldW : ∀ b o', s.heap.get? b = some o' → b ∉ wr := fun b o' e hb => by rw [hfw b hb] at e; cases e
  have oldC : ∀ b o', s.heap.get? b = some o' → b ≠ Ca := fun b o' e h => by rw [h] at e; have := hk2 _ _ (le1.kp _ _ e); rw [hCn] at this; cases this
  have oldK : ∀ b o', s.heap.get? b = some o' → b ≠ Ka := fun b o' e h => by rw [h] at e; have := hk2 _ _ (le1.kp _ _ e); rw [hKn] at this; cases this
  have oldD : ∀ b o', s.heap.get? b = some o' → b ≠ Da := fun b o' e h => by rw [h] at e; have := le1.kp _ _ e; rw [hDn] at this; cases this
  have loop : ∀ sx : Shared, sx = { s1 with heap := h₁ } →
      codeAny (model prog c.w) c.A (.compLoop (.ListComp elt [⟨target, iter, [], 0⟩] scope pos) 0 (.ref J) (.ref Da) (compEnvC scope [(x, Ka)] Ca c.env)) (compPost (model prog c.w) c.A E none Q (.ref Da) Ca) sx := by
    rintro sx rfl
    refine codeAny_compLoop_go (fun n s' => CIx c ρ o R z1 s1.heap (Ka :: wr) Wst Da Ca (fun i => (ds.take i).map f) 1 ds.length n s' ∧ ∃ v, s'.heap.IsCell Ka v) ?_ (ds.length + 1)
      ⟨⟨0, z1, [], ⟨rfl, Nat.zero_le _⟩, PM.le.refl _, S3, hst3, ⟨0, hk3 _ _ hD2⟩, by show Reps _ ((ds.take 0).map _) _; simp only [List.take_zero, List.map_nil]; exact rfl, Nat.zero_le _, ⟨_, hns₁⟩, zD.1, zC.1, (fun b hb => (List.mem_cons.mp hb).elim (fun e => e ▸ zK.1) fun hb => (hw b hb).1), fun b o' _ _ _ e => hk3 _ _ (hk2 _ _ e)⟩, ⟨_, hcell₁⟩⟩
    rintro n s' ⟨⟨i, zi, vs, ⟨rfl, hi'⟩, lei, Si, hsti, ⟨k, hDi⟩, hvs, hvl, ⟨m, hm⟩, zDi, zCi, zwK, hkp'⟩, ⟨cv, hcv⟩⟩
    have zKi := zwK Ka List.mem_cons_self
    have zwi : ∀ b ∈ wr, zi b = none := fun b hb => zwK b (List.mem_cons_of_mem _ hb)
    have hkp : ∀ b o', b ≠ Ca → b ≠ Ka → b ≠ Da → b ∉ wr → s1.heap.get? b = some o' → s'.heap.get? b = some o' := fun b o' h1 h2 h3 h4 e => hkp' b o' h1 h3 (fun hm => (List.mem_cons.mp hm).elim h2 h4) e
    have hwi : ∀ b ∈ wr, zi b = none ∧ R b = none ∧ ¬ Priv c ρ o b := fun b hb => ⟨zwi b hb, (hw b hb).2⟩
    by_cases hlt : i < ds.length
    · refine W.item i s' _ _ hlt hsti fun v h₂ tk₂ hPv hst₂ hk₂ => ?_
      have Sa := Si.other (t := tk₂) hwi hk₂
      refine hgo _ _ _ _ _ _ hst₂ ?_
      have hd : ds[i]? = some ds[i] := List.getElem?_eq_getElem hlt
      have hmC : h₂.Ns Ca m := hm.at' fun ob e => hk₂ _ _ hCw e
      have hmK : h₂.IsCell Ka cv := by obtain ⟨ob, e, he⟩ := hcv; exact ⟨ob, hk₂ _ _ hKw e, he⟩
      have Sk := kidA_st ok hsk hx hxd Sa hmC hmK hKC zCi zKi
      have hwCK : ∀ b ∈ [Ca, Ka], zi b = none ∧ R b = none ∧ ¬ Priv c ρ o b := fun b hb => by
        rcases List.mem_cons.mp hb with rfl | hb
        · exact ⟨zCi, zC.2⟩
        · rw [List.mem_singleton.mp hb]; exact ⟨zKi, zK.2⟩
      obtain ⟨ρd, hG, hE⟩ := hel [(x, Ka)] Ca rfl (kidE_is ok hsk _ Ca) i _ hd ⟨Ka, rfl⟩
      refine hG.run o zi _ _ v _ _ Sk (Rep.mono lei _ (hrep i _ v hd hPv)) fun s4 S4 => ?_
      refine wpAny_tests_nil ?_
      rw [if_pos rfl]
      refine hE.run o zi _ s4 _ _ S4 fun y z6 s6 le6 S6 r6 => ?_
      have hz6 : ∀ b ∈ [Ca, Ka], z6 b = none := fun b hb => by
        rcases List.mem_cons.mp hb with rfl | hb
        · exact (S6.sep _ .loc).1
        · rw [List.mem_singleton.mp hb]; exact (S6.sep _ (.cell (x := x) (List.mem_singleton_self _))).1
      obtain ⟨b1, b2, b3⟩ := kidA_back (c' := kidE c scope [(x, Ka)] Ca) Sa rfl rfl rfl le6.le S6 hwCK hz6
      have hno : ∀ b ob, zi b = none → h₂.get? b = some ob → z6 b = none := fun b ob hz he => by
        cases q : z6 b with
        | none => rfl
        | some x => rcases b3 b (by rw [q]; exact fun h => nomatch h) with h | h
                    · exact absurd hz h
                    · rw [show h₂.get? b = none from h] at he; cases he
      have nin : ∀ b, b ≠ Ca → b ≠ Ka → b ∉ [Ca, Ka] := fun b n1 n2 hb => by
        rcases List.mem_cons.mp hb with q | hb
        · exact n1 q
        · exact n2 (List.mem_singleton.mp hb)
      have hD6 : s6.heap.get? Da = some (LO vs k) := b2 _ _ (nin _ hDC hDK) (hk₂ _ _ hDw hDi)
      have zD6 : z6 Da = none := hno _ _ zDi (hk₂ _ _ hDw hDi)
      refine wpAny_list_append_plain (items := vs.toArray) ⟨k, hD6⟩ (fun h' hl hs => ?_) (by rw [List.size_toArray]; omega)
      obtain ⟨k', hl'⟩ := hl
      have e' : vs.toArray.push y = (vs ++ [y]).toArray := by simp
      rw [e'] at hl'
      have S7 : St c ρ o z6 R { s6 with heap := h', toks := s6.toks } := b1.other (wr := [Da]) (fun b hb => by rw [List.mem_singleton.mp hb]; exact ⟨zD6, zD.2⟩) fun b o' hb e => hs.extBut b o' (fun h => hb (by rw [h]; exact List.mem_singleton_self _)) e
      refine ⟨ds.length + 1 - (i + 1), by omega, ⟨i + 1, z6, vs ++ [y], ⟨rfl, hlt⟩, lei.trans le6.le, S7, ?_, ⟨k', hl'⟩, ?_, by rw [List.length_append, List.length_singleton]; omega, ?_, zD6, hz6 _ List.mem_cons_self, fun b hb => ?_, fun b o' h1 h2 h3 e => hs.extBut b o' h2 (b2 b o' (nin _ h1 (fun q => h3 (by rw [q]; exact List.mem_cons_self))) (hk₂ _ _ (fun q => h3 (List.mem_cons_of_mem _ q)) (hkp' b o' h1 h2 h3 e)))⟩, ?_⟩
      · exact W.frame _ _ _ hst₂ fun b hb ob e => hs.extBut b ob (fun h => hDf (h ▸ hb)) (b2 b ob (nin _ (fun h => hCf (h ▸ hb)) (fun h => hKf (h ▸ hb))) e)
      · show Reps _ ((ds.take (i + 1)).map f) _
        rw [List.take_add_one, hd, List.map_append]
        exact Reps.append (Reps.mono le6.le _ hvs) (Reps.one r6)
      · obtain ⟨m', hm', _⟩ := S6.slots; exact ⟨m', Heap.Ns.sameBut (h := s6.heap) hm' hs (Ne.symm hDC)⟩
      · rcases List.mem_cons.mp hb with rfl | hb
        · exact hz6 _ (by simp)
        · obtain ⟨ob, e⟩ := hlive _ _ hst₂ b hb
          exact hno _ _ (zwi b hb) e
      · obtain ⟨_, v', hv'⟩ := S6.cellL (x, Ka) (List.mem_singleton_self _); exact ⟨v', hv'.sameBut hs (Ne.symm hDK)⟩
    · have hin : i = ds.length := by omega
      subst hin
      refine W.done _ _ _ hsti fun h₂ tk₂ hk₂ => ?_
      have Sa := Si.other (t := tk₂) hwi hk₂
      refine ⟨m, hm.at' fun ob e => hk₂ _ _ hCw e, fun h' hs => ?_⟩
      have S7 := Sa.other (t := tk₂) (h' := h') (wr := [Ca]) (fun b hb => by rw [List.mem_singleton.mp hb]; exact ⟨zCi, zC.2⟩) fun b o' hb e => hs.extBut b o' (fun h => hb (by rw [h]; exact List.mem_singleton_self _)) e
      refine K Da vs k zi _ ⟨le1.le.trans lei, fun b o' e => hs.extBut b o' (oldC b o' e) (hk₂ _ _ (oldW b o' e) (hkp b o' (oldC b o' e) (oldK b o' e) (oldD b o' e) (oldW b o' e) (le1.kp _ _ e)))⟩ S7 (hs.extBut Da _ hDC (hk₂ _ _ hDw hDi)) (by have hvs : Reps zi ((ds.take ds.length).map f) vs := hvs; rw [List.take_length] at hvs; exact hvs) zDi zD.2.1 zD.2.2
  exact codeAny_compStart_list (loop _ rfl) (W.self 0 _ _ _ hst3 (loop _ rfl))
end Mine
end
/-! B22 -/
section
open PySem PySem.W PyProof.Rows PySem.Spec PySem.Calls
set_option maxRecDepth 100000
set_option maxHeartbeats 1000000
set_option linter.unusedVariables false
namespace Mine
variable {c : Cx} {ρ ρ' : Frame}

/-! a comprehension with two clauses -/
theorem compTurn_20 (elt t1 i1 t2 i2 : Expr) (ifs : List Expr) (scope : Scope) (pos : Pos) (it acc : Value) (env : Env) :
    compTurn (.ListComp elt [⟨t1, i1, [], 0⟩, ⟨t2, i2, ifs, 0⟩] scope pos) 0 it acc env = (do
      standAt i1.pos
      match ← pyNext it with
      | none => pure (.done .next)
      | some v =>
        letOwnedTupleGo t1 it v
        assign t1 env v
        let x ← eval i2 env
        standAt i2.pos
        let x ← foldedSetIterable i2 env x
        let _ ← runOwn (.compStart (.ListComp elt [⟨t1, i1, [], 0⟩, ⟨t2, i2, ifs, 0⟩] scope pos) 1 (← holding [x] (pyIter x)) acc env) env
        again (.compLoop (.ListComp elt [⟨t1, i1, [], 0⟩, ⟨t2, i2, ifs, 0⟩] scope pos) 0 it acc env)) := by rfl
theorem compTurn_21 (elt t1 i1 t2 i2 : Expr) (ifs : List Expr) (scope : Scope) (pos : Pos) (it acc : Value) (env : Env) :
    compTurn (.ListComp elt [⟨t1, i1, [], 0⟩, ⟨t2, i2, ifs, 0⟩] scope pos) 1 it acc env = (do
      standAt i2.pos
      match ← pyNext it with
      | none => pure (.done .next)
      | some v =>
        letOwnedTupleGo t2 it v
        assign t2 env v
        let mut ok := true
        for c in ifs do
          if ok then ok ← isTrue c env (eval c env)
        if ok then
          (do let _ ← call (.builtin "list.append") [acc, ← eval elt env])
        again (.compLoop (.ListComp elt [⟨t1, i1, [], 0⟩, ⟨t2, i2, ifs, 0⟩] scope pos) 1 it acc env)) := by rfl
section
variable {w : World} {A : Around} {R : Result → Shared → Prop} {s : Shared}
theorem compLoop_20 {elt t1 i1 t2 i2 : Expr} {ifs : List Expr} {scope : Scope} {pos : Pos} {it acc : Value} {env : Env} (I : Nat → Shared → Prop) (hset : ∀ x, foldedSetIterable i2 env x = pure x)
    (turn : ∀ n s, I n s → wpAny (model prog w) A (pyNext it) (fun r s₁ => match r with
      | none => R (.ok .next) s₁
      | some v => wpAny (model prog w) A (letOwnedTupleGo t1 it v) (fun _ s₁' => wpAny (model prog w) A (assign t1 env v) (fun _ s₂ =>
          wpAny (model prog w) A (eval i2 env) (fun x s₃ => wpAny (model prog w) A (pyIter x) (fun it2 s₄ =>
            codeAny (model prog w) A (.compStart (.ListComp elt [⟨t1, i1, [], 0⟩, ⟨t2, i2, ifs, 0⟩] scope pos) 1 it2 acc env) (fun r s₅ => match r with | .ok _ => ∃ m, m < n ∧ I m s₅ | .error e => False) s₄) (notedBy (model prog w) A env fun e s' => R (.error e) s') s₃) (notedBy (model prog w) A env fun e s' => R (.error e) s') s₂) (notedBy (model prog w) A env fun e s' => R (.error e) s') s₁') (notedBy (model prog w) A env fun e s' => R (.error e) s') s₁) (notedBy (model prog w) A env fun e s' => R (.error e) s') s)
    (n : Nat) (h : I n s) : codeAny (model prog w) A (.compLoop (.ListComp elt [⟨t1, i1, [], 0⟩, ⟨t2, i2, ifs, 0⟩] scope pos) 0 it acc env) R s := by
  refine codeAny_loop rfl I (fun n s hI => ?_) n h
  show wpAny _ A ((compTurn (.ListComp elt [⟨t1, i1, [], 0⟩, ⟨t2, i2, ifs, 0⟩] scope pos) 0 it acc env).onRaise (fun x => do noteFrame x env; theTreesLotGoes x)) _ _ s
  refine wpAny_noted ?_
  rw [compTurn_20]
  refine wpAny_bind (wpAny_standAt (wpAny_bind (wpAny_mono (turn n s hI) (fun r s₁ h₁ => ?_) fun _ _ h' => h')))
  cases r with
  | none => exact wpAny_pure h₁
  | some v =>
    refine wpAny_bind (wpAny_mono h₁ (fun _ s₁' h₁' => ?_) fun _ _ h' => h')
    refine wpAny_bind (wpAny_mono h₁' (fun _ s₂ h₂ => ?_) fun _ _ h' => h')
    refine wpAny_bind (wpAny_mono h₂ (fun x s₃ h₃ => wpAny_bind (wpAny_standAt ?_)) fun _ _ h' => h')
    rw [hset]
    refine wpAny_bind (wpAny_pure (wpAny_bind (wpAny_holding (wpAny_mono h₃ (fun it2 s₄ h₄ => ?_) fun _ _ h' => h'))))
    refine wpAny_bind (wpAny_runOwn (codeAny_mono h₄ fun r s₅ h₅ => ?_))
    cases r with
    | ok f => exact wpAny_pure ⟨rfl, h₅⟩
    | error e => exact h₅.elim
theorem compLoop_21 {elt t1 i1 t2 i2 : Expr} {ifs : List Expr} {scope : Scope} {pos : Pos} {it acc : Value} {env : Env} (I : Nat → Shared → Prop)
    (turn : ∀ n s, I n s → wpAny (model prog w) A (pyNext it) (fun r s₁ => match r with
      | none => R (.ok .next) s₁
      | some v => wpAny (model prog w) A (letOwnedTupleGo t2 it v) (fun _ s₁' => wpAny (model prog w) A (assign t2 env v) (fun _ s₂ =>
          wpAny (model prog w) A (forIn ifs true fun c r => if r = true then do let ok ← isTrue c env (eval c env); pure (ForInStep.yield ok) else pure (ForInStep.yield r)) (fun ok s₃ =>
            if ok = true then wpAny (model prog w) A (eval elt env) (fun x s₄ =>
              wpAny (model prog w) A (call (.builtin "list.append") [acc, x]) (fun _ s₅ => ∃ m, m < n ∧ I m s₅) (notedBy (model prog w) A env fun e s' => R (.error e) s') s₄) (notedBy (model prog w) A env fun e s' => R (.error e) s') s₃
            else ∃ m, m < n ∧ I m s₃) (notedBy (model prog w) A env fun e s' => R (.error e) s') s₂) (notedBy (model prog w) A env fun e s' => R (.error e) s') s₁') (notedBy (model prog w) A env fun e s' => R (.error e) s') s₁) (notedBy (model prog w) A env fun e s' => R (.error e) s') s)
    (n : Nat) (h : I n s) : codeAny (model prog w) A (.compLoop (.ListComp elt [⟨t1, i1, [], 0⟩, ⟨t2, i2, ifs, 0⟩] scope pos) 1 it acc env) R s := by
  refine codeAny_loop rfl I (fun n s hI => ?_) n h
  show wpAny _ A ((compTurn (.ListComp elt [⟨t1, i1, [], 0⟩, ⟨t2, i2, ifs, 0⟩] scope pos) 1 it acc env).onRaise (fun x => do noteFrame x env; theTreesLotGoes x)) _ _ s
  refine wpAny_noted ?_
  rw [compTurn_21]
  refine wpAny_bind (wpAny_standAt (wpAny_bind (wpAny_mono (turn n s hI) (fun r s₁ h₁ => ?_) fun _ _ h' => h')))
  cases r with
  | none => exact wpAny_pure h₁
  | some v =>
    refine wpAny_bind (wpAny_mono h₁ (fun _ s₁' h₁' => ?_) fun _ _ h' => h')
    refine wpAny_bind (wpAny_mono h₁' (fun _ s₂ h₂ => wpAny_bind (wpAny_mono h₂ (fun ok s₃ h₃ => ?_) fun _ _ h' => h')) fun _ _ h' => h')
    cases ok with
    | false => exact wpAny_pure ⟨rfl, h₃⟩
    | true =>
      exact wpAny_bind (wpAny_bind (wpAny_mono h₃ (fun x s₄ h₄ => wpAny_bind (wpAny_mono h₄ (fun _ s₅ h₅ => wpAny_pure (wpAny_pure ⟨rfl, h₅⟩)) fun _ _ h' => h')) fun _ _ h' => h'))
theorem compStart_21 {elt t1 i1 t2 i2 : Expr} {ifs : List Expr} {scope : Scope} {pos : Pos} {it acc : Value} {env : Env}
    (h0 : codeAny (model prog w) A (.compLoop (.ListComp elt [⟨t1, i1, [], 0⟩, ⟨t2, i2, ifs, 0⟩] scope pos) 1 it acc env) R s)
    (h : wpAny (model prog w) A (pyIter it) (fun it' s' => codeAny (model prog w) A (.compLoop (.ListComp elt [⟨t1, i1, [], 0⟩, ⟨t2, i2, ifs, 0⟩] scope pos) 1 it' acc env) R s')
      (notedBy (model prog w) A env fun x s' => R (.error x) s') s) :
    codeAny (model prog w) A (.compStart (.ListComp elt [⟨t1, i1, [], 0⟩, ⟨t2, i2, ifs, 0⟩] scope pos) 1 it acc env) R s := by
  refine codeAny_of_tree ?_
  show wpAny _ _ ((compStart (.ListComp elt [⟨t1, i1, [], 0⟩, ⟨t2, i2, ifs, 0⟩] scope pos) 1 it acc env).onRaise (fun x => do noteFrame x env; standAt theWindowsPlace)) _ _ s
  refine wpAny_notedAt ?_
  unfold compStart
  show wpAny _ _ (ask >>= _) _ _ s
  refine wpAny_bind (wpAny_askSetting (wpAny_ite ?_))
  split
  · first
      | exact wpAny_bind (wpAny_pure (wpAny_pure (And.intro rfl h0)))
      | exact wpAny_pure (And.intro rfl h0)
  · first
      | exact wpAny_bind (wpAny_rule (wpAny_bind (wpAny_standAt (wpAny_bind (wpAny_mono h (fun it' s' h' => wpAny_pure (And.intro rfl h')) fun _ _ x => x)))))
      | (refine wpAny_bind (wpAny_rule ?_); show wpAny _ _ (standAt i2.pos >>= _) _ _ s; exact wpAny_bind (wpAny_standAt (wpAny_bind (wpAny_mono h (fun it' s' h' => wpAny_pure (And.intro rfl h')) fun _ _ x => x))))
end
/-- a local whose value is known -/
theorem know_local {c' : Cx} {o : Str → Addr} {z R : PM} {s : Shared} {x : Str} {d : D} {v : Value} {m : Str → Option Value} (S : St c' ρ o z R s) (hu : Put x (.val d) ρ ρ') (hno : ∀ sl, (x, sl) ∈ ρ → ∀ ds, sl ≠ .own ds) (hk : c'.env.kindOf x = some .local) (hn : s.heap.Ns c'.env.locals m) (hm : m x = some v) (hr : Rep z d v) : St c' ρ' o z R s := by
  have hof := hu.of S.nodup
  obtain ⟨old, hold⟩ := hu.mem.2
  have hown : ∀ y dy, (y, Slot.own dy) ∈ ρ' → (y, Slot.own dy) ∈ ρ := fun y dy h => by
    rcases hof _ h with e | ⟨h, _⟩
    · cases e
    · exact h
  exact { S with
    nodup := by rw [hu.names]; exact S.nodup
    named := fun p hp => by
      rcases hof p hp with e | ⟨h, _⟩
      · rw [e]; exact (show Named c' x ∧ (x == ("__debug__" : Str)) = false from S.named (x, old) hold)
      · exact S.named _ h
    sep := fun a h => S.sep a (by
      cases h with
      | loc => exact .loc
      | cell h => exact .cell h
      | own h => exact .own (hown _ _ h))
    ownL := fun y dy h => S.ownL y dy (hown _ _ h)
    ownD := fun y y' dy dy' h h' => S.ownD y y' dy dy' (hown _ _ h) (hown _ _ h')
    slots := by
      obtain ⟨m', hn', hs⟩ := S.slots
      refine ⟨m', hn', fun p hp => ?_⟩
      rcases hof p hp with e | ⟨h, _⟩
      · rw [e]
        refine ⟨v, .inl ⟨hk, ?_⟩, hr⟩
        obtain ⟨ob, es, ep, h1, h2, h3, h4⟩ := hn
        obtain ⟨ob', es', ep', g1, g2, g3, g4⟩ := hn'
        rw [h1] at g1; cases g1
        rw [h2] at g2; cases g2
        rw [← g4 x, h4 x]; exact hm
      · exact hs p h }
end Mine
end
/-! B23 -/
section
open PySem PySem.W PyProof.Rows PySem.Spec PySem.Calls
set_option maxRecDepth 100000
set_option maxHeartbeats 2000000
set_option linter.unusedVariables false
namespace Mine
variable {c : Cx} {ρ ρ' : Frame}

structure El2 (c' : Cx) (ρ0 : Frame) (px : Str) (t1 t2 i2 t elt : Expr) (caps : List (Str × D)) (N : Nat) (d : D) (es : List D) (out : D → Option D) : Prop where
  run : ∃ ρp, LOk c' ρ0 t1 d ρp ∧ Put px (.val d) ρ0 ρp ∧ (∀ q ∈ caps, (q.1, Slot.val q.2) ∈ ρp) ∧ ItOk c' ρp i2 es ∧ es.length ≤ N ∧ ∀ (j : Nat) (e : D), es[j]? = some e → ∃ ρd, LOk c' ρp t2 e ρd ∧ (∀ q ∈ caps, (q.1, Slot.val q.2) ∈ ρd) ∧ (px, Slot.val d) ∈ ρd ∧
    ∃ b, TOk c' ρd t b ∧ (b = true → ∃ y, out e = some y ∧ EOk c' ρd elt y) ∧ (b = false → out e = none)

theorem flat_step {α β : Type} (ds : List α) (f : α → List β) {i : Nat} {d : α} (h : ds[i]? = some d) : (ds.take (i + 1)).flatMap f = (ds.take i).flatMap f ++ f d := by
  rw [List.take_add_one, h, List.flatMap_append]; simp

structure CJ (c : Cx) (ρ : Frame) (o : Str → Addr) (R z5 : PM) (h1 : Heap) (wr wr2 : List Addr) (Wst Wst2 : Nat → Heap → Prop) (i : Nat) (Da Ca : Addr) (px : Str) (d : D) (vs : List Value) (res : Nat → List D) (j : Nat) (zj : PM) (us : List Value) (s' : Shared) : Prop where
  le : z5.le zj
  st : St c ρ o zj R s'
  w2 : Wst2 j s'.heap
  w1 : Wst (i + 1) s'.heap
  hd : ∃ k, s'.heap.get? Da = some (LO (vs ++ us) k)
  rp : Reps zj (res j) us
  ln : us.length ≤ j
  ns : ∃ m v, s'.heap.Ns Ca m ∧ m px = some v ∧ Rep zj d v
  zd : zj Da = none
  zc : zj Ca = none
  zw : ∀ b ∈ wr, zj b = none
  zw2 : ∀ b ∈ wr2, zj b = none
  kp : ∀ b o', b ≠ Ca → b ≠ Da → b ∉ wr → h1.get? b = some o' → s'.heap.get? b = some o'
noncomputable def CJx (c : Cx) (ρ : Frame) (o : Str → Addr) (R z5 : PM) (h1 : Heap) (wr wr2 : List Addr) (Wst Wst2 : Nat → Heap → Prop) (i : Nat) (Da Ca : Addr) (px : Str) (d : D) (vs : List Value) (res : Nat → List D) (L n : Nat) (s' : Shared) : Prop :=
  ∃ j zj us, (n = L + 1 - j ∧ j ≤ L) ∧ CJ c ρ o R z5 h1 wr wr2 Wst Wst2 i Da Ca px d vs res j zj us s'

theorem comp_main2 (ok : CxOk c) {elt t1 i1 t2 i2 t : Expr} {scope : Scope} {pos p0 : Pos} {px : Str} {own : List Str} {caps : List (Str × D)} {ds : List D} {es : D → List D} {out : D → D → Option D} {N : Nat} {use : Option (Value → Sem Unit)}
    (KO : KidOk c ρ scope own caps) (hi : ItOk c ρ i1 ds) (hsz : ds.length * N + N ≤ sizeLine) (hpx : px ∈ own)
    (hel : ∀ c', IsKid c scope c' → ∀ (i : Nat) (d : D), ds[i]? = some d → El2 c' (kidF own caps) px t1 t2 i2 t elt caps N d (es d) (out d))
    {o : Str → Addr} {z R : PM} {s : Shared} {Q : Value → Shared → Prop} {E : Value → Shared → Prop} (S : St c ρ o z R s)
    (K : ∀ a C vs n m z' s', Ext z s z' s' → St c ρ o z' R s' → s'.heap.get? a = some (LO vs n) → Reps z' (ds.flatMap fun d => (es d).filterMap (out d)) vs → z' a = none → R a = none → ¬ Priv c ρ o a →
      s'.heap.Ns C m → z' C = none → R C = none → ¬ Priv c ρ o C → a ≠ C → (∀ b o', s.heap.get? b = some o' → b ≠ C) → compPost (model prog c.w) c.A E use Q (.ref a) C (.ok .next) s')
    (hset : ∀ x, foldedSetIterable i1 c.env x = pure x := by intro _; rfl) (hset2 : ∀ env x, foldedSetIterable i2 env x = pure x := by intro _ _; rfl) :
    wpAny (model prog c.w) c.A (comprehension (.ListComp elt [⟨t1, i1, [], 0⟩, ⟨t2, i2, [t], 0⟩] scope pos) scope c.env p0 (newList []) false (eval i1 c.env) use) Q E s := by
  have hnames : ∀ x ∈ scope.names, x.2 = .local → scope.names.lookup x.1 = some .local := fun x hx hl => by
    have : ∀ (l : List (Str × NameKind)), (l.map (·.1)).Nodup → x ∈ l → l.lookup x.1 = some x.2 := by
      intro l
      induction l with
      | nil => intro _ h; cases h
      | cons y r ih =>
        intro hn hm
        rw [List.map_cons, List.nodup_cons] at hn
        obtain ⟨n, k⟩ := y
        rw [List.lookup_cons]
        rcases List.mem_cons.mp hm with e | hm
        · rw [e]; simp
        · have hne : (x.1 == n) = false := beq_eq_false_iff_ne.mpr fun e => hn.1 (e ▸ List.mem_map_of_mem (f := (·.1)) hm)
          rw [hne]; exact ih hn.2 hm
    rw [this _ KO.nodup hx, hl]
  have hkpx : ∀ C, (kidC c scope C).env.kindOf px = some .local := fun C => (kid_is ok KO.kind C).kind _ _ (KO.ownk px hpx).1 (by decide)
  refine wpAny_comprehension_free (cl := clOf c.env scope.names []) (g := ⟨t1, i1, [], 0⟩) (gs := [⟨t2, i2, [t], 0⟩]) rfl hset (closure_eq (cl_free ok KO S)) KO.kind hnames ?_
  refine hi.run o z R s _ _ S fun J fp wr Pv Wst z1 s1 le1 S1 W hrep hst hw hlive hfp hgo hfw => ?_
  -- the list
  refine wpAny_newObj_type ?_ (by show ([] : List Value).toArray.size ≤ sizeLine; simp)
  have hDn := get_size_none s1.heap
  have hwlt : ∀ b ∈ wr, b < s1.heap.objs.size := fun b hb => by obtain ⟨ob, e⟩ := hlive 0 _ hst b hb; exact Heap.lt_size e
  have hfplt : ∀ b ∈ fp, b < s1.heap.objs.size := fun b hb => (hfp b hb).elim (hwlt b) fun ⟨ob, e⟩ => Heap.lt_size (S1.zh _ _ e)
  generalize hH2 : s1.heap.push { cls := .type "list", dict := none, data := .seq ([] : List Value).toArray } = H2
  have hDsz : H2.objs.size = s1.heap.objs.size + 1 := by rw [← hH2, Heap.size_push]
  have hk2 : ∀ b o', s1.heap.get? b = some o' → H2.get? b = some o' := by rw [← hH2]; exact push_keeps _ _
  have hD2 : H2.get? s1.heap.objs.size = some (LO [] 0) := by rw [← hH2]; exact Heap.get?_push_size _ rfl
  generalize hDd : s1.heap.objs.size = Da at hDn hD2 hDsz hwlt hfplt
  have S2 : St c ρ o z1 R { s1 with heap := H2 } := S1.temp (t := s1.toks) hk2
  refine wpAny_newFunctionEnv KO.nocell (by intro y hy; simp at hy) (fun h₁ hns₁ hsb₁ => ?_) KO.kind
  dsimp only at hns₁ hsb₁ ⊢
  have hCn := get_size_none H2
  have hk3 : ∀ b o', H2.get? b = some o' → h₁.get? b = some o' := fun b o' e => hsb₁.extBut b o' (Nat.ne_of_lt (Heap.lt_size e)) (push_keeps _ _ _ _ e)
  generalize hCc : H2.objs.size = Ca at hns₁ hsb₁ hCn hDsz
  have S3 : St c ρ o z1 R { s1 with heap := h₁, toks := s1.toks + ([] : List (Str × Value)).length } := S2.temp hk3
  have hDC : Da ≠ Ca := by omega
  have hDw : Da ∉ wr := fun h => Nat.lt_irrefl _ (hwlt _ h)
  have hCw : Ca ∉ wr := fun h => by have h2 : @LT.lt Nat _ Ca Da := hwlt _ h; omega
  have hCf : Ca ∉ fp := fun h => by have h2 : @LT.lt Nat _ Ca Da := hfplt _ h; omega
  have hDf : Da ∉ fp := fun h => Nat.lt_irrefl _ (hfplt _ h)
  have zD : z1 Da = none ∧ R Da = none ∧ ¬ Priv c ρ o Da := ⟨S1.znew hDn, S1.rnew hDn, priv_new S1 hDn⟩
  have zC : z1 Ca = none ∧ R Ca = none ∧ ¬ Priv c ρ o Ca := ⟨S2.znew hCn, S2.rnew hCn, priv_new S2 hCn⟩
  have hst3 : Wst 0 h₁ := W.frame _ _ _ hst fun b _ ob e => hk3 _ _ (hk2 _ _ e)
  have oldW : ∀ b o', s.heap.get? b = some o' → b ∉ wr := fun b o' e hb => by rw [hfw b hb] at e; cases e
  have oldC : ∀ b o', s.heap.get? b = some o' → b ≠ Ca := fun b o' e h => by rw [h] at e; have := hk2 _ _ (le1.kp _ _ e); rw [hCn] at this; cases this
  have oldD : ∀ b o', s.heap.get? b = some o' → b ≠ Da := fun b o' e h => by rw [h] at e; have := le1.kp _ _ e; rw [hDn] at this; cases this
  -- back from the kid's frame, from any state s0 of law
  have back : ∀ {zi : PM} {s0 : Shared}, St c ρ o zi R s0 → zi Ca = none → ∀ {z6 s6 ρd}, zi.le z6 → St (kidC c scope Ca) ρd o z6 (restOf zi Ca (clOf c.env scope.names []) s0.heap) s6 → (∀ q ∈ caps, (q.1, Slot.val q.2) ∈ ρd) → (∀ b o', b ≠ Ca → s0.heap.get? b = some o' → s6.heap.get? b = some o') →
      St c ρ o z6 R s6 ∧ z6 Ca = none ∧ (∀ b ob, zi b = none → s0.heap.get? b = some ob → z6 b = none) ∧ ∀ b o', b ≠ Ca → s0.heap.get? b = some o' → s6.heap.get? b = some o' := by
    intro zi s0 Sa zCi z6 s6 ρd le6 S6 hcap kp
    obtain ⟨b1, b2, b3, b4, b5⟩ := kid_back ok KO Sa zCi zC.2.1 zC.2.2 le6 S6 hcap
    refine ⟨b1, b5, fun b ob hz he => ?_, kp⟩
    cases q : z6 b with
    | none => rfl
    | some x => rcases b3 b (by rw [q]; exact fun h => nomatch h) with h | h
                · exact absurd hz h
                · rw [h] at he; cases he
  have loop : ∀ sx : Shared, sx = { s1 with heap := h₁, toks := s1.toks + ([] : List (Str × Value)).length } →
      codeAny (model prog c.w) c.A (.compLoop (.ListComp elt [⟨t1, i1, [], 0⟩, ⟨t2, i2, [t], 0⟩] scope pos) 0 (.ref J) (.ref Da) (compEnvC scope (clOf c.env scope.names []) Ca c.env)) (compPost (model prog c.w) c.A E use Q (.ref Da) Ca) sx := by
    rintro sx rfl
    refine compLoop_20 (CIx c ρ o R z1 s1.heap wr Wst Da Ca (fun i => (ds.take i).flatMap fun d => (es d).filterMap (out d)) N ds.length) (hset2 _) ?_ (ds.length + 1)
      ⟨0, z1, [], ⟨rfl, Nat.zero_le _⟩, PM.le.refl _, S3, hst3, ⟨0, hk3 _ _ hD2⟩, by show Reps _ ((ds.take 0).flatMap _) _; simp only [List.take_zero, List.flatMap_nil]; exact rfl, Nat.zero_le _, ⟨_, hns₁⟩, zD.1, zC.1, fun b hb => (hw b hb).1, fun b o' _ _ _ e => hk3 _ _ (hk2 _ _ e)⟩
    rintro n s' ⟨i, zi, vs, ⟨rfl, hi'⟩, lei, Si, hsti, ⟨k, hDi⟩, hvs, hvl, ⟨m, hm⟩, zDi, zCi, zwi, hkp⟩
    have hwi : ∀ b ∈ wr, zi b = none ∧ R b = none ∧ ¬ Priv c ρ o b := fun b hb => ⟨zwi b hb, (hw b hb).2⟩
    by_cases hlt : i < ds.length
    · refine W.item i s' _ _ hlt hsti fun v h₂ tk₂ hPv hst₂ hk₂ => ?_
      have Sa := Si.other (t := tk₂) hwi hk₂
      refine hgo _ _ _ _ _ _ hst₂ ?_
      obtain ⟨d, hd⟩ : ∃ d, ds[i]? = some d := ⟨_, List.getElem?_eq_getElem hlt⟩
      have hmC : h₂.Ns Ca m := hm.at' fun ob e => hk₂ _ _ hCw e
      have Sk := kid_st ok KO Sa hmC zCi zC.2.2
      obtain ⟨ρp, hG, hput, hcap, hit2, hN, hin⟩ := hel (kidC c scope Ca) (kid_is ok KO.kind Ca) i _ hd
      refine hG.run o zi _ _ v _ _ Sk (Rep.mono lei _ (hrep i d v hd hPv)) fun s4 S4 kp4 => ?_
      -- the inner source
      refine hit2.run o zi _ s4 _ _ S4 fun J2 fp2 wr2 Pv2 Wst2 z5 s5 le5 S5 W2 hrep2 hst2 hw2' hlive2 hfp2 hgo2 hfw2 => ?_
      have kp5 : ∀ b o', b ≠ Ca → h₂.get? b = some o' → s5.heap.get? b = some o' := fun b o' hb e => le5.kp b o' (kp4 b o' hb e)
      obtain ⟨b1, b5, hno5, _⟩ := back Sa zCi le5.le S5 hcap kp5
      have hlive4 : ∀ b ob, b ≠ Ca → h₂.get? b = some ob → b ∉ wr2 := fun b ob hb e hm => by have := kp4 b ob hb e; rw [hfw2 b hm] at this; cases this
      have hCw2 : Ca ∉ wr2 := fun hm => (hw2' Ca hm).2.2 .loc
      have hw2 : ∀ b ∈ wr2, z5 b = none ∧ R b = none ∧ ¬ Priv c ρ o b := fun b hb => by
        refine ⟨(hw2' b hb).1, ?_, fun hp => ?_⟩
        · cases q : R b with
          | none => rfl
          | some ob => exact absurd hb (hlive4 b ob (fun e => hCw2 (e ▸ hb)) (Sa.rh _ _ q))
        · obtain ⟨ob, e⟩ := Sa.live hp
          exact hlive4 b ob (fun e => hCw2 (e ▸ hb)) e hb
      obtain ⟨m5, hm5, hsl5⟩ := S5.slots
      obtain ⟨vp, hbp, hrp⟩ := hsl5 _ hput.mem.1
      have hmp5 : m5 px = some vp := by
        rcases hbp with ⟨_, h⟩ | ⟨h, _⟩
        · exact h
        · rw [show (kidC c scope Ca).env.kindOf (px, Slot.val d).1 = some .local from hkpx Ca] at h; cases h
      have hDa2 : h₂.get? Da = some (LO vs k) := hk₂ _ _ hDw hDi
      have hDw2 : Da ∉ wr2 := hlive4 _ _ hDC hDa2
      have hst5 : Wst (i + 1) s5.heap := W.frame _ _ _ hst₂ fun b hb ob e => kp5 b ob (fun h => hCf (h ▸ hb)) e
      -- the inner loop
      have hwl2 : ∀ b ∈ wr, ∃ ob, h₂.get? b = some ob := fun b hb => hlive _ _ hst₂ b hb
      have hfl2 : ∀ b ∈ fp, b ∉ wr2 := fun b hb => by
        rcases hfp b hb with h | ⟨ob, e⟩
        · obtain ⟨ob, e⟩ := hwl2 b h
          exact hlive4 b ob (fun q => hCw (q ▸ h)) e
        · exact hlive4 b ob (fun q => hCf (q ▸ hb)) (Sa.zh _ _ (lei _ _ e))
      have hCf2 : Ca ∉ fp2 := fun hm => by
        rcases hfp2 Ca hm with h | ⟨ob, e⟩
        · exact hCw2 h
        · rw [b5] at e; cases e
      have hDf2 : Da ∉ fp2 := fun hm => by
        rcases hfp2 Da hm with h | ⟨ob, e⟩
        · exact hDw2 h
        · rw [hno5 Da _ zDi hDa2] at e; cases e
      have inner : codeAny (model prog c.w) c.A (.compLoop (.ListComp elt [⟨t1, i1, [], 0⟩, ⟨t2, i2, [t], 0⟩] scope pos) 1 (.ref J2) (.ref Da) (compEnvC scope (clOf c.env scope.names []) Ca c.env))
          (fun r s₅ => match r with | .ok _ => ∃ m, m < ds.length + 1 - i ∧ CIx c ρ o R z1 s1.heap wr Wst Da Ca (fun i => (ds.take i).flatMap fun d => (es d).filterMap (out d)) N ds.length m s₅ | .error e => False) s5 := by
        refine compLoop_21 (CJx c ρ o R z5 s1.heap wr wr2 Wst Wst2 i Da Ca px d vs (fun j => ((es d).take j).filterMap (out d)) (es d).length) ?_ ((es d).length + 1)
          ⟨0, z5, [], ⟨rfl, Nat.zero_le _⟩, PM.le.refl _, b1, hst2, hst5, ⟨k, by rw [List.append_nil]; exact kp5 _ _ hDC hDa2⟩, by show Reps _ (((es d).take 0).filterMap _) _; simp only [List.take_zero, List.filterMap_nil]; exact rfl, Nat.le_refl _, ⟨m5, vp, hm5, hmp5, hrp⟩,
            hno5 Da _ zDi hDa2, b5, (fun b hb => by obtain ⟨ob, e⟩ := hwl2 b hb; exact hno5 b ob (zwi b hb) e), (fun b hb => (hw2 b hb).1), fun b o' h1 h2 h3 e => kp5 b o' h1 (hk₂ _ _ h3 (hkp b o' h1 h2 h3 e))⟩
        rintro n' s' ⟨j, zj, us, ⟨rfl, hj'⟩, lej, Sj, hst2j, hst1j, ⟨kj, hDj⟩, hus, hul, ⟨mj, vj, hmj, hmpj, hrpj⟩, zDj, zCj, zwj, zw2j, hkpj⟩
        have hwj : ∀ b ∈ wr2, zj b = none ∧ R b = none ∧ ¬ Priv c ρ o b := fun b hb => ⟨zw2j b hb, (hw2 b hb).2⟩
        by_cases hlt2 : j < (es d).length
        · refine W2.item j s' _ _ hlt2 hst2j fun v' h₆ tk₆ hPv2 hst6 hk₆ => ?_
          have Sb := Sj.other (t := tk₆) hwj hk₆
          refine hgo2 _ _ _ _ _ _ hst6 ?_
          have he : (es d)[j]? = some (es d)[j] := List.getElem?_eq_getElem hlt2
          have hm6 : h₆.Ns Ca mj := hmj.at' fun ob e => hk₆ _ _ hCw2 e
          have Sk2 := know_local (kid_st ok KO Sb hm6 zCj zC.2.2) hput (fun sl hs ds' e => by subst e; rcases kidF_mem hs with ⟨_, _, q⟩ | ⟨_, _, q⟩ <;> cases q) (hkpx Ca) hm6 hmpj hrpj
          obtain ⟨ρd, hG2, hcap2, hpd, bb, hT, ht1, ht2⟩ := hin j _ he
          refine hG2.run o zj _ _ v' _ _ Sk2 (Rep.mono lej _ (hrep2 j _ v' he hPv2)) fun s7 S7 kp7 => ?_
          have hD6 : h₆.get? Da = some (LO (vs ++ us) kj) := hk₆ _ _ hDw2 hDj
          have hst16 : Wst (i + 1) h₆ := W.frame _ _ _ hst1j fun b hb ob e => hk₆ b ob (hfl2 b hb) e
          have after : ∀ z8 s8, Ext zj s7 z8 s8 → St (kidC c scope Ca) ρd o z8 (restOf zj Ca (clOf c.env scope.names []) h₆) s8 →
              St c ρ o z8 R s8 ∧ Wst2 (j + 1) s8.heap ∧ Wst (i + 1) s8.heap ∧ s8.heap.get? Da = some (LO (vs ++ us) kj) ∧ (∃ m v, s8.heap.Ns Ca m ∧ m px = some v ∧ Rep z8 d v) ∧ (z8 Da = none ∧ z8 Ca = none ∧ (∀ b ∈ wr, z8 b = none) ∧ ∀ b ∈ wr2, z8 b = none) ∧ ∀ b o', b ≠ Ca → b ≠ Da → b ∉ wr → s1.heap.get? b = some o' → s8.heap.get? b = some o' := by
            intro z8 s8 x8 S8
            have kp8 : ∀ b o', b ≠ Ca → h₆.get? b = some o' → s8.heap.get? b = some o' := fun b o' hb e => x8.kp b o' (kp7 b o' hb e)
            obtain ⟨c1, c5, hno8, _⟩ := back Sb zCj x8.le S8 hcap2 kp8
            obtain ⟨m8, hm8, hsl8⟩ := S8.slots
            obtain ⟨v8, hb8, hr8⟩ := hsl8 _ hpd
            have hmp8 : m8 px = some v8 := by
              rcases hb8 with ⟨_, h⟩ | ⟨h, _⟩
              · exact h
              · rw [show (kidC c scope Ca).env.kindOf (px, Slot.val d).1 = some .local from hkpx Ca] at h; cases h
            have hwn : ∀ b ob, b ≠ Ca → h₆.get? b = some ob → zj b = none → z8 b = none := fun b ob hb e hz => hno8 b ob hz e
            refine ⟨c1, ?_, ?_, kp8 _ _ hDC hD6, ⟨m8, v8, hm8, hmp8, hr8⟩, ⟨hno8 _ _ zDj hD6, c5, fun b hb => ?_, fun b hb => ?_⟩, fun b o' h1 h2 h3 e => ?_⟩
            · exact W2.frame _ _ _ hst6 fun b hb ob e => kp8 b ob (fun h => hCf2 (h ▸ hb)) e
            · exact W.frame _ _ _ hst16 fun b hb ob e => kp8 b ob (fun h => hCf (h ▸ hb)) e
            · obtain ⟨ob, e⟩ := hlive _ _ hst16 b hb
              exact hno8 b ob (zwj b hb) e
            · obtain ⟨ob, e⟩ := hlive2 _ _ hst6 b hb
              exact hno8 b ob (zw2j b hb) e
            · refine kp8 b o' h1 (hk₆ _ _ (fun hm => ?_) (hkpj b o' h1 h2 h3 e))
              exact hlive4 b o' h1 (hk₂ _ _ h3 (hkp b o' h1 h2 h3 e)) hm
          refine wpAny_tests_one (hT.run o zj _ s7 _ _ S7 fun z8 s8 x8 S8 => ?_)
          cases bb with
          | true =>
            obtain ⟨y, hout, hE⟩ := ht1 rfl
            rw [if_pos rfl]
            refine hE.run o z8 _ s8 _ _ S8 fun xv z9 s9 x9 S9 r9 => ?_
            obtain ⟨c1, c2, c3, c4, ⟨m9, v9, q1, q2, q3⟩, c6, c7⟩ := after z9 s9 (x8.trans x9) S9
            refine wpAny_list_append_plain (items := (vs ++ us).toArray) ⟨kj, c4⟩ (fun h' hl hs => ?_) (by
              rw [List.size_toArray, List.length_append]
              have h1 : i * N ≤ ds.length * N := Nat.mul_le_mul_right _ (Nat.le_of_lt hlt)
              omega)
            obtain ⟨k', hl'⟩ := hl
            have e' : (vs ++ us).toArray.push xv = (vs ++ (us ++ [xv])).toArray := by simp
            rw [e'] at hl'
            have S10 : St c ρ o z9 R { s9 with heap := h', toks := s9.toks } := c1.other (wr := [Da]) (fun b hb => by rw [List.mem_singleton.mp hb]; exact ⟨c6.1, zD.2⟩) fun b o' hb e => hs.extBut b o' (fun h => hb (by rw [h]; exact List.mem_singleton_self _)) e
            refine ⟨(es d).length + 1 - (j + 1), by omega, j + 1, z9, us ++ [xv], ⟨rfl, hlt2⟩, lej.trans (x8.trans x9).le, S10, ?_, ?_, ⟨k', hl'⟩, ?_, by rw [List.length_append, List.length_singleton]; omega, ⟨m9, v9, Heap.Ns.sameBut (h := s9.heap) q1 hs (Ne.symm hDC), q2, q3⟩, c6.1, c6.2.1, c6.2.2.1, c6.2.2.2, fun b o' h1 h2 h3 e => hs.extBut b o' h2 (c7 b o' h1 h2 h3 e)⟩
            · exact W2.frame _ _ _ c2 fun b hb ob e => hs.extBut b ob (fun h => hDf2 (h ▸ hb)) e
            · exact W.frame _ _ _ c3 fun b hb ob e => hs.extBut b ob (fun h => hDf (h ▸ hb)) e
            · show Reps _ (((es d).take (j + 1)).filterMap (out d)) _
              rw [take_step (es d) (out d) he, hout]
              exact Reps.append (Reps.mono (x8.trans x9).le _ hus) (Reps.one r9)
          | false =>
            rw [if_neg (by decide)]
            obtain ⟨c1, c2, c3, c4, c5, c6, c7⟩ := after z8 s8 x8 S8
            refine ⟨(es d).length + 1 - (j + 1), by omega, j + 1, z8, us, ⟨rfl, hlt2⟩, lej.trans x8.le, c1, c2, c3, ⟨kj, c4⟩, ?_, by omega, c5, c6.1, c6.2.1, c6.2.2.1, c6.2.2.2, c7⟩
            show Reps _ (((es d).take (j + 1)).filterMap (out d)) _
            rw [take_step (es d) (out d) he, ht2 rfl, Option.toList_none, List.append_nil]
            exact Reps.mono x8.le _ hus
        · have hin' : j = (es d).length := by omega
          subst hin'
          refine W2.done _ _ _ hst2j fun h₆ tk₆ hk₆ => ?_
          have Sb := Sj.other (t := tk₆) hwj hk₆
          have hus : Reps zj (((es d).take (es d).length).filterMap (out d)) us := hus
          rw [List.take_length] at hus
          refine ⟨ds.length + 1 - (i + 1), by omega, i + 1, zj, vs ++ us, ⟨rfl, hlt⟩, lei.trans (le5.le.trans lej), Sb, (W.frame _ _ _ hst1j fun b hb ob e => hk₆ b ob (hfl2 b hb) e), ⟨kj, hk₆ _ _ hDw2 hDj⟩, ?_, ?_, ⟨mj, hmj.at' fun ob e => hk₆ _ _ hCw2 e⟩, zDj, zCj, zwj, fun b o' h1 h2 h3 e => hk₆ _ _ (hlive4 b o' h1 (hk₂ _ _ h3 (hkp b o' h1 h2 h3 e))) (hkpj b o' h1 h2 h3 e)⟩
          · show Reps _ ((ds.take (i + 1)).flatMap fun d => (es d).filterMap (out d)) _
            rw [flat_step ds (fun d => (es d).filterMap (out d)) hd]
            exact Reps.append (Reps.mono (le5.le.trans lej) _ hvs) hus
          · rw [List.length_append, Nat.succ_mul]
            omega
      exact compStart_21 inner (W2.self 0 _ _ _ hst2 inner)
    · have hin : i = ds.length := by omega
      subst hin
      refine W.done _ _ _ hsti fun h₂ tk₂ hk₂ => ?_
      have Sa := Si.other (t := tk₂) hwi hk₂
      refine K Da Ca vs k m zi _ ⟨le1.le.trans lei, fun b o' e => hk₂ _ _ (oldW b o' e) (hkp b o' (oldC b o' e) (oldD b o' e) (oldW b o' e) (le1.kp _ _ e))⟩ Sa (hk₂ _ _ hDw hDi) (by have hvs : Reps zi ((ds.take ds.length).flatMap fun d => (es d).filterMap (out d)) vs := hvs; rw [List.take_length] at hvs; exact hvs) zDi zD.2.1 zD.2.2 (hm.at' fun ob e => hk₂ _ _ hCw e) zCi zC.2.1 zC.2.2 hDC oldC
  exact codeAny_compStart_list (loop _ rfl) (W.self 0 _ _ _ hst3 (loop _ rfl))

/-- x = [.. for .. for .. if ..] where the interpreter exchanges the stores -/
theorem X_assignC2 (ok : CxOk c) {x : Str} {p : Pos} {elt t1 i1 t2 i2 t : Expr} {scope : Scope} {pos pos' : Pos} {px : Str} (own : List Str) (caps : List (Str × D)) {ds : List D} (es : D → List D) (out : D → D → Option D) {N : Nat} {P : Fl → Frame → Prop}
    (KO : KidOk c ρ scope own caps) (hi : ItOk c ρ i1 ds) (hsz : ds.length * N + N ≤ sizeLine) (hpx : px ∈ own)
    (hel : ∀ c', IsKid c scope c' → ∀ (i : Nat) (d : D), ds[i]? = some d → El2 c' (kidF own caps) px t1 t2 i2 t elt caps N d (es d) (out d))
    (hu : Put x (.val (.list (ds.flatMap fun d => (es d).filterMap (out d)))) ρ ρ') (hP : P .next ρ')
    (hsw : swapsWithSole [.Name x p] (.ListComp elt [⟨t1, i1, [], 0⟩, ⟨t2, i2, [t], 0⟩] scope pos) pos'.line c.env = pure true)
    (hset : ∀ x, foldedSetIterable i1 c.env x = pure x := by intro _; rfl) (hset2 : ∀ env x, foldedSetIterable i2 env x = pure x := by intro _ _; rfl) : XOk c ρ (.Assign [.Name x p] (.ListComp elt [⟨t1, i1, [], 0⟩, ⟨t2, i2, [t], 0⟩] scope pos) pos') P := by
  constructor
  intro o z R s Q E S K
  rw [exec_Assign]
  refine wpAny_bind (wpAny_standAt ?_)
  rw [hsw]
  refine wpAny_bind (wpAny_pure ?_)
  rw [if_pos rfl]
  show wpAny _ _ (evalThenUse (.ListComp elt [⟨t1, i1, [], 0⟩, ⟨t2, i2, [t], 0⟩] scope pos) c.env (fun v => assignAll v [assign (.Name x p) c.env]) >>= fun _ => pure Flow.next) Q E s
  refine wpAny_bind ?_
  show wpAny _ _ (comprehension (.ListComp elt [⟨t1, i1, [], 0⟩, ⟨t2, i2, [t], 0⟩] scope pos) scope c.env i1.pos (newList []) false (eval i1 c.env) (some fun v => assignAll v [assign (.Name x p) c.env]) >>= fun _ => pure ()) _ E s
  refine wpAny_bind ?_
  refine comp_main2 ok KO hi hsz hpx hel S (fun a C vs n m z' s' x' S' ha hr hz hR hp hm zC RC pC hne hold => ?_) hset hset2
  have hle : z'.le (z'.put a (LO vs n)) := PM.le.put hz
  have S5 := S'.freeze ha hz hR hp
  have hzC5 : (z'.put a (LO vs n)) C = none := by unfold PM.put; rw [if_neg (Ne.symm hne)]; exact zC
  have S6 := S5.holding (wr := [C]) (fun b hb => by rw [List.mem_singleton.mp hb]; exact ⟨hzC5, RC, pC⟩)
  show wpAny _ _ (assignAll (.ref a) [assign (.Name x p) c.env]) _ E s'
  have one : wpAny (model prog c.w) c.A (assign (.Name x p) c.env (.ref a)) (fun _ s'' => ∃ m, s''.heap.Ns C m ∧ ∀ h', Heap.SameBut C s''.heap h' → wpAny (model prog c.w) c.A (pure ()) (fun a s => wpAny (model prog c.w) c.A (pure Flow.next) Q E s) E { s'' with heap := h' }) E s' := by
    refine wpAny_assign_Name (store_val ok S6 hu ⟨a, vs, n, rfl, PM.put_self _ _ _, Reps.mono hle _ hr⟩ fun s7 S7 _ => ?_)
    obtain ⟨oC, eC⟩ : ∃ ob, s'.heap.get? C = some ob := by obtain ⟨ob, _, _, e, _⟩ := hm; exact ⟨ob, e⟩
    obtain ⟨S8, hsame, hw8⟩ := S7.unhold (fun b hb => by rw [List.mem_singleton.mp hb]; exact RC) (fun b hb => by rw [List.mem_singleton.mp hb]; exact ⟨oC, eC⟩)
    refine ⟨m, hm.at' fun ob e => by rw [hsame C (List.mem_singleton_self _)]; exact e, fun h' hs => wpAny_pure (wpAny_pure ?_)⟩
    have S9 : St c ρ' o (z'.put a (LO vs n)) R { s7 with heap := h' } := S8.other (t := s7.toks) (wr := [C]) hw8 fun b o' hb e => hs.extBut b o' (fun h => hb (by rw [h]; exact List.mem_singleton_self _)) e
    exact K .next ρ' o _ _ _ (x'.le.trans hle) S9 rfl hP
  exact one
end Mine
end
/-! L27 -/
section
open PySem PySem.W PyProof.Rows PySem.Spec PySem.Calls
set_option maxRecDepth 100000
set_option maxHeartbeats 1000000
set_option linter.unusedVariables false
namespace Mine
variable {c : Cx} {ρ ρ' : Frame}

noncomputable def pd3 (t : Int × Int × Int) : PyData := .tuple [.int t.1, .int t.2.1, .int t.2.2]
theorem reads3 {z : PM} {h : Heap} (zh : ∀ a b, z a = some b → h.get? a = some b) {t : Int × Int × Int} {v : Value} (r : Rep z (tup3 t) v) : Reads h v (pd3 t) [] := by
  obtain ⟨a, vs, n, rfl, ha, ⟨v1, r1, rfl, ⟨t1, rfl⟩, ⟨v2, r2, rfl, ⟨t2, rfl⟩, ⟨v3, r3, rfl, ⟨t3, rfl⟩, rfl⟩⟩⟩⟩ := r
  exact .tuple (zh _ _ ha) rfl rfl (.cons (.int _ _) (.cons (.int _ _) (.cons (.int _ _) .nil)))
theorem readsAll3 {z : PM} {h : Heap} (zh : ∀ a b, z a = some b → h.get? a = some b) : ∀ {ts : List (Int × Int × Int)} {vs : List Value}, Reps z (ts.map tup3) vs → ReadsAll h vs (ts.map pd3) []
  | [], _, e => by rw [show _ = [] from e]; exact .nil
  | t :: ts, _, ⟨v, r, e, h1, h2⟩ => by rw [e]; exact .cons (reads3 zh h1) (readsAll3 zh h2)
theorem eqv3 (t u : Int × Int × Int) : PyData.eqv (pd3 t) (pd3 u) = (t == u) := by
  obtain ⟨a, b, c⟩ := t
  obtain ⟨a', b', c'⟩ := u
  show (a == a' && (b == b' && (c == c' && true))) = (a == a' && (b == b' && c == c'))
  rw [Bool.and_true]
theorem eqvAll3 : ∀ ts us : List (Int × Int × Int), PyData.eqvAll (ts.map pd3) (us.map pd3) = (ts == us)
  | [], [] => rfl
  | [], _ :: _ => rfl
  | _ :: _, [] => rfl
  | t :: ts, u :: us => by
    rw [List.map_cons, List.map_cons]
    show (PyData.eqv (pd3 t) (pd3 u) && PyData.eqvAll (ts.map pd3) (us.map pd3)) = _
    rw [eqv3, eqvAll3 ts us]; rfl
theorem canLay3 : ∀ ts : List (Int × Int × Int), PyData.canLayAll0 (ts.map pd3) = true
  | [] => rfl
  | t :: ts => by
    rw [List.map_cons]
    show (PyData.canLay0 (pd3 t) && PyData.canLayAll0 (ts.map pd3)) = true
    rw [canLay3 ts]; rfl
theorem depth3 : ∀ ts : List (Int × Int × Int), PyData.depthAll (ts.map pd3) ≤ 1
  | [] => by show (0 : Nat) ≤ 1; decide
  | t :: ts => by
    rw [List.map_cons]
    show max (PyData.depth (pd3 t)) (PyData.depthAll (ts.map pd3)) ≤ 1
    have := depth3 ts
    have h : PyData.depth (pd3 t) = 1 := rfl
    omega
theorem C_ne3 (ok : CxOk c) {ts us : List (Int × Int × Int)} : CmpOk c .NotEq (.list (ts.map tup3)) (.list (us.map tup3)) (!(ts == us)) := by
  constructor
  rintro ρ o z R s v1 v2 Q E S ⟨a, vs, n, rfl, ha, hvs⟩ ⟨b, ws, m, rfl, hb, hws⟩ K
  have hd : PyData.depth (.list (ts.map pd3)) ≤ 2 := by show PyData.depthAll (ts.map pd3) + 1 ≤ 2; have := depth3 ts; omega
  refine SeqAt.compareNe_reads (.list (S.zh _ _ ha) rfl rfl (readsAll3 S.zh hvs)) (.list (S.zh _ _ hb) rfl rfl (readsAll3 S.zh hws)) (canLay3 ts) (canLay3 us) (by have := ok.un; omega) ?_
  rw [show PyData.eqv (.list (ts.map pd3)) (.list (us.map pd3)) = PyData.eqvAll (ts.map pd3) (us.map pd3) from rfl, eqvAll3]
  exact K s Ext.rfl' S

/-! for k, x in enumerate(..) -/
theorem b_enum : bootBuiltins (Str.ofString "enumerate") = some (.type "enumerate") := by decide +kernel
theorem X_enum (ok : CxOk c) {elts : List Expr} {kk : Nat} {tpos p1 p3 pos : Pos} {e : Expr} {body : List Stmt} {ds : List D} {P : Fl → Frame → Prop} (h : EOk c ρ e (.list ds)) (I : Nat → Frame → Prop) (h0 : I 0 ρ)
    (turn : ∀ (i : Nat) (d : D) (ρ₁ : Frame), ds[i]? = some d → I i ρ₁ → ∃ ρ₂, GsOk c ρ₁ elts [.int i, d] ρ₂ ∧ XsOk c ρ₂ body fun fl ρ₃ => match fl with
      | .next | .cont => I (i + 1) ρ₃
      | .brk => P .next ρ₃
      | .ret d => P (.ret d) ρ₃)
    (done : ∀ ρ₁, I ds.length ρ₁ → P .next ρ₁) (hn : (assignEach elts c.env).length = 2 := by rfl) (hstar : (assignEach elts c.env).findIdx? (·.1) = none := by rfl)
    (hx : c.env.kindOf (Str.ofString "enumerate") = some .globalImplicit := by rfl) (hse : starEach [e] c.env = [(false, eval e c.env)] := by rfl)
    (hcall : eval (.Call (.Name (Str.ofString "enumerate") p1) [e] [] p3) c.env = (do callWith p3 (← eval (.Name (Str.ofString "enumerate") p1) c.env) [] (backTo p3 (starEach [e] c.env)) (backToKw p3 (keywordEach [] c.env))) := by rfl)
    (hset : ∀ x, foldedSetIterable (.Call (.Name (Str.ofString "enumerate") p1) [e] [] p3) c.env x = pure x := by intro _; rfl) :
    XOk c ρ (.For (.Tuple elts kk tpos) (.Call (.Name (Str.ofString "enumerate") p1) [e] [] p3) body [] pos) P := by
  constructor
  intro o z R s Q E S K
  refine wpAny_For (Call_ ((E_blt ok hx (globs _).enumerate b_enum (by decide +kernel) (by decide +kernel)).run o z _ s _ _ S fun f z1 s1 le1 S1 r1 => ?_) hcall) hset
  rw [show f = .type "enumerate" from r1]
  refine Pv.callWith_type1 (spliced_more (h.run o z1 _ s1 _ _ S1 fun v z2 s2 le2 S2 r2 => spliced_none ?_) hse) hse rfl
  obtain ⟨a, vs, n, rfl, ha, hr⟩ := r2
  have hl : s2.heap.IsList a vs.toArray := ⟨_, S2.zh _ _ ha, rfl, n, rfl⟩
  have halt : a < s2.heap.objs.size := Heap.lt_size (S2.zh _ _ ha)
  have hn0 := get_size_none s2.heap
  have hn1 : s2.heap.get? (s2.heap.objs.size + 1) = none := Heap.get?_none_of_le (Nat.le_succ _)
  refine call_enumerate_list hl fun h3 he3 hi3 hsz3 hk3 => wpAny_pyIter_enum he3 ?_
  generalize hI : s2.heap.objs.size = It at *
  have W := WalksT.enumerate (prog := prog) (w := c.w) ok.hnd (It + 1) It a (Nat.succ_ne_self _) (Nat.ne_of_lt (Nat.lt_succ_of_lt halt)) (Nat.ne_of_lt halt) vs.toArray
  rw [show vs.toArray.size = ds.length from by rw [List.size_toArray, hr.length]] at W
  have hlen : vs.length = ds.length := hr.length
  have S3 : St c ρ o z2 R { s2 with heap := h3 } := S2.temp (t := s2.toks) hk3
  have hw : ∀ b ∈ [It + 1, It], z2 b = none ∧ R b = none ∧ ¬ Priv c ρ o b := fun b hb => by
    rcases List.mem_cons.mp hb with rfl | hb
    · exact ⟨S2.znew hn1, S2.rnew hn1, priv_new S2 hn1⟩
    · rw [List.mem_singleton.mp hb]; exact ⟨S2.znew hn0, S2.rnew hn0, priv_new S2 hn0⟩
  refine codeAny_forLoop_any (fun n s' => ∃ i ρi oi zi, n = ds.length + 1 - i ∧ i ≤ ds.length ∧ z2.le zi ∧ St c ρi oi zi R s' ∧ ((∃ old, IsEnum s'.heap (It + 1) It i old) ∧ s'.heap.IsListIter It a i ∧ s'.heap.IsList a vs.toArray) ∧ I i ρi ∧ ∀ b ∈ [It + 1, It], zi b = none ∧ R b = none ∧ ¬ Priv c ρi oi b) ?_ (ds.length + 1)
    ⟨0, ρ, o, z2, rfl, Nat.zero_le _, PM.le.refl _, S3, ⟨⟨_, by simpa using he3⟩, hi3, ⟨_, hk3 _ _ (S2.zh _ _ ha), rfl, n, rfl⟩⟩, h0, hw⟩
  rintro n' s' ⟨i, ρi, oi, zi, rfl, hi', lei, Si, hsti, hI', hwi⟩
  by_cases hlt : i < ds.length
  · refine W.item i s' _ _ hlt hsti fun T vals h₁ tk₁ hPt hTs hT hMid hk₁ => ?_
    obtain ⟨t, x, hx', rfl⟩ := hPt
    have S4 := Si.other (t := tk₁) hwi hk₁
    have hTn : s'.heap.get? T = none := Heap.get?_none_of_le hTs
    have hTw := W.apart i T _ hMid
    refine W.go elts kk tpos i T _ _ _ hMid fun h₂ hst₂ hk₂ => ?_
    have S5 := S4.other (t := tk₁) hwi hk₂
    have hT2 : IsTup h₂ T #[.int i t, x] := by
      obtain ⟨ob, q1, q2, m, q3⟩ := hT
      exact ⟨ob, hk₂ _ _ hTw q1, q2, m, q3⟩
    have S6 := S5.holding (wr := [It + 1, It]) hwi
    obtain ⟨d, hd⟩ : ∃ d, ds[i]? = some d := ⟨_, List.getElem?_eq_getElem hlt⟩
    obtain ⟨v', q1, q2⟩ := hr.get hd
    have hxv : x = v' := by rw [List.getElem?_toArray, q1] at hx'; cases hx'; rfl
    obtain ⟨ρ₂, hG, hX⟩ := turn i d ρi hd hI'
    refine assign_Tuple_tuple ok.hnd (t := T) (items := #[.int i t, x]) hT2 hn hstar fun h₄ he4 => ?_
    have hk4 : ∀ b o', h₂.get? b = some o' → h₄.get? b = some o' := fun b o' e => he4 b o' (Nat.ne_of_lt (Heap.lt_size e)) e
    refine hG.run oi zi _ _ [.int i t, x] _ _ (S6.temp (t := tk₁) hk4) ⟨_, _, rfl, ⟨t, rfl⟩, _, _, rfl, by rw [hxv]; exact Rep.mono lei _ q2, rfl⟩ fun s7 S7 => ?_
    have hlive : ∀ b ∈ [It + 1, It], ∃ ob, h₂.get? b = some ob := fun b hb => by
      obtain ⟨⟨old, e1⟩, ⟨ob, e2, _⟩, _⟩ := hst₂
      rcases List.mem_cons.mp hb with rfl | hb
      · exact ⟨_, e1⟩
      · rw [List.mem_singleton.mp hb]; exact ⟨_, e2⟩
    refine hX.run oi zi _ s7 _ _ S7 fun fl ρ₃ o₃ z₃ s₈ f le8 S8 hf hP => ?_
    obtain ⟨S9, hsame, hw9⟩ := S8.unhold (fun b hb => (hwi b hb).2.1) hlive
    have hst9 := W.frame (i + 1) h₂ s₈.heap hst₂ fun b hb ob e => by
      rcases List.mem_cons.mp hb with rfl | hb
      · rw [hsame _ (by simp)]; exact e
      rcases List.mem_cons.mp hb with rfl | hb
      · rw [hsame _ (by simp)]; exact e
      · rw [List.mem_singleton.mp hb] at e ⊢
        have e1 := S5.zh a _ (lei _ _ ha)
        rw [show h₂.get? a = some (LO vs n) from e1] at e; cases e
        exact S9.zh _ _ (le8 _ _ (lei _ _ ha))
    cases fl with
    | next => rw [show f = .next from hf]; exact ⟨ds.length + 1 - (i + 1), by omega, i + 1, ρ₃, o₃, z₃, rfl, hlt, lei.trans le8, S9, hst9, hP, hw9⟩
    | cont => rw [show f = .cont from hf]; exact ⟨ds.length + 1 - (i + 1), by omega, i + 1, ρ₃, o₃, z₃, rfl, hlt, lei.trans le8, S9, hst9, hP, hw9⟩
    | brk => rw [show f = .brk from hf]; exact K .next ρ₃ o₃ z₃ s₈ _ ((le1.trans le2).le.trans (lei.trans le8)) S9 rfl hP
    | ret d => obtain ⟨v', rfl, hv'⟩ := hf; exact K (.ret d) ρ₃ o₃ z₃ s₈ _ ((le1.trans le2).le.trans (lei.trans le8)) S9 ⟨v', rfl, hv'⟩ hP
  · have hin : i = ds.length := by omega
    subst hin
    refine W.done _ _ _ hsti fun h₁ tk₁ hk₁ => wpAny_execs_nil ?_
    exact K .next ρi oi zi _ _ ((le1.trans le2).le.trans lei) (Si.other hwi hk₁) rfl (done _ hI')
end Mine
end
/-! L28 -/
section
open PySem PySem.W PyProof.Rows PySem.Spec PySem.Calls
set_option maxRecDepth 100000
set_option maxHeartbeats 1000000
set_option linter.unusedVariables false
namespace Mine

/-! what law draws -/
noncomputable def startsL : List Int := [0, 7, 4, 17, 21, 4]
noncomputable def pick63 (xs : List Int) (k : Nat) : List Int := pick xs (some (k : Int)) (some 63) (some 6)
noncomputable def drawnAt (xs : List Int) (k : Nat) : Int := startsL.getD k 0 + ((pick63 xs k).map fun x => x.fmod (10 ^ 6)).sum
noncomputable def drawnUpto (xs : List Int) (k : Nat) : List Int := (List.range k).map (drawnAt xs)
noncomputable def drawnOf (xs : List Int) : List Int := drawnUpto xs 6
noncomputable def bitsL (xs : List Int) : List Int := (drawnOf xs).map fun d => d.fmod 2
noncomputable def gapL (xs : List Int) : Int := (drawnOf xs).sum.fmod 3
theorem pick_map {α β : Type} (xs : List α) (f : α → β) (lo hi st : Option Int) : pick (xs.map f) lo hi st = (pick xs lo hi st).map f := by
  unfold pick
  rw [List.length_map, List.map_filterMap]
  congr 1
  funext i
  rw [List.getElem?_map]
theorem fits_drawn (xs : List Int) : Fits (drawnOf xs) (bitsL xs) where
  nd := by simp [drawnOf, drawnUpto]
  nb := by simp [bitsL, drawnOf, drawnUpto]
  bit := fun b hb => by
    obtain ⟨d, _, rfl⟩ := List.mem_map.mp hb
    have := fmod_lt d (b := 2) (by decide)
    omega
theorem gap_bd (xs : List Int) : ∃ g : Nat, g < 3 ∧ gapL xs = g := by
  have := fmod_lt (drawnOf xs).sum (b := 3) (by decide)
  exact ⟨(gapL xs).toNat, by unfold gapL; omega, by unfold gapL; omega⟩

/-! sizes -/
noncomputable def mulB (a b : Int) : Bool := !(decide (Builtin.Int.intBits a > shortFactorBits) && decide (Builtin.Int.intBits b > shortFactorBits) && Builtin.Int.intTooBig (Builtin.Int.intBits a + Builtin.Int.intBits b))
theorem mulB_ok {a b : Int} (h : mulB a b = true) : IntMulOk a b := by
  unfold mulB at h
  unfold IntMulOk
  rw [Bool.not_eq_true'] at h
  rw [h]; decide
noncomputable def facP (parts : List Int) (t : Int × Int × Int) : Int := parts.getD t.1.toNat 0 ^ ((t.2.1 - t.2.2).fdiv t.1).toNat
noncomputable def valueFit (parts : List Int) : List (Int × Int × Int) → Int → Bool
  | [], v => true
  | t :: r, v => decide (1 ≤ t.1) && decide (t.1 ≤ 100) && decide (t.1.toNat < parts.length) && decide (0 ≤ (t.2.1 - t.2.2).fdiv t.1) && decide ((Builtin.Int.intBits (parts.getD t.1.toNat 0) : Int) * (t.2.1 - t.2.2).fdiv t.1 ≤ 2 ^ 27) && mulB v (facP parts t) && valueFit parts r (v * facP parts t)
noncomputable def spareN (bs : List Int) : Int := (spareOf bs).sum
noncomputable def firstB (bs : List Int) (gap : Int) : Str := firstOf (spareN bs) (hooksOf (spareOf bs)) gap
noncomputable def secondB (bs : List Int) (gap : Int) : Str := secondOf (hooksOf (spareOf bs)) gap
noncomputable def nearB (bs : List Int) (gap : Int) : WS := wsOf (firstB bs gap ++ Str.ofString "x")
noncomputable def farB (bs : List Int) (gap : Int) : WS := wsOf (secondB bs gap ++ Str.ofString "x \t")
noncomputable def octB (bs : List Int) : List Int := octetsOf (tallyOf (spareOf bs)) (spareN bs)
noncomputable def sumB (bs : List Int) : Int := ((List.range (spareOf bs).length).map fun r : Nat => (r : Int) * (spareOf bs).getD r 0).sum
noncomputable def sizeB (bs : List Int) (gap : Int) : Bool :=
  fitVar (octB bs ++ [255, 191, 65]) && valueFit (partsOf (spareN bs).toNat) (nevOf (nearB bs gap) (farB bs gap)) (64 ^ (sumB bs).toNat) && decide (0 ≤ sumB bs) && decide (sumB bs ≤ 1000) &&
  decide ((nevOf (nearB bs gap) (farB bs gap)).length ≤ 100) && ((waysOf bs).all fun w => decide (0 ≤ w) && decide (w ≤ 10)) && decide ((waysOf bs).length ≤ 36) && decide ((firstB bs gap).length ≤ 120) && decide ((secondB bs gap).length ≤ 120)
theorem size_a : ∀ k < 8, ∀ g < 3, sizeB (bitsOf (0 + k)) (g : Nat) = true := by decide +kernel
theorem size_b : ∀ k < 8, ∀ g < 3, sizeB (bitsOf (8 + k)) (g : Nat) = true := by decide +kernel
theorem size_c : ∀ k < 8, ∀ g < 3, sizeB (bitsOf (16 + k)) (g : Nat) = true := by decide +kernel
theorem size_d : ∀ k < 8, ∀ g < 3, sizeB (bitsOf (24 + k)) (g : Nat) = true := by decide +kernel
theorem size_e : ∀ k < 8, ∀ g < 3, sizeB (bitsOf (32 + k)) (g : Nat) = true := by decide +kernel
theorem size_f : ∀ k < 8, ∀ g < 3, sizeB (bitsOf (40 + k)) (g : Nat) = true := by decide +kernel
theorem size_g : ∀ k < 8, ∀ g < 3, sizeB (bitsOf (48 + k)) (g : Nat) = true := by decide +kernel
theorem size_h : ∀ k < 8, ∀ g < 3, sizeB (bitsOf (56 + k)) (g : Nat) = true := by decide +kernel
theorem size_all : ∀ k < 64, ∀ g < 3, sizeB (bitsOf k) (g : Nat) = true := chunk8 (P := fun k => ∀ g < 3, sizeB (bitsOf k) (g : Nat) = true) size_a size_b size_c size_d size_e size_f size_g size_h

structure LawFacts (bs : List Int) (gap : Int) (number : Int) : Prop where
  var : varOf (octB bs ++ [255, 191, 65]) = some (number, [255, 191, 65])
  l1 : lessOf (farB bs gap) (wsOf (firstB bs gap ++ Str.ofString " x")) = true
  l2 : lessOf (nearB bs gap) (wsOf (secondB bs gap ++ Str.ofString " x")) = ((tallyOf (spareOf bs)).sum == 1)
  l3 : lessOf (wsOf (Str.ofString "\tx")) (wsOf (Txt.mul blk (spareN bs) ++ Str.ofString "\tx")) = false
  l4 : lessOf (wsOf (Txt.mul blk (spareN bs) ++ Str.ofString "\tx")) (wsOf (Txt.mul tb (spareN bs) ++ Str.ofString "\tx")) = false
  l5 : lessOf (wsOf (Txt.mul tb (gap + 1) ++ Str.ofString "x")) (wsOf (Txt.mul blk (gap + 2) ++ Str.ofString "x")) = false
  e1 : nevOf (wsOf (Txt.mul tb (gap + 1) ++ Str.ofString "x")) (wsOf (Txt.mul blk (gap + 2) ++ Str.ofString "x")) = eachOf gap
  e2 : nevOf (wsOf (Txt.mul blk (gap + 2) ++ Str.ofString "x")) (wsOf (Txt.mul tb (gap + 1) ++ Str.ofString "x")) = (eachOf gap).map fun t => (t.1, t.2.2, t.2.1)
  due : nevOf (nearB bs gap) (farB bs gap) = dueOf (waysOf bs) (spareN bs) gap
  num : number = 11 * valueAt (partsOf (spareN bs).toNat) (nevOf (nearB bs gap) (farB bs gap)) (64 ^ (sumB bs).toNat)
theorem law_facts {bs : List Int} {gap : Int} (h : lawB bs gap = true) : ∃ number, LawFacts bs gap number := by
  unfold lawB at h
  dsimp only at h
  cases hv : varOf (octetsOf (tallyOf (spareOf bs)) (spareOf bs).sum ++ [255, 191, 65]) with
  | none => rw [hv] at h; exact absurd (show false = true from h) (by decide)
  | some p =>
    obtain ⟨number, rest⟩ := p
    rw [hv] at h
    simp only [Bool.and_eq_true, Bool.not_eq_true', beq_iff_eq] at h
    obtain ⟨h0, ⟨h1, h2⟩, ⟨⟨⟨⟨⟨⟨h3, h4⟩, h5⟩, h6⟩, h7⟩, h8⟩, h9⟩⟩ := h
    refine ⟨number, by rw [h0] at hv; exact hv, h1, ?_, h3, h4, h5, h6, h7, h8, h9⟩
    exact h2
structure Fit (bs : List Int) : Prop where
  n0 : 0 ≤ spareN bs
  n12 : spareN bs ≤ 12
  small : Small (spareOf bs)
  tally : TallyOk (spareOf bs)
  hl : (hooksOf (spareOf bs)).length ≤ 20
  hb : ∀ h ∈ hooksOf (spareOf bs), 1 ≤ h ∧ h ≤ 12
  tl : (tallyOf (spareOf bs)).length ≤ 40
  tb : ∀ x ∈ tallyOf (spareOf bs), 0 ≤ x ∧ x ≤ 5
theorem fit_of {k : Nat} (hk : k < 64) : Fit (bitsOf k) := by
  have h := fit_all k hk
  unfold fitB at h
  simp only [Bool.and_eq_true, decide_eq_true_eq, List.all_eq_true] at h
  obtain ⟨⟨⟨⟨⟨⟨⟨h1, h2⟩, h3⟩, h4⟩, h5⟩, h6⟩, h7⟩, h8⟩ := h
  have ht := tallyOk_of (tally_all k hk)
  exact ⟨h2, h1, ht.small, ht, h3, h4, h5, h6⟩
structure Sized (bs : List Int) (gap : Int) : Prop where
  var : fitVar (octB bs ++ [255, 191, 65]) = true
  val : valueFit (partsOf (spareN bs).toNat) (nevOf (nearB bs gap) (farB bs gap)) (64 ^ (sumB bs).toNat) = true
  s0 : 0 ≤ sumB bs
  s1 : sumB bs ≤ 1000
  nl : (nevOf (nearB bs gap) (farB bs gap)).length ≤ 100
  wb : ∀ w ∈ waysOf bs, 0 ≤ w ∧ w ≤ 10
  wl : (waysOf bs).length ≤ 36
  fl : (firstB bs gap).length ≤ 120
  sl : (secondB bs gap).length ≤ 120
theorem sized_of {k g : Nat} (hk : k < 64) (hg : g < 3) : Sized (bitsOf k) g := by
  have h := size_all k hk g hg
  unfold sizeB at h
  simp only [Bool.and_eq_true, decide_eq_true_eq, List.all_eq_true] at h
  obtain ⟨⟨⟨⟨⟨⟨⟨⟨h1, h2⟩, h3⟩, h4⟩, h5⟩, h6⟩, h7⟩, h8⟩, h9⟩ := h
  exact ⟨h1, h2, h3, h4, h5, h6, h7, h8, h9⟩
end Mine
end
/-! L29 -/
section
open PySem PySem.W PyProof.Rows PySem.Spec PySem.Calls
set_option maxRecDepth 100000
set_option maxHeartbeats 1000000
set_option linter.unusedVariables false
namespace Mine
open PySem.Builtin PySem.Builtin.Str PySem.StrLaws
variable {c : Cx} {ρ ρ' : Frame}

theorem pick63_len {α : Type} (xs : List α) (k : Nat) : (pick xs (some (k : Int)) (some 63) (some 6)).length ≤ xs.length := by
  unfold pick
  refine Nat.le_trans (List.length_filterMap_le _ _) ?_
  refine sliceRange_length_le _ _ _ _ (fun _ => ?_) (fun h => absurd (by show (6 : Int) > 0; decide) h)
  unfold sliceBounds
  simp only [Option.getD_some, show (6 : Int) > 0 from by decide, if_true]
  constructor <;> (repeat' split) <;> omega
theorem E_slice6 {value st : Expr} {lower upper : Option Expr} {p pos : Pos} {xs ys : List D} {lo hi : Option Int} {k : Int} (hv : EOk c ρ value (.list xs)) (hl : PtOk c ρ lower lo) (hu : PtOk c ρ upper hi) (hk : EOk c ρ st (.int k)) (hk0 : k ≠ 0) (hsz : xs.length ≤ sizeLine) (hp : pick xs lo hi (some k) = ys)
    (ht : ∀ o r, letTemporaryGo value o r = pure () := by intro _ _; rfl) : EOk c ρ (.Subscript value (.Slice lower upper (some st) p) pos) (.list ys) := hp ▸ E_sliceS hv hl hu hk hk0 hsz ht
theorem X_skip {test : Expr} {body : List Stmt} {pos} {b : Bool} {P : Fl → Frame → Prop} (ht : TOk c ρ test b) (hb : b = false) (hP : P .next ρ) : XOk c ρ (.If test body [] pos) P := by
  subst hb
  exact X_if ht (fun h => by cases h) fun _ => X_nil hP
noncomputable def mapI (f : Int → Int) : D → Option D := fun d => match d with | .int x => some (.int (f x)) | _ => none
theorem map_ints (l : List Int) (f : Int → Int) : (l.map D.int).filterMap (mapI f) = (l.map f).map D.int := by
  induction l with
  | nil => rfl
  | cons x l ih =>
    rw [List.map_cons, List.filterMap_cons, List.map_cons, List.map_cons, ih]; rfl

theorem cuts_len : ∀ (l : List Nat) (i : Nat), (cutsFrom i l).length ≤ l.length
  | [], _ => Nat.le_refl _
  | c :: r, i => by
    unfold cutsFrom
    have := cuts_len r (i + 1)
    split <;> simp <;> omega
theorem parts_mem (X : Str) (w : Nat) : ∀ (cuts : List Nat) (a : Nat), ∀ Y ∈ partsFrom X w a cuts, Y.length ≤ X.length
  | [], a, Y, h => by
    rw [show partsFrom X w a [] = [strSub X a X.length] from rfl] at h
    rw [List.mem_singleton.mp h]
    show (X.cps.extract a X.length).size ≤ X.cps.size
    rw [Array.size_extract]; omega
  | c :: r, a, Y, h => by
    rw [show partsFrom X w a (c :: r) = strSub X a c :: partsFrom X w (c + w) r from rfl] at h
    rcases List.mem_cons.mp h with rfl | h
    · show (X.cps.extract a c).size ≤ X.cps.size
      rw [Array.size_extract]; omega
    · exact parts_mem X w r (c + w) Y h
theorem parts_cnt (X : Str) (w : Nat) : ∀ (cuts : List Nat) (a : Nat), (partsFrom X w a cuts).length = cuts.length + 1
  | [], a => rfl
  | c :: r, a => by
    rw [show partsFrom X w a (c :: r) = strSub X a c :: partsFrom X w (c + w) r from rfl, List.length_cons, parts_cnt X w r, List.length_cons]
theorem split_bd (X : Str) : (Txt.split X (Str.ofString "\r\n")).length ≤ X.length + 1 ∧ ∀ Y ∈ Txt.split X (Str.ofString "\r\n"), Y.length ≤ X.length := by
  rw [split_is]
  refine ⟨?_, parts_mem X 2 _ 0⟩
  rw [parts_cnt]
  have := cuts_len (chars X) 0
  have hl : X.length = (chars X).length := by unfold chars; rw [Array.length_toList]; rfl
  omega

noncomputable def rowOut : D → Option D := fun d => match d with | .str X => if isDot X then some (.str X) else none | _ => none
theorem row_out (l : List Str) : (l.map D.str).filterMap rowOut = (l.filter isDot).map D.str := by
  induction l with
  | nil => rfl
  | cons x l ih =>
    rw [List.map_cons, List.filterMap_cons, List.filter_cons, ih]
    have : rowOut (D.str x) = if isDot x then some (.str x) else none := rfl
    rw [this]
    cases isDot x <;> rfl
noncomputable def leadOut (X : Str) : D → Option D := fun d => match d with | .int k => if leadAt X (k - 1).toNat then some (.int k) else none | _ => none
theorem lead_out (X : Str) : ∀ n : Nat, ((List.range n).map fun i : Nat => D.int (1 + i)).filterMap (leadOut X) = ((List.range n).filter (leadAt X)).map fun i : Nat => D.int (1 + i)
  | 0 => rfl
  | n + 1 => by
    rw [List.range_succ, List.map_append, List.filterMap_append, List.filter_append, List.map_append, lead_out X n]
    congr 1
    rw [List.map_cons, List.map_nil, List.filterMap_cons, List.filter_cons]
    have : leadOut X (D.int (1 + (n : Int))) = if leadAt X n then some (.int (1 + (n : Int))) else none := by
      unfold leadOut
      dsimp only
      rw [show (1 + (n : Int) - 1).toNat = n from by omega]
    rw [this]
    cases leadAt X n <;> rfl
noncomputable def leadD : D → D := fun d => match d with | .str X => .int (leads X) | _ => .none
theorem lead_map (l : List Str) : (l.map D.str).map leadD = (l.map fun X => (leads X : Int)).map D.int := by
  rw [List.map_map, List.map_map]; rfl
theorem room_kid {c' : Cx} {scope : Scope} {rk : Nat} (kd : IsKid c scope c') (h : Room c rk) : Room c' rk := ⟨by rw [kd.A]; exact h.dp, by rw [kd.A]; exact h.un⟩

theorem down_ok : ∀ n < 41, Builtin.Range.rangeSize ((n : Nat) - 1 : Int) (-1) (-1) = (n : Nat) ∧ Builtin.Range.small ((n : Nat) - 1 : Int) (-1) (-1) = true := by decide +kernel
theorem oct_map (tally : List Int) (n : Int) : (rngInts ((tally.length : Int) - 1) (-1) tally.length).map (fun s => octetAt tally n s.toNat) = octetsOf tally n := by
  unfold rngInts octetsOf
  rw [List.map_map]
  apply List.map_congr_left
  intro i hi
  have := List.mem_range.mp hi
  show octetAt tally n (((tally.length : Int) - 1 + (i : Int) * (-1)).toNat) = _
  rw [show ((tally.length : Int) - 1 + (i : Int) * (-1)).toNat = tally.length - 1 - i from by omega]

theorem getI0 {l : List Int} {i : Nat} (h : i < l.length) : (l.map D.int)[((i : Nat) : Int).toNat]? = some (.int (l.getD i 0)) := getI h

/-! the leads -/
theorem len_blk : blk.length = 1 := by decide
theorem len_tb : tb.length = 1 := by decide
theorem len_x : (Str.ofString "x").length = 1 := by decide
theorem len_bx : (Str.ofString " x").length = 2 := by decide
theorem len_xbt : (Str.ofString "x \t").length = 3 := by decide
theorem len_tx : (Str.ofString "\tx").length = 2 := by decide
theorem mulb {n : Int} {N : Nat} (h : n ≤ (N : Int)) : (Txt.mul blk n).length ≤ N := by
  have := len_mul_leN (x := blk) (n := n) (L := 1) (N := N) (by rw [len_blk]; exact Nat.le_refl _) h
  omega
theorem mult {n : Int} {N : Nat} (h : n ≤ (N : Int)) : (Txt.mul tb n).length ≤ N := by
  have := len_mul_leN (x := tb) (n := n) (L := 1) (N := N) (by rw [len_tb]; exact Nat.le_refl _) h
  omega
noncomputable def mapS (f : Int → Str) : D → Option D := fun d => match d with | .int x => some (.str (f x)) | _ => none
theorem map_strs (l : List Int) (f : Int → Str) : (l.map D.int).filterMap (mapS f) = (l.map f).map D.str := by
  induction l with
  | nil => rfl
  | cons x l ih =>
    rw [List.map_cons, List.filterMap_cons, List.map_cons, List.map_cons, ih]; rfl
theorem sum_len {B : Nat} : ∀ {ys : List Str}, (∀ y ∈ ys, y.length ≤ B) → (ys.map (·.length)).sum ≤ ys.length * B
  | [], _ => by simp
  | y :: ys, h => by
    have ih := sum_len (ys := ys) fun x hx => h x (List.mem_cons_of_mem _ hx)
    have hy := h y List.mem_cons_self
    rw [List.map_cons, List.sum_cons, List.length_cons, Nat.succ_mul]; omega
noncomputable def join1 (hs : List Int) : Str := Str.join (Str.ofString "") (hs.map fun h => Txt.mul blk (h - 1) ++ tb)
noncomputable def join2 (hs : List Int) : Str := Str.join (Str.ofString "") (hs.map fun h => Txt.mul blk h ++ tb)
theorem first_len (bs : List Int) (g : Int) : (firstB bs g).length = (Txt.mul blk (spareN bs)).length + 1 + (join1 (hooksOf (spareOf bs))).length + (Txt.mul blk g).length := by
  unfold firstB firstOf
  rw [strLen_append, strLen_append, strLen_append, len_tb]; rfl
theorem second_len (bs : List Int) (g : Int) : (secondB bs g).length = 1 + (join2 (hooksOf (spareOf bs))).length + (Txt.mul blk g).length := by
  unfold secondB secondOf
  rw [strLen_append, strLen_append, len_tb]; rfl
theorem join_bd {hs : List Int} (hl : hs.length ≤ 20) (hb : ∀ h ∈ hs, 1 ≤ h ∧ h ≤ 12) {f : Int → Str} (hf : ∀ h, 1 ≤ h ∧ h ≤ 12 → (f h).length ≤ 14) : ((hs.map f).map (·.length)).sum + (hs.map f).length ≤ 1048576 := by
  have := sum_len (B := 14) (ys := hs.map f) fun y hy => by
    obtain ⟨h, hh, rfl⟩ := List.mem_map.mp hy
    exact hf h (hb h hh)
  rw [List.length_map] at this ⊢
  have : hs.length * 14 ≤ 20 * 14 := Nat.mul_le_mul_right _ hl
  omega
theorem oct_len (bs : List Int) : (octB bs).length = (tallyOf (spareOf bs)).length := by simp [octB, octetsOf]

/-! law's frame -/
noncomputable def frGo : List Str → Nat → (Nat → Slot) → Frame
  | [], _, _ => []
  | x :: r, k, f => (x, f k) :: frGo r (k + 1) f
noncomputable def upd (f : Nat → Slot) (i : Nat) (s : Slot) : Nat → Slot := fun j => bif Nat.beq j i then s else f j
theorem upd_same (f : Nat → Slot) (i : Nat) (s : Slot) : upd f i s i = s := by
  unfold upd; rw [show Nat.beq i i = true from Nat.beq_refl i]; rfl
theorem upd_other (f : Nat → Slot) {i j : Nat} (s : Slot) (h : j ≠ i) : upd f i s j = f j := by
  unfold upd
  have : Nat.beq j i = false := by
    cases e : Nat.beq j i with
    | false => rfl
    | true => exact absurd (Nat.eq_of_beq_eq_true e) h
  rw [this]; rfl
theorem frGo_congr : ∀ (l : List Str) (k : Nat) (f g : Nat → Slot), (∀ j, k ≤ j → f j = g j) → frGo l k f = frGo l k g
  | [], _, _, _, _ => rfl
  | x :: r, k, f, g, h => by
    unfold frGo
    rw [h k (Nat.le_refl _), frGo_congr r (k + 1) f g fun j hj => h j (by omega)]
theorem frGo_put : ∀ (l : List Str) (k i : Nat) (f : Nat → Slot) {x : Str} {sl : Slot}, l[i]? = some x → Put x sl (frGo l k f) (frGo l k (upd f (k + i) sl))
  | [], _, i, _, _, _, h => by simp at h
  | y :: r, k, 0, f, x, sl, h => by
    have e : y = x := by simpa using h
    subst e
    show Put y sl ((y, f k) :: frGo r (k + 1) f) ((y, upd f k sl k) :: frGo r (k + 1) (upd f k sl))
    rw [upd_same, frGo_congr r (k + 1) (upd f k sl) f fun j hj => upd_other f sl (by omega)]
    exact .head
  | y :: r, k, i + 1, f, x, sl, h => by
    unfold frGo
    rw [upd_other f sl (show k ≠ k + (i + 1) by omega)]
    have := frGo_put r (k + 1) i f (x := x) (sl := sl) (by simpa using h)
    rw [show k + 1 + i = k + (i + 1) from by omega] at this
    exact .tail this
theorem frGo_at : ∀ (l : List Str) (k i : Nat) (f : Nat → Slot) {x : Str}, l[i]? = some x → (x, f (k + i)) ∈ frGo l k f
  | [], _, i, _, _, h => by simp at h
  | y :: r, k, 0, f, x, h => by
    have e : y = x := by simpa using h
    subst e
    exact List.mem_cons_self
  | y :: r, k, i + 1, f, x, h => by
    have := frGo_at r (k + 1) i f (x := x) (by simpa using h)
    rw [show k + 1 + i = k + (i + 1) from by omega] at this
    exact List.mem_cons_of_mem _ this
theorem frGo_mem : ∀ (l : List Str) (k : Nat) (f : Nat → Slot) (p : Str × Slot), p ∈ frGo l k f → ∃ i x, l[i]? = some x ∧ p = (x, f (k + i))
  | [], _, _, _, h => by cases h
  | y :: r, k, f, p, h => by
    rcases List.mem_cons.mp h with rfl | h
    · exact ⟨0, y, rfl, rfl⟩
    · obtain ⟨i, x, h1, h2⟩ := frGo_mem r (k + 1) f p h
      exact ⟨i + 1, x, by simpa using h1, by rw [h2, show k + 1 + i = k + (i + 1) from by omega]⟩
theorem frGo_names : ∀ (l : List Str) (k : Nat) (f : Nat → Slot), (frGo l k f).map (·.1) = l
  | [], _, _ => rfl
  | x :: r, k, f => by unfold frGo; rw [List.map_cons, frGo_names r (k + 1) f]
noncomputable def lawN : List Str := [Str.ofString "script", Str.ofString "drawn", Str.ofString "k", Str.ofString "start", Str.ofString "bits", Str.ofString "mail", Str.ofString "told", Str.ofString "typed", Str.ofString "even", Str.ofString "rows", Str.ofString "spare", Str.ofString "n", Str.ofString "hooks", Str.ofString "tally", Str.ofString "octets", Str.ofString "reader", Str.ofString "number", Str.ofString "broken", Str.ofString "gap", Str.ofString "first", Str.ofString "second", Str.ofString "near", Str.ofString "far", Str.ofString "alone", Str.ofString "run", Str.ofString "tabs", Str.ofString "blanks", Str.ofString "answer", Str.ofString "t", Str.ofString "each", Str.ofString "a", Str.ofString "b", Str.ofString "ways", Str.ofString "due", Str.ofString "seen", Str.ofString "value", Str.ofString "parts"]
noncomputable def frL (f : Nat → Slot) : Frame := frGo lawN 0 f
noncomputable def noF : Nat → Slot := fun _ => .no
theorem at_f {f : Nat → Slot} {x : Str} {sl : Slot} (i : Nat) (h1 : lawN[i]? = some x) (h2 : f i = sl) : (x, sl) ∈ frL f := by
  have := frGo_at lawN 0 i f h1
  rw [Nat.zero_add, h2] at this; exact this
theorem put_f {f : Nat → Slot} {x : Str} {sl : Slot} (i : Nat) (h1 : lawN[i]? = some x) : Put x sl (frL f) (frL (upd f i sl)) := by
  have := frGo_put lawN 0 i f (sl := sl) h1
  rw [Nat.zero_add] at this; exact this
theorem frL_congr {f g : Nat → Slot} (h : ∀ j, f j = g j) : frL f = frL g := frGo_congr _ _ _ _ fun j _ => h j
theorem X_forL (ok : CxOk c) {target iter : Expr} {body : List Stmt} {pos} {ds : List D} {P : Fl → Frame → Prop} {f : Nat → Slot} (hi : ItOk c (frL f) iter ds) (I : (Nat → Slot) → Nat → Frame → Prop) (h0 : I f 0 (frL f))
    (turn : ∀ (i : Nat) (d : D) (ρ₁ : Frame), ds[i]? = some d → I f i ρ₁ → ∃ ρ₂, GOk c ρ₁ target d ρ₂ ∧ XsOk c ρ₂ body fun fl ρ₃ => match fl with
      | .next | .cont => I f (i + 1) ρ₃
      | .brk => P .next ρ₃
      | .ret d => P (.ret d) ρ₃)
    (done : ∀ ρ₁, I f ds.length ρ₁ → P .next ρ₁) (hset : ∀ x, foldedSetIterable iter c.env x = pure x := by intro _; rfl) : XOk c (frL f) (.For target iter body [] pos) P :=
  X_for ok hi (I f) h0 turn done hset
theorem Sg_forL (T : TopCx c) (rm : Room c 1) {target iter : Expr} {y : Str} {p1 p2 p3 p4 p5 p6 p7 p8 pos : Pos} {it : Addr} {r : Option (List Int)} {b1 ss : List Stmt} {ds : List D} {P : Fl → Frame → Prop} {f : Nat → Slot} (hi : ItOk c (frL f) iter ds) (I : (Nat → Slot) → Frame → Prop) (h0 : I f (frL f)) (hy : ∀ ρ₁, I f ρ₁ → (y, Slot.val (.val (.ref it))) ∈ ρ₁)
    (hG : ∀ (i : Nat) (d : D) (ρ₁ : Frame), ds[i]? = some d → I f ρ₁ → ∃ ρ₂, GOk c ρ₁ target d ρ₂ ∧ I f ρ₂) (hfit : ∀ xs, r = some xs → fitVar xs = true) (hv : varL r = none) (done : ∀ ρ₁, I f ρ₁ → XsOk c ρ₁ ss P)
    (hset : ∀ x, foldedSetIterable iter c.env x = pure x := by intro _; rfl)
    (hx : c.env.kindOf (Str.ofString "_parse_varint") = some .globalImplicit := by rfl) (hx2 : c.env.kindOf (Str.ofString "StopIteration") = some .globalImplicit := by rfl) (hse : starEach [Expr.Name y p2] c.env = [(false, eval (.Name y p2) c.env)] := by rfl)
    (hcall : eval (.Call (.Name (Str.ofString "_parse_varint") p1) [.Name y p2] [] p3) c.env = (do callWith p3 (← eval (.Name (Str.ofString "_parse_varint") p1) c.env) [] (backTo p3 (starEach [Expr.Name y p2] c.env)) (backToKw p3 (keywordEach [] c.env))) := by rfl)
    (hin : interactive c.env = false := by rfl) (hs : swapsWith (.Call (.Name (Str.ofString "_parse_varint") p1) [.Name y p2] [] p3) none p4.line c.env = pure false := by rfl) :
    SgOk c it (frL f) r (.For target iter [.Try (.Expr (.Call (.Name (Str.ofString "_parse_varint") p1) [.Name y p2] [] p3) p4 :: b1) [.ExceptHandler (some (.Name (Str.ofString "StopIteration") p5)) none [.Pass p6] p7] [] [] p8] [] pos :: ss) P :=
  Sg_for T rm hi (I f) h0 hy hG hfit hv done hset hx hx2 hse hcall hin hs

noncomputable def trip (p : Int → Bool) (f : Int → Int × Int × Int) : D → Option D := fun d => match d with | .int t => if p t then some (tup3 (f t)) else none | _ => none
theorem trip_out (p : Int → Bool) (f : Int → Int × Int × Int) : ∀ n : Nat, ((List.range n).map fun i : Nat => D.int (1 + i)).filterMap (trip p f) = (((List.range n).map fun i : Nat => ((i + 1 : Nat) : Int)).filterMap fun t => if p t then some (f t) else none).map tup3
  | 0 => rfl
  | n + 1 => by
    rw [List.range_succ, List.map_append, List.filterMap_append, List.map_append, List.filterMap_append, List.map_append, trip_out p f n]
    congr 1
    rw [List.map_cons, List.map_nil, List.filterMap_cons, List.map_cons, List.map_nil, List.filterMap_cons]
    have : trip p f (D.int (1 + (n : Int))) = if p (((n + 1 : Nat) : Int)) then some (tup3 (f ((n + 1 : Nat) : Int))) else none := by
      rw [show (1 + (n : Int)) = ((n + 1 : Nat) : Int) from by omega]; rfl
    rw [this]
    cases p (((n + 1 : Nat) : Int)) <;> rfl
theorem each_len (g : Int) : (eachOf g).length ≤ (g + 3).toNat := by
  unfold eachOf
  refine Nat.le_trans (List.length_filterMap_le _ _) ?_
  simp
noncomputable def swapD : D → Option D := fun d => match d with | .tup [.int t, .int a, .int b] => some (tup3 (t, b, a)) | _ => none
theorem swap_out : ∀ ts : List (Int × Int × Int), (ts.map tup3).filterMap swapD = (ts.map fun t => (t.1, t.2.2, t.2.1)).map tup3
  | [] => rfl
  | t :: ts => by
    rw [List.map_cons, List.filterMap_cons, List.map_cons, List.map_cons, swap_out ts]; rfl
noncomputable def wayEs : D → List D := fun d => match d with | .int p => (List.range p.toNat).map fun q : Nat => D.int q | _ => []
noncomputable def wayOut (bs : List Int) : D → D → Option D := fun d e => match d, e with | .int p, .int q => if decide (bs.getD p.toNat 0 > bs.getD q.toNat 0) then some (.int (p - q)) else none | _, _ => none
theorem way_row (bs : List Int) (p : Nat) : ∀ n : Nat, ((List.range n).map fun q : Nat => D.int q).filterMap (wayOut bs (D.int p)) = (((List.range n).filter fun (q : Nat) => decide (bs.getD p 0 > bs.getD q 0)).map fun (q : Nat) => (p : Int) - (q : Int)).map D.int
  | 0 => rfl
  | n + 1 => by
    rw [List.range_succ, List.map_append, List.filterMap_append, List.filter_append, List.map_append, List.map_append, way_row bs p n]
    congr 1
    rw [List.map_cons, List.map_nil, List.filterMap_cons, List.filter_cons]
    have : wayOut bs (D.int p) (D.int n) = if decide (bs.getD p 0 > bs.getD n 0) then some (.int ((p : Int) - n)) else none := rfl
    rw [this]
    cases decide (bs.getD p 0 > bs.getD n 0) <;> rfl
theorem ways_out (bs : List Int) : ((List.range 6).map fun i : Nat => D.int i).flatMap (fun d => (wayEs d).filterMap (wayOut bs d)) = (waysOf bs).map D.int := by
  unfold waysOf
  have : ∀ l : List Nat, (l.map fun i : Nat => D.int i).flatMap (fun d => (wayEs d).filterMap (wayOut bs d)) = (l.flatMap fun (p : Nat) => ((List.range p).filter fun (q : Nat) => decide (bs.getD p 0 > bs.getD q 0)).map fun (q : Nat) => (p : Int) - (q : Int)).map D.int := by
    intro l
    induction l with
    | nil => rfl
    | cons p l ih =>
      rw [List.map_cons, List.flatMap_cons, List.flatMap_cons, List.map_append, ih, ← way_row]; rfl
  exact this _

theorem frL_uu {f : Nat → Slot} {i : Nat} {a b : Slot} : frL (upd (upd f i a) i b) = frL (upd f i b) := frL_congr fun j => by
  by_cases h : j = i
  · subst h; rw [upd_same, upd_same]
  · rw [upd_other _ _ h, upd_other _ _ h, upd_other _ _ h]
theorem frL_is {f : Nat → Slot} {i : Nat} {a : Slot} (h : f i = a) : frL f = frL (upd f i a) := frL_congr fun j => by
  by_cases e : j = i
  · subst e; rw [upd_same, h]
  · rw [upd_other _ _ e]

theorem frL_is2 {f : Nat → Slot} {i j : Nat} {a b : Slot} (hi : f i = a) (hj : f j = b) : frL f = frL (upd (upd f i a) j b) := frL_congr fun k => by
  by_cases e : k = j
  · subst e; rw [upd_same, hj]
  · rw [upd_other _ _ e]
    by_cases e' : k = i
    · subst e'; rw [upd_same, hi]
    · rw [upd_other _ _ e']
theorem frL_4 {f : Nat → Slot} {i j : Nat} {a a' b b' : Slot} (h : i ≠ j) : frL (upd (upd (upd (upd f i a) j b) j b') i a') = frL (upd (upd f i a') j b') := frL_congr fun k => by
  by_cases e : k = j
  · subst e; rw [upd_other _ _ (Ne.symm h), upd_same, upd_same]
  · by_cases e' : k = i
    · subst e'; rw [upd_same, upd_other _ _ e, upd_same]
    · rw [upd_other _ _ e', upd_other _ _ e, upd_other _ _ e, upd_other _ _ e', upd_other _ _ e, upd_other _ _ e']
theorem frL_is4 {f : Nat → Slot} {v t a b : Slot} (h1 : f 35 = v) (h2 : f 28 = t) (h3 : f 30 = a) (h4 : f 31 = b) : frL f = frL (upd (upd (upd (upd f 35 v) 28 t) 30 a) 31 b) := frL_congr fun k => by
  by_cases e1 : k = 35
  · subst e1; exact h1
  by_cases e2 : k = 28
  · subst e2; exact h2
  by_cases e3 : k = 30
  · subst e3; exact h3
  by_cases e4 : k = 31
  · subst e4; exact h4
  rw [upd_other _ _ e4, upd_other _ _ e3, upd_other _ _ e2, upd_other _ _ e1]
theorem frL_8 {f : Nat → Slot} {v t a b v' t' a' b' : Slot} : frL (upd (upd (upd (upd (upd (upd (upd (upd f 35 v) 28 t) 30 a) 31 b) 28 t') 30 a') 31 b') 35 v') = frL (upd (upd (upd (upd f 35 v') 28 t') 30 a') 31 b') := frL_congr fun k => by
  by_cases e1 : k = 35
  · subst e1; rfl
  by_cases e2 : k = 28
  · subst e2; rfl
  by_cases e3 : k = 30
  · subst e3; rfl
  by_cases e4 : k = 31
  · subst e4; rfl
  rw [upd_other _ _ e1, upd_other _ _ e4, upd_other _ _ e3, upd_other _ _ e2, upd_other _ _ e4, upd_other _ _ e3, upd_other _ _ e2, upd_other _ _ e1, upd_other _ _ e4, upd_other _ _ e3, upd_other _ _ e2, upd_other _ _ e1]
noncomputable def dueUpto (ways : List Int) (n gap : Int) (i : Nat) : List (Int × Int × Int) := ((List.range i).map fun i : Nat => ((i + 1 : Nat) : Int)).filterMap fun t => if dueIf ways n t then some (dueAt ways n gap t) else none
theorem due_step (ways : List Int) (n gap : Int) (i : Nat) : dueUpto ways n gap (i + 1) = dueUpto ways n gap i ++ (if dueIf ways n ((i + 1 : Nat) : Int) then [dueAt ways n gap ((i + 1 : Nat) : Int)] else []) := by
  unfold dueUpto
  rw [List.range_succ, List.map_append, List.filterMap_append]
  congr 1
  rw [List.map_cons, List.map_nil, List.filterMap_cons]
  cases dueIf ways n ((i + 1 : Nat) : Int) <;> rfl
theorem due_len (ways : List Int) (n gap : Int) (i : Nat) : (dueUpto ways n gap i).length ≤ i := by
  unfold dueUpto
  refine Nat.le_trans (List.length_filterMap_le _ _) ?_
  simp
noncomputable def filtI (p : Int → Bool) : D → Option D := fun d => match d with | .int x => if p x then some (.int x) else none | _ => none
theorem filt_ints (l : List Int) (p : Int → Bool) : (l.map D.int).filterMap (filtI p) = (l.filter p).map D.int := by
  induction l with
  | nil => rfl
  | cons x l ih =>
    rw [List.map_cons, List.filterMap_cons, List.filter_cons, ih]
    have : filtI p (D.int x) = if p x then some (.int x) else none := rfl
    rw [this]
    cases p x <;> rfl
theorem rng_ints (f : Int → Int) : ∀ n : Nat, ((List.range n).map fun i : Nat => D.int i).filterMap (mapI f) = ((List.range n).map fun i : Nat => f i).map D.int
  | 0 => rfl
  | n + 1 => by
    rw [List.range_succ, List.map_append, List.filterMap_append, List.map_append, List.map_append, rng_ints f n]; rfl
theorem value_step {parts : List Int} {t : Int × Int × Int} {r : List (Int × Int × Int)} {v : Int} (h : valueFit parts (t :: r) v = true) : 1 ≤ t.1 ∧ t.1 ≤ 100 ∧ t.1.toNat < parts.length ∧ 0 ≤ (t.2.1 - t.2.2).fdiv t.1 ∧ (Builtin.Int.intBits (parts.getD t.1.toNat 0) : Int) * (t.2.1 - t.2.2).fdiv t.1 ≤ 2 ^ 27 ∧ IntMulOk v (facP parts t) ∧ valueFit parts r (v * facP parts t) = true := by
  unfold valueFit at h
  simp only [Bool.and_eq_true, decide_eq_true_eq] at h
  obtain ⟨⟨⟨⟨⟨⟨h1, h2⟩, h3⟩, h4⟩, h5⟩, h6⟩, h7⟩ := h
  exact ⟨h1, h2, h3, h4, h5, mulB_ok h6, h7⟩
end Mine
end
/-! L30 -/
section
open PySem PySem.W PyProof.Rows PySem.Spec PySem.Calls
set_option maxRecDepth 100000
set_option maxHeartbeats 4000000
set_option linter.unusedVariables false
namespace Mine

noncomputable def f0 (xs : List Int) : Nat → Slot := upd noF 0 (.val (.list (xs.map .int)))

theorem c_law {w : World} {h0 : Heap} (hb0 : BaseOk w h0) {xs : List Int} (hl : xs.length ≤ 63) {A : Around} {z : PM} {s : Shared} {vs : List Value} {Q E : Value → Shared → Prop} (hfr : A.frames = some []) (hA : A.handled = none) (hd : A.depth + 10 < recursionLimit) (hu : A.units + 60 * 11 < cLine)
    (zh : ∀ a b, z a = some b → s.heap.get? a = some b) (hb : ∀ a b, h0.get? a = some b → z a = some b) (hvs : Reps z [.list (xs.map .int)] vs)
    (K : ∀ h' t', (∀ b o, s.heap.get? b = some o → h'.get? b = some o) → Q (.bool true) { s with heap := h', toks := t' }) : wpAny (model prog w) A (call (.ref 178) vs) Q E s := by
  have : Sight PySem.Challenge.rw_sn0023_01 Mine.hd.heap_39 (wpAny (model prog w) A (call (.ref 178) vs) Q E s) := by
    k_fill
    unfold Sight
    refine' enter_def (rk := 9) hb0 (f := 178) (ds := [.list (xs.map .int)]) (xs := [Str.ofString "script"]) (ρ := frL (f0 xs)) ?ho ?hcd (fun vs h => ?hbind) rfl ?hxl ?hfr ?hnd ?hcn ?hini ?hxd [] hA hd hu zh hb hvs ?hwr ?hbody ?c1 ?c2 ?c3
    case ho => k_is
    case hcd => k_is
    case c1 => rfl
    case c2 => rfl
    case c3 => rfl
    case hbind =>
      match vs, h with
      | [v], _ => rfl
    case hxl => decide +kernel
    case hfr => rfl
    case hnd => rw [show (frL (f0 xs)).map (·.1) = lawN from frGo_names _ _ _]; exact nodup_of (by decide +kernel)
    case hcn => exact nodup_of (by decide +kernel)
    case hxd => exact nodup_of (by decide +kernel)
    case hini =>
      intro p hp
      obtain ⟨i, x, h1, rfl⟩ := frGo_mem _ _ _ _ hp
      rw [Nat.zero_add]
      by_cases hi : i = 0
      · subst hi
        exact .inr ⟨0, _, _, rfl, rfl, by rw [show x = Str.ofString "script" from by simpa [lawN] using h1.symm]; rfl⟩
      · exact .inl (upd_other _ _ hi)
    case hwr => intro b hb; cases hb
    rintro ⟨w', A', env, h0', g, dr', os⟩ L s₁ ok rfl rfl hcg hcd hco rm rfl rfl hLn hk S hpv
    refine XsOk.run (P := fun fl _ => fl = .ret (.bool true)) ?main _ _ _ _ _ _ S (fun fl ρ' o' z' s' f le S' hf hP => ?fin)
    case fin =>
      subst hP
      obtain ⟨v, rfl, hv⟩ := hf
      obtain ⟨e1, e2, e3⟩ := back_def (o := fun _ => 0) (ρ := []) (R := fun _ => none) hcg hcd hco zh le S'
      rw [show v = .bool true from hv]
      show Q (.bool true) s'
      rw [e1]
      exact K _ _ fun b o e => e2 b o (by simp) e
    have T := TopCx.mk ok hb0 (Around.frames_deeper hfr) rfl
    have hz := sizeLine_eq
    have rm0 : ∀ {k : Nat}, k ≤ 9 → Room _ k := fun {k} hk => rm.sub hk
    refine X_cons (X_assignN ok (N_list (ds := []) A_nil (by decide)) (put_f 1 rfl) rfl ?_)
    refine X_cons (X_enum (ds := startsL.map .int) ok (NOk.e (N_list (A_cons E_int (A_cons E_int (A_cons E_int (A_cons E_int (A_cons E_int (A_cons E_int A_nil)))))) (by show 6 ≤ sizeLine; decide))) (fun i ρ => ∃ a b, ρ = frL (upd (upd (upd (f0 xs) 1 (.own ((drawnUpto xs i).map .int))) 2 a) 3 b)) ⟨.no, .no, rfl⟩ ?turn1 ?done1)
    case turn1 =>
      rintro i d ρ₁ hd ⟨a, b, rfl⟩
      have hi : i < 6 := by
        have := (List.getElem?_eq_some_iff.mp hd).1
        simpa [startsL] using this
      have hd' : d = .int (startsL.getD i 0) := by
        rw [List.getElem?_map, List.getElem?_eq_getElem (by show i < 6; exact hi)] at hd
        injection hd with hd
        rw [← hd, List.getD_eq_getElem?_getD, List.getElem?_eq_getElem (by show i < 6; exact hi)]; rfl
      subst hd'
      refine ⟨_, Gs_cons (G_name ok (put_f 2 rfl)) (Gs_cons (G_name ok (put_f 3 rfl)) Gs_nil), ?_⟩
      have hpl := pick63_len xs i
      have hul : (drawnUpto xs i).length = i := by simp [drawnUpto]
      refine X_cons (X_append (d := .int (drawnAt xs i)) ok (at_f 1 rfl rfl) (E_bin (E_name ok (at_f 3 rfl rfl)) (E_sum ok (rm0 (by decide)) ((pick63 xs i).map fun x => x.fmod (10 ^ 6)) (NOk.e ?comp)) O_add) (by rw [List.length_map]; omega) (put_f 1 rfl) (X_nil ⟨.val (.int i), .val (.int (startsL.getD i 0)), by unfold drawnUpto; rw [List.range_succ, List.map_append (l₁ := List.range i), List.map_append (l₁ := (List.range i).map (drawnAt xs))]; rfl⟩))
      refine N_compE ok [Str.ofString "x"] [] _ (kid_of [] rfl (by decide +kernel) (by intro x hx; cases hx) (by intro p hp; cases hp)) (It_list ok (E_slice6 (ys := (pick63 xs i).map .int) (E_name ok (at_f 0 rfl rfl)) (Pt_some (E_name ok (at_f 2 rfl rfl))) (Pt_some E_int) E_int (by decide) (by rw [List.length_map]; omega) (by rw [pick_map]; rfl))) (by rw [List.length_map]; show (pick63 xs i).length ≤ sizeLine; unfold pick63; omega) ?hel (map_ints _ _)
      rintro c' kd k d hk
      obtain ⟨x, hx, rfl⟩ := List.mem_map.mp (List.mem_of_getElem? hk)
      exact ⟨_, L_name kd.ok (kd.kind _ _ rfl (by decide)) (put_ 0 rfl), (by intro q hq; cases hq), _, rfl, E_bin (E_name kd.ok (at_ 0 rfl)) (E_bin E_int E_int (O_pow (by decide) (by decide))) (O_mod (by decide))⟩
    case done1 =>
      rintro ρ₁ ⟨ka, sa, rfl⟩
      rw [show (startsL.map D.int).length = 6 from rfl]
      have F := fits_drawn xs
      refine X_freeze (at_f 1 rfl rfl) (put_f 1 rfl) ?_
      have hdl : (drawnUpto xs 6).length = 6 := by simp [drawnUpto]
      refine X_cons (X_assign (d := .list ((bitsL xs).map .int)) ok (NOk.e (N_compE ok [Str.ofString "d"] [] _ (kid_of [] rfl (by decide +kernel) (by intro x hx; cases hx) (by intro p hp; cases hp)) (It_list ok (E_name ok (at_f 1 rfl rfl))) (by rw [List.length_map]; omega) ?helb (map_ints _ _))) (put_f 4 rfl) ?_)
      case helb =>
        rintro c' kd k d hk
        obtain ⟨x, hx, rfl⟩ := List.mem_map.mp (List.mem_of_getElem? hk)
        exact ⟨_, L_name kd.ok (kd.kind _ _ rfl (by decide)) (put_ 0 rfl), (by intro q hq; cases hq), _, rfl, E_bin (E_name kd.ok (at_ 0 rfl)) E_int (O_mod (by decide))⟩
      obtain ⟨g, hg, hge⟩ := gap_bd xs
      obtain ⟨kk, hkk, hbe⟩ := bits_enum F
      have hgl : (drawnOf xs).sum.fmod 3 = (g : Int) := hge
      rw [show drawnUpto xs 6 = drawnOf xs from rfl]
      generalize hdr : drawnOf xs = dr at F hgl
      generalize hbs : bitsL xs = bs at F hbe
      obtain ⟨number, LF⟩ := law_facts (bs := bs) (gap := g) (by rw [hbe]; exact law_all kk hkk g hg)
      have FT : Fit bs := by rw [hbe]; exact fit_of hkk
      have SZ : Sized bs g := by rw [hbe]; exact sized_of hkk hg
      have mb := mails_bd F 6
      have b6 := bdAt_le (i := 6) (by omega)
      have m1 := mb.a
      have m3 := mb.c
      refine X_cons (X_assignG (E_pcall ok (globs _).mails (A_cons (E_name ok (at_f 1 rfl rfl)) (A_cons (E_name ok (at_f 4 rfl rfl)) A_nil)) (c_mails hb0 F) (rm0 (by decide))) (G_tup ok (Gs_cons (G_name ok (put_f 5 rfl)) (Gs_cons (G_name ok (put_f 6 rfl)) (Gs_cons (G_name ok (put_f 7 rfl)) (Gs_cons (G_name ok (put_f 8 rfl)) Gs_nil))))) ?_)
      refine X_cons (X_skip (T_or (T_cmp (E_name ok (at_f 5 rfl rfl)) (E_name ok (at_f 6 rfl rfl)) C_nes) (fun _ => T_or (T_cmp (E_pcall ok (globs _).eols (A_cons (E_name ok (at_f 7 rfl rfl)) A_nil) (c_eols hb0 _ (by omega)) (rm0 (by decide))) (E_name ok (at_f 8 rfl rfl)) C_nes) (fun _ => T_or0))) (by rw [mail_told F, typed_even]; simp) ?_)
      have hsb := split_bd (eolsS (mailsAt dr bs 6).mail)
      have hel' := eolsS_len (mailsAt dr bs 6).mail
      refine X_cons (X_assignC (out := rowOut) (ds := (Txt.split (eolsS (mailsAt dr bs 6).mail) (Str.ofString "\r\n")).map D.str) ok [Str.ofString "row"] [] (kid_of [] rfl (by decide +kernel) (by intro x hx; cases hx) (by intro p hp; cases hp)) (It_list ok (E_splitM ok (E_pcall ok (globs _).eols (A_cons (E_name ok (at_f 5 rfl rfl)) A_nil) (c_eols hb0 _ (by omega)) (rm0 (by decide))) E_str (by decide) (by omega) (rm0 (by decide)))) (by rw [List.length_map]; omega) ?helr (by rw [row_out]; exact put_f 9 rfl) ?_ (by rfl))
      case helr =>
        rintro c' kd k d hk
        obtain ⟨Y, hY, rfl⟩ := List.mem_map.mp (List.mem_of_getElem? hk)
        have hYl := hsb.2 Y hY
        exact ⟨_, L_name kd.ok (kd.kind _ _ rfl (by decide)) (put_ 0 rfl), (by intro q hq; cases hq), isDot Y, T_cmp (E_sliceT (k := 1) (E_name kd.ok (at_ 0 rfl)) E_int (by omega)) E_str C_eqs, fun h => ⟨_, by show (if isDot Y = true then _ else _) = _; rw [if_pos h], E_name kd.ok (at_ 0 rfl)⟩, fun h => by show (if isDot Y = true then _ else _) = _; rw [if_neg (by rw [h]; decide)]⟩
      have hrs := rows_short F
      have hrl := rows_leads F
      have hrw : (Txt.split (eolsS (mailsAt dr bs 6).mail) (Str.ofString "\r\n")).filter isDot = rowsS dr bs := rfl
      rw [hrw]
      refine X_cons (X_assign (d := .list (((rowsS dr bs).map D.str).map leadD)) ok (NOk.e (N_compA (x := Str.ofString "row") ok leadD rfl rfl (by decide +kernel) (by decide +kernel) (by decide +kernel) (fun _ => rfl) (fun _ => rfl) (It_list ok (E_name ok (at_f 9 rfl rfl))) (by rw [List.length_map]; omega) ?hela)) (put_f 10 rfl) ?_)
      case hela =>
        intro cl C _ kd i d hd ⟨Ka, hcl⟩
        subst hcl
        obtain ⟨X, hX, rfl⟩ := List.mem_map.mp (List.mem_of_getElem? hd)
        have hXl := hrs.2 X hX
        have rmk := fun {k : Nat} (hk : k ≤ 9) => room_kid kd (rm0 hk)
        refine ⟨[(Str.ofString "row", .val (.str X))], G_name kd.ok (put_ 0 rfl), ?_⟩
        have hlen : (((List.range (X.length - 1)).filter (leadAt X)).map fun i : Nat => D.int (1 + i)).length = leads X := by rw [List.length_map]; rfl
        refine (show EOk _ _ _ (.int (leads X)) from ?_)
        rw [← hlen]
        refine E_len kd.ok (rmk (by decide)) (NOk.e (N_compE (ds := (List.range (X.length - 1)).map fun i : Nat => D.int (1 + i)) kd.ok [Str.ofString "k"] [(Str.ofString "row", .str X)] (leadOut X) (kid_of [Str.ofString "row"] rfl (by decide +kernel) (by intro x hx; rw [List.mem_singleton.mp hx]; exact kd.kind _ _ rfl (by decide)) (by intro p hp; rw [List.mem_singleton.mp hp]; exact at_ 0 rfl)) ?its (by rw [List.length_map, List.length_range]; omega) ?heli (lead_out X _))) (by rw [hlen]; unfold leads; have := List.length_filter_le (leadAt X) (List.range (X.length - 1)); rw [List.length_range] at this; omega) (kd.kind _ _ rfl (by decide))
        case its =>
          rw [show X.length - 1 = ((X.length : Int) - 1).toNat from by omega]
          exact It_r2 (a := 1) (b := (X.length : Int)) kd.ok (rmk (by decide)) E_int (E_lens kd.ok (rmk (by decide)) (E_name kd.ok (at_ 0 rfl)) (by omega) (kd.kind _ _ rfl (by decide))) (by omega) (by omega) (kd.kind _ _ rfl (by decide))
        case heli =>
          intro c' kd2 k d hk
          obtain ⟨hj, rfl⟩ := rng_get hk
          refine ⟨_, L_name kd2.ok (kd2.kind _ _ rfl (by decide)) (put_ 0 rfl), (by intro q hq; rw [List.mem_singleton.mp hq]; exact at_ 1 rfl), leadAt X k, ?tt, fun h => ⟨_, by show (if leadAt X (1 + (k : Int) - 1).toNat = true then _ else _) = _; rw [show (1 + (k : Int) - 1).toNat = k from by omega, if_pos h], E_name kd2.ok (at_ 0 rfl)⟩, fun h => by show (if leadAt X (1 + (k : Int) - 1).toNat = true then _ else _) = _; rw [show (1 + (k : Int) - 1).toNat = k from by omega, if_neg (by rw [h]; decide)]⟩
          have e1 : (1 : Int) + (k : Int) + 1 = ((k + 2 : Nat) : Int) := by omega
          have e2 : (1 : Int) + (k : Int) + 1 = (k : Int) + 2 := by omega
          have hu : ∀ {ρ : Frame} {e : Expr}, EOk c' ρ e (.int (1 + (k : Int) + 1)) → EOk c' ρ e (.int ((k + 2 : Nat) : Int)) := fun h => e1 ▸ h
          have hu2 : ∀ {ρ : Frame} {e : Expr}, EOk c' ρ e (.int (1 + (k : Int) + 1)) → EOk c' ρ e (.int ((k : Int) + 2)) := fun h => e2 ▸ h
          exact T_cmp (E_sliceT (E_name kd2.ok (at_ 1 rfl)) (hu (E_bin (E_name kd2.ok (at_ 0 rfl)) E_int O_add)) (by omega)) (E_bin E_str (hu2 (E_bin (E_name kd2.ok (at_ 0 rfl)) E_int O_add)) (O_muls (mulOk_of 1 100 (by rw [len_dot]; exact Nat.le_refl _) (by omega) (by omega) (by decide) (by decide)))) C_eqs
      rw [lead_map, hrl]
      refine X_cons (X_assign (d := .int (spareN bs)) ok (E_sum ok (rm0 (by decide)) (spareOf bs) (E_name ok (at_f 10 rfl rfl))) (put_f 11 rfl) ?_)
      refine X_cons (X_assign ok (E_pcall ok (globs _).hooks (A_cons (E_name ok (at_f 10 rfl rfl)) A_nil) (c_hooks hb0 FT.small) (rm0 (by decide))) (put_f 12 rfl) ?_)
      refine X_cons (X_assign ok (E_pcall ok (globs _).tally (A_cons (E_name ok (at_f 10 rfl rfl)) A_nil) (c_tally hb0 FT.tally) (rm0 (by decide))) (put_f 13 rfl) ?_)
      have htl := FT.tl
      have hdo := down_ok (tallyOf (spareOf bs)).length (by omega)
      refine X_cons (X_assignC (ds := (rngInts (((tallyOf (spareOf bs)).length : Int) - 1) (-1) (tallyOf (spareOf bs)).length).map D.int) (out := mapI fun s => octetAt (tallyOf (spareOf bs)) (spareN bs) s.toNat) ok [Str.ofString "s"] [(Str.ofString "n", .int (spareN bs)), (Str.ofString "tally", .list ((tallyOf (spareOf bs)).map .int))] (kid_of [Str.ofString "n", Str.ofString "tally"] rfl (by decide +kernel) ?hc1 ?hc2) ?itso (by rw [List.length_map]; simp [rngInts]; omega) ?helo (by rw [map_ints, oct_map]; exact put_f 14 rfl) ?_ (by rfl))
      case hc1 =>
        intro x hx
        rcases List.mem_cons.mp hx with rfl | hx
        · rfl
        · rw [List.mem_singleton.mp hx]; rfl
      case hc2 =>
        intro x hx
        rcases List.mem_cons.mp hx with rfl | hx
        · exact at_f 11 rfl rfl
        · rw [List.mem_singleton.mp hx]; exact at_f 13 rfl rfl
      case itso =>
        exact It_rng ok (E_range3 (a := ((tallyOf (spareOf bs)).length : Int) - 1) (b := -1) (d := -1) ok (rm0 (by decide)) (E_bin (by rw [← List.length_map (f := D.int) (as := tallyOf (spareOf bs))]; exact E_len ok (rm0 (by decide)) (E_name ok (at_f 13 rfl rfl)) (by rw [List.length_map]; omega)) E_int O_sub) (E_neg E_int) (E_neg E_int) (by decide) (PyProof.noPylong_small (by decide))) hdo.1 hdo.2
      case helo =>
        intro c' kd k d hk
        have rmk := fun {k : Nat} (hk : k ≤ 9) => room_kid kd (rm0 hk)
        obtain ⟨v, hv, rfl⟩ := List.mem_map.mp (List.mem_of_getElem? hk)
        obtain ⟨i, hi, rfl⟩ := List.mem_map.mp hv
        have hi := List.mem_range.mp hi
        have ej : ((tallyOf (spareOf bs)).length : Int) - 1 + (i : Int) * (-1) = (((tallyOf (spareOf bs)).length - 1 - i : Nat) : Int) := by omega
        rw [ej]
        generalize hj : (tallyOf (spareOf bs)).length - 1 - i = j
        have hjl : j < (tallyOf (spareOf bs)).length := by omega
        have htb := FT.tb ((tallyOf (spareOf bs)).getD j 0) (by rw [List.getD_eq_getElem?_getD, List.getElem?_eq_getElem hjl]; exact List.getElem_mem hjl)
        have n0 := FT.n0
        have n12 := FT.n12
        refine ⟨_, L_name kd.ok (kd.kind _ _ rfl (by decide)) (put_ 0 rfl), ?_, _, rfl, ?_⟩
        · intro q hq
          rcases List.mem_cons.mp hq with rfl | hq
          · exact at_ 1 rfl
          · rw [List.mem_singleton.mp hq]; exact at_ 2 rfl
        · refine (show EOk _ _ _ (.int (octetAt (tallyOf (spareOf bs)) (spareN bs) j)) from ?_)
          exact E_bin (E_bin (E_bin E_int (E_item (E_name kd.ok (at_ 2 rfl)) (E_name kd.ok (at_ 0 rfl)) (by omega) (by omega) (getI0 hjl)) (O_mul (IntMulOk.of_left (bits_small (by decide))))) (E_bin E_int (E_intb kd.ok (rmk (by decide)) (E_cmp (E_name kd.ok (at_ 0 rfl)) E_int C_gt) (kd.kind _ _ rfl (by decide))) (O_mul (IntMulOk.of_left (bits_small (by decide))))) O_add)
            (E_bin E_int (E_intb kd.ok (rmk (by decide)) (E_cmp (E_bin (E_bin (E_name kd.ok (at_ 0 rfl)) (E_name kd.ok (at_ 1 rfl)) O_add) E_int (O_mod (by decide))) E_int C_eq) (kd.kind _ _ rfl (by decide))) (O_mul (IntMulOk.of_left (bits_small (by decide))))) O_add
      have hol := oct_len bs
      refine X_iter (xs := octB bs ++ [255, 191, 65]) ok ?octe (fun it => put_f 15 rfl) fun it => ?_
      case octe =>
        rw [List.map_append]
        exact NOk.e (N_add (ds := (octB bs).map .int) (es := [.int 255, .int 191, .int 65]) (E_name ok (at_f 14 rfl rfl)) (NOk.e (N_list (A_cons E_int (A_cons E_int (A_cons E_int A_nil))) (by show 3 ≤ sizeLine; decide))) (by rw [List.length_map]; show (octB bs).length + 3 ≤ sizeLine; omega))
      refine Sg_call T (rm0 (by decide)) (at_f 15 rfl rfl) (put_f 16 rfl) (by rintro _ ⟨⟩; exact SZ.var) LF.var ?_
      refine Sg_ifne T (rm0 (by decide)) (at_f 15 rfl rfl) (by rintro _ ⟨⟩; decide +kernel) (show varL (some [255, 191, 65]) = some (4095, [65]) from by decide +kernel) ?_
      refine Sg_forL T (rm0 (by decide)) (It_r1 (n := 2) ok (rm0 (by decide)) E_int (by decide)) (fun f ρ₁ => ∃ sl, ρ₁ = frL (upd f 17 sl)) ⟨.no, frL_is rfl⟩ (by rintro _ ⟨sl, rfl⟩; exact at_f 15 rfl rfl) (by rintro i d _ hd ⟨sl, rfl⟩; exact ⟨_, G_name ok (put_f 17 rfl), .val d, frL_uu⟩) (by rintro _ ⟨⟩; decide +kernel) (show varL (some [65]) = none from by decide +kernel) ?_
      rintro _ ⟨slb, rfl⟩
      have n0 := FT.n0
      have n12 := FT.n12
      have hhl := FT.hl
      have fl := SZ.fl
      have sl := SZ.sl
      have fle := first_len bs g
      have sle := second_len bs g
      have hgi : (g : Int) ≤ ((2 : Nat) : Int) := by omega
      have mg := mulb hgi
      have mn := mulb (n := spareN bs) (N := 12) n12
      refine X_cons (X_assign (d := .int g) ok (by rw [← hgl]; exact E_bin (E_sum ok (rm0 (by decide)) dr (E_name ok (at_f 1 rfl rfl))) E_int (O_mod (by decide))) (put_f 18 rfl) ?_)
      refine X_cons (X_assign (d := .str (firstB bs g)) ok (E_bin (E_bin (E_bin (E_bin (E_str (x := blk)) (E_name ok (at_f 11 rfl rfl)) (O_muls (mulOk_of 1 12 (by rw [len_blk]; exact Nat.le_refl _) n12 (by omega) (by decide) (by decide)))) (E_str (x := tb)) (O_adds (by rw [len_tb]; omega)))
        (E_joinM ok E_str (NOk.e (N_compE ok [Str.ofString "h"] [] (mapS fun h => Txt.mul blk (h - 1) ++ tb) (kid_of [] rfl (by decide +kernel) (by intro x hx; cases hx) (by intro p hp; cases hp)) (It_list ok (E_name ok (at_f 12 rfl rfl))) (by rw [List.length_map]; omega) ?helj (map_strs _ _))) (by decide) (join_bd hhl FT.hb ?hf1) (rm0 (by decide))) (O_adds ?s1)) (E_bin (E_str (x := blk)) (E_name ok (at_f 18 rfl rfl)) (O_muls (mulOk_of 1 2 (by rw [len_blk]; exact Nat.le_refl _) hgi (by omega) (by decide) (by decide)))) (O_adds ?s2)) (put_f 19 rfl) ?_)
      case hf1 =>
        intro h hh
        have := mulb (n := h - 1) (N := 12) (by omega)
        rw [strLen_append, len_tb]; omega
      case s1 =>
        rw [strLen_append, len_tb]
        show _ + (join1 (hooksOf (spareOf bs))).length ≤ sizeLine
        omega
      case s2 =>
        rw [strLen_append, strLen_append, len_tb]
        show _ + (join1 (hooksOf (spareOf bs))).length + _ ≤ sizeLine
        omega
      case helj =>
        rintro c' kd k d hk
        obtain ⟨h, hh, rfl⟩ := List.mem_map.mp (List.mem_of_getElem? hk)
        have hb12 := FT.hb h hh
        have := mulb (n := h - 1) (N := 12) (by omega)
        exact ⟨_, L_name kd.ok (kd.kind _ _ rfl (by decide)) (put_ 0 rfl), (by intro q hq; cases hq), _, rfl, E_bin (E_bin (E_str (x := blk)) (E_bin (E_name kd.ok (at_ 0 rfl)) E_int O_sub) (O_muls (mulOk_of 1 12 (by rw [len_blk]; exact Nat.le_refl _) (by omega) (by omega) (by decide) (by decide)))) (E_str (x := tb)) (O_adds (by rw [len_tb]; omega))⟩
      refine X_cons (X_assign (d := .str (secondB bs g)) ok (E_bin (E_bin (E_str (x := tb))
        (E_joinM ok E_str (NOk.e (N_compE ok [Str.ofString "h"] [] (mapS fun h => Txt.mul blk h ++ tb) (kid_of [] rfl (by decide +kernel) (by intro x hx; cases hx) (by intro p hp; cases hp)) (It_list ok (E_name ok (at_f 12 rfl rfl))) (by rw [List.length_map]; omega) ?helk (map_strs _ _))) (by decide) (join_bd hhl FT.hb ?hf2) (rm0 (by decide))) (O_adds ?s3)) (E_bin (E_str (x := blk)) (E_name ok (at_f 18 rfl rfl)) (O_muls (mulOk_of 1 2 (by rw [len_blk]; exact Nat.le_refl _) hgi (by omega) (by decide) (by decide)))) (O_adds ?s4)) (put_f 20 rfl) ?_)
      case hf2 =>
        intro h hh
        have := mulb (n := h) (N := 12) (by omega)
        rw [strLen_append, len_tb]; omega
      case s3 =>
        rw [len_tb]
        show _ + (join2 (hooksOf (spareOf bs))).length ≤ sizeLine
        omega
      case s4 =>
        rw [strLen_append, len_tb]
        show _ + (join2 (hooksOf (spareOf bs))).length + _ ≤ sizeLine
        omega
      case helk =>
        rintro c' kd k d hk
        obtain ⟨h, hh, rfl⟩ := List.mem_map.mp (List.mem_of_getElem? hk)
        have hb12 := FT.hb h hh
        have := mulb (n := h) (N := 12) (by omega)
        exact ⟨_, L_name kd.ok (kd.kind _ _ rfl (by decide)) (put_ 0 rfl), (by intro q hq; cases hq), _, rfl, E_bin (E_bin (E_str (x := blk)) (E_name kd.ok (at_ 0 rfl)) (O_muls (mulOk_of 1 12 (by rw [len_blk]; exact Nat.le_refl _) (by omega) (by omega) (by decide) (by decide)))) (E_str (x := tb)) (O_adds (by rw [len_tb]; omega))⟩
      have w1 : (firstB bs g ++ Str.ofString "x").length ≤ 150 := by rw [strLen_append, len_x]; omega
      have w2 : (secondB bs g ++ Str.ofString "x \t").length ≤ 150 := by rw [strLen_append, len_xbt]; omega
      have w3 : (firstB bs g ++ Str.ofString " x").length ≤ 150 := by rw [strLen_append, len_bx]; omega
      have w4 : (secondB bs g ++ Str.ofString " x").length ≤ 150 := by rw [strLen_append, len_bx]; omega
      refine X_cons (X_assign (d := .ws (nearB bs g)) ok (E_pcall ok (globs _).ws (A_cons (E_bin (E_name ok (at_f 19 rfl rfl)) E_str (O_adds (by rw [len_x]; omega))) A_nil) (c_ws hb0 w1) (rm0 (by decide))) (put_f 21 rfl) ?_)
      refine X_cons (X_assign (d := .ws (farB bs g)) ok (E_pcall ok (globs _).ws (A_cons (E_bin (E_name ok (at_f 20 rfl rfl)) E_str (O_adds (by rw [len_xbt]; omega))) A_nil) (c_ws hb0 w2) (rm0 (by decide))) (put_f 22 rfl) ?_)
      refine X_cons (X_skip (T_cmp (E_wsCall ok (clsK _).less m_less (E_name ok (at_f 22 rfl rfl)) (A_cons (E_pcall ok (globs _).ws (A_cons (E_bin (E_name ok (at_f 19 rfl rfl)) E_str (O_adds (by rw [len_bx]; omega))) A_nil) (c_ws hb0 w3) (rm0 (by decide))) A_nil) (c_less hb0 (ws_ok w2) (ws_ok w3)) (rm0 (by decide))) E_boolc C_isnot) (by rw [LF.l1]; rfl) ?_)
      refine X_cons (X_assign (d := .bool ((tallyOf (spareOf bs)).sum == 1)) ok (by rw [← LF.l2]; exact E_wsCall ok (clsK _).less m_less (E_name ok (at_f 21 rfl rfl)) (A_cons (E_pcall ok (globs _).ws (A_cons (E_bin (E_name ok (at_f 20 rfl rfl)) E_str (O_adds (by rw [len_bx]; omega))) A_nil) (c_ws hb0 w4) (rm0 (by decide))) A_nil) (c_less hb0 (ws_ok w1) (ws_ok w4)) (rm0 (by decide))) (put_f 23 rfl) ?_)
      refine X_cons (X_skip (T_or (T_and (T_cmp (E_name ok (at_f 23 rfl rfl)) E_boolc C_isnot) (fun _ => T_and (T_cmp (E_name ok (at_f 23 rfl rfl)) E_boolc C_isnot) (fun _ => T_and0))) (fun _ => T_or (T_cmp (E_name ok (at_f 23 rfl rfl)) (E_cmp (E_sum ok (rm0 (by decide)) (tallyOf (spareOf bs)) (E_name ok (at_f 13 rfl rfl))) E_int C_eq) C_neb) (fun _ => T_or0))) (by cases ((tallyOf (spareOf bs)).sum == 1) <;> rfl) ?_)
      have hg1 : (g : Int) + 1 ≤ ((3 : Nat) : Int) := by omega
      have hg2 : (g : Int) + 2 ≤ ((4 : Nat) : Int) := by omega
      have mt1 := mult hg1
      have mb2 := mulb hg2
      have mtn := mult (n := spareN bs) (N := 12) n12
      have w5 : (Txt.mul blk (spareN bs) ++ Str.ofString "\tx").length ≤ 150 := by rw [strLen_append, len_tx]; omega
      have w6 : (Txt.mul tb ((g : Int) + 1) ++ Str.ofString "x").length ≤ 150 := by rw [strLen_append, len_x]; omega
      have w7 : (Txt.mul blk ((g : Int) + 2) ++ Str.ofString "x").length ≤ 150 := by rw [strLen_append, len_x]; omega
      have w8 : (Str.ofString "\tx").length ≤ 150 := by rw [len_tx]; decide
      have w9 : (Txt.mul tb (spareN bs) ++ Str.ofString "\tx").length ≤ 150 := by rw [strLen_append, len_tx]; omega
      refine X_cons (X_assign ok (E_pcall ok (globs _).ws (A_cons (E_bin (E_bin (E_str (x := blk)) (E_name ok (at_f 11 rfl rfl)) (O_muls (mulOk_of 1 12 (by rw [len_blk]; exact Nat.le_refl _) n12 (by omega) (by decide) (by decide)))) E_str (O_adds (by rw [len_tx]; omega))) A_nil) (c_ws hb0 w5) (rm0 (by decide))) (put_f 24 rfl) ?_)
      refine X_cons (X_assign ok (E_pcall ok (globs _).ws (A_cons (E_bin (E_bin (E_str (x := tb)) (E_bin (E_name ok (at_f 18 rfl rfl)) E_int O_add) (O_muls (mulOk_of 1 3 (by rw [len_tb]; exact Nat.le_refl _) hg1 (by omega) (by decide) (by decide)))) E_str (O_adds (by rw [len_x]; omega))) A_nil) (c_ws hb0 w6) (rm0 (by decide))) (put_f 25 rfl) ?_)
      refine X_cons (X_assign ok (E_pcall ok (globs _).ws (A_cons (E_bin (E_bin (E_str (x := blk)) (E_bin (E_name ok (at_f 18 rfl rfl)) E_int O_add) (O_muls (mulOk_of 1 4 (by rw [len_blk]; exact Nat.le_refl _) hg2 (by omega) (by decide) (by decide)))) E_str (O_adds (by rw [len_x]; omega))) A_nil) (c_ws hb0 w7) (rm0 (by decide))) (put_f 26 rfl) ?_)
      refine X_cons (X_forL ok (It_list ok (NOk.e (N_list (A_cons (E_wsCall ok (clsK _).less m_less (E_pcall ok (globs _).ws (A_cons E_str A_nil) (c_ws hb0 w8) (rm0 (by decide))) (A_cons (E_name ok (at_f 24 rfl rfl)) A_nil) (c_less hb0 (ws_ok w8) (ws_ok w5)) (rm0 (by decide)))
        (A_cons (E_wsCall ok (clsK _).less m_less (E_name ok (at_f 24 rfl rfl)) (A_cons (E_pcall ok (globs _).ws (A_cons (E_bin (E_bin (E_str (x := tb)) (E_name ok (at_f 11 rfl rfl)) (O_muls (mulOk_of 1 12 (by rw [len_tb]; exact Nat.le_refl _) n12 (by omega) (by decide) (by decide)))) E_str (O_adds (by rw [len_tx]; omega))) A_nil) (c_ws hb0 w9) (rm0 (by decide))) A_nil) (c_less hb0 (ws_ok w5) (ws_ok w9)) (rm0 (by decide)))
        (A_cons (E_wsCall ok (clsK _).less m_less (E_name ok (at_f 25 rfl rfl)) (A_cons (E_name ok (at_f 26 rfl rfl)) A_nil) (c_less hb0 (ws_ok w6) (ws_ok w7)) (rm0 (by decide))) A_nil))) (by show 3 ≤ sizeLine; decide)))) (fun f _ ρ₁ => ∃ sl, ρ₁ = frL (upd f 27 sl)) ⟨.no, frL_is rfl⟩ ?turn2 ?done2)
      case turn2 =>
        rintro i d _ hd ⟨sla, rfl⟩
        have hdf : d = .bool false := by
          rcases i with _ | _ | _ | i
          · cases hd; rw [LF.l3]
          · cases hd; rw [LF.l4]
          · cases hd; rw [LF.l5]
          · simp at hd
        subst hdf
        exact ⟨_, G_name ok (put_f 27 rfl), X_cons (X_skip (T_cmp (E_name ok (at_f 27 rfl rfl)) E_boolc C_isnot) rfl (X_nil ⟨.val (.bool false), frL_uu⟩))⟩
      case done2 =>
        rintro _ ⟨sla, rfl⟩
        have eo : ((List.range ((g : Int) + 4 - 1).toNat).map fun i : Nat => D.int (1 + i)).filterMap (trip (fun t => t * ((g : Int) + 1) != (g : Int) + 2) (fun t => (t, t * ((g : Int) + 1), (g : Int) + 2))) = (eachOf g).map tup3 := by
          rw [trip_out, show ((g : Int) + 4 - 1) = (g : Int) + 3 from by omega]; rfl
        refine X_cons (X_assignC (ds := (List.range ((g : Int) + 4 - 1).toNat).map fun i : Nat => D.int (1 + i)) (out := trip (fun t => t * ((g : Int) + 1) != (g : Int) + 2) (fun t => (t, t * ((g : Int) + 1), (g : Int) + 2))) ok [Str.ofString "t"] [(Str.ofString "gap", .int g)] (kid_of [Str.ofString "gap"] rfl (by decide +kernel) (by intro x hx; rw [List.mem_singleton.mp hx]; rfl) (by intro x hx; rw [List.mem_singleton.mp hx]; exact at_f 18 rfl rfl))
          (It_r2 ok (rm0 (by decide)) E_int (E_bin (E_name ok (at_f 18 rfl rfl)) E_int O_add) (by omega) (by omega)) (by rw [List.length_map, List.length_range]; omega) ?hele (by rw [eo]; exact put_f 29 rfl) ?_ (by rfl))
        case hele =>
          intro c' kd k d hk
          obtain ⟨hj, rfl⟩ := rng_get hk
          refine ⟨_, L_name kd.ok (kd.kind _ _ rfl (by decide)) (put_ 0 rfl), (by intro q hq; rw [List.mem_singleton.mp hq]; exact at_ 1 rfl), (1 + (k : Int)) * ((g : Int) + 1) != (g : Int) + 2, ?_, fun h => ⟨_, if_pos h, ?_⟩, fun h => if_neg (fun h' => Bool.noConfusion (h.symm.trans h'))⟩
          · exact T_cmp (E_bin (E_name kd.ok (at_ 0 rfl)) (E_bin (E_name kd.ok (at_ 1 rfl)) E_int O_add) (O_mul (IntMulOk.of_left (bits_small (by omega))))) (E_bin (E_name kd.ok (at_ 1 rfl)) E_int O_add) C_ne
          · exact E_tuple (A_cons (E_name kd.ok (at_ 0 rfl)) (A_cons (E_bin (E_name kd.ok (at_ 0 rfl)) (E_bin (E_name kd.ok (at_ 1 rfl)) E_int O_add) (O_mul (IntMulOk.of_left (bits_small (by omega))))) (A_cons (E_bin (E_name kd.ok (at_ 1 rfl)) E_int O_add) A_nil))) (by show 3 ≤ sizeLine; decide)
        have hel2 := each_len (g : Int)
        refine X_cons (X_skip (T_or (T_cmp (E_wsCall ok (clsK _).nev m_nev (E_name ok (at_f 25 rfl rfl)) (A_cons (E_name ok (at_f 26 rfl rfl)) A_nil) (c_nev hb0 (ws_ok w6) (ws_ok w7)) (rm0 (by decide))) (E_name ok (at_f 29 rfl rfl)) (C_ne3 ok)) (fun _ => T_or (T_cmp (E_wsCall ok (clsK _).nev m_nev (E_name ok (at_f 26 rfl rfl)) (A_cons (E_name ok (at_f 25 rfl rfl)) A_nil) (c_nev hb0 (ws_ok w7) (ws_ok w6)) (rm0 (by decide)))
          (NOk.e (N_compE ok [Str.ofString "t", Str.ofString "a", Str.ofString "b"] [] swapD (kid_of [] rfl (by decide +kernel) (by intro x hx; cases hx) (by intro p hp; cases hp)) (It_list ok (E_name ok (at_f 29 rfl rfl))) (by rw [List.length_map]; omega) ?hels (swap_out _))) (C_ne3 ok)) (fun _ => T_or0))) (by rw [LF.e1, LF.e2]; simp) ?_)
        case hels =>
          rintro c' kd k d hk
          obtain ⟨t, ht, rfl⟩ := List.mem_map.mp (List.mem_of_getElem? hk)
          refine ⟨_, (show LOk c' _ _ (.tup [.int t.1, .int t.2.1, .int t.2.2]) _ from L_tup kd.ok (Ls_cons (L_name kd.ok (kd.kind _ _ rfl (by decide)) (put_ 0 rfl)) (Ls_cons (L_name kd.ok (kd.kind _ _ rfl (by decide)) (put_ 1 rfl)) (Ls_cons (L_name kd.ok (kd.kind _ _ rfl (by decide)) (put_ 2 rfl)) Ls_nil)))), (by intro q hq; cases hq), _, rfl, ?_⟩
          exact E_tuple (A_cons (E_name kd.ok (at_ 0 rfl)) (A_cons (E_name kd.ok (at_ 2 rfl)) (A_cons (E_name kd.ok (at_ 1 rfl)) A_nil))) (by show 3 ≤ sizeLine; decide)
        have hb6 : bs.length = 6 := F.nb
        refine X_cons (X_assignC2 (px := Str.ofString "p") (N := 6) (ds := (List.range 6).map fun i : Nat => D.int i) ok [Str.ofString "p", Str.ofString "q"] [(Str.ofString "bits", .list (bs.map .int))] wayEs (wayOut bs) (kid_of [Str.ofString "bits"] rfl (by decide +kernel) (by intro x hx; rw [List.mem_singleton.mp hx]; rfl) (by intro x hx; rw [List.mem_singleton.mp hx]; exact at_f 4 rfl rfl))
          (It_r1 (n := 6) ok (rm0 (by decide)) E_int (by decide)) (by rw [List.length_map, List.length_range]; omega) List.mem_cons_self ?helw (by rw [ways_out]; exact put_f 32 rfl) ?_ (by rfl))
        case helw =>
          intro c' kd k d hk
          obtain ⟨hj, rfl⟩ := rng_get hk
          have rmk := fun {k : Nat} (hk : k ≤ 9) => room_kid kd (rm0 hk)
          refine ⟨_, L_name kd.ok (kd.kind _ _ rfl (by decide)) (put_ 0 rfl), put_ 0 rfl, (by intro q hq; rw [List.mem_singleton.mp hq]; exact at_ 2 rfl), It_r1 (n := k) kd.ok (rmk (by decide)) (E_name kd.ok (at_ 0 rfl)) (by omega) (kd.kind _ _ rfl (by decide)), (by show ((List.range _).map _).length ≤ 6; rw [List.length_map, List.length_range]; show k ≤ 6; omega), ?_⟩
          intro j e he
          obtain ⟨hq, rfl⟩ := rng_get he
          have hq : j < k := hq
          refine ⟨_, L_name kd.ok (kd.kind _ _ rfl (by decide)) (put_ 1 rfl), (by intro q hq; rw [List.mem_singleton.mp hq]; exact at_ 2 rfl), at_ 0 rfl, decide (bs.getD k 0 > bs.getD j 0), T_cmp (E_item (E_name kd.ok (at_ 2 rfl)) (E_name kd.ok (at_ 0 rfl)) (by omega) (by omega) (getI0 (by omega))) (E_item (E_name kd.ok (at_ 2 rfl)) (E_name kd.ok (at_ 1 rfl)) (by omega) (by omega) (getI0 (by omega))) C_gt, fun h => ⟨_, if_pos h, E_bin (E_name kd.ok (at_ 0 rfl)) (E_name kd.ok (at_ 1 rfl)) O_sub⟩, fun h => if_neg (fun h' => Bool.noConfusion (h.symm.trans h'))⟩
        refine X_cons (X_assignN ok (N_list (ds := []) A_nil (by decide)) (put_f 33 rfl) rfl ?_)
        refine X_cons (X_forL ok (It_r2 ok (rm0 (by decide)) E_int (E_bin (E_name ok (at_f 11 rfl rfl)) E_int O_add) (by omega) (by omega)) (fun f i ρ₁ => ∃ sl, ρ₁ = frL (upd (upd f 33 (.own ((dueUpto (waysOf bs) (spareN bs) g i).map tup3))) 28 sl)) ⟨.no, frL_is2 rfl rfl⟩ ?turn3 ?done3)
        case turn3 =>
          rintro i d _ hd ⟨slt, rfl⟩
          obtain ⟨hi, rfl⟩ := rng_get hd
          have et : (1 : Int) + (i : Int) = ((i + 1 : Nat) : Int) := by omega
          rw [et]
          have hi12 : i < 12 := by omega
          have hwl := SZ.wl
          have hdl2 := due_len (waysOf bs) (spareN bs) g i
          have hfl2 := List.length_filter_le (fun w => w.fmod ((i + 1 : Nat) : Int) == 0) (waysOf bs)
          have ht0 : ((i + 1 : Nat) : Int) ≠ 0 := by omega
          have hpy : ((i + 1 : Nat) : Int).natAbs < 1073741824 := by omega
          have hst := due_step (waysOf bs) (spareN bs) g i
          refine ⟨_, G_name ok (put_f 28 rfl), ?_⟩
          refine X_cons (X_if (b := dueIf (waysOf bs) (spareN bs) ((i + 1 : Nat) : Int)) ?tst (fun hy => ?yes) (fun hn => ?non))
          case tst =>
            unfold dueIf
            rw [← List.length_map (f := D.int) (as := (waysOf bs).filter fun w => w.fmod ((i + 1 : Nat) : Int) == 0)]
            refine T_cmp (E_bin (E_name ok (at_f 11 rfl rfl)) (E_name ok (at_f 28 rfl rfl)) (O_fdiv ht0 (PyProof.noPylong_small hpy))) (E_len ok (rm0 (by decide)) (NOk.e (N_compE ok [Str.ofString "way"] [(Str.ofString "t", .int ((i + 1 : Nat) : Int))] (filtI fun w => w.fmod ((i + 1 : Nat) : Int) == 0) (kid_of [Str.ofString "t"] rfl (by decide +kernel) (by intro x hx; rw [List.mem_singleton.mp hx]; rfl) (by intro x hx; rw [List.mem_singleton.mp hx]; exact at_f 28 rfl rfl)) (It_list ok (E_name ok (at_f 32 rfl rfl))) (by rw [List.length_map]; omega) ?helf (filt_ints _ _))) (by rw [List.length_map]; omega)) C_ne
            rintro c' kd k d hk
            obtain ⟨x, hx, rfl⟩ := List.mem_map.mp (List.mem_of_getElem? hk)
            exact ⟨_, L_name kd.ok (kd.kind _ _ rfl (by decide)) (put_ 0 rfl), (by intro q hq; rw [List.mem_singleton.mp hq]; exact at_ 1 rfl), x.fmod ((i + 1 : Nat) : Int) == 0, T_cmp (E_bin (E_name kd.ok (at_ 0 rfl)) (E_name kd.ok (at_ 1 rfl)) (O_mod ht0)) E_int C_eq, fun h => ⟨_, if_pos h, E_name kd.ok (at_ 0 rfl)⟩, fun h => if_neg (fun h' => Bool.noConfusion (h.symm.trans h'))⟩
          case non =>
            rw [hn] at hst
            refine X_nil (X_nil ⟨.val (.int ((i + 1 : Nat) : Int)), ?_⟩)
            rw [show dueUpto (waysOf bs) (spareN bs) g (i + 1) = dueUpto (waysOf bs) (spareN bs) g i from by rw [hst]; simp]
            exact frL_uu
          case yes =>
            rw [hy, if_pos rfl] at hst
            refine X_cons (X_append (d := tup3 (dueAt (waysOf bs) (spareN bs) g ((i + 1 : Nat) : Int))) ok (at_f 33 rfl rfl) ?tup (by rw [List.length_map]; omega) (put_f 33 rfl) (X_nil (X_nil ⟨.val (.int ((i + 1 : Nat) : Int)), ?eqf⟩)))
            case eqf =>
              rw [hst, List.map_append (l₁ := dueUpto (waysOf bs) (spareN bs) g i)]
              exact frL_4 (by decide)
            case tup =>
              refine E_tuple (A_cons (E_name ok (at_f 28 rfl rfl)) (A_cons (E_bin (E_name ok (at_f 18 rfl rfl)) (E_bin (E_name ok (at_f 28 rfl rfl)) (E_bin (E_bin (E_bin (E_name ok (at_f 11 rfl rfl)) (E_name ok (at_f 28 rfl rfl)) (O_fdiv ht0 (PyProof.noPylong_small hpy))) E_int O_add) (E_sum ok (rm0 (by decide)) ((waysOf bs).map fun w => (w + ((i + 1 : Nat) : Int) - 1).fdiv ((i + 1 : Nat) : Int)) (NOk.e (N_compE ok [Str.ofString "way"] [(Str.ofString "t", .int ((i + 1 : Nat) : Int))] _ (kid_of [Str.ofString "t"] rfl (by decide +kernel) (by intro x hx; rw [List.mem_singleton.mp hx]; rfl) (by intro x hx; rw [List.mem_singleton.mp hx]; exact at_f 28 rfl rfl)) (It_list ok (E_name ok (at_f 32 rfl rfl))) (by rw [List.length_map]; omega) ?hel5 (map_ints _ _)))) O_add) (O_mul (IntMulOk.of_left (bits_small (by omega))))) O_add)
                (A_cons (E_bin (E_name ok (at_f 18 rfl rfl)) (E_bin (E_name ok (at_f 28 rfl rfl)) (E_bin E_int (E_sum ok (rm0 (by decide)) ((waysOf bs).map fun w => w.fdiv ((i + 1 : Nat) : Int) + 1) (NOk.e (N_compE ok [Str.ofString "way"] [(Str.ofString "t", .int ((i + 1 : Nat) : Int))] _ (kid_of [Str.ofString "t"] rfl (by decide +kernel) (by intro x hx; rw [List.mem_singleton.mp hx]; rfl) (by intro x hx; rw [List.mem_singleton.mp hx]; exact at_f 28 rfl rfl)) (It_list ok (E_name ok (at_f 32 rfl rfl))) (by rw [List.length_map]; omega) ?hel6 (map_ints _ _)))) O_add) (O_mul (IntMulOk.of_left (bits_small (by omega))))) O_add) A_nil))) (by show 3 ≤ sizeLine; decide)
              case hel5 =>
                rintro c' kd k d hk
                obtain ⟨x, hx, rfl⟩ := List.mem_map.mp (List.mem_of_getElem? hk)
                exact ⟨_, L_name kd.ok (kd.kind _ _ rfl (by decide)) (put_ 0 rfl), (by intro q hq; rw [List.mem_singleton.mp hq]; exact at_ 1 rfl), _, rfl, E_bin (E_bin (E_bin (E_name kd.ok (at_ 0 rfl)) (E_name kd.ok (at_ 1 rfl)) O_add) E_int O_sub) (E_name kd.ok (at_ 1 rfl)) (O_fdiv ht0 (PyProof.noPylong_small hpy))⟩
              case hel6 =>
                rintro c' kd k d hk
                obtain ⟨x, hx, rfl⟩ := List.mem_map.mp (List.mem_of_getElem? hk)
                exact ⟨_, L_name kd.ok (kd.kind _ _ rfl (by decide)) (put_ 0 rfl), (by intro q hq; rw [List.mem_singleton.mp hq]; exact at_ 1 rfl), _, rfl, E_bin (E_bin (E_name kd.ok (at_ 0 rfl)) (E_name kd.ok (at_ 1 rfl)) (O_fdiv ht0 (PyProof.noPylong_small hpy))) E_int O_add⟩
        case done3 =>
          rintro _ ⟨slt, rfl⟩
          rw [rng_len, show (spareN bs + 1 - 1).toNat = (spareN bs).toNat from by omega]
          refine X_freeze (at_f 33 rfl rfl) (put_f 33 rfl) ?_
          refine X_cons (X_assign ok (E_wsCall ok (clsK _).nev m_nev (E_name ok (at_f 21 rfl rfl)) (A_cons (E_name ok (at_f 22 rfl rfl)) A_nil) (c_nev hb0 (ws_ok w1) (ws_ok w2)) (rm0 (by decide))) (put_f 34 rfl) ?_)
          refine X_cons (X_skip (T_cmp (E_name ok (at_f 34 rfl rfl)) (E_name ok (at_f 33 rfl rfl)) (C_ne3 ok)) (by rw [show nevOf (nearB bs g) (farB bs g) = dueUpto (waysOf bs) (spareN bs) g (spareN bs).toNat from LF.due]; simp) ?_)
          have hspl := FT.small.len
          refine X_cons (X_assign (d := .int (64 ^ (sumB bs).toNat)) ok (E_bin E_int (E_sum ok (rm0 (by decide)) ((List.range (spareOf bs).length).map fun r : Nat => (r : Int) * (spareOf bs).getD r 0) (NOk.e (N_compE (ds := (List.range (spareOf bs).length).map fun i : Nat => D.int i) ok [Str.ofString "r"] [(Str.ofString "spare", .list ((spareOf bs).map .int))] (mapI fun r => r * (spareOf bs).getD r.toNat 0) (kid_of [Str.ofString "spare"] rfl (by decide +kernel) (by intro x hx; rw [List.mem_singleton.mp hx]; rfl) (by intro x hx; rw [List.mem_singleton.mp hx]; exact at_f 10 rfl rfl)) ?itv (by rw [List.length_map, List.length_range]; omega) ?helv (rng_ints _ _)))) (O_pow SZ.s0 ?pw)) (put_f 35 rfl) ?_)
          case itv =>
            exact It_r1 (n := (spareOf bs).length) ok (rm0 (by decide)) (by rw [← List.length_map (f := D.int) (as := spareOf bs)]; exact E_len ok (rm0 (by decide)) (E_name ok (at_f 10 rfl rfl)) (by rw [List.length_map]; omega)) (by omega)
          case pw =>
            have h64 : Builtin.Int.intBits 64 = 7 := by decide +kernel
            have := SZ.s1
            show (Builtin.Int.intBits 64 : Int) * sumB bs ≤ 2 ^ 27
            rw [h64]; omega
          case helv =>
            rintro c' kd k d hk
            obtain ⟨hr, rfl⟩ := rng_get hk
            refine ⟨_, L_name kd.ok (kd.kind _ _ rfl (by decide)) (put_ 0 rfl), (by intro q hq; rw [List.mem_singleton.mp hq]; exact at_ 1 rfl), _, rfl, ?_⟩
            exact E_bin (E_name kd.ok (at_ 0 rfl)) (E_item (E_name kd.ok (at_ 1 rfl)) (E_name kd.ok (at_ 0 rfl)) (by omega) (by omega) (getI0 hr)) (O_mul (IntMulOk.of_left (bits_small (by omega))))
          have hnn : ((spareN bs).toNat : Int) = spareN bs := Int.toNat_of_nonneg n0
          have cp : FnOk w' h0' (.ref 173) [.int (spareN bs)] (.list ((partsOf (spareN bs).toNat).map .int)) 2 := by
            have := c_parts hb0 (most := (spareN bs).toNat) (by omega)
            rw [hnn] at this
            exact this
          refine X_cons (X_assign ok (E_pcall ok (globs _).parts (A_cons (E_name ok (at_f 11 rfl rfl)) A_nil) cp (rm0 (by decide))) (put_f 36 rfl) ?_)
          refine X_cons (X_forL (ds := (nevOf (nearB bs g) (farB bs g)).map tup3) ok (It_list ok (E_name ok (at_f 34 rfl rfl))) (fun f i ρ₁ => ∃ v t a b, ρ₁ = frL (upd (upd (upd (upd f 35 (.val (.int v))) 28 t) 30 a) 31 b) ∧ valueFit (partsOf (spareN bs).toNat) ((nevOf (nearB bs g) (farB bs g)).drop i) v = true ∧ valueAt (partsOf (spareN bs).toNat) ((nevOf (nearB bs g) (farB bs g)).drop i) v = valueAt (partsOf (spareN bs).toNat) (nevOf (nearB bs g) (farB bs g)) (64 ^ (sumB bs).toNat)) ⟨_, _, .no, .no, frL_is4 rfl rfl rfl rfl, SZ.val, rfl⟩ ?turn4 ?done4)
          case turn4 =>
            rintro i d _ hd ⟨v, t, a, b, rfl, hvf, hva⟩
            rw [List.getElem?_map, Option.map_eq_some_iff] at hd
            obtain ⟨u, hu, rfl⟩ := hd
            have hdr : (nevOf (nearB bs g) (farB bs g)).drop i = u :: (nevOf (nearB bs g) (farB bs g)).drop (i + 1) := by
              obtain ⟨hlt, e⟩ := List.getElem?_eq_some_iff.mp hu
              rw [List.drop_eq_getElem_cons hlt, e]
            rw [hdr] at hvf hva
            obtain ⟨q1, q2, q3, q4, q5, q6, q7⟩ := value_step hvf
            refine ⟨_, (show GOk _ _ _ (.tup [.int u.1, .int u.2.1, .int u.2.2]) _ from G_tup ok (Gs_cons (G_name ok (put_f 28 rfl)) (Gs_cons (G_name ok (put_f 30 rfl)) (Gs_cons (G_name ok (put_f 31 rfl)) Gs_nil)))), ?_⟩
            have hun : ((u.1.toNat : Nat) : Int) = u.1 := Int.toNat_of_nonneg (by omega)
            have gp : ((partsOf (spareN bs).toNat).map D.int)[u.1.toNat]? = some (.int ((partsOf (spareN bs).toNat).getD u.1.toNat 0)) := by
              rw [List.getElem?_map, List.getD_eq_getElem?_getD, List.getElem?_eq_getElem q3]; rfl
            refine X_cons (X_assign (d := .int (v * facP (partsOf (spareN bs).toNat) u)) ok (E_bin (E_name ok (at_f 35 rfl rfl)) (E_bin (E_item (E_name ok (at_f 36 rfl rfl)) (E_name ok (at_f 28 rfl rfl)) (by omega) (by omega) gp) (E_bin (E_bin (E_name ok (at_f 30 rfl rfl)) (E_name ok (at_f 31 rfl rfl)) O_sub) (E_name ok (at_f 28 rfl rfl)) (O_fdiv (by omega) (PyProof.noPylong_small (by omega)))) (O_pow q4 q5)) (O_mul q6)) (put_f 35 rfl) (X_nil ⟨_, _, _, _, frL_8, q7, ?_⟩))
            rw [← hva]; rfl
          case done4 =>
            rintro _ ⟨v, t, a, b, rfl, hvf, hva⟩
            rw [List.length_map, List.drop_length] at hva
            have hnum : (number == 11 * v) = true := by
              rw [LF.num, ← hva]
              show (11 * v == 11 * v) = true
              exact beq_self_eq_true _
            refine X_cons (X_ret (d := .bool true) (by rw [← hnum]; exact E_cmp (E_name ok (at_f 16 rfl rfl)) (E_bin E_int (E_name ok (at_f 35 rfl rfl)) (O_mul (IntMulOk.of_left (bits_small (by decide))))) C_eq) rfl)
  exact this
end Mine
end
/-! L31 -/
open PySem PySem.W PyProof.Rows PySem.Spec PySem.Calls
set_option maxRecDepth 100000
set_option maxHeartbeats 8000000
set_option linter.unusedVariables false
namespace Mine

theorem law_glob (w : World) : nsIn (Mine.hd.heap_39 w.params) mainGlobals (Str.ofString "law") = some (some (.ref 178)) := by
  have : Sight PySem.Challenge.rw_sn0023_01 Mine.hd.heap_39 (nsIn (Mine.hd.heap_39 w.params) mainGlobals (Str.ofString "law") = some (some (.ref 178))) := by
    k_fill
    unfold Sight
    k_is
  exact this
theorem ofPy_ints : ∀ xs : List Int, ofPy (.list (xs.map PyData.int)) = .list (xs.map WData.int)
  | xs => by
    have : ∀ xs : List Int, ofPys (xs.map PyData.int) = xs.map WData.int := by
      intro xs
      induction xs with
      | nil => rfl
      | cons x xs ih => rw [List.map_cons, List.map_cons, ← ih]; rfl
    rw [← this]; rfl
theorem well_ints {P : Params} {h : Heap} : ∀ {xs : List Int} {vs : List Value}, WellAll P h vs (xs.map WData.int) → Reps (fun a => h.get? a) (xs.map D.int) vs
  | [], _, h => by cases h; rfl
  | x :: xs, _, h => by
    rw [List.map_cons] at h
    cases h with
    | cons h1 h2 => cases h1; exact ⟨_, _, rfl, ⟨_, rfl⟩, well_ints h2⟩
theorem rep_well {P : Params} {h : Heap} {xs : List Int} {v : Value} (r : Well P h v (ofPy (.list (xs.map PyData.int)))) : Rep (fun a => h.get? a) (.list (xs.map D.int)) v := by
  rw [ofPy_ints] at r
  cases r with
  | list h1 h2 => exact ⟨_, _, _, rfl, h1, well_ints h2⟩
end Mine

set_option maxHeartbeats 8000000 in
theorem PySem.Challenge.cw_sn0023_01_holds : PySem.Challenge.rw_sn0023_01.Holds := by
  refine Mine.hd ?_
  k_fill
  intro w s₀ s₁ mg mb G Y fa o pm cd doc dV kV ho hd hcd hD hmg hg args vals as hpre hlay hrd hwl hlo
  have KX := kIn_of Y
  have hmg' := hmg
  refine Ground.open G ?_
  intro T B D TE TW
  clear hmg hd hcd hD
  wrow_args hpre hlay hrd hwl hlo
  rename_i xs _ _ _ _ _ _ _ l vs _ hL ra w1 r0 hI hr hc1 hc2
  have hfa : fa = 178 := by
    have := mg_of KX T.g (Mine.law_glob w)
    rw [show mg (PySem.Str.ofString "law") = some (.ref fa) from hmg'] at this
    cases this; rfl
  subst hfa
  have hb0 : Mine.BaseOk w s₁.heap := ⟨KX, _, _, _, _, _, T⟩
  refine Mine.c_law (xs := xs) hb0 (by omega) (A := callerA) (z := fun a => s₁.heap.get? a) rfl rfl (by decide +kernel) (by decide +kernel) (fun _ _ e => e) (fun _ _ e => e) (Mine.Reps.one (Mine.rep_well w1)) fun h' t' keep => ?_
  exact ⟨.inl ⟨.bool true, .bool true, [], rfl, raisesW_false (by wrow_none_raised), .bool true, postW_of (by wrow_shape) (by wtm_val) rfl, fun _ => ⟨List.nodup_nil, fun a h => by cases h⟩⟩, .of_keep keep, rfl, .of_eq hg⟩
