import PyProof.Rows.All
import Wide.All
import OpenK.AllK
import Wide.FinOn
import PyProof.FactsAll.range_2
import KE.KRevIter
import KE.KDictIter
import PyProof.MeetsSeq3
import PyProof.FactsAll.list_2
import KE.KEqDat
import KE.KRevSl
import KE.KSortAsk
import PyProof.Rows.MinMaxN
import PyProof.Rows.SortShell
import PyProof.Rows.SortWalk
import PyProof.WalkInts
import PySem.Challenge.RW_mg0061_01
open PySem PySem.W PyProof.Rows PySem.Calls
set_option Elab.async false
set_option maxRecDepth 100000
set_option linter.unusedVariables false
set_option compiler.extract_closed false
set_option bootstrap.genMatcherCode false
set_option genSizeOf false
namespace Mine
theorem gate {T : Prop} (h : ∀ G : Prop, (T → G) → G) : T := h T id

inductive It where
  | ob (t : Nat) (o : Obj)
  | ls (t : Nat) (vs : List Value)
  | pr (t : Nat) (P : Obj → Prop)
  | fr (l : List (Nat × Value))

noncomputable def It.fz : It → Bool
  | .ls t _ => Nat.beq t 0
  | _ => false
noncomputable abbrev Sto := Addr → Option It
noncomputable def upd (f : Sto) (a : Addr) (i : It) : Sto := fun b => if b = a then some i else f b
noncomputable def del (f : Sto) (a : Addr) : Sto := fun b => if b = a then none else f b
theorem upd_self {f : Sto} {a : Addr} {i : It} : upd f a i a = some i := if_pos rfl
theorem upd_ne {f : Sto} {a b : Addr} {i : It} (h : b ≠ a) : upd f a i b = f b := if_neg h
theorem del_self {f : Sto} {a : Addr} : del f a a = none := if_pos rfl
theorem del_ne {f : Sto} {a b : Addr} (h : b ≠ a) : del f a b = f b := if_neg h
theorem ne_of_it {f : Sto} {a b : Addr} {i j : It} (ha : f a = some i) (hb : f b = some j) (h : i ≠ j) : a ≠ b := fun q => by subst q; rw [ha] at hb; cases hb; exact h rfl
theorem ne_of_none {f : Sto} {a b : Addr} {i : It} (ha : f a = some i) (hb : f b = none) : a ≠ b := fun q => by subst q; rw [ha] at hb; cases hb

set_option genInjectivity false in
structure Cx (nm : Nat → Str) (prog : Program) (KK : Params → Frag) (gl bl : Nat → Option Value) where
  w : World
  h₀ : Heap
  os₀ : OsState
  mg : Str → Option Value
  mb : Str → Option Value
  inj : ∀ i j, nm i = nm j → i = j
  nodebug : ∀ i, (nm i == ("__debug__" : Str)) = false
  X : (KK w.params).In h₀
  G : h₀.Ns mainGlobals mg
  B : h₀.Ns builtinsNs mb
  lim : h₀.NoLimit
  globs : ∀ i v, gl i = some v → mg (nm i) = some v
  bltins : ∀ i v, bl i = some v → mg (nm i) = none ∧ mb (nm i) = some v
section
variable {nm : Nat → Str} {prog : Program} {KK : Params → Frag} {gl bl : Nat → Option Value}
noncomputable abbrev Cx.M (c : Cx nm prog KK gl bl) : Model := model prog c.w
noncomputable abbrev Cx.K (c : Cx nm prog KK gl bl) : Frag := KK c.w.params

end
noncomputable def frameSat (nm : Nat → Str) (h : Heap) (a : Addr) (l : List (Nat × Value)) : Prop := ∃ m, h.Ns a m ∧ ∀ i v, l.lookup i = some v → m (nm i) = some v
noncomputable abbrev lst (vs : List Value) (n : Nat) : Obj := listOf vs.toArray n
noncomputable def It.sat (nm : Nat → Str) (h : Heap) (a : Addr) : It → Prop
  | .ob _ o => h.get? a = some o
  | .ls _ vs => ∃ n, h.get? a = some (lst vs n)
  | .pr _ P => ∃ o, h.get? a = some o ∧ P o
  | .fr l => frameSat nm h a l

section
variable {nm : Nat → Str} {prog : Program} {KK : Params → Frag} {gl bl : Nat → Option Value}
structure Rel (c : Cx nm prog KK gl bl) (τ : Sto) (L : Addr) (l : List (Nat × Value)) (s : Shared) : Prop where
  keep : ∀ b o, c.h₀.get? b = some o → s.heap.get? b = some o
  sat : ∀ a i, τ a = some i → i.sat nm s.heap a
  new : ∀ a i, τ a = some i → i.fz = true ∨ c.h₀.get? a = none
  here : frameSat nm s.heap L l
  newL : c.h₀.get? L = none
  apart : τ L = none
  gens : s.gens = #[]
  os : s.os = c.os₀
end

section
variable {nm : Nat → Str} {prog : Program} {KK : Params → Frag} {gl bl : Nat → Option Value} {c : Cx nm prog KK gl bl} {τ τ' : Sto} {s : Shared} {L a : Addr} {l : List (Nat × Value)} {o : Obj} {i : It} {t : Nat}
theorem frameSat.keeps {h h' : Heap} (k : ∀ o, h.get? a = some o → h'.get? a = some o) : frameSat nm h a l → frameSat nm h' a l
  | ⟨m, ⟨o, es, ep, e, r⟩, q⟩ => ⟨m, ⟨o, es, ep, k _ e, r⟩, q⟩
theorem frameSat.slots {h h' : Heap} (k : ∀ o, h.get? a = some o → (∀ vs, o.data ≠ .fields vs) → ∃ sl, h'.get? a = some { o with slots := sl }) : frameSat nm h a l → frameSat nm h' a l := by
  rintro ⟨m, ⟨o, es, ep, e, d, r⟩, q⟩
  obtain ⟨sl, e'⟩ := k o e (fun vs z => by rw [d] at z; cases z)
  exact ⟨m, ⟨_, es, ep, e', d, r⟩, q⟩
theorem frameSat.lt {h : Heap} : frameSat nm h a l → a < h.objs.size
  | ⟨_, e, _⟩ => e.lt
theorem It.sat.lt {h : Heap} : ∀ {i : It}, i.sat nm h a → a < h.objs.size
  | .ob _ _, e => Heap.lt_size e
  | .ls _ _, ⟨_, e⟩ => Heap.lt_size e
  | .pr _ _, ⟨_, e, _⟩ => Heap.lt_size e
  | .fr _, e => frameSat.lt e
theorem It.sat.keeps {h h' : Heap} (k : ∀ o, h.get? a = some o → h'.get? a = some o) : ∀ {i : It}, i.sat nm h a → i.sat nm h' a
  | .ob _ _, e => k _ e
  | .ls _ _, ⟨n, e⟩ => ⟨n, k _ e⟩
  | .pr _ _, ⟨o, e, p⟩ => ⟨o, k _ e, p⟩
  | .fr _, e => frameSat.keeps k e
theorem Rel.get (R : Rel c τ L l s) (e : τ a = some (.ob t o)) : s.heap.get? a = some o := R.sat _ _ e
theorem Rel.lt (R : Rel c τ L l s) (e : τ a = some i) : a < s.heap.objs.size := (R.sat _ _ e).lt
theorem Rel.none_size (R : Rel c τ L l s) {n : Nat} (hn : s.heap.objs.size ≤ n) : τ n = none := by
  cases e : τ n with
  | none => rfl
  | some i => exact absurd (R.lt e) (Nat.not_lt.mpr hn)
theorem Rel.fresh (R : Rel c τ L l s) : τ s.heap.objs.size = none := R.none_size (Nat.le_refl _)
theorem Rel.ltL (R : Rel c τ L l s) : L < s.heap.objs.size := R.here.lt
theorem Rel.base_none (R : Rel c τ L l s) {n : Nat} (hn : s.heap.objs.size ≤ n) : c.h₀.get? n = none := by
  cases e : c.h₀.get? n with
  | none => rfl
  | some i => exact absurd (Heap.lt_size (R.keep _ _ e)) (Nat.not_lt.mpr hn)
theorem Rel.neL (R : Rel c τ L l s) (e : τ a = some i) : a ≠ L := ne_of_none e R.apart
theorem Rel.newN (R : Rel c τ L l s) (e : τ a = some i) (hz : i.fz = false) : c.h₀.get? a = none := by
  rcases R.new _ _ e with h | h
  · rw [hz] at h; cases h
  · exact h
theorem Rel.mono (R : Rel c τ L l s) (k : ∀ a i, τ' a = some i → τ a = some i) : Rel c τ' L l s :=
  ⟨R.keep, fun a i e => R.sat a i (k a i e), fun a i e => R.new a i (k a i e), R.here, R.newL, (by cases e : τ' L with | none => rfl | some i => exact absurd (k _ _ e) (by rw [R.apart]; exact nofun)), R.gens, R.os⟩
theorem Rel.toks (R : Rel c τ L l s) (n : Nat) : Rel c τ L l { s with toks := n } := ⟨R.keep, R.sat, R.new, R.here, R.newL, R.apart, R.gens, R.os⟩
theorem Rel.heap (R : Rel c τ L l s) {h' : Heap} {n : Nat} (k : ∀ b o, s.heap.get? b = some o → h'.get? b = some o) : Rel c τ L l { s with heap := h', toks := n } :=
  ⟨fun b o e => k b o (R.keep b o e), fun a i e => (R.sat a i e).keeps fun o q => k a o q, R.new, R.here.keeps fun o q => k L o q, R.newL, R.apart, R.gens, R.os⟩
theorem Rel.grow (R : Rel c τ L l s) {h' : Heap} {n : Nat} (k : ∀ b o, s.heap.get? b = some o → h'.get? b = some o) (hs : s.heap.objs.size ≤ a) (hi : i.sat nm h' a) : Rel c (upd τ a i) L l { s with heap := h', toks := n } := by
  refine ⟨fun b o e => k b o (R.keep b o e), fun b j e => ?_, fun b j e => ?_, R.here.keeps fun o q => k L o q, R.newL, ?_, R.gens, R.os⟩
  · by_cases q : b = a
    · subst q; rw [upd_self] at e; cases e; exact hi
    · rw [upd_ne q] at e; exact (R.sat b j e).keeps fun o z => k b o z
  · by_cases q : b = a
    · subst q; exact .inr (R.base_none hs)
    · rw [upd_ne q] at e; exact R.new b j e
  · rw [upd_ne (Nat.ne_of_lt (Nat.lt_of_lt_of_le R.ltL hs))]; exact R.apart
theorem Rel.push (R : Rel c τ L l s) (t : Nat) (o : Obj) (n : Nat) (hf : o.isFreed = false := by rfl) : Rel c (upd τ s.heap.objs.size (.ob t o)) L l { s with heap := s.heap.push o, toks := n } :=
  R.grow (fun _ _ e => Heap.get?_push_of_some _ e) (Nat.le_refl _) (Heap.get?_push_size _ hf)
theorem Rel.turn (R : Rel c τ L l s) {h' : Heap} {n : Nat} {i i' : It} (e : τ a = some i) (hs : Heap.SameBut a s.heap h') (hi : i'.sat nm h' a) (hz : i.fz = false := by rfl) : Rel c (upd τ a i') L l { s with heap := h', toks := n } := by
  refine ⟨fun b o q => (hs.2 b fun z => by subst z; rw [R.newN e hz] at q; cases q).trans (R.keep b o q), fun b j q => ?_, fun b j q => ?_, R.here.keeps fun o q => (hs.2 L (Ne.symm (R.neL e))).trans q, R.newL, ?_, R.gens, R.os⟩
  · by_cases z : b = a
    · subst z; rw [upd_self] at q; cases q; exact hi
    · rw [upd_ne z] at q; exact (R.sat b j q).keeps fun o y => (hs.2 b z).trans y
  · by_cases z : b = a
    · subst z; exact .inr (R.newN e hz)
    · rw [upd_ne z] at q; exact R.new b j q
  · rw [upd_ne (Ne.symm (R.neL e))]; exact R.apart
theorem Rel.turnL (R : Rel c τ L l s) {h' : Heap} {n : Nat} {l' : List (Nat × Value)} (hs : Heap.SameBut L s.heap h') (hi : frameSat nm h' L l') : Rel c τ L l' { s with heap := h', toks := n } :=
  ⟨fun b o q => (hs.2 b fun z => by subst z; rw [R.newL] at q; cases q).trans (R.keep b o q), fun b j q => (R.sat b j q).keeps fun o y => (hs.2 b (R.neL q)).trans y, R.new, hi, R.newL, R.apart, R.gens, R.os⟩
theorem Rel.getP (R : Rel c τ L l s) {P : Obj → Prop} (e : τ a = some (.pr t P)) : ∃ o, s.heap.get? a = some o ∧ P o := R.sat _ _ e
theorem Rel.getL (R : Rel c τ L l s) {vs : List Value} (e : τ a = some (.ls t vs)) : ∃ n, s.heap.get? a = some (lst vs n) := R.sat _ _ e
theorem Rel.retell (R : Rel c τ L l s) {i' : It} (e : τ a = some i) (k : ∀ h : Heap, i.sat nm h a → i'.sat nm h a) (hz : i.fz = false ∨ i'.fz = true := by first | exact .inl rfl | exact .inr rfl) : Rel c (upd τ a i') L l s := by
  refine ⟨R.keep, fun b j q => ?_, fun b j q => ?_, R.here, R.newL, ?_, R.gens, R.os⟩
  · by_cases z : b = a
    · subst z; rw [upd_self] at q; cases q; exact k _ (R.sat _ _ e)
    · rw [upd_ne z] at q; exact R.sat b j q
  · by_cases z : b = a
    · subst z; rw [upd_self] at q; cases q; exact hz.elim (fun hz => .inr (R.newN e hz)) .inl
    · rw [upd_ne z] at q; exact R.new b j q
  · rw [upd_ne (Ne.symm (R.neL e))]; exact R.apart
theorem Rel.tag (R : Rel c τ L l s) {t' : Nat} {vs : List Value} (e : τ a = some (.ls t vs)) (hz : Nat.beq t 0 = false ∨ Nat.beq t' 0 = true := by first | exact .inl rfl | exact .inr rfl) : Rel c (upd τ a (.ls t' vs)) L l s := R.retell e (fun _ x => x) hz
end

noncomputable def Ok (n : Nat) (A : Around) : Prop := A.handled = none ∧ A.depth + n < 1000 ∧ A.units + 16 * n < 9900
theorem Ok.le {n k : Nat} {A : Around} (h : Ok n A) (q : k ≤ n) : Ok k A := ⟨h.1, by have := h.2.1; omega, by have := h.2.2; omega⟩
theorem Ok.deeper {n : Nat} {A : Around} (env : Env) (h : Ok (n + 1) A) : Ok n (A.deeper env) := ⟨h.1, by have := h.2.1; show A.depth + 1 + n < 1000; omega, by have := h.2.2; show A.units + 3 + 16 * n < 9900; omega⟩
theorem Ok.room {n : Nat} {A : Around} (h : Ok n A) : A.depth < recursionLimit := by have := h.2.1; show A.depth < 1000; omega
theorem Ok.units {n : Nat} {A : Around} (h : Ok n A) : A.units < cLine := by have := h.2.2; show A.units < 9900; omega

noncomputable def put : List (Nat × Value) → Nat → Value → List (Nat × Value)
  | [], k, v => [(k, v)]
  | (k', v') :: r, k, v => bif Nat.beq k' k then (k, v) :: r else (k', v') :: put r k v
theorem lookup_put {l : List (Nat × Value)} {k : Nat} {v : Value} {j : Nat} {u : Value} (h : (put l k v).lookup j = some u) : (j = k ∧ u = v) ∨ (j ≠ k ∧ l.lookup j = some u) := by
  induction l with
  | nil =>
    by_cases q : j = k
    · subst q; simp [put] at h; exact .inl ⟨rfl, h.symm⟩
    · have hb : (j == k) = false := beq_eq_false_iff_ne.mpr q
      simp only [put, List.lookup_cons, hb, List.lookup_nil] at h
      cases h
  | cons p r ih =>
    obtain ⟨k', v'⟩ := p
    unfold put at h
    by_cases z : k' = k
    · subst z
      simp only [Nat.beq_refl, cond_true] at h
      by_cases q : j = k'
      · subst q; simp at h; exact .inl ⟨rfl, h.symm⟩
      · have hb : (j == k') = false := beq_eq_false_iff_ne.mpr q
        rw [List.lookup_cons, hb] at h
        exact .inr ⟨q, by rw [List.lookup_cons, hb]; exact h⟩
    · have zb : Nat.beq k' k = false := by cases e : Nat.beq k' k with | false => rfl | true => exact absurd (Nat.eq_of_beq_eq_true e) z
      rw [zb, cond_false, List.lookup_cons] at h
      by_cases q : j = k'
      · subst q
        simp at h
        exact .inr ⟨z, by simp [h]⟩
      · have hb : (j == k') = false := beq_eq_false_iff_ne.mpr q
        rw [hb] at h
        rcases ih h with x | ⟨x, y⟩
        · exact .inl x
        · exact .inr ⟨x, by rw [List.lookup_cons, hb]; exact y⟩
noncomputable def Fsub : List (Nat × Value) → List (Nat × Value) → Prop
  | [], _ => True
  | (k, v) :: r, l => l.lookup k = some v ∧ Fsub r l
theorem Fsub.get {l' l : List (Nat × Value)} (h : Fsub l' l) (i : Nat) (v : Value) (e : l'.lookup i = some v) : l.lookup i = some v := by
  induction l' with
  | nil => cases e
  | cons p r ih =>
    obtain ⟨k, u⟩ := p
    rw [List.lookup_cons] at e
    by_cases z : i = k
    · subst z; simp at e; subst e; exact h.1
    · have hb : (i == k) = false := beq_eq_false_iff_ne.mpr z
      rw [hb] at e; exact ih h.2 e
theorem frameSat.forget {nm : Nat → Str} {h : Heap} {a : Addr} {l' l : List (Nat × Value)} (k : Fsub l' l) : frameSat nm h a l → frameSat nm h a l' :=
  fun ⟨m, hn, q⟩ => ⟨m, hn, fun i v e => q i v (k.get i v e)⟩

section
variable {nm : Nat → Str} {prog : Program} {KK : Params → Frag} {gl bl : Nat → Option Value}
structure Ev (c : Cx nm prog KK gl bl) (env : Env) (L : Addr) (ks : List (Nat × NameKind)) (cs : List (Nat × Addr)) : Prop where
  fn : env.scope.kind = .function
  loc : env.locals = L
  glob : env.globals = mainGlobals
  blt : env.builtins = builtinsNs
  kinds : ∀ i k, ks.lookup i = some k → env.scope.names.lookup (nm i) = some k
  frame : env.frame.isSome = true
  cells : ∀ i a, cs.lookup i = some a → env.cells.lookup (nm i) = some a

end
section
variable {nm : Nat → Str} {prog : Program} {KK : Params → Frag} {gl bl : Nat → Option Value} {c : Cx nm prog KK gl bl} {A : Around} {E : Value → Shared → Prop} {τ : Sto} {L : Addr} {l : List (Nat × Value)} {s : Shared} {env : Env} {ks : List (Nat × NameKind)} {cs : List (Nat × Addr)} {i : Nat} {pos : Pos} {v : Value}
theorem Rel.forget (R : Rel c τ L l s) {l' : List (Nat × Value)} (k : Fsub l' l) : Rel c τ L l' s :=
  ⟨R.keep, R.sat, R.new, R.here.forget k, R.newL, R.apart, R.gens, R.os⟩
theorem Rel.globals (R : Rel c τ L l s) : s.heap.Ns mainGlobals c.mg := c.G.keeps R.keep
theorem Rel.builtins (R : Rel c τ L l s) : s.heap.Ns builtinsNs c.mb := c.B.keeps R.keep
theorem Rel.nolimit (R : Rel c τ L l s) : s.heap.NoLimit := c.lim.keeps R.keep
theorem Rel.frag (R : Rel c τ L l s) : c.K.In s.heap := c.X.keeps R.keep

theorem ldL {Q : Value → Shared → Prop} (V : Ev c env L ks cs) (R : Rel c τ L l s) (hk : ks.lookup i = some .local) (hv : l.lookup i = some v) (h : Q v s) : wpAny c.M A (eval (.Name (nm i) pos) env) Q E s := by
  obtain ⟨m, hn, q⟩ := R.here
  exact wpAny_Name (wpAny_loadName_local V.fn (V.kinds _ _ hk) (V.loc ▸ hn) (q i v hv) h) (c.nodebug i)
theorem stL {Q : Unit → Shared → Prop} (V : Ev c env L ks cs) (R : Rel c τ L l s) (hk : ks.lookup i = some .local)
    (h : ∀ s', Rel c τ L (put l i v) s' → Q () s') : wpAny c.M A (storeName env (nm i) v) Q E s := by
  obtain ⟨m, hn, q⟩ := R.here
  obtain ⟨fn, rfl, _, _, kinds, _, _⟩ := V
  refine wpAny_storeName_local (kinds _ _ hk) hn (fun h' hn' hs => h _ (R.turnL hs ⟨_, hn', fun j u hj => ?_⟩)) (by rw [fn]; rfl)
  rcases lookup_put hj with ⟨rfl, rfl⟩ | ⟨hne, hj⟩
  · simp
  · have : nm j ≠ nm i := fun z => hne (c.inj _ _ z)
    simp only [this, if_false]
    exact q j u hj
theorem ldG {Q : Value → Shared → Prop} (V : Ev c env L ks cs) (R : Rel c τ L l s) (hk : ks.lookup i = some .globalImplicit) (hv : gl i = some v) (h : Q v s) : wpAny c.M A (eval (.Name (nm i) pos) env) Q E s :=
  Name_function_global V.fn (V.kinds _ _ hk) (loadGlobal_global (V.glob ▸ R.globals) (c.globs _ _ hv) h) (c.nodebug i)
theorem ldB {Q : Value → Shared → Prop} (V : Ev c env L ks cs) (R : Rel c τ L l s) (hk : ks.lookup i = some .globalImplicit) (hv : bl i = some v) (h : Q v s) : wpAny c.M A (eval (.Name (nm i) pos) env) Q E s :=
  Name_function_global V.fn (V.kinds _ _ hk) (loadGlobal_builtin (V.glob ▸ R.globals) (c.bltins _ _ hv).1 (V.blt ▸ R.builtins) (c.bltins _ _ hv).2 h) (c.nodebug i)
end

end Mine

namespace Mine
section
variable {nm : Nat → Str} {prog : Program} {KK : Params → Frag} {gl bl : Nat → Option Value} {c : Cx nm prog KK gl bl} {A : Around} {E : Value → Shared → Prop} {τ τ' τ₂ : Sto} {L L' : Addr} {l l' : List (Nat × Value)} {s : Shared} {env : Env} {ks : List (Nat × NameKind)} {cs : List (Nat × Addr)} {i : Nat} {pos : Pos} {v : Value}

noncomputable def named (nm : Nat → Str) {α : Type} (l : List (Nat × α)) : List (Str × α) := l.map fun p => (nm p.1, p.2)
theorem named_lookup {α : Type} (inj : ∀ i j, nm i = nm j → i = j) : ∀ (l : List (Nat × α)) (i : Nat), (named nm l).lookup (nm i) = l.lookup i
  | [], _ => rfl
  | (k, v) :: r, i => by
    show List.lookup (nm i) ((nm k, v) :: named nm r) = _
    rw [List.lookup_cons, List.lookup_cons]
    by_cases q : i = k
    · subst q; simp
    · have h1 : (i == k) = false := beq_eq_false_iff_ne.mpr q
      have h2 : (nm i == nm k) = false := beq_eq_false_iff_ne.mpr fun z => q (inj _ _ z)
      rw [h1, h2]; exact named_lookup inj r i

theorem lookup_rev {l : List (Nat × Value)} (hnd : (l.map (·.1)).Nodup) {i : Nat} {v : Value} (e : l.lookup i = some v) : l.reverse.lookup i = some v := by
  induction l with
  | nil => cases e
  | cons p r ih =>
    obtain ⟨k, u⟩ := p
    rw [List.map_cons, List.nodup_cons] at hnd
    rw [List.reverse_cons, List.lookup_append]
    rw [List.lookup_cons] at e
    by_cases q : i = k
    · subst q
      have hno : r.reverse.lookup i = none := by
        rw [List.lookup_eq_none_iff]
        intro p hp
        have : p.1 ∈ r.map (·.1) := List.mem_map_of_mem (List.mem_reverse.mp hp)
        exact bne_iff_ne.mpr fun z => hnd.1 (z ▸ this)
      rw [hno]; simp at e; simp [e]
    · have hb : (i == k) = false := beq_eq_false_iff_ne.mpr q
      rw [hb] at e
      rw [ih hnd.2 e]; rfl

theorem Rel.back (R : Rel c τ₂ L' l' s) (e : τ₂ L = some (.fr l)) (k : ∀ a i, τ' a = some i → τ₂ a = some i) (hL : τ' L = none) : Rel c τ' L l s :=
  ⟨R.keep, fun a i q => R.sat a i (k a i q), fun a i q => R.new a i (k a i q), R.sat _ _ e, R.newN e rfl, hL, R.gens, R.os⟩
theorem Rel.out (R : Rel c (upd τ' L (.fr l)) L' l' s) (hL : τ' L = none) : Rel c τ' L l s :=
  R.back upd_self (fun a i e => (upd_ne fun q => by subst q; rw [hL] at e; cases e).trans e) hL
theorem Rel.into (R : Rel c τ L l s) {h' : Heap} {n : Nat} (k : ∀ b o, s.heap.get? b = some o → h'.get? b = some o) (hs : s.heap.objs.size ≤ L') (hi : frameSat nm h' L' l') : Rel c (upd τ L (.fr l)) L' l' { s with heap := h', toks := n } := by
  refine ⟨fun b o e => k b o (R.keep b o e), fun b j e => ?_, fun b j e => ?_, hi, R.base_none hs, ?_, R.gens, R.os⟩
  · by_cases q : b = L
    · subst q; rw [upd_self] at e; cases e; exact R.here.keeps fun o z => k b o z
    · rw [upd_ne q] at e; exact (R.sat b j e).keeps fun o z => k b o z
  · by_cases q : b = L
    · subst q; exact .inr R.newL
    · rw [upd_ne q] at e; exact R.new b j e
  · have := R.ltL
    rw [upd_ne (Nat.ne_of_gt (Nat.lt_of_lt_of_le this hs))]; exact R.none_size hs

noncomputable def noCell : List (Nat × NameKind) → Bool
  | [] => true
  | (_, .cell) :: _ => false
  | _ :: r => noCell r
theorem noCell_of : ∀ {l : List (Nat × NameKind)}, noCell l = true → ∀ x ∈ l, x.2 ≠ .cell
  | (_, k) :: r, h, x, hx => by
    rcases List.mem_cons.mp hx with rfl | hx
    · intro q; dsimp only at q; subst q; cases h
    · refine noCell_of (l := r) ?_ x hx
      cases k <;> first | exact h | cases h
noncomputable def locOk (ks : List (Nat × NameKind)) : List Nat → Bool
  | [] => true
  | i :: r => (match ks.lookup i with | some .local => true | _ => false) && !r.contains i && locOk ks r
theorem locOk_of {ks : List (Nat × NameKind)} : ∀ {l : List Nat}, locOk ks l = true → l.Nodup ∧ ∀ i ∈ l, ks.lookup i = some .local
  | [], _ => ⟨.nil, nofun⟩
  | i :: r, h => by
    unfold locOk at h
    rw [Bool.and_eq_true, Bool.and_eq_true] at h
    obtain ⟨⟨h1, h2⟩, h3⟩ := h
    obtain ⟨a, b⟩ := locOk_of h3
    refine ⟨List.nodup_cons.mpr ⟨by simpa using h2, a⟩, fun j hj => ?_⟩
    rcases List.mem_cons.mp hj with rfl | hj
    · split at h1 <;> first | assumption | cases h1
    · exact b j hj
noncomputable abbrev flowVal (f : Flow) : Value := match f with | .ret v => v | _ => .none

noncomputable abbrev CQ (Q : Value → Shared → Prop) (E : Value → Shared → Prop) : Result → Shared → Prop := fun r s' => match r with | .ok (.ret v) => Q v s' | .ok _ => False | .error e => E e s'
theorem callFc {f : Addr} {n : Nat} {name qual : Str} {params : Arguments} {body : List Stmt} {scope : Scope} {dV kV doc pm cdv ct oc : Value} {an od : Option Addr} {osl : Array (Option Value)} {vals : List Value} {lb : List (Nat × Value)} {Q : Value → Shared → Prop}
    (H : Ok (n + 1) A) (R : Rel c τ L l s) (ho : c.K.lookup f = some ⟨oc, od, .func (fnOf name qual params body scope dV kV doc pm an cdv ct), osl⟩) (hcd : codeIn c.K cdv qual = true)
    (hsc : scope.kind = .function ∧ scope.isGenerator = false ∧ scope.isCoroutine = false) (hn : scope.names = named nm ks) (hcell : noCell ks = true)
    (hbind : BindsTo s (fnOf name qual params body scope dV kV doc pm an cdv ct) ⟨vals, []⟩ (named nm lb)) (hloc : locOk ks (lb.map (·.1)) = true)
    (h : ∀ L' env' s', Ev c env' L' ks [] → env'.frame = some L' → Ok n (A.deeper env') → Rel c (upd τ L (.fr l)) L' lb s' → τ L' = none → L' ≠ L →
      wpAny c.M (A.deeper env') (execs body env') (fun fl s'' => Q (flowVal fl) s'')
        (fun e s' => wpAny c.M (A.deeper env') («leaving» env' e) (fun _ s'' => E e s'') (fun e' s'' => E e' s'') s') s') :
    codeAny c.M A (.call (.ref f) ⟨vals, []⟩) (CQ Q E) s := by
  refine (codeAny_call_def (fd := fnOf name qual params body scope dV kV doc pm an cdv ct) (body := body) (binds := named nm lb) H.room (R.frag _ _ ho) rfl R.nolimit (codeRec_of R.frag hcd) rfl hbind ?_ ?_ (fun h₁ hns hk₁ => ?_) hsc.2.2 hsc.2.1 hsc.1)
  · show ∀ x ∈ scope.names, _
    rw [hn]
    intro x hx
    obtain ⟨y, hy, rfl⟩ := List.mem_map.mp hx
    exact noCell_of hcell y hy
  · intro x hx
    obtain ⟨y, hy, rfl⟩ := List.mem_map.mp hx
    show scope.names.lookup _ = _
    rw [hn, named_lookup c.inj]
    exact (locOk_of hloc).2 _ (List.mem_map_of_mem hy)
  · have fs : frameSat nm h₁ s.heap.objs.size lb := ⟨_, hns, fun i v e => by
      have e1 := lookup_rev (locOk_of hloc).1 e
      show (named nm lb).reverse.lookup (nm i) = some v
      have e2 : (named nm lb).reverse = named nm lb.reverse := by unfold named; rw [List.map_reverse]
      rw [e2, named_lookup c.inj]; exact e1⟩
    have R' := R.into (n := s.toks + (named nm lb).length) hk₁ (Nat.le_refl _) fs
    refine h _ _ _ ⟨hsc.1, rfl, rfl, rfl, fun i k e => ?_, rfl, fun i a e => (nomatch e)⟩ rfl (H.deeper _) R' R.fresh (Nat.ne_of_gt R.ltL)
    show scope.names.lookup _ = _
    rw [hn, named_lookup c.inj]; exact e
theorem callFv {f : Addr} {n : Nat} {name qual : Str} {params : Arguments} {body : List Stmt} {scope : Scope} {dV kV doc pm cdv ct oc : Value} {an od : Option Addr} {osl : Array (Option Value)} {vals more : List Value} {lb : Addr → List (Nat × Value)} {Q : Value → Shared → Prop}
    (H : Ok (n + 1) A) (R : Rel c τ L l s) (ho : c.K.lookup f = some ⟨oc, od, .func (fnOf name qual params body scope dV kV doc pm an cdv ct), osl⟩) (hcd : codeIn c.K cdv qual = true)
    (hsc : scope.kind = .function ∧ scope.isGenerator = false ∧ scope.isCoroutine = false) (hn : scope.names = named nm ks) (hcell : noCell ks = true)
    (hbind : bindArgs (fnOf name qual params body scope dV kV doc pm an cdv ct) ⟨vals, []⟩ = (newTuple more >>= fun t => match t with | .ref a => pure (named nm (lb a)) | _ => unsupported "")) (hmore : more.length < 100000) (hloc : ∀ a, locOk ks ((lb a).map (·.1)) = true)
    (h : ∀ ta L' env' s', Ev c env' L' ks [] → env'.frame = some L' → Ok n (A.deeper env') → Rel c (upd (upd τ ta (.ob 0 { cls := .type "tuple", data := .seq more.toArray })) L (.fr l)) L' (lb ta) s' → τ ta = none → ta ≠ L → τ L' = none → L' ≠ L → L' ≠ ta →
      wpAny c.M (A.deeper env') (execs body env') (fun fl s'' => Q (flowVal fl) s'')
        (fun e s' => wpAny c.M (A.deeper env') («leaving» env' e) (fun _ s'' => E e s'') (fun e' s'' => E e' s'') s') s') :
    codeAny c.M A (.call (.ref f) ⟨vals, []⟩) (CQ Q E) s := by
  refine codeAny_call_function H.room (R.frag _ _ ho) rfl hsc.2.2 hsc.2.1 rfl (codeRec_of R.frag hcd) ?_
  rw [hbind]
  refine wpAny_bind (wpAny_newObj_type ?_ (by show more.toArray.size ≤ sizeLine; rw [List.size_toArray, sizeLine_eq]; omega))
  have R₁ := R.push 0 { cls := .type "tuple", data := .seq more.toArray } s.toks
  refine wpAny_pure (wpAny_newFunctionEnv ?_ ?_ (fun h₁ hns hsb => ⟨R₁.nolimit.fresh _ hsb, codeAny_func ?_⟩) hsc.1)
  · show ∀ x ∈ scope.names, _
    rw [hn]
    intro x hx
    obtain ⟨y, hy, rfl⟩ := List.mem_map.mp hx
    exact noCell_of hcell y hy
  · intro x hx
    obtain ⟨y, hy, rfl⟩ := List.mem_map.mp hx
    show scope.names.lookup _ = _
    rw [hn, named_lookup c.inj]
    exact (locOk_of (hloc _)).2 _ (List.mem_map_of_mem hy)
  · have hk₁ : ∀ b o, (s.heap.push { cls := .type "tuple", data := .seq more.toArray }).get? b = some o → h₁.get? b = some o := fun b o e => hsb.extBut b o (Nat.ne_of_lt (Heap.lt_size e)) (Heap.get?_push_of_some _ e)
    have fs : frameSat nm h₁ (s.heap.push { cls := .type "tuple", data := .seq more.toArray }).objs.size (lb s.heap.objs.size) := ⟨_, hns, fun i v e => by
      have e1 := lookup_rev (locOk_of (hloc s.heap.objs.size)).1 e
      show (named nm (lb s.heap.objs.size)).reverse.lookup (nm i) = some v
      have e2 : (named nm (lb s.heap.objs.size)).reverse = named nm (lb s.heap.objs.size).reverse := by unfold named; rw [List.map_reverse]
      rw [e2, named_lookup c.inj]; exact e1⟩
    have R' := R₁.into (n := s.toks + (named nm (lb s.heap.objs.size)).length) hk₁ (Nat.le_refl _) fs
    have hsz := Heap.size_push s.heap { cls := .type "tuple", data := .seq more.toArray }
    refine h s.heap.objs.size _ _ _ ⟨hsc.1, rfl, rfl, rfl, fun i k e => ?_, rfl, fun i a e => (nomatch e)⟩ rfl (H.deeper _) R' R.fresh (Nat.ne_of_gt R.ltL) (R.none_size ?_) (Nat.ne_of_gt ?_) (Nat.ne_of_gt ?_)
    · show scope.names.lookup _ = _
      rw [hn, named_lookup c.inj]; exact e
    · exact Nat.le_trans (Nat.le_succ _) (Nat.le_of_eq hsz.symm)
    · exact Nat.lt_of_lt_of_le (Nat.lt_succ_of_lt R.ltL) (Nat.le_of_eq hsz.symm)
    · exact Nat.lt_of_lt_of_le (Nat.lt_succ_self _) (Nat.le_of_eq hsz.symm)
end
end Mine

namespace Mine

noncomputable def nmT : List Str := [Str.ofString ".0", Str.ofString "CycleError", Str.ofString "StopIteration", Str.ofString "TopologicalSorter", Str.ofString "TypeError", Str.ofString "ValueError", Str.ofString "_NODE_DONE", Str.ofString "_NODE_OUT", Str.ofString "_NodeInfo", Str.ofString "__bool__", Str.ofString "__init__", Str.ofString "__name__", Str.ofString "__next__", Str.ofString "__slots__", Str.ofString "_find_cycle", Str.ofString "_get_nodeinfo", Str.ofString "_initial_missing", Str.ofString "_law_agrees", Str.ofString "_law_by_weight", Str.ofString "_law_goes_round", Str.ofString "_law_item", Str.ofString "_law_joined", Str.ofString "_law_kept", Str.ofString "_law_names", Str.ofString "_law_orders", Str.ofString "_law_steps", Str.ofString "_law_taken", Str.ofString "_law_told", Str.ofString "_law_wishes", Str.ofString "_nfinished", Str.ofString "_node2info", Str.ofString "_npassedout", Str.ofString "_ready_nodes", Str.ofString "_siftdown", Str.ofString "_siftup", Str.ofString "_wall", Str.ofString "a", Str.ofString "add", Str.ofString "agreed", Str.ofString "ahead", Str.ofString "append", Str.ofString "around", Str.ofString "b", Str.ofString "behind", Str.ofString "book", Str.ofString "bool", Str.ofString "childpos", Str.ofString "clear", Str.ofString "come", Str.ofString "cycle", Str.ofString "d", Str.ofString "done", Str.ofString "draws", Str.ofString "element", Str.ofString "endpos", Str.ofString "first", Str.ofString "free", Str.ofString "function", Str.ofString "get", Str.ofString "get_ready", Str.ofString "graph", Str.ofString "heap", Str.ofString "heapify", Str.ofString "heappop", Str.ofString "heappush", Str.ofString "i", Str.ofString "index", Str.ofString "initial", Str.ofString "is_active", Str.ofString "it", Str.ofString "item", Str.ofString "items", Str.ofString "iter", Str.ofString "itstack", Str.ofString "joined", Str.ofString "k", Str.ofString "kept", Str.ofString "last", Str.ofString "lastelt", Str.ofString "late", Str.ofString "law", Str.ofString "law_mg0061_01", Str.ofString "law_mg0061_02", Str.ofString "least", Str.ofString "len", Str.ofString "list", Str.ofString "m", Str.ofString "max", Str.ofString "middle", Str.ofString "min", Str.ofString "n", Str.ofString "n2i", Str.ofString "name", Str.ofString "names", Str.ofString "near", Str.ofString "newitem", Str.ofString "next", Str.ofString "node", Str.ofString "node2stacki", Str.ofString "nodeinfo", Str.ofString "nodes", Str.ofString "npredecessors", Str.ofString "o", Str.ofString "object", Str.ofString "order", Str.ofString "orders", Str.ofString "p", Str.ofString "pair", Str.ofString "pairs", Str.ofString "parent", Str.ofString "parentpos", Str.ofString "pop", Str.ofString "pos", Str.ofString "pred", Str.ofString "pred_info", Str.ofString "predecessors", Str.ofString "prepare", Str.ofString "range", Str.ofString "reduce", Str.ofString "result", Str.ofString "returnitem", Str.ofString "reversed", Str.ofString "rightpos", Str.ofString "ring", Str.ofString "row", Str.ofString "script", Str.ofString "second", Str.ofString "seen", Str.ofString "self", Str.ofString "sequence", Str.ofString "set", Str.ofString "sorted", Str.ofString "sorter", Str.ofString "stack", Str.ofString "startpos", Str.ofString "stat", Str.ofString "static_order", Str.ofString "steps", Str.ofString "successor", Str.ofString "successor_info", Str.ofString "successors", Str.ofString "tuple", Str.ofString "value", Str.ofString "values", Str.ofString "wish", Str.ofString "wishes", Str.ofString "x"]
noncomputable def nm (i : Nat) : Str := nmT.getD i ⟨#[2000000 + i]⟩
theorem nmT_codes : nmT.map (fun x => x.cps.toList) = [[46, 48], [67, 121, 99, 108, 101, 69, 114, 114, 111, 114], [83, 116, 111, 112, 73, 116, 101, 114, 97, 116, 105, 111, 110], [84, 111, 112, 111, 108, 111, 103, 105, 99, 97, 108, 83, 111, 114, 116, 101, 114], [84, 121, 112, 101, 69, 114, 114, 111, 114], [86, 97, 108, 117, 101, 69, 114, 114, 111, 114], [95, 78, 79, 68, 69, 95, 68, 79, 78, 69], [95, 78, 79, 68, 69, 95, 79, 85, 84], [95, 78, 111, 100, 101, 73, 110, 102, 111], [95, 95, 98, 111, 111, 108, 95, 95], [95, 95, 105, 110, 105, 116, 95, 95], [95, 95, 110, 97, 109, 101, 95, 95], [95, 95, 110, 101, 120, 116, 95, 95], [95, 95, 115, 108, 111, 116, 115, 95, 95], [95, 102, 105, 110, 100, 95, 99, 121, 99, 108, 101], [95, 103, 101, 116, 95, 110, 111, 100, 101, 105, 110, 102, 111], [95, 105, 110, 105, 116, 105, 97, 108, 95, 109, 105, 115, 115, 105, 110, 103], [95, 108, 97, 119, 95, 97, 103, 114, 101, 101, 115], [95, 108, 97, 119, 95, 98, 121, 95, 119, 101, 105, 103, 104, 116], [95, 108, 97, 119, 95, 103, 111, 101, 115, 95, 114, 111, 117, 110, 100], [95, 108, 97, 119, 95, 105, 116, 101, 109], [95, 108, 97, 119, 95, 106, 111, 105, 110, 101, 100], [95, 108, 97, 119, 95, 107, 101, 112, 116], [95, 108, 97, 119, 95, 110, 97, 109, 101, 115], [95, 108, 97, 119, 95, 111, 114, 100, 101, 114, 115], [95, 108, 97, 119, 95, 115, 116, 101, 112, 115], [95, 108, 97, 119, 95, 116, 97, 107, 101, 110], [95, 108, 97, 119, 95, 116, 111, 108, 100], [95, 108, 97, 119, 95, 119, 105, 115, 104, 101, 115], [95, 110, 102, 105, 110, 105, 115, 104, 101, 100], [95, 110, 111, 100, 101, 50, 105, 110, 102, 111], [95, 110, 112, 97, 115, 115, 101, 100, 111, 117, 116], [95, 114, 101, 97, 100, 121, 95, 110, 111, 100, 101, 115], [95, 115, 105, 102, 116, 100, 111, 119, 110], [95, 115, 105, 102, 116, 117, 112], [95, 119, 97, 108, 108], [97], [97, 100, 100], [97, 103, 114, 101, 101, 100], [97, 104, 101, 97, 100], [97, 112, 112, 101, 110, 100], [97, 114, 111, 117, 110, 100], [98], [98, 101, 104, 105, 110, 100], [98, 111, 111, 107], [98, 111, 111, 108], [99, 104, 105, 108, 100, 112, 111, 115], [99, 108, 101, 97, 114], [99, 111, 109, 101], [99, 121, 99, 108, 101], [100], [100, 111, 110, 101], [100, 114, 97, 119, 115], [101, 108, 101, 109, 101, 110, 116], [101, 110, 100, 112, 111, 115], [102, 105, 114, 115, 116], [102, 114, 101, 101], [102, 117, 110, 99, 116, 105, 111, 110], [103, 101, 116], [103, 101, 116, 95, 114, 101, 97, 100, 121], [103, 114, 97, 112, 104], [104, 101, 97, 112], [104, 101, 97, 112, 105, 102, 121], [104, 101, 97, 112, 112, 111, 112], [104, 101, 97, 112, 112, 117, 115, 104], [105], [105, 110, 100, 101, 120], [105, 110, 105, 116, 105, 97, 108], [105, 115, 95, 97, 99, 116, 105, 118, 101], [105, 116], [105, 116, 101, 109], [105, 116, 101, 109, 115], [105, 116, 101, 114], [105, 116, 115, 116, 97, 99, 107], [106, 111, 105, 110, 101, 100], [107], [107, 101, 112, 116], [108, 97, 115, 116], [108, 97, 115, 116, 101, 108, 116], [108, 97, 116, 101], [108, 97, 119], [108, 97, 119, 95, 109, 103, 48, 48, 54, 49, 95, 48, 49], [108, 97, 119, 95, 109, 103, 48, 48, 54, 49, 95, 48, 50], [108, 101, 97, 115, 116], [108, 101, 110], [108, 105, 115, 116], [109], [109, 97, 120], [109, 105, 100, 100, 108, 101], [109, 105, 110], [110], [110, 50, 105], [110, 97, 109, 101], [110, 97, 109, 101, 115], [110, 101, 97, 114], [110, 101, 119, 105, 116, 101, 109], [110, 101, 120, 116], [110, 111, 100, 101], [110, 111, 100, 101, 50, 115, 116, 97, 99, 107, 105], [110, 111, 100, 101, 105, 110, 102, 111], [110, 111, 100, 101, 115], [110, 112, 114, 101, 100, 101, 99, 101, 115, 115, 111, 114, 115], [111], [111, 98, 106, 101, 99, 116], [111, 114, 100, 101, 114], [111, 114, 100, 101, 114, 115], [112], [112, 97, 105, 114], [112, 97, 105, 114, 115], [112, 97, 114, 101, 110, 116], [112, 97, 114, 101, 110, 116, 112, 111, 115], [112, 111, 112], [112, 111, 115], [112, 114, 101, 100], [112, 114, 101, 100, 95, 105, 110, 102, 111], [112, 114, 101, 100, 101, 99, 101, 115, 115, 111, 114, 115], [112, 114, 101, 112, 97, 114, 101], [114, 97, 110, 103, 101], [114, 101, 100, 117, 99, 101], [114, 101, 115, 117, 108, 116], [114, 101, 116, 117, 114, 110, 105, 116, 101, 109], [114, 101, 118, 101, 114, 115, 101, 100], [114, 105, 103, 104, 116, 112, 111, 115], [114, 105, 110, 103], [114, 111, 119], [115, 99, 114, 105, 112, 116], [115, 101, 99, 111, 110, 100], [115, 101, 101, 110], [115, 101, 108, 102], [115, 101, 113, 117, 101, 110, 99, 101], [115, 101, 116], [115, 111, 114, 116, 101, 100], [115, 111, 114, 116, 101, 114], [115, 116, 97, 99, 107], [115, 116, 97, 114, 116, 112, 111, 115], [115, 116, 97, 116], [115, 116, 97, 116, 105, 99, 95, 111, 114, 100, 101, 114], [115, 116, 101, 112, 115], [115, 117, 99, 99, 101, 115, 115, 111, 114], [115, 117, 99, 99, 101, 115, 115, 111, 114, 95, 105, 110, 102, 111], [115, 117, 99, 99, 101, 115, 115, 111, 114, 115], [116, 117, 112, 108, 101], [118, 97, 108, 117, 101], [118, 97, 108, 117, 101, 115], [119, 105, 115, 104], [119, 105, 115, 104, 101, 115], [120]] := by kernel_rfl
theorem nmT_nodup : (nmT.map fun x => x.cps.toList).Nodup := by rw [nmT_codes]; decide +kernel
theorem nmT_low : ∀ x ∈ nmT, ∀ k ∈ x.cps.toList, k < 2000000 := by
  have : ∀ y ∈ nmT.map (fun x => x.cps.toList), ∀ k ∈ y, k < 2000000 := by rw [nmT_codes]; decide +kernel
  exact fun x hx => this _ (List.mem_map_of_mem hx)
theorem nm_inj : ∀ i j, nm i = nm j → i = j := by
  intro i j h
  unfold nm at h
  rw [List.getD_eq_getElem?_getD, List.getD_eq_getElem?_getD] at h
  cases hi : nmT[i]? with
  | none =>
    cases hj : nmT[j]? with
    | none =>
      rw [hi, hj] at h
      simp only [Option.getD_none, Str.mk.injEq, Array.mk.injEq, List.cons.injEq, and_true] at h
      omega
    | some y =>
      rw [hi, hj] at h
      simp only [Option.getD_none, Option.getD_some] at h
      have := nmT_low y (List.mem_of_getElem? hj) (2000000 + i) (by rw [← h]; simp)
      omega
  | some x =>
    cases hj : nmT[j]? with
    | none =>
      rw [hi, hj] at h
      simp only [Option.getD_none, Option.getD_some] at h
      have := nmT_low x (List.mem_of_getElem? hi) (2000000 + j) (by rw [h]; simp)
      omega
    | some y =>
      rw [hi, hj] at h
      simp only [Option.getD_some] at h
      subst h
      have e1 : (nmT.map fun x => x.cps.toList)[i]? = some x.cps.toList := by rw [List.getElem?_map, hi]; rfl
      have e2 : (nmT.map fun x => x.cps.toList)[j]? = some x.cps.toList := by rw [List.getElem?_map, hj]; rfl
      have hl : i < (nmT.map fun x => x.cps.toList).length := (List.getElem?_eq_some_iff.mp e1).1
      exact (List.getElem?_inj hl nmT_nodup).mp (e1.trans e2.symm)
theorem nm_nodebug : ∀ i, (nm i == ("__debug__" : Str)) = false := by
  intro i
  rw [beq_eq_false_iff_ne]
  intro h
  unfold nm at h
  rw [List.getD_eq_getElem?_getD] at h
  cases hi : nmT[i]? with
  | none =>
    rw [hi] at h
    simp only [Option.getD_none] at h
    have e : (⟨#[2000000 + i]⟩ : Str).cps.toList = (("__debug__" : Str)).cps.toList := by rw [h]
    have e2 : ((("__debug__" : Str)).cps.toList) = [95, 95, 100, 101, 98, 117, 103, 95, 95] := by kernel_rfl
    rw [e2] at e
    simp at e
  | some x =>
    rw [hi] at h
    simp only [Option.getD_some] at h
    have hm : x.cps.toList ∈ nmT.map fun x => x.cps.toList := List.mem_map_of_mem (List.mem_of_getElem? hi)
    rw [h] at hm
    have e2 : ((("__debug__" : Str)).cps.toList) = [95, 95, 100, 101, 98, 117, 103, 95, 95] := by kernel_rfl
    rw [e2, nmT_codes] at hm
    revert hm
    decide +kernel

theorem n_dot0 : Str.ofString ".0" = nm 0 := rfl
theorem n_CycleError : Str.ofString "CycleError" = nm 1 := rfl
theorem n_StopIteration : Str.ofString "StopIteration" = nm 2 := rfl
theorem n_TopologicalSorter : Str.ofString "TopologicalSorter" = nm 3 := rfl
theorem n_TypeError : Str.ofString "TypeError" = nm 4 := rfl
theorem n_ValueError : Str.ofString "ValueError" = nm 5 := rfl
theorem n__NODE_DONE : Str.ofString "_NODE_DONE" = nm 6 := rfl
theorem n__NODE_OUT : Str.ofString "_NODE_OUT" = nm 7 := rfl
theorem n__NodeInfo : Str.ofString "_NodeInfo" = nm 8 := rfl
theorem n___bool__ : Str.ofString "__bool__" = nm 9 := rfl
theorem n___init__ : Str.ofString "__init__" = nm 10 := rfl
theorem n___name__ : Str.ofString "__name__" = nm 11 := rfl
theorem n___next__ : Str.ofString "__next__" = nm 12 := rfl
theorem n___slots__ : Str.ofString "__slots__" = nm 13 := rfl
theorem n__find_cycle : Str.ofString "_find_cycle" = nm 14 := rfl
theorem n__get_nodeinfo : Str.ofString "_get_nodeinfo" = nm 15 := rfl
theorem n__initial_missing : Str.ofString "_initial_missing" = nm 16 := rfl
theorem n__law_agrees : Str.ofString "_law_agrees" = nm 17 := rfl
theorem n__law_by_weight : Str.ofString "_law_by_weight" = nm 18 := rfl
theorem n__law_goes_round : Str.ofString "_law_goes_round" = nm 19 := rfl
theorem n__law_item : Str.ofString "_law_item" = nm 20 := rfl
theorem n__law_joined : Str.ofString "_law_joined" = nm 21 := rfl
theorem n__law_kept : Str.ofString "_law_kept" = nm 22 := rfl
theorem n__law_names : Str.ofString "_law_names" = nm 23 := rfl
theorem n__law_orders : Str.ofString "_law_orders" = nm 24 := rfl
theorem n__law_steps : Str.ofString "_law_steps" = nm 25 := rfl
theorem n__law_taken : Str.ofString "_law_taken" = nm 26 := rfl
theorem n__law_told : Str.ofString "_law_told" = nm 27 := rfl
theorem n__law_wishes : Str.ofString "_law_wishes" = nm 28 := rfl
theorem n__nfinished : Str.ofString "_nfinished" = nm 29 := rfl
theorem n__node2info : Str.ofString "_node2info" = nm 30 := rfl
theorem n__npassedout : Str.ofString "_npassedout" = nm 31 := rfl
theorem n__ready_nodes : Str.ofString "_ready_nodes" = nm 32 := rfl
theorem n__siftdown : Str.ofString "_siftdown" = nm 33 := rfl
theorem n__siftup : Str.ofString "_siftup" = nm 34 := rfl
theorem n__wall : Str.ofString "_wall" = nm 35 := rfl
theorem n_a : Str.ofString "a" = nm 36 := rfl
theorem n_add : Str.ofString "add" = nm 37 := rfl
theorem n_agreed : Str.ofString "agreed" = nm 38 := rfl
theorem n_ahead : Str.ofString "ahead" = nm 39 := rfl
theorem n_append : Str.ofString "append" = nm 40 := rfl
theorem n_around : Str.ofString "around" = nm 41 := rfl
theorem n_b : Str.ofString "b" = nm 42 := rfl
theorem n_behind : Str.ofString "behind" = nm 43 := rfl
theorem n_book : Str.ofString "book" = nm 44 := rfl
theorem n_bool : Str.ofString "bool" = nm 45 := rfl
theorem n_childpos : Str.ofString "childpos" = nm 46 := rfl
theorem n_clear : Str.ofString "clear" = nm 47 := rfl
theorem n_come : Str.ofString "come" = nm 48 := rfl
theorem n_cycle : Str.ofString "cycle" = nm 49 := rfl
theorem n_d : Str.ofString "d" = nm 50 := rfl
theorem n_done : Str.ofString "done" = nm 51 := rfl
theorem n_draws : Str.ofString "draws" = nm 52 := rfl
theorem n_element : Str.ofString "element" = nm 53 := rfl
theorem n_endpos : Str.ofString "endpos" = nm 54 := rfl
theorem n_first : Str.ofString "first" = nm 55 := rfl
theorem n_free : Str.ofString "free" = nm 56 := rfl
theorem n_function : Str.ofString "function" = nm 57 := rfl
theorem n_get : Str.ofString "get" = nm 58 := rfl
theorem n_get_ready : Str.ofString "get_ready" = nm 59 := rfl
theorem n_graph : Str.ofString "graph" = nm 60 := rfl
theorem n_heap : Str.ofString "heap" = nm 61 := rfl
theorem n_heapify : Str.ofString "heapify" = nm 62 := rfl
theorem n_heappop : Str.ofString "heappop" = nm 63 := rfl
theorem n_heappush : Str.ofString "heappush" = nm 64 := rfl
theorem n_i : Str.ofString "i" = nm 65 := rfl
theorem n_index : Str.ofString "index" = nm 66 := rfl
theorem n_initial : Str.ofString "initial" = nm 67 := rfl
theorem n_is_active : Str.ofString "is_active" = nm 68 := rfl
theorem n_it : Str.ofString "it" = nm 69 := rfl
theorem n_item : Str.ofString "item" = nm 70 := rfl
theorem n_items : Str.ofString "items" = nm 71 := rfl
theorem n_iter : Str.ofString "iter" = nm 72 := rfl
theorem n_itstack : Str.ofString "itstack" = nm 73 := rfl
theorem n_joined : Str.ofString "joined" = nm 74 := rfl
theorem n_k : Str.ofString "k" = nm 75 := rfl
theorem n_kept : Str.ofString "kept" = nm 76 := rfl
theorem n_last : Str.ofString "last" = nm 77 := rfl
theorem n_lastelt : Str.ofString "lastelt" = nm 78 := rfl
theorem n_late : Str.ofString "late" = nm 79 := rfl
theorem n_law : Str.ofString "law" = nm 80 := rfl
theorem n_law_mg0061_01 : Str.ofString "law_mg0061_01" = nm 81 := rfl
theorem n_law_mg0061_02 : Str.ofString "law_mg0061_02" = nm 82 := rfl
theorem n_least : Str.ofString "least" = nm 83 := rfl
theorem n_len : Str.ofString "len" = nm 84 := rfl
theorem n_list : Str.ofString "list" = nm 85 := rfl
theorem n_m : Str.ofString "m" = nm 86 := rfl
theorem n_max : Str.ofString "max" = nm 87 := rfl
theorem n_middle : Str.ofString "middle" = nm 88 := rfl
theorem n_min : Str.ofString "min" = nm 89 := rfl
theorem n_n : Str.ofString "n" = nm 90 := rfl
theorem n_n2i : Str.ofString "n2i" = nm 91 := rfl
theorem n_name : Str.ofString "name" = nm 92 := rfl
theorem n_names : Str.ofString "names" = nm 93 := rfl
theorem n_near : Str.ofString "near" = nm 94 := rfl
theorem n_newitem : Str.ofString "newitem" = nm 95 := rfl
theorem n_next : Str.ofString "next" = nm 96 := rfl
theorem n_node : Str.ofString "node" = nm 97 := rfl
theorem n_node2stacki : Str.ofString "node2stacki" = nm 98 := rfl
theorem n_nodeinfo : Str.ofString "nodeinfo" = nm 99 := rfl
theorem n_nodes : Str.ofString "nodes" = nm 100 := rfl
theorem n_npredecessors : Str.ofString "npredecessors" = nm 101 := rfl
theorem n_o : Str.ofString "o" = nm 102 := rfl
theorem n_object : Str.ofString "object" = nm 103 := rfl
theorem n_order : Str.ofString "order" = nm 104 := rfl
theorem n_orders : Str.ofString "orders" = nm 105 := rfl
theorem n_p : Str.ofString "p" = nm 106 := rfl
theorem n_pair : Str.ofString "pair" = nm 107 := rfl
theorem n_pairs : Str.ofString "pairs" = nm 108 := rfl
theorem n_parent : Str.ofString "parent" = nm 109 := rfl
theorem n_parentpos : Str.ofString "parentpos" = nm 110 := rfl
theorem n_pop : Str.ofString "pop" = nm 111 := rfl
theorem n_pos : Str.ofString "pos" = nm 112 := rfl
theorem n_pred : Str.ofString "pred" = nm 113 := rfl
theorem n_pred_info : Str.ofString "pred_info" = nm 114 := rfl
theorem n_predecessors : Str.ofString "predecessors" = nm 115 := rfl
theorem n_prepare : Str.ofString "prepare" = nm 116 := rfl
theorem n_range : Str.ofString "range" = nm 117 := rfl
theorem n_reduce : Str.ofString "reduce" = nm 118 := rfl
theorem n_result : Str.ofString "result" = nm 119 := rfl
theorem n_returnitem : Str.ofString "returnitem" = nm 120 := rfl
theorem n_reversed : Str.ofString "reversed" = nm 121 := rfl
theorem n_rightpos : Str.ofString "rightpos" = nm 122 := rfl
theorem n_ring : Str.ofString "ring" = nm 123 := rfl
theorem n_row : Str.ofString "row" = nm 124 := rfl
theorem n_script : Str.ofString "script" = nm 125 := rfl
theorem n_second : Str.ofString "second" = nm 126 := rfl
theorem n_seen : Str.ofString "seen" = nm 127 := rfl
theorem n_self : Str.ofString "self" = nm 128 := rfl
theorem n_sequence : Str.ofString "sequence" = nm 129 := rfl
theorem n_set : Str.ofString "set" = nm 130 := rfl
theorem n_sorted : Str.ofString "sorted" = nm 131 := rfl
theorem n_sorter : Str.ofString "sorter" = nm 132 := rfl
theorem n_stack : Str.ofString "stack" = nm 133 := rfl
theorem n_startpos : Str.ofString "startpos" = nm 134 := rfl
theorem n_stat : Str.ofString "stat" = nm 135 := rfl
theorem n_static_order : Str.ofString "static_order" = nm 136 := rfl
theorem n_steps : Str.ofString "steps" = nm 137 := rfl
theorem n_successor : Str.ofString "successor" = nm 138 := rfl
theorem n_successor_info : Str.ofString "successor_info" = nm 139 := rfl
theorem n_successors : Str.ofString "successors" = nm 140 := rfl
theorem n_tuple : Str.ofString "tuple" = nm 141 := rfl
theorem n_value : Str.ofString "value" = nm 142 := rfl
theorem n_values : Str.ofString "values" = nm 143 := rfl
theorem n_wish : Str.ofString "wish" = nm 144 := rfl
theorem n_wishes : Str.ofString "wishes" = nm 145 := rfl
theorem n_x : Str.ofString "x" = nm 146 := rfl
end Mine

set_option maxHeartbeats 8000000
namespace Mine
noncomputable def vw : Program := view PySem.Challenge.pw_mg0061_01 [0, 2, 5, 6, 7, 8, 9, 11, 12, 13, 14, 15, 17, 18, 19, 20, 21, 22, 23, 24]
theorem ws : PySem.Challenge.rw_mg0061_01.wellSaid = true := by kernel_rfl
theorem lw (h : PySem.Challenge.rw_mg0061_01.row.Holds) : PySem.Challenge.rw_mg0061_01.Holds := holds_law ws fun _ => h
local macro_rules | `(tactic| o_law) => `(tactic| apply lw)
noncomputable abbrev lo : List Str := [PySem.Str.ofString "_initial_missing", PySem.Str.ofString "reduce", PySem.Str.ofString "_NodeInfo"]
noncomputable abbrev xt (s : Shared) : Bool := xlAt vw [] s && recOk [] s
theorem hop (H : Hook) {d : DefRec} {kwd : List (Str × Expr)} (hl : LeftO PySem.Challenge.rw_mg0061_01.row.prog vw lo xt (Hook.obs H) (Hook.val H) 3188) (hw : PySem.Challenge.rw_mg0061_01.row.toRowW.promised)
    (hc : WalkO vw lo (XL vw []) (Hook.says H) PySem.Challenge.rw_mg0061_01.row.toRowW d kwd fun f vs => PySem.call f vs) (hdef : defOf vw PySem.Challenge.rw_mg0061_01.row.name = some (d, kwd) := by rfl) (hp : PySem.Challenge.rw_mg0061_01.row.prog.theDef PySem.Challenge.rw_mg0061_01.row.name = some (d.params, d.body, d.scope) := by rfl) (hk : kwWritten? d.params.kwonlyargs d.params.kw_defaults = some kwd := by rfl) : PySem.Challenge.rw_mg0061_01.row.Holds :=
  holds_open (XP := XL vw []) hl (Hook.of H) (Hook.keeps H) (fun s e => xl_of s (Bool.and_eq_true_iff.mp e).1) XL.keeps hdef hp hk (fun s e => recFacts_of (Bool.and_eq_true_iff.mp e).2) rfl (row_said ws) (by decide +kernel) ⟨rfl, rfl, rfl, rfl, rfl, by decide +kernel⟩ hw hc
local macro_rules | `(tactic| o_head $H) => `(tactic| refine hop $H (by exact fun w => by kernel_rfl) ?hw ?hc)
open_top hd for PySem.Challenge.rw_mg0061_01
noncomputable abbrev KK := hd.heap_1
end Mine

namespace Mine
noncomputable abbrev prg := PySem.Challenge.rw_mg0061_01.row.prog
noncomputable def lookT : List (Nat × Value) → Nat → Option Value
  | [], _ => none
  | (k, v) :: r, i => bif Nat.beq k i then some v else lookT r i
noncomputable def glT : List (Nat × Value) := [(35, .ref 21), (16, .ref 22), (118, .ref 30), (7, .int (-1) 212), (6, .int (-2) 215), (8, .ref 49), (1, .ref 64), (3, .ref 146), (64, .ref 157), (63, .ref 164), (62, .ref 171), (33, .ref 178), (34, .ref 185), (23, .ref 192), (25, .ref 199), (21, .ref 206), (20, .ref 213), (27, .ref 218), (22, .ref 223), (17, .ref 228), (80, .ref 235)]
noncomputable def gl (i : Nat) : Option Value := lookT glT i
noncomputable def blT : List (Nat × Value) := [(84, .builtin "len"), (131, .builtin "sorted"), (89, .builtin "min"), (87, .builtin "max"), (72, .builtin "iter"), (96, .builtin "next"), (117, .type "range"), (85, .type "list"), (141, .type "tuple"), (130, .type "set"), (121, .type "reversed"), (45, .type "bool"), (5, .type "ValueError"), (2, .type "StopIteration"), (4, .type "TypeError")]
noncomputable def bl (i : Nat) : Option Value := lookT blT i
noncomputable abbrev f_reduce : Nat := 30
noncomputable def ks_reduce : List (Nat × NameKind) := [(57, .local), (129, .local), (67, .local), (69, .local), (142, .local), (53, .local), (72, .globalImplicit), (16, .globalImplicit), (96, .globalImplicit), (2, .globalImplicit), (4, .globalImplicit)]
noncomputable abbrev f__NodeInfo___init__ : Nat := 45
noncomputable def ks__NodeInfo___init__ : List (Nat × NameKind) := [(128, .local), (97, .local)]
noncomputable abbrev f_TopologicalSorter___init__ : Nat := 82
noncomputable def ks_TopologicalSorter___init__ : List (Nat × NameKind) := [(128, .local), (60, .local), (97, .local), (115, .local)]
noncomputable abbrev f_TopologicalSorter__get_nodeinfo : Nat := 89
noncomputable def ks_TopologicalSorter__get_nodeinfo : List (Nat × NameKind) := [(128, .local), (97, .local), (119, .local), (8, .globalImplicit)]
noncomputable abbrev f_TopologicalSorter_add : Nat := 96
noncomputable def ks_TopologicalSorter_add : List (Nat × NameKind) := [(128, .local), (97, .local), (115, .local), (99, .local), (113, .local), (114, .local), (5, .globalImplicit), (84, .globalImplicit)]
noncomputable abbrev f_TopologicalSorter_prepare : Nat := 101
noncomputable def ks_TopologicalSorter_prepare : List (Nat × NameKind) := [(128, .local), (49, .local), (5, .globalImplicit), (1, .globalImplicit)]
noncomputable abbrev f_TopologicalSorter_get_ready : Nat := 108
noncomputable def ks_TopologicalSorter_get_ready : List (Nat × NameKind) := [(128, .local), (119, .local), (91, .local), (97, .local), (5, .globalImplicit), (141, .globalImplicit), (7, .globalImplicit), (84, .globalImplicit)]
noncomputable abbrev f_TopologicalSorter_done : Nat := 129
noncomputable def ks_TopologicalSorter_done : List (Nat × NameKind) := [(128, .local), (100, .local), (91, .local), (97, .local), (99, .local), (135, .local), (138, .local), (139, .local), (5, .globalImplicit), (7, .globalImplicit), (6, .globalImplicit)]
noncomputable abbrev f_TopologicalSorter__find_cycle : Nat := 136
noncomputable def ks_TopologicalSorter__find_cycle : List (Nat × NameKind) := [(128, .local), (91, .local), (133, .local), (73, .local), (127, .local), (98, .local), (97, .local), (130, .globalImplicit), (72, .globalImplicit), (84, .globalImplicit), (2, .globalImplicit)]
noncomputable abbrev f_heappush : Nat := 157
noncomputable def ks_heappush : List (Nat × NameKind) := [(61, .local), (70, .local), (33, .globalImplicit), (84, .globalImplicit)]
noncomputable abbrev f_heappop : Nat := 164
noncomputable def ks_heappop : List (Nat × NameKind) := [(61, .local), (78, .local), (120, .local), (34, .globalImplicit)]
noncomputable abbrev f_heapify : Nat := 171
noncomputable def ks_heapify : List (Nat × NameKind) := [(146, .local), (90, .local), (65, .local), (84, .globalImplicit), (121, .globalImplicit), (117, .globalImplicit), (34, .globalImplicit)]
noncomputable abbrev f__siftdown : Nat := 178
noncomputable def ks__siftdown : List (Nat × NameKind) := [(61, .local), (134, .local), (112, .local), (95, .local), (110, .local), (109, .local)]
noncomputable abbrev f__siftup : Nat := 185
noncomputable def ks__siftup : List (Nat × NameKind) := [(61, .local), (112, .local), (54, .local), (134, .local), (95, .local), (46, .local), (122, .local), (84, .globalImplicit), (33, .globalImplicit)]
noncomputable abbrev f__law_names : Nat := 192
noncomputable def ks__law_names : List (Nat × NameKind) := [(125, .local), (93, .local), (146, .local)]
noncomputable abbrev f__law_steps : Nat := 199
noncomputable def ks__law_steps : List (Nat × NameKind) := [(125, .local), (93, .local), (52, .local), (65, .local), (137, .local), (50, .local), (36, .local), (42, .local), (117, .globalImplicit), (84, .globalImplicit), (89, .globalImplicit), (87, .globalImplicit)]
noncomputable abbrev f__law_joined : Nat := 206
noncomputable def ks__law_joined : List (Nat × NameKind) := [(93, .local), (137, .local), (74, .local), (88, .local), (36, .local), (42, .local), (85, .globalImplicit)]
noncomputable abbrev f__law_item : Nat := 213
noncomputable def ks__law_item : List (Nat × NameKind) := [(92, .local), (79, .local)]
noncomputable abbrev f__law_told : Nat := 218
noncomputable def ks__law_told : List (Nat × NameKind) := [(93, .local), (137, .local), (79, .cell), (132, .local), (39, .local), (43, .local), (92, .local), (56, .local), (61, .local), (104, .local), (3, .globalImplicit), (1, .globalImplicit), (62, .globalImplicit), (63, .globalImplicit), (64, .globalImplicit), (20, .globalImplicit)]
noncomputable abbrev f__law_kept : Nat := 223
noncomputable def ks__law_kept : List (Nat × NameKind) := [(108, .local), (104, .cell)]
noncomputable abbrev f__law_agrees : Nat := 228
noncomputable def ks__law_agrees : List (Nat × NameKind) := [(93, .cell), (137, .local), (74, .cell), (48, .cell), (105, .local), (79, .cell), (56, .local), (104, .local), (108, .local), (76, .cell), (94, .local), (75, .local), (21, .globalImplicit), (27, .globalImplicit), (84, .globalImplicit), (131, .globalImplicit), (118, .globalImplicit), (22, .globalImplicit), (117, .globalImplicit)]
noncomputable abbrev f_law : Nat := 235
noncomputable def ks_law : List (Nat × NameKind) := [(125, .local), (17, .globalImplicit), (23, .globalImplicit), (25, .globalImplicit)]
noncomputable abbrev c__NodeInfo : Nat := 49
noncomputable abbrev c_CycleError : Nat := 64
noncomputable abbrev c_TopologicalSorter : Nat := 146
noncomputable abbrev p_node : Nat := 50
noncomputable abbrev p_npredecessors : Nat := 51
noncomputable abbrev p_successors : Nat := 52
noncomputable abbrev a_missing : Nat := 22
end Mine

namespace Mine
section
variable {nm : Nat → Str} {prog : Program} {KK : Params → Frag} {gl bl : Nat → Option Value} {c : Cx nm prog KK gl bl} {A : Around} {E : Value → Shared → Prop} {τ τ' τ₂ : Sto} {L L' : Addr} {l l' : List (Nat × Value)} {s : Shared} {env : Env} {ks : List (Nat × NameKind)} {cs : List (Nat × Addr)} {i : Nat} {pos : Pos} {v : Value}

/- statements -/
theorem xAsg {i : Nat} {pos' pos : Pos} {value : Expr} {Q : Flow → Shared → Prop} (V : Ev c env L ks cs) (hk : ks.lookup i = some .local)
    (h : wpAny c.M A (eval value env) (fun v s₁ => ∃ τ l, Rel c τ L l s₁ ∧ ∀ s₂, Rel c τ L (put l i v) s₂ → Q .next s₂) E s)
    (hs : swapsWith value (some (.Name (nm i) pos')) pos.line env = pure false := by rfl) :
    wpAny c.M A (exec (.Assign [.Name (nm i) pos'] value pos) env) Q E s :=
  wpAny_Assign_Name (wpAny_mono h (fun v s₁ ⟨τ, l, R, k⟩ => stL V R hk k) fun _ _ e => e) hs
theorem xIf {test : Expr} {body orelse : List Stmt} {pos : Pos} {Q : Flow → Shared → Prop}
    (h : wpAny c.M A (isTrue test env (eval test env)) (fun b s₂ => (b = true → wpAny c.M A (execs body env) Q E s₂) ∧ (b = false → wpAny c.M A (execs orelse env) Q E s₂)) E s) :
    wpAny c.M A (exec (.If test body orelse pos) env) Q E s :=
  wpAny_If (wpAny_mono h (fun b s₂ ⟨h1, h2⟩ => by cases b; exact h2 rfl; exact h1 rfl) fun _ _ e => e)
theorem xWhile {test : Expr} {body orelse : List Stmt} {pos : Pos} {Q : Flow → Shared → Prop} (I : Nat → Shared → Prop) (n : Nat) (h : I n s)
    (turn : ∀ n s F, I n s → wpAny c.M A (isTrue test env (eval test env)) (fun b s₂ => (b = true → wpAny c.M A (execs body env) (fun f s₃ => match f with
            | .next | .cont => ∃ m, m < n ∧ I m s₃
            | .brk => Q .next s₃
            | .ret v => Q (.ret v) s₃) F s₂) ∧ (b = false → wpAny c.M A (execs orelse env) Q F s₂)) F s) :
    wpAny c.M A (exec (.While test body orelse pos) env) Q E s := by
  refine wpAny_While (codeAny_whileLoop I (fun n s hI => wpAny_mono (turn n s _ hI) (fun b s₂ ⟨h1, h2⟩ => ?_) fun _ _ e => e) n h)
  cases b with
  | false => rw [if_neg (by decide)]; exact wpAny_mono (h2 rfl) (fun _ _ q => q) fun _ _ e => e
  | true => rw [if_pos rfl]; exact wpAny_mono (h1 rfl) (fun f _ q => by cases f <;> exact q) fun _ _ e => e

/- expressions -/
theorem xInt {i : Int} {k : Nat} {pos : Pos} {Q : Value → Shared → Prop} (R : Rel c τ L l s) (h : ∀ t s', Rel c τ L l s' → Q (.int i t) s') : wpAny c.M A (eval (.Constant (.int i) k pos) env) Q E s :=
  wpAny_Constant_int (h _ _ (R.toks _))
theorem xSub {a b : Int} {t u : Tok} {Q : Value → Shared → Prop} (R : Rel c τ L l s) (h : ∀ t s', Rel c τ L l s' → Q (.int (a - b) t) s') : wpAny c.M A (binaryOp .Sub (.int a t) (.int b u)) Q E s :=
  PyProof.Rows.sub_int (h _ _ (R.toks _))
theorem xAdd {a b : Int} {t u : Tok} {Q : Value → Shared → Prop} (R : Rel c τ L l s) (h : ∀ t s', Rel c τ L l s' → Q (.int (a + b) t) s') : wpAny c.M A (binaryOp .Add (.int a t) (.int b u)) Q E s :=
  PyProof.Rows.add_int (h _ _ (R.toks _))
theorem xMul {a b : Int} {t u : Tok} {Q : Value → Shared → Prop} (R : Rel c τ L l s) (hm : IntMulOk a b) (h : ∀ t s', Rel c τ L l s' → Q (.int (a * b) t) s') : wpAny c.M A (binaryOp .Mult (.int a t) (.int b u)) Q E s :=
  PyProof.Rows.mul_int (h _ _ (R.toks _)) hm
theorem xShr {a n : Int} {t u : Tok} {Q : Value → Shared → Prop} (R : Rel c τ L l s) (hn : 0 ≤ n) (h : ∀ t s', Rel c τ L l s' → Q (.int (a.fdiv (2 ^ n.toNat)) t) s') : wpAny c.M A (binaryOp .RShift (.int a t) (.int n u)) Q E s :=
  PyProof.Rows.rshift_int hn (h _ _ (R.toks _))
theorem xMod {a b : Int} {t u : Tok} {Q : Value → Shared → Prop} (R : Rel c τ L l s) (hb : b ≠ 0) (h : ∀ t s', Rel c τ L l s' → Q (.int (a.fmod b) t) s') : wpAny c.M A (binaryOp .Mod (.int a t) (.int b u)) Q E s :=
  PyProof.Rows.mod_int' hb (h _ _ (R.toks _))
theorem xDiv {a b : Int} {t u : Tok} {Q : Value → Shared → Prop} (R : Rel c τ L l s) (hb : b ≠ 0) (hs : b.natAbs < 1073741824) (h : ∀ t s', Rel c τ L l s' → Q (.int (a.fdiv b) t) s') : wpAny c.M A (binaryOp .FloorDiv (.int a t) (.int b u)) Q E s :=
  PyProof.Rows.floordiv_int hb (h _ _ (R.toks _)) (.inl (PyProof.noPylong_small hs))

/- lists -/
theorem Rel.isList {a : Addr} {t : Nat} {vs : List Value} (R : Rel c τ L l s) (e : τ a = some (.ls t vs)) : s.heap.IsList a vs.toArray := let ⟨n, x⟩ := R.getL e; ⟨_, x, rfl, n, rfl⟩
theorem gd {α : Type} {vs : List α} {p : Nat} {d : α} (h : p < vs.length) : vs[p]? = some (vs.getD p d) := by simp [List.getD, h]
theorem gd_mem {α : Type} {vs : List α} {p : Nat} {d : α} (h : p < vs.length) : vs.getD p d ∈ vs := by
  have : vs.getD p d = vs[p] := by simp [List.getD, h]
  rw [this]; exact List.getElem_mem h
theorem gv {vs : List Value} {p : Nat} (h : p < vs.length) : vs[p]? = some (vs.getD p .none) := gd h
theorem gv_mem {vs : List Value} {p : Nat} (h : p < vs.length) : vs.getD p .none ∈ vs := gd_mem h
theorem gItem {a : Addr} {t : Nat} {vs : List Value} {k : Int} {u : Tok} {x : Value} {j : Nat} {Q : Value → Shared → Prop} (R : Rel c τ L l s) (e : τ a = some (.ls t vs)) (hk : k = (j : Int)) (hj : j < 100000) (hx : vs[j]? = some x) (h : Q x s) :
    wpAny c.M A (getItem (.ref a) (.int k u)) Q E s := by
  subst hk
  exact wpAny_getItem_list (R.isList e) (by omega) (by omega) (by simpa using hx) h
theorem xItem {value slice : Expr} {a : Addr} {t : Nat} {vs : List Value} {k : Int} {u : Tok} {x : Value} {j : Nat} {Q : Value → Shared → Prop} (R : Rel c τ L l s) (e : τ a = some (.ls t vs)) (hk : k = (j : Int)) (hj : j < 100000) (hx : vs[j]? = some x) (h : Q x s)
    (hs : subscripted slice false (.ref a) (.int k u) = operate [.ref a, .int k u] (getItem (.ref a) (.int k u)) := by with_unfolding_all rfl) :
    wpAny c.M A (subscriptTail value slice (.ref a) (.int k u)) Q E s :=
  tail_any (R.isList e).typeIs slot_list_getitem.lookup (gItem R e hk hj hx h) hs
theorem upd_upd {a : Addr} {i j : It} {f : Sto} : upd (upd f a i) a j = upd f a j := by
  funext b; unfold upd; split <;> rfl
theorem upd_same {a : Addr} {i : It} {f : Sto} (h : f a = some i) : upd f a i = f := by
  funext b; unfold upd; split
  · rename_i q; subst q; exact h.symm
  · rfl
theorem upd_comm {a b : Addr} {i j : It} {f : Sto} (h : a ≠ b) : upd (upd f a i) b j = upd (upd f b j) a i := by
  funext x; unfold upd
  by_cases q : x = b
  · subst q; rw [if_pos rfl, if_neg (Ne.symm h), if_pos rfl]
  · rw [if_neg q, if_neg q]
theorem sItem {a : Addr} {t : Nat} {vs : List Value} {k : Int} {u : Tok} {v : Value} {j : Nat} {Q : Unit → Shared → Prop} (R : Rel c τ L l s) (e : τ a = some (.ls t vs)) (hk : k = (j : Int)) (hj : j < 100000) (hn : j < vs.length)
    (h : ∀ s', Rel c (upd τ a (.ls t (vs.set j v))) L l s' → Q () s') (ht : Nat.beq t 0 = false := by rfl) : wpAny c.M A (setItem (.ref a) (.int k u) v) Q E s := by
  subst hk
  obtain ⟨n, x⟩ := R.getL e
  refine PySem.W.ki_setAt x (by omega) (by omega) (by simpa using hn) (h _ (R.turn e (Heap.SameBut.update ..) ⟨n, ?_⟩ ht))
  rw [Heap.get?_update_self _ x rfl]
  simp [Obj.mapSeq]
theorem sizeOk {n : Nat} (h : n < 100000) : n ≤ sizeLine := by rw [sizeLine_eq]; omega
theorem mList {name : Str} {id : String} {a : Addr} {t : Nat} {vs : List Value} {pl : Sem Bool} {Q : Value × List Value → Shared → Prop} (slot : Slot "list" name id) (hty : typeOf (.builtin id) = pure (.type "method_descriptor")) (R : Rel c τ L l s) (e : τ a = some (.ls t vs))
    (h : Q (.builtin id, [.ref a]) s) : wpAny c.M A (getMethod (.ref a) name pl) Q E s := by
  obtain ⟨n, x⟩ := R.getL e
  exact getMethod_builtin ⟨_, x, rfl⟩ PySem.F.plainAttrs_list slot hty (fun b q => by cases q; exact ⟨_, x, rfl⟩) h
theorem bAppend {a : Addr} {t : Nat} {vs : List Value} {x : Value} {Q : Value → Shared → Prop} (R : Rel c τ L l s) (e : τ a = some (.ls t vs)) (hz : vs.length < 100000) (h : ∀ s', Rel c (upd τ a (.ls t (vs ++ [x]))) L l s' → Q .none s') (ht : Nat.beq t 0 = false := by rfl) :
    wpAny c.M A (call (.builtin "list.append") [.ref a, x]) Q E s := by
  obtain ⟨n, y⟩ := R.getL e
  refine append_at (hsz := by simpa using sizeOk hz) y fun h' hs ho => h _ (R.turn e hs ⟨n + 1, ?_⟩ ht)
  rw [ho]; simp
theorem bPop {a : Addr} {t : Nat} {p : List Value} {y : Value} {Q : Value → Shared → Prop} (R : Rel c τ L l s) (e : τ a = some (.ls t (p ++ [y]))) (hz : p.length < 10000) (h : ∀ s', Rel c (upd τ a (.ls t p)) L l s' → Q y s') (ht : Nat.beq t 0 = false := by rfl) :
    wpAny c.M A (call (.builtin "list.pop") [.ref a]) Q E s := by
  obtain ⟨n, x⟩ := R.getL e
  have hz' : (p ++ [y]).toArray.size ≤ sizeLine := by rw [List.size_toArray, List.length_append]; exact sizeOk (by simp; omega)
  have hk : (p ++ [y]).toArray.size - 1 = p.length := by rw [List.size_toArray, List.length_append]; rfl
  have hy : (p ++ [y]).toArray[(p ++ [y]).toArray.size - 1]? = some y := by rw [hk]; simp
  refine call_meets PySem.F.slot_list_pop ⟨_, x, rfl⟩ PySem.F.entry_list_pop (PySem.F.args_list_pop_1 _) (PySem.MeetsSeq.list_pop_last a _ n y hy hz') ⟨x, h _ (R.turn e (Heap.SameBut.update ..) ⟨n + 1, ?_⟩ ht)⟩
  have q := PySem.IsL.update x (fun xs => xs.eraseIdxIfInBounds ((p ++ [y]).toArray.size - 1))
  rw [hk, kl_erase, List.append_nil] at q
  rw [hk]
  rw [if_neg (by simp)] at q
  exact q
theorem bClear {a : Addr} {t : Nat} {vs : List Value} {Q : Value → Shared → Prop} (R : Rel c τ L l s) (e : τ a = some (.ls t vs)) (hz : vs.length < 100000) (h : ∀ s', Rel c (upd τ a (.ls t [])) L l s' → Q .none s') (ht : Nat.beq t 0 = false := by rfl) :
    wpAny c.M A (call (.builtin "list.clear") [.ref a]) Q E s := by
  obtain ⟨n, x⟩ := R.getL e
  refine call_meets PySem.F.slot_list_clear ⟨_, x, rfl⟩ PySem.F.entry_list_clear (PySem.F.args_list_clear_1 _) (PySem.AutoSeq1.list_clear_list_0 a _ n (by simpa using sizeOk hz)) ⟨x, h _ (R.turn e (Heap.SameBut.update ..) ?_ ht)⟩
  have q := PySem.IsL.update x (fun _ => #[])
  exact ⟨_, q⟩
theorem bLen {a : Addr} {t : Nat} {vs : List Value} {Q : Value → Shared → Prop} (R : Rel c τ L l s) (e : τ a = some (.ls t vs)) (hz : vs.length < 100000) (h : ∀ u s', Rel c τ L l s' → Q (.int vs.length u) s') :
    wpAny c.M A (call (.builtin "len") [.ref a]) Q E s := by
  refine PyProof.Rows.len_list (R.isList e) (by rw [List.size_toArray]; omega) ?_
  have := h (s.toks + 1) _ (R.toks (s.toks + 1 + 1))
  simpa using this
theorem tList {a : Addr} {t : Nat} {vs : List Value} {Q : Bool → Shared → Prop} (R : Rel c τ L l s) (e : τ a = some (.ls t vs)) (hz : vs.length < 100000) (h : ∀ s', Rel c τ L l s' → Q (!vs.isEmpty) s') : wpAny c.M A (truthy (.ref a)) Q E s := by
  refine wpAny_truthy_list (R.isList e) (by rw [List.size_toArray]; omega) ?_
  have := h _ (R.toks (s.toks + 1 + 1))
  simpa using this
theorem nList {vs : List Value} (t : Nat) {Q : Value → Shared → Prop} (R : Rel c τ L l s) (hz : vs.length < 100000) (h : ∀ a s', τ a = none → a ≠ L → Rel c (upd τ a (.ls t vs)) L l s' → Q (.ref a) s') : wpAny c.M A (newList vs) Q E s := by
  refine wpAny_newObj_type (h _ _ R.fresh (Nat.ne_of_gt R.ltL) ?_) (by show vs.toArray.size ≤ sizeLine; rw [List.size_toArray]; exact sizeOk hz)
  exact R.grow (n := s.toks) (fun _ _ e => Heap.get?_push_of_some _ e) (Nat.le_refl _) ⟨0, Heap.get?_push_size _ rfl⟩
theorem xList {elts : List Expr} {pos : Pos} {Q : Value → Shared → Prop} (h : wpAny c.M A (spliced (backTo pos (starEach elts env))) (fun vs s₁ => wpAny c.M A (newList vs) Q E s₁) E s) : wpAny c.M A (eval (.List elts pos) env) Q E s := List_ h

/- calls -/
theorem cwF {f : Value} {first : List Value} {e : Expr} {rest : List Expr} {pos : Pos} {Q : Value → Shared → Prop} (hk : keepIn c.K f = true)
    (h : wpAny c.M A (spliced (backTo pos (starEach (e :: rest) env))) (fun vs s₁ => (∃ τ L l, Rel c τ L l s₁) ∧ wpAny c.M A (call f (first ++ vs)) Q E s₁) E s)
    (he : starEach (e :: rest) env = (false, eval e env) :: starEach rest env := by rfl) (hplain : (backTo pos (starEach rest env)).any (·.1) = false := by rfl) :
    wpAny c.M A (callWith pos f first (backTo pos (starEach (e :: rest) env)) []) Q E s :=
  callWith_K c.X hk (wpAny_mono h (fun vs s₁ ⟨⟨_, _, _, R⟩, x⟩ => ⟨R.frag, x⟩) fun _ _ e => e) he hplain
theorem cwF0 {f : Value} {first : List Value} {pos : Pos} {Q : Value → Shared → Prop} (R : Rel c τ L l s) (hk : keepIn c.K f = true) (h : wpAny c.M A (call f (first ++ [])) Q E s) : wpAny c.M A (callWith pos f first (backTo pos (starEach [] env)) []) Q E s :=
  callWith_K0 R.frag hk h
theorem cwB {id : String} {first : List Value} {e : Expr} {rest : List Expr} {pos : Pos} {Q : Value → Shared → Prop} (h : wpAny c.M A (spliced (backTo pos (starEach (e :: rest) env))) (fun vs s₁ => wpAny c.M A (call (.builtin id) (first ++ vs)) Q E s₁) E s)
    (he : starEach (e :: rest) env = (false, eval e env) :: starEach rest env := by rfl) (hplain : (backTo pos (starEach (e :: rest) env)).any (·.1) = false := by rfl) :
    wpAny c.M A (callWith pos (.builtin id) first (backTo pos (starEach (e :: rest) env)) []) Q E s := by
  refine callWith_builtin hplain ?_
  rw [he] at h ⊢
  exact evalArgs_plain h
theorem cwB0 {id : String} {first : List Value} {pos : Pos} {Q : Value → Shared → Prop} (h : wpAny c.M A (call (.builtin id) (first ++ [])) Q E s) : wpAny c.M A (callWith pos (.builtin id) first (backTo pos (starEach [] env)) []) Q E s :=
  callWith_builtin rfl (evalArgs_nil3 h)
theorem cwT {T : String} {first : List Value} {e : Expr} {rest : List Expr} {pos : Pos} {Q : Value → Shared → Prop} (h : wpAny c.M A (spliced (backTo pos (starEach (e :: rest) env))) (fun vs s₁ => wpAny c.M A (call (.type T) (first ++ vs)) Q E s₁) E s)
    (he : starEach (e :: rest) env = (false, eval e env) :: starEach rest env := by rfl) (hplain : (backTo pos (starEach (e :: rest) env)).any (·.1) = false := by rfl) :
    wpAny c.M A (callWith pos (.type T) first (backTo pos (starEach (e :: rest) env)) []) Q E s := by
  refine PyProof.Rows.callWith_type hplain ?_
  rw [he] at h ⊢
  exact evalArgs_plain h
theorem cwT0 {T : String} {first : List Value} {pos : Pos} {Q : Value → Shared → Prop} (h : wpAny c.M A (call (.type T) (first ++ [])) Q E s) : wpAny c.M A (callWith pos (.type T) first (backTo pos (starEach [] env)) []) Q E s :=
  PyProof.Rows.callWith_type rfl (evalArgs_nil3 h)
theorem cmM {o : Expr} {name : Str} {apos pos : Pos} {args : List Expr} {pl : Sem Bool} {Q : Value → Shared → Prop}
    (h : wpAny c.M A (eval o env) (fun ov s₁ => wpAny c.M A (getMethod ov name pl) (fun fx s₂ => wpAny c.M A (callWith pos fx.1 fx.2 (backTo pos (starEach args env)) []) Q E s₂) E s₁) E s)
    (he : eval (.Call (.Attribute o name apos) args [] pos) env = (do
      let ov ← eval o env
      standAt apos.atName
      let (f, first) ← holding [ov] (getMethod ov name pl)
      callWith pos f first (backTo pos (starEach args env)) (backToKw pos (keywordEach [] env))) := by rfl) :
    wpAny c.M A (eval (.Call (.Attribute o name apos) args [] pos) env) Q E s := methodCall_KW (kws := []) h he
end
end Mine

namespace Mine
section
variable {nm : Nat → Str} {prog : Program} {KK : Params → Frag} {gl bl : Nat → Option Value} {c : Cx nm prog KK gl bl} {A : Around} {E : Value → Shared → Prop} {τ τ' τ₂ : Sto} {L L' : Addr} {l l' : List (Nat × Value)} {s : Shared} {env : Env} {ks : List (Nat × NameKind)} {cs : List (Nat × Addr)} {i : Nat} {pos : Pos} {v : Value}

structure Drv (c : Cx nm prog KK gl bl) (it : Addr) (n : Nat) (P : Nat → Value → Prop) (S : Nat → It) (D : Sto → Prop) : Prop where
  item : ∀ {i A τ L l s Q E}, Ok 1 A → i < n → τ it = none → D τ → Rel c (upd τ it (S i)) L l s → (∀ v s', P i v → Rel c (upd τ it (S (i + 1))) L l s' → Q (some v) s') → wpAny c.M A (pyNext (.ref it)) Q E s
  done : ∀ {A τ L l s Q E}, Ok 1 A → τ it = none → D τ → Rel c (upd τ it (S n)) L l s → (∀ s', Rel c τ L l s' → Q none s') → wpAny c.M A (pyNext (.ref it)) Q E s
  self : ∀ {i A τ L l s Q E}, Rel c (upd τ it (S i)) L l s → Q (.ref it) s → wpAny c.M A (pyIter (.ref it)) Q E s
  tup : ∀ {i A τ L l s Q E} (target : Expr) (v : Value), Rel c (upd τ it (S i)) L l s → Q () s → wpAny c.M A (letOwnedTupleGo target (.ref it) v) Q E s

theorem Rel.dropExt {it : Addr} {i : It} {h' : Heap} {n : Nat} (R : Rel c (upd τ it i) L l s) (hn : τ it = none) (he : Heap.ExtBut it s.heap h') (hz : i.fz = false := by rfl) : Rel c τ L l { s with heap := h', toks := n } := by
  refine ⟨fun b o e => he b o (fun q => by subst q; have := R.newN upd_self hz; rw [this] at e; cases e) (R.keep b o e), fun b j e => ?_, fun b j e => R.new b j ((upd_ne fun q => by subst q; rw [hn] at e; cases e).trans e), R.here.keeps fun o e => he _ _ (fun q => ?_) e, R.newL, ?_, R.gens, R.os⟩
  · have hb : b ≠ it := ne_of_none e hn
    exact (R.sat b j ((upd_ne hb).trans e)).keeps fun o x => he b o hb x
  · have := R.apart; rw [q, upd_self] at this; cases this
  · have := R.apart
    by_cases q : L = it
    · rw [q]; exact hn
    · rwa [upd_ne q] at this
theorem Rel.drop {a : Addr} {i : It} (R : Rel c (upd τ a i) L l s) (h : τ a = none) : Rel c τ L l s := R.mono fun b j e => (upd_ne fun q => by subst q; rw [h] at e; cases e).trans e

theorem Rel.drop2 {a b : Addr} {i j : It} (R : Rel c (upd (upd τ a i) b j) L l s) (h : τ a = none) : Rel c (upd τ b j) L l s := R.mono fun x k e => by
  by_cases q : x = b
  · subst q; rw [upd_self] at e ⊢; exact e
  · rw [upd_ne q] at e ⊢
    exact (upd_ne fun z => by subst z; rw [h] at e; cases e).trans e

theorem letTup {it : Addr} {o : Obj} {n : String} {vs : Array Value} {target : Expr} {v : Value} {Q : Unit → Shared → Prop} (ho : s.heap.get? it = some o) (hc : o.cls = .type n) (hd : o.data = .fields vs)
    (hn : ["enumerate", "zip", "dict_itemiterator", "dict_reverseitemiterator", "odict_iterator", "itertools.zip_longest", "itertools.pairwise"].contains n = false) (h : Q () s) : wpAny c.M A (letOwnedTupleGo target (.ref it) v) Q E s := by
  have key : letOwnedTupleGo target (.ref it) v = pure () ∨ letOwnedTupleGo target (.ref it) v = letOwnedTupleGo (.Tuple [] default default) (.ref it) v := by
    cases target <;> first | exact .inl rfl | exact .inr rfl
  obtain e | e := key
  · rw [e]; exact wpAny_pure h
  · rw [e]
    clear e
    cases v with
    | ref a =>
      refine wpAny_bind (m := load it) (wpAny_load ho ?_)
      rw [hc, hd]
      dsimp only
      rw [hn, Bool.false_and, if_neg (by decide)]
      exact wpAny_pure h
    | _ => exact wpAny_pure h

theorem forGo {it : Addr} {n : Nat} {P : Nat → Value → Prop} {S : Nat → It} {D : Sto → Prop} {target : Expr} {body orelse : List Stmt} {Q : Flow → Shared → Prop}
    (I : Nat → Sto → List (Nat × Value) → Prop) (H : Ok 1 A) (Dr : Drv c it n P S D) (hD : ∀ i τ l, I i τ l → D τ) (R : Rel c (upd τ it (S 0)) L l s) (hn : τ it = none) (h0 : I 0 τ l)
    (turn : ∀ i v τ l s F, i < n → P i v → I i τ l → τ it = none → Rel c (upd τ it (S (i + 1))) L l s → wpAny c.M A (assign target env v) (fun _ s₂ => wpAny c.M A (execs body env) (fun f s₃ => match f with
            | .next | .cont => ∃ τ' l', Rel c (upd τ' it (S (i + 1))) L l' s₃ ∧ τ' it = none ∧ I (i + 1) τ' l'
            | .brk => Q .next s₃
            | .ret v => Q (.ret v) s₃) F s₂) F s)
    (fin : ∀ τ l s F, I n τ l → Rel c τ L l s → wpAny c.M A (execs orelse env) Q F s) :
    codeAny c.M A (.forLoop target (.ref it) body orelse env) (fun r s' => match r with | .ok f => Q f s' | .error e => cameBackBy c.M A env E e s') s := by
  refine codeAny_forLoop_any (fun k s => ∃ i τ l, i ≤ n ∧ k = n + 1 - i ∧ I i τ l ∧ τ it = none ∧ Rel c (upd τ it (S i)) L l s) ?_ (n + 1) ⟨0, τ, l, Nat.zero_le _, rfl, h0, hn, R⟩
  rintro k s ⟨i, τ, l, hi, rfl, hI, hit, R⟩
  by_cases q : i < n
  · refine Dr.item H q hit (hD _ _ _ hI) R fun v s' hp R' => ?_
    refine Dr.tup target v R' ?_
    refine wpAny_mono (turn i v τ l s' _ q hp hI hit R') (fun _ s₂ h₂ => wpAny_mono h₂ (fun f s₃ h₃ => ?_) fun _ _ e => e) fun _ _ e => e
    cases f with
    | next => obtain ⟨τ', l', a, b, d⟩ := h₃; exact ⟨n + 1 - (i + 1), by omega, i + 1, τ', l', q, rfl, d, b, a⟩
    | cont => obtain ⟨τ', l', a, b, d⟩ := h₃; exact ⟨n + 1 - (i + 1), by omega, i + 1, τ', l', q, rfl, d, b, a⟩
    | brk => exact h₃
    | ret v => exact h₃
  · have : i = n := by omega
    subst this
    exact Dr.done H hit (hD _ _ _ hI) R fun s' R' => fin τ l s' _ hI R'

/- lists -/
noncomputable abbrev itL (a : Addr) (i : Nat) : It := .pr 1 fun o => o.cls = .type "list_iterator" ∧ o.data = .fields #[.ref a, .int i 0]
theorem drvL {it a : Addr} {vs : List Value} : Drv c it vs.length (fun i v => vs[i]? = some v) (itL a) (fun τ => ∃ t, τ a = some (.ls t vs)) where
  item := by
    rintro i A τ L l s Q E H hi hn ⟨t, hd⟩ R h
    have hne : a ≠ it := ne_of_none hd hn
    have hl := R.isList ((upd_ne hne).trans hd)
    obtain ⟨o, ho, hc, hdt⟩ := R.getP upd_self
    refine wpAny_pyNext_list_item ⟨o, ho, hc, hdt⟩ hl (x := vs[i]) (by simp [hi]) fun h' hit hs => ?_
    refine h _ _ (by simp [hi]) ?_
    have := R.turn (n := s.toks) (i' := itL a (i + 1)) upd_self hs hit
    rw [upd_upd] at this
    exact this
  done := by
    rintro A τ L l s Q E H hn ⟨t, hd⟩ R h
    have hne : a ≠ it := ne_of_none hd hn
    have hl := R.isList ((upd_ne hne).trans hd)
    obtain ⟨o, ho, hc, hdt⟩ := R.getP upd_self
    refine wpAny_pyNext_list_end H.1 ⟨o, ho, hc, hdt⟩ hl (by simp) fun h' he => ?_
    exact h _ (R.dropExt (n := s.toks) hn he)
  self := by
    intro i A τ L l s Q E R h
    obtain ⟨o, ho, hc, hdt⟩ := R.getP upd_self
    exact wpAny_pyIter_listiter ⟨o, ho, hc, hdt⟩ h
  tup := by
    intro i A τ L l s Q E target v R h
    obtain ⟨o, ho, hc, hdt⟩ := R.getP upd_self
    exact letTup ho hc hdt (by decide +kernel) h
theorem iterL {a : Addr} {t : Nat} {vs : List Value} {Q : Value → Shared → Prop} (R : Rel c τ L l s) (e : τ a = some (.ls t vs)) (h : ∀ it s', τ it = none → it ≠ L → Rel c (upd τ it (itL a 0)) L l s' → Q (.ref it) s') : wpAny c.M A (pyIter (.ref a)) Q E s := by
  refine wpAny_pyIter_list (R.isList e) (h _ _ R.fresh (Nat.ne_of_gt R.ltL) ?_)
  exact R.grow (n := s.toks) (fun _ _ e => Heap.get?_push_of_some _ e) (Nat.le_refl _) ⟨_, Heap.get?_push_size _ rfl, rfl, rfl⟩

/- tuples -/
noncomputable abbrev tup (vs : List Value) : Obj := { cls := .type "tuple", data := .seq vs.toArray }
noncomputable abbrev itT (a : Addr) (i : Nat) : It := .pr 1 fun o => o.cls = .type "tuple_iterator" ∧ o.data = .fields #[.ref a, .int i 0]
theorem Rel.isTup {a : Addr} {t : Nat} {vs : List Value} (R : Rel c τ L l s) (e : τ a = some (.ob t (tup vs))) : s.heap.IsTuple a vs.toArray := ⟨_, R.get e, rfl, 0, rfl⟩
theorem drvT {it a : Addr} {vs : List Value} : Drv c it vs.length (fun i v => vs[i]? = some v) (itT a) (fun τ => ∃ t, τ a = some (.ob t (tup vs))) where
  item := by
    rintro i A τ L l s Q E H hi hn ⟨t, hd⟩ R h
    have hl := R.isTup ((upd_ne (ne_of_none hd hn)).trans hd)
    obtain ⟨o, ho, hc, hdt⟩ := R.getP upd_self
    refine wpAny_pyNext_tuple_item ⟨o, ho, hc, hdt⟩ hl (x := vs[i]) (by simp [hi]) fun h' hit hs => ?_
    refine h _ _ (by simp [hi]) ?_
    have := R.turn (n := s.toks) (i' := itT a (i + 1)) upd_self hs hit
    rw [upd_upd] at this
    exact this
  done := by
    rintro A τ L l s Q E H hn ⟨t, hd⟩ R h
    have hl := R.isTup ((upd_ne (ne_of_none hd hn)).trans hd)
    obtain ⟨o, ho, hc, hdt⟩ := R.getP upd_self
    exact wpAny_pyNext_tuple_end H.1 ⟨o, ho, hc, hdt⟩ hl (by simp) fun h' he => h _ (R.dropExt (n := s.toks) hn he)
  self := by
    intro i A τ L l s Q E R h
    obtain ⟨o, ho, hc, hdt⟩ := R.getP upd_self
    exact wpAny_pyIter_tupleiter ⟨o, ho, hc, hdt⟩ h
  tup := by
    intro i A τ L l s Q E target v R h
    obtain ⟨o, ho, hc, hdt⟩ := R.getP upd_self
    exact letTup ho hc hdt (by decide +kernel) h
theorem iterT {a : Addr} {t : Nat} {vs : List Value} {Q : Value → Shared → Prop} (R : Rel c τ L l s) (e : τ a = some (.ob t (tup vs))) (h : ∀ it s', τ it = none → it ≠ L → Rel c (upd τ it (itT a 0)) L l s' → Q (.ref it) s') : wpAny c.M A (pyIter (.ref a)) Q E s := by
  refine wpAny_pyIter_tuple (R.isTup e) (h _ _ R.fresh (Nat.ne_of_gt R.ltL) ?_)
  exact R.grow (n := s.toks) (fun _ _ e => Heap.get?_push_of_some _ e) (Nat.le_refl _) ⟨_, Heap.get?_push_size _ rfl, rfl, rfl⟩

/- ranges -/
noncomputable abbrev rngIt (x left st : Int) : Obj := { cls := .type "range_iterator", dict := none, data := .fields #[rawInt x, rawInt left, rawInt st], slots := #[] }
noncomputable abbrev rngOb (a b c : Int) (o : Obj) : Prop := ∃ t u v, o = { cls := .type "range", dict := none, data := .fields #[.int a t, .int b u, .int c v], slots := #[] }
theorem drvR {it : Addr} {n : Nat} {a st : Int} : Drv c it n (fun i v => ∃ t, v = .int (a + i * st) t) (fun i => .ob 1 (rngIt (a + i * st) ((n : Int) - i) st)) (fun _ => True) where
  item := by
    rintro i A τ L l s Q E H hi hn _ R h
    refine wpAny_pyNext_range_item (R.get upd_self) (by omega) fun h' hit hs => ?_
    refine h _ _ ⟨_, rfl⟩ ?_
    have := R.turn (n := s.toks + 1) (i' := .ob 1 (rngIt (a + i * st + st) ((n : Int) - i - 1) st)) upd_self hs hit
    rw [upd_upd] at this
    have e1 : a + ((i + 1 : Nat) : Int) * st = a + i * st + st := by rw [Int.natCast_add, Int.add_mul]; simp; omega
    have e2 : (n : Int) - ((i + 1 : Nat) : Int) = (n : Int) - i - 1 := by omega
    rw [e1, e2]; exact this
  done := by
    rintro A τ L l s Q E H hn _ R h
    exact wpAny_pyNext_range_end H.1 (R.get upd_self) (by omega) fun h' he => h _ (R.dropExt (n := s.toks) hn he)
  self := fun R h => wpAny_pyIter_rangeiter (R.get upd_self) h
  tup := fun target v R h => letTup (R.get upd_self) rfl rfl (by decide +kernel) h
theorem bRange {n : Int} {t : Tok} {Q : Value → Shared → Prop} (R : Rel c τ L l s) (h : ∀ a s', τ a = none → a ≠ L → Rel c (upd τ a (.pr 0 (rngOb 0 n 1))) L l s' → Q (.ref a) s') : wpAny c.M A (call (.type "range") [.int n t]) Q E s :=
  call_range_1 (h _ _ R.fresh (Nat.ne_of_gt R.ltL) (R.grow (fun _ _ e => Heap.get?_push_of_some _ e) (Nat.le_refl _) ⟨_, Heap.get?_push_size _ rfl, _, _, _, rfl⟩))
theorem iterR {a : Addr} {n t : Nat} {Q : Value → Shared → Prop} (R : Rel c τ L l s) (e : τ a = some (.pr t (rngOb 0 n 1))) (hz : n < 100000) (h : ∀ it s', τ it = none → it ≠ L → Rel c (upd τ it (.ob 1 (rngIt (0 + ((0 : Nat) : Int) * 1) ((n : Int) - ((0 : Nat) : Int)) 1))) L l s' → Q (.ref it) s') : wpAny c.M A (pyIter (.ref a)) Q E s := by
  obtain ⟨o, ho, t', u, v, rfl⟩ := R.getP e
  refine wpAny_pyIter_range (c := 1) ho (small_one (by omega) (by omega) (by omega) (by omega)) (h _ _ R.fresh (Nat.ne_of_gt R.ltL) ?_)
  have : Builtin.Range.rangeSize 0 n 1 = (n : Int) - ((0 : Nat) : Int) := by rw [rangeSize_one]; split <;> omega
  rw [← this]
  exact R.grow (n := s.toks) (fun _ _ e => Heap.get?_push_of_some _ e) (Nat.le_refl _) (Heap.get?_push_size _ rfl)
theorem sub_ri_reversed : isSubtype (.type "range_iterator") (.type "reversed") = pure false := by rw [isSubtype_type]; kernel_rfl
theorem rngFields {r : Addr} {x y z : Int} {t u v : Tok} {Q : Int × Int × Int → Shared → Prop} (hr : IsRange s.heap r x y z t u v) (h : Q (x, y, z) s) : wpAny c.M A (Builtin.Range.rangeFields (.ref r)) Q E s := by
  unfold Builtin.Range.rangeFields
  refine wpAny_bind (wpAny_field hr rfl (x := .int x t) rfl (wpAny_bind (wpAny_of_eq (a := some x) rfl ?_)))
  refine wpAny_bind (wpAny_field hr rfl (x := .int y u) rfl (wpAny_bind (wpAny_of_eq (a := some y) rfl ?_)))
  refine wpAny_bind (wpAny_field hr rfl (x := .int z v) rfl (wpAny_bind (wpAny_of_eq (a := some z) rfl ?_)))
  exact wpAny_pure h
theorem call_range_reversed {a : Addr} {n : Nat} {t u v : Tok} {Q : Value → Shared → Prop} (hr : IsRange s.heap a 0 n 1 t u v) (hz : n < 100000)
    (h : Q (.ref s.heap.objs.size) { s with heap := s.heap.push (rngIt ((n : Int) - 1) n (-1)) }) : wpAny c.M A (call (.builtin "range.__reversed__") [.ref a]) Q E s := by
  have hT : s.TypeIs (.ref a) "range" := ⟨_, hr, rfl⟩
  refine wpAny_call_entry PySem.F.slot_range_reversed hT PySem.F.entry_range_reversed ?_ (PySem.F.args_range_reversed_1 _)
  unfold Builtin.«range.__reversed__»
  refine wpAny_bind (wpAny_of_eq (a := Value.ref a) rfl ?_)
  refine wpAny_bind (rngFields (c := c) hr ?_)
  dsimp only
  have e : Builtin.Range.rangeSize 0 n 1 = n := by rw [rangeSize_one]; split <;> omega
  have sm : (Builtin.Range.rangeFitsLong 0 && Builtin.Range.rangeFitsLong n && Builtin.Range.rangeFitsLong 1 && Builtin.Range.rangeFitsLong (-1) && Builtin.Range.rangeFitsLong (0 - 1) && Builtin.Range.rangeFitsLong n) = true := by
    have f : Builtin.Range.rangeFitsLong n = true := by simp only [Builtin.Range.rangeFitsLong, Bool.and_eq_true, decide_eq_true_eq]; omega
    rw [f]; rfl
  rw [e, sm]
  simp only [Bool.not_true, Bool.false_eq_true, if_false, if_true]
  refine wpAny_bind (wpAny_newObj_type (wpAny_pure ⟨_, rfl, ?_⟩) (by size_fits))
  have e2 : (0 : Int) + ((n : Int) - 1) * 1 = (n : Int) - 1 := by omega
  rw [e2]
  exact h
theorem bReversed {a : Addr} {n t : Nat} {Q : Value → Shared → Prop} (R : Rel c τ L l s) (e : τ a = some (.pr t (rngOb 0 n 1))) (hz : n < 100000)
    (h : ∀ it s', τ it = none → it ≠ L → Rel c (upd τ it (.ob 1 (rngIt ((n : Int) - 1 + ((0 : Nat) : Int) * (-1)) ((n : Int) - ((0 : Nat) : Int)) (-1)))) L l s' → Q (.ref it) s') : wpAny c.M A (call (.type "reversed") [.ref a]) Q E s := by
  obtain ⟨o, ho, t', u, v, rfl⟩ := R.getP e
  have hT : s.TypeIs (.ref a) "range" := ⟨_, ho, rfl⟩
  refine callType_other (U := "range_iterator") (Q₁ := fun obj s₁ => obj = .ref s.heap.objs.size ∧ s₁ = { s with heap := s.heap.push (rngIt ((n : Int) - 1) n (-1)) }) (by decide +kernel) PySem.F.create_reversed ⟨_, _, PySem.F.mro_reversed⟩ PySem.F.made_reversed sub_ri_reversed (PySem.F.typeCall_reversed_1 _) ?_ ?_
  · refine codeAny_of_tree ?_
    show wpAny _ A.in1.in1 (do checkBuiltinCall "reversed.__new__" ⟨[.type "reversed", .ref a], []⟩; again (.builtin "reversed.__new__" ⟨[.type "reversed", .ref a], []⟩)) _ _ s
    refine wpAny_bind (wpAny_of_eq (PySem.F.newCall_reversed_1 _) (wpAny_pure ⟨plainId_quiet PySem.F.plain_reversed_new _, codeAny_builtin PySem.F.entry_reversed_new ?_⟩))
    rw [Around.under_plainId PySem.F.plain_reversed_new _]
    unfold Builtin.«reversed.__new__»
    refine wpAny_bind (wpAny_of_eq (newClass_reversed _) ?_)
    try dsimp only
    refine wpAny_bind (wpAny_of_eq (a := ()) (by first | rfl | kernel_rfl) ?_)
    refine wpAny_bind (wpAny_of_eq (a := ()) (by first | rfl | kernel_rfl) ?_)
    try dsimp only
    refine wpAny_bind (wpAny_specialOf hT PySem.F.slot_range_reversed.lookup ?_)
    dsimp only
    refine wpAny_bind (wpAny_of_eq (PySem.F.slot_range_reversed.bind _) ?_)
    dsimp only
    rw [if_neg (show ¬ ((Value.builtin "range.__reversed__" == Value.none) = true) from Bool.false_ne_true)]
    refine wpAny_bind (wpAny_rule ?_)
    refine wpAny_bind (m := runValue (.call (.builtin "range.__reversed__") ⟨[.ref a], []⟩)) (show wpAny _ _ (call (.builtin "range.__reversed__") [.ref a]) _ _ _ from call_range_reversed (c := c) ho hz ?_)
    exact wpAny_pure ⟨rfl, rfl⟩
  · rintro obj s₁ ⟨rfl, rfl⟩
    refine ⟨⟨_, Heap.get?_push_size _ rfl, rfl⟩, h _ _ R.fresh (Nat.ne_of_gt R.ltL) ?_⟩
    have e1 : (n : Int) - 1 + ((0 : Nat) : Int) * (-1) = (n : Int) - 1 := by omega
    have e2 : (n : Int) - ((0 : Nat) : Int) = n := by omega
    rw [e1, e2]
    exact R.grow (n := s.toks) (fun _ _ e => Heap.get?_push_of_some _ e) (Nat.le_refl _) (Heap.get?_push_size _ rfl)
end
end Mine

namespace Mine
noncomputable def oth (h : Heap) (ex : List Addr) : List (Addr × Obj) := (List.range h.objs.size).filterMap fun a => if a ∈ ex then none else (h.get? a).map fun o => (a, o)
theorem mem_oth {h : Heap} {ex : List Addr} {a : Addr} {o : Obj} : (a, o) ∈ oth h ex ↔ a ∉ ex ∧ h.get? a = some o := by
  unfold oth
  rw [List.mem_filterMap]
  constructor
  · rintro ⟨b, hb, e⟩
    split at e
    · cases e
    · rename_i q
      obtain ⟨o', ho, e⟩ := Option.map_eq_some_iff.mp e
      cases e; exact ⟨q, ho⟩
  · rintro ⟨q, e⟩
    exact ⟨a, List.mem_range.mpr (Heap.lt_size e), by rw [if_neg q, e]; rfl⟩
theorem empty_none (a : Addr) : ({} : Heap).get? a = none := by unfold Heap.get?; simp
section
variable {nm : Nat → Str} {prog : Program} {KK : Params → Frag} {gl bl : Nat → Option Value} {c : Cx nm prog KK gl bl} {A : Around} {E : Value → Shared → Prop} {τ τ' τ₂ : Sto} {L L' : Addr} {l l' : List (Nat × Value)} {s : Shared} {env : Env} {ks : List (Nat × NameKind)} {cs : List (Nat × Addr)} {i : Nat} {pos : Pos} {v : Value}

theorem Rel.fr0 (R : Rel c τ L l s) : ∃ m, Fr ({} : Heap) L s.heap m ∧ ∀ i v, l.lookup i = some v → m (nm i) = some v := by
  obtain ⟨m, hn, q⟩ := R.here
  exact ⟨m, ⟨hn, fun b o e => (by rw [empty_none] at e; cases e), Nat.zero_le _⟩, q⟩
theorem news0 {h : Heap} {ex : List Addr} (hL : L ∈ ex) : News ({} : Heap) L h (oth h ex) := fun p hp => by
  obtain ⟨a, o⟩ := p
  obtain ⟨q, e⟩ := mem_oth.mp hp
  exact ⟨e, fun z => q (by rw [show a = L from z]; exact hL), empty_none _⟩
theorem news1 {h : Heap} {D : Addr} {od : Obj} (hD : h.get? D = some od) (hne : D ≠ L) : News ({} : Heap) L h (oth h [L, D] ++ (D, od) :: []) := fun p hp => by
  rcases List.mem_append.mp hp with hp | hp
  · exact news0 (by simp) p hp
  · rcases List.mem_cons.mp hp with rfl | hp
    · exact ⟨hD, hne, empty_none _⟩
    · cases hp
theorem off1 {h : Heap} {D : Addr} : ∀ p ∈ oth h [L, D], p.1 ≠ D := fun p hp z => by
  obtain ⟨a, o⟩ := p
  exact (mem_oth.mp hp).1 (by simp [show a = D from z])
theorem Rel.turnN (R : Rel c τ L l s) {D : Addr} {od' : Obj} {i i' : It} {m : Str → Option Value} {h' : Heap} {n : Nat} (e : τ D = some i) (hm : ∀ i v, l.lookup i = some v → m (nm i) = some v) (F' : Fr ({} : Heap) L h' m)
    (N' : News ({} : Heap) L h' (oth s.heap [L, D] ++ (D, od') :: [])) (hi : h'.get? D = some od' → i'.sat nm h' D) (hz : i.fz = false := by rfl) : Rel c (upd τ D i') L l { s with heap := h', toks := n } := by
  have k : ∀ b o, b ≠ D → b ≠ L → s.heap.get? b = some o → h'.get? b = some o := fun b o h1 h2 q => (N' (b, o) (List.mem_append_left _ (mem_oth.mpr ⟨by simp [h1, h2], q⟩))).1
  refine ⟨fun b o q => k b o ?_ ?_ (R.keep b o q), fun b j q => ?_, fun b j q => ?_, ⟨m, F'.ns, hm⟩, R.newL, ?_, R.gens, R.os⟩
  · rintro rfl; rw [R.newN e hz] at q; cases q
  · rintro rfl; rw [R.newL] at q; cases q
  · by_cases z : b = D
    · subst z; rw [upd_self] at q; cases q; exact hi (N' (b, od') (List.mem_append_right _ (.head _))).1
    · rw [upd_ne z] at q; exact (R.sat b j q).keeps fun o y => k b o z (R.neL q) y
  · by_cases z : b = D
    · subst z; exact .inr (R.newN e hz)
    · rw [upd_ne z] at q; exact R.new b j q
  · rw [upd_ne (Ne.symm (R.neL e))]; exact R.apart

/- instances whose dict holds written names -/
noncomputable def AttrsAre (nm : Nat → Str) : List DictEntry → List (Nat × Value) → Prop
  | [], [] => True
  | e :: r, (k, v) :: q => (∃ t, e.key = .str (nm k) t) ∧ e.val = v ∧ AttrsAre nm r q
  | _, _ => False
noncomputable abbrev atr (nm : Nat → Str) (t : Nat) (kvs : List (Nat × Value)) : It := .pr t fun o => ∃ es n, o = dictOf es n ∧ AttrsAre nm es kvs
theorem attrs_find (inj : ∀ i j, nm i = nm j → i = j) : ∀ {es : List DictEntry} {kvs : List (Nat × Value)}, AttrsAre nm es kvs → ∀ i, (es.find? (·.key.isStr (nm i))).map (·.val) = kvs.lookup i
  | [], [], _, _ => rfl
  | e :: r, (k, v) :: q, ⟨⟨t, h1⟩, h2, h3⟩, i => by
    rw [List.find?_cons, List.lookup_cons]
    have hb : e.key.isStr (nm i) = (i == k) := by
      rw [h1]
      show (nm k == nm i) = (i == k)
      by_cases z : i = k
      · subst z; simp
      · have z1 : (i == k) = false := beq_eq_false_iff_ne.mpr z
        have z2 : (nm k == nm i) = false := beq_eq_false_iff_ne.mpr fun y => z (inj _ _ y).symm
        rw [z1, z2]
    rw [hb]
    cases i == k with
    | true => simp [h2]
    | false => exact attrs_find inj h3 i
theorem attrs_noref {es : List DictEntry} {kvs : List (Nat × Value)} (h : AttrsAre nm es kvs) : es.any (·.refKey) = false := by
  induction es generalizing kvs with
  | nil => rfl
  | cons e r ih =>
    cases kvs with
    | nil => exact h.elim
    | cons p q =>
      obtain ⟨t, h1⟩ := h.1
      rw [List.any_cons, ih h.2.2]
      simp [DictEntry.refKey, h1]
theorem attrs_getL (inj : ∀ i j, nm i = nm j → i = j) {es : List DictEntry} {kvs : List (Nat × Value)} (h : AttrsAre nm es kvs) (i : Nat) : getL (nm i) es = some (kvs.lookup i) := by
  have := attrs_find inj h i
  unfold getL
  cases q : es.find? (·.key.isStr (nm i)) with
  | none => rw [q] at this; rw [← this]; simp [attrs_noref h]
  | some e => rw [q] at this; rw [← this]; rfl
theorem attrs_putL (inj : ∀ i j, nm i = nm j → i = j) {hs : Int} {tk : Tok} {v : Value} {i : Nat} : ∀ {es : List DictEntry} {kvs : List (Nat × Value)}, AttrsAre nm es kvs → AttrsAre nm (putL (nm i) hs (.str (nm i) tk) v es) (put kvs i v)
  | [], [], _ => ⟨⟨_, rfl⟩, rfl, trivial⟩
  | e :: r, (k, u) :: q, ⟨⟨t, h1⟩, h2, h3⟩ => by
    unfold putL put
    have hb : e.key.isStr (nm i) = Nat.beq k i := by
      rw [h1]
      show (nm k == nm i) = Nat.beq k i
      by_cases z : k = i
      · subst z; simp
      · have z2 : (nm k == nm i) = false := beq_eq_false_iff_ne.mpr fun y => z (inj _ _ y)
        rw [z2]
        cases y : Nat.beq k i with
        | false => rfl
        | true => exact absurd (Nat.eq_of_beq_eq_true y) z
    rw [hb]
    cases y : Nat.beq k i with
    | true =>
      have : k = i := Nat.eq_of_beq_eq_true y
      subst this
      exact ⟨⟨t, h1⟩, rfl, h3⟩
    | false => exact ⟨⟨t, h1⟩, h2, attrs_putL inj h3⟩
theorem attrs_len : ∀ {es : List DictEntry} {kvs : List (Nat × Value)}, AttrsAre nm es kvs → es.length = kvs.length
  | [], [], _ => rfl
  | e :: r, (k, v) :: q, ⟨_, _, h3⟩ => by rw [List.length_cons, List.length_cons, attrs_len h3]

theorem Rel.inst {x dx C : Addr} {t u : Nat} {kvs : List (Nat × Value)} (R : Rel c τ L l s) (hx : τ x = some (.ob t (instObj C dx))) (hd : τ dx = some (atr nm u kvs)) : ∃ es n, InstAt s.heap x (instObj C dx) C (some (dictOf es n)) ∧ AttrsAre nm es kvs := by
  obtain ⟨o, ho, es, n, rfl, ha⟩ := R.getP hd
  exact ⟨es, n, ⟨R.get hx, rfl, rfl, ho⟩, ha⟩
theorem gAttr {x dx C : Addr} {t u : Nat} {kvs : List (Nat × Value)} {i : Nat} {v : Value} {expr : Bool} {attr : Option Value} {Q : Value → Shared → Prop} (R : Rel c τ L l s) (hx : τ x = some (.ob t (instObj C dx))) (hd : τ dx = some (atr nm u kvs))
    (hg : plainGet c.K C (nm i) = true) (hh : hasDictIn c.K C = true) (ha : findIn c.K (.ref C) (nm i) = some attr) (hn : noGet c.K attr = true) (hv : kvs.lookup i = some v) (hv' : handedIn v = true) (h : ∀ s', Rel c τ L l s' → Q v s') : wpAny c.M A (getAttr (.ref x) (nm i) expr) Q E s := by
  obtain ⟨es, n, I, at_⟩ := R.inst hx hd
  exact get_value R.frag I (plainGet_of hg).1 (findObj_own hh ha hn ((attrs_getL c.inj at_ i).trans (by rw [hv]))) hv' (h _ (R.toks _))
theorem sAttr {x dx C : Addr} {t u : Nat} {kvs : List (Nat × Value)} {i : Nat} {v : Value} {Q : Unit → Shared → Prop} (R : Rel c τ L l s) (hx : τ x = some (.ob t (instObj C dx))) (hd : τ dx = some (atr nm u kvs))
    (hs : findIn c.K (.ref C) "__setattr__" = some (some (.builtin "object.__setattr__"))) (hp : plainOver c.K C = true) (ht : takerIn c.K C (nm i) = some none) (hh : hasDictIn c.K C = true) (hz : kvs.length < 900)
    (h : ∀ s', Rel c (upd τ dx (atr nm u (put kvs i v))) L l s' → Q () s') : wpAny c.M A (setAttr (.ref x) (nm i) v) Q E s := by
  obtain ⟨es, n, I, at_⟩ := R.inst hx hd
  obtain ⟨m, F, hm⟩ := R.fr0
  have hdx : s.heap.get? dx = some (dictOf es n) := by have := I.dict; exact this
  have hlen := attrs_len at_
  refine set_plain R.frag I hs ?_
  refine osa_dict (s := { s with toks := s.toks + 1 }) (pre := oth s.heap [L, dx]) (post := []) F (news1 hdx (R.neL hd)) R.frag I rfl hp ht hh ?_ off1 (fun _ h => nomatch h) (putName_dict ..) rfl ?_ fun h' F' N' => h _ (R.turnN (n := s.toks + 1 + 1) hd hm F' N' fun y => ⟨_, y, _, _, rfl, attrs_putL c.inj at_⟩)
  · show (getL (nm i) es).isSome = true
    rw [attrs_getL c.inj at_]; rfl
  · have : ∀ (es : List DictEntry) (a b : Value) (hs : Int), (putL (nm i) hs a b es).length ≤ es.length + 1 := by
      intro es a b hs
      induction es with
      | nil => simp [putL]
      | cons e r ih => unfold putL; split <;> simp; exact ih
    have := this es (.str (nm i) (s.toks + 1)) v (PyData.keyHash c.w.params (nm i))
    dsimp only
    omega
theorem mInst {x dx C f : Addr} {t u : Nat} {kvs : List (Nat × Value)} {i : Nat} {pl : Sem Bool} {Q : Value × List Value → Shared → Prop} (R : Rel c τ L l s) (hx : τ x = some (.ob t (instObj C dx))) (hd : τ dx = some (atr nm u kvs))
    (hg : plainGet c.K C (nm i) = true) (hf : findIn c.K (.ref C) (nm i) = some (some (.ref f))) (ht : isFn c.K (.ref f) = true) (hv : kvs.lookup i = none) (h : Q (.ref f, [.ref x]) s) : wpAny c.M A (getMethod (.ref x) (nm i) pl) Q E s := by
  obtain ⟨es, n, I, at_⟩ := R.inst hx hd
  exact method_fn R.frag I (plainGet_of hg).1 (plainGet_of hg).2 hf (beq_iff_eq.mp ht) (by show (lookIn (nm i) (dictOf es n)).map _ = _; rw [lookIn_dict, attrs_getL c.inj at_, hv]; rfl) h

/- instances with slots -/
noncomputable abbrev sloObj (C dx : Addr) (sl : List (Option Value)) : Obj := { cls := .ref C, dict := some dx, data := .plain, slots := sl.toArray }
theorem gSlot {x dx C p : Addr} {t u j : Nat} {sl : List (Option Value)} {name : Str} {v : Value} {expr : Bool} {Q : Value → Shared → Prop} (R : Rel c τ L l s) (hx : τ x = some (.ob t (sloObj C dx sl))) (hd : τ dx = some (atr nm u []))
    (hg : plainGet c.K C name = true) (hc : isClsIn c.K C = true) (ha : findIn c.K (.ref C) name = some (some (.ref p))) (hn : specialIn c.K (.ref p) "__get__" = some (some (.builtin "member_descriptor.__get__"))) (ht : takesIn c.K (.ref p) = some true) (hp : slotIn c.K p C = some j)
    (hv : (sl[j]?).join = some v) (hh : handedIn v = true) (h : ∀ s', Rel c τ L l s' → Q v s') : wpAny c.M A (getAttr (.ref x) name expr) Q E s := by
  obtain ⟨o, ho, es, n, rfl, at_⟩ := R.getP hd
  have I : InstAt s.heap x (sloObj C dx sl) C (some (dictOf es n)) := ⟨R.get hx, rfl, rfl, ho⟩
  have Rt := R.toks (s.toks + 1)
  exact get_bind R.frag I (plainGet_of hg).1 (findObj_data hc ha hn ht) (plainGet_of hg).2 (wpAny_call (slot_get (s := { s with toks := s.toks + 1 }) Rt.frag I hp (by simpa using hv) (handed_on hh (h _ Rt))))
theorem setAt_slots {sl : List (Option Value)} {j : Nat} {v : Value} : ((sl.toArray ++ Array.replicate (j + 1 - sl.toArray.size) none).setIfInBounds j (some v)) = ((sl ++ List.replicate (j + 1 - sl.length) none).set j (some v)).toArray := by
  apply Array.toList_inj.mp; simp
theorem sSlot {x dx C p : Addr} {t u j : Nat} {sl : List (Option Value)} {name : Str} {v : Value} {Q : Unit → Shared → Prop} (R : Rel c τ L l s) (hx : τ x = some (.ob t (sloObj C dx sl))) (hd : τ dx = some (atr nm u []))
    (hs : findIn c.K (.ref C) "__setattr__" = some (some (.builtin "object.__setattr__"))) (hpo : plainOver c.K C = true) (ht : takerIn c.K C name = some (some (.ref p))) (hT : typeIn c.K (.ref p) = some (.type "member_descriptor")) (hp : slotIn c.K p C = some j) (hj : j < 1000)
    (h : ∀ s', Rel c (upd τ x (.ob t (sloObj C dx ((sl ++ List.replicate (j + 1 - sl.length) none).set j (some v))))) L l s' → Q () s') : wpAny c.M A (setAttr (.ref x) name v) Q E s := by
  obtain ⟨o, ho, es, n, rfl, at_⟩ := R.getP hd
  have I : InstAt s.heap x (sloObj C dx sl) C (some (dictOf es n)) := ⟨R.get hx, rfl, rfl, ho⟩
  obtain ⟨m, F, hm⟩ := R.fr0
  refine set_plain R.frag I hs ?_
  refine osa_descr (s := { s with toks := s.toks + 1 }) KF.slot_mset R.frag I hpo ht hT ?_
  refine slot_set (s := { s with toks := s.toks + 1 }) (ox' := sloObj C dx ((sl ++ List.replicate (j + 1 - sl.length) none).set j (some v))) (v := v) (pre := oth s.heap [L, x]) (post := []) F (news1 (R.get hx) (R.neL hx)) R.frag I hp hj off1 (fun _ h => nomatch h) ?_ rfl fun h' F' N' => h _ (R.turnN (n := s.toks + 1) hx hm F' N' fun y => show h'.get? x = _ from y)
  exact congrArg (fun z => ({ cls := .ref C, dict := some dx, data := .plain, slots := z } : Obj)) setAt_slots

/- making -/
theorem mkInst {C fI : Addr} {n : Nat} {rest : List Value} {Q : Value → Shared → Prop} (H : Ok (n + 1) A) (R : Rel c τ L l s) (hm : makesIn c.K C = true) (hi : findIn c.K (.ref C) "__init__" = some (some (.ref fI))) (hf : typeIn c.K (.ref fI) = some (.type "function")) (t : Nat)
    (h : ∀ x dx A' s', Ok n A' → τ x = none → τ dx = none → x ≠ dx → x ≠ L → dx ≠ L → Rel c (upd (upd τ dx (atr nm t [])) x (.ob t (instObj C dx))) L l s' → codeAny c.M A' (.call (.ref fI) ⟨.ref x :: rest, []⟩) (CQ (fun v s'' => v = .none ∧ Q (.ref x) s'') E) s') :
    wpAny c.M A (call (.ref C) rest) Q E s := by
  obtain ⟨m, F, hm'⟩ := R.fr0
  refine wpAny_call (make_K (news := oth s.heap [L]) F (news0 (by simp)) R.frag hm hi hf fun x dx h' F' N' hlt hxd => ?_)
  have old : ∀ b o, s.heap.get? b = some o → b ≠ L → h'.get? b = some o ∧ b < dx := fun b o e hb => ⟨(N' (b, o) (.tail _ (.tail _ (mem_oth.mpr ⟨by simp [hb], e⟩)))).1, hlt (b, o) (mem_oth.mpr ⟨by simp [hb], e⟩)⟩
  have hx := N' (x, instObj C dx) (.head _)
  have hdx := N' (dx, emptyDict) (.tail _ (.head _))
  have out : ∀ a, dx ≤ a → a ≠ L → s.heap.get? a = none := fun a ha hne => by
    cases e : s.heap.get? a with
    | none => rfl
    | some o => exact absurd (old a o e hne).2 (Nat.not_lt.mpr ha)
  have tn : ∀ a, dx ≤ a → a ≠ L → τ a = none := fun a ha hne => by
    cases e : τ a with
    | none => rfl
    | some j =>
      have : ∃ o, s.heap.get? a = some o := by
        have z := R.sat _ _ e
        cases j with
        | ob _ o => exact ⟨o, z⟩
        | ls _ _ => obtain ⟨n, z⟩ := z; exact ⟨_, z⟩
        | pr _ _ => obtain ⟨o, z, _⟩ := z; exact ⟨_, z⟩
        | fr _ => obtain ⟨m, ⟨o, _, _, z, _⟩, _⟩ := z; exact ⟨_, z⟩
      obtain ⟨o, z⟩ := this
      rw [out a ha hne] at z; cases z
  have bn : ∀ a, dx ≤ a → a ≠ L → c.h₀.get? a = none := fun a ha hne => by
    cases e : c.h₀.get? a with
    | none => rfl
    | some o => have := R.keep a o e; rw [out a ha hne] at this; cases this
  have hxL : x ≠ L := hx.2.1
  have hdL : dx ≠ L := hdx.2.1
  have hne : x ≠ dx := Nat.ne_of_gt hxd
  have ok : Ok n (A.under (.builtin "type.__call__" ⟨.ref C :: rest, []⟩)) := ⟨H.1, by have := H.2.1; show A.depth + 1 + n < 1000; omega, by have := H.2.2; show A.units + 1 + 16 * n < 9900; omega⟩
  refine codeAny_mono (R := fun r s' => match r with | .ok (.ret v) => v = .none ∧ Q (.ref x) s' | .ok _ => False | .error e => E e s') ?_ ?_
  · refine h x dx _ { s with heap := h' } ok (tn x (Nat.le_of_lt hxd) hxL) (tn dx (Nat.le_refl _) hdL) hne hxL hdL ?_
    · refine ⟨fun b o e => (old b o (R.keep b o e) ?_).1, fun b j e => ?_, fun b j e => ?_, ⟨m, F'.ns, hm'⟩, R.newL, ?_, R.gens, R.os⟩
      · rintro rfl; rw [R.newL] at e; cases e
      · by_cases z : b = x
        · subst z; rw [upd_self] at e; cases e; exact hx.1
        · rw [upd_ne z] at e
          by_cases z2 : b = dx
          · subst z2; rw [upd_self] at e; cases e; exact ⟨_, hdx.1, [], 0, rfl, trivial⟩
          · rw [upd_ne z2] at e; exact (R.sat b j e).keeps fun o y => (old b o y (R.neL e)).1
      · by_cases z : b = x
        · subst z; exact .inr (bn _ (Nat.le_of_lt hxd) hxL)
        · rw [upd_ne z] at e
          by_cases z2 : b = dx
          · subst z2; exact .inr (bn _ (Nat.le_refl _) hdL)
          · rw [upd_ne z2] at e; exact R.new b j e
      · rw [upd_ne (Ne.symm hxL), upd_ne (Ne.symm hdL)]; exact R.apart
  · intro r s' z
    rcases r with e | (v | _ | _ | _) <;> first | exact z | exact z.elim
end
end Mine

namespace Mine
section
variable {nm : Nat → Str} {prog : Program} {KK : Params → Frag} {gl bl : Nat → Option Value} {c : Cx nm prog KK gl bl} {A : Around} {E : Value → Shared → Prop} {τ τ' τ₂ : Sto} {L L' : Addr} {l l' : List (Nat × Value)} {s : Shared} {env : Env} {ks : List (Nat × NameKind)} {cs : List (Nat × Addr)} {i : Nat} {pos : Pos} {v : Value}

noncomputable def dctP (prog : Program) (w : World) (kvs : List (Int × Value)) (ep : Nat) (o : Obj) : Prop := ∃ es, o.ExactDict ∧ o.data = .dict es ep ∧ KeysOf (intKind prog w) es ∧ Pairs (intKind prog w) es.toList kvs ∧ (kvs.map (·.1)).Nodup
noncomputable abbrev dct (c : Cx nm prog KK gl bl) (t : Nat) (kvs : List (Int × Value)) (ep : Nat) : It := .pr t (dctP prog c.w kvs ep)
theorem Rel.dict {d : Addr} {t ep : Nat} {kvs : List (Int × Value)} (R : Rel c τ L l s) (e : τ d = some (dct c t kvs ep)) : s.heap.DictAt (intKind prog c.w) d kvs ep := by
  obtain ⟨o, ho, es, r⟩ := R.getP e
  exact ⟨o, es, ho, r⟩
theorem dct_of {h : Heap} {d : Addr} {kvs : List (Int × Value)} (x : h.DictOf (intKind prog c.w) d kvs) : ∃ ep, ∀ t, (dct c t kvs ep).sat nm h d := by
  obtain ⟨o, es, ep, ho, r⟩ := x
  exact ⟨ep, fun t => ⟨o, ho, es, r⟩⟩
theorem Rel.notMods (R : Rel c τ L l s) : (s.heap.objs.size == sysModules) = false := by
  obtain ⟨mc, ⟨o, es, ep, ho, _⟩, _⟩ := c.lim
  have this : (2 : Nat) < s.heap.objs.size := Heap.lt_size (R.keep _ _ ho)
  rw [beq_eq_false_iff_ne]
  show s.heap.objs.size ≠ (1 : Nat)
  omega
theorem nDict (t : Nat) {Q : Value → Shared → Prop} (R : Rel c τ L l s) (h : ∀ a s', τ a = none → a ≠ L → (a == sysModules) = false → Rel c (upd τ a (dct c t [] 0)) L l s' → Q (.ref a) s') : wpAny c.M A (eval (.Dict [] [] pos) env) Q E s := by
  rw [eval_Dict_empty]
  refine wpAny_bind (wpAny_standAt ?_)
  unfold newDict
  refine wpAny_newObj_type (h _ _ R.fresh (Nat.ne_of_gt R.ltL) R.notMods ?_)
  refine R.grow (n := s.toks) (fun _ _ e => Heap.get?_push_of_some _ e) (Nat.le_refl _) ⟨_, Heap.get?_push_size _ rfl, #[], ⟨rfl, rfl, rfl⟩, rfl, fun _ he => by simp at he, ?_, by simp⟩
  exact .nil
theorem mDict {name : Str} {id : String} {d : Addr} {t ep : Nat} {kvs : List (Int × Value)} {pl : Sem Bool} {Q : Value × List Value → Shared → Prop} (slot : Slot "dict" name id) (hty : typeOf (.builtin id) = pure (.type "method_descriptor")) (R : Rel c τ L l s) (e : τ d = some (dct c t kvs ep))
    (h : Q (.builtin id, [.ref d]) s) : wpAny c.M A (getMethod (.ref d) name pl) Q E s := by
  obtain ⟨o, ho, es, x, r⟩ := R.getP e
  refine getMethod_builtin ⟨_, ho, x.1⟩ PySem.F.plainAttrs_dict slot hty (fun b q => by cases q; exact ⟨_, ho, x.2.1⟩) h
theorem dGet {d : Addr} {t ep : Nat} {kvs : List (Int × Value)} {k : Int} {u : Tok} {Q : Value → Shared → Prop} (R : Rel c τ L l s) (e : τ d = some (dct c t kvs ep)) (hd : (d == sysModules) = false) (h : ∀ s', Rel c τ L l s' → Q ((valueAt kvs k).getD .none) s') :
    wpAny c.M A (call (.builtin "dict.get") [.ref d, .int k u]) Q E s := by
  have hm := (R.dict e).dictOf.mapOf
  exact call_meetsIn PySem.F.slot_dict_get hm.typeIs PySem.F.entry_dict_get (PySem.F.args_dict_get_2 _ _) (meets_dict_get (intKind prog c.w) d (intKind_is prog c.w k u) hd) ⟨_, hm, h _ (R.toks _)⟩
theorem dItem {d : Addr} {t ep : Nat} {kvs : List (Int × Value)} {k : Int} {u : Tok} {v : Value} {Q : Value → Shared → Prop} (R : Rel c τ L l s) (e : τ d = some (dct c t kvs ep)) (hv : valueAt kvs k = some v) (h : ∀ s', Rel c τ L l s' → Q v s') :
    wpAny c.M A (getItem (.ref d) (.int k u)) Q E s := wpAny_getItem_of (intKind_is prog c.w k u) (R.dict e).dictOf.mapOf hv (h _ (R.toks _))
theorem xDItem {value slice : Expr} {d : Addr} {t ep : Nat} {kvs : List (Int × Value)} {k : Int} {u : Tok} {v : Value} {Q : Value → Shared → Prop} (R : Rel c τ L l s) (e : τ d = some (dct c t kvs ep)) (hv : valueAt kvs k = some v) (h : ∀ s', Rel c τ L l s' → Q v s')
    (hs : subscripted slice false (.ref d) (.int k u) = operate [.ref d, .int k u] (getItem (.ref d) (.int k u)) := by with_unfolding_all rfl) :
    wpAny c.M A (subscriptTail value slice (.ref d) (.int k u)) Q E s := tail_any (R.dict e).dictOf.typeIs slot_dict_getitem.lookup (dItem R e hv h) hs
theorem dSet {d : Addr} {t ep : Nat} {kvs : List (Int × Value)} {k : Int} {u : Tok} {v : Value} {Q : Unit → Shared → Prop} (R : Rel c τ L l s) (e : τ d = some (dct c t kvs ep)) (hz : kvs.length < 100000) (h : ∀ ep' s', Rel c (upd τ d (dct c t (stored kvs k v) ep')) L l s' → Q () s') :
    wpAny c.M A (setItem (.ref d) (.int k u) v) Q E s := by
  refine wpAny_setItem_pairs (hsz := sizeOk hz) (intKind_is prog c.w k u) (R.dict e).dictOf fun h' hm hs => ?_
  obtain ⟨ep', q⟩ := dct_of (c := c) hm
  exact h ep' _ (R.turn e hs (q t))
theorem dIn {d : Addr} {t ep : Nat} {kvs : List (Int × Value)} {k : Int} {u : Tok} {Q : Value → Shared → Prop} (R : Rel c τ L l s) (e : τ d = some (dct c t kvs ep)) (hd : (d == sysModules) = false) (h : ∀ s', Rel c τ L l s' → Q (.bool (valueAt kvs k).isSome) s') :
    wpAny c.M A (compareOp .In (.int k u) (.ref d)) Q E s := wpAny_in_of (intKind_is prog c.w k u) hd (R.dict e).dictOf.mapOf (h _ (R.toks _))
theorem dDel {d : Addr} {t ep : Nat} {kvs : List (Int × Value)} {k : Int} {u : Tok} {Q : Unit → Shared → Prop} (R : Rel c τ L l s) (e : τ d = some (dct c t kvs ep)) (hz : kvs.length < 100000) (hk : (valueAt kvs k).isSome = true) (h : ∀ ep' s', Rel c (upd τ d (dct c t (without kvs k) ep')) L l s' → Q () s') :
    wpAny c.M A (delItem (.ref d) (.int k u)) Q E s := by
  have hD := (R.dict e).dictOf
  refine wpAny_delItem_slot hD.typeIs (by decide) PySem.F.slot_dict_delitem ?_
  refine call_meetsIn PySem.F.slot_dict_delitem hD.typeIs PySem.F.entry_dict_delitem (PySem.F.args_dict_delitem_2 _ _) (meets_dict_delitem_pairs (intKind prog c.w) d (intKind_is prog c.w k u)) ⟨kvs, hD, sizeOk hz, hk, fun h' hm hs => ?_⟩
  obtain ⟨ep', q⟩ := dct_of (c := c) hm
  exact h ep' _ (R.turn e hs (q t))

/- walking a dict -/
noncomputable abbrev itD (d : Addr) (n ep : Nat) (i : Nat) : It := .pr 1 fun o => o.cls = .type "dict_keyiterator" ∧ o.data = .fields #[.ref d, .int i 0, .int n 0, .int ep 0]
theorem drvD {it d : Addr} {ep : Nat} {kvs : List (Int × Value)} : Drv c it kvs.length (fun i v => ∃ k u t, kvs[i]? = some (k, u) ∧ v = .int k t) (itD d kvs.length ep) (fun τ => ∃ t, τ d = some (dct c t kvs ep)) where
  item := by
    rintro i A τ L l s Q E H hi hn ⟨t, hd⟩ R h
    have hm := R.dict ((upd_ne (ne_of_none hd hn)).trans hd)
    obtain ⟨o, ho, hc, hdt⟩ := R.getP upd_self
    refine wpAny_pyNext_dict_item ⟨o, ho, hc, hdt⟩ hm (k := kvs[i].1) (v := kvs[i].2) (by simp [hi]) fun key h' hk hit hs => ?_
    have R' := R.turn (n := s.toks) (i' := itD d kvs.length ep (i + 1)) upd_self hs hit
    rw [upd_upd] at R'
    refine h _ _ ⟨kvs[i].1, kvs[i].2, ?_⟩ R'
    cases key with
    | int j t => exact ⟨t, by simp [hi], by simp [intKind, Value.isInt] at hk; rw [hk]⟩
    | _ => simp [intKind, Value.isInt] at hk
  done := by
    rintro A τ L l s Q E H hn ⟨t, hd⟩ R h
    have hm := R.dict ((upd_ne (ne_of_none hd hn)).trans hd)
    obtain ⟨o, ho, hc, hdt⟩ := R.getP upd_self
    exact wpAny_pyNext_dict_end H.1 ⟨o, ho, hc, hdt⟩ hm (by simp) fun h' he => h _ (R.dropExt (n := s.toks) hn he)
  self := by
    intro i A τ L l s Q E R h
    obtain ⟨o, ho, hc, hdt⟩ := R.getP upd_self
    exact wpAny_pyIter_keyiter ⟨o, ho, hc, hdt⟩ h
  tup := by
    intro i A τ L l s Q E target v R h
    obtain ⟨o, ho, hc, hdt⟩ := R.getP upd_self
    exact letTup ho hc hdt (by decide +kernel) h
theorem iterD {d : Addr} {t ep : Nat} {kvs : List (Int × Value)} {Q : Value → Shared → Prop} (R : Rel c τ L l s) (e : τ d = some (dct c t kvs ep)) (hd : (d == sysModules) = false) (h : ∀ it s', τ it = none → it ≠ L → Rel c (upd τ it (itD d kvs.length ep 0)) L l s' → Q (.ref it) s') : wpAny c.M A (pyIter (.ref d)) Q E s := by
  refine wpAny_pyIter_dict hd (R.dict e) (h _ _ R.fresh (Nat.ne_of_gt R.ltL) ?_)
  exact R.grow (n := s.toks) (fun _ _ e => Heap.get?_push_of_some _ e) (Nat.le_refl _) ⟨_, Heap.get?_push_size _ rfl, rfl, rfl⟩
noncomputable abbrev itV (d : Addr) (n ep : Nat) (i : Nat) : It := .pr 1 fun o => o.cls = .type "dict_valueiterator" ∧ o.data = .fields #[.ref d, .int i 0, .int n 0, .int ep 0]
theorem drvV {it d : Addr} {ep : Nat} {kvs : List (Int × Value)} : Drv c it kvs.length (fun i v => ∃ k, kvs[i]? = some (k, v)) (itV d kvs.length ep) (fun τ => ∃ t, τ d = some (dct c t kvs ep)) where
  item := by
    rintro i A τ L l s Q E H hi hn ⟨t, hd⟩ R h
    have hm := R.dict ((upd_ne (ne_of_none hd hn)).trans hd)
    obtain ⟨o, ho, hc, hdt⟩ := R.getP upd_self
    refine wpAny_pyNext_values_item ⟨o, ho, hc, hdt⟩ hm (k := kvs[i].1) (v := kvs[i].2) (by simp [hi]) fun h' hit hs => ?_
    have R' := R.turn (n := s.toks) (i' := itV d kvs.length ep (i + 1)) upd_self hs hit
    rw [upd_upd] at R'
    exact h _ _ ⟨kvs[i].1, by simp [hi]⟩ R'
  done := by
    rintro A τ L l s Q E H hn ⟨t, hd⟩ R h
    have hm := R.dict ((upd_ne (ne_of_none hd hn)).trans hd)
    obtain ⟨o, ho, hc, hdt⟩ := R.getP upd_self
    exact wpAny_pyNext_values_end H.1 ⟨o, ho, hc, hdt⟩ hm (by simp) fun h' he => h _ (R.dropExt (n := s.toks) hn he)
  self := by
    intro i A τ L l s Q E R h
    obtain ⟨o, ho, hc, hdt⟩ := R.getP upd_self
    exact wpAny_pyIter_valiter ⟨o, ho, hc, hdt⟩ h
  tup := by
    intro i A τ L l s Q E target v R h
    obtain ⟨o, ho, hc, hdt⟩ := R.getP upd_self
    exact letTup ho hc hdt (by decide +kernel) h
noncomputable abbrev vwV (d : Addr) : It := .pr 0 fun o => o.cls = .type "dict_values" ∧ o.data = .fields #[.ref d]
theorem dValues {d : Addr} {t ep : Nat} {kvs : List (Int × Value)} {Q : Value → Shared → Prop} (R : Rel c τ L l s) (e : τ d = some (dct c t kvs ep)) (hd : (d == sysModules) = false) (h : ∀ a s', τ a = none → a ≠ L → Rel c (upd τ a (vwV d)) L l s' → Q (.ref a) s') :
    wpAny c.M A (call (.builtin "dict.values") [.ref d]) Q E s := by
  have hD := (R.dict e).dictOf
  refine call_meetsIn PySem.F.slot_dict_values hD.typeIs PySem.F.entry_dict_values (PySem.F.args_dict_values_1 _) (meets_dict_values (intKind prog c.w) d hd) ⟨⟨kvs, hD⟩, h _ _ R.fresh (Nat.ne_of_gt R.ltL) ?_⟩
  exact R.grow (n := s.toks) (fun _ _ e => Heap.get?_push_of_some _ e) (Nat.le_refl _) ⟨_, Heap.get?_push_size _ rfl, rfl, rfl⟩
theorem iterV {d a : Addr} {t u ep : Nat} {kvs : List (Int × Value)} {Q : Value → Shared → Prop} (R : Rel c τ L l s) (ea : τ a = some (vwV d)) (e : τ d = some (dct c t kvs ep)) (h : ∀ it s', τ it = none → it ≠ L → Rel c (upd τ it (itV d kvs.length ep 0)) L l s' → Q (.ref it) s') : wpAny c.M A (pyIter (.ref a)) Q E s := by
  obtain ⟨o, ho, hc, hdt⟩ := R.getP ea
  refine wpAny_pyIter_values ⟨o, ho, hc, hdt⟩ (R.dict e) (h _ _ R.fresh (Nat.ne_of_gt R.ltL) ?_)
  exact R.grow (n := s.toks) (fun _ _ e => Heap.get?_push_of_some _ e) (Nat.le_refl _) ⟨_, Heap.get?_push_size _ rfl, rfl, rfl⟩
end
end Mine

namespace Mine
section
variable {nm : Nat → Str} {prog : Program} {KK : Params → Frag} {gl bl : Nat → Option Value} {c : Cx nm prog KK gl bl} {A : Around} {E : Value → Shared → Prop} {τ τ' τ₂ : Sto} {L L' : Addr} {l l' : List (Nat × Value)} {s : Shared} {env : Env} {ks : List (Nat × NameKind)} {cs : List (Nat × Addr)} {i : Nat} {pos : Pos} {v : Value}
theorem aSub {o i : Expr} {Q : Unit → Shared → Prop} (h : wpAny c.M A (eval o env) (fun ov s₂ => wpAny c.M A (eval i env) (fun iv s₃ => wpAny c.M A (setItem ov iv v) Q E s₃) E s₂) E s) : wpAny c.M A (assign (.Subscript o i pos) env v) Q E s := by
  rw [assign_Subscript]
  refine wpAny_bind (wpAny_holding (wpAny_mono h (fun ov s₂ h₂ => ?_) fun _ _ e => e))
  refine wpAny_bind (wpAny_holding (wpAny_mono h₂ (fun iv s₃ h₃ => ?_) fun _ _ e => e))
  refine wpAny_bind (wpAny_standAt (wpAny_bind (wpAny_holding (wpAny_mono h₃ (fun _ s₄ h₄ => ?_) fun _ _ e => e))))
  exact wpAny_releaseD h₄
theorem xIadd {a b : Int} {t u : Tok} {Q : Value → Shared → Prop} (R : Rel c τ L l s) (h : ∀ t s', Rel c τ L l s' → Q (.int (a + b) t) s') : wpAny c.M A (inplaceOp .Add (.int a t) (.int b u)) Q E s :=
  PyProof.Rows.iadd_int (h _ _ (R.toks _))
theorem xIsub {a b : Int} {t u : Tok} {Q : Value → Shared → Prop} (R : Rel c τ L l s) (h : ∀ t s', Rel c τ L l s' → Q (.int (a - b) t) s') : wpAny c.M A (inplaceOp .Sub (.int a t) (.int b u)) Q E s :=
  PyProof.Rows.isub_int (h _ _ (R.toks _))
theorem bLenT {a : Addr} {t : Nat} {vs : List Value} {Q : Value → Shared → Prop} (R : Rel c τ L l s) (e : τ a = some (.ob t (tup vs))) (hz : vs.length < 100000) (h : ∀ u s', Rel c τ L l s' → Q (.int vs.length u) s') :
    wpAny c.M A (call (.builtin "len") [.ref a]) Q E s := by
  refine PyProof.Rows.len_tuple (R.isTup e) (by rw [List.size_toArray]; omega) ?_
  have := h (s.toks + 1) _ (R.toks (s.toks + 1 + 1))
  simpa using this
theorem bTuple {a : Addr} {t : Nat} {vs : List Value} (t' : Nat) {Q : Value → Shared → Prop} (R : Rel c τ L l s) (e : τ a = some (.ls t vs)) (hz : vs.length < 100000) (h : ∀ b s', τ b = none → b ≠ L → Rel c (upd τ b (.ob t' (tup vs))) L l s' → Q (.ref b) s') :
    wpAny c.M A (call (.type "tuple") [.ref a]) Q E s := by
  refine PySem.call_tuple_list (R.isList e) (fun h' hk => ?_) (by simpa using sizeOk hz)
  have R' := R.heap (n := s.toks) hk
  exact h _ _ R'.fresh (Nat.ne_of_gt R'.ltL) (R'.push t' (tup vs) s.toks)
theorem bListL {a : Addr} {t : Nat} {vs : List Value} (t' : Nat) {Q : Value → Shared → Prop} (R : Rel c τ L l s) (e : τ a = some (.ls t vs)) (hz : vs.length < 100000) (h : ∀ b s', τ b = none → b ≠ L → Rel c (upd τ b (.ls t' vs)) L l s' → Q (.ref b) s') :
    wpAny c.M A (call (.type "list") [.ref a]) Q E s := by
  obtain ⟨n, x⟩ := R.getL e
  exact PySem.call_list_seq a (.inl rfl) x rfl rfl (fun h' c' hk ho => h _ _ R.fresh (Nat.ne_of_gt R.ltL) (R.grow (n := s.toks) hk (Nat.le_refl _) ⟨c', ho⟩)) (by simpa using sizeOk hz)
/- sets of ints -/
noncomputable abbrev setI (c : Cx nm prog KK gl bl) (t : Nat) (S : Int → Bool) (n : Nat) : It := .pr t fun o => ∃ es ep tb, o.ExactSet ∧ o.data = .set es ep tb ∧ ElemsOf (intKind prog c.w) es.toList ∧ (∀ k, S k = true ↔ ∃ e ∈ es.toList, (intKind prog c.w).is k e.2 = true) ∧ es.size < scanBound ∧ tb.fits es.size = true ∧ es.size = n
theorem Rel.set {a : Addr} {t n : Nat} {S : Int → Bool} (R : Rel c τ L l s) (e : τ a = some (setI c t S n)) : s.heap.SetOf (intKind prog c.w) a S n := by
  obtain ⟨o, ho, es, ep, tb, r⟩ := R.getP e
  exact ⟨o, es, ep, tb, ho, r⟩
theorem bSet (t : Nat) {Q : Value → Shared → Prop} (R : Rel c τ L l s) (h : ∀ a s', τ a = none → a ≠ L → Rel c (upd τ a (setI c t (fun _ => false) 0)) L l s' → Q (.ref a) s') : wpAny c.M A (call (.type "set") []) Q E s := by
  refine PySem.call_set_0 fun led => h _ _ R.fresh (Nat.ne_of_gt R.ltL) (R.grow (n := s.toks) (fun _ _ e => Heap.get?_push_of_some _ e) (Nat.le_refl _) ⟨_, Heap.get?_push_size _ rfl, #[], 0, .fresh 0 0 led, ?_, rfl, ?_, ?_, ?_, ?_, rfl⟩)
  · exact ⟨rfl, rfl, rfl⟩
  · intro e he; simp at he
  · simp
  · decide
  · rfl
theorem sIn {a : Addr} {t n : Nat} {S : Int → Bool} {k : Int} {u : Tok} {Q : Value → Shared → Prop} (R : Rel c τ L l s) (e : τ a = some (setI c t S n)) (h : ∀ s', Rel c τ L l s' → Q (.bool (S k)) s') : wpAny c.M A (compareOp .In (.int k u) (.ref a)) Q E s :=
  wpAny_inSet_of (intKind_is prog c.w k u) rfl (R.set e) (h _ (R.toks _))
theorem sMeth {a : Addr} {t n : Nat} {S : Int → Bool} {pl : Sem Bool} {Q : Value × List Value → Shared → Prop} (R : Rel c τ L l s) (e : τ a = some (setI c t S n)) (h : Q (.builtin "set.add", [.ref a]) s) : wpAny c.M A (getMethod (.ref a) "add" pl) Q E s :=
  getMethod_set_add (R.set e) h
theorem sAdd {a : Addr} {t n : Nat} {S : Int → Bool} {k : Int} {u : Tok} {Q : Value → Shared → Prop} (R : Rel c τ L l s) (e : τ a = some (setI c t S n)) (hz : n < 4000) (h : ∀ s', Rel c (upd τ a (setI c t (fun k' => S k' || decide (k' = k)) (if S k then n else n + 1))) L l s' → Q .none s') :
    wpAny c.M A (call (.builtin "set.add") [.ref a, .int k u]) Q E s := by
  refine PySem.call_set_add (intKind_is prog c.w k u) rfl (R.set e) (show n + 1 < 4096 by omega) fun h' hs hS => ?_
  obtain ⟨o, es, ep, tb, ho, r⟩ := hS
  exact h _ (R.turn e hs ⟨o, ho, es, ep, tb, r⟩)
end
end Mine

namespace Mine
theorem sl_li_ga : Slot "list_iterator" "__getattribute__" "object.__getattribute__" :=
  .of (owner := "object") (n := "__getattribute__") (by rw [typeLookup_type, builtinLookup_eq_fast]; kernel_rfl) (by decide +kernel) (by decide +kernel) (by decide +kernel)
    (by first | exact .inl (by decide +kernel) | exact .inr (by decide +kernel)) (by rw [isSubtype_type]; kernel_rfl)
theorem en_li_ga : entryFor table "object.__getattribute__" = some Builtin.«object.__getattribute__» := entryFor_of_tree (by kernel_rfl)
theorem ar_li_ga (a b : Value) : argsOk "object.__getattribute__" ⟨[a, b], []⟩ := by unfold argsOk; kernel_rfl
theorem lk_li_next : typeLookup (.type "list_iterator") "__next__" = pure (some (.builtin "list_iterator.__next__")) := by rw [typeLookup_type, builtinLookup_eq_fast]; kernel_rfl
theorem ty_li_next : typeOf (.builtin "list_iterator.__next__") = pure (.type "wrapper_descriptor") := by show builtinType _ = _; rw [builtinType_eq_fast]; kernel_rfl
theorem sl_wd_get : Slot "wrapper_descriptor" "__get__" "wrapper_descriptor.__get__" :=
  .of (owner := "wrapper_descriptor") (n := "__get__") (by rw [typeLookup_type, builtinLookup_eq_fast]; kernel_rfl) (by decide +kernel) (by decide +kernel) (by decide +kernel)
    (by first | exact .inl (by decide +kernel) | exact .inr (by decide +kernel)) (by rw [isSubtype_type]; kernel_rfl)
theorem lk_wd_set : typeLookup (.type "wrapper_descriptor") "__set__" = pure none := by rw [typeLookup_type, builtinLookup_eq_fast]; kernel_rfl
theorem lk_wd_del : typeLookup (.type "wrapper_descriptor") "__delete__" = pure none := by rw [typeLookup_type, builtinLookup_eq_fast]; kernel_rfl
theorem en_wd_get : entryFor table "wrapper_descriptor.__get__" = some Builtin.«wrapper_descriptor.__get__» := entryFor_of_tree (by kernel_rfl)
theorem ar_wd_get (a b c : Value) : argsOk "wrapper_descriptor.__get__" ⟨[a, b, c], []⟩ := by unfold argsOk; kernel_rfl
theorem sub_li : isSubtype (.type "list_iterator") (.type "list_iterator") = pure true := by rw [isSubtype_type]; kernel_rfl
noncomputable abbrev wrap (it : Addr) : Obj := { cls := .type "method-wrapper", data := .fields #[.builtin "list_iterator.__next__", .ref it] }
section
variable {prog : Program} {w : World} {A : Around} {E : Value → Shared → Prop} {h : Heap} {g : Array GenState} {d : Drawn} {t : Nat} {os : OsState} {a : Addr} {o : Obj}
theorem li_get {R : Result → Shared → Prop} (hx : h.get? a = some o) (hc : o.cls = .type "list_iterator") (hq : R (.ok (.ret (.ref h.objs.size))) ⟨h.push (wrap a), g, d, t, os⟩) :
    codeAny (model prog w) A (.call (.builtin "wrapper_descriptor.__get__") ⟨[.builtin "list_iterator.__next__", .ref a, .type "list_iterator"], []⟩) R ⟨h, g, d, t, os⟩ := by
  have hT : (⟨h, g, d, t, os⟩ : Shared).TypeIs (.ref a) "list_iterator" := ⟨_, hx, hc⟩
  have hT5 : (⟨h, g, d, t, os⟩ : Shared).TypeIs (.builtin "list_iterator.__next__") "wrapper_descriptor" := ty_li_next
  have f8 := sub_li
  refine codeAny_call_builtin sl_wd_get.plain en_wd_get (sl_wd_get.check _ _ _ _ _ _ _ _ hT5 (ar_wd_get _ _ _) ?_)
  repeat (any_goals (first | assumption | wp_step))
  rw [show (".".intercalate ("list_iterator.__next__".cutAt '.').dropLast) = "list_iterator" from by
    have e0 : "list_iterator.__next__".cutAt '.' = ["list_iterator", "__next__"] := by first | rfl | decide +kernel
    rw [e0]; decide +kernel]
  repeat (any_goals (first | assumption | wp_step))
theorem li_entry {tk : Tok} {Q : Fin → Shared → Prop} (hx : h.get? a = some o) (hc : o.cls = .type "list_iterator") {vs : Array Value} (hd : o.data = .fields vs) (hn : o.dict = none) (hq : Q (.done (.ret (.ref h.objs.size))) ⟨h.push (wrap a), g, d, t, os⟩) :
    wpAny (model prog w) A (Builtin.«object.__getattribute__» ⟨[.ref a, .str "__next__" tk], []⟩) Q E ⟨h, g, d, t, os⟩ := by
  have hT : (⟨h, g, d, t, os⟩ : Shared).TypeIs (.ref a) "list_iterator" := ⟨_, hx, hc⟩
  have hT5 : (⟨h, g, d, t, os⟩ : Shared).TypeIs (.builtin "list_iterator.__next__") "wrapper_descriptor" := ty_li_next
  have f4 := lk_li_next
  have f5 := ty_li_next
  have f6 := sl_wd_get.lookup
  have f7 := lk_wd_set
  have f8 := lk_wd_del
  repeat (any_goals (first | assumption | wp_step))
  rw [hd]
  dsimp only
  repeat (any_goals (first | assumption | wp_step))
  rw [hc, hn]
  dsimp only
  repeat (any_goals (first | assumption | wp_step))
  refine li_get hx hc ?_
  repeat (any_goals (first | assumption | wp_step))
theorem li_attr {Q : Value → Shared → Prop} {expr : Bool} (hx : h.get? a = some o) (hc : o.cls = .type "list_iterator") {vs : Array Value} (hd : o.data = .fields vs) (hn : o.dict = none) (hq : Q (.ref h.objs.size) ⟨h.push (wrap a), g, d, t + 1, os⟩) :
    wpAny (model prog w) A (getAttr (.ref a) "__next__" expr) Q E ⟨h, g, d, t, os⟩ := by
  have hT : ∀ t, (⟨h, g, d, t, os⟩ : Shared).TypeIs (.ref a) "list_iterator" := fun _ => ⟨_, hx, hc⟩
  have f2 := sl_li_ga.lookup
  have f3 := sl_li_ga.bind (.ref a)
  unfold getAttr
  repeat (any_goals (first | assumption | exact hT _ | wp_step))
  rw [hc]
  repeat (any_goals (first | assumption | exact hT _ | wp_step))
  rw [if_neg (by simp [onTheHeap])]
  unfold boundAndCalled
  refine wpAny_bind (wpAny_of_eq f3 ?_)
  refine wpAny_call_entry sl_li_ga (hT _) en_li_ga (li_entry hx hc hd hn ⟨_, rfl, ?_⟩) (ar_li_ga _ _)
  repeat (any_goals (first | assumption | exact hT _ | wp_step))
end
end Mine

namespace Mine
section
variable {nm : Nat → Str} {prog : Program} {KK : Params → Frag} {gl bl : Nat → Option Value} {c : Cx nm prog KK gl bl} {A : Around} {E : Value → Shared → Prop} {τ τ' τ₂ : Sto} {L L' : Addr} {l l' : List (Nat × Value)} {s : Shared} {env : Env} {ks : List (Nat × NameKind)} {cs : List (Nat × Addr)} {i : Nat} {pos : Pos} {v : Value}

structure Lv (A : Around) (env : Env) (τ : Sto) (L : Addr) : Prop where
  here : env.frame = some L
  kind : env.scope.kind = .function
  rest : ∃ outer, A.frames = some (env :: outer) ∧ ∀ e ∈ outer, e.scope.kind = .function ∧ ∃ f l, e.frame = some f ∧ τ f = some (.fr l)
theorem Lv.mono (V : Lv A env τ L) (k : ∀ a l, τ a = some (.fr l) → ∃ l', τ' a = some (.fr l')) : Lv A env τ' L := by
  refine gate ?_
  intro Gg kg
  obtain ⟨h1, h2, outer, h3, h4⟩ := V
  refine kg ?_
  clear kg Gg
  refine ⟨h1, h2, outer, h3, fun e he => ⟨(h4 e he).1, ?_⟩⟩
  refine gate ?_
  intro Gg kg
  obtain ⟨f, l, q1, q2⟩ := (h4 e he).2
  obtain ⟨l', q3⟩ := k f l q2
  refine kg ?_
  clear kg Gg
  exact ⟨f, l', q1, q3⟩
theorem Lv.into (V : Lv A env τ L) (V' : Ev c env' L' ks cs) (hf : env'.frame = some L') (hL : τ L = none) : Lv (A.deeper env') env' (upd τ L (.fr l)) L' := by
  refine gate ?_
  intro Gg kg
  obtain ⟨h1, h2, outer, h3, h4⟩ := V
  refine kg ?_
  clear kg Gg
  refine ⟨hf, V'.fn, env :: outer, by show A.frames.map _ = _; rw [h3]; rfl, fun e he => ?_⟩
  rcases List.mem_cons.mp he with rfl | he
  · exact ⟨h2, L, l, h1, upd_self⟩
  · refine gate ?_
    intro Gg kg
    obtain ⟨q0, f, l', q1, q2⟩ := h4 e he
    refine kg ?_
    clear kg Gg
    exact ⟨q0, f, l', q1, (upd_ne (ne_of_none q2 hL)).trans q2⟩
noncomputable def Quiet (c : Cx nm prog KK gl bl) (τ : Sto) (L a : Addr) : Prop := c.h₀.get? a = none ∧ τ a = none ∧ a ≠ L
noncomputable def Exn (c : Cx nm prog KK gl bl) (τ : Sto) (L : Addr) (e : Addr) (cls : Value) (h : Heap) : Prop :=
  ∃ oe vs a0, h.get? e = some oe ∧ oe.cls = cls ∧ oe.data = .fields vs ∧ vs[0]? = some a0 ∧ Quiet c τ L e ∧
    (vs[1]? = some .none ∨ ∃ T oT ts, vs[1]? = some (.ref T) ∧ T ≠ e ∧ h.get? T = some oT ∧ oT.data = .fields ts ∧ ts[3]? = some .none ∧ Quiet c τ L T)
theorem Rel.land {X : List Addr} {h' : Heap} {n : Nat} (R : Rel c τ L l s) (hX : ∀ x ∈ X, x = L ∨ (∃ l, τ x = some (.fr l)) ∨ Quiet c τ L x) (st : (hideAll s.heap X).StaysIn h') (up : s.heap.UpToSlots h') : Rel c τ L l { s with heap := h', toks := n } := by
  have base : ∀ b o, c.h₀.get? b = some o → b ∉ X := fun b o e q => by
    rcases hX b q with rfl | ⟨l, z⟩ | z
    · rw [R.newL] at e; cases e
    · rw [R.newN z rfl] at e; cases e
    · rw [z.1] at e; cases e
  refine ⟨fun b o e => st b o (hideAll_get _ (R.keep b o e) (base b o e)), fun a i e => ?_, R.new, R.here.slots fun o ho hn => up L o ho hn, R.newL, R.apart, R.gens, R.os⟩
  have hsat := R.sat a i e
  have out : (∀ l, i ≠ .fr l) → a ∉ X := fun hi q => by
    rcases hX a q with rfl | ⟨l, z⟩ | z
    · rw [R.apart] at e; cases e
    · rw [e] at z; cases z; exact hi l rfl
    · rw [z.2.1] at e; cases e
  cases i with
  | fr l => exact frameSat.slots (fun o ho hn => up a o ho hn) hsat
  | ob t o => exact It.sat.keeps (fun o q => st a o (hideAll_get _ q (out fun _ => nofun))) hsat
  | ls t o => exact It.sat.keeps (fun o q => st a o (hideAll_get _ q (out fun _ => nofun))) hsat
  | pr t o => exact It.sat.keeps (fun o q => st a o (hideAll_get _ q (out fun _ => nofun))) hsat
theorem frame_data {h : Heap} {a : Addr} {l : List (Nat × Value)} (F : frameSat nm h a l) : ∃ o, h.get? a = some o ∧ ∀ vs, o.data ≠ .fields vs := by
  refine gate ?_
  intro Gg kg
  obtain ⟨m, ⟨o, es, ep, e, d, r⟩, q⟩ := F
  refine kg ?_
  clear kg Gg
  exact ⟨o, e, fun vs z => by rw [d] at z; cases z⟩
theorem Rel.quiet {X : List Addr} {a : Addr} {h' : Heap} {oT : Obj} {ts : Array Value} (R : Rel c τ L l s) (hX : ∀ x ∈ X, x = L ∨ (∃ l, τ x = some (.fr l)) ∨ Quiet c τ L x) (up : s.heap.UpToSlots h') (hb : (hideAll s.heap X).get? a = none) (ho : h'.get? a = some oT) (hd : oT.data = .fields ts) : Quiet c τ L a := by
  have fr : ∀ {l}, frameSat nm s.heap a l → False := fun F => by
    refine gate ?_
    intro Gg kg
    obtain ⟨o, e, hn⟩ := frame_data F
    obtain ⟨sl, e'⟩ := up a o e hn
    refine kg ?_
    clear kg Gg
    rw [ho] at e'; cases e'
    exact hn ts hd
  have inX : ∀ {o}, s.heap.get? a = some o → a ∈ X := fun e => by
    rcases Classical.em (a ∈ X) with q | q
    · exact q
    · rw [hideAll_get _ e q] at hb; cases hb
  refine ⟨?_, ?_, ?_⟩
  · cases e : c.h₀.get? a with
    | none => rfl
    | some o =>
      rcases hX a (inX (R.keep a o e)) with rfl | ⟨l, z⟩ | z
      · rw [R.newL] at e; cases e
      · rw [R.newN z rfl] at e; cases e
      · rw [z.1] at e; cases e
  · cases e : τ a with
    | none => rfl
    | some i =>
      have hs := R.sat a i e
      have there : ∃ o, s.heap.get? a = some o := by
        cases i with
        | fr l => obtain ⟨o, q, _⟩ := frame_data hs; exact ⟨o, q⟩
        | ob t o => exact ⟨o, hs⟩
        | ls t vs => obtain ⟨n, q⟩ := hs; exact ⟨_, q⟩
        | pr t P => obtain ⟨o, q, _⟩ := hs; exact ⟨o, q⟩
      obtain ⟨o, q⟩ := there
      rcases hX a (inX q) with rfl | ⟨l, z⟩ | z
      · rw [R.apart] at e; cases e
      · exact (fr (R.sat a _ z)).elim
      · rw [z.2.1] at e; cases e
  · rintro rfl
    exact fr R.here
theorem Rel.frames {X : List Addr} (R : Rel c τ L l s) (V : Lv A env τ L) {outer : List Env} (hA : A.frames = some (env :: outer)) (hX : ∀ f, f ∈ (env :: outer).filterMap (·.frame) → f ∈ X) : s.heap.FunFrames (hideAll s.heap X) (env :: outer) := by
  refine gate ?_
  intro Gg kg
  obtain ⟨h1, h2, outer', h3, h4⟩ := V
  refine kg ?_
  clear kg Gg
  rw [hA] at h3
  cases h3
  have go : ∀ l' : List Env, (∀ e ∈ l', e.scope.kind = .function ∧ ∃ f l, e.frame = some f ∧ τ f = some (.fr l)) → (∀ f, f ∈ l'.filterMap (·.frame) → f ∈ X) → s.heap.FunFrames (hideAll s.heap X) l' := by
    intro l'
    induction l' with
    | nil => intros; trivial
    | cons e r ih =>
      intro k1 k2
      refine gate ?_
      intro Gg kg
      obtain ⟨q0, f, l', q1, q2⟩ := k1 e (.head _)
      obtain ⟨o, ho, hn⟩ := frame_data (R.sat _ _ q2)
      refine kg ?_
      clear kg Gg
      refine ⟨by rw [q0]; nofun, ⟨f, o, q1, hideAll_none _ (k2 f (by rw [List.filterMap_cons, q1]; exact .head _)), ho, hn⟩, ih (fun e he => k1 e (.tail _ he)) fun f hf => k2 f ?_⟩
      rw [List.filterMap_cons, q1]; exact .tail _ hf
  refine gate ?_
  intro Gg kg
  obtain ⟨o, ho, hn⟩ := frame_data R.here
  refine kg ?_
  clear kg Gg
  refine ⟨by rw [h2]; nofun, ⟨L, o, h1, hideAll_none _ (hX L (by rw [List.filterMap_cons, h1]; exact .head _)), ho, hn⟩, go outer h4 fun f hf => hX f ?_⟩
  rw [List.filterMap_cons, h1]; exact .tail _ hf
theorem exn_note {e : Addr} {cls : Value} {Q : Unit → Shared → Prop} (R : Rel c τ L l s) (X : Exn c τ L e cls s.heap) (V : Lv A env τ L)
    (h : ∀ X' a0 h', (∀ x ∈ X', x = L ∨ (∃ l, τ x = some (.fr l)) ∨ Quiet c τ L x) → (hideAll s.heap X').StaysIn h' → s.heap.UpToSlots h' → h'.FunFrames (hideAll s.heap X') [] → (∃ outer, h'.FunFrames (hideAll s.heap X') (env :: outer)) → h'.TracedAtW (hideAll s.heap X') e cls a0 (rawInt L) → Q () { s with heap := h' }) :
    wpAny c.M A (noteFrame (.ref e) env) Q E s := by
  refine gate ?_
  intro Gg kg
  obtain ⟨outer, hA, hO⟩ := V.rest
  obtain ⟨oe, vs, a0, he, hc, hd, h0, qe, hT⟩ := X
  refine kg ?_
  clear kg Gg
  have frs : ∀ f, f ∈ (env :: outer).filterMap (·.frame) → f = L ∨ ∃ l, τ f = some (.fr l) := fun f hf => by
    rw [List.filterMap_cons, V.here] at hf
    rcases List.mem_cons.mp hf with rfl | hf
    · exact .inl rfl
    · refine gate ?_
      intro Gg kg
      obtain ⟨e, he, q⟩ := List.mem_filterMap.mp hf
      obtain ⟨_, f', l, q1, q2⟩ := hO e he
      refine kg ?_
      clear kg Gg
      rw [q] at q1; cases q1
      exact .inr ⟨l, q2⟩
  rcases hT with h1 | ⟨T, oT, ts, h1, hne, ho, hdT, h3, qT⟩
  · have hX : ∀ x ∈ e :: (env :: outer).filterMap (·.frame), x = L ∨ (∃ l, τ x = some (.fr l)) ∨ Quiet c τ L x := fun x hx => by
      rcases List.mem_cons.mp hx with rfl | hx
      · exact .inr (.inr qe)
      · rcases frs x hx with q | q
        · exact .inl q
        · exact .inr (.inl q)
    have hl := R.frames V hA (X := e :: (env :: outer).filterMap (·.frame)) fun f hf => .tail _ hf
    unfold noteFrame
    simp only [V.here]
    refine wpAny_bind (wpAny_field he hd h1 ?_)
    rw [if_neg (by decide)]
    refine wpAny_entryW hA hl V.here he (fun b o q => of_hideAll _ q) (hideAll_none _ (.head _)) hd (Array.getElem?_eq_some_iff.mp h1).1 h0 fun h' hN => ?_
    refine gate ?_
    intro Gg kg
    obtain ⟨k1, k2, k3, k4⟩ := hN
    refine kg ?_
    clear kg Gg
    rw [hc] at k3
    exact h _ a0 h' hX k1 k4 trivial ⟨outer, k2⟩ k3
  · have hX : ∀ x ∈ e :: T :: (env :: outer).filterMap (·.frame), x = L ∨ (∃ l, τ x = some (.fr l)) ∨ Quiet c τ L x := fun x hx => by
      rcases List.mem_cons.mp hx with rfl | hx
      · exact .inr (.inr qe)
      · rcases List.mem_cons.mp hx with rfl | hx
        · exact .inr (.inr qT)
        · rcases frs x hx with q | q
          · exact .inl q
          · exact .inr (.inl q)
    have hl := R.frames V hA (X := e :: T :: (env :: outer).filterMap (·.frame)) fun f hf => .tail _ (.tail _ hf)
    refine wpAny_noteFrame_onW hA hl V.here ⟨oe, vs, T, oT, ts, he, ⟨hc, h0⟩, hd, h1, hideAll_none _ (.tail _ (.head _)), hne, ho, hdT, h3⟩ (fun b o q => of_hideAll _ q) (hideAll_none _ (.head _)) fun h' hN => ?_
    refine gate ?_
    intro Gg kg
    obtain ⟨k1, k2, k3, k4⟩ := hN
    refine kg ?_
    clear kg Gg
    exact h _ a0 h' hX k1 k4 trivial ⟨outer, k2⟩ k3
theorem exn_leaves {e : Addr} {cls : Value} {Q : Unit → Shared → Prop} (R : Rel c τ L l s) (X : Exn c τ L e cls s.heap) (V : Lv A env τ L)
    (h : ∀ s', Rel c τ L l s' → Exn c τ L e cls s'.heap → Q () s') : wpAny c.M A («leaving» env (.ref e)) Q E s := by
  have qe : Quiet c τ L e := by obtain ⟨_, _, _, _, _, _, _, q, _⟩ := X; exact q
  unfold «leaving»
  refine wpAny_bind (exn_note R X V fun X' a0 h' hX st up _ ff tr => ?_)
  obtain ⟨outer, ff⟩ := ff
  refine wpAny_setFlight_noneW (s := { s with heap := h' }) st ff tr fun h₂ st₂ ff₂ tr₂ k₂ => ?_
  have up₂ : s.heap.UpToSlots h₂ := up.trans fun b o q hn => ⟨o.slots, k₂ b o q hn⟩
  refine h { s with heap := h₂ } (R.land (n := s.toks) hX st₂ up₂) ?_
  refine gate ?_
  intro Gg kg
  obtain ⟨oe, vs, T, oT, ts, he, ⟨hc, h0⟩, hd, h1, hb, hne, ho, hdT, h3⟩ := tr₂
  refine kg ?_
  clear kg Gg
  exact ⟨oe, vs, a0, he, hc, hd, h0, qe, .inr ⟨T, oT, ts, h1, hne, ho, hdT, h3, R.quiet hX up₂ hb ho hdT⟩⟩
theorem exn_lands {e : Addr} {cls cv : Value} {t : Expr} {b₀ : Stmt} {suite : List Stmt} {Q : Flow → Shared → Prop} (R : Rel c τ L l s) (X : Exn c τ L e cls s.heap) (V : Lv A env τ L) (hm : exmOne c.K cls cv = some true)
    (ht : ∀ s₁ F (Q' : Value → Shared → Prop), Rel c τ L l s₁ → Q' cv s₁ → wpAny c.M (A.mark (some (.ref e))) (eval t env) Q' F s₁)
    (h : ∀ s' F, Rel c τ L l s' → wpAny c.M (A.mark (some (.ref e))) (execs (b₀ :: suite) env) Q F s') :
    wpAny c.M A (noteFrame (.ref e) env) (fun _ s₂ => wpAny c.M A (setFlight (.ref e) none) (fun _ s₃ => wpAny c.M A (handleBy (.ref e) env [.ExceptHandler (some t) none (b₀ :: suite) pos]) Q E s₃) E s₂) E s := by
  refine exn_note R X V fun X' a0 h' hX st up _ ff tr => ?_
  obtain ⟨outer, ff⟩ := ff
  refine wpAny_setFlight_noneW (s := { s with heap := h' }) st ff tr fun h₂ st₂ ff₂ tr₂ k₂ => ?_
  have up₂ : s.heap.UpToSlots h₂ := up.trans fun b o q hn => ⟨o.slots, k₂ b o q hn⟩
  have R₂ : Rel c τ L l { s with heap := h₂ } := R.land (n := s.toks) hX st₂ up₂
  refine wpAny_handleBy_cons (codeAny_handlers_test (ht _ _ _ R₂ ?_)) (by intro q; cases q)
  have LT : Looks c.M h₂ (typeOf (.ref e)) cls := by
    refine gate ?_
    intro Gg kg
    obtain ⟨oe, vs, T, oT, ts, he, ⟨hc, h0⟩, _⟩ := tr₂
    refine kg ?_
    clear kg Gg
    subst hc
    exact (Looks.ld he).andThen .now
  refine (exm_one R₂.frag LT hm).here ?_
  rw [if_pos rfl]
  refine codeAny_handlers_suite ?_
  refine wpAny_setFlight_noneW (s := { s with heap := h₂ }) st₂ ff₂ tr₂.at fun h₃ st₃ ff₃ tr₃ k₃ => ?_
  have up₃ : s.heap.UpToSlots h₃ := up₂.trans fun b o q hn => ⟨o.slots, k₃ b o q hn⟩
  exact h _ _ (R.land (n := s.toks) hX st₃ up₃)
end
end Mine

namespace Mine
theorem ck_wrap (it : Addr) : checkBoundCall "list_iterator.__next__" ⟨[.ref it], []⟩ = pure () := by kernel_rfl
section
variable {nm : Nat → Str} {prog : Program} {KK : Params → Frag} {gl bl : Nat → Option Value} {c : Cx nm prog KK gl bl} {A : Around} {E : Value → Shared → Prop} {τ τ' τ₂ : Sto} {L L' : Addr} {l l' : List (Nat × Value)} {s : Shared} {env : Env} {ks : List (Nat × NameKind)} {cs : List (Nat × Addr)} {i : Nat} {pos : Pos} {v : Value}

noncomputable abbrev liNew (a : Addr) : Obj := { cls := .type "list_iterator", data := .fields #[.ref a, .int 0 0] }
theorem bIter {a : Addr} {t : Nat} {vs : List Value} {Q : Value → Shared → Prop} (R : Rel c τ L l s) (e : τ a = some (.ls t vs)) (h : ∀ it s', τ it = none → it ≠ L → Rel c (upd τ it (.ob 1 (liNew a))) L l s' → Q (.ref it) s') :
    wpAny c.M A (call (.builtin "iter") [.ref a]) Q E s := by
  refine call_function_entry (by decide +kernel) (by decide +kernel) kdk_entry_iter (kdk_args_iter _) ?_
  unfold Builtin.«iter»
  refine wpAny_bind (m := someArgs "iter" 1 2 _) (wpAny_of_eq (a := [Value.ref a]) (by first | rfl | kernel_rfl!) ?_)
  show wpAny _ _ (pyIter (.ref a) >>= _) _ _ _
  refine wpAny_bind (wpAny_pyIter_list (R.isList e) (wpAny_pure ⟨_, rfl, h _ _ R.fresh (Nat.ne_of_gt R.ltL) ?_⟩))
  exact R.grow (n := s.toks) (fun _ _ e => Heap.get?_push_of_some _ e) (Nat.le_refl _) (Heap.get?_push_size _ rfl)
theorem gNext {it a : Addr} {name : Str} {expr : Bool} {Q : Value → Shared → Prop} (hn : name = Str.ofString "__next__") (R : Rel c τ L l s) (e : τ it = some (.ob 1 (liNew a))) (h : ∀ u s', τ u = none → u ≠ L → Rel c (upd τ u (.ob 1 (wrap it))) L l s' → Q (.ref u) s') :
    wpAny c.M A (getAttr (.ref it) name expr) Q E s := by
  subst hn
  obtain ⟨hp, g, d, tk, os⟩ := s
  refine li_attr (R.get e) rfl rfl rfl (h _ _ R.fresh (Nat.ne_of_gt R.ltL) ?_)
  exact R.push 1 (wrap it) (tk + 1)
theorem cwW {u it : Addr} {t : Nat} {Q : Value → Shared → Prop} (R : Rel c τ L l s) (e : τ u = some (.ob t (wrap it))) (h : wpAny c.M A (call (.ref u) []) Q E s) : wpAny c.M A (callWith pos (.ref u) [] (backTo pos (starEach [] env)) []) Q E s := by
  unfold callWith
  refine wpAny_bind (wpAny_holding (evalArgs_nil3 (wpAny_bind (wpAny_standAt ?_))))
  refine wpAny_bind (m := keeperOf (.ref u)) ?_
  unfold keeperOf
  refine wpAny_bind (wpAny_load (R.get e) ?_)
  simp only [show (Value.type "method-wrapper" != Value.type "method") = true by decide, show (Value.type "method-wrapper" == Value.type "builtin_function_or_method" || Value.type "method-wrapper" == Value.type "method-wrapper") = true by decide, if_true]
  refine wpAny_pure ?_
  exact wpAny_bind (wpAny_mono h (fun r s₂ hr => wpAny_bind (wpAny_holding (wpAny_point (wpAny_pure hr)))) fun _ _ x => x)
theorem cNextItem {u it a : Addr} {t t' t'' i : Nat} {vs : List Value} {x : Value} {Q : Value → Shared → Prop} (R : Rel c τ L l s) (eu : τ u = some (.ob t (wrap it))) (ei : τ it = some (.pr t' fun o => o.cls = .type "list_iterator" ∧ o.data = .fields #[.ref a, .int i 0])) (ea : τ a = some (.ls t'' vs)) (hx : vs[i]? = some x)
    (h : ∀ s', Rel c (upd τ it (.pr t' fun o => o.cls = .type "list_iterator" ∧ o.data = .fields #[.ref a, .int ((i + 1 : Nat) : Int) 0])) L l s' → Q x s') : wpAny c.M A (call (.ref u) []) Q E s := by
  obtain ⟨o, ho, hc, hd⟩ := R.getP ei
  obtain ⟨n, hl⟩ := R.getL ea
  refine wpAny_call (codeAny_of_tree ?_)
  show wpAny _ A.in1 (callAny (.ref u) ⟨[], []⟩) _ _ s
  simp only [callAny]
  refine wpAny_bind (wpAny_load (R.get eu) ?_)
  simp only [show (Value.type "method-wrapper" == Value.type "method" || Value.type "method-wrapper" == Value.type "builtin_function_or_method" || Value.type "method-wrapper" == Value.type "method-wrapper") = true by decide, if_true]
  refine KFB.if_so (by decide) ?_
  refine wpAny_bind (wpAny_of_eq (a := ()) (ck_wrap it) ?_)
  refine wpAny_bind (wpAny_pure (wpAny_pure ?_))
  refine ⟨Code.quiet_builtin _ (by decide +kernel), codeAny_builtin entry_listiter_next ?_⟩
  show wpAny _ _ (field (.ref it) 0 >>= _) _ _ s
  refine wpAny_bind (wpAny_field ho hd (x := .ref a) rfl ?_)
  show wpAny _ _ (if (Value.ref a == Value.none) = true then _ else _) _ _ s
  rw [if_neg (show ¬ ((Value.ref a == Value.none) = true) from Bool.false_ne_true)]
  show wpAny _ _ (field (.ref it) 1 >>= _) _ _ s
  refine wpAny_bind (wpAny_field ho hd (x := .int i 0) rfl ?_)
  show wpAny _ _ (seqItems? (.ref a) >>= _) _ _ s
  refine wpAny_bind (wpAny_seqItems hl rfl ?_)
  have hx' : vs.toArray[i]? = some x := by simpa using hx
  simp only [Int.toNat_natCast, hx']
  refine wpAny_bind (wpAny_setField ho hd (by simp) (wpAny_pure ?_))
  refine h _ (R.turn (n := s.toks) ei (Heap.SameBut.update ..) ?_)
  exact ⟨_, Heap.get?_update_self _ ho (Obj.isFreed_of_fields (Obj.data_mapFields hd _)), (Obj.cls_mapFields ..).trans hc, by
    rw [Obj.data_mapFields hd]; simp [rawInt]⟩
theorem cNextEnd {u it a : Addr} {t t' t'' i : Nat} {vs : List Value} {Q : Value → Shared → Prop} (hh : A.handled = none) (R : Rel c τ L l s) (eu : τ u = some (.ob t (wrap it))) (ei : τ it = some (.pr t' fun o => o.cls = .type "list_iterator" ∧ o.data = .fields #[.ref a, .int i 0])) (ea : τ a = some (.ls t'' vs)) (hx : vs[i]? = none)
    (h : ∀ e s', Rel c (del τ it) L l s' → Exn c (del τ it) L e (.type "StopIteration") s'.heap → E (.ref e) s') : wpAny c.M A (call (.ref u) []) Q E s := by
  obtain ⟨o, ho, hc, hd⟩ := R.getP ei
  obtain ⟨n, hl⟩ := R.getL ea
  refine wpAny_call (codeAny_of_tree ?_)
  show wpAny _ A.in1 (callAny (.ref u) ⟨[], []⟩) _ _ s
  simp only [callAny]
  refine wpAny_bind (wpAny_load (R.get eu) ?_)
  simp only [show (Value.type "method-wrapper" == Value.type "method" || Value.type "method-wrapper" == Value.type "builtin_function_or_method" || Value.type "method-wrapper" == Value.type "method-wrapper") = true by decide, if_true]
  refine KFB.if_so (by decide) ?_
  refine wpAny_bind (wpAny_of_eq (a := ()) (ck_wrap it) ?_)
  refine wpAny_bind (wpAny_pure (wpAny_pure ?_))
  refine ⟨Code.quiet_builtin _ (by decide +kernel), codeAny_builtin entry_listiter_next ?_⟩
  show wpAny _ _ (field (.ref it) 0 >>= _) _ _ s
  refine wpAny_bind (wpAny_field ho hd (x := .ref a) rfl ?_)
  show wpAny _ _ (if (Value.ref a == Value.none) = true then _ else _) _ _ s
  rw [if_neg (show ¬ ((Value.ref a == Value.none) = true) from Bool.false_ne_true)]
  show wpAny _ _ (field (.ref it) 1 >>= _) _ _ s
  refine wpAny_bind (wpAny_field ho hd (x := .int i 0) rfl ?_)
  show wpAny _ _ (seqItems? (.ref a) >>= _) _ _ s
  refine wpAny_bind (wpAny_seqItems hl rfl ?_)
  have hx' : vs.toArray[i]? = none := by simpa using hx
  simp only [Int.toNat_natCast, hx']
  refine wpAny_bind (wpAny_rule (wpAny_bind (wpAny_setField ho hd (by simp) ?_)))
  show wpAny _ _ (newExc (.type "StopIteration") [] >>= _) _ _ _
  refine wpAny_bind ?_
  simp only [newExc, newTuple]
  refine wpAny_bind (wpAny_newObj_type ?_ (by size_fits))
  refine wpAny_bind (m := firstArgMember _ _) (wpAny_of_eq (a := Value.none) (by first | rfl | (simp only [firstArgMember]; rfl)) ?_)
  refine wpAny_newObj_type ?_ (by size_fits)
  refine wpAny_raiseNew_none hh ?_
  have R1 : Rel c (del τ it) L l { s with heap := ((s.heap.update it (Obj.mapFields fun x => x.setIfInBounds 0 Value.none)).push { cls := .type "tuple", data := .seq #[] }).push { cls := .type "StopIteration", data := .fields #[.ref (s.heap.update it (Obj.mapFields fun x => x.setIfInBounds 0 Value.none)).objs.size, .none, .none, .none, .bool false, .none] } } := by
    refine Rel.dropExt (n := s.toks) (it := it) (i := .pr t' fun o => o.cls = .type "list_iterator" ∧ o.data = .fields #[.ref a, .int i 0]) ?_ del_self (((Heap.SameBut.update ..).extBut.push _).push _)
    have : upd (del τ it) it (.pr t' fun o => o.cls = .type "list_iterator" ∧ o.data = .fields #[.ref a, .int i 0]) = τ := by
      funext b; unfold upd del
      by_cases q : b = it
      · rw [if_pos q, q, ei]
      · rw [if_neg q, if_neg q]
    rw [this]; exact R
  have hsz : ((s.heap.update it (Obj.mapFields fun x => x.setIfInBounds 0 Value.none)).push { cls := .type "tuple", data := .seq #[] }).objs.size = s.heap.objs.size + 1 := by rw [Heap.size_push]; congr 1; exact (Heap.SameBut.update ..).1
  refine h _ _ R1 ⟨_, _, _, Heap.get?_push_size _ rfl, rfl, rfl, rfl, ⟨?_, ?_, ?_⟩, .inl rfl⟩
  · rw [hsz]; exact R.base_none (Nat.le_succ _)
  · rw [hsz, del_ne]
    · exact R.none_size (Nat.le_succ _)
    · have := R.lt ei; exact Nat.ne_of_gt (Nat.lt_succ_of_lt this)
  · rw [hsz]; exact Nat.ne_of_gt (Nat.lt_succ_of_lt R.ltL)
end
end Mine

namespace Mine
section
variable {nm : Nat → Str} {prog : Program} {KK : Params → Frag} {gl bl : Nat → Option Value} {c : Cx nm prog KK gl bl} {A : Around} {E : Value → Shared → Prop} {τ τ' τ₂ : Sto} {L L' : Addr} {l l' : List (Nat × Value)} {s : Shared} {env : Env} {ks : List (Nat × NameKind)} {cs : List (Nat × Addr)} {i : Nat} {pos : Pos} {v : Value}
theorem xSlice {value : Expr} {lower upper step : Option Expr} {p : Pos} {Q : Value → Shared → Prop} (V : Ev c env L ks cs)
    (h : wpAny c.M A (eval value env) (fun o s₁ => wpAny c.M A (evalPart lower env) (fun vl s₂ => wpAny c.M A (evalPart upper env) (fun vu s₃ => wpAny c.M A (evalPart step env) (fun vk s₄ =>
      ∃ τ l a t vs lo hi st, o = .ref a ∧ Rel c τ L l s₄ ∧ τ a = some (.ls t vs) ∧ vs.length < 100000 ∧ IsPart vl lo ∧ IsPart vu hi ∧ IsPart vk st ∧ st ≠ some 0 ∧
        ∀ b s', τ b = none → b ≠ L → Rel c (upd τ b (.ls 0 (slicePick vs.toArray lo hi st).toList)) L l s' → Q (.ref b) s') E s₃) E s₂) E s₁) E s)
    (hs : ∀ o i, ∃ ops, subscripted (.Slice lower upper step p) false o i = operate ops (getItem o i) := by intro _ _; exact ⟨_, by with_unfolding_all rfl⟩) :
    wpAny c.M A (eval (.Subscript value (.Slice lower upper step p) pos) env) Q E s := by
  refine Subscript_ (wpAny_mono h (fun o s₁ h₁ => wpAny_Slice (wpAny_mono h₁ (fun vl s₂ h₂ => wpAny_mono h₂ (fun vu s₃ h₃ => wpAny_mono h₃ (fun vk s₄ h₄ => ?_) fun _ _ e => e) fun _ _ e => e) fun _ _ e => e)) fun _ _ e => e)
  refine gate ?_
  intro Gg kg
  obtain ⟨τ, l, a, t, vs, lo, hi, st, rfl, R, ea, hz, p1, p2, p3, h0, k⟩ := h₄
  obtain ⟨ops, hs⟩ := hs (.ref a) (.ref s₄.heap.objs.size)
  refine kg ?_
  clear kg Gg
  have hl := R.isList ea
  have R' := R.push 0 { cls := .type "slice", data := .fields #[vl, vu, vk] } s₄.toks
  refine tail_any (Heap.IsList.typeIs (s := { s₄ with heap := s₄.heap.push { cls := .type "slice", data := .fields #[vl, vu, vk] } }) (hl.push _)) list_getitem_lookup
    (wpAny_getItem_list_slice (s := { s₄ with heap := s₄.heap.push { cls := .type "slice", data := .fields #[vl, vu, vk] } }) (hl.push _) (Heap.IsSliceOf.new ..) p1 p2 p3 h0 ?_ (by simpa using sizeOk hz)) hs
  have R₁ := R'.drop R.fresh
  refine k _ _ R₁.fresh (Nat.ne_of_gt R₁.ltL) (R₁.grow (n := s₄.toks) (fun _ _ e => Heap.get?_push_of_some _ e) (Nat.le_refl _) ⟨0, ?_⟩)
  rw [Heap.get?_push_size _ rfl]
theorem xAddL {a b : Addr} {t u : Nat} {vs ws : List Value} (t' : Nat) {Q : Value → Shared → Prop} (R : Rel c τ L l s) (ea : τ a = some (.ls t vs)) (eb : τ b = some (.ls u ws)) (hz : vs.length + ws.length < 100000)
    (h : ∀ d s', τ d = none → d ≠ L → Rel c (upd τ d (.ls t' (vs ++ ws))) L l s' → Q (.ref d) s') : wpAny c.M A (binaryOp .Add (.ref a) (.ref b)) Q E s := by
  refine gate ?_
  intro Gg kg
  obtain ⟨n, x⟩ := R.getL ea
  obtain ⟨m, y⟩ := R.getL eb
  refine kg ?_
  clear kg Gg
  refine PySem.P.add_list x y (h _ _ R.fresh (Nat.ne_of_gt R.ltL) (R.grow (n := s.toks) (fun _ _ e => Heap.get?_push_of_some _ e) (Nat.le_refl _) ⟨0, ?_⟩)) (by simpa using sizeOk hz)
  rw [Heap.get?_push_size _ rfl]; simp
theorem gItemN {a : Addr} {t : Nat} {vs : List Value} {k : Nat} {u : Tok} {x : Value} {Q : Value → Shared → Prop} (R : Rel c τ L l s) (e : τ a = some (.ls t vs)) (hk : 1 ≤ k) (hk2 : k ≤ vs.length) (hj : vs.length < 100000) (hx : vs[vs.length - k]? = some x) (h : Q x s) :
    wpAny c.M A (getItem (.ref a) (.int (-(k : Int)) u)) Q E s := by
  refine wpAny_getItem_list_neg (R.isList e) (by omega) (by rw [List.size_toArray]; omega) (by omega) ?_ h
  rw [List.size_toArray, show (-(k : Int) + (vs.length : Nat)).toNat = vs.length - k by omega]
  simpa using hx
theorem xItemN {value slice : Expr} {a : Addr} {t : Nat} {vs : List Value} {k : Nat} {u : Tok} {x : Value} {Q : Value → Shared → Prop} (R : Rel c τ L l s) (e : τ a = some (.ls t vs)) (hk : 1 ≤ k) (hk2 : k ≤ vs.length) (hj : vs.length < 100000) (hx : vs[vs.length - k]? = some x) (h : Q x s)
    (hs : subscripted slice false (.ref a) (.int (-(k : Int)) u) = operate [.ref a, .int (-(k : Int)) u] (getItem (.ref a) (.int (-(k : Int)) u)) := by with_unfolding_all rfl) :
    wpAny c.M A (subscriptTail value slice (.ref a) (.int (-(k : Int)) u)) Q E s :=
  tail_any (R.isList e).typeIs slot_list_getitem.lookup (gItemN R e hk hk2 hj hx h) hs
theorem xDel {o i : Expr} {p pos : Pos} {Q : Flow → Shared → Prop} (h : wpAny c.M A (eval o env) (fun ov s₁ => wpAny c.M A (eval i env) (fun iv s₂ => wpAny c.M A (delItem ov iv) (fun _ s₃ => Q .next s₃) E s₂) E s₁) E s) :
    wpAny c.M A (exec (.Delete [.Subscript o i p] pos) env) Q E s := by
  refine wpAny_Delete (wpAny_deleteEach_cons ?_)
  rw [arm_delete_Subscript]
  refine wpAny_bind (wpAny_mono h (fun ov s₁ h₁ => ?_) fun _ _ e => e)
  refine wpAny_bind (wpAny_holding (wpAny_mono h₁ (fun iv s₂ h₂ => ?_) fun _ _ e => e))
  refine wpAny_bind (wpAny_standAt (wpAny_bind (wpAny_holding (wpAny_mono h₂ (fun _ s₃ h₃ => ?_) fun _ _ e => e))))
  exact wpAny_releaseD (wpAny_deleteEach_nil h₃)
theorem xExprA {e : Expr} {pos : Pos} {Q : Flow → Shared → Prop} (V : Ev c env L ks cs) (h : wpAny c.M A (eval e env) (fun v s' => Q .next s') E s) (hs : swapsWith e none pos.line env = pure false := by rfl) :
    wpAny c.M A (exec (.Expr e pos) env) Q E s := by
  rw [exec_Expr env e pos (by unfold interactive; rw [V.fn]; rfl) hs]
  exact wpAny_bind (wpAny_standAt (wpAny_bind (wpAny_mono h (fun v s' h' => wpAny_dropValue h') fun _ _ x => x)))
theorem xNeg {a : Int} {t : Tok} {Q : Value → Shared → Prop} (R : Rel c τ L l s) (h : ∀ t s', Rel c τ L l s' → Q (.int (-a) t) s') : wpAny c.M A (unaryOp .USub (.int a t)) Q E s := PyProof.Rows.neg_int (h _ _ (R.toks _))
end
end Mine

namespace Mine
section
variable {nm : Nat → Str} {prog : Program} {KK : Params → Frag} {gl bl : Nat → Option Value} {c : Cx nm prog KK gl bl}
set_option genInjectivity false in
structure Wk (c : Cx nm prog KK gl bl) (ks : List (Nat × NameKind)) (cs : List (Nat × Addr)) (n : Nat) where
  A : Around
  env : Env
  L : Addr
  V : Ev c env L ks cs
  H : Ok n A
variable {ks : List (Nat × NameKind)} {cs : List (Nat × Addr)} {n : Nat} {W : Wk c ks cs n} {τ τ' : Sto} {l l' : List (Nat × Value)} {s : Shared} {E : Value → Shared → Prop}
noncomputable abbrev Rl (W : Wk c ks cs n) (τ : Sto) (l : List (Nat × Value)) (s : Shared) : Prop := Rel c τ W.L l s
noncomputable def kont (W : Wk c ks cs n) (E : Value → Shared → Prop) : List (List Stmt) → (Flow → Shared → Prop) → Flow → Shared → Prop
  | [], Q => Q
  | r :: rs, Q => fun f s => match f with
    | .next => wpAny c.M W.A (execs r W.env) (kont W E rs Q) E s
    | f => kont W E rs Q f s
noncomputable def XX (W : Wk c ks cs n) (ss : List Stmt) (rs : List (List Stmt)) (Q : Flow → Shared → Prop) (E : Value → Shared → Prop) (s : Shared) : Prop := wpAny c.M W.A (execs ss W.env) (kont W E rs Q) E s
theorem kont_go {Q : Flow → Shared → Prop} {f : Flow} (hf : f ≠ .next) {rs : List (List Stmt)} (h : Q f s) : kont W E rs Q f s := by
  induction rs with
  | nil => exact h
  | cons r rs ih => cases f with
    | next => exact absurd rfl hf
    | _ => exact ih
theorem kont_un {Q : Flow → Shared → Prop} {f : Flow} {r : List Stmt} {rs : List (List Stmt)} (hf : f ≠ .next) (h : kont W E rs Q f s) : Q f s := by
  induction rs with
  | nil => exact h
  | cons r rs ih => cases f with
    | next => exact absurd rfl hf
    | _ => exact ih h
variable {ss : List Stmt} {rs : List (List Stmt)} {Q : Flow → Shared → Prop} {pos : Pos}
noncomputable def nxt (W : Wk c ks cs n) (ss : List Stmt) (rs : List (List Stmt)) (Q : Flow → Shared → Prop) (E : Value → Shared → Prop) (f : Flow) (s : Shared) : Prop := match f with
  | .next => XX W ss rs Q E s
  | f => Q f s
theorem sStm {st : Stmt} (h : wpAny c.M W.A (exec st W.env) (nxt W ss rs Q E) E s) : XX W (st :: ss) rs Q E s :=
  wpAny_execs_cons (wpAny_mono h (fun f s' q => by
    cases f with
    | next => exact q
    | brk => exact kont_go (f := .brk) (fun z => nomatch z) q
    | cont => exact kont_go (f := .cont) (fun z => nomatch z) q
    | ret v => exact kont_go (f := .ret v) (fun z => nomatch z) q) fun _ _ e => e)
theorem sEnd {r : List Stmt} (h : XX W r rs Q E s) : XX W [] (r :: rs) Q E s := wpAny_execs_nil h
theorem sEnd0 (h : Q .next s) : XX W [] [] Q E s := wpAny_execs_nil h
theorem sBrk (q : Q .brk s) : XX W (.Break pos :: ss) rs Q E s := sStm (wpAny_Break q)
theorem sCont (q : Q .cont s) : XX W (.Continue pos :: ss) rs Q E s := sStm (wpAny_Continue q)
theorem sIf0 {e : Expr} {body orelse : List Stmt} (h : wpAny c.M W.A (isTrue e W.env (eval e W.env)) (fun b s => (b = true → XX W body (ss :: rs) Q E s) ∧ (b = false → XX W orelse (ss :: rs) Q E s)) E s) : XX W (.If e body orelse pos :: ss) rs Q E s := by
  have go : ∀ {body s}, XX W body (ss :: rs) Q E s → wpAny c.M W.A (execs body W.env) (nxt W ss rs Q E) E s := fun x => wpAny_mono x (fun f s q => by
    cases f with
    | next => exact q
    | brk => exact kont_un (W := W) (E := E) (f := .brk) (Q := Q) (r := ss) (rs := ss :: rs) (fun z => nomatch z) q
    | cont => exact kont_un (W := W) (E := E) (f := .cont) (Q := Q) (r := ss) (rs := ss :: rs) (fun z => nomatch z) q
    | ret v => exact kont_un (W := W) (E := E) (f := .ret v) (Q := Q) (r := ss) (rs := ss :: rs) (fun z => nomatch z) q) fun _ _ e => e
  exact sStm (xIf (wpAny_mono h (fun b s z => ⟨fun y => go (z.1 y), fun y => go (z.2 y)⟩) fun _ _ e => e))
theorem callW {A : Around} {L : Addr} {f : Addr} {n : Nat} {name qual : Str} {params : Arguments} {body : List Stmt} {scope : Scope} {dV kV doc pm cdv ct oc : Value} {an od : Option Addr} {osl : Array (Option Value)} {vals : List Value} {lb : List (Nat × Value)} {Q : Value → Shared → Prop}
    (H : Ok (n + 1) A) (R : Rel c τ L l s) (ho : c.K.lookup f = some ⟨oc, od, .func (fnOf name qual params body scope dV kV doc pm an cdv ct), osl⟩) (hcd : codeIn c.K cdv qual = true)
    (hsc : scope.kind = .function ∧ scope.isGenerator = false ∧ scope.isCoroutine = false) (hn : scope.names = named nm ks) (hcell : noCell ks = true)
    (hbind : BindsTo s (fnOf name qual params body scope dV kV doc pm an cdv ct) ⟨vals, []⟩ (named nm lb)) (hloc : locOk ks (lb.map (·.1)) = true)
    (h : ∀ (W : Wk c ks [] n) s Q' E', W.env.frame = some W.L → W.A = A.deeper W.env → Rl W (upd τ L (.fr l)) lb s → τ W.L = none → W.L ≠ L → (∀ v s, Q v s → Q' (.ret v) s) → (∀ s, Q .none s → Q' .next s) → (∀ e s, wpAny c.M W.A («leaving» W.env e) (fun _ s => E e s) E s → E' e s) → XX W body [] Q' E' s) :
    codeAny c.M A (.call (.ref f) ⟨vals, []⟩) (CQ Q E) s :=
  callFc H R ho hcd hsc hn hcell hbind hloc fun L' env' s' V hf H' R1 f1 f2 => h ⟨A.deeper env', env', L', V, H'⟩ s' (fun fl s'' => Q (flowVal fl) s'') _ hf rfl R1 f1 f2 (fun _ _ q => q) (fun _ q => q) (fun _ _ q => q)
theorem callWv {A : Around} {L : Addr} {f : Addr} {n : Nat} {name qual : Str} {params : Arguments} {body : List Stmt} {scope : Scope} {dV kV doc pm cdv ct oc : Value} {an od : Option Addr} {osl : Array (Option Value)} {vals more : List Value} {lb : Addr → List (Nat × Value)} {Q : Value → Shared → Prop}
    (H : Ok (n + 1) A) (R : Rel c τ L l s) (ho : c.K.lookup f = some ⟨oc, od, .func (fnOf name qual params body scope dV kV doc pm an cdv ct), osl⟩) (hcd : codeIn c.K cdv qual = true)
    (hsc : scope.kind = .function ∧ scope.isGenerator = false ∧ scope.isCoroutine = false) (hn : scope.names = named nm ks) (hcell : noCell ks = true)
    (hbind : bindArgs (fnOf name qual params body scope dV kV doc pm an cdv ct) ⟨vals, []⟩ = (newTuple more >>= fun t => match t with | .ref a => pure (named nm (lb a)) | _ => unsupported "")) (hmore : more.length < 100000) (hloc : ∀ a, locOk ks ((lb a).map (·.1)) = true)
    (h : ∀ ta (W : Wk c ks [] n) s Q' E', W.env.frame = some W.L → W.A = A.deeper W.env → Rl W (upd (upd τ ta (.ob 0 { cls := .type "tuple", data := .seq more.toArray })) L (.fr l)) (lb ta) s → τ ta = none → ta ≠ L → τ W.L = none → W.L ≠ L → (∀ v s, Q v s → Q' (.ret v) s) → (∀ s, Q .none s → Q' .next s) → (∀ e s, wpAny c.M W.A («leaving» W.env e) (fun _ s => E e s) E s → E' e s) → XX W body [] Q' E' s) :
    codeAny c.M A (.call (.ref f) ⟨vals, []⟩) (CQ Q E) s :=
  callFv H R ho hcd hsc hn hcell hbind hmore hloc fun ta L' env' s' V hf H' R1 f1 f2 f3 f4 f5 => h ta ⟨A.deeper env', env', L', V, H'⟩ s' (fun fl s'' => Q (flowVal fl) s'') _ hf rfl R1 f1 f2 f3 f4 (fun _ _ q => q) (fun _ q => q) (fun _ _ q => q)
end
end Mine

set_option genSizeOfSpec false
set_option genInjectivity false
namespace Mine
set_option genCtorIdx false in
inductive Ex where
  | nm (i : Nat) (p : Pos)
  | int (k : Int) (m : Nat) (p : Pos)
  | non (m : Nat) (p : Pos)
  | bool (b : Bool) (m : Nat) (p : Pos)
  | bin (a : Ex) (op : Operator) (b : Ex) (p : Pos)
  | neg (a : Ex) (p : Pos)
  | not (a : Ex) (p : Pos)
  | cmp (a : Ex) (op : CmpOp) (b : Ex) (p : Pos)
  | and (a b : Ex) (p : Pos)
  | or (a b : Ex) (p : Pos)
  | sub (o x : Ex) (p : Pos)
  | slLo (o x : Ex) (p q : Pos)
  | slHi (o x : Ex) (p q : Pos)
  | attr (o : Ex) (i : Nat) (p : Pos)
  | call0 (i : Nat) (q p : Pos)
  | call1 (i : Nat) (q : Pos) (a : Ex) (p : Pos)
  | call2 (i : Nat) (q : Pos) (a b : Ex) (p : Pos)
  | call3 (i : Nat) (q : Pos) (a b d : Ex) (p : Pos)
  | meth0 (o : Ex) (i : Nat) (q p : Pos)
  | meth1 (o : Ex) (i : Nat) (q : Pos) (a : Ex) (p : Pos)
  | meth2 (o : Ex) (i : Nat) (q : Pos) (a b : Ex) (p : Pos)
  | list0 (p : Pos)
  | list1 (a : Ex) (p : Pos)
  | list2 (a b : Ex) (p : Pos)
  | list3 (a b d : Ex) (p : Pos)
  | slRev (o : Ex) (r : Expr) (p q : Pos)
  | lc (e : Expr) (g : List Comprehension) (s : Scope) (p : Pos)
  | js (es : List Expr) (p : Pos)
  | nx (t : Expr) (e : Ex) (p : Pos)
  | dct (k : List (Option Expr)) (v : List Expr) (p : Pos)
  | str (s : Str) (m : Nat) (p : Pos)
noncomputable def embE (nm : Nat → Str) : Ex → Expr
  | .nm i p => .Name (nm i) p
  | .int k m p => .Constant (.int k) m p
  | .non m p => .Constant .none m p
  | .bool b m p => .Constant (.bool b) m p
  | .bin a op b p => .BinOp (embE nm a) op (embE nm b) p
  | .neg a p => .UnaryOp .USub (embE nm a) p
  | .not a p => .UnaryOp .Not (embE nm a) p
  | .cmp a op b p => .Compare (embE nm a) [op] [embE nm b] p
  | .and a b p => .BoolOp .And [embE nm a, embE nm b] p
  | .or a b p => .BoolOp .Or [embE nm a, embE nm b] p
  | .sub o x p => .Subscript (embE nm o) (embE nm x) p
  | .slLo o x p q => .Subscript (embE nm o) (.Slice (some (embE nm x)) none none q) p
  | .slHi o x p q => .Subscript (embE nm o) (.Slice none (some (embE nm x)) none q) p
  | .attr o i p => .Attribute (embE nm o) (nm i) p
  | .call0 i q p => .Call (.Name (nm i) q) [] [] p
  | .call1 i q a p => .Call (.Name (nm i) q) [embE nm a] [] p
  | .call2 i q a b p => .Call (.Name (nm i) q) [embE nm a, embE nm b] [] p
  | .call3 i q a b d p => .Call (.Name (nm i) q) [embE nm a, embE nm b, embE nm d] [] p
  | .meth0 o i q p => .Call (.Attribute (embE nm o) (nm i) q) [] [] p
  | .meth1 o i q a p => .Call (.Attribute (embE nm o) (nm i) q) [embE nm a] [] p
  | .meth2 o i q a b p => .Call (.Attribute (embE nm o) (nm i) q) [embE nm a, embE nm b] [] p
  | .list0 p => .List [] p
  | .list1 a p => .List [embE nm a] p
  | .list2 a b p => .List [embE nm a, embE nm b] p
  | .list3 a b d p => .List [embE nm a, embE nm b, embE nm d] p
  | .slRev o r p q => .Subscript (embE nm o) (.Slice none none (some r) q) p
  | .lc e g s p => .ListComp e g s p
  | .js es p => .JoinedStr es p
  | .nx t e p => .NamedExpr t (embE nm e) p
  | .dct k v p => .Dict k v p
  | .str s m p => .Constant (.str s) m p
inductive SV where
  | val (v : Value)
  | num (k : Int)
@[reducible] noncomputable def SV.int? : SV → Option Int
  | .val (.int k _) => some k
  | .num k => some k
  | _ => none
noncomputable def SV.is : SV → Value → Prop
  | .val v, w => w = v
  | .num k, w => ∃ t, w = .int k t
@[reducible] noncomputable def SV.all : SV → (Value → Prop) → Prop
  | .val v, K => K v
  | .num k, K => ∀ t, K (.int k t)
theorem SV.all_is {x : SV} {K : Value → Prop} (h : x.all K) {v : Value} (e : x.is v) : K v := by
  cases x with
  | val w => cases e; exact h
  | num k => obtain ⟨t, rfl⟩ := e; exact h t
theorem SV.int_is {x : SV} {k : Int} (h : x.int? = some k) {v : Value} (e : x.is v) : ∃ t, v = .int k t := by
  cases x with
  | val w =>
    cases e
    cases v with
    | int j t => cases h; exact ⟨t, rfl⟩
    | _ => cases h
  | num j => cases h; exact e
theorem fine_star {nm : Nat → Str} {e : Ex} {es : List Expr} (env : Env) : starEach (embE nm e :: es) env = (false, eval (embE nm e) env) :: starEach es env := by
  cases e <;> rfl
section
variable {nm : Nat → Str} {prog : Program} {KK : Params → Frag} {gl bl : Nat → Option Value} {c : Cx nm prog KK gl bl}
variable {ks : List (Nat × NameKind)} {cs : List (Nat × Addr)} {n : Nat} {W : Wk c ks cs n} {τ τ' : Sto} {l l' : List (Nat × Value)} {s : Shared}
@[reducible] noncomputable def gB (b : Bool) (P : Prop) : Prop := match b with
  | true => P
  | false => False
theorem gB_ok {b : Bool} {P : Prop} (h : gB b P) : b = true ∧ P := by
  cases b with
  | true => exact ⟨rfl, h⟩
  | false => exact h.elim
theorem and2 {a b : Bool} (h : (a && b) = true) : a = true ∧ b = true := by cases a <;> cases b <;> first | exact ⟨rfl, rfl⟩ | cases h
theorem not2 {a : Bool} (h : (!a) = true) : a = false := by cases a <;> first | rfl | cases h
noncomputable def isLoc (ks : List (Nat × NameKind)) (i : Nat) : Bool := match ks.lookup i with
  | some .local => true
  | _ => false
theorem isLoc_ok {ks : List (Nat × NameKind)} {i : Nat} (h : isLoc ks i = true) : ks.lookup i = some .local := by
  unfold isLoc at h
  split at h
  · assumption
  · cases h
noncomputable def Op (W : Wk c ks cs n) (τ : Sto) (l : List (Nat × Value)) (m : Sem Value) (K : Value → Sto → Prop) : Prop := ∀ (s : Shared) (Q : Value → Shared → Prop) (E : Value → Shared → Prop), Rl W τ l s → (∀ v τ' s', K v τ' → Rl W τ' l s' → Q v s') → wpAny c.M W.A m Q E s
noncomputable def OpM (W : Wk c ks cs n) (τ : Sto) (l : List (Nat × Value)) (o : Value) (name : Str) (K : Value → Prop) : Prop := ∀ (pl : Sem Bool) (s : Shared) (Q : Value × List Value → Shared → Prop) (E : Value → Shared → Prop), Rl W τ l s → (∀ f s', K f → Rl W τ l s' → Q (f, [o]) s') → wpAny c.M W.A (getMethod o name pl) Q E s
noncomputable def FOk (c : Cx nm prog KK gl bl) (f : Value) : Prop := match f with
  | .ref a => keepIn c.K (.ref a) = true
  | .builtin id => True
  | .type T => True
  | _ => False
noncomputable def noC : Ex → Bool
  | .call0 .. => false
  | _ => true
noncomputable def arithI (a b : Int) (op : Operator) (K : SV → Prop) : Prop := match op with
  | .Add => K (.num (a + b))
  | .Sub => K (.num (a - b))
  | .Mult => IntMulOk a b ∧ K (.num (a * b))
  | .RShift => 0 ≤ b ∧ K (.num (a.fdiv (2 ^ b.toNat)))
  | .Mod => b ≠ 0 ∧ K (.num (a.fmod b))
  | .FloorDiv => (b ≠ 0 ∧ b.natAbs < 1073741824) ∧ K (.num (a.fdiv b))
  | _ => False
noncomputable def arith (x y : SV) (op : Operator) (K : SV → Prop) : Prop := match x.int?, y.int? with
  | some a, some b => arithI a b op K
  | _, _ => False
@[reducible] noncomputable def nameE (ks : List (Nat × NameKind)) (gl bl : Nat → Option Value) (l : List (Nat × Value)) (i : Nat) (K : Value → Prop) : Prop := match ks.lookup i with
  | some .local => (match l.lookup i with | some v => K v | none => False)
  | some .globalImplicit => (match gl i with
    | some v => K v
    | none => match bl i with | some v => K v | none => False)
  | _ => False
noncomputable def binK (W : Wk c ks cs n) (l : List (Nat × Value)) (op : Operator) (x y : SV) (τ : Sto) (K : SV → Sto → Prop) : Prop := match x.int?, y.int? with
  | some _, some _ => arith x y op fun r => K r τ
  | _, _ => x.all fun xv => y.all fun yv => Op W τ l (binaryOp op xv yv) fun v τ => K (.val v) τ
noncomputable def negK (x : SV) (K : SV → Prop) : Prop := match x.int? with
  | some k => K (.num (-k))
  | none => False
noncomputable def slcK (W : Wk c ks cs n) (ov xv : SV) (τ : Sto) (f : Array Value → Int → Array Value) (K : SV → Sto → Prop) : Prop := match ov, xv.int? with
  | .val (.ref a), some k => ∃ t vs, τ a = some (.ls t vs) ∧ vs.length < 100000 ∧ ∀ b, τ b = none → b ≠ W.L → K (.val (.ref b)) (upd τ b (.ls 0 (f vs.toArray k).toList))
  | _, _ => False
noncomputable def cmpI' (op : CmpOp) (i j : Int) : Option Bool := match op with
  | .Lt => some (decide (i < j))
  | .Gt => some (decide (i > j))
  | .GtE => some (decide (i ≥ j))
  | .Eq => some (i == j)
  | .NotEq => some (i != j)
  | _ => none
noncomputable def cmpO (W : Wk c ks cs n) (l : List (Nat × Value)) (op : CmpOp) (x y : SV) (τ : Sto) (K : Bool → Sto → Prop) : Prop := x.all fun xv => y.all fun yv => Op W τ l (compareOp op xv yv) fun v τ => ∃ b, v = .bool b ∧ K b τ
noncomputable def cmpK (W : Wk c ks cs n) (l : List (Nat × Value)) (op : CmpOp) (x y : SV) (τ : Sto) (K : Bool → Sto → Prop) : Prop := match x.int? with
  | some i => (match y.int? with
    | some j => (match cmpI' op i j with
      | some b => K b τ
      | none => False)
    | none => cmpO W l op x y τ K)
  | none => cmpO W l op x y τ K
noncomputable def isnK (op : CmpOp) (x : SV) (K : Bool → Prop) : Prop := match op with
  | .Is => x.all fun v => K (v == .none)
  | .IsNot => x.all fun v => K (!(v == .none))
  | _ => False
noncomputable def isNon : Ex → Bool
  | .non .. => true
  | _ => false
noncomputable def trK (v : Value) (τ : Sto) (K : Bool → Prop) : Prop := match v with
  | .bool b => K b
  | .ref a => ∃ t vs, τ a = some (.ls t vs) ∧ vs.length < 100000 ∧ K (!vs.isEmpty)
  | _ => False
@[reducible] noncomputable def vcE (W : Wk c ks cs n) (l : List (Nat × Value)) : Ex → Sto → (SV → Sto → Prop) → Prop
  | .nm i _, τ, K => nameE ks gl bl l i fun v => K (.val v) τ
  | .int k _ _, τ, K => K (.num k) τ
  | .non _ _, τ, K => K (.val .none) τ
  | .bool b _ _, τ, K => K (.val (.bool b)) τ
  | .bin a op b _, τ, K => vcE W l a τ fun x τ => vcE W l b τ fun y τ => binK W l op x y τ K
  | .neg a _, τ, K => vcE W l a τ fun x τ => negK x fun r => K r τ
  | .cmp a op b _, τ, K => gB (!behindInMarks op (embE nm b)) <| vcE W l a τ fun x τ => vcE W l b τ fun y τ => x.all fun xv => y.all fun yv => Op W τ l (compareOp op xv yv) fun v τ => K (.val v) τ
  | .sub o x _, τ, K => vcE W l o τ fun ov τ => vcE W l x τ fun xv τ => ov.all fun ov => xv.all fun xv => Op W τ l (subscriptTail (embE nm o) (embE nm x) ov xv) fun v τ => K (.val v) τ
  | .attr o i _, τ, K => gB (noC o) <| vcE W l o τ fun ov τ => ov.all fun ov => Op W τ l (getAttr ov (nm i) true) fun v τ => K (.val v) τ
  | .call0 i _ _, τ, K => nameE ks gl bl l i fun fv => FOk c fv ∧ Op W τ l (call fv []) fun v τ => K (.val v) τ
  | .call1 i _ a _, τ, K => nameE ks gl bl l i fun fv => FOk c fv ∧ vcE W l a τ fun x τ => x.all fun x => Op W τ l (call fv [x]) fun v τ => K (.val v) τ
  | .call2 i _ a b _, τ, K => nameE ks gl bl l i fun fv => FOk c fv ∧ vcE W l a τ fun x τ => vcE W l b τ fun y τ => x.all fun x => y.all fun y => Op W τ l (call fv [x, y]) fun v τ => K (.val v) τ
  | .call3 i _ a b d _, τ, K => nameE ks gl bl l i fun fv => FOk c fv ∧ vcE W l a τ fun x τ => vcE W l b τ fun y τ => vcE W l d τ fun z τ => x.all fun x => y.all fun y => z.all fun z => Op W τ l (call fv [x, y, z]) fun v τ => K (.val v) τ
  | .meth0 o i q p, τ, K => gB (noC o && (q.endLine == p.line)) <| vcE W l o τ fun ov τ => ov.all fun ov => OpM W τ l ov (nm i) fun f => FOk c f ∧ Op W τ l (call f [ov]) fun v τ => K (.val v) τ
  | .meth1 o i q a p, τ, K => gB (noC o && (q.endLine == p.line)) <| vcE W l o τ fun ov τ => ov.all fun ov => OpM W τ l ov (nm i) fun f => FOk c f ∧ vcE W l a τ fun x τ => x.all fun x => Op W τ l (call f [ov, x]) fun v τ => K (.val v) τ
  | .meth2 o i q a b p, τ, K => gB (noC o && (q.endLine == p.line)) <| vcE W l o τ fun ov τ => ov.all fun ov => OpM W τ l ov (nm i) fun f => FOk c f ∧ vcE W l a τ fun x τ => vcE W l b τ fun y τ => x.all fun x => y.all fun y => Op W τ l (call f [ov, x, y]) fun v τ => K (.val v) τ
  | .list0 _, τ, K => ∀ a, τ a = none → a ≠ W.L → K (.val (.ref a)) (upd τ a (.ls 1 []))
  | .list1 a _, τ, K => vcE W l a τ fun x τ => x.all fun x => ∀ a, τ a = none → a ≠ W.L → K (.val (.ref a)) (upd τ a (.ls 0 [x]))
  | .list2 a b _, τ, K => vcE W l a τ fun x τ => vcE W l b τ fun y τ => x.all fun x => y.all fun y => ∀ a, τ a = none → a ≠ W.L → K (.val (.ref a)) (upd τ a (.ls 0 [x, y]))
  | .list3 a b d _, τ, K => vcE W l a τ fun x τ => vcE W l b τ fun y τ => vcE W l d τ fun z τ => x.all fun x => y.all fun y => z.all fun z => ∀ a, τ a = none → a ≠ W.L → K (.val (.ref a)) (upd τ a (.ls 0 [x, y, z]))
  | .slLo o x _ _, τ, K => vcE W l o τ fun ov τ => vcE W l x τ fun xv τ => slcK W ov xv τ (fun vs k => slicePick vs (some k) none none) K
  | .slHi o x _ _, τ, K => vcE W l o τ fun ov τ => vcE W l x τ fun xv τ => slcK W ov xv τ (fun vs k => slicePick vs none (some k) none) K
  | .lc e g sc p, τ, K => Op W τ l (eval (.ListComp e g sc p) W.env) fun v τ => K (.val v) τ
  | .dct e g p, τ, K => Op W τ l (eval (.Dict e g p) W.env) fun v τ => K (.val v) τ
  | .slRev o r p q, τ, K => Op W τ l (eval (.Subscript (embE nm o) (.Slice none none (some r) q) p) W.env) fun v τ => K (.val v) τ
  | _, _, _ => False
@[reducible] noncomputable def vcT (W : Wk c ks cs n) (l : List (Nat × Value)) : Ex → Sto → (Bool → Sto → Prop) → Prop
  | .not a _, τ, K => vcT W l a τ fun b τ => K (!b) τ
  | .and a b _, τ, K => vcT W l a τ fun x τ => (x = true → vcT W l b τ K) ∧ (x = false → K false τ)
  | .or a b _, τ, K => vcT W l a τ fun x τ => (x = false → vcT W l b τ K) ∧ (x = true → K true τ)
  | .cmp a op b _, τ, K => gB (!behindInMarks op (embE nm b)) <| vcE W l a τ fun x τ => match isNon b with
    | true => isnK op x fun b => K b τ
    | false => vcE W l b τ fun y τ => cmpK W l op x y τ K
  | .nm i _, τ, K => nameE ks gl bl l i fun v => trK v τ fun b => K b τ
  | .bool b _ _, τ, K => K b τ
  | _, _, _ => False
theorem nameE_ok {i : Nat} {K : Value → Prop} {p : Pos} {Q : Value → Shared → Prop} {E : Value → Shared → Prop} (h : nameE ks gl bl l i K) (R : Rl W τ l s) (q : ∀ v, K v → Q v s) : wpAny c.M W.A (eval (.Name (nm i) p) W.env) Q E s := by
  unfold nameE at h
  split at h
  · rename_i hk
    split at h
    · rename_i v hv
      exact ldL W.V R hk hv (q v h)
    · exact h.elim
  · rename_i hk
    split at h
    · rename_i v hv
      exact ldG W.V R hk hv (q v h)
    · split at h
      · rename_i v hv
        exact ldB W.V R hk hv (q v h)
      · exact h.elim
  · exact h.elim
theorem arith_ok {x y : SV} {op : Operator} {K : SV → Prop} {a b : Value} {Q : Value → Shared → Prop} {E : Value → Shared → Prop} (h : arith x y op K) (ha : x.is a) (hb : y.is b) (R : Rl W τ l s) (q : ∀ r v s, r.is v → K r → Rl W τ l s → Q v s) : wpAny c.M W.A (binaryOp op a b) Q E s := by
  unfold arith at h
  cases h1 : x.int? with
  | none => rw [h1] at h; exact h.elim
  | some i => cases h2 : y.int? with
    | none => rw [h1, h2] at h; exact h.elim
    | some j =>
      rw [h1, h2] at h
      refine gate ?_
      intro Gg kg
      obtain ⟨t, rfl⟩ := SV.int_is h1 ha
      obtain ⟨u, rfl⟩ := SV.int_is h2 hb
      refine kg ?_
      clear kg Gg
      have q : ∀ k t s, K (.num k) → Rl W τ l s → Q (.int k t) s := fun k t s z R => q (.num k) _ s ⟨t, rfl⟩ z R
      cases op with
      | Add => exact xAdd R fun t s R => q _ t s h R
      | Sub => exact xSub R fun t s R => q _ t s h R
      | Mult => exact xMul R h.1 fun t s R => q _ t s h.2 R
      | RShift => exact xShr R h.1 fun t s R => q _ t s h.2 R
      | Mod => exact xMod R h.1 fun t s R => q _ t s h.2 R
      | FloorDiv => exact xDiv R h.1.1 h.1.2 fun t s R => q _ t s h.2 R
      | _ => exact h.elim
theorem call0_ok {p : Pos} {f : Value} {first : List Value} {Q : Value → Shared → Prop} {E : Value → Shared → Prop} (hf : FOk c f) (R : Rl W τ l s) (h : wpAny c.M W.A (call f first) Q E s) : wpAny c.M W.A (callWith p f first (backTo p (starEach [] W.env)) []) Q E s := by
  rw [← List.append_nil first] at h
  cases f with
  | ref a => exact cwF0 R hf h
  | builtin id => exact cwB0 h
  | type T => exact cwT0 h
  | _ => exact hf.elim
theorem callN_ok {p : Pos} {f : Value} {e : Expr} {es : List Expr} {first : List Value} {Q : Value → Shared → Prop} {E : Value → Shared → Prop} (hf : FOk c f) (he : ∀ env, starEach (e :: es) env = (false, eval e env) :: starEach es env) (ha : ∀ env, (backTo p (starEach es env)).any (·.1) = false)
    (h : wpAny c.M W.A (spliced (backTo p (starEach (e :: es) W.env))) (fun vs s => (∃ τ L l, Rel c τ L l s) ∧ wpAny c.M W.A (call f (first ++ vs)) Q E s) E s) :
    wpAny c.M W.A (callWith p f first (backTo p (starEach (e :: es) W.env)) []) Q E s := by
  cases f with
  | ref a => exact cwF hf h (he _) (ha _)
  | builtin id => exact cwB (wpAny_mono h (fun _ _ z => z.2) fun _ _ e => e) (he _) (by rw [he]; exact ha _)
  | type T => exact cwT (wpAny_mono h (fun _ _ z => z.2) fun _ _ e => e) (he _) (by rw [he]; exact ha _)
  | _ => exact hf.elim
theorem base_ok {o : Ex} (h : noC o = true) (x : Str) (env : Env) (m : Sem Value) : attributeBase (embE nm o) x env m = m := by
  cases o <;> first | rfl | cases h
theorem meth_ok {o : Ex} {i : Nat} {q p : Pos} {args : List Expr} (h : noC o = true) (hl : (q.endLine == p.line) = true) (ha : methodCallForm args.length (backTo p (starEach args W.env)) [] = true) :
    eval (.Call (.Attribute (embE nm o) (nm i) q) args [] p) W.env = (do
      let ov ← eval (embE nm o) W.env
      standAt q.atName
      let (f, first) ← holding [ov] (getMethod ov (nm i) (do return (← importBound (embE nm o) W.env).getD true))
      callWith p f first (backTo p (starEach args W.env)) (backToKw p (keywordEach [] W.env))) := by
  have e0 : eval (.Call (.Attribute (embE nm o) (nm i) q) args [] p) W.env = (do
    let ov ← attributeBase (embE nm o) (nm i) W.env (eval (embE nm o) W.env)
    standAt q.atName
    methodCall (embE nm o) (nm i) q p W.env ov (args.length + 0) (backTo p (starEach args W.env)) (backToKw p (keywordEach [] W.env))) := by
      exact arm_eval_Call _ _ _ _ _ _ _
  have e1 : backToKw p (keywordEach [] W.env) = [] := rfl
  have e2 : ∀ ov, methodCall (embE nm o) (nm i) q p W.env ov (args.length + 0) (backTo p (starEach args W.env)) (backToKw p (keywordEach [] W.env)) = (do
      let (f, first) ← holding [ov] (getMethod ov (nm i) (do return (← importBound (embE nm o) W.env).getD true))
      callWith p f first (backTo p (starEach args W.env)) (backToKw p (keywordEach [] W.env))) := fun ov => by
    unfold methodCall calleeOf methodCallPos
    rw [e1, Nat.add_zero, ha]
    simp only [hl, Bool.not_true, Bool.false_or, if_true]
    rfl
  rw [e0, base_ok h]
  simp only [e2]
theorem binK_ok {op : Operator} {x y : SV} {K : SV → Sto → Prop} {a b : Value} {Q : Value → Shared → Prop} {E : Value → Shared → Prop} (h : binK W l op x y τ K) (ha : x.is a) (hb : y.is b) (R : Rl W τ l s) (q : ∀ x v τ' s', x.is v → K x τ' → Rl W τ' l s' → Q v s') : wpAny c.M W.A (binaryOp op a b) Q E s := by
  have go : (x.all fun xv => y.all fun yv => Op W τ l (binaryOp op xv yv) fun v τ => K (.val v) τ) → wpAny c.M W.A (binaryOp op a b) Q E s := fun h => (SV.all_is (SV.all_is h ha) hb) s Q E R fun v τ' s k R => q (.val v) v τ' s rfl k R
  unfold binK at h
  cases h1 : x.int? with
  | none => rw [h1] at h; exact go h
  | some i => cases h2 : y.int? with
    | none => rw [h1, h2] at h; exact go h
    | some j =>
      rw [h1, h2] at h
      exact arith_ok h ha hb R fun r v s hr k R => q r v τ s hr k R
theorem negK_ok {x : SV} {K : SV → Prop} {a : Value} {Q : Value → Shared → Prop} {E : Value → Shared → Prop} (h : negK x K) (ha : x.is a) (R : Rl W τ l s) (q : ∀ r v s, r.is v → K r → Rl W τ l s → Q v s) : wpAny c.M W.A (unaryOp .USub a) Q E s := by
  unfold negK at h
  split at h
  · rename_i k hk
    obtain ⟨t, rfl⟩ := SV.int_is hk ha
    exact xNeg R fun t s R => q (.num _) _ s ⟨t, rfl⟩ h R
  · exact h.elim
theorem slcK_ok {x y : SV} {K : SV → Sto → Prop} {a b vl vu : Value} {lo hi : Int → Option Int} {Q : Value → Shared → Prop} (h : slcK W x y τ (fun vs k => slicePick vs (lo k) (hi k) none) K) (ha : x.is a) (hb : y.is b) (R : Rl W τ l s) (h1 : ∀ {k t}, b = .int k t → IsPart vl (lo k)) (h2 : ∀ {k t}, b = .int k t → IsPart vu (hi k)) (q : ∀ x v τ' s', x.is v → K x τ' → Rl W τ' l s' → Q v s') :
    ∃ τ l d t vs lo hi st, a = .ref d ∧ Rel c τ W.L l s ∧ τ d = some (.ls t vs) ∧ vs.length < 100000 ∧ IsPart vl lo ∧ IsPart vu hi ∧ IsPart .none st ∧ st ≠ some 0 ∧ ∀ b s', τ b = none → b ≠ W.L → Rel c (upd τ b (.ls 0 (slicePick vs.toArray lo hi st).toList)) W.L l s' → Q (.ref b) s' := by
  unfold slcK at h
  cases hk : y.int? with
  | none =>
    rw [hk] at h
    cases x with
    | num k => exact h.elim
    | val v => cases v <;> exact h.elim
  | some k =>
    rw [hk] at h
    obtain ⟨u, rfl⟩ := SV.int_is hk hb
    cases x with
    | num k => exact h.elim
    | val v => cases v with
      | ref d =>
        refine gate ?_
        intro Gg kg
        obtain ⟨t, vs, g1, g2, g3⟩ := h
        refine kg ?_
        clear kg Gg
        exact ⟨τ, l, _, t, vs, _, _, _, ha, R, g1, g2, h1 rfl, h2 rfl, .none, nofun, fun b s n1 n2 R => q (.val _) _ _ s rfl (g3 b n1 n2) R⟩
      | _ => exact h.elim
theorem cmpO_ok {op : CmpOp} {x y : SV} {K : Bool → Sto → Prop} {a b : Value} {Q : Bool → Shared → Prop} {E : Value → Shared → Prop} (f : cmpO W l op x y τ K) (hx : x.is a) (hy : y.is b) (R : Rl W τ l s) (q : ∀ b τ' s', K b τ' → Rl W τ' l s' → Q b s') : wpAny c.M W.A (compareOp op a b) (fun v s => wpAny c.M W.A (truthy v) Q E s) E s :=
  (SV.all_is (SV.all_is f hx) hy) s _ E R fun v τ s ⟨b, hb, k⟩ R => hb ▸ wpAny_truthy_bool (q _ τ s k R)
theorem cmpK_ok {op : CmpOp} {x y : SV} {K : Bool → Sto → Prop} {a b : Value} {Q : Bool → Shared → Prop} {E : Value → Shared → Prop} (f : cmpK W l op x y τ K) (hx : x.is a) (hy : y.is b) (R : Rl W τ l s) (q : ∀ b τ' s', K b τ' → Rl W τ' l s' → Q b s') : wpAny c.M W.A (compareOp op a b) (fun v s => wpAny c.M W.A (truthy v) Q E s) E s := by
  unfold cmpK at f
  cases h1 : x.int? with
  | none => rw [h1] at f; exact cmpO_ok f hx hy R q
  | some i =>
    rw [h1] at f
    cases h2 : y.int? with
    | none => rw [h2] at f; exact cmpO_ok f hx hy R q
    | some j =>
      rw [h2] at f
      refine gate ?_
      intro Gg kg
      obtain ⟨t, rfl⟩ := SV.int_is h1 hx
      obtain ⟨u, rfl⟩ := SV.int_is h2 hy
      refine kg ?_
      clear kg Gg
      have f' : ∀ r, cmpI' op i j = some r → Q r s := fun r e => by dsimp only at f; rw [e] at f; exact q _ τ s f R
      have g : cmpI' op i j = none → False := fun e => by dsimp only at f; rw [e] at f; exact f
      clear f
      cases op with
      | Lt => exact PyProof.Rows.lt_int (wpAny_truthy_bool (f' _ rfl))
      | Gt => exact PyProof.Rows.gt_int (wpAny_truthy_bool (f' _ rfl))
      | GtE => exact PyProof.Rows.ge_int (wpAny_truthy_bool (f' _ rfl))
      | Eq => exact PyProof.Rows.eq_int (wpAny_truthy_bool (f' _ rfl))
      | NotEq => exact PyProof.Rows.ne_int (wpAny_truthy_bool (f' _ rfl))
      | _ => exact (g rfl).elim
theorem isnK_ok {op : CmpOp} {x : SV} {K : Bool → Prop} {a : Value} {Q : Bool → Shared → Prop} {E : Value → Shared → Prop} (f : isnK op x K) (hx : x.is a) (q : ∀ b, K b → Q b s) : wpAny c.M W.A (compareOp op a .none) (fun v s => wpAny c.M W.A (truthy v) Q E s) E s := by
  cases op with
  | Is => exact is_none_gen (wpAny_truthy_bool (q _ (SV.all_is f hx)))
  | IsNot => exact isnot_none_gen (wpAny_truthy_bool (q _ (SV.all_is f hx)))
  | _ => exact f.elim
theorem isNon_ok {b : Ex} (h : isNon b = true) : ∃ m p, b = .non m p := by
  cases b with
  | non m p => exact ⟨m, p, rfl⟩
  | _ => cases h
theorem trK_ok {v : Value} {K : Bool → Prop} {Q : Bool → Shared → Prop} {E : Value → Shared → Prop} (h : trK v τ K) (R : Rl W τ l s) (q : ∀ b s, K b → Rl W τ l s → Q b s) : wpAny c.M W.A (truthy v) Q E s := by
  cases v with
  | bool b => exact wpAny_truthy_bool (q _ s h R)
  | ref a =>
    refine gate ?_
    intro Gg kg
    obtain ⟨t, vs, h1, h2, h3⟩ := h
    refine kg ?_
    clear kg Gg
    exact tList R h1 h2 fun s R => q _ s h3 R
  | _ => exact h.elim
theorem vcE_ok : ∀ (e : Ex) (τ : Sto) (K : SV → Sto → Prop) (s : Shared) (Q : Value → Shared → Prop) (E : Value → Shared → Prop), vcE W l e τ K → Rl W τ l s → (∀ x v τ' s', x.is v → K x τ' → Rl W τ' l s' → Q v s') → wpAny c.M W.A (eval (embE nm e) W.env) Q E s
  | .nm i p, τ, K, s, Q, E, h, R, q => nameE_ok h R fun v k => q (.val v) v τ s rfl k R
  | .int k m p, τ, K, s, Q, E, h, R, q => xInt R fun t s R => q (.num k) _ τ s ⟨t, rfl⟩ h R
  | .non m p, τ, K, s, Q, E, h, R, q => wpAny_Constant_none (q (.val .none) _ τ s rfl h R)
  | .bool b m p, τ, K, s, Q, E, h, R, q => wpAny_Constant_bool (q (.val (.bool b)) _ τ s rfl h R)
  | .bin a op b p, τ, K, s, Q, E, h, R, q => by
    replace h : _ := h
    refine wpAny_BinOp (vcE_ok a τ _ s _ E h R fun x xv τ s hx h R => vcE_ok b τ _ s _ E h R fun y yv τ s hy h R => ?_)
    exact binK_ok h hx hy R q
  | .neg a p, τ, K, s, Q, E, h, R, q => by
    replace h : _ := h
    refine UnaryOp_ (vcE_ok a τ _ s _ E h R fun x xv τ s hx h R => ?_)
    exact negK_ok h hx R fun r v s hr k R => q r v τ s hr k R
  | .cmp a op b p, τ, K, s, Q, E, h, R, q => by
    replace h := gB_ok h
    have h : _ ∧ _ := ⟨not2 h.1, h.2⟩
    exact wpAny_Compare1 (vcE_ok a τ _ s _ E h.2 R fun x xv τ s hx h R => vcE_ok b τ _ s _ E h R fun y yv τ s hy h R =>
      (SV.all_is (SV.all_is h hx) hy) s Q E R fun v τ' s k R => q (.val v) v τ' s rfl k R) h.1
  | .sub o x p, τ, K, s, Q, E, h, R, q => by
    replace h : _ := h
    exact Subscript_ (vcE_ok o τ _ s _ E h R fun z xv τ s hx h R => vcE_ok x τ _ s _ E h R fun y yv τ s hy h R =>
      (SV.all_is (SV.all_is h hx) hy) s Q E R fun v τ' s k R => q (.val v) v τ' s rfl k R)
  | .attr o i p, τ, K, s, Q, E, h, R, q => by
    replace h := gB_ok h
    refine Attribute_any_ (vcE_ok o τ _ s _ E h.2 R fun x xv τ s hx h R => (SV.all_is h hx) s Q E R fun v τ' s k R => q (.val v) v τ' s rfl k R) ?_
    show (do let o' ← attributeBase (embE nm o) (nm i) W.env (eval (embE nm o) W.env); _) = _
    rw [base_ok h.1]
  | .call0 i q' p, τ, K, s, Q, E, h, R, q =>
    Call_ (nameE_ok h R fun fv h => call0_ok h.1 R (h.2 s Q E R fun v τ' s k R => q (.val v) v τ' s rfl k R)) rfl
  | .call1 i q' a p, τ, K, s, Q, E, h, R, q =>
    Call_ (nameE_ok h R fun fv h => callN_ok h.1 fine_star (fun _ => rfl) (args_cons (vcE_ok a τ _ s _ E h.2 R fun x xv τ s hx h R => args_nil ⟨⟨_, _, _, R⟩, (SV.all_is h hx) s Q E R fun v τ' s k R => q (.val v) v τ' s rfl k R⟩) (fine_star _))) rfl
  | .call2 i q' a b p, τ, K, s, Q, E, h, R, q =>
    Call_ (nameE_ok h R fun fv h => callN_ok h.1 fine_star (fun env => by rw [fine_star]; rfl) (args_cons (vcE_ok a τ _ s _ E h.2 R fun x xv τ s hx h R => args_cons (vcE_ok b τ _ s _ E h R fun y yv τ s hy h R => args_nil ⟨⟨_, _, _, R⟩, (SV.all_is (SV.all_is h hx) hy) s Q E R fun v τ' s k R => q (.val v) v τ' s rfl k R⟩) (fine_star _)) (fine_star _))) rfl
  | .call3 i q' a b d p, τ, K, s, Q, E, h, R, q =>
    Call_ (nameE_ok h R fun fv h => callN_ok h.1 fine_star (fun env => by rw [fine_star, fine_star]; rfl) (args_cons (vcE_ok a τ _ s _ E h.2 R fun x xv τ s hx h R => args_cons (vcE_ok b τ _ s _ E h R fun y yv τ s hy h R => args_cons (vcE_ok d τ _ s _ E h R fun z zv τ s hz h R => args_nil ⟨⟨_, _, _, R⟩, (SV.all_is (SV.all_is (SV.all_is h hx) hy) hz) s Q E R fun v τ' s k R => q (.val v) v τ' s rfl k R⟩) (fine_star _)) (fine_star _)) (fine_star _))) rfl
  | .meth0 o i p' p, τ, K, s, Q, E, h, R, q => by
    replace h := gB_ok h
    have h : (_ ∧ _) ∧ _ := ⟨and2 h.1, h.2⟩
    refine cmM (vcE_ok o τ _ s _ E h.2 R fun x xv τ s hx h R => (SV.all_is h hx) _ s _ E R fun f s h R => ?_) (meth_ok h.1.1 h.1.2 rfl)
    exact call0_ok h.1 R (h.2 s Q E R fun v τ' s k R => q (.val v) v τ' s rfl k R)
  | .meth1 o i p' a p, τ, K, s, Q, E, h, R, q => by
    replace h := gB_ok h
    have h : (_ ∧ _) ∧ _ := ⟨and2 h.1, h.2⟩
    exact cmM (vcE_ok o τ _ s _ E h.2 R fun x xv τ s hx h R => (SV.all_is h hx) _ s _ E R fun f s h R => callN_ok h.1 fine_star (fun _ => rfl) (args_cons (vcE_ok a τ _ s _ E h.2 R fun y yv τ s hy h R => args_nil ⟨⟨_, _, _, R⟩, (SV.all_is h hy) s Q E R fun v τ' s k R => q (.val v) v τ' s rfl k R⟩) (fine_star _))) (meth_ok h.1.1 h.1.2 (by rw [fine_star]; rfl))
  | .meth2 o i p' a b p, τ, K, s, Q, E, h, R, q => by
    replace h := gB_ok h
    have h : (_ ∧ _) ∧ _ := ⟨and2 h.1, h.2⟩
    exact cmM (vcE_ok o τ _ s _ E h.2 R fun x xv τ s hx h R => (SV.all_is h hx) _ s _ E R fun f s h R => callN_ok h.1 fine_star (fun _ => by rw [fine_star]; rfl) (args_cons (vcE_ok a τ _ s _ E h.2 R fun y yv τ s hy h R => args_cons (vcE_ok b τ _ s _ E h R fun z zv τ s hz h R => args_nil ⟨⟨_, _, _, R⟩, (SV.all_is (SV.all_is h hy) hz) s Q E R fun v τ' s k R => q (.val v) v τ' s rfl k R⟩) (fine_star _)) (fine_star _))) (meth_ok h.1.1 h.1.2 (by rw [fine_star, fine_star]; rfl))
  | .list0 p, τ, K, s, Q, E, h, R, q => xList (args_nil (nList 1 R (by decide) fun a s n1 n2 R => q (.val _) _ _ s rfl (h a n1 n2) R))
  | .list1 a p, τ, K, s, Q, E, h, R, q => xList (args_cons (vcE_ok a τ _ s _ E h R fun x xv τ s hx h R => args_nil (nList 0 R (by simp) fun a s n1 n2 R => q (.val _) _ _ s rfl (SV.all_is h hx a n1 n2) R)) (fine_star _))
  | .list2 a b p, τ, K, s, Q, E, h, R, q => xList (args_cons (vcE_ok a τ _ s _ E h R fun x xv τ s hx h R => args_cons (vcE_ok b τ _ s _ E h R fun y yv τ s hy h R => args_nil (nList 0 R (by simp) fun a s n1 n2 R => q (.val _) _ _ s rfl (SV.all_is (SV.all_is h hx) hy a n1 n2) R)) (fine_star _)) (fine_star _))
  | .list3 a b d p, τ, K, s, Q, E, h, R, q => xList (args_cons (vcE_ok a τ _ s _ E h R fun x xv τ s hx h R => args_cons (vcE_ok b τ _ s _ E h R fun y yv τ s hy h R => args_cons (vcE_ok d τ _ s _ E h R fun z zv τ s hz h R => args_nil (nList 0 R (by simp) fun a s n1 n2 R => q (.val _) _ _ s rfl (SV.all_is (SV.all_is (SV.all_is h hx) hy) hz a n1 n2) R)) (fine_star _)) (fine_star _)) (fine_star _))
  | .slLo o x p p', τ, K, s, Q, E, h, R, q => by
    replace h : _ := h
    refine xSlice W.V (vcE_ok o τ _ s _ E h R fun z xv τ s hx g R => wpAny_evalPart_some (vcE_ok x τ _ s _ E g R fun y yv τ s hy f R => wpAny_evalPart_none (wpAny_evalPart_none ?_)))
    exact slcK_ok f hx hy R (fun e => e ▸ .int _ _) (fun _ => .none) q
  | .slHi o x p p', τ, K, s, Q, E, h, R, q => by
    replace h : _ := h
    refine xSlice W.V (vcE_ok o τ _ s _ E h R fun z xv τ s hx g R => wpAny_evalPart_none (wpAny_evalPart_some (vcE_ok x τ _ s _ E g R fun y yv τ s hy f R => wpAny_evalPart_none ?_)))
    exact slcK_ok f hx hy R (fun _ => .none) (fun e => e ▸ .int _ _) q
  | .lc e g sc p, τ, K, s, Q, E, h, R, q => h s Q E R fun v τ' s k R => q (.val v) v τ' s rfl k R
  | .dct e g p, τ, K, s, Q, E, h, R, q => h s Q E R fun v τ' s k R => q (.val v) v τ' s rfl k R
  | .slRev o r p p', τ, K, s, Q, E, h, R, q => h s Q E R fun v τ' s k R => q (.val v) v τ' s rfl k R
  | .not .., _, _, _, _, _, h, _, _ => h.elim
  | .and .., _, _, _, _, _, h, _, _ => h.elim
  | .or .., _, _, _, _, _, h, _, _ => h.elim
  | .js .., _, _, _, _, _, h, _, _ => h.elim
  | .nx .., _, _, _, _, _, h, _, _ => h.elim
  | .str .., _, _, _, _, _, h, _, _ => h.elim
theorem vcT_ok : ∀ (e : Ex) (τ : Sto) (K : Bool → Sto → Prop) (s : Shared) (Q : Bool → Shared → Prop) (E : Value → Shared → Prop), vcT W l e τ K → Rl W τ l s → (∀ b τ' s', K b τ' → Rl W τ' l s' → Q b s') → wpAny c.M W.A (isTrue (embE nm e) W.env (eval (embE nm e) W.env)) Q E s
  | .not a p, τ, K, s, Q, E, h, R, q => wpAny_isTrue_Not (vcT_ok a τ _ s _ E h R fun b τ s h R => q _ τ s h R)
  | .and a b p, τ, K, s, Q, E, h, R, q => wpAny_isTrue_BoolOp (wpAny_allTrue_And_cons (vcT_ok a τ _ s _ E h R fun x τ s h R => by
    cases x with
    | false => exact q _ τ s (h.2 rfl) R
    | true => exact wpAny_allTrue_And_cons (vcT_ok b τ _ s _ E (h.1 rfl) R fun y τ s h R => by
        cases y with
        | false => exact q _ τ s h R
        | true => exact wpAny_allTrue_And_nil (q _ τ s h R))))
  | .or a b p, τ, K, s, Q, E, h, R, q => wpAny_isTrue_BoolOp (wpAny_allTrue_Or_cons (vcT_ok a τ _ s _ E h R fun x τ s h R => by
    cases x with
    | true => exact q _ τ s (h.2 rfl) R
    | false => exact wpAny_allTrue_Or_cons (vcT_ok b τ _ s _ E (h.1 rfl) R fun y τ s h R => by
        cases y with
        | true => exact q _ τ s h R
        | false => exact wpAny_allTrue_Or_nil (q _ τ s h R))))
  | .cmp a op b p, τ, K, s, Q, E, h, R, q => by
    replace h := gB_ok h
    have h : _ ∧ _ := ⟨not2 h.1, h.2⟩
    refine wpAny_isTrue_Compare1 (vcE_ok a τ _ s _ E h.2 R fun x xv τ s hx g R => ?_) h.1
    cases e : isNon b with
    | true =>
      rw [e] at g
      refine gate ?_
      intro Gg kg
      obtain ⟨m, p, rfl⟩ := isNon_ok e
      refine kg ?_
      clear kg Gg
      exact wpAny_Constant_none (isnK_ok g hx fun b k => q b τ s k R)
    | false =>
      rw [e] at g
      exact vcE_ok b τ _ s _ E g R fun y yv τ s hy f R => cmpK_ok f hx hy R q
  | .nm i p, τ, K, s, Q, E, h, R, q => wpAny_isTrue_value (nameE_ok h R fun v k => trK_ok k R fun b s k R => q b τ s k R) rfl
  | .int .., _, _, _, _, _, h, _, _ => h.elim
  | .non .., _, _, _, _, _, h, _, _ => h.elim
  | .bool b m p, τ, K, s, Q, E, h, R, q => wpAny_isTrue_value (wpAny_Constant_bool (wpAny_truthy_bool (q _ τ s h R))) rfl
  | .bin .., _, _, _, _, _, h, _, _ => h.elim
  | .neg .., _, _, _, _, _, h, _, _ => h.elim
  | .sub .., _, _, _, _, _, h, _, _ => h.elim
  | .slLo .., _, _, _, _, _, h, _, _ => h.elim
  | .slHi .., _, _, _, _, _, h, _, _ => h.elim
  | .attr .., _, _, _, _, _, h, _, _ => h.elim
  | .call0 .., _, _, _, _, _, h, _, _ => h.elim
  | .call1 .., _, _, _, _, _, h, _, _ => h.elim
  | .call2 .., _, _, _, _, _, h, _, _ => h.elim
  | .call3 .., _, _, _, _, _, h, _, _ => h.elim
  | .meth0 .., _, _, _, _, _, h, _, _ => h.elim
  | .meth1 .., _, _, _, _, _, h, _, _ => h.elim
  | .meth2 .., _, _, _, _, _, h, _, _ => h.elim
  | .list0 .., _, _, _, _, _, h, _, _ => h.elim
  | .list1 .., _, _, _, _, _, h, _, _ => h.elim
  | .list2 .., _, _, _, _, _, h, _, _ => h.elim
  | .list3 .., _, _, _, _, _, h, _, _ => h.elim
  | .slRev .., _, _, _, _, _, h, _, _ => h.elim
  | .lc .., _, _, _, _, _, h, _, _ => h.elim
  | .js .., _, _, _, _, _, h, _, _ => h.elim
  | .nx .., _, _, _, _, _, h, _, _ => h.elim
  | .dct .., _, _, _, _, _, h, _, _ => h.elim
  | .str .., _, _, _, _, _, h, _, _ => h.elim
end
set_option genCtorIdx false in
inductive Sx where
  | asg (i : Nat) (q : Pos) (e : Ex) (p : Pos)
  | setI (o x : Ex) (q : Pos) (e : Ex) (p : Pos)
  | setA (o : Ex) (i : Nat) (q : Pos) (e : Ex) (p : Pos)
  | augA (o : Ex) (i : Nat) (q : Pos) (op : Operator) (e : Ex) (p : Pos)
  | exp (e : Ex) (p : Pos)
  | iff (t : Ex) (b o : List Sx) (p : Pos)
  | ret (e : Ex) (p : Pos)
  | brk (p : Pos)
  | cont (p : Pos)
  | whl (t : Ex) (b o : List Sx) (p : Pos)
  | for1 (i : Nat) (q : Pos) (e : Ex) (b : List Sx) (p : Pos)
  | asg2 (t u : Expr) (e : Ex) (p : Pos)
  | asgT (ts : List Expr) (k : Nat) (q : Pos) (e : Ex) (p : Pos)
  | augI (o x : Ex) (q : Pos) (op : Operator) (e : Ex) (p : Pos)
  | forT (ts : List Expr) (k : Nat) (q : Pos) (e : Ex) (b : List Sx) (p : Pos)
  | tryx (b : List Sx) (t : Ex) (hb : List Sx) (q p : Pos)
  | rai (e d : Option Expr) (p : Pos)
  | del (ts : List Expr) (p : Pos)
  | asr (t : Expr) (m : Option Expr) (p : Pos)
  | asgC (i : Nat) (q : Pos) (f : Ex) (q' p : Pos)
  | expC (f : Expr) (as : List Expr) (kw : List Keyword) (q p : Pos)
mutual
noncomputable def embS (nm : Nat → Str) : Sx → Stmt
  | .asg i q e p => .Assign [.Name (nm i) q] (embE nm e) p
  | .setI o x q e p => .Assign [.Subscript (embE nm o) (embE nm x) q] (embE nm e) p
  | .setA o i q e p => .Assign [.Attribute (embE nm o) (nm i) q] (embE nm e) p
  | .augA o i q op e p => .AugAssign (.Attribute (embE nm o) (nm i) q) op (embE nm e) p
  | .exp e p => .Expr (embE nm e) p
  | .iff t b o p => .If (embE nm t) (embL nm b) (embL nm o) p
  | .ret e p => .Return (some (embE nm e)) p
  | .brk p => .Break p
  | .cont p => .Continue p
  | .whl t b o p => .While (embE nm t) (embL nm b) (embL nm o) p
  | .for1 i q e b p => .For (.Name (nm i) q) (embE nm e) (embL nm b) [] p
  | .asg2 t u e p => .Assign [t, u] (embE nm e) p
  | .asgT ts k q e p => .Assign [.Tuple ts k q] (embE nm e) p
  | .augI o x q op e p => .AugAssign (.Subscript (embE nm o) (embE nm x) q) op (embE nm e) p
  | .forT ts k q e b p => .For (.Tuple ts k q) (embE nm e) (embL nm b) [] p
  | .tryx b t hb q p => .Try (embL nm b) [.ExceptHandler (some (embE nm t)) none (embL nm hb) q] [] [] p
  | .rai e d p => .Raise e d p
  | .del ts p => .Delete ts p
  | .asr t m p => .Assert t m p
  | .asgC i q f q' p => .Assign [.Name (nm i) q] (.Call (embE nm f) [] [] q') p
  | .expC f as kw q p => .Expr (.Call f as kw q) p
noncomputable def embL (nm : Nat → Str) : List Sx → List Stmt
  | [] => []
  | x :: xs => embS nm x :: embL nm xs
end
section
variable {nm : Nat → Str} {prog : Program} {KK : Params → Frag} {gl bl : Nat → Option Value} {c : Cx nm prog KK gl bl}
variable {ks : List (Nat × NameKind)} {cs : List (Nat × Addr)} {n : Nat} {W : Wk c ks cs n} {τ τ' : Sto} {l l' : List (Nat × Value)} {s : Shared} {E : Value → Shared → Prop} {Q : Flow → Shared → Prop}
noncomputable def OpU (W : Wk c ks cs n) (τ : Sto) (l : List (Nat × Value)) (m : Sem Unit) (K : Sto → Prop) : Prop := ∀ (s : Shared) (Q : Unit → Shared → Prop) (E : Value → Shared → Prop), Rl W τ l s → (∀ τ' s', K τ' → Rl W τ' l s' → Q () s') → wpAny c.M W.A m Q E s
noncomputable def rawE : Ex → Bool
  | .lc .. => true
  | _ => false
noncomputable def ForK (W : Wk c ks cs n) (target : Expr) (b : List Stmt) (N : Flow → Shared → Prop) (E : Value → Shared → Prop) (v : Value) (τ : Sto) (l : List (Nat × Value)) : Prop := ∀ s, Rl W τ l s → wpAny c.M W.A (pyIter v) (fun it s₂ => codeAny c.M W.A (.forLoop target it b [] W.env) (fun r s' => match r with | .ok f => N f s' | .error e => cameBackBy c.M W.A W.env E e s') s₂) E s
@[reducible] noncomputable def vcS (W : Wk c ks cs n) (Q : Flow → Shared → Prop) (E : Value → Shared → Prop) : Nat → List Sx → List (List Sx) → Sto → List (Nat × Value) → Prop
  | 0, ss, rs, τ, l => ∀ s, Rl W τ l s → XX W (embL nm ss) (rs.map (embL nm)) Q E s
  | _ + 1, [], [], τ, l => ∀ s, Rl W τ l s → Q .next s
  | _ + 1, [], r :: rs, τ, l => ∀ s, Rl W τ l s → XX W (embL nm r) (rs.map (embL nm)) Q E s
  | m + 1, .asg i _ e _ :: ss, rs, τ, l => gB (!rawE e && isLoc ks i) <| vcE W l e τ fun x τ => x.all fun v => vcS W Q E m ss rs τ (put l i v)
  | m + 1, .setI o x _ e _ :: ss, rs, τ, l => gB (!rawE e) <| vcE W l e τ fun v τ => vcE W l o τ fun ov τ => vcE W l x τ fun xv τ => v.all fun v => ov.all fun ov => xv.all fun xv => OpU W τ l (setItem ov xv v) fun τ => vcS W Q E m ss rs τ l
  | m + 1, .setA o i _ e _ :: ss, rs, τ, l => gB (!rawE e) <| vcE W l e τ fun v τ => vcE W l o τ fun ov τ => v.all fun v => ov.all fun ov => OpU W τ l (setAttr ov (nm i) v) fun τ => vcS W Q E m ss rs τ l
  | m + 1, .augA o i _ op e _ :: ss, rs, τ, l => vcE W l o τ fun ov τ => ov.all fun ov => Op W τ l (getAttr ov (nm i) true) fun old τ => vcE W l e τ fun x τ => x.all fun x => Op W τ l (inplaceOp op old x) fun v τ => OpU W τ l (setAttr ov (nm i) v) fun τ => vcS W Q E m ss rs τ l
  | m + 1, .exp e _ :: ss, rs, τ, l => gB (!rawE e) <| vcE W l e τ fun x τ => vcS W Q E m ss rs τ l
  | m + 1, .iff t b o _ :: ss, rs, τ, l => vcT W l t τ fun x τ => (x = true → vcS W Q E m b (ss :: rs) τ l) ∧ (x = false → vcS W Q E m o (ss :: rs) τ l)
  | m + 1, .ret e _ :: ss, rs, τ, l => vcE W l e τ fun x τ => x.all fun v => ∀ s, Rl W τ l s → Q (.ret v) s
  | m + 1, .for1 i q e b _ :: ss, rs, τ, l => gB (!rawE e) <| vcE W l e τ fun x τ => x.all fun v => ForK W (embE nm (.nm i q)) (embL nm b) (nxt W (embL nm ss) (rs.map (embL nm)) Q E) E v τ l
  | m + 1, .forT ts k q e b _ :: ss, rs, τ, l => gB (!rawE e) <| vcE W l e τ fun x τ => x.all fun v => ForK W (.Tuple ts k q) (embL nm b) (nxt W (embL nm ss) (rs.map (embL nm)) Q E) E v τ l
  | m + 1, .brk _ :: ss, rs, τ, l => ∀ s, Rl W τ l s → Q .brk s
  | m + 1, .cont _ :: ss, rs, τ, l => ∀ s, Rl W τ l s → Q .cont s
  | _ + 1, ss, rs, τ, l => ∀ s, Rl W τ l s → XX W (embL nm ss) (rs.map (embL nm)) Q E s
theorem noSw {e : Ex} (h : rawE e = false) (t : Option Expr) (k : Nat) (env : Env) : swapsWith (embE nm e) t k env = pure false := by
  cases e <;> first | rfl | cases h
theorem fold_ok {e : Ex} (h : rawE e = false) (env : Env) (x : Value) : foldedSetIterable (embE nm e) env x = pure x := by
  cases e <;> first | rfl | cases h
theorem vcS_ok : ∀ (m : Nat) (ss : List Sx) (rs : List (List Sx)) (τ : Sto) (l : List (Nat × Value)) (s : Shared), vcS W Q E m ss rs τ l → Rl W τ l s → XX W (embL nm ss) (rs.map (embL nm)) Q E s := by
  intro m
  induction m with
  | zero => intro ss rs τ l s h R; exact h s R
  | succ m ih =>
    intro ss rs τ l s h R
    rcases ss with _ | ⟨st, ss⟩
    · cases rs with
      | nil => exact sEnd0 (h s R)
      | cons r rs => exact sEnd (h s R)
    cases st with
    | asg i q e p =>
      replace h := gB_ok h
      have h : (_ ∧ _) ∧ _ := ⟨⟨not2 (and2 h.1).1, isLoc_ok (and2 h.1).2⟩, h.2⟩
      exact sStm (xAsg W.V h.1.2 (vcE_ok e τ _ s _ E h.2 R fun x v τ s hx h R => ⟨_, _, R, fun s R => ih ss rs τ _ s (SV.all_is h hx) R⟩) (noSw h.1.1 _ _ _))
    | setI o x q e p =>
      replace h := gB_ok h
      have h : _ ∧ _ := ⟨not2 h.1, h.2⟩
      exact sStm (wpAny_Assign_Subscript (vcE_ok e τ _ s _ E h.2 R fun x1 v1 τ s h1 h R => vcE_ok o τ _ s _ E h R fun x2 v2 τ s h2 h R => vcE_ok x τ _ s _ E h R fun x3 v3 τ s h3 h R => (SV.all_is (SV.all_is (SV.all_is h h1) h2) h3) s _ E R fun τ s h R => ih ss rs τ l s h R) (noSw h.1 _ _ _))
    | setA o i q e p =>
      replace h := gB_ok h
      have h : _ ∧ _ := ⟨not2 h.1, h.2⟩
      exact sStm (plainObj_wpAny_Assign_Attribute (vcE_ok e τ _ s _ E h.2 R fun x1 v1 τ s h1 h R => vcE_ok o τ _ s _ E h R fun x2 v2 τ s h2 h R => (SV.all_is (SV.all_is h h1) h2) s _ E R fun τ s h R => ih ss rs τ l s h R) (noSw h.1 _ _ _))
    | augA o i q op e p =>
      replace h : _ := h
      exact sStm (wpAny_AugAssign_AttributeAny (vcE_ok o τ _ s _ E h R fun x1 v1 τ s h1 h R => (SV.all_is h h1) s _ E R fun old τ s h R => vcE_ok e τ _ s _ E h R fun x2 v2 τ s h2 h R => (SV.all_is h h2) s _ E R fun v τ s h R => h s _ E R fun τ s h R => ih ss rs τ l s h R))
    | exp e p =>
      replace h := gB_ok h
      have h : _ ∧ _ := ⟨not2 h.1, h.2⟩
      exact sStm (xExprA W.V (vcE_ok e τ _ s _ E h.2 R fun x v τ s hx h R => ih ss rs τ l s h R) (noSw h.1 _ _ _))
    | iff t b o p =>
      replace h : _ := h
      refine sIf0 (vcT_ok t τ _ s _ E h R fun x τ s h R => ?_)
      exact ⟨fun z => ih b (ss :: rs) τ l s (h.1 z) R, fun z => ih o (ss :: rs) τ l s (h.2 z) R⟩
    | ret e p =>
      replace h : _ := h
      exact sStm (wpAny_Return_some (vcE_ok e τ _ s _ E h R fun x v τ s hx h R => SV.all_is h hx s R))
    | for1 i q e b p =>
      replace h := gB_ok h
      have h : _ ∧ _ := ⟨not2 h.1, h.2⟩
      exact sStm (wpAny_For (vcE_ok e τ _ s _ E h.2 R fun x v τ s hx h R => SV.all_is h hx s R) (fun x => fold_ok h.1 _ x))
    | forT ts k q e b p =>
      replace h := gB_ok h
      have h : _ ∧ _ := ⟨not2 h.1, h.2⟩
      exact sStm (wpAny_For (vcE_ok e τ _ s _ E h.2 R fun x v τ s hx h R => SV.all_is h hx s R) (fun x => fold_ok h.1 _ x))
    | brk p => exact sBrk (h s R)
    | cont p => exact sCont (h s R)
    | _ => exact h s R
/- steps -/
theorem oItem {value slice : Ex} {a : Addr} {t j : Nat} {vs : List Value} {k : Int} {u : Tok} {x : Value} {K : Value → Sto → Prop} (ha : τ a = some (.ls t vs)) (hk : k = (j : Int)) (hj : j < 100000) (hx : vs[j]? = some x) (h : K x τ) (hs : rawE slice = false := by rfl) : Op W τ l (subscriptTail (embE nm value) (embE nm slice) (.ref a) (.int k u)) K := fun s Q E R q =>
  xItem R ha hk hj hx (q _ _ s h R) (by cases slice <;> first | rfl | cases hs)
theorem oAppend {a : Addr} {t : Nat} {vs : List Value} {x : Value} {K : Value → Sto → Prop} (e : τ a = some (.ls t vs)) (hz : vs.length < 100000) (h : K .none (upd τ a (.ls t (vs ++ [x])))) (ht : Nat.beq t 0 = false := by rfl) : Op W τ l (call (.builtin "list.append") [.ref a, x]) K := fun s Q E R q => bAppend R e hz (fun s R => q _ _ s h R) ht
theorem oPop {a : Addr} {t : Nat} {p : List Value} {y : Value} {K : Value → Sto → Prop} (e : τ a = some (.ls t (p ++ [y]))) (hz : p.length < 10000) (h : K y (upd τ a (.ls t p))) (ht : Nat.beq t 0 = false := by rfl) : Op W τ l (call (.builtin "list.pop") [.ref a]) K := fun s Q E R q => bPop R e hz (fun s R => q _ _ s h R) ht
theorem oLen {a : Addr} {t : Nat} {vs : List Value} {K : Value → Sto → Prop} (e : τ a = some (.ls t vs)) (hz : vs.length < 100000) (h : ∀ u, K (.int vs.length u) τ) : Op W τ l (call (.builtin "len") [.ref a]) K := fun s Q E R q => bLen R e hz fun u s R => q _ _ s (h u) R
theorem oDict {p : Pos} {K : Value → Sto → Prop} (t : Nat) (h : ∀ a, τ a = none → a ≠ W.L → (a == sysModules) = false → K (.ref a) (upd τ a (dct c t [] 0))) : Op W τ l (eval (.Dict [] [] p) W.env) K := fun s Q E R q => nDict t R fun a s n1 n2 n3 R => q _ _ s (h a n1 n2 n3) R
theorem omDict {name : Str} {id : String} {d : Addr} {t ep : Nat} {kvs : List (Int × Value)} {K : Value → Prop} (slot : Slot "dict" name id) (hty : typeOf (.builtin id) = pure (.type "method_descriptor")) (e : τ d = some (dct c t kvs ep)) (h : K (.builtin id)) : OpM W τ l (.ref d) name K := fun pl s Q E R q => mDict slot hty R e (q _ s h R)
theorem oDGet {d : Addr} {t ep : Nat} {kvs : List (Int × Value)} {k : Int} {u : Tok} {K : Value → Sto → Prop} (e : τ d = some (dct c t kvs ep)) (hd : (d == sysModules) = false) (h : K ((valueAt kvs k).getD .none) τ) : Op W τ l (call (.builtin "dict.get") [.ref d, .int k u]) K := fun s Q E R q => dGet R e hd fun s R => q _ _ s h R
theorem oDItem {value slice : Ex} {d : Addr} {t ep : Nat} {kvs : List (Int × Value)} {k : Int} {u : Tok} {v : Value} {K : Value → Sto → Prop} (e : τ d = some (dct c t kvs ep)) (hv : valueAt kvs k = some v) (h : K v τ) (hs : rawE slice = false := by rfl) : Op W τ l (subscriptTail (embE nm value) (embE nm slice) (.ref d) (.int k u)) K := fun s Q E R q =>
  xDItem R e hv (fun s R => q _ _ s h R) (by cases slice <;> first | rfl | cases hs)
theorem oDSet {d : Addr} {t ep : Nat} {kvs : List (Int × Value)} {k : Int} {u : Tok} {v : Value} {K : Sto → Prop} (e : τ d = some (dct c t kvs ep)) (hz : kvs.length < 100000) (h : ∀ ep', K (upd τ d (dct c t (stored kvs k v) ep'))) : OpU W τ l (setItem (.ref d) (.int k u) v) K := fun s Q E R q => dSet R e hz fun ep' s R => q _ s (h ep') R
theorem oClear {a : Addr} {t : Nat} {vs : List Value} {K : Value → Sto → Prop} (e : τ a = some (.ls t vs)) (hz : vs.length < 100000) (h : K .none (upd τ a (.ls t []))) (ht : Nat.beq t 0 = false := by rfl) : Op W τ l (call (.builtin "list.clear") [.ref a]) K := fun s Q E R q => bClear R e hz (fun s R => q _ _ s h R) ht
theorem oTuple {a : Addr} {t : Nat} {vs : List Value} {K : Value → Sto → Prop} (t' : Nat) (e : τ a = some (.ls t vs)) (hz : vs.length < 100000) (h : ∀ b, τ b = none → b ≠ W.L → K (.ref b) (upd τ b (.ob t' (tup vs)))) : Op W τ l (call (.type "tuple") [.ref a]) K := fun s Q E R q => bTuple t' R e hz fun b s n1 n2 R => q _ _ s (h b n1 n2) R
theorem oLenT {a : Addr} {t : Nat} {vs : List Value} {K : Value → Sto → Prop} (e : τ a = some (.ob t (tup vs))) (hz : vs.length < 100000) (h : ∀ u, K (.int vs.length u) τ) : Op W τ l (call (.builtin "len") [.ref a]) K := fun s Q E R q => bLenT R e hz fun u s R => q _ _ s (h u) R
theorem oIadd {a b : Int} {t u : Tok} {K : Value → Sto → Prop} (h : ∀ t, K (.int (a + b) t) τ) : Op W τ l (inplaceOp .Add (.int a t) (.int b u)) K := fun s Q E R q => xIadd R fun t s R => q _ _ s (h t) R
theorem oIsub {a b : Int} {t u : Tok} {K : Value → Sto → Prop} (h : ∀ t, K (.int (a - b) t) τ) : Op W τ l (inplaceOp .Sub (.int a t) (.int b u)) K := fun s Q E R q => xIsub R fun t s R => q _ _ s (h t) R
theorem oInS {a : Addr} {t m : Nat} {S : Int → Bool} {k : Int} {u : Tok} {K : Bool → Sto → Prop} (e : τ a = some (setI c t S m)) (h : K (S k) τ) : cmpK W l .In (.val (.int k u)) (.val (.ref a)) τ K := fun s Q E R q => sIn R e fun s R => q _ _ s ⟨_, rfl, h⟩ R
theorem oInD {d : Addr} {t ep : Nat} {kvs : List (Int × Value)} {k : Int} {u : Tok} {K : Bool → Sto → Prop} (e : τ d = some (dct c t kvs ep)) (hd : (d == sysModules) = false) (h : K (valueAt kvs k).isSome τ) : cmpK W l .In (.val (.int k u)) (.val (.ref d)) τ K := fun s Q E R q => dIn R e hd fun s R => q _ _ s ⟨_, rfl, h⟩ R
theorem oNewSet {K : Value → Sto → Prop} (t : Nat) (h : ∀ a, τ a = none → a ≠ W.L → K (.ref a) (upd τ a (setI c t (fun _ => false) 0))) : Op W τ l (call (.type "set") []) K := fun s Q E R q => bSet t R fun a s n1 n2 R => q _ _ s (h a n1 n2) R
theorem omSet {a : Addr} {t m : Nat} {S : Int → Bool} {K : Value → Prop} (e : τ a = some (setI c t S m)) {name : Str} (hn : name = Str.ofString "add") (h : K (.builtin "set.add")) : OpM W τ l (.ref a) name K := fun pl s Q E R q => by subst hn; exact sMeth R e (q _ s h R)
theorem oSAdd {a : Addr} {t m : Nat} {S : Int → Bool} {k : Int} {u : Tok} {K : Value → Sto → Prop} (e : τ a = some (setI c t S m)) (hz : m < 4000) (h : K .none (upd τ a (setI c t (fun k' => S k' || decide (k' = k)) (if S k then m else m + 1)))) : Op W τ l (call (.builtin "set.add") [.ref a, .int k u]) K := fun s Q E R q => sAdd R e hz fun s R => q _ _ s h R
theorem oIter {a : Addr} {t : Nat} {vs : List Value} {K : Value → Sto → Prop} (e : τ a = some (.ls t vs)) (h : ∀ it, τ it = none → it ≠ W.L → K (.ref it) (upd τ it (.ob 1 (liNew a)))) : Op W τ l (call (.builtin "iter") [.ref a]) K := fun s Q E R q => bIter R e fun it s n1 n2 R => q _ _ s (h it n1 n2) R
theorem oAddL {a b : Addr} {t u : Nat} {vs ws : List Value} {K : Value → Sto → Prop} (ea : τ a = some (.ls t vs)) (eb : τ b = some (.ls u ws)) (hz : vs.length + ws.length < 100000) (h : ∀ d, τ d = none → d ≠ W.L → K (.ref d) (upd τ d (.ls 0 (vs ++ ws)))) : Op W τ l (binaryOp .Add (.ref a) (.ref b)) K := fun s Q E R q => xAddL 0 R ea eb hz fun d s n1 n2 R => q _ _ s (h d n1 n2) R
theorem oRetag {a : Addr} {i i' : It} {m : Sem Value} {K : Value → Sto → Prop} (e : τ a = some i) (k : ∀ h : Heap, i.sat nm h a → i'.sat nm h a) (h : Op W (upd τ a i') l m K) (hz : i.fz = false ∨ i'.fz = true := by first | exact .inl rfl | exact .inr rfl) : Op W τ l m K := fun s Q E R q => h s Q E (R.retell e k hz) q
theorem vRetag {a : Addr} {i i' : It} {m : Nat} {ss : List Sx} {rs : List (List Sx)} (e : τ a = some i) (k : ∀ h : Heap, i.sat nm h a → i'.sat nm h a) (h : vcS W Q E m ss rs (upd τ a i') l) (hz : i.fz = false ∨ i'.fz = true := by first | exact .inl rfl | exact .inr rfl) : ∀ s, Rl W τ l s → XX W (embL nm ss) (rs.map (embL nm)) Q E s := fun s R => vcS_ok m ss rs _ l s h (R.retell e k hz)
theorem omLs {name : Str} {id : String} {a : Addr} {t : Nat} {vs : List Value} {K : Value → Prop} (slot : Slot "list" name id) (hty : typeOf (.builtin id) = pure (.type "method_descriptor")) (e : τ a = some (.ls t vs)) (h : K (.builtin id)) : OpM W τ l (.ref a) name K := fun pl s Q E R q => mList slot hty R e (q _ s h R)
theorem Rel.out1 {L L' hp : Addr} {i : It} (R : Rel c (upd (upd τ L (.fr l)) hp i) L' l' s) (h : hp ≠ L) (hL : τ L = none) : Rel c (upd τ hp i) L l s := by
  rw [upd_comm (Ne.symm h)] at R
  exact R.out (by rw [upd_ne (Ne.symm h)]; exact hL)
theorem oSet {a : Addr} {t j : Nat} {vs : List Value} {k : Int} {u : Tok} {v : Value} {K : Sto → Prop} (ha : τ a = some (.ls t vs)) (hk : k = (j : Int)) (hj : j < 100000) (hn : j < vs.length) (h : K (upd τ a (.ls t (vs.set j v)))) (ht : Nat.beq t 0 = false := by rfl) : OpU W τ l (setItem (.ref a) (.int k u) v) K := fun s Q E R q =>
  sItem R ha hk hj hn (fun s R => q _ s h R) ht
theorem vSub {m : Nat} {ss : List Sx} {rs : List (List Sx)} (f : Fsub l' l) (h : vcS W Q E m ss rs τ l') : ∀ s, Rl W τ l s → XX W (embL nm ss) (rs.map (embL nm)) Q E s := fun s R => vcS_ok m ss rs τ l' s h (R.forget f)
theorem vIfNx {i m N : Nat} {q pn p1 p2 p : Pos} {e : Ex} {b o ss : List Sx} {rs : List (List Sx)} (hk : ks.lookup i = some .local) (h : vcE W l e τ fun x τ => x.all fun v => ((v == .none) = true → vcS W Q E N b (ss :: rs) τ (put l i v)) ∧ ((v == .none) = false → vcS W Q E N o (ss :: rs) τ (put l i v))) :
    ∀ s, Rl W τ l s → XX W (embL nm (.iff (.cmp (.nx (embE nm (.nm i q)) e p1) .Is (.non m pn) p2) b o p :: ss)) (rs.map (embL nm)) Q E s := fun s R =>
  sIf0 (wpAny_isTrue_Compare1 (wpAny_NamedExpr (vcE_ok e τ _ s _ E h R fun x v τ s hx h R => wpAny_assign_Name (stL W.V R hk fun s R => wpAny_Constant_none (is_none_gen (wpAny_truthy_bool
    ⟨fun z => vcS_ok N b (ss :: rs) _ _ s ((SV.all_is h hx).1 z) R, fun z => vcS_ok N o (ss :: rs) _ _ s ((SV.all_is h hx).2 z) R⟩))))) rfl)
theorem vAsg2 {o x e : Ex} {i N : Nat} {q q' p : Pos} {ss : List Sx} {rs : List (List Sx)} (hk : ks.lookup i = some .local) (hr : rawE e = false) (h : vcE W l e τ fun v τ => v.all fun v => vcE W l o τ fun ov τ => vcE W l x τ fun xv τ => ov.all fun ov => xv.all fun xv => OpU W τ l (setItem ov xv v) fun τ => vcS W Q E N ss rs τ (put l i v)) :
    ∀ s, Rl W τ l s → XX W (embL nm (.asg2 (embE nm (.sub o x q)) (embE nm (.nm i q')) e p :: ss)) (rs.map (embL nm)) Q E s := fun s R =>
  sStm (wpAny_Assign_two (vcE_ok e τ _ s _ E h R fun x1 v τ s h1 h R => aSub (vcE_ok o τ _ s _ E (SV.all_is h h1) R fun x2 v2 τ s h2 h R => vcE_ok x τ _ s _ E h R fun x3 v3 τ s h3 h R => (SV.all_is (SV.all_is h h2) h3) s _ E R fun τ s h R => wpAny_assign_Name (stL W.V R hk fun s R => vcS_ok N ss rs _ _ s h R))) rfl (by cases e <;> first | rfl | cases hr))
theorem vJoin {t : Ex} {b o ss : List Sx} {rs : List (List Sx)} {p : Pos} {m : Nat} (G : List (Nat × Value) → Prop) (hj : ∀ l, G l → ∀ s, Rl W τ l s → XX W (embL nm ss) (rs.map (embL nm)) Q E s)
    (h : (∀ l, G l → ∀ s, Rl W τ l s → XX W (embL nm ss) (rs.map (embL nm)) Q E s) → vcS W Q E (m + 1) (.iff t b o p :: ss) rs τ l) : vcS W Q E (m + 1) (.iff t b o p :: ss) rs τ l := h hj
theorem vJoin2 {t : Ex} {b o ss : List Sx} {rs : List (List Sx)} {p : Pos} {m : Nat} (G : Sto → List (Nat × Value) → Prop) (hj : ∀ τ l, G τ l → ∀ s, Rl W τ l s → XX W (embL nm ss) (rs.map (embL nm)) Q E s)
    (h : (∀ τ l, G τ l → ∀ s, Rl W τ l s → XX W (embL nm ss) (rs.map (embL nm)) Q E s) → vcS W Q E (m + 1) (.iff t b o p :: ss) rs τ l) : vcS W Q E (m + 1) (.iff t b o p :: ss) rs τ l := h hj
structure Lw {α : Type} (W : Wk c ks cs n) (σ : α → Sto) (fr : α → List (Nat × Value)) (G F1 F2 F3 F4 : α → Prop) (X : Shared → Prop) (Q Qb : Flow → Shared → Prop) : Prop where
  nx : ∀ y, G y → F1 y → F2 y → F3 y → F4 y → ∀ l', Fsub (fr y) l' → ∀ s, Rl W (σ y) l' s → Qb .next s
  ct : ∀ y, G y → F1 y → F2 y → F3 y → F4 y → ∀ l', Fsub (fr y) l' → ∀ s, Rl W (σ y) l' s → Qb .cont s
  bk : ∀ s, X s → Qb .brk s
  rt : ∀ v s, Q (.ret v) s → Qb (.ret v) s
theorem vWhile {α : Type} {t : Ex} {b o ss : List Sx} {rs : List (List Sx)} {p : Pos} (N : Nat) (σ : α → Sto) (fr : α → List (Nat × Value)) (μ : α → Nat) (F1 F2 F3 F4 : α → Prop) (x0 : α) (e0 : τ = σ x0) (f0 : Fsub (fr x0) l) (h1 : F1 x0) (h2 : F2 x0) (h3 : F3 x0) (h4 : F4 x0)
    (turn : ∀ x F Qb, F1 x → F2 x → F3 x → F4 x → Lw W σ fr (fun y => μ y < μ x) F1 F2 F3 F4 (XX W (embL nm ss) (rs.map (embL nm)) Q E) Q Qb → vcT W (fr x) t (σ x) fun z τ => (z = true → vcS W Qb F N b [] τ (fr x)) ∧ (z = false → vcS W (nxt W (embL nm ss) (rs.map (embL nm)) Q E) F N o [] τ (fr x))) :
    ∀ s, Rl W τ l s → XX W (embL nm (.whl t b o p :: ss)) (rs.map (embL nm)) Q E s := fun s R => by
  refine sStm (xWhile (fun m s => ∃ x, m = μ x ∧ F1 x ∧ F2 x ∧ F3 x ∧ F4 x ∧ Rl W (σ x) (fr x) s) (μ x0) ⟨x0, rfl, h1, h2, h3, h4, e0 ▸ R.forget f0⟩ fun m s F hI => ?_)
  refine gate ?_
  intro Gg kg
  obtain ⟨x, rfl, h1, h2, h3, h4, R⟩ := hI
  refine kg ?_
  clear kg Gg
  have g : ∀ y, μ y < μ x → F1 y → F2 y → F3 y → F4 y → ∀ l', Fsub (fr y) l' → ∀ s, Rl W (σ y) l' s → ∃ j, j < μ x ∧ ∃ x, j = μ x ∧ F1 x ∧ F2 x ∧ F3 x ∧ F4 x ∧ Rl W (σ x) (fr x) s := fun y m h1 h2 h3 h4 l' f s R => ⟨μ y, m, y, rfl, h1, h2, h3, h4, R.forget f⟩
  refine vcT_ok t _ _ s _ F (turn x F (fun f s => match f with
            | .next | .cont => ∃ j, j < μ x ∧ ∃ x, j = μ x ∧ F1 x ∧ F2 x ∧ F3 x ∧ F4 x ∧ Rl W (σ x) (fr x) s
            | .brk => nxt W (embL nm ss) (rs.map (embL nm)) Q E .next s
            | .ret v => nxt W (embL nm ss) (rs.map (embL nm)) Q E (.ret v) s) h1 h2 h3 h4 ⟨g, g, fun s x => x, fun v s x => x⟩) R fun x τ s h R => ?_
  exact ⟨fun z => wpAny_mono (vcS_ok N b [] τ _ s (h.1 z) R) (fun f s q => by cases f <;> exact q) fun _ _ e => e, fun z => vcS_ok N o [] τ _ s (h.2 z) R⟩
theorem upd_del' {it : Addr} {i : It} (h : τ it = some i) : upd (del τ it) it i = τ := by
  funext b; unfold upd del
  by_cases q : b = it
  · rw [if_pos q, q, h]
  · rw [if_neg q, if_neg q]
structure Tn {α : Type} (W : Wk c ks cs n) (N : Nat) (target : Expr) (b : List Sx) (ss : List Stmt) (rs : List (List Stmt)) (Q : Flow → Shared → Prop) (E : Value → Shared → Prop) (cnt : Nat) (P : Nat → Value → Prop) (S : Nat → It) (D : Sto → Prop) (σ : α → Sto) (fr : α → List (Nat × Value)) (F1 F2 F3 : Nat → α → Prop) : Prop where
  hn : 1 ≤ n
  Dr : ∀ it, Drv c it cnt P S D
  hD : ∀ j x, F1 j x → F2 j x → F3 j x → D (σ x)
  turn : ∀ j v it x F Qb, j < cnt → P j v → F1 j x → F2 j x → F3 j x → σ x it = none → it ≠ W.L → Lw W (fun p : α × Sto => p.2) (fun p => fr p.1) (fun p => p.2 it = some (S (j + 1)) ∧ del p.2 it = σ p.1) (fun p => F1 (j + 1) p.1) (fun p => F2 (j + 1) p.1) (fun p => F3 (j + 1) p.1) (fun _ => True) (XX W ss rs Q E) Q Qb →
      ∃ l', (∀ s, Rl W (upd (σ x) it (S (j + 1))) (fr x) s → wpAny c.M W.A (assign target W.env v) (fun _ s => Rl W (upd (σ x) it (S (j + 1))) l' s) F s) ∧ vcS W Qb F N b [] (upd (σ x) it (S (j + 1))) l'
  fin : ∀ x, F1 cnt x → F2 cnt x → F3 cnt x → ∀ s, Rl W (σ x) (fr x) s → XX W ss rs Q E s
section
variable {α : Type} {target : Expr} {b : List Sx} {ss : List Stmt} {rs : List (List Stmt)} {cnt : Nat} {P : Nat → Value → Prop} {S : Nat → It} {D : Sto → Prop} {N : Nat} {σ : α → Sto} {fr : α → List (Nat × Value)} {F1 F2 F3 : Nat → α → Prop}
theorem forC (T : Tn W N target b ss rs Q E cnt P S D σ fr F1 F2 F3) {it : Addr} {x0 : α} (f0 : Fsub (fr x0) l) (h1 : F1 0 x0) (h2 : F2 0 x0) (h3 : F3 0 x0) (n1 : σ x0 it = none) (R : Rl W (upd (σ x0) it (S 0)) l s) :
    codeAny c.M W.A (.forLoop target (.ref it) (embL nm b) [] W.env) (fun r s' => match r with | .ok f => nxt W ss rs Q E f s' | .error e => cameBackBy c.M W.A W.env E e s') s := by
  refine forGo (c := c) (L := W.L) (fun j τ l => ∃ x, τ = σ x ∧ Fsub (fr x) l ∧ F1 j x ∧ F2 j x ∧ F3 j x) (W.H.le T.hn) (T.Dr it) (fun j τ l ⟨x, e, _, h1, h2, h3⟩ => e ▸ T.hD j x h1 h2 h3) R n1 ⟨x0, rfl, f0, h1, h2, h3⟩ (fun j v τ l s F hj hp hI hit R => ?_) fun τ l s F ⟨x, e, f, h1, h2, h3⟩ R => wpAny_execs_nil (T.fin x h1 h2 h3 s (e ▸ R.forget f))
  refine gate ?_
  intro Gg kg
  obtain ⟨x, rfl, f, h1, h2, h3⟩ := hI
  have g : ∀ p : α × Sto, (p.2 it = some (S (j + 1)) ∧ del p.2 it = σ p.1) → F1 (j + 1) p.1 → F2 (j + 1) p.1 → F3 (j + 1) p.1 → True → ∀ l', Fsub (fr p.1) l' → ∀ s, Rl W p.2 l' s → ∃ τ' l', Rel c (upd τ' it (S (j + 1))) W.L l' s ∧ τ' it = none ∧ ∃ x, τ' = σ x ∧ Fsub (fr x) l' ∧ F1 (j + 1) x ∧ F2 (j + 1) x ∧ F3 (j + 1) x := fun p z h1 h2 h3 _ l' f s R => ⟨del p.2 it, l', by rw [upd_del' z.1]; exact R, del_self, p.1, z.2, f, h1, h2, h3⟩
  refine kg ?_
  clear kg Gg
  obtain ⟨l', g1, g2⟩ := T.turn j v it x F (fun f s₃ => match f with
            | .next | .cont => ∃ τ' l', Rel c (upd τ' it (S (j + 1))) W.L l' s₃ ∧ τ' it = none ∧ ∃ x, τ' = σ x ∧ Fsub (fr x) l' ∧ F1 (j + 1) x ∧ F2 (j + 1) x ∧ F3 (j + 1) x
            | .brk => nxt W ss rs Q E .next s₃
            | .ret v => nxt W ss rs Q E (.ret v) s₃) hj hp h1 h2 h3 hit (R.neL upd_self) ⟨g, g, fun s x => x, fun v s x => x⟩
  exact wpAny_mono (g1 s (R.forget f)) (fun _ s R => wpAny_mono (vcS_ok N b [] _ l' s g2 R) (fun f s q => by cases f <;> exact q) fun _ _ e => e) fun _ _ e => e
theorem forK (T : Tn W N target b ss rs Q E cnt P S D σ fr F1 F2 F3) {v : Value} (x0 : α) (hI : ∀ (s : Shared) (Q : Value → Shared → Prop) (E : Value → Shared → Prop), Rl W (σ x0) l s → (∀ it s', σ x0 it = none → it ≠ W.L → Rel c (upd (σ x0) it (S 0)) W.L l s' → Q (.ref it) s') → wpAny c.M W.A (pyIter v) Q E s)
    (f0 : Fsub (fr x0) l) (h1 : F1 0 x0) (h2 : F2 0 x0) (h3 : F3 0 x0) : ForK W target (embL nm b) (nxt W ss rs Q E) E v (σ x0) l := fun s R => hI s _ E R fun it s n1 n2 R => forC T f0 h1 h2 h3 n1 R
theorem forKi (T : Tn W N target b ss rs Q E cnt P S D σ fr F1 F2 F3) {it : Addr} (x0 : α) (f0 : Fsub (fr x0) l) (h1 : F1 0 x0) (h2 : F2 0 x0) (h3 : F3 0 x0) (n1 : σ x0 it = none) : ForK W target (embL nm b) (nxt W ss rs Q E) E (.ref it) (upd (σ x0) it (S 0)) l := fun s R => (T.Dr it).self R (forC T f0 h1 h2 h3 n1 R)
end
theorem itLs {a : Addr} {t : Nat} {vs : List Value} (e : τ a = some (.ls t vs)) (s : Shared) (Q : Value → Shared → Prop) (E : Value → Shared → Prop) (R : Rl W τ l s) (h : ∀ it s', τ it = none → it ≠ W.L → Rel c (upd τ it (itL a 0)) W.L l s' → Q (.ref it) s') : wpAny c.M W.A (pyIter (.ref a)) Q E s := iterL R e h
theorem itDs {d : Addr} {t ep : Nat} {kvs : List (Int × Value)} (e : τ d = some (dct c t kvs ep)) (hd : (d == sysModules) = false) (s : Shared) (Q : Value → Shared → Prop) (E : Value → Shared → Prop) (R : Rl W τ l s) (h : ∀ it s', τ it = none → it ≠ W.L → Rel c (upd τ it (itD d kvs.length ep 0)) W.L l s' → Q (.ref it) s') : wpAny c.M W.A (pyIter (.ref d)) Q E s := iterD R e hd h
theorem itTs {a : Addr} {t : Nat} {vs : List Value} (e : τ a = some (.ob t (tup vs))) (s : Shared) (Q : Value → Shared → Prop) (E : Value → Shared → Prop) (R : Rl W τ l s) (h : ∀ it s', τ it = none → it ≠ W.L → Rel c (upd τ it (itT a 0)) W.L l s' → Q (.ref it) s') : wpAny c.M W.A (pyIter (.ref a)) Q E s := iterT R e h
theorem oRange {k : Int} {t : Tok} {K : Value → Sto → Prop} (h : ∀ a, τ a = none → a ≠ W.L → K (.ref a) (upd τ a (.pr 0 (rngOb 0 k 1)))) : Op W τ l (call (.type "range") [.int k t]) K := fun s Q E R q => bRange R fun a s n1 n2 R => q _ _ s (h a n1 n2) R
theorem oRevR {a : Addr} {cnt : Nat} {k : Int} {K : Value → Sto → Prop} (n1 : τ a = none) (hk : k = (cnt : Int)) (hz : cnt < 100000) (h : ∀ it, τ it = none → it ≠ W.L → K (.ref it) (upd τ it (.ob 1 (rngIt ((cnt : Int) - 1 + ((0 : Nat) : Int) * (-1)) ((cnt : Int) - ((0 : Nat) : Int)) (-1))))) : Op W (upd τ a (.pr 0 (rngOb 0 k 1))) l (call (.type "reversed") [.ref a]) K := fun s Q E R q => by
  subst hk
  refine bReversed (n := cnt) R upd_self hz fun it s n3 n4 R => ?_
  have n5 : τ it = none := by
    by_cases z : it = a
    · subst z; rw [upd_self] at n3; cases n3
    · rwa [upd_ne z] at n3
  exact q _ _ s (h it n5 n4) (R.drop2 n1)
theorem tgt {i : Nat} {p : Pos} {x : Value} {F : Value → Shared → Prop} (hk : ks.lookup i = some .local) : ∀ s, Rl W τ l s → wpAny c.M W.A (assign (embE nm (.nm i p)) W.env x) (fun _ s => Rl W τ (put l i x) s) F s := fun s R => wpAny_assign_Name (stL W.V R hk fun s R => R)
end
end Mine

namespace Mine

theorem q_nm (i : Nat) (p : Pos) : Expr.Name (nm i) p = embE nm (.nm i p) := rfl
theorem q_int (k : Int) (m : Nat) (p : Pos) : Expr.Constant (.int k) m p = embE nm (.int k m p) := rfl
theorem q_non (m : Nat) (p : Pos) : Expr.Constant .none m p = embE nm (.non m p) := rfl
theorem q_bool (b : Bool) (m : Nat) (p : Pos) : Expr.Constant (.bool b) m p = embE nm (.bool b m p) := rfl
theorem q_str (s : Str) (m : Nat) (p : Pos) : Expr.Constant (.str s) m p = embE nm (.str s m p) := rfl
theorem q_bin (a : Ex) (op : Operator) (b : Ex) (p : Pos) : Expr.BinOp (embE nm a) op (embE nm b) p = embE nm (.bin a op b p) := rfl
theorem q_neg (a : Ex) (p : Pos) : Expr.UnaryOp .USub (embE nm a) p = embE nm (.neg a p) := rfl
theorem q_not (a : Ex) (p : Pos) : Expr.UnaryOp .Not (embE nm a) p = embE nm (.not a p) := rfl
theorem q_cmp (a : Ex) (op : CmpOp) (b : Ex) (p : Pos) : Expr.Compare (embE nm a) [op] [embE nm b] p = embE nm (.cmp a op b p) := rfl
theorem q_and (a b : Ex) (p : Pos) : Expr.BoolOp .And [embE nm a, embE nm b] p = embE nm (.and a b p) := rfl
theorem q_or (a b : Ex) (p : Pos) : Expr.BoolOp .Or [embE nm a, embE nm b] p = embE nm (.or a b p) := rfl
theorem q_sub (o x : Ex) (p : Pos) : Expr.Subscript (embE nm o) (embE nm x) p = embE nm (.sub o x p) := rfl
theorem q_slLo (o x : Ex) (p q : Pos) : Expr.Subscript (embE nm o) (.Slice (some (embE nm x)) none none q) p = embE nm (.slLo o x p q) := rfl
theorem q_slHi (o x : Ex) (p q : Pos) : Expr.Subscript (embE nm o) (.Slice none (some (embE nm x)) none q) p = embE nm (.slHi o x p q) := rfl
theorem q_slRev (o : Ex) (r : Expr) (p q : Pos) : Expr.Subscript (embE nm o) (.Slice none none (some r) q) p = embE nm (.slRev o r p q) := rfl
theorem q_attr (o : Ex) (i : Nat) (p : Pos) : Expr.Attribute (embE nm o) (nm i) p = embE nm (.attr o i p) := rfl
theorem q_call0 (i : Nat) (q p : Pos) : Expr.Call (embE nm (.nm i q)) [] [] p = embE nm (.call0 i q p) := rfl
theorem q_call1 (i : Nat) (q : Pos) (a : Ex) (p : Pos) : Expr.Call (embE nm (.nm i q)) [embE nm a] [] p = embE nm (.call1 i q a p) := rfl
theorem q_call2 (i : Nat) (q : Pos) (a b : Ex) (p : Pos) : Expr.Call (embE nm (.nm i q)) [embE nm a, embE nm b] [] p = embE nm (.call2 i q a b p) := rfl
theorem q_call3 (i : Nat) (q : Pos) (a b d : Ex) (p : Pos) : Expr.Call (embE nm (.nm i q)) [embE nm a, embE nm b, embE nm d] [] p = embE nm (.call3 i q a b d p) := rfl
theorem q_meth0 (o : Ex) (i : Nat) (q p : Pos) : Expr.Call (embE nm (.attr o i q)) [] [] p = embE nm (.meth0 o i q p) := rfl
theorem q_meth1 (o : Ex) (i : Nat) (q : Pos) (a : Ex) (p : Pos) : Expr.Call (embE nm (.attr o i q)) [embE nm a] [] p = embE nm (.meth1 o i q a p) := rfl
theorem q_meth2 (o : Ex) (i : Nat) (q : Pos) (a b : Ex) (p : Pos) : Expr.Call (embE nm (.attr o i q)) [embE nm a, embE nm b] [] p = embE nm (.meth2 o i q a b p) := rfl
theorem q_list0 (p : Pos) : Expr.List [] p = embE nm (.list0 p) := rfl
theorem q_list1 (a : Ex) (p : Pos) : Expr.List [embE nm a] p = embE nm (.list1 a p) := rfl
theorem q_list2 (a b : Ex) (p : Pos) : Expr.List [embE nm a, embE nm b] p = embE nm (.list2 a b p) := rfl
theorem q_list3 (a b d : Ex) (p : Pos) : Expr.List [embE nm a, embE nm b, embE nm d] p = embE nm (.list3 a b d p) := rfl
theorem q_lc (e : Expr) (g : List Comprehension) (s : Scope) (p : Pos) : Expr.ListComp e g s p = embE nm (.lc e g s p) := rfl
theorem q_js (es : List Expr) (p : Pos) : Expr.JoinedStr es p = embE nm (.js es p) := rfl
theorem q_nx (t : Expr) (e : Ex) (p : Pos) : Expr.NamedExpr t (embE nm e) p = embE nm (.nx t e p) := rfl
theorem q_dct (k : List (Option Expr)) (v : List Expr) (p : Pos) : Expr.Dict k v p = embE nm (.dct k v p) := rfl
theorem q_asg (i : Nat) (q : Pos) (e : Ex) (p : Pos) : Stmt.Assign [embE nm (.nm i q)] (embE nm e) p = embS nm (.asg i q e p) := rfl
theorem q_setI (o x : Ex) (q : Pos) (e : Ex) (p : Pos) : Stmt.Assign [embE nm (.sub o x q)] (embE nm e) p = embS nm (.setI o x q e p) := rfl
theorem q_setA (o : Ex) (i : Nat) (q : Pos) (e : Ex) (p : Pos) : Stmt.Assign [embE nm (.attr o i q)] (embE nm e) p = embS nm (.setA o i q e p) := rfl
theorem q_asg2 (t u : Expr) (e : Ex) (p : Pos) : Stmt.Assign [t, u] (embE nm e) p = embS nm (.asg2 t u e p) := rfl
theorem q_asgT (ts : List Expr) (k : Nat) (q : Pos) (e : Ex) (p : Pos) : Stmt.Assign [.Tuple ts k q] (embE nm e) p = embS nm (.asgT ts k q e p) := rfl
theorem q_augA (o : Ex) (i : Nat) (q : Pos) (op : Operator) (e : Ex) (p : Pos) : Stmt.AugAssign (embE nm (.attr o i q)) op (embE nm e) p = embS nm (.augA o i q op e p) := rfl
theorem q_augI (o x : Ex) (q : Pos) (op : Operator) (e : Ex) (p : Pos) : Stmt.AugAssign (embE nm (.sub o x q)) op (embE nm e) p = embS nm (.augI o x q op e p) := rfl
theorem q_exp (e : Ex) (p : Pos) : Stmt.Expr (embE nm e) p = embS nm (.exp e p) := rfl
theorem q_iff (t : Ex) (b o : List Sx) (p : Pos) : Stmt.If (embE nm t) (embL nm b) (embL nm o) p = embS nm (.iff t b o p) := rfl
theorem q_ret (e : Ex) (p : Pos) : Stmt.Return (some (embE nm e)) p = embS nm (.ret e p) := rfl
theorem q_brk (p : Pos) : Stmt.Break p = embS nm (.brk p) := rfl
theorem q_cont (p : Pos) : Stmt.Continue p = embS nm (.cont p) := rfl
theorem q_whl (t : Ex) (b o : List Sx) (p : Pos) : Stmt.While (embE nm t) (embL nm b) (embL nm o) p = embS nm (.whl t b o p) := rfl
theorem q_for1 (i : Nat) (q : Pos) (e : Ex) (b : List Sx) (p : Pos) : Stmt.For (embE nm (.nm i q)) (embE nm e) (embL nm b) (embL nm []) p = embS nm (.for1 i q e b p) := rfl
theorem q_forT (ts : List Expr) (k : Nat) (q : Pos) (e : Ex) (b : List Sx) (p : Pos) : Stmt.For (.Tuple ts k q) (embE nm e) (embL nm b) (embL nm []) p = embS nm (.forT ts k q e b p) := rfl
theorem q_tryx (b : List Sx) (t : Ex) (hb : List Sx) (q p : Pos) : Stmt.Try (embL nm b) [.ExceptHandler (some (embE nm t)) none (embL nm hb) q] (embL nm []) (embL nm []) p = embS nm (.tryx b t hb q p) := rfl
theorem q_rai (e d : Option Expr) (p : Pos) : Stmt.Raise e d p = embS nm (.rai e d p) := rfl
theorem q_del (ts : List Expr) (p : Pos) : Stmt.Delete ts p = embS nm (.del ts p) := rfl
theorem q_asr (t : Expr) (m : Option Expr) (p : Pos) : Stmt.Assert t m p = embS nm (.asr t m p) := rfl
theorem q_asgC (i : Nat) (q : Pos) (f : Ex) (q' p : Pos) : Stmt.Assign [embE nm (.nm i q)] (.Call (embE nm f) [] [] q') p = embS nm (.asgC i q f q' p) := rfl
theorem q_expC (f : Expr) (as : List Expr) (kw : List Keyword) (q p : Pos) : Stmt.Expr (.Call f as kw q) p = embS nm (.expC f as kw q p) := rfl
theorem q_nil : ([] : List Stmt) = embL nm [] := rfl
theorem q_cons (x : Sx) (xs : List Sx) : embS nm x :: embL nm xs = embL nm (x :: xs) := rfl
noncomputable def It.fy : It → Bool
  | .ob 0 _ => true
  | .ls 0 _ => true
  | _ => false
noncomputable def Fz (τ τ₁ : Sto) : Prop := ∀ a i, τ a = some i → i.fy = true → τ₁ a = some i
noncomputable def CmpOk {nm : Nat → Str} {prog : Program} {KK : Params → Frag} {gl bl : Nat → Option Value} (c : Cx nm prog KK gl bl) (τ : Sto) (P : Value → Prop) (lt : Value → Value → Bool) : Prop :=
  ∀ x y, P x → P y → (∀ i j t u, x = .int i t → y = .int j u → lt x y = decide (i < j)) ∧ ∀ τ₁ L₁ l₁ A s Q E, Fz τ τ₁ → Ok 3 A → Rel c τ₁ L₁ l₁ s → (∀ s', Rel c τ₁ L₁ l₁ s' → Q (.bool (lt x y)) s') → wpAny c.M A (compareOp .Lt x y) Q E s
theorem Fz_upd {τ τ₁ : Sto} {a : Addr} {i : It} (h : Fz τ τ₁) (ha : ∀ j, τ₁ a = some j → j.fy = false) : Fz τ (upd τ₁ a i) := fun b j e z => by
  have := h b j e z
  rw [upd_ne]
  · exact this
  · rintro rfl; rw [ha _ this] at z; cases z

noncomputable def sdGo (lt : Value → Value → Bool) (x : Value) (sp : Nat) : Nat → List Value → Nat → List Value
  | 0, vs, p => vs.set p x
  | n + 1, vs, p => if sp < p then (if lt x (vs.getD ((p - 1) / 2) .none) then sdGo lt x sp n (vs.set p (vs.getD ((p - 1) / 2) .none)) ((p - 1) / 2) else vs.set p x) else vs.set p x
noncomputable def sdL (lt : Value → Value → Bool) (vs : List Value) (sp p : Nat) : List Value := sdGo lt (vs.getD p .none) sp p vs p
theorem sdGo_fuel {lt : Value → Value → Bool} {x : Value} {sp : Nat} : ∀ (n p : Nat) (vs : List Value), p ≤ n → sdGo lt x sp n vs p = sdGo lt x sp p vs p
  | 0, p, vs, h => by have : p = 0 := by omega
                      subst this; rfl
  | n + 1, 0, vs, h => by simp [sdGo]
  | n + 1, p + 1, vs, h => by
    unfold sdGo
    split
    · split
      · rw [sdGo_fuel n _ _ (by omega), sdGo_fuel p _ _ (by omega)]
      · rfl
    · rfl
theorem sdGo_step {lt : Value → Value → Bool} {x : Value} {sp p : Nat} {vs : List Value} (h : sp < p) : sdGo lt x sp p vs p = if lt x (vs.getD ((p - 1) / 2) .none) = true then sdGo lt x sp ((p - 1) / 2) (vs.set p (vs.getD ((p - 1) / 2) .none)) ((p - 1) / 2) else vs.set p x := by
  obtain ⟨k, rfl⟩ : ∃ j, p = j + 1 := ⟨p - 1, by omega⟩
  show (if sp < k + 1 then (if lt x (vs.getD ((k + 1 - 1) / 2) .none) then sdGo lt x sp k (vs.set (k + 1) (vs.getD ((k + 1 - 1) / 2) .none)) ((k + 1 - 1) / 2) else vs.set (k + 1) x) else vs.set (k + 1) x) = _
  rw [if_pos h, sdGo_fuel k ((k + 1 - 1) / 2) _ (by omega)]
theorem sdGo_stop {lt : Value → Value → Bool} {x : Value} {sp p : Nat} {vs : List Value} (h : ¬ sp < p) : sdGo lt x sp p vs p = vs.set p x := by
  cases p with
  | zero => rfl
  | succ k => exact if_neg h
theorem half_lt {sp k : Nat} (h : sp < k) : (k - 1) / 2 < k := by omega
theorem mem_set' {P : Value → Prop} {vs : List Value} {k : Nat} {y : Value} (h : ∀ x ∈ vs, P x) (hy : P y) : ∀ x ∈ vs.set k y, P x := fun x hx => by
  rcases List.mem_or_eq_of_mem_set hx with h' | rfl
  · exact h x h'
  · exact hy
structure Wx where
  k : Nat
  vs : List Value
  t : Tok
  u : Tok
theorem half_nat {k : Nat} (h : 0 < k) : ((k : Int) - 1).fdiv (2 ^ Int.toNat 1) = (((k - 1) / 2 : Nat) : Int) := by
  have : ((k : Int) - 1) = ((k - 1 : Nat) : Int) := by omega
  rw [this]
  show (((k - 1 : Nat) : Int)).fdiv 2 = _
  rw [Int.fdiv_eq_ediv_of_nonneg _ (by decide)]
  rfl

section
variable {c : Cx nm prg KK gl bl} {ks : List (Nat × NameKind)} {cs : List (Nat × Addr)} {n : Nat} {W : Wk c ks cs n} {τ τ₁ : Sto} {l : List (Nat × Value)}
theorem oLt {P : Value → Prop} {lt : Value → Value → Bool} {x y : Value} {K : Bool → Sto → Prop} (hc : CmpOk c τ P lt) (hz : Fz τ τ₁) (hn : 3 ≤ n) (px : P x) (py : P y) (k : K (lt x y) τ₁) : cmpK W l .Lt (.val x) (.val y) τ₁ K := by
  have h := hc x y px py
  have z : cmpO W l .Lt (.val x) (.val y) τ₁ K := fun s Q E R q => h.2 _ _ _ _ _ _ _ hz (W.H.le hn) R fun s R => q _ _ s ⟨_, rfl, k⟩ R
  unfold cmpK
  split
  · rename_i i h1
    obtain ⟨t, e1⟩ := SV.int_is h1 (show (SV.val x).is x from rfl)
    split
    · rename_i j h2
      obtain ⟨u, e2⟩ := SV.int_is h2 (show (SV.val y).is y from rfl)
      rw [h.1 i j t u e1 e2] at k; exact k
    · exact z
  · exact z
end
section
variable {c : Cx nm prg KK gl bl} {A : Around} {E : Value → Shared → Prop} {τ : Sto} {L : Addr} {l : List (Nat × Value)} {s : Shared}
theorem sp_siftdown {hp : Addr} {Q : Value → Shared → Prop} (H : Ok 10 A) (R : Rel c τ L l s) {vs : List Value} {sp p : Nat} {t u : Tok} {P : Value → Prop} {lt : Value → Value → Bool} (hP : ∀ x ∈ vs, P x) (hc : CmpOk c τ P lt) (hp0 : τ hp = some (.ls 1 vs))
    (h1 : p < vs.length) (h2 : vs.length < 1000) (h : ∀ s', Rel c (upd τ hp (.ls 1 (sdL lt vs sp p))) L l s' → Q .none s') :
    wpAny c.M A (call (.ref f__siftdown) [.ref hp, .int sp t, .int p u]) Q E s := by
  refine wpAny_call ?_
  refine callW (n := 9) (lb := [(61, .ref hp), (134, .int sp t), (112, .int p u)]) H R rfl (by kernel_rfl) ⟨rfl, rfl, rfl⟩ (ks := ks__siftdown) rfl rfl (BindsTo.of_eq (by kernel_rfl)) rfl ?_
  have R0 := R
  clear R
  intro W s Q' E' hf hA R f1 f2 hq hn he
  dsimp only [n_heap, n_startpos, n_pos, n_newitem, n_parentpos, n_parent, q_nm, q_int, q_non, q_bool, q_str, q_bin, q_neg, q_not, q_cmp, q_and, q_or, q_sub, q_slLo, q_slHi, q_slRev, q_attr, q_call0, q_call1, q_call2, q_call3, q_meth0, q_meth1, q_meth2, q_list0, q_list1, q_list2, q_list3, q_lc, q_js, q_nx, q_dct, q_asg, q_setI, q_setA, q_asg2, q_asgT, q_augA, q_augI, q_exp, q_iff, q_ret, q_brk, q_cont, q_whl, q_for1, q_forT, q_tryx, q_rai, q_del, q_asr, q_asgC, q_expC, q_nil, q_cons]
  have neL : hp ≠ L := R0.neL hp0
  have hp1 : upd τ L (.fr l) hp = some (.ls 1 vs) := (upd_ne neL).trans hp0
  have fin : ∀ (vs' : List Value) (l' : List (Nat × Value)) (s : Shared), Rl W (upd (upd τ L (.fr l)) hp (.ls 1 vs')) l' s → vs' = sdL lt vs sp p → Q .none s := by
    intro vs' l' s R' e
    subst e
    exact h _ (R'.out1 neL R0.apart)
  have cmp : ∀ (vs' : List Value), Fz τ (upd (upd τ L (.fr l)) hp (.ls 1 vs')) := fun vs' => by
    refine Fz_upd (Fz_upd (fun _ _ e _ => e) fun o e => ?_) fun o e => ?_
    · rw [R0.apart] at e; cases e
    · rw [upd_ne neL, hp0] at e; cases e; rfl
  have hx : P (vs.getD p .none) := hP _ (gv_mem h1)
  refine vcS_ok 9 _ [] _ _ _ ?_ R
  refine oItem hp1 rfl (Nat.lt_trans h1 (Nat.lt_trans h2 (by decide))) (gv h1) ?_
  refine vWhile 9 (fun x : Wx => upd (upd τ L (.fr l)) hp (.ls 1 x.vs)) (fun x => [(61, .ref hp), (134, .int sp t), (112, .int x.k x.t), (95, vs.getD p .none)]) Wx.k (fun x => x.k < x.vs.length) (fun x => x.vs.length = vs.length) (fun x => ∀ y ∈ x.vs, P y) (fun x => sdL lt vs sp p = sdGo lt (vs.getD p .none) sp x.k x.vs x.k) ⟨p, vs, u, u⟩ (upd_same hp1).symm ⟨rfl, rfl, rfl, rfl, trivial⟩ h1 rfl hP rfl ?_
  intro x F Qb a1 a2 a3 a4 lp
  have z2 : x.k < 100000 := Nat.lt_trans (a2 ▸ a1) (Nat.lt_trans h2 (by decide))
  refine ⟨fun hb => ?_, fun hb => ?_⟩
  · have hb0 : sp < x.k := Int.ofNat_lt.mp (of_decide_eq_true hb)
    have hlt : (x.k - 1) / 2 < x.vs.length := Nat.lt_of_le_of_lt (Nat.le_trans (Nat.div_le_self _ _) (Nat.sub_le _ _)) a1
    have hh := half_nat (k := x.k) (Nat.lt_of_le_of_lt (Nat.zero_le _) hb0)
    have hy : P (x.vs.getD ((x.k - 1) / 2) .none) := a3 _ (gv_mem hlt)
    rw [sdGo_step hb0] at a4
    refine ⟨(by decide : (0 : Int) ≤ 1), fun t1 => oItem upd_self hh (Nat.lt_trans (a2 ▸ hlt) (Nat.lt_trans h2 (by decide))) (gv hlt) (oLt hc (cmp x.vs) (by decide) hx hy ⟨fun hb => ?_, fun hb => ?_⟩)⟩
    · rw [if_pos hb] at a4
      refine oSet upd_self rfl z2 a1 ?_
      rw [upd_upd]
      exact lp.ct ⟨(x.k - 1) / 2, x.vs.set x.k (x.vs.getD ((x.k - 1) / 2) .none), t1, t1⟩ (half_lt hb0) ((List.length_set ..).symm ▸ hlt) ((List.length_set ..).trans a2) (mem_set' a3 hy) a4 _ ⟨rfl, rfl, congrArg (fun z => some (Value.int z t1)) hh, rfl, trivial⟩
    · rw [if_neg (fun z => Bool.false_ne_true (hb.symm.trans z))] at a4
      refine vSub (m := 1) (l' := [(61, .ref hp), (112, .int x.k x.t), (95, vs.getD p .none)]) ⟨rfl, rfl, rfl, trivial⟩ fun s R => lp.bk _ (vcS_ok 3 _ _ _ _ _ ?_ R)
      exact oSet upd_self rfl z2 a1 fun s R => hn _ (fin _ _ s (upd_upd ▸ R) a4.symm)
  · have hb : ¬ sp < x.k := fun z => of_decide_eq_false hb (Int.ofNat_lt.mpr z)
    refine vSub (m := 3) (l' := [(61, .ref hp), (112, .int x.k x.t), (95, vs.getD p .none)]) ⟨rfl, rfl, rfl, trivial⟩ ?_
    exact oSet upd_self rfl z2 a1 fun s R => hn _ (fin _ _ s (upd_upd ▸ R) (a4.trans (sdGo_stop hb)).symm)
end
end Mine

namespace Mine
noncomputable def chld (lt : Value → Value → Bool) (vs : List Value) (p : Nat) : Nat :=
  if 2 * p + 2 < vs.length ∧ lt (vs.getD (2 * p + 1) .none) (vs.getD (2 * p + 2) .none) = false then 2 * p + 2 else 2 * p + 1
noncomputable def suGo (lt : Value → Value → Bool) : Nat → List Value → Nat → List Value × Nat
  | 0, vs, p => (vs, p)
  | n + 1, vs, p => if 2 * p + 1 < vs.length then suGo lt n (vs.set p (vs.getD (chld lt vs p) .none)) (chld lt vs p) else (vs, p)
noncomputable def suL (lt : Value → Value → Bool) (vs : List Value) (p : Nat) : List Value :=
  let r := suGo lt vs.length vs p
  sdL lt (r.1.set r.2 (vs.getD p .none)) p r.2
theorem chld_gt {lt : Value → Value → Bool} {vs : List Value} {p : Nat} : p < chld lt vs p := by unfold chld; split <;> omega
theorem chld_lt {lt : Value → Value → Bool} {vs : List Value} {p : Nat} (h : 2 * p + 1 < vs.length) : chld lt vs p < vs.length := by unfold chld; split <;> omega
theorem suGo_fuel {lt : Value → Value → Bool} : ∀ (n m : Nat) (vs : List Value) (p : Nat), vs.length ≤ n + p → vs.length ≤ m + p → suGo lt n vs p = suGo lt m vs p
  | 0, 0, vs, p, _, _ => rfl
  | 0, m + 1, vs, p, h, _ => by unfold suGo; rw [if_neg (by omega)]
  | n + 1, 0, vs, p, _, h => by unfold suGo; rw [if_neg (by omega)]
  | n + 1, m + 1, vs, p, h1, h2 => by
    unfold suGo
    split
    · have := chld_gt (lt := lt) (vs := vs) (p := p)
      exact suGo_fuel n m _ _ (by rw [List.length_set]; omega) (by rw [List.length_set]; omega)
    · rfl
theorem mul2 {b : Int} : IntMulOk 2 b := IntMulOk.of_left (by decide +kernel)
theorem lt_su {k m N : Nat} (h : m = N) (z : (2 * (k : Int) + 1) < (N : Int)) : 2 * k + 1 < m := by omega
theorem lt_su2 {k m N : Nat} (h : m = N) (z : (2 * (k : Int) + 1 + 1) < (N : Int)) : 2 * k + 2 < m := by omega
theorem su_lt {k m N : Nat} (h : m = N) (z : 2 * k + 1 < m) : (2 * (k : Int) + 1) < (N : Int) := by omega
theorem su_lt2 {k m N : Nat} (h : m = N) (z : 2 * k + 2 < m) : (2 * (k : Int) + 1 + 1) < (N : Int) := by omega
theorem su_less {N k j : Nat} (h : k < N) (h' : k < j) : N - j < N - k := by omega
theorem chld_r {lt : Value → Value → Bool} {vs : List Value} {p : Nat} (h : 2 * p + 2 < vs.length) (h' : lt (vs.getD (2 * p + 1) .none) (vs.getD (2 * p + 2) .none) = false) : chld lt vs p = 2 * p + 2 := if_pos ⟨h, h'⟩
theorem chld_l {lt : Value → Value → Bool} {vs : List Value} {p : Nat} (h : ¬ (2 * p + 2 < vs.length ∧ lt (vs.getD (2 * p + 1) .none) (vs.getD (2 * p + 2) .none) = false)) : chld lt vs p = 2 * p + 1 := if_neg h
section
variable {c : Cx nm prg KK gl bl} {A : Around} {E : Value → Shared → Prop} {τ : Sto} {L : Addr} {l : List (Nat × Value)} {s : Shared}
theorem CmpOk.into {P : Value → Prop} {lt : Value → Value → Bool} (hc : CmpOk c τ P lt) {τ' : Sto} (h : Fz τ τ') : CmpOk c τ' P lt :=
  fun x y px py => ⟨(hc x y px py).1, fun τ₁ L₁ l₁ A s Q E fz => (hc x y px py).2 τ₁ L₁ l₁ A s Q E fun a i e z => fz a i (h a i e z) z⟩
theorem Fz.in1 {hp : Addr} {vs vs' : List Value} (hL : τ L = none) (hp0 : τ hp = some (.ls 1 vs)) : Fz τ (upd (upd τ L (.fr l)) hp (.ls 1 vs')) := by
  refine Fz_upd (Fz_upd (fun _ _ e _ => e) fun o e => ?_) fun o e => ?_
  · rw [hL] at e; cases e
  · rw [upd_ne (ne_of_none hp0 hL), hp0] at e; cases e; rfl
theorem suGo_step {lt : Value → Value → Bool} {N q : Nat} {vs : List Value} (hb : 2 * q + 1 < vs.length) (hN : vs.length = N) : suGo lt N vs q = suGo lt N (vs.set q (vs.getD (chld lt vs q) .none)) (chld lt vs q) := by
  obtain ⟨M, rfl⟩ : ∃ M, N = M + 1 := ⟨N - 1, by omega⟩
  have := chld_gt (lt := lt) (vs := vs) (p := q)
  conv => lhs; unfold suGo
  rw [if_pos hb]
  exact suGo_fuel _ _ _ _ (by rw [List.length_set]; omega) (by rw [List.length_set]; omega)
theorem suGo_stop {lt : Value → Value → Bool} {N q : Nat} {vs : List Value} (hb : ¬ 2 * q + 1 < vs.length) (hN : 0 < N) : suGo lt N vs q = (vs, q) := by
  obtain ⟨M, rfl⟩ : ∃ M, N = M + 1 := ⟨N - 1, by omega⟩
  unfold suGo; rw [if_neg hb]
theorem sp_siftup {hp : Addr} {Q : Value → Shared → Prop} (H : Ok 12 A) (R : Rel c τ L l s) {vs : List Value} {p : Nat} {u : Tok} {P : Value → Prop} {lt : Value → Value → Bool} (hP : ∀ x ∈ vs, P x) (hc : CmpOk c τ P lt) (hp0 : τ hp = some (.ls 1 vs))
    (h1 : p < vs.length) (h2 : vs.length < 1000) (h : ∀ s', Rel c (upd τ hp (.ls 1 (suL lt vs p))) L l s' → Q .none s') :
    wpAny c.M A (call (.ref f__siftup) [.ref hp, .int p u]) Q E s := by
  refine wpAny_call ?_
  refine callW (n := 11) (lb := [(61, .ref hp), (112, .int p u)]) H R rfl (by kernel_rfl) ⟨rfl, rfl, rfl⟩ (ks := ks__siftup) rfl rfl (BindsTo.of_eq (by kernel_rfl)) rfl ?_
  have R0 := R
  clear R
  intro W s Q' E' hf hA R f1 f2 hq hn he
  dsimp only [n_heap, n_pos, n_endpos, n_startpos, n_newitem, n_childpos, n_rightpos, n_len, n__siftdown, q_nm, q_int, q_non, q_bool, q_str, q_bin, q_neg, q_not, q_cmp, q_and, q_or, q_sub, q_slLo, q_slHi, q_slRev, q_attr, q_call0, q_call1, q_call2, q_call3, q_meth0, q_meth1, q_meth2, q_list0, q_list1, q_list2, q_list3, q_lc, q_js, q_nx, q_dct, q_asg, q_setI, q_setA, q_asg2, q_asgT, q_augA, q_augI, q_exp, q_iff, q_ret, q_brk, q_cont, q_whl, q_for1, q_forT, q_tryx, q_rai, q_del, q_asr, q_asgC, q_expC, q_nil, q_cons]
  have neL : hp ≠ L := R0.neL hp0
  have hp1 : upd τ L (.fr l) hp = some (.ls 1 vs) := (upd_ne neL).trans hp0
  have hx : P (vs.getD p .none) := hP _ (gv_mem h1)
  have z1 : ∀ {k}, k < vs.length → k < 100000 := fun h => Nat.lt_trans h (Nat.lt_trans h2 (by decide))
  refine vcS_ok 9 _ [] _ _ _ ?_ R
  refine ⟨trivial, oLen hp1 (Nat.lt_trans h2 (by decide)) fun u1 => oItem hp1 rfl (z1 h1) (gv h1) ⟨mul2, fun t2 => ?_⟩⟩
  refine vWhile 9 (fun x : Wx => upd (upd τ L (.fr l)) hp (.ls 1 x.vs)) (fun x => [(61, .ref hp), (112, .int x.k x.t), (54, .int vs.length u1), (134, .int p u), (95, vs.getD p .none), (46, .int (2 * x.k + 1) x.u)]) (fun x => vs.length - x.k) (fun x => x.k < x.vs.length) (fun x => x.vs.length = vs.length) (fun x => ∀ y ∈ x.vs, P y) (fun x => suGo lt vs.length vs p = suGo lt vs.length x.vs x.k) ⟨p, vs, u, t2⟩ (upd_same hp1).symm ⟨rfl, rfl, rfl, rfl, rfl, rfl, trivial⟩ h1 rfl hP rfl ?_
  intro x F Qb a1 a2 a3 a4 lp
  refine ⟨fun hb => ?_, fun hb => ?_⟩
  · have hb : 2 * x.k + 1 < x.vs.length := lt_su a2 (of_decide_eq_true hb)
    have hch := chld_lt (lt := lt) hb
    refine fun t3 => vJoin (fun l2 => ∃ t4, Fsub [(61, .ref hp), (112, .int x.k x.t), (54, .int vs.length u1), (134, .int p u), (95, vs.getD p .none), (46, .int (chld lt x.vs x.k : Nat) t4)] l2) (fun l2 ⟨t4, fs⟩ => ?_) fun go => ?_
    · refine vSub (m := 9) fs (oItem upd_self rfl (z1 (a2 ▸ hch)) (gv hch) (oSet upd_self rfl (z1 (a2 ▸ a1)) a1 ?_))
      rw [upd_upd]
      refine ⟨mul2, fun t5 => lp.nx ⟨chld lt x.vs x.k, x.vs.set x.k (x.vs.getD (chld lt x.vs x.k) .none), t4, t5⟩ (su_less (a2 ▸ a1) chld_gt) ((List.length_set ..).symm ▸ hch) ((List.length_set ..).trans a2) (mem_set' a3 (a3 _ (gv_mem hch))) (a4.trans (suGo_step hb a2)) _ ⟨rfl, rfl, rfl, rfl, rfl, rfl, trivial⟩⟩
    · refine ⟨fun hr => ?_, fun hr => ⟨nofun, fun _ => ?_⟩⟩
      · have hr : 2 * x.k + 2 < x.vs.length := lt_su2 a2 (of_decide_eq_true hr)
        refine oItem (j := 2 * x.k + 1) upd_self rfl (z1 (a2 ▸ hb)) (gv hb) (oItem (j := 2 * x.k + 2) upd_self (Int.add_assoc ..) (z1 (a2 ▸ hr)) (gv hr) (oLt hc (Fz.in1 R0.apart hp0) (by decide) (a3 _ (gv_mem hb)) (a3 _ (gv_mem hr)) ⟨fun hlt => ?_, fun hlt => ?_⟩))
        · exact go _ ⟨t3, rfl, rfl, rfl, rfl, rfl, congrArg (fun z => some (Value.int z t3)) ((Int.add_assoc ..).trans (congrArg Nat.cast (chld_r hr (not2 hlt)).symm)), trivial⟩
        · exact go _ ⟨x.u, rfl, rfl, rfl, rfl, rfl, congrArg (fun z => some (Value.int z x.u)) (congrArg Nat.cast (chld_l fun z => Bool.false_ne_true (hlt.symm.trans (congrArg Bool.not z.2))).symm), trivial⟩
      · exact go _ ⟨x.u, rfl, rfl, rfl, rfl, rfl, congrArg (fun z => some (Value.int z x.u)) (congrArg Nat.cast (chld_l fun z => of_decide_eq_false hr (su_lt2 a2 z.1)).symm), trivial⟩
  · have hb : ¬ 2 * x.k + 1 < x.vs.length := fun z => of_decide_eq_false hb (su_lt a2 z)
    have e2 : suL lt vs p = sdL lt (x.vs.set x.k (vs.getD p .none)) p x.k := by unfold suL; rw [a4, suGo_stop hb (Nat.lt_of_le_of_lt (Nat.zero_le _) h1)]
    refine vSub (m := 4) (l' := [(61, .ref hp), (112, .int x.k x.t), (134, .int p u), (95, vs.getD p .none)]) ⟨rfl, rfl, rfl, rfl, trivial⟩ (oSet upd_self rfl (z1 (a2 ▸ a1)) a1 ?_)
    rw [upd_upd]
    refine ⟨rfl, fun s Q E R q => sp_siftdown (W.H.le (by decide)) R (P := P) (lt := lt) (mem_set' a3 hx) (hc.into (Fz.in1 R0.apart hp0)) upd_self ((List.length_set ..).symm ▸ a1) ((List.length_set ..).symm ▸ a2 ▸ h2) fun s R => q _ _ s ?_ R⟩
    intro s R
    rw [upd_upd, ← e2] at R
    exact hn _ (h _ (R.out1 neL R0.apart))
end
end Mine

namespace Mine
noncomputable def hpush (lt : Value → Value → Bool) (vs : List Value) (x : Value) : List Value := sdL lt (vs ++ [x]) 0 vs.length
noncomputable def hpop (lt : Value → Value → Bool) (p : List Value) (y : Value) : Value × List Value := match p with
  | [] => (y, [])
  | z :: r => (z, suL lt (y :: r) 0)
noncomputable def hfy (lt : Value → Value → Bool) : Nat → List Value → List Value
  | 0, vs => vs
  | n + 1, vs => hfy lt n (suL lt vs n)
theorem sdGo_length {lt : Value → Value → Bool} {x : Value} {sp : Nat} : ∀ (n p : Nat) (vs : List Value), (sdGo lt x sp n vs p).length = vs.length
  | 0, p, vs => by simp [sdGo]
  | n + 1, p, vs => by
    unfold sdGo
    split
    · split
      · rw [sdGo_length n]; simp
      · simp
    · simp
theorem sdL_length {lt : Value → Value → Bool} {sp p : Nat} {vs : List Value} : (sdL lt vs sp p).length = vs.length := sdGo_length _ _ _
theorem suGo_length {lt : Value → Value → Bool} : ∀ (n p : Nat) (vs : List Value), (suGo lt n vs p).1.length = vs.length
  | 0, p, vs => rfl
  | n + 1, p, vs => by
    unfold suGo
    split
    · rw [suGo_length n]; simp
    · rfl
theorem suL_length {lt : Value → Value → Bool} {p : Nat} {vs : List Value} : (suL lt vs p).length = vs.length := by
  unfold suL; rw [sdL_length, List.length_set, suGo_length]
theorem mem_sdGo {lt : Value → Value → Bool} {x : Value} {sp : Nat} {P : Value → Prop} (hx : P x) : ∀ (n p : Nat) (vs : List Value), (∀ y ∈ vs, P y) → p < vs.length → ∀ y ∈ sdGo lt x sp n vs p, P y
  | 0, p, vs, h, _, y, hy => by
    rcases List.mem_or_eq_of_mem_set (show y ∈ vs.set p x from hy) with h' | rfl
    · exact h y h'
    · exact hx
  | n + 1, p, vs, h, hp, y, hy => by
    have fin : y ∈ vs.set p x → P y := fun hy => by
      rcases List.mem_or_eq_of_mem_set hy with h' | rfl
      · exact h y h'
      · exact hx
    unfold sdGo at hy
    split at hy
    · split at hy
      · refine mem_sdGo hx n _ _ (fun z hz => ?_) (by simp; omega) y hy
        rcases List.mem_or_eq_of_mem_set hz with h' | rfl
        · exact h z h'
        · exact h _ (gv_mem (by omega))
      · exact fin hy
    · exact fin hy
theorem mem_sdL {lt : Value → Value → Bool} {sp p : Nat} {vs : List Value} {P : Value → Prop} (h : ∀ y ∈ vs, P y) (hp : p < vs.length) : ∀ y ∈ sdL lt vs sp p, P y :=
  mem_sdGo (h _ (gv_mem hp)) _ _ _ h hp
theorem mem_suGo {lt : Value → Value → Bool} {P : Value → Prop} : ∀ (n p : Nat) (vs : List Value), (∀ y ∈ vs, P y) → p < vs.length → (∀ y ∈ (suGo lt n vs p).1, P y) ∧ (suGo lt n vs p).2 < vs.length
  | 0, p, vs, h, hp => ⟨h, hp⟩
  | n + 1, p, vs, h, hp => by
    unfold suGo
    split
    · rename_i q
      have := mem_suGo (lt := lt) n (chld lt vs p) (vs.set p (vs.getD (chld lt vs p) .none)) (fun z hz => by
        rcases List.mem_or_eq_of_mem_set hz with h' | rfl
        · exact h z h'
        · exact h _ (gv_mem (chld_lt q))) (by simp; exact chld_lt q)
      simpa using this
    · exact ⟨h, hp⟩
theorem mem_suL {lt : Value → Value → Bool} {p : Nat} {vs : List Value} {P : Value → Prop} (h : ∀ y ∈ vs, P y) (hp : p < vs.length) : ∀ y ∈ suL lt vs p, P y := by
  have q := mem_suGo (lt := lt) vs.length p vs h hp
  unfold suL
  refine mem_sdL (fun y hy => ?_) (by rw [List.length_set, suGo_length]; exact q.2)
  rcases List.mem_or_eq_of_mem_set hy with h' | rfl
  · exact q.1 y h'
  · exact h _ (gv_mem hp)
theorem fdiv2 (k : Nat) : ((k : Nat) : Int).fdiv 2 = ((k / 2 : Nat) : Int) := by rw [Int.fdiv_eq_ediv_of_nonneg _ (by decide)]; rfl
theorem rev_at {m k : Nat} (h : k < m) : ((m : Int) - 1 + (k : Int) * -1) = ((m - k - 1 : Nat) : Int) := by omega
theorem rev_lt {m k N : Nat} (h : k < m / 2) (e : N = m) : m / 2 - k - 1 < N := by omega
theorem hfy_step {lt : Value → Value → Bool} {m k : Nat} {vs : List Value} (h : k < m) : hfy lt (m - k) vs = hfy lt (m - (k + 1)) (suL lt vs (m - k - 1)) := by
  obtain ⟨N, hN⟩ : ∃ N, m - k = N + 1 := ⟨m - k - 1, by omega⟩
  rw [show m - (k + 1) = N by omega, hN]; rfl
theorem del_upd {τ : Sto} {a : Addr} {i : It} (h : τ a = none) : del (upd τ a i) a = τ := by
  funext b; unfold upd del
  by_cases q : b = a
  · rw [if_pos q, q, h]
  · rw [if_neg q]; exact if_neg q
section
variable {c : Cx nm prg KK gl bl} {A : Around} {E : Value → Shared → Prop} {τ : Sto} {L : Addr} {l : List (Nat × Value)} {s : Shared}
theorem mem_snoc {P : Value → Prop} {vs : List Value} {x : Value} (hP : ∀ x ∈ vs, P x) (hx : P x) : ∀ y ∈ vs ++ [x], P y := fun y hy => by
  rcases List.mem_append.mp hy with hy | hy
  · exact hP y hy
  · rw [List.mem_singleton.mp hy]; exact hx
theorem len_snoc {vs : List Value} {x : Value} : (((vs ++ [x]).length : Nat) : Int) - 1 = (vs.length : Nat) := by simp
theorem sp_heappush {hp : Addr} {x : Value} {Q : Value → Shared → Prop} (H : Ok 12 A) (R : Rel c τ L l s) {vs : List Value} {P : Value → Prop} {lt : Value → Value → Bool} (hP : ∀ x ∈ vs, P x) (hx : P x) (hc : CmpOk c τ P lt) (hp0 : τ hp = some (.ls 1 vs))
    (h2 : vs.length < 900) (h : ∀ s', Rel c (upd τ hp (.ls 1 (hpush lt vs x))) L l s' → Q .none s') :
    wpAny c.M A (call (.ref f_heappush) [.ref hp, x]) Q E s := by
  refine wpAny_call ?_
  refine callW (n := 11) (lb := [(61, .ref hp), (70, x)]) H R rfl (by kernel_rfl) ⟨rfl, rfl, rfl⟩ (ks := ks_heappush) rfl rfl (BindsTo.of_eq (by kernel_rfl)) rfl ?_
  have R0 := R
  clear R
  intro W s Q' E' hf hA R f1 f2 hq hn he
  dsimp only [n_heap, n_item, n__siftdown, n_len, n_append, q_nm, q_int, q_non, q_bool, q_str, q_bin, q_neg, q_not, q_cmp, q_and, q_or, q_sub, q_slLo, q_slHi, q_slRev, q_attr, q_call0, q_call1, q_call2, q_call3, q_meth0, q_meth1, q_meth2, q_list0, q_list1, q_list2, q_list3, q_lc, q_js, q_nx, q_dct, q_asg, q_setI, q_setA, q_asg2, q_asgT, q_augA, q_augI, q_exp, q_iff, q_ret, q_brk, q_cont, q_whl, q_for1, q_forT, q_tryx, q_rai, q_del, q_asr, q_asgC, q_expC, q_nil, q_cons]
  have neL : hp ≠ L := R0.neL hp0
  have hp1 : upd τ L (.fr l) hp = some (.ls 1 vs) := (upd_ne neL).trans hp0
  have z : (vs ++ [x]).length < 1000 := by rw [List.length_append]; exact Nat.lt_of_lt_of_le (Nat.add_lt_add_right h2 1) (by decide)
  refine vcS_ok 9 _ [] _ _ _ ?_ R
  refine omLs PySem.F.slot_list_append PySem.F.type_list_append hp1 ?_
  refine ⟨trivial, oAppend hp1 (Nat.lt_trans h2 (by decide)) ⟨rfl, trivial, oLen upd_self (Nat.lt_trans z (by decide)) fun u1 t0 t1 s Q E R q => ?_⟩⟩
  rw [len_snoc]
  refine sp_siftdown (sp := 0) (p := vs.length) (W.H.le (by decide)) R (P := P) (lt := lt) (mem_snoc hP hx) (hc.into (Fz.in1 R0.apart hp0)) upd_self (by rw [List.length_append]; exact Nat.lt_succ_self _) z fun s R => q _ _ s ?_ R
  intro s R
  rw [upd_upd] at R
  exact hn _ (h _ (R.out1 neL R0.apart))
theorem sp_heappop {hp : Addr} {Q : Value → Shared → Prop} (H : Ok 14 A) (R : Rel c τ L l s) {p : List Value} {y : Value} {P : Value → Prop} {lt : Value → Value → Bool} (hP : ∀ x ∈ p, P x) (hy : P y) (hc : CmpOk c τ P lt) (hp0 : τ hp = some (.ls 1 (p ++ [y])))
    (h2 : p.length < 900) (h : ∀ s', Rel c (upd τ hp (.ls 1 (hpop lt p y).2)) L l s' → Q (hpop lt p y).1 s') :
    wpAny c.M A (call (.ref f_heappop) [.ref hp]) Q E s := by
  refine wpAny_call ?_
  refine callW (n := 13) (lb := [(61, .ref hp)]) H R rfl (by kernel_rfl) ⟨rfl, rfl, rfl⟩ (ks := ks_heappop) rfl rfl (BindsTo.of_eq (by kernel_rfl)) rfl ?_
  have R0 := R
  clear R
  intro W s Q' E' hf hA R f1 f2 hq hn he
  dsimp only [n_heap, n_lastelt, n_returnitem, n__siftup, n_pop, q_nm, q_int, q_non, q_bool, q_str, q_bin, q_neg, q_not, q_cmp, q_and, q_or, q_sub, q_slLo, q_slHi, q_slRev, q_attr, q_call0, q_call1, q_call2, q_call3, q_meth0, q_meth1, q_meth2, q_list0, q_list1, q_list2, q_list3, q_lc, q_js, q_nx, q_dct, q_asg, q_setI, q_setA, q_asg2, q_asgT, q_augA, q_augI, q_exp, q_iff, q_ret, q_brk, q_cont, q_whl, q_for1, q_forT, q_tryx, q_rai, q_del, q_asr, q_asgC, q_expC, q_nil, q_cons]
  have neL : hp ≠ L := R0.neL hp0
  have hp1 : upd τ L (.fr l) hp = some (.ls 1 (p ++ [y])) := (upd_ne neL).trans hp0
  refine vcS_ok 9 _ [] _ _ _ ?_ R
  refine omLs PySem.F.slot_list_pop PySem.F.type_list_pop hp1 ⟨trivial, oPop hp1 (Nat.lt_trans h2 (by decide)) ⟨1, p, upd_self, Nat.lt_trans h2 (by decide), ?_⟩⟩
  cases p with
  | nil => exact ⟨nofun, fun _ => vSub (m := 2) (l' := [(78, y)]) ⟨rfl, trivial⟩ fun s R => hq _ _ (h _ (Rel.out1 R neL R0.apart))⟩
  | cons z r =>
    refine ⟨fun _ t0 => oItem (j := 0) (vs := z :: r) upd_self rfl (by decide) rfl fun t1 => oSet (j := 0) (vs := z :: r) upd_self rfl (by decide) (Nat.zero_lt_succ _) ⟨rfl, fun t2 s Q E R q => ?_⟩, nofun⟩
    rw [upd_upd] at R
    refine sp_siftup (p := 0) (vs := y :: r) (W.H.le (by decide)) R (P := P) (lt := lt) (fun x hx => (List.mem_cons.mp hx).elim (fun e => e ▸ hy) fun hx => hP x (.tail _ hx)) (hc.into (Fz.in1 R0.apart hp0)) upd_self (Nat.zero_lt_succ _) (Nat.lt_trans h2 (by decide)) fun s R => q _ _ s ?_ R
    rw [upd_upd]
    exact fun s R => hq _ _ (h _ (Rel.out1 R neL R0.apart))
theorem sp_heapify {hp : Addr} {Q : Value → Shared → Prop} (H : Ok 14 A) (R : Rel c τ L l s) {vs : List Value} {P : Value → Prop} {lt : Value → Value → Bool} (hP : ∀ x ∈ vs, P x) (hc : CmpOk c τ P lt) (hp0 : τ hp = some (.ls 1 vs))
    (h2 : vs.length < 900) (h : ∀ s', Rel c (upd τ hp (.ls 1 (hfy lt (vs.length / 2) vs))) L l s' → Q .none s') :
    wpAny c.M A (call (.ref f_heapify) [.ref hp]) Q E s := by
  refine wpAny_call ?_
  refine callW (n := 13) (lb := [(146, .ref hp)]) H R rfl (by kernel_rfl) ⟨rfl, rfl, rfl⟩ (ks := ks_heapify) rfl rfl (BindsTo.of_eq (by kernel_rfl)) rfl ?_
  have R0 := R
  clear R
  intro W s Q' E' hf hA R f1 f2 hq hn he
  dsimp only [n_x, n_n, n_i, n_len, n_reversed, n_range, n__siftup, q_nm, q_int, q_non, q_bool, q_str, q_bin, q_neg, q_not, q_cmp, q_and, q_or, q_sub, q_slLo, q_slHi, q_slRev, q_attr, q_call0, q_call1, q_call2, q_call3, q_meth0, q_meth1, q_meth2, q_list0, q_list1, q_list2, q_list3, q_lc, q_js, q_nx, q_dct, q_asg, q_setI, q_setA, q_asg2, q_asgT, q_augA, q_augI, q_exp, q_iff, q_ret, q_brk, q_cont, q_whl, q_for1, q_forT, q_tryx, q_rai, q_del, q_asr, q_asgC, q_expC, q_nil, q_cons]
  have neL : hp ≠ L := R0.neL hp0
  have hp1 : upd τ L (.fr l) hp = some (.ls 1 vs) := (upd_ne neL).trans hp0
  refine vcS_ok 9 _ [] _ _ _ ?_ R
  refine ⟨trivial, oLen hp1 (Nat.lt_trans h2 (by decide)) fun u => ⟨trivial, trivial, ⟨by decide, by decide⟩, fun t0 => oRange fun ra n1 n2 => oRevR n1 (fdiv2 _) (Nat.lt_of_le_of_lt (Nat.div_le_self _ _) (Nat.lt_trans h2 (by decide))) fun it n3 n4 => ?_⟩⟩
  have e0 := upd_same hp1
  rw [← e0]
  refine forKi (α := List Value) (N := 3) (σ := fun vs' => upd (upd τ L (.fr l)) hp (.ls 1 vs')) (fr := fun _ => [(146, .ref hp)]) (F1 := fun _ vs' => vs'.length = vs.length) (F2 := fun _ vs' => ∀ x ∈ vs', P x) (F3 := fun k vs' => hfy lt (vs.length / 2) vs = hfy lt (vs.length / 2 - k) vs') ⟨by decide, fun it => drvR, fun _ _ _ _ _ => trivial, ?_, ?_⟩ vs ⟨rfl, trivial⟩ rfl hP rfl (by rw [e0]; exact n3)
  · rintro k _ it vs' F Qb hk ⟨t1, rfl⟩ a1 a2 a3 n5 n6 lp
    refine ⟨_, tgt rfl, rfl, fun s Q E R q => ?_⟩
    rw [rev_at hk]
    have neI : it ≠ hp := Ne.symm (ne_of_none upd_self n5)
    refine sp_siftup (P := P) (lt := lt) (vs := vs') (W.H.le (by decide)) R a2 (hc.into (Fz_upd (Fz.in1 R0.apart hp0) fun j z => by rw [n5] at z; cases z)) ((upd_ne (Ne.symm neI)).trans upd_self) (rev_lt hk a1) (a1 ▸ Nat.lt_trans h2 (by decide)) fun s R => q _ _ s ?_ R
    rw [upd_comm neI, upd_upd]
    exact lp.nx (suL lt vs' (vs.length / 2 - k - 1), _) ⟨upd_self, del_upd ((upd_ne neI).trans ((upd_ne neI).symm.trans n5))⟩ (suL_length.trans a1) (mem_suL a2 (rev_lt hk a1)) (a3.trans (hfy_step hk)) trivial _ ⟨rfl, trivial⟩
  · intro vs' a1 a2 a3 s R
    rw [Nat.sub_self] at a3
    exact vcS_ok 1 [] [] _ _ _ (fun s R => hn _ (h _ (a3.symm ▸ Rel.out1 R neL R0.apart))) R
end
end Mine

namespace Mine
section
variable {c : Cx nm prg KK gl bl} {A : Around} {E : Value → Shared → Prop} {τ : Sto} {L : Addr} {l : List (Nat × Value)} {s : Shared}
noncomputable abbrev cT : Addr := c_TopologicalSorter
noncomputable abbrev cN : Addr := c__NodeInfo
theorem kT_get (P : Params) (n : Str) : plainGet (KK P) cT n = true := by kernel_rfl
theorem kT_dict (P : Params) : hasDictIn (KK P) cT = true := by kernel_rfl
theorem kT_set (P : Params) : findIn (KK P) (.ref cT) "__setattr__" = some (some (.builtin "object.__setattr__")) := by kernel_rfl
theorem kT_over (P : Params) : plainOver (KK P) cT = true := by kernel_rfl
theorem kT_make (P : Params) : makesIn (KK P) cT = true := by kernel_rfl
theorem kT_init (P : Params) : findIn (KK P) (.ref cT) "__init__" = some (some (.ref f_TopologicalSorter___init__)) := by kernel_rfl
theorem kT_initf (P : Params) : typeIn (KK P) (.ref f_TopologicalSorter___init__) = some (.type "function") := by kernel_rfl
theorem kN_get (P : Params) (n : Str) : plainGet (KK P) cN n = true := by kernel_rfl
theorem kN_cls (P : Params) : isClsIn (KK P) cN = true := by kernel_rfl
theorem kN_set (P : Params) : findIn (KK P) (.ref cN) "__setattr__" = some (some (.builtin "object.__setattr__")) := by kernel_rfl
theorem kN_over (P : Params) : plainOver (KK P) cN = true := by kernel_rfl
theorem kN_make (P : Params) : makesIn (KK P) cN = true := by kernel_rfl
theorem kN_init (P : Params) : findIn (KK P) (.ref cN) "__init__" = some (some (.ref f__NodeInfo___init__)) := by kernel_rfl
theorem kN_initf (P : Params) : typeIn (KK P) (.ref f__NodeInfo___init__) = some (.type "function") := by kernel_rfl
noncomputable def isSl (i : Nat) (p : Addr) (j : Nat) : Prop := (i = 97 ∧ p = p_node ∧ j = 0) ∨ (i = 101 ∧ p = p_npredecessors ∧ j = 1) ∨ (i = 140 ∧ p = p_successors ∧ j = 2)
theorem kN_find (P : Params) {i p j} (h : isSl i p j) : findIn (KK P) (.ref cN) (nm i) = some (some (.ref p)) := by rcases h with ⟨rfl, rfl, rfl⟩ | ⟨rfl, rfl, rfl⟩ | ⟨rfl, rfl, rfl⟩ <;> kernel_rfl
theorem kN_special (P : Params) {i p j} (h : isSl i p j) : specialIn (KK P) (.ref p) "__get__" = some (some (.builtin "member_descriptor.__get__")) := by rcases h with ⟨rfl, rfl, rfl⟩ | ⟨rfl, rfl, rfl⟩ | ⟨rfl, rfl, rfl⟩ <;> kernel_rfl
theorem kN_takes (P : Params) {i p j} (h : isSl i p j) : takesIn (KK P) (.ref p) = some true := by rcases h with ⟨rfl, rfl, rfl⟩ | ⟨rfl, rfl, rfl⟩ | ⟨rfl, rfl, rfl⟩ <;> kernel_rfl
theorem kN_slot (P : Params) {i p j} (h : isSl i p j) : slotIn (KK P) p cN = some j := by rcases h with ⟨rfl, rfl, rfl⟩ | ⟨rfl, rfl, rfl⟩ | ⟨rfl, rfl, rfl⟩ <;> kernel_rfl
theorem kN_taker (P : Params) {i p j} (h : isSl i p j) : takerIn (KK P) cN (nm i) = some (some (.ref p)) := by rcases h with ⟨rfl, rfl, rfl⟩ | ⟨rfl, rfl, rfl⟩ | ⟨rfl, rfl, rfl⟩ <;> kernel_rfl
theorem kN_type (P : Params) {i p j} (h : isSl i p j) : typeIn (KK P) (.ref p) = some (.type "member_descriptor") := by rcases h with ⟨rfl, rfl, rfl⟩ | ⟨rfl, rfl, rfl⟩ | ⟨rfl, rfl, rfl⟩ <;> kernel_rfl
theorem isSl.lt {i p j} (h : isSl i p j) : j < 1000 := by rcases h with ⟨rfl, rfl, rfl⟩ | ⟨rfl, rfl, rfl⟩ | ⟨rfl, rfl, rfl⟩ <;> omega
theorem sl0 : isSl 97 p_node 0 := .inl ⟨rfl, rfl, rfl⟩
theorem sl1 : isSl 101 p_npredecessors 1 := .inr (.inl ⟨rfl, rfl, rfl⟩)
theorem sl2 : isSl 140 p_successors 2 := .inr (.inr ⟨rfl, rfl, rfl⟩)
noncomputable def isAt (i : Nat) : Prop := i = 29 ∨ i = 30 ∨ i = 31 ∨ i = 32
theorem kT_own (P : Params) {i} (h : isAt i) : findIn (KK P) (.ref cT) (nm i) = some none := by rcases h with rfl | rfl | rfl | rfl <;> kernel_rfl
theorem kT_taker (P : Params) {i} (h : isAt i) : takerIn (KK P) cT (nm i) = some none := by rcases h with rfl | rfl | rfl | rfl <;> kernel_rfl
theorem noGet0 (P : Params) : noGet (KK P) none = true := rfl

theorem tG {x dx : Addr} {kvs : List (Nat × Value)} {i : Nat} {v : Value} {expr : Bool} {Q : Value → Shared → Prop} (R : Rel c τ L l s) (hi : isAt i) (hx : τ x = some (.ob 2 (instObj cT dx))) (hd : τ dx = some (atr nm 2 kvs)) (hv : kvs.lookup i = some v) (hv' : handedIn v = true)
    (h : ∀ s', Rel c τ L l s' → Q v s') : wpAny c.M A (getAttr (.ref x) (nm i) expr) Q E s :=
  gAttr R hx hd (kT_get _ _) (kT_dict _) (kT_own _ hi) (noGet0 _) hv hv' h
theorem tS {x dx : Addr} {kvs : List (Nat × Value)} {i : Nat} {v : Value} {Q : Unit → Shared → Prop} (R : Rel c τ L l s) (hi : isAt i) (hx : τ x = some (.ob 2 (instObj cT dx))) (hd : τ dx = some (atr nm 2 kvs)) (hz : kvs.length < 900)
    (h : ∀ s', Rel c (upd τ dx (atr nm 2 (put kvs i v))) L l s' → Q () s') : wpAny c.M A (setAttr (.ref x) (nm i) v) Q E s :=
  sAttr R hx hd (kT_set _) (kT_over _) (kT_taker _ hi) (kT_dict _) hz h
theorem tM {x dx f : Addr} {kvs : List (Nat × Value)} {i : Nat} {pl : Sem Bool} {Q : Value × List Value → Shared → Prop} (R : Rel c τ L l s) (hx : τ x = some (.ob 2 (instObj cT dx))) (hd : τ dx = some (atr nm 2 kvs)) (hf : findIn c.K (.ref cT) (nm i) = some (some (.ref f))) (ht : isFn c.K (.ref f) = true) (hv : kvs.lookup i = none)
    (h : Q (.ref f, [.ref x]) s) : wpAny c.M A (getMethod (.ref x) (nm i) pl) Q E s := mInst R hx hd (kT_get _ _) hf ht hv h
theorem nG {x dx p : Addr} {sl : List (Option Value)} {i j u : Nat} {v : Value} {expr : Bool} {Q : Value → Shared → Prop} (R : Rel c τ L l s) (hi : isSl i p j) (hx : τ x = some (.ob 2 (sloObj cN dx sl))) (hd : τ dx = some (atr nm u [])) (hv : (sl[j]?).join = some v) (hh : handedIn v = true)
    (h : ∀ s', Rel c τ L l s' → Q v s') : wpAny c.M A (getAttr (.ref x) (nm i) expr) Q E s :=
  gSlot R hx hd (kN_get _ _) (kN_cls _) (kN_find _ hi) (kN_special _ hi) (kN_takes _ hi) (kN_slot _ hi) hv hh h
theorem nS {x dx p : Addr} {sl sl' : List (Option Value)} {i j u : Nat} {v : Value} {Q : Unit → Shared → Prop} (R : Rel c τ L l s) (hi : isSl i p j) (hx : τ x = some (.ob 2 (sloObj cN dx sl))) (hd : τ dx = some (atr nm u [])) (e : (sl ++ List.replicate (j + 1 - sl.length) none).set j (some v) = sl')
    (h : ∀ s', Rel c (upd τ x (.ob 2 (sloObj cN dx sl'))) L l s' → Q () s') : wpAny c.M A (setAttr (.ref x) (nm i) v) Q E s :=
  sSlot R hx hd (kN_set _) (kN_over _) (kN_taker _ hi) (kN_type _ hi) (kN_slot _ hi) hi.lt (e ▸ h)
section
variable {ks : List (Nat × NameKind)} {cs : List (Nat × Addr)} {n : Nat} {W : Wk c ks cs n}
theorem oTG {x dx : Addr} {kvs : List (Nat × Value)} {i : Nat} {v : Value} {K : Value → Sto → Prop} (hi : isAt i) (hx : τ x = some (.ob 2 (instObj cT dx))) (hd : τ dx = some (atr nm 2 kvs)) (hv : kvs.lookup i = some v) (hv' : handedIn v = true) (h : K v τ) : Op W τ l (getAttr (.ref x) (nm i) true) K := fun s Q E R q => tG R hi hx hd hv hv' fun s R => q _ _ s h R
theorem oTS {x dx : Addr} {kvs : List (Nat × Value)} {i : Nat} {v : Value} {K : Sto → Prop} (hi : isAt i) (hx : τ x = some (.ob 2 (instObj cT dx))) (hd : τ dx = some (atr nm 2 kvs)) (hz : kvs.length < 900) (h : K (upd τ dx (atr nm 2 (put kvs i v)))) : OpU W τ l (setAttr (.ref x) (nm i) v) K := fun s Q E R q => tS R hi hx hd hz fun s R => q _ s h R
theorem omT {x dx f : Addr} {kvs : List (Nat × Value)} {i : Nat} {K : Value → Prop} (hx : τ x = some (.ob 2 (instObj cT dx))) (hd : τ dx = some (atr nm 2 kvs)) (hf : findIn c.K (.ref cT) (nm i) = some (some (.ref f))) (ht : isFn c.K (.ref f) = true) (hv : kvs.lookup i = none) (h : K (.ref f)) : OpM W τ l (.ref x) (nm i) K := fun pl s Q E R q => tM R hx hd hf ht hv (q _ s h R)
theorem oNG {x dx p : Addr} {sl : List (Option Value)} {i j u : Nat} {v : Value} {K : Value → Sto → Prop} (hi : isSl i p j) (hx : τ x = some (.ob 2 (sloObj cN dx sl))) (hd : τ dx = some (atr nm u [])) (hv : (sl[j]?).join = some v) (hh : handedIn v = true) (h : K v τ) : Op W τ l (getAttr (.ref x) (nm i) true) K := fun s Q E R q => nG R hi hx hd hv hh fun s R => q _ _ s h R
theorem oNS {x dx p : Addr} {sl sl' : List (Option Value)} {i j u : Nat} {v : Value} {K : Sto → Prop} (hi : isSl i p j) (hx : τ x = some (.ob 2 (sloObj cN dx sl))) (hd : τ dx = some (atr nm u [])) (e : (sl ++ List.replicate (j + 1 - sl.length) none).set j (some v) = sl') (h : K (upd τ x (.ob 2 (sloObj cN dx sl')))) : OpU W τ l (setAttr (.ref x) (nm i) v) K := fun s Q E R q => nS R hi hx hd e fun s R => q _ s h R
end
theorem sp_newInfo {k : Int} {u : Tok} {Q : Value → Shared → Prop} (H : Ok 10 A) (R : Rel c τ L l s)
    (h : ∀ x dx sa t s', τ x = none → τ dx = none → τ sa = none → x ≠ dx → x ≠ sa → dx ≠ sa → x ≠ L → dx ≠ L → sa ≠ L → Rel c (upd (upd (upd τ dx (atr nm 3 [])) sa (.ls 2 [])) x (.ob 2 (sloObj cN dx [some (.int k u), some (.int 0 t), some (.ref sa)]))) L l s' → Q (.ref x) s') :
    wpAny c.M A (call (.ref cN) [.int k u]) Q E s := by
  have R0' := R
  refine mkInst (n := 9) H R (kN_make _) (kN_init _) (kN_initf _) 2 ?_
  intro x dx A' s H n1 n2 n3 n4 n5 R
  refine callW (n := 8) (lb := [(128, .ref x), (97, .int k u)]) H R rfl (by kernel_rfl) ⟨rfl, rfl, rfl⟩ (ks := ks__NodeInfo___init__) rfl rfl (BindsTo.of_eq (by kernel_rfl)) rfl ?_
  have R0 := R
  clear R
  intro W s Q' E' hf hA R f1 f2 hq hn he
  dsimp only [n_self, n_node, n_npredecessors, n_successors, q_nm, q_int, q_non, q_bool, q_str, q_bin, q_neg, q_not, q_cmp, q_and, q_or, q_sub, q_slLo, q_slHi, q_slRev, q_attr, q_call0, q_call1, q_call2, q_call3, q_meth0, q_meth1, q_meth2, q_list0, q_list1, q_list2, q_list3, q_lc, q_js, q_nx, q_dct, q_asg, q_setI, q_setA, q_asg2, q_asgT, q_augA, q_augI, q_exp, q_iff, q_ret, q_brk, q_cont, q_whl, q_for1, q_forT, q_tryx, q_rai, q_del, q_asr, q_asgC, q_expC, q_nil, q_cons]
  have hx : upd (upd (upd τ dx (atr nm 2 [])) x (.ob 2 (instObj cN dx))) L (.fr l) x = some (.ob 2 (sloObj cN dx [])) := (upd_ne n4).trans upd_self
  have hd : ∀ i, upd (upd (upd (upd τ dx (atr nm 2 [])) x (.ob 2 (instObj cN dx))) L (.fr l)) x i dx = some (atr nm 2 []) := fun i => (upd_ne (Ne.symm n3)).trans ((upd_ne n5).trans ((upd_ne (Ne.symm n3)).trans upd_self))
  refine vcS_ok 9 _ [] _ _ _ ?_ R
  refine oNS (sl' := [some (.int k u)]) sl0 hx ((upd_ne n5).trans ((upd_ne (Ne.symm n3)).trans upd_self)) rfl fun t1 => oNS (sl' := [some (.int k u), some (.int 0 t1)]) sl1 upd_self (hd _) rfl fun sa m1 m2 => ?_
  have hsx : sa ≠ x := Ne.symm (ne_of_none upd_self m1)
  have m1 := (upd_ne hsx).symm.trans ((upd_ne hsx).symm.trans m1)
  have hsL : sa ≠ L := Ne.symm (ne_of_none upd_self m1)
  have m1 := (upd_ne hsx).symm.trans ((upd_ne hsL).symm.trans m1)
  have hsd : sa ≠ dx := Ne.symm (ne_of_none upd_self m1)
  have m1 := (upd_ne hsd).symm.trans m1
  refine oNS (u := 2) (sl' := [some (.int k u), some (.int 0 t1), some (.ref sa)]) sl2 ((upd_ne (Ne.symm hsx)).trans upd_self) ((upd_ne (Ne.symm hsd)).trans ((upd_ne (Ne.symm n3)).trans (hd _))) rfl fun s R => hn _ ⟨rfl, h x dx sa t1 _ n1 n2 m1 n3 (Ne.symm hsx) (Ne.symm hsd) n4 n5 hsL ?_⟩
  have R := (R.tag (t' := 2) ((upd_ne hsx).trans upd_self)).retell (a := dx) (i' := atr nm 3 []) ((upd_ne (Ne.symm hsd)).trans ((upd_ne (Ne.symm n3)).trans ((upd_ne (Ne.symm hsd)).trans ((upd_ne (Ne.symm n3)).trans (hd _))))) fun _ x => x
  refine R.back ((upd_ne (Ne.symm n5)).trans ((upd_ne (Ne.symm hsL)).trans ((upd_ne (Ne.symm n4)).trans ((upd_ne (Ne.symm hsL)).trans ((upd_ne (Ne.symm n4)).trans ((upd_ne (Ne.symm n4)).trans upd_self)))))) (fun a i e => ?_) ((upd_ne (Ne.symm n4)).trans ((upd_ne (Ne.symm hsL)).trans ((upd_ne (Ne.symm n5)).trans R0'.apart)))
  unfold upd at e ⊢
  by_cases q1 : a = dx
  · rw [if_pos q1]; rwa [if_neg (fun z => n3 (z.symm.trans q1)), if_neg (fun z => hsd (z.symm.trans q1)), if_pos q1] at e
  · rw [if_neg q1]
    by_cases q2 : a = sa
    · rw [if_pos q2]; rwa [if_neg (fun z => hsx (q2.symm.trans z)), if_pos q2] at e
    · rw [if_neg q2]
      by_cases q3 : a = x
      · rw [if_pos q3]; rwa [if_pos q3] at e
      · rw [if_neg q3, if_neg q3, if_neg q3, if_neg q2]
        rw [if_neg q3, if_neg q2, if_neg q1] at e
        have q4 : a ≠ L := ne_of_none e R0'.apart
        rw [if_neg q4, if_neg q3, if_neg q1]; exact e
end
end Mine

namespace Mine
structure Nd where
  k : Int
  np : Int
  sc : List Int
  ia : Addr
  di : Addr
  sa : Addr
noncomputable def It.tag : It → Nat
  | .ob t _ => t
  | .ls t _ => t
  | .pr t _ => t
  | .fr _ => 9
noncomputable def It.own (i : It) : Bool := Nat.ble 2 i.tag && Nat.ble i.tag 6
theorem ne_of_tag {f : Sto} {a b : Addr} {i j : It} (ha : f a = some i) (hb : f b = some j) (h : Nat.beq i.tag j.tag = false := by rfl) : a ≠ b := ne_of_it ha hb fun q => by rw [q, Nat.beq_refl] at h; cases h
noncomputable def Keep2 (τ τ' : Sto) : Prop := ∀ a i, τ a = some i → i.own = false → τ' a = some i
theorem Keep2.refl {τ : Sto} : Keep2 τ τ := fun _ _ e _ => e
theorem Keep2.trans {τ τ₁ τ₂ : Sto} (h : Keep2 τ τ₁) (h' : Keep2 τ₁ τ₂) : Keep2 τ τ₂ := fun a i e t => h' a i (h a i e t) t
theorem Keep2_upd {τ τ₁ : Sto} {a : Addr} {i : It} (h : Keep2 τ τ₁) (ha : ∀ j, τ₁ a = some j → j.own = true) : Keep2 τ (upd τ₁ a i) := fun b j e t => by
  have := h b j e t
  rw [upd_ne]
  · exact this
  · rintro rfl; rw [ha _ this] at t; cases t
section
variable {c : Cx nm prg KK gl bl} {A : Around} {E : Value → Shared → Prop} {τ τ' : Sto} {L : Addr} {l : List (Nat × Value)} {s : Shared}
noncomputable def NdAt (τ : Sto) (n : Nd) : Prop := ∃ t t' svs, τ n.ia = some (.ob 2 (sloObj cN n.di [some (.int n.k t), some (.int n.np t'), some (.ref n.sa)])) ∧ τ n.di = some (atr nm 3 []) ∧ τ n.sa = some (.ls 2 svs) ∧ IntsAre svs n.sc
noncomputable def RdAt (τ : Sto) (rv : Value) : Option (Addr × List Int) → Prop
  | none => rv = .none
  | some (ra, ys) => rv = .ref ra ∧ ∃ vs, τ ra = some (.ls 6 vs) ∧ IntsAre vs ys
noncomputable def kvsOf (ns : List Nd) : List (Int × Value) := ns.map fun n => (n.k, .ref n.ia)
structure Hd where
  dx : Addr
  nd : Addr
  ep : Nat
  rv : Value
  t1 : Tok
  t2 : Tok
noncomputable def HdAt (c : Cx nm prg KK gl bl) (τ : Sto) (x : Addr) (q : Hd) (ns : List Nd) (np nf : Int) : Prop :=
  τ x = some (.ob 2 (instObj cT q.dx)) ∧ τ q.dx = some (atr nm 2 [(30, .ref q.nd), (32, q.rv), (31, .int np q.t1), (29, .int nf q.t2)]) ∧ (q.nd == sysModules) = false ∧ τ q.nd = some (dct c 5 (kvsOf ns) q.ep)
structure SX (c : Cx nm prg KK gl bl) (τ : Sto) (x : Addr) (q : Hd) (ns : List Nd) (rd : Option (Addr × List Int)) (np nf : Int) : Prop where
  hd : HdAt c τ x q ns np nf
  rdy : RdAt τ q.rv rd
  each : ∀ n ∈ ns, NdAt τ n
  ndi : (ns.map (·.ia)).Nodup
  nds : (ns.map (·.sa)).Nodup
  ndk : (ns.map (·.k)).Nodup
noncomputable def SAt (c : Cx nm prg KK gl bl) (τ : Sto) (x : Addr) (ns : List Nd) (rd : Option (Addr × List Int)) (np nf : Int) : Prop := ∃ q, SX c τ x q ns rd np nf
theorem SAt.each {x : Addr} {ns : List Nd} {rd : Option (Addr × List Int)} {np nf : Int} (S : SAt c τ x ns rd np nf) : ∀ n ∈ ns, NdAt τ n := let ⟨_, s⟩ := S; s.each
theorem SAt.ndk {x : Addr} {ns : List Nd} {rd : Option (Addr × List Int)} {np nf : Int} (S : SAt c τ x ns rd np nf) : (ns.map (·.k)).Nodup := let ⟨_, s⟩ := S; s.ndk
noncomputable def Up2 (τ τ' : Sto) : Prop := ∀ a i, τ a = some i → i.own = true → τ' a = some i
theorem NdAt.mono {n : Nd} (k : Up2 τ τ') : NdAt τ n → NdAt τ' n := fun ⟨t, t', svs, h1, h2, h3, h4⟩ => ⟨t, t', svs, k _ _ h1 rfl, k _ _ h2 rfl, k _ _ h3 rfl, h4⟩
theorem RdAt.mono {rv : Value} {rd : Option (Addr × List Int)} (k : Up2 τ τ') : RdAt τ rv rd → RdAt τ' rv rd := by
  cases rd with
  | none => exact id
  | some p => exact fun ⟨h1, vs, h2, h3⟩ => ⟨h1, vs, k _ _ h2 rfl, h3⟩
theorem SX.mono {x : Addr} {q : Hd} {ns : List Nd} {rd : Option (Addr × List Int)} {np nf : Int} (S : SX c τ x q ns rd np nf) (k : Up2 τ τ') : SX c τ' x q ns rd np nf :=
  ⟨let ⟨h1, h2, h3, h4⟩ := S.hd; ⟨k _ _ h1 rfl, k _ _ h2 rfl, h3, k _ _ h4 rfl⟩, S.rdy.mono k, fun n hn => (S.each n hn).mono k, S.ndi, S.nds, S.ndk⟩
theorem SAt.mono {x : Addr} {ns : List Nd} {rd : Option (Addr × List Int)} {np nf : Int} (S : SAt c τ x ns rd np nf) (k : Up2 τ τ') : SAt c τ' x ns rd np nf := let ⟨q, s⟩ := S; ⟨q, s.mono k⟩
theorem Up2.into (hL : τ L = none) : Up2 τ (upd τ L (.fr l)) := fun a i e _ => (upd_ne (ne_of_none e hL)).trans e
theorem Up2.fresh {a : Addr} {i : It} (hL : τ a = none) : Up2 τ (upd τ a i) := fun b j e _ => (upd_ne (ne_of_none e hL)).trans e
theorem Keep2.fresh {a : Addr} {i : It} (hL : τ a = none) : Keep2 τ (upd τ a i) := fun b j e _ => (upd_ne (ne_of_none e hL)).trans e
theorem ret2 {τ₂ : Sto} {L' : Addr} {l' : List (Nat × Value)} (hL : τ L = none) (K : Keep2 (upd τ L (.fr l)) τ₂) (R : Rel c τ₂ L' l' s) : Rel c (del τ₂ L) L l s ∧ Keep2 τ (del τ₂ L) ∧ Up2 τ₂ (del τ₂ L) := by
  have e : τ₂ L = some (.fr l) := K _ _ upd_self rfl
  refine ⟨R.back e (fun a i q => ?_) del_self, fun a i q t => ?_, fun a i q t => ?_⟩
  · by_cases z : a = L
    · subst z; rw [del_self] at q; cases q
    · rwa [del_ne z] at q
  · have z : a ≠ L := ne_of_none q hL
    rw [del_ne z]; exact K _ _ ((upd_ne z).trans q) t
  · have z : a ≠ L := fun z => by subst z; rw [e] at q; cases q; cases t
    rw [del_ne z]; exact q

theorem sp_newSorter {Q : Value → Shared → Prop} (H : Ok 10 A) (R : Rel c τ L l s) (h : ∀ x τ' s', τ x = none → SAt c τ' x [] none 0 0 → Keep2 τ τ' → Rel c τ' L l s' → Q (.ref x) s') :
    wpAny c.M A (call (.ref cT) []) Q E s := by
  have R0' := R
  refine mkInst (n := 9) H R (kT_make _) (kT_init _) (kT_initf _) 2 ?_
  intro x dx A' s H n1 n2 n3 n4 n5 R
  refine callW (n := 8) (lb := [(128, .ref x), (60, .none)]) H R rfl (by kernel_rfl) ⟨rfl, rfl, rfl⟩ (ks := ks_TopologicalSorter___init__) rfl rfl (BindsTo.of_defaults rfl (R.frag _ _ rfl) rfl rfl (by kernel_rfl)) rfl ?_
  intro W s Q' E' hf hA R f1 f2 hq hn he
  dsimp only [n_self, n_graph, n_node, n_predecessors, n__node2info, n__ready_nodes, n__npassedout, n__nfinished, n_add, n_items, q_nm, q_int, q_non, q_bool, q_str, q_bin, q_neg, q_not, q_cmp, q_and, q_or, q_sub, q_slLo, q_slHi, q_slRev, q_attr, q_call0, q_call1, q_call2, q_call3, q_meth0, q_meth1, q_meth2, q_list0, q_list1, q_list2, q_list3, q_lc, q_js, q_nx, q_dct, q_asg, q_setI, q_setA, q_asg2, q_asgT, q_augA, q_augI, q_exp, q_iff, q_ret, q_brk, q_cont, q_whl, q_for1, q_forT, q_tryx, q_rai, q_del, q_asr, q_asgC, q_expC, q_nil, q_cons]
  refine vcS_ok 9 _ [] _ _ _ ?_ R
  have hx : upd (upd (upd τ dx (atr nm 2 [])) x (.ob 2 (instObj cT dx))) L (.fr l) x = some (.ob 2 (instObj cT dx)) := (upd_ne n4).trans upd_self
  have hd : upd (upd (upd τ dx (atr nm 2 [])) x (.ob 2 (instObj cT dx))) L (.fr l) dx = some (atr nm 2 []) := (upd_ne n5).trans ((upd_ne (Ne.symm n3)).trans upd_self)
  refine oDict 5 fun nd m1 m2 m3 => ?_
  have z1 : nd ≠ x := Ne.symm (ne_of_none hx m1)
  have z2 : nd ≠ dx := Ne.symm (ne_of_none hd m1)
  have z3 : nd ≠ L := Ne.symm (ne_of_none upd_self m1)
  have hx2 : ∀ i, upd (upd (upd (upd (upd τ dx (atr nm 2 [])) x (.ob 2 (instObj cT dx))) L (.fr l)) nd (dct c 5 [] 0)) dx i x = some (.ob 2 (instObj cT dx)) := fun i => (upd_ne n3).trans ((upd_ne (Ne.symm z1)).trans hx)
  refine oTS (.inr (.inl rfl)) ((upd_ne (Ne.symm z1)).trans hx) ((upd_ne (Ne.symm z2)).trans hd) (by decide) (oTS (.inr (.inr (.inr rfl))) (hx2 _) upd_self (of_decide_eq_true rfl) ?_)
  rw [upd_upd]
  refine fun t1 => oTS (.inr (.inr (.inl rfl))) (hx2 _) upd_self (of_decide_eq_true rfl) ?_
  rw [upd_upd]
  refine fun t2 => oTS (.inl rfl) (hx2 _) upd_self (of_decide_eq_true rfl) ?_
  rw [upd_upd]
  refine ⟨nofun, fun _ s R => sEnd0 (hn _ ?_)⟩
  have K2 : Keep2 (upd τ L (.fr l)) (upd (upd (upd (upd (upd τ dx (atr nm 2 [])) x (.ob 2 (instObj cT dx))) L (.fr l)) nd (dct c 5 [] 0)) dx (atr nm 2 (put (put (put (put [] 30 (.ref nd)) 32 .none) 31 (.int 0 t1)) 29 (.int 0 t2)))) := by
    intro a i e t
    have h1 : a ≠ dx := fun q => by subst q; rw [upd_ne n5, n2] at e; cases e
    have h2 : a ≠ x := fun q => by subst q; rw [upd_ne n4, n1] at e; cases e
    have h3 : a ≠ nd := fun q => by
      subst q
      rw [upd_ne z3, upd_ne z1, upd_ne z2] at m1
      rw [upd_ne z3, m1] at e; cases e
    rw [upd_ne h1, upd_ne h3]
    by_cases q : a = L
    · subst q; rw [upd_self] at e ⊢; exact e
    · rw [upd_ne q] at e ⊢
      rw [upd_ne h2, upd_ne h1]; exact e
  obtain ⟨R', k1, k2⟩ := ret2 R0'.apart K2 R
  exact ⟨rfl, h x _ _ n1 (SAt.mono (τ := _) ⟨⟨dx, nd, 0, .none, t1, t2⟩, ⟨hx2 _, upd_self, m3, (upd_ne z2).trans upd_self⟩, rfl, (fun _ h => nomatch h), .nil, .nil, .nil⟩ k2) k1 R'⟩
end
end Mine

namespace Mine
theorem kvs_some {ns : List Nd} {n : Nd} (hn : n ∈ ns) (hd : (ns.map (·.k)).Nodup) : valueAt (kvsOf ns) n.k = some (.ref n.ia) := by
  unfold valueAt kvsOf
  induction ns with
  | nil => cases hn
  | cons m r ih =>
    rw [List.map_cons, List.nodup_cons] at hd
    rw [List.map_cons, List.find?_cons]
    by_cases q : m.k = n.k
    · have : m = n := by
        rcases List.mem_cons.mp hn with h | h
        · exact h.symm
        · exact absurd (q ▸ List.mem_map_of_mem h) hd.1
      subst this
      simp
    · simp only [q, decide_false]
      rcases List.mem_cons.mp hn with h | h
      · exact absurd (h ▸ rfl) q
      · exact ih h hd.2
theorem kvs_none {ns : List Nd} {k : Int} (hn : k ∉ ns.map (·.k)) : valueAt (kvsOf ns) k = none := by
  unfold valueAt kvsOf
  rw [Option.map_eq_none_iff, List.find?_eq_none]
  intro p hp
  obtain ⟨m, hm, rfl⟩ := List.mem_map.mp hp
  simp only [decide_eq_true_eq]
  exact fun q => hn (q ▸ List.mem_map_of_mem hm)
theorem kvs_stored {ns : List Nd} {n : Nd} (hn : n.k ∉ ns.map (·.k)) : stored (kvsOf ns) n.k (.ref n.ia) = kvsOf (ns ++ [n]) := by
  unfold stored
  rw [if_neg, kvsOf, kvsOf, List.map_append]
  · rfl
  · intro q
    obtain ⟨p, hp, e⟩ := List.any_eq_true.mp q
    obtain ⟨m, hm, rfl⟩ := List.mem_map.mp hp
    exact hn (of_decide_eq_true e ▸ List.mem_map_of_mem hm)
section
variable {c : Cx nm prg KK gl bl} {A : Around} {E : Value → Shared → Prop} {τ τ' : Sto} {L : Addr} {l : List (Nat × Value)} {s : Shared}
noncomputable def GotN (ns ns' : List Nd) (k : Int) (n : Nd) : Prop := n ∈ ns' ∧ n.k = k ∧ (ns' = ns ∨ (k ∉ ns.map (·.k) ∧ ns' = ns ++ [n] ∧ n.np = 0 ∧ n.sc = []))
theorem sp_getinfo {x : Addr} {ns : List Nd} {rd : Option (Addr × List Int)} {np nf k : Int} {u : Tok} {Q : Value → Shared → Prop} (H : Ok 14 A) (R : Rel c τ L l s) (S : SAt c τ x ns rd np nf) (hz : ns.length < 900)
    (h : ∀ ns' n τ' s', GotN ns ns' k n → SAt c τ' x ns' rd np nf → Keep2 τ τ' → Rel c τ' L l s' → Q (.ref n.ia) s') :
    wpAny c.M A (call (.ref f_TopologicalSorter__get_nodeinfo) [.ref x, .int k u]) Q E s := by
  refine wpAny_call ?_
  refine callW (n := 13) (lb := [(128, .ref x), (97, .int k u)]) H R rfl (by kernel_rfl) ⟨rfl, rfl, rfl⟩ (ks := ks_TopologicalSorter__get_nodeinfo) rfl rfl (BindsTo.of_eq (by kernel_rfl)) rfl ?_
  have R0 := R
  clear R
  intro W s Q' E' hf hA R f1 f2 hq hn he
  dsimp only [n_self, n_node, n_result, n__NodeInfo, n__node2info, n_get, q_nm, q_int, q_non, q_bool, q_str, q_bin, q_neg, q_not, q_cmp, q_and, q_or, q_sub, q_slLo, q_slHi, q_slRev, q_attr, q_call0, q_call1, q_call2, q_call3, q_meth0, q_meth1, q_meth2, q_list0, q_list1, q_list2, q_list3, q_lc, q_js, q_nx, q_dct, q_asg, q_setI, q_setA, q_asg2, q_asgT, q_augA, q_augI, q_exp, q_iff, q_ret, q_brk, q_cont, q_whl, q_for1, q_forT, q_tryx, q_rai, q_del, q_asr, q_asgC, q_expC, q_nil, q_cons]
  have S1 := S.mono (Up2.into (l := l) R0.apart)
  obtain ⟨⟨dx, nd, ep, rv, t1, t2⟩, ⟨e1, e2, e3, e4⟩, e5, each, ndi, nds, ndk⟩ := S1
  refine vIfNx (N := 3) (i := 119) (rs := []) rfl ?_ s R
  refine oTG (.inr (.inl rfl)) e1 e2 rfl rfl (omDict PySem.F.slot_dict_get PySem.F.type_dict_get e4 ⟨trivial, oDGet e4 e3 ?_⟩)
  by_cases hk : k ∈ ns.map (·.k)
  · obtain ⟨n, hn, rfl⟩ := List.mem_map.mp hk
    rw [kvs_some hn ndk]
    refine ⟨nofun, fun _ => vSub (m := 1) (l' := [(119, .ref n.ia)]) ⟨rfl, trivial⟩ fun s R => hq _ _ ?_⟩
    obtain ⟨R', k1, k2⟩ := ret2 R0.apart Keep2.refl R
    exact h ns n _ _ ⟨hn, rfl, .inl rfl⟩ (SAt.mono (SAt.mono S (Up2.into R0.apart)) k2) k1 R'
  · rw [kvs_none hk]
    refine ⟨fun _ => vAsg2 (N := 2) rfl rfl ⟨rfl, fun s Q E R qq => sp_newInfo (W.H.le (by decide)) R ?_⟩, nofun⟩
    intro ia di sa tk s q1 q2 q3 q4 q5 q6 q7 q8 q9 R
    refine qq _ _ s ?_ R
    clear R qq
    have m1 := q1; have m2 := q2; have m3 := q3
    generalize hτ' : upd (upd (upd (upd τ L (.fr l)) di (atr nm 3 [])) sa (.ls 2 [])) ia (.ob 2 (sloObj cN di [some (.int k u), some (.int 0 tk), some (.ref sa)])) = τ1
    have U : Up2 (upd τ L (.fr l)) τ1 := by
      subst hτ'
      intro a i e t
      rw [upd_ne (ne_of_none e q1), upd_ne (ne_of_none e q3), upd_ne (ne_of_none e q2)]; exact e
    have K : Keep2 (upd τ L (.fr l)) τ1 := by
      subst hτ'
      intro a i e t
      rw [upd_ne (ne_of_none e q1), upd_ne (ne_of_none e q3), upd_ne (ne_of_none e q2)]; exact e
    refine oTG (.inr (.inl rfl)) (U _ _ e1 rfl) (U _ _ e2 rfl) rfl rfl (oDSet (U _ _ e4 rfl) (by unfold kvsOf; rw [List.length_map]; exact Nat.lt_trans hz (by decide)) fun ep' => vSub (m := 1) (l' := [(119, .ref ia)]) ⟨rfl, trivial⟩ fun s R => hq _ _ ?_)
    have hnew : NdAt τ1 ⟨k, 0, [], ia, di, sa⟩ := by
      subst hτ'
      exact ⟨u, tk, [], upd_self, by rw [upd_ne (Ne.symm q4), upd_ne q6, upd_self], by rw [upd_ne (Ne.symm q5), upd_self], .nil⟩
    have e4' := U _ _ e4 rfl
    have K2 : Keep2 (upd τ L (.fr l)) (upd τ1 nd (dct c 5 (stored (kvsOf ns) k (.ref ia)) ep')) := Keep2_upd K fun j e => by rw [e4'] at e; cases e; rfl
    obtain ⟨R', k1, k2⟩ := ret2 R0.apart K2 R
    have st : ∀ n, NdAt τ1 n → NdAt (upd τ1 nd (dct c 5 (stored (kvsOf ns) k (.ref ia)) ep')) n := by
      rintro n ⟨t, t', svs, h1, h2, h3, h4⟩
      exact ⟨t, t', svs, (upd_ne (ne_of_tag h1 e4')).trans h1, (upd_ne (ne_of_tag h2 e4')).trans h2, (upd_ne (ne_of_tag h3 e4')).trans h3, h4⟩
    refine h (ns ++ [⟨k, 0, [], ia, di, sa⟩]) ⟨k, 0, [], ia, di, sa⟩ _ _ ⟨by simp, rfl, .inr ⟨hk, rfl, rfl, rfl⟩⟩ (SAt.mono (τ := upd τ1 nd (dct c 5 (stored (kvsOf ns) k (.ref ia)) ep')) ?_ k2) k1 R'
    have f1 := U _ _ e1 rfl
    have f2 := U _ _ e2 rfl
    refine ⟨⟨dx, nd, ep', rv, t1, t2⟩, ⟨(upd_ne (ne_of_tag f1 e4')).trans f1, (upd_ne (ne_of_tag f2 e4')).trans f2, e3, ?_⟩, ?_, ?_, ?_, ?_, ?_⟩
    · rw [← kvs_stored (n := ⟨k, 0, [], ia, di, sa⟩) hk]; exact upd_self
    · cases rd with
      | none => exact e5
      | some p => obtain ⟨h1, vs, h2, h3⟩ := e5; exact ⟨h1, vs, (upd_ne (ne_of_tag (U _ _ h2 rfl) e4')).trans (U _ _ h2 rfl), h3⟩
    · intro n hn
      rcases List.mem_append.mp hn with hn | hn
      · exact st n ((each n hn).mono U)
      · rw [List.mem_singleton.mp hn]; exact st _ hnew
    · rw [List.map_append, List.nodup_append]
      refine ⟨ndi, by simp, ?_⟩
      intro a ha b hb
      obtain ⟨n, hn, rfl⟩ := List.mem_map.mp ha
      obtain ⟨_, _, _, h1, _⟩ := each n hn
      have : b = ia := by simpa using hb
      subst this
      exact ne_of_none h1 q1
    · rw [List.map_append, List.nodup_append]
      refine ⟨nds, by simp, ?_⟩
      intro a ha b hb
      obtain ⟨n, hn, rfl⟩ := List.mem_map.mp ha
      obtain ⟨_, _, _, _, _, h1, _⟩ := each n hn
      have : b = sa := by simpa using hb
      subst this
      exact ne_of_none h1 q3
    · rw [List.map_append, List.nodup_append]
      refine ⟨ndk, by simp, ?_⟩
      intro a ha b hb q
      have : b = k := by simpa using hb
      subst this
      exact hk (q ▸ ha)
end
end Mine

namespace Mine
structure Gn where
  k : Int
  np : Int
  sc : List Int
noncomputable def Nd.g (n : Nd) : Gn := ⟨n.k, n.np, n.sc⟩
noncomputable def gOf (ns : List Nd) : List Gn := ns.map Nd.g
theorem gOf_k (ns : List Nd) : (gOf ns).map (·.k) = ns.map (·.k) := by unfold gOf; rw [List.map_map]; rfl
noncomputable def gGet (G : List Gn) (k : Int) : List Gn := if k ∈ G.map (·.k) then G else G ++ [⟨k, 0, []⟩]
noncomputable def gSet (G : List Gn) (k : Int) (f : Gn → Gn) : List Gn := G.map fun g => if g.k = k then f g else g
noncomputable def gAdd (G : List Gn) (k : Int) (ps : List Int) : List Gn := ps.foldl (fun G p => gSet (gGet G p) p fun g => { g with sc := g.sc ++ [k] }) (gSet (gGet G k) k fun g => { g with np := g.np + ps.length })
theorem GotN.g {ns ns' : List Nd} {k : Int} {n : Nd} (h : GotN ns ns' k n) : gOf ns' = gGet (gOf ns) k := by
  refine gate ?_
  intro Gg kg
  obtain ⟨h1, h2, h3⟩ := h
  refine kg ?_
  clear kg Gg
  unfold gGet
  rw [gOf_k]
  rcases h3 with rfl | ⟨h3, rfl, h4, h5⟩
  · rw [if_pos (h2 ▸ List.mem_map_of_mem h1)]
  · rw [if_neg h3, gOf, gOf, List.map_append]
    simp [Nd.g, h2, h4, h5]
noncomputable def setN (ns : List Nd) (k : Int) (f : Nd → Nd) : List Nd := ns.map fun m => if m.k = k then f m else m
theorem setN_g {ns : List Nd} {k : Int} {f : Nd → Nd} {f' : Gn → Gn} (h : ∀ n, (f n).g = f' n.g) : gOf (setN ns k f) = gSet (gOf ns) k f' := by
  unfold gOf setN gSet
  rw [List.map_map, List.map_map]
  refine List.map_congr_left fun n _ => ?_
  dsimp only [Function.comp]
  by_cases q : n.k = k
  · rw [if_pos q, if_pos (show n.g.k = k from q), h]
  · rw [if_neg q, if_neg (show ¬ n.g.k = k from q)]
theorem setN_map {α : Type} {ns : List Nd} {k : Int} {f : Nd → Nd} {p : Nd → α} (h : ∀ n, p (f n) = p n) : (setN ns k f).map p = ns.map p := by
  unfold setN
  rw [List.map_map]
  refine List.map_congr_left fun n _ => ?_
  dsimp only [Function.comp]
  split
  · exact h n
  · rfl
noncomputable def gSz (G : List Gn) (N : Nat) : Prop := G.length ≤ N ∧ ∀ g ∈ G, g.sc.length ≤ N
theorem gSz.get {G : List Gn} {N : Nat} {k : Int} (h : gSz G N) : gSz (gGet G k) (N + 1) := by
  unfold gGet
  split
  · exact ⟨by have := h.1; omega, fun g hg => Nat.le_succ_of_le (h.2 g hg)⟩
  · refine ⟨by have := h.1; simp; exact this, fun g hg => ?_⟩
    rcases List.mem_append.mp hg with hg | hg
    · exact Nat.le_succ_of_le (h.2 g hg)
    · rw [List.mem_singleton.mp hg]; simp
theorem gSz.set {G : List Gn} {N : Nat} {k : Int} {f : Gn → Gn} (h : gSz G N) (hf : ∀ g, (f g).sc = g.sc) : gSz (gSet G k f) N := by
  unfold gSet
  refine ⟨by rw [List.length_map]; exact h.1, fun g hg => ?_⟩
  refine gate ?_
  intro Gg kg
  obtain ⟨a, ha, rfl⟩ := List.mem_map.mp hg
  refine kg ?_
  clear kg Gg
  split
  · rw [hf]; exact h.2 a ha
  · exact h.2 a ha
theorem gSz.app {G : List Gn} {N : Nat} {p k : Int} (h : gSz G N) : gSz (gSet (gGet G p) p fun g => { g with sc := g.sc ++ [k] }) (N + 1) := by
  have h' := h.get (k := p)
  unfold gSet
  refine ⟨by rw [List.length_map]; exact h'.1, fun g hg => ?_⟩
  refine gate ?_
  intro Gg kg
  obtain ⟨a, ha, rfl⟩ := List.mem_map.mp hg
  refine kg ?_
  clear kg Gg
  have : a.sc.length ≤ N := by
    unfold gGet at ha
    split at ha
    · exact h.2 a ha
    · rcases List.mem_append.mp ha with ha | ha
      · exact h.2 a ha
      · rw [List.mem_singleton.mp ha]; simp
  split
  · simp; exact this
  · omega
theorem gSz.fold {k : Int} : ∀ (ps : List Int) {G : List Gn} {N : Nat}, gSz G N → gSz (ps.foldl (fun G p => gSet (gGet G p) p fun g => { g with sc := g.sc ++ [k] }) G) (N + ps.length)
  | [], _, _, h => h
  | p :: r, G, N, h => by
    have := gSz.fold (k := k) r (h.app (p := p) (k := k))
    rw [List.length_cons, Nat.add_comm r.length, ← Nat.add_assoc]; exact this
theorem gSz.add {G : List Gn} {N : Nat} {k : Int} {ps : List Int} (h : gSz G N) : gSz (gAdd G k ps) (N + 1 + ps.length) := gSz.fold ps (h.get.set fun _ => rfl)
theorem gSz.le {G : List Gn} {N M : Nat} (h : gSz G N) (q : N ≤ M) : gSz G M := ⟨Nat.le_trans h.1 q, fun g hg => Nat.le_trans (h.2 g hg) q⟩
theorem gSz.len {ns : List Nd} {N : Nat} (h : gSz (gOf ns) N) : ns.length ≤ N := by have := h.1; unfold gOf at this; rwa [List.length_map] at this
theorem gSz.sc {ns : List Nd} {N : Nat} (h : gSz (gOf ns) N) {n : Nd} (hn : n ∈ ns) : n.sc.length ≤ N := h.2 n.g (List.mem_map_of_mem hn)
section
variable {c : Cx nm prg KK gl bl} {A : Around} {E : Value → Shared → Prop} {τ τ' : Sto} {L : Addr} {l : List (Nat × Value)} {s : Shared}
theorem Nd_eq {ns : List Nd} (nd : (ns.map (·.k)).Nodup) {n m : Nd} (hn : n ∈ ns) (hm : m ∈ ns) (h : m.k = n.k) : m = n := by
  induction ns with
  | nil => cases hn
  | cons a r ih =>
    rw [List.map_cons, List.nodup_cons] at nd
    rcases List.mem_cons.mp hn with y1 | y1 <;> rcases List.mem_cons.mp hm with y2 | y2
    · rw [y1, y2]
    · rw [← y1] at nd; exact absurd (h ▸ List.mem_map_of_mem y2) nd.1
    · rw [← y2] at nd; exact absurd (h ▸ List.mem_map_of_mem y1) nd.1
    · exact ih nd.2 y1 y2
theorem nodup_ne {α : Type} {ns : List Nd} {p : Nd → α} (nd : (ns.map p).Nodup) {n m : Nd} (hn : n ∈ ns) (hm : m ∈ ns) (h : p m = p n) : m = n := by
  induction ns with
  | nil => cases hn
  | cons a r ih =>
    rw [List.map_cons, List.nodup_cons] at nd
    rcases List.mem_cons.mp hn with y1 | y1 <;> rcases List.mem_cons.mp hm with y2 | y2
    · rw [y1, y2]
    · rw [← y1] at nd; exact absurd (h ▸ List.mem_map_of_mem y2) nd.1
    · rw [← y2] at nd; exact absurd (h ▸ List.mem_map_of_mem y1) nd.1
    · exact ih nd.2 y1 y2
theorem SX.turn {x : Addr} {q : Hd} {ns : List Nd} {rd : Option (Addr × List Int)} {np nf : Int} {n : Nd} {f : Nd → Nd} {a : Addr} {i i' : It} (S : SX c τ x q ns rd np nf) (hn : n ∈ ns) (hk : ∀ m, (f m).k = m.k) (hi : ∀ m, (f m).ia = m.ia) (hs : ∀ m, (f m).sa = m.sa)
    (ha : τ a = some i) (ho : i.tag = 2) (hsh : (a = n.ia ∧ ∃ o, i = .ob 2 o) ∨ (a = n.sa ∧ ∃ vs, i = .ls 2 vs)) (hne : NdAt (upd τ a i') (f n)) : SX c (upd τ a i') x q (setN ns n.k f) rd np nf := by
  refine gate ?_
  intro Gg kg
  obtain ⟨⟨e1, e2, e3, e4⟩, e5, each, ndi, nds, ndk⟩ := S
  refine kg ?_
  clear kg Gg
  have hx : x ≠ a := by
    rintro rfl
    refine gate ?_
    intro Gg kg
    obtain ⟨_, _, _, h1, _⟩ := each n hn
    refine kg ?_
    clear kg Gg
    rcases hsh with ⟨rfl, _⟩ | ⟨_, vs, rfl⟩
    · rw [e1] at h1; cases h1
    · rw [e1] at ha; cases ha
  have hdx : q.dx ≠ a := by
    rintro z
    subst z
    rcases hsh with ⟨_, o, rfl⟩ | ⟨_, vs, rfl⟩ <;> (rw [e2] at ha; cases ha)
  have hnd : q.nd ≠ a := ne_of_it e4 ha fun q => by have := congrArg It.tag q; rw [ho] at this; cases this
  refine ⟨⟨(upd_ne hx).trans e1, (upd_ne hdx).trans e2, e3, ?_⟩, ?_, ?_, ?_, ?_, ?_⟩
  · rw [upd_ne hnd, e4]
    have : kvsOf (setN ns n.k f) = kvsOf ns := setN_map (p := fun n => (n.k, Value.ref n.ia)) fun m => by rw [hk, hi]
    rw [this]
  · cases rd with
    | none => exact e5
    | some p => obtain ⟨h1, vs, h2, h3⟩ := e5; exact ⟨h1, vs, (upd_ne (ne_of_it h2 ha fun q => by have := congrArg It.tag q; rw [ho] at this; cases this)).trans h2, h3⟩
  · intro m hm
    refine gate ?_
    intro Gg kg
    obtain ⟨m', hm', rfl⟩ := List.mem_map.mp hm
    refine kg ?_
    clear kg Gg
    by_cases q : m'.k = n.k
    · rw [if_pos q, Nd_eq ndk hn hm' q]; exact hne
    · rw [if_neg q]
      refine gate ?_
      intro Gg kg
      obtain ⟨t, t', svs, h1, h2, h3, h4⟩ := each m' hm'
      refine kg ?_
      clear kg Gg
      have z1 : m'.ia ≠ a := by
        intro z
        rcases hsh with ⟨y, _⟩ | ⟨_, vs, y⟩
        · exact q (by rw [nodup_ne ndi hn hm' (z.trans y)])
        · rw [z, ha, y] at h1; cases h1
      have z3 : m'.sa ≠ a := by
        intro z
        rcases hsh with ⟨_, o, y⟩ | ⟨y, _⟩
        · rw [z, ha, y] at h3; cases h3
        · exact q (by rw [nodup_ne nds hn hm' (z.trans y)])
      exact ⟨t, t', svs, (upd_ne z1).trans h1, (upd_ne (ne_of_it h2 ha fun q => by have := congrArg It.tag q; rw [ho] at this; cases this)).trans h2, (upd_ne z3).trans h3, h4⟩
  · rw [setN_map hi]; exact ndi
  · rw [setN_map hs]; exact nds
  · rw [setN_map hk]; exact ndk
theorem SX.setNp {x : Addr} {q : Hd} {ns : List Nd} {rd : Option (Addr × List Int)} {np nf : Int} {n : Nd} {v : Int} {t t' t'' : Tok} (S : SX c τ x q ns rd np nf) (hn : n ∈ ns) (e : τ n.ia = some (.ob 2 (sloObj cN n.di [some (.int n.k t), some (.int n.np t'), some (.ref n.sa)]))) :
    SX c (upd τ n.ia (.ob 2 (sloObj cN n.di [some (.int n.k t), some (.int v t''), some (.ref n.sa)]))) x q (setN ns n.k fun m => { m with np := v }) rd np nf := by
  refine gate ?_
  intro Gg kg
  obtain ⟨t1, t2, svs, h1, h2, h3, h4⟩ := S.each n hn
  refine kg ?_
  clear kg Gg
  refine S.turn hn (fun _ => rfl) (fun _ => rfl) (fun _ => rfl) e rfl (.inl ⟨rfl, _, rfl⟩) ⟨t, t'', svs, upd_self, (upd_ne (ne_of_tag h2 e)).trans h2, (upd_ne (fun q => ?_)).trans h3, h4⟩
  dsimp only at q
  rw [q, e] at h3; cases h3
theorem SX.setSc {x : Addr} {q : Hd} {ns : List Nd} {rd : Option (Addr × List Int)} {np nf : Int} {n : Nd} {svs : List Value} {ys : List Int} (S : SX c τ x q ns rd np nf) (hn : n ∈ ns) {vs : List Value} (e : τ n.sa = some (.ls 2 vs)) (hy : IntsAre svs ys) :
    SX c (upd τ n.sa (.ls 2 svs)) x q (setN ns n.k fun m => { m with sc := ys }) rd np nf := by
  refine gate ?_
  intro Gg kg
  obtain ⟨t1, t2, svs', h1, h2, h3, h4⟩ := S.each n hn
  refine kg ?_
  clear kg Gg
  refine S.turn hn (fun _ => rfl) (fun _ => rfl) (fun _ => rfl) e rfl (.inr ⟨rfl, _, rfl⟩) ⟨t1, t2, svs, (upd_ne (fun q => ?_)).trans h1, (upd_ne (ne_of_tag h2 e)).trans h2, upd_self, hy⟩
  dsimp only at q
  rw [q, e] at h1; cases h1
theorem Keep2.self {a : Addr} {i i' : It} (K : Keep2 τ τ') (e : τ' a = some i) (ho : i.own = true := by rfl) : Keep2 τ (upd τ' a i') := Keep2_upd K fun j z => by rw [e] at z; cases z; exact ho
theorem setN_const {ns : List Nd} {k : Int} {n : Nd} (hn : n ∈ ns) (ndk : (ns.map (·.k)).Nodup) {f f' : Nd → Nd} (h : f n = f' n) (hk : n.k = k) : setN ns k f = setN ns k f' := by
  unfold setN
  refine List.map_congr_left fun m hm => ?_
  split
  · rename_i q
    rw [Nd_eq ndk hn hm (q.trans hk.symm)]; exact h
  · rfl
theorem kT_get_nodeinfo (P : Params) : findIn (KK P) (.ref cT) (nm 15) = some (some (.ref f_TopologicalSorter__get_nodeinfo)) := by kernel_rfl
theorem kF_get_nodeinfo (P : Params) : isFn (KK P) (.ref f_TopologicalSorter__get_nodeinfo) = true := by kernel_rfl
theorem Keep2.iter {τ₃ : Sto} {it : Addr} {j : It} (K : Keep2 τ τ') (hn : τ' it = none) (K' : Keep2 (upd τ' it j) τ₃) : Keep2 τ (del τ₃ it) := fun a i e t => by
  have h := K a i e t
  have z : a ≠ it := ne_of_none h hn
  rw [del_ne z]; exact K' a i ((upd_ne z).trans h) t
theorem Up2.del {a : Addr} {i : It} (e : τ a = some i) (ho : i.own = false := by rfl) : Up2 τ (del τ a) := fun b j q t => by
  have z : b ≠ a := fun z => by subst z; rw [e] at q; cases q; rw [ho] at t; cases t
  rw [del_ne z]; exact q
theorem SX.setRd {x : Addr} {q : Hd} {ns : List Nd} {ra : Addr} {ys ys' : List Int} {vs vs' : List Value} {np nf : Int} (S : SX c τ x q ns (some (ra, ys)) np nf) (e : τ ra = some (.ls 6 vs)) (hv : IntsAre vs' ys') : SX c (upd τ ra (.ls 6 vs')) x q ns (some (ra, ys')) np nf := by
  refine gate ?_
  intro Gg kg
  obtain ⟨⟨e1, e2, e3, e4⟩, e5, each, ndi, nds, ndk⟩ := S
  refine kg ?_
  clear kg Gg
  refine ⟨⟨(upd_ne (ne_of_tag e1 e)).trans e1, (upd_ne (ne_of_tag e2 e)).trans e2, e3, (upd_ne (ne_of_tag e4 e)).trans e4⟩, ⟨e5.1, vs', upd_self, hv⟩, fun n hn => ?_, ndi, nds, ndk⟩
  refine gate ?_
  intro Gg kg
  obtain ⟨t, t', svs, h1, h2, h3, h4⟩ := each n hn
  refine kg ?_
  clear kg Gg
  exact ⟨t, t', svs, (upd_ne (ne_of_tag h1 e)).trans h1, (upd_ne (ne_of_tag h2 e)).trans h2, (upd_ne (ne_of_tag h3 e)).trans h3, h4⟩
theorem SX.setHd {x : Addr} {q : Hd} {ns : List Nd} {rd rd' : Option (Addr × List Int)} {rv : Value} {np nf np' nf' : Int} {t1 t2 : Tok} (S : SX c τ x q ns rd np nf) (hr : RdAt τ rv rd') :
    SX c (upd τ q.dx (atr nm 2 [(30, .ref q.nd), (32, rv), (31, .int np' t1), (29, .int nf' t2)])) x { q with rv := rv, t1 := t1, t2 := t2 } ns rd' np' nf' := by
  refine gate ?_
  intro Gg kg
  obtain ⟨⟨e1, e2, e3, e4⟩, e5, each, ndi, nds, ndk⟩ := S
  refine kg ?_
  clear kg Gg
  have sh : ∀ {a : Addr} {o : Obj}, τ a = some (.ob 2 o) → a ≠ q.dx := fun h z => by rw [z, e2] at h; cases h
  refine ⟨⟨(upd_ne (sh e1)).trans e1, upd_self, e3, (upd_ne (ne_of_tag e4 e2)).trans e4⟩, ?_, fun n hn => ?_, ndi, nds, ndk⟩
  · cases rd' with
    | none => exact hr
    | some p => obtain ⟨h1, vs, h2, h3⟩ := hr; exact ⟨h1, vs, (upd_ne (ne_of_tag h2 e2)).trans h2, h3⟩
  · refine gate ?_
    intro Gg kg
    obtain ⟨t, t', svs, h1, h2, h3, h4⟩ := each n hn
    refine kg ?_
    clear kg Gg
    refine ⟨t, t', svs, (upd_ne (sh h1)).trans h1, (upd_ne (ne_of_tag h2 e2)).trans h2, (upd_ne fun z => ?_).trans h3, h4⟩
    rw [z, e2] at h3; cases h3
end
section
variable {c : Cx nm prg KK gl bl} {τ τ' : Sto} {l : List (Nat × Value)} {ks : List (Nat × NameKind)} {cs : List (Nat × Addr)} {n : Nat} {W : Wk c ks cs n} {x : Addr} {ns : List Nd} {rd : Option (Addr × List Int)} {np nf : Int}
/- what is read of a sorter -/
theorem omS {i : Nat} {f : Addr} {K : Value → Prop} (S : SAt c τ x ns rd np nf) (hi : (i == 30 || (i == 32 || (i == 31 || i == 29))) = false) (hf : findIn c.K (.ref cT) (nm i) = some (some (.ref f))) (ht : isFn c.K (.ref f) = true) (h : K (.ref f)) : OpM W τ l (.ref x) (nm i) K := by
  refine gate ?_
  intro Gg kg
  obtain ⟨q, ⟨e1, e2, _⟩, _⟩ := S
  refine kg ?_
  clear kg Gg
  refine omT e1 e2 hf ht ?_ h
  rw [Bool.or_eq_false_iff, Bool.or_eq_false_iff, Bool.or_eq_false_iff] at hi
  rw [List.lookup_cons, hi.1]
  show List.lookup _ (_ :: _) = _
  rw [List.lookup_cons, hi.2.1]
  show List.lookup _ (_ :: _) = _
  rw [List.lookup_cons, hi.2.2.1]
  show List.lookup _ (_ :: _) = _
  rw [List.lookup_cons, hi.2.2.2]; rfl
theorem oRd0 {K : Value → Sto → Prop} (S : SAt c τ x ns none np nf) (h : K .none τ) : Op W τ l (getAttr (.ref x) (nm 32) true) K := by
  refine gate ?_
  intro Gg kg
  obtain ⟨q, ⟨e1, e2, _⟩, e5, _⟩ := S
  refine kg ?_
  clear kg Gg
  have e5 : q.rv = .none := e5
  rw [e5] at e2
  exact oTG (.inr (.inr (.inr rfl))) e1 e2 rfl rfl h
theorem oRdS {ra : Addr} {ys : List Int} {K : Value → Sto → Prop} (S : SAt c τ x ns (some (ra, ys)) np nf) (h : K (.ref ra) τ) : Op W τ l (getAttr (.ref x) (nm 32) true) K := by
  refine gate ?_
  intro Gg kg
  obtain ⟨q, ⟨e1, e2, _⟩, ⟨e5, _⟩, _⟩ := S
  refine kg ?_
  clear kg Gg
  rw [e5] at e2
  exact oTG (.inr (.inr (.inr rfl))) e1 e2 rfl rfl h
theorem oSc {m : Nd} {K : Value → Sto → Prop} (h : NdAt τ m) (k : ∀ svs, τ m.sa = some (.ls 2 svs) → IntsAre svs m.sc → K (.ref m.sa) τ) : Op W τ l (getAttr (.ref m.ia) (nm 140) true) K := by
  refine gate ?_
  intro Gg kg
  obtain ⟨t, t', svs, h1, h2, h3, h4⟩ := h
  refine kg ?_
  clear kg Gg
  exact oNG sl2 h1 h2 rfl rfl (k svs h3 h4)
theorem oNp {m : Nd} {K : Value → Sto → Prop} (h : NdAt τ m) (k : ∀ t, K (.int m.np t) τ) : Op W τ l (getAttr (.ref m.ia) (nm 101) true) K := by
  refine gate ?_
  intro Gg kg
  obtain ⟨t, t', svs, h1, h2, h3, h4⟩ := h
  refine kg ?_
  clear kg Gg
  exact oNG sl1 h1 h2 rfl rfl (k t')
theorem oSetNp {m : Nd} {v : Int} {t'' : Tok} {β : Sto} {K : Sto → Prop} (S : SAt c τ x ns rd np nf) (hm : m ∈ ns) (hK : Keep2 β τ) (h : ∀ τ', SAt c τ' x (setN ns m.k fun z => { z with np := v }) rd np nf → Keep2 β τ' → (∀ a i, τ a = some i → a ≠ m.ia → τ' a = some i) → K τ') : OpU W τ l (setAttr (.ref m.ia) (nm 101) (.int v t'')) K := by
  refine gate ?_
  intro Gg kg
  obtain ⟨q, S⟩ := S
  obtain ⟨t, t', svs, h1, h2, h3, h4⟩ := S.each m hm
  refine kg ?_
  clear kg Gg
  exact oNS sl1 h1 h2 rfl (h _ ⟨q, S.setNp (v := v) (t'' := t'') hm h1⟩ (hK.self (i' := .ob 2 (sloObj cN m.di [some (.int m.k t), some (.int v t''), some (.ref m.sa)])) h1) fun a i e ne => (upd_ne ne).trans e)
theorem oAppSc {m : Nd} {k : Int} {u : Tok} {svs : List Value} {β : Sto} {K : Value → Sto → Prop} (S : SAt c τ x ns rd np nf) (hm : m ∈ ns) (h3 : τ m.sa = some (.ls 2 svs)) (h4 : IntsAre svs m.sc) (hz : m.sc.length < 90000) (hK : Keep2 β τ) (h : ∀ τ', SAt c τ' x (setN ns m.k fun z => { z with sc := m.sc ++ [k] }) rd np nf → Keep2 β τ' → (∀ a i, τ a = some i → a ≠ m.sa → τ' a = some i) → K .none τ') : Op W τ l (call (.builtin "list.append") [.ref m.sa, .int k u]) K := by
  obtain ⟨q, S⟩ := S
  exact oAppend h3 (by rw [h4.length]; exact Nat.lt_trans hz (by decide)) (h _ ⟨q, S.setSc hm h3 (h4.append (.cons (n := k) (t := u) .nil))⟩ (hK.self (i' := .ls 2 (svs ++ [.int k u])) h3) fun a i e ne => (upd_ne ne).trans e)
end
end Mine

namespace Mine
section
variable {c : Cx nm prg KK gl bl} {A : Around} {E : Value → Shared → Prop} {τ τ' : Sto} {L : Addr} {l : List (Nat × Value)} {s : Shared}
theorem sp_add {x : Addr} {ns : List Nd} {np nf k : Int} {u : Tok} {more : List Value} {ps : List Int} {Q : Value → Shared → Prop} (H : Ok 18 A) (R : Rel c τ L l s) (S : SAt c τ x ns none np nf) (hz : gSz (gOf ns) 700) (hm : more = [] ∨ ∃ p, more = [p]) (hps : IntsAre more ps)
    (h : ∀ ns' τ' s', gOf ns' = gAdd (gOf ns) k ps → SAt c τ' x ns' none np nf → Keep2 τ τ' → Rel c τ' L l s' → Q .none s') :
    wpAny c.M A (call (.ref f_TopologicalSorter_add) (.ref x :: .int k u :: more)) Q E s := by
  refine wpAny_call ?_
  refine callWv (n := 17) (more := more) (lb := fun ta => [(128, .ref x), (97, .int k u), (115, .ref ta)]) H R rfl (by kernel_rfl) ⟨rfl, rfl, rfl⟩ (ks := ks_TopologicalSorter_add) rfl rfl (by rcases hm with rfl | ⟨p, rfl⟩ <;> rfl) (by rcases hm with rfl | ⟨p, rfl⟩ <;> simp) (fun _ => rfl) ?_
  have R0 := R
  clear R
  intro ta W s Q' E' hf hA R f1 f2 f3 f4 hq hn he
  dsimp only [n_self, n_node, n_predecessors, n_nodeinfo, n_pred, n_pred_info, n_ValueError, n_len, n__ready_nodes, n__get_nodeinfo, n_npredecessors, n_successors, n_append, q_nm, q_int, q_non, q_bool, q_str, q_bin, q_neg, q_not, q_cmp, q_and, q_or, q_sub, q_slLo, q_slHi, q_slRev, q_attr, q_call0, q_call1, q_call2, q_call3, q_meth0, q_meth1, q_meth2, q_list0, q_list1, q_list2, q_list3, q_lc, q_js, q_nx, q_dct, q_asg, q_setI, q_setA, q_asg2, q_asgT, q_augA, q_augI, q_exp, q_iff, q_ret, q_brk, q_cont, q_whl, q_for1, q_forT, q_tryx, q_rai, q_del, q_asr, q_asgC, q_expC, q_nil, q_cons]
  have hta : (upd (upd τ ta (.ob 0 (tup more))) L (.fr l)) ta = some (.ob 0 (tup more)) := (upd_ne f2).trans upd_self
  have S1 := S.mono (τ' := upd (upd τ ta (.ob 0 (tup more))) L (.fr l)) fun a i e _ => (upd_ne (ne_of_none e R0.apart)).trans ((upd_ne (ne_of_none e f1)).trans e)
  have K1 : Keep2 (upd (upd τ ta (.ob 0 (tup more))) L (.fr l)) (upd (upd τ ta (.ob 0 (tup more))) L (.fr l)) := Keep2.refl
  have hl : more.length ≤ 1 := by rcases hm with rfl | ⟨p, rfl⟩ <;> simp
  have hL : (upd τ ta (.ob 0 (tup more))) L = none := (upd_ne (Ne.symm f2)).trans R0.apart
  have hgo : ∀ τ' ns' s, gOf ns' = gAdd (gOf ns) k ps → SAt c τ' x ns' none np nf → Keep2 (upd (upd τ ta (.ob 0 (tup more))) L (.fr l)) τ' → ∀ l', Rl W τ' l' s → Q .none s := fun τ' ns' s gg S' K l' R => by
    obtain ⟨R', k1, k2⟩ := ret2 hL K R
    exact h ns' _ _ gg (S'.mono k2) (fun a i e t => k1 a i ((upd_ne (ne_of_none e f1)).trans e) t) R'
  generalize upd (upd τ ta (.ob 0 (tup more))) L (.fr l) = β at *
  refine vcS_ok 9 _ [] _ _ _ ?_ R
  refine oRd0 S1 ⟨nofun, fun _ => vSub (m := 9) (l' := [(128, .ref x), (97, .int k u), (115, .ref ta)]) ⟨rfl, rfl, rfl, trivial⟩ ?_⟩
  refine omS S1 rfl (kT_get_nodeinfo _) (kF_get_nodeinfo _) ⟨rfl, fun s Q E R q => sp_getinfo (W.H.le (by decide)) R S1 (Nat.lt_of_le_of_lt hz.len (by decide)) fun ns1 m τ1 s g1 S2 K2 R => q _ _ s ?_ R⟩
  refine oNp (S2.each m g1.1) fun t1 => ⟨trivial, oLenT (K2 _ _ hta rfl) (Nat.lt_of_le_of_lt hl (by decide)) fun u1 => oIadd fun t3 => oSetNp S2 g1.1 K2 fun τ3 S3 K3 _ => ?_⟩
  have g3 : gOf (setN ns1 m.k fun z => { z with np := m.np + more.length }) = gSet (gGet (gOf ns) k) k fun g => { g with np := g.np + ps.length } := by
    rw [setN_const (f' := fun z => { z with np := z.np + more.length }) g1.1 S2.ndk rfl rfl, setN_g (f' := fun g => { g with np := g.np + more.length }) fun _ => rfl, g1.g, g1.2.1, hps.length]
  generalize (setN ns1 m.k fun z => { z with np := m.np + more.length }) = ns3 at S3 g3
  refine forK (α := Sto × List Nd) (N := 5) (σ := fun p => p.1) (fr := fun _ => [(128, .ref x), (97, .int k u)]) (F1 := fun j p => gOf p.2 = (ps.take j).foldl (fun G p => gSet (gGet G p) p fun g => { g with sc := g.sc ++ [k] }) (gSet (gGet (gOf ns) k) k fun g => { g with np := g.np + ps.length })) (F2 := fun _ p => SAt c p.1 x p.2 none np nf) (F3 := fun _ p => Keep2 β p.1) ⟨by decide, fun it => drvT (vs := more), fun j p _ _ K => ⟨0, K _ _ hta rfl⟩, ?_, ?_⟩ (τ3, ns3) (itTs (K3 _ _ hta rfl)) ⟨rfl, rfl, trivial⟩ g3 S3 K3
  · intro j v it p F Qb hj hv gg S' K hit hne lp
    obtain ⟨y, tu, rfl, hy⟩ := hps.at j v hv
    have SS := S'.mono (Up2.fresh (i := itT ta (j + 1)) hit)
    have hj' : j < ps.length := hps.length ▸ hj
    have sz : gSz (gOf p.2) 703 := by
      rw [gg]
      refine gSz.le (gSz.fold _ (hz.get.set fun _ => rfl)) ?_
      rw [List.length_take]; have := hps.length; omega
    refine ⟨_, tgt rfl, omS SS rfl (kT_get_nodeinfo _) (kF_get_nodeinfo _) ⟨rfl, fun s Q E R q => sp_getinfo (W.H.le (by decide)) R SS (Nat.lt_of_le_of_lt sz.len (by decide)) fun ns4 m τ4 s g4 S4 K4 R => q _ _ s ?_ R⟩⟩
    have sz4 : m.sc.length ≤ 704 := gSz.sc (N := 704) (by rw [g4.g]; exact sz.get) g4.1
    refine oSc (S4.each m g4.1) fun svs h3 h4 => omLs PySem.F.slot_list_append PySem.F.type_list_append h3 ⟨trivial, oAppSc S4 g4.1 h3 h4 (Nat.lt_of_le_of_lt sz4 (by decide)) K4 fun τ5 S5 K5 _ => ?_⟩
    have e5 := K5 _ _ upd_self rfl
    have g5 : gOf (setN ns4 m.k fun z => { z with sc := m.sc ++ [k] }) = (ps.take (j + 1)).foldl (fun G p => gSet (gGet G p) p fun g => { g with sc := g.sc ++ [k] }) (gSet (gGet (gOf ns) k) k fun g => { g with np := g.np + ps.length }) := by
      rw [setN_const (f' := fun z => { z with sc := z.sc ++ [k] }) g4.1 S4.ndk rfl rfl, setN_g (f' := fun g => { g with sc := g.sc ++ [k] }) fun _ => rfl, g4.g, g4.2.1, gg, ← List.take_append_getElem hj', List.foldl_append, (List.getElem?_eq_some_iff.mp hy).2]
      rfl
    generalize (setN ns4 m.k fun z => { z with sc := m.sc ++ [k] }) = ns5 at S5 g5
    exact lp.nx ((del τ5 it, ns5), τ5) ⟨e5, rfl⟩ g5 (S5.mono (Up2.del e5)) (K.iter hit K5) trivial _ ⟨rfl, rfl, trivial⟩
  · intro p gg S' K s R
    rw [hps.length, List.take_length] at gg
    exact vcS_ok 1 [] [] _ _ _ (fun s R => hn _ (hgo _ _ _ gg S' K _ R)) R
end
end Mine

namespace Mine
section
variable {c : Cx nm prg KK gl bl} {A : Around} {E : Value → Shared → Prop} {τ τ' : Sto} {L : Addr} {l : List (Nat × Value)} {s : Shared}
noncomputable def gOut (G : List Gn) (ys : List Int) : List Gn := ys.foldl (fun G y => gSet G y fun g => { g with np := -1 }) G
theorem gSet_k {G : List Gn} {k : Int} {f : Gn → Gn} (h : ∀ g, (f g).k = g.k) : (gSet G k f).map (·.k) = G.map (·.k) := by
  unfold gSet
  rw [List.map_map]
  refine List.map_congr_left fun g _ => ?_
  dsimp only [Function.comp]
  split
  · exact h g
  · rfl
theorem gOut_k : ∀ {ys : List Int} {G : List Gn}, (gOut G ys).map (·.k) = G.map (·.k)
  | [], _ => rfl
  | y :: r, G => (gOut_k (ys := r)).trans (gSet_k fun _ => rfl)
theorem find_nd {ns : List Nd} {k : Int} (h : k ∈ ns.map (·.k)) : ∃ n ∈ ns, n.k = k := List.mem_map.mp h
section
variable {ks : List (Nat × NameKind)} {cs : List (Nat × Addr)} {n : Nat} {W : Wk c ks cs n} {x : Addr} {q : Hd} {ns : List Nd} {rd : Option (Addr × List Int)} {np nf : Int} {β : Sto}
theorem oNpX {m : Nd} {v : Int} {t'' : Tok} {K : Sto → Prop} (S : SX c τ x q ns rd np nf) (hm : m ∈ ns) (hK : Keep2 β τ) (h : ∀ τ', SX c τ' x q (setN ns m.k fun z => { z with np := v }) rd np nf → Keep2 β τ' → (∀ a i, τ a = some i → a ≠ m.ia → τ' a = some i) → K τ') : OpU W τ l (setAttr (.ref m.ia) (nm 101) (.int v t'')) K := by
  refine gate ?_
  intro Gg kg
  obtain ⟨t, t', svs, h1, h2, h3, h4⟩ := S.each m hm
  refine kg ?_
  clear kg Gg
  exact oNS sl1 h1 h2 rfl (h _ (S.setNp (v := v) (t'' := t'') hm h1) (hK.self (i' := .ob 2 (sloObj cN m.di [some (.int m.k t), some (.int v t''), some (.ref m.sa)])) h1) fun a i e ne => (upd_ne ne).trans e)
theorem oClrX {ra : Addr} {ys : List Int} {K : Value → Sto → Prop} (S : SX c τ x q ns (some (ra, ys)) np nf) (hz : ys.length < 90000) (hK : Keep2 β τ) (h : ∀ τ', SX c τ' x q ns (some (ra, [])) np nf → Keep2 β τ' → (∀ a i, τ a = some i → i.own = false → τ' a = some i) → K .none τ') : Op W τ l (call (.builtin "list.clear") [.ref ra]) K := by
  refine gate ?_
  intro Gg kg
  obtain ⟨e5, vs, e6, e8⟩ := S.rdy
  refine kg ?_
  clear kg Gg
  exact oClear e6 (by rw [e8.length]; exact Nat.lt_trans hz (by decide)) (h _ (S.setRd e6 .nil) (hK.self (i' := .ls 6 []) e6) fun a i e o => (upd_ne fun z => by rw [z, e6] at e; cases e; cases o).trans e)
theorem omRd {ra : Addr} {ys : List Int} {name : Str} {id : String} {K : Value → Prop} (S : SX c τ x q ns (some (ra, ys)) np nf) (slot : Slot "list" name id) (hty : typeOf (.builtin id) = pure (.type "method_descriptor")) (h : K (.builtin id)) : OpM W τ l (.ref ra) name K := by
  refine gate ?_
  intro Gg kg
  obtain ⟨e5, vs, e6, e8⟩ := S.rdy
  refine kg ?_
  clear kg Gg
  exact omLs slot hty e6 h
theorem oHd31 {K : Value → Sto → Prop} (S : SX c τ x q ns rd np nf) (h : ∀ t, K (.int np t) τ) : Op W τ l (getAttr (.ref x) (nm 31) true) K := by
  refine gate ?_
  intro Gg kg
  obtain ⟨⟨e1, e2, _⟩, _⟩ := S
  refine kg ?_
  clear kg Gg
  exact oTG (.inr (.inr (.inl rfl))) e1 e2 rfl rfl (h _)
theorem oHd29 {K : Value → Sto → Prop} (S : SX c τ x q ns rd np nf) (h : ∀ t, K (.int nf t) τ) : Op W τ l (getAttr (.ref x) (nm 29) true) K := by
  refine gate ?_
  intro Gg kg
  obtain ⟨⟨e1, e2, _⟩, _⟩ := S
  refine kg ?_
  clear kg Gg
  exact oTG (.inl rfl) e1 e2 rfl rfl (h _)
theorem sHd {v w : Int} {t1 t2 : Tok} (S : SX c τ x q ns rd np nf) (hK : Keep2 β τ) : SAt c (upd τ q.dx (atr nm 2 [(30, .ref q.nd), (32, q.rv), (31, .int v t1), (29, .int w t2)])) x ns rd v w ∧ Keep2 β (upd τ q.dx (atr nm 2 [(30, .ref q.nd), (32, q.rv), (31, .int v t1), (29, .int w t2)])) ∧ ∀ a i, τ a = some i → i.own = false → upd τ q.dx (atr nm 2 [(30, .ref q.nd), (32, q.rv), (31, .int v t1), (29, .int w t2)]) a = some i :=
  ⟨⟨_, S.setHd (rv := q.rv) (np' := v) (nf' := w) (t1 := t1) (t2 := t2) S.rdy⟩, hK.self (i' := atr nm 2 [(30, .ref q.nd), (32, q.rv), (31, .int v t1), (29, .int w t2)]) S.hd.2.1, fun a i e o => (upd_ne fun z => by rw [z, S.hd.2.1] at e; cases e; cases o).trans e⟩
theorem oSet31 {v : Int} {t : Tok} {K : Sto → Prop} (S : SX c τ x q ns rd np nf) (hK : Keep2 β τ) (h : ∀ τ', SAt c τ' x ns rd v nf → Keep2 β τ' → (∀ a i, τ a = some i → i.own = false → τ' a = some i) → K τ') : OpU W τ l (setAttr (.ref x) (nm 31) (.int v t)) K :=
  have z := sHd (v := v) (w := nf) (t1 := t) (t2 := q.t2) S hK
  oTS (.inr (.inr (.inl rfl))) S.hd.1 S.hd.2.1 (of_decide_eq_true rfl) (h _ z.1 z.2.1 z.2.2)
theorem oSet29 {v : Int} {t : Tok} {K : Sto → Prop} (S : SX c τ x q ns rd np nf) (hK : Keep2 β τ) (h : ∀ τ', SAt c τ' x ns rd np v → Keep2 β τ' → (∀ a i, τ a = some i → i.own = false → τ' a = some i) → K τ') : OpU W τ l (setAttr (.ref x) (nm 29) (.int v t)) K :=
  have z := sHd (v := np) (w := v) (t1 := q.t1) (t2 := t) S hK
  oTS (.inl rfl) S.hd.1 S.hd.2.1 (of_decide_eq_true rfl) (h _ z.1 z.2.1 z.2.2)
end
theorem sp_get_ready {x ra : Addr} {ns : List Nd} {ys : List Int} {np nf : Int} {Q : Value → Shared → Prop} (H : Ok 18 A) (R : Rel c τ L l s) (S : SAt c τ x ns (some (ra, ys)) np nf) (hz : ys.length < 900) (hk : ∀ y ∈ ys, y ∈ ns.map (·.k))
    (h : ∀ ta vs ns' τ' s', τ ta = none → τ' ta = some (.ob 0 (tup vs)) → IntsAre vs ys → gOf ns' = gOut (gOf ns) ys → SAt c τ' x ns' (some (ra, [])) (np + ys.length) nf → Keep2 τ τ' → Rel c τ' L l s' → Q (.ref ta) s') :
    wpAny c.M A (call (.ref f_TopologicalSorter_get_ready) [.ref x]) Q E s := by
  refine wpAny_call ?_
  refine callW (n := 17) (lb := [(128, .ref x)]) H R rfl (by kernel_rfl) ⟨rfl, rfl, rfl⟩ (ks := ks_TopologicalSorter_get_ready) rfl rfl (BindsTo.of_eq (by kernel_rfl)) rfl ?_
  have R0 := R
  clear R
  intro W s Q' E' hf hA R f1 f2 hq hn he
  dsimp only [n_self, n_result, n_n2i, n_node, n_ValueError, n_tuple, n__NODE_OUT, n_len, n__ready_nodes, n__node2info, n_npredecessors, n__npassedout, n_clear, q_nm, q_int, q_non, q_bool, q_str, q_bin, q_neg, q_not, q_cmp, q_and, q_or, q_sub, q_slLo, q_slHi, q_slRev, q_attr, q_call0, q_call1, q_call2, q_call3, q_meth0, q_meth1, q_meth2, q_list0, q_list1, q_list2, q_list3, q_lc, q_js, q_nx, q_dct, q_asg, q_setI, q_setA, q_asg2, q_asgT, q_augA, q_augI, q_exp, q_iff, q_ret, q_brk, q_cont, q_whl, q_for1, q_forT, q_tryx, q_rai, q_del, q_asr, q_asgC, q_expC, q_nil, q_cons]
  refine gate ?_
  intro Gg kg
  obtain ⟨q, S⟩ := S
  have S1 := S.mono (Up2.into (l := l) R0.apart)
  obtain ⟨e5, vs, e6, e7⟩ := S1.rdy
  refine kg ?_
  clear kg Gg
  have hlen := e7.length
  refine vcS_ok 9 _ [] _ _ _ ?_ R
  refine oRdS ⟨q, S1⟩ ⟨nofun, fun _ => vSub (m := 9) (l' := [(128, .ref x)]) ⟨rfl, trivial⟩ ⟨trivial, oRdS ⟨q, S1⟩ (oTuple 0 e6 (hlen ▸ Nat.lt_trans hz (by decide)) fun ta n1 n2 => ?_)⟩⟩
  have f1 : ta ≠ L := Ne.symm (ne_of_none upd_self n1)
  have f2 : τ ta = none := (upd_ne f1).symm.trans n1
  have S2 := S1.mono (Up2.fresh (i := .ob 0 (tup vs)) n1)
  have K2 : Keep2 (upd τ L (.fr l)) (upd (upd τ L (.fr l)) ta (.ob 0 (tup vs))) := Keep2.fresh n1
  have hta : (upd (upd τ L (.fr l)) ta (.ob 0 (tup vs))) ta = some (.ob 0 (tup vs)) := upd_self
  generalize upd (upd τ L (.fr l)) ta (.ob 0 (tup vs)) = τ2 at S2 K2 hta
  refine oTG (.inr (.inl rfl)) S2.hd.1 S2.hd.2.1 rfl rfl ?_
  refine forK (α := Sto × List Nd) (N := 5) (σ := fun p => p.1) (fr := fun _ => [(128, .ref x), (91, .ref q.nd), (119, .ref ta)]) (F1 := fun j p => gOf p.2 = gOut (gOf ns) (ys.take j) ∧ p.1 ta = some (.ob 0 (tup vs))) (F2 := fun _ p => SX c p.1 x q p.2 (some (ra, ys)) np nf) (F3 := fun _ p => Keep2 (upd τ L (.fr l)) p.1) ⟨by decide, fun it => drvT (vs := vs), fun j p z _ _ => ⟨0, z.2⟩, ?_, ?_⟩ (τ2, ns) (itTs hta) ⟨rfl, rfl, rfl, trivial⟩ ⟨rfl, hta⟩ S2 K2
  · intro j v it p F Qb hj hv gg S' K hit hne lp
    refine gate ?_
    intro Gg kg
    obtain ⟨y, tu, rfl, hy⟩ := e7.at j v hv
    have hj' : j < ys.length := hlen ▸ hj
    have SS := S'.mono (Up2.fresh (i := itT ta (j + 1)) hit)
    obtain ⟨m, hm, rfl⟩ := find_nd (k := y) (ns := p.2) (by rw [← gOf_k, gg.1, gOut_k, gOf_k]; exact hk y (List.mem_of_getElem? hy))
    refine kg ?_
    clear kg Gg
    refine ⟨_, tgt rfl, oDItem SS.hd.2.2.2 (kvs_some hm SS.ndk) (oNpX SS hm Keep2.refl fun τ5 S5 K5 _ => ?_)⟩
    have e5 := K5 _ _ upd_self rfl
    have g5 : gOf (setN p.2 m.k fun z => { z with np := -1 }) = gOut (gOf ns) (ys.take (j + 1)) := by
      rw [setN_g (f' := fun g => { g with np := -1 }) fun _ => rfl, gg.1, ← List.take_append_getElem hj', gOut, gOut, List.foldl_append, (List.getElem?_eq_some_iff.mp hy).2]
      rfl
    generalize (setN p.2 m.k fun z => { z with np := -1 }) = ns5 at S5 g5
    exact lp.nx ((del τ5 it, ns5), τ5) ⟨e5, rfl⟩ ⟨g5, (del_ne (ne_of_none gg.2 hit)).trans (K5 _ _ ((upd_ne (ne_of_none gg.2 hit)).trans gg.2) rfl)⟩ (S5.mono (Up2.del e5)) (K.iter hit K5) trivial _ ⟨rfl, rfl, rfl, trivial⟩
  · intro p gg S' K s R
    rw [hlen, List.take_length] at gg
    refine vcS_ok 9 _ _ _ _ _ ?_ R
    refine oRdS ⟨q, S'⟩ (omRd S' PySem.F.slot_list_clear PySem.F.type_list_clear ⟨trivial, oClrX S' (Nat.lt_trans hz (by decide)) K fun τ6 S6 K6 k6 => oHd31 S6 fun t1 => ⟨trivial, oLenT (k6 _ _ gg.2 rfl) (hlen ▸ Nat.lt_trans hz (by decide)) fun u1 => oIadd fun t3 => oSet31 S6 K6 fun τ7 S7 K7 k7 s R => hq _ _ ?_⟩⟩)
    refine gate ?_
    intro Gg kg
    obtain ⟨R', k1, k2⟩ := ret2 R0.apart K7 R
    refine kg ?_
    clear kg Gg
    exact h ta vs p.2 _ _ f2 ((del_ne f1).trans (k7 _ _ (k6 _ _ gg.2 rfl) rfl)) e7 gg.1 (hlen ▸ S7.mono k2) k1 R'
end
end Mine

namespace Mine
noncomputable def npOf (G : List Gn) (z : Int) : Int := ((G.find? fun g => g.k == z).map (·.np)).getD 0
noncomputable def scOf (G : List Gn) (z : Int) : List Int := ((G.find? fun g => g.k == z).map (·.sc)).getD []
noncomputable def gStep (p : List Gn × List Int) (z : Int) : List Gn × List Int := (gSet p.1 z fun g => { g with np := g.np - 1 }, if npOf p.1 z = 1 then p.2 ++ [z] else p.2)
noncomputable def gDone (G : List Gn) (rd : List Int) (y : Int) : List Gn × List Int := (scOf G y).foldl gStep (gSet G y fun g => { g with np := -2 }, rd)
theorem find_g {ns : List Nd} {n : Nd} (hn : n ∈ ns) (hd : (ns.map (·.k)).Nodup) : (gOf ns).find? (fun g => g.k == n.k) = some n.g := by
  induction ns with
  | nil => cases hn
  | cons m r ih =>
    rw [List.map_cons, List.nodup_cons] at hd
    show (m.g :: gOf r).find? _ = _
    rw [List.find?_cons]
    by_cases q : m.k = n.k
    · have : m = n := by
        rcases List.mem_cons.mp hn with h | h
        · exact h.symm
        · exact absurd (q ▸ List.mem_map_of_mem h) hd.1
      subst this
      simp [Nd.g]
    · have hb : (m.g.k == n.k) = false := beq_eq_false_iff_ne.mpr q
      rw [hb]
      rcases List.mem_cons.mp hn with h | h
      · exact absurd (h ▸ rfl) q
      · exact ih h hd.2
theorem npOf_nd {ns : List Nd} {n : Nd} (hn : n ∈ ns) (hd : (ns.map (·.k)).Nodup) : npOf (gOf ns) n.k = n.np := by unfold npOf; rw [find_g hn hd]; rfl
theorem scOf_nd {ns : List Nd} {n : Nd} (hn : n ∈ ns) (hd : (ns.map (·.k)).Nodup) : scOf (gOf ns) n.k = n.sc := by unfold scOf; rw [find_g hn hd]; rfl
theorem gSteps_k : ∀ (zs : List Int) (p : List Gn × List Int), (zs.foldl gStep p).1.map (·.k) = p.1.map (·.k)
  | [], _ => rfl
  | z :: r, p => (gSteps_k r _).trans (gSet_k fun _ => rfl)
theorem gSteps_rd : ∀ (zs : List Int) (p : List Gn × List Int), (zs.foldl gStep p).2.length ≤ p.2.length + zs.length
  | [], _ => Nat.le_refl _
  | z :: r, p => by
    refine Nat.le_trans (gSteps_rd r _) ?_
    show (if npOf p.1 z = 1 then p.2 ++ [z] else p.2).length + r.length ≤ _
    rw [List.length_cons]
    split
    · rw [List.length_append, List.length_singleton]; omega
    · omega
section
variable {c : Cx nm prg KK gl bl} {A : Around} {E : Value → Shared → Prop} {τ τ' : Sto} {L : Addr} {l : List (Nat × Value)} {s : Shared}
section
variable {ks : List (Nat × NameKind)} {cs : List (Nat × Addr)} {n : Nat} {W : Wk c ks cs n} {x : Addr} {q : Hd} {ns : List Nd} {rd : Option (Addr × List Int)} {np nf : Int} {β : Sto}
theorem oAppRd {ra : Addr} {ys : List Int} {z : Int} {t : Tok} {K : Value → Sto → Prop} (S : SX c τ x q ns (some (ra, ys)) np nf) (hz : ys.length < 90000) (hK : Keep2 β τ) (h : ∀ τ', SX c τ' x q ns (some (ra, ys ++ [z])) np nf → Keep2 β τ' → (∀ a i, τ a = some i → i.tag ≠ 6 → τ' a = some i) → K .none τ') : Op W τ l (call (.builtin "list.append") [.ref ra, .int z t]) K := by
  obtain ⟨e5, vs, e6, e8⟩ := S.rdy
  exact oAppend e6 (by rw [e8.length]; exact Nat.lt_trans hz (by decide)) (h _ (S.setRd e6 (e8.append (.cons (n := z) (t := t) .nil))) (hK.self (i' := .ls 6 (vs ++ [.int z t])) e6) fun a i e o => (upd_ne fun y => by rw [y, e6] at e; cases e; exact o rfl).trans e)
theorem mem_setN {m : Nd} {f : Nd → Nd} (h : m ∈ ns) : f m ∈ setN ns m.k f := List.mem_map.mpr ⟨m, h, if_pos rfl⟩
end
theorem sp_done {x ra : Addr} {ns : List Nd} {ys : List Int} {np nf y : Int} {u : Tok} {Q : Value → Shared → Prop} (H : Ok 18 A) (R : Rel c τ L l s) (S : SAt c τ x ns (some (ra, ys)) np nf) (hz : ys.length < 400) (hzs : (scOf (gOf ns) y).length < 400)
    (hk : y ∈ ns.map (·.k)) (hy : npOf (gOf ns) y = -1) (hc : ∀ z ∈ scOf (gOf ns) y, z ∈ ns.map (·.k))
    (h : ∀ ns' τ' s', gOf ns' = (gDone (gOf ns) ys y).1 → SAt c τ' x ns' (some (ra, (gDone (gOf ns) ys y).2)) np (nf + 1) → Keep2 τ τ' → Rel c τ' L l s' → Q .none s') :
    wpAny c.M A (call (.ref f_TopologicalSorter_done) [.ref x, .int y u]) Q E s := by
  refine wpAny_call ?_
  refine callWv (n := 17) (more := [.int y u]) (lb := fun ta => [(128, .ref x), (100, .ref ta)]) H R rfl (by kernel_rfl) ⟨rfl, rfl, rfl⟩ (ks := ks_TopologicalSorter_done) rfl rfl rfl (by simp) (fun _ => rfl) ?_
  have R0 := R
  clear R
  intro ta W s Q' E' hf hA R f1 f2 f3 f4 hq hn he
  dsimp only [n_self, n_nodes, n_n2i, n_node, n_nodeinfo, n_stat, n_successor, n_successor_info, n_ValueError, n__NODE_OUT, n__NODE_DONE, n__ready_nodes, n__node2info, n_npredecessors, n_successors, n__nfinished, n_append, n_get, q_nm, q_int, q_non, q_bool, q_str, q_bin, q_neg, q_not, q_cmp, q_and, q_or, q_sub, q_slLo, q_slHi, q_slRev, q_attr, q_call0, q_call1, q_call2, q_call3, q_meth0, q_meth1, q_meth2, q_list0, q_list1, q_list2, q_list3, q_lc, q_js, q_nx, q_dct, q_asg, q_setI, q_setA, q_asg2, q_asgT, q_augA, q_augI, q_exp, q_iff, q_ret, q_brk, q_cont, q_whl, q_for1, q_forT, q_tryx, q_rai, q_del, q_asr, q_asgC, q_expC, q_nil, q_cons]
  have hta : (upd (upd τ ta (.ob 0 (tup [.int y u]))) L (.fr l)) ta = some (.ob 0 (tup [.int y u])) := (upd_ne f2).trans upd_self
  obtain ⟨q, S⟩ := S
  have S1 := S.mono (τ' := upd (upd τ ta (.ob 0 (tup [.int y u]))) L (.fr l)) fun a i e _ => (upd_ne (ne_of_none e R0.apart)).trans ((upd_ne (ne_of_none e f1)).trans e)
  have K1 : Keep2 (upd (upd τ ta (.ob 0 (tup [.int y u]))) L (.fr l)) (upd (upd τ ta (.ob 0 (tup [.int y u]))) L (.fr l)) := Keep2.refl
  have hL : (upd τ ta (.ob 0 (tup [.int y u]))) L = none := (upd_ne (Ne.symm f2)).trans R0.apart
  have hgo : ∀ τ' ns' s, gOf ns' = (gDone (gOf ns) ys y).1 → SAt c τ' x ns' (some (ra, (gDone (gOf ns) ys y).2)) np (nf + 1) → Keep2 (upd (upd τ ta (.ob 0 (tup [.int y u]))) L (.fr l)) τ' → ∀ l', Rl W τ' l' s → Q .none s := fun τ' ns' s gg S' K l' R => by
    obtain ⟨R', k1, k2⟩ := ret2 hL K R
    exact h ns' _ _ gg (S'.mono k2) (fun a i e t => k1 a i ((upd_ne (ne_of_none e f1)).trans e) t) R'
  generalize upd (upd τ ta (.ob 0 (tup [.int y u]))) L (.fr l) = β at *
  refine vcS_ok 9 _ [] _ _ _ ?_ R
  refine oRdS ⟨q, S1⟩ ⟨nofun, fun _ => vSub (m := 9) (l' := [(128, .ref x), (100, .ref ta)]) ⟨rfl, rfl, trivial⟩ (oTG (.inr (.inl rfl)) S1.hd.1 S1.hd.2.1 rfl rfl ?_)⟩
  refine forK (α := Sto × List Nd) (N := 0) (σ := fun p => p.1) (fr := fun _ => [(128, .ref x), (91, .ref q.nd)]) (F1 := fun j p => Keep2 β p.1 ∧ (j = 0 → gOf p.2 = gOf ns)) (F2 := fun j p => j = 0 → SX c p.1 x q p.2 (some (ra, ys)) np nf) (F3 := fun j p => j = 1 → gOf p.2 = (gDone (gOf ns) ys y).1 ∧ SAt c p.1 x p.2 (some (ra, (gDone (gOf ns) ys y).2)) np (nf + 1)) ⟨by decide, fun it => drvT (vs := [.int y u]), fun j p z _ _ => ⟨0, z.1 _ _ hta rfl⟩, ?_, ?_⟩ (β, ns) (itTs hta) ⟨rfl, rfl, trivial⟩ ⟨K1, fun _ => rfl⟩ (fun _ => S1) nofun
  · intro j v it p F Qb hj hv gg S' _ hit hne lp
    obtain rfl : j = 0 := Nat.lt_one_iff.mp hj
    cases hv
    have gg0 := gg.2 rfl
    have SS := (S' rfl).mono (Up2.fresh (i := itT ta (0 + 1)) hit)
    have hiti : (upd p.1 it (itT ta (0 + 1))) it = some (itT ta (0 + 1)) := upd_self
    have mk : ∀ τ₇, Keep2 (upd p.1 it (itT ta (0 + 1))) τ₇ → Keep2 β (del τ₇ it) := fun τ₇ k => gg.1.iter hit k
    have KI : Keep2 (upd p.1 it (itT ta (0 + 1))) (upd p.1 it (itT ta (0 + 1))) := Keep2.refl
    obtain ⟨m, hm, hmy⟩ := find_nd (k := y) (ns := p.2) (by rw [← gOf_k, gg0, gOf_k]; exact hk)
    have hnp : m.np = -1 := by rw [← npOf_nd hm SS.ndk, hmy, gg0]; exact hy
    have hsc : m.sc = scOf (gOf ns) y := by rw [← scOf_nd hm SS.ndk, hmy, gg0]
    refine ⟨_, tgt rfl, ?_⟩
    generalize hτi : upd p.1 it (itT ta (0 + 1)) = τi at *
    refine vIfNx (N := 1) rfl (omDict PySem.F.slot_dict_get PySem.F.type_dict_get SS.hd.2.2.2 ⟨trivial, oDGet SS.hd.2.2.2 SS.hd.2.2.1 ?_⟩)
    rw [← hmy, kvs_some hm SS.ndk]
    refine ⟨nofun, fun _ => vSub (m := 9) (l' := [(128, .ref x), (91, .ref q.nd), (99, .ref m.ia)]) ⟨rfl, rfl, rfl, trivial⟩ (oNp (SS.each m hm) fun t1 => ⟨fun hb => ?_, fun _ => vSub (m := 9) (l' := [(128, .ref x), (91, .ref q.nd), (99, .ref m.ia)]) ⟨rfl, rfl, rfl, trivial⟩ ?_⟩)⟩
    · rw [hnp] at hb; cases hb
    refine oNpX SS hm KI fun τ5 S5 K5 k5 => oSc (m := { m with np := -2 }) (S5.each _ (mem_setN (f := fun z => { z with np := -2 }) hm)) fun svs h3 h4 => ?_
    have g5 : gOf (setN p.2 m.k fun z => { z with np := -2 }) = gSet (gOf ns) y fun g => { g with np := -2 } := by
      rw [setN_g (f' := fun g => { g with np := -2 }) fun _ => rfl, gg0, hmy]
    have h4 : IntsAre svs m.sc := h4
    have h3 : τ5 m.sa = some (.ls 2 svs) := h3
    generalize (setN p.2 m.k fun z => { z with np := -2 }) = ns5 at S5 g5
    refine forK (α := Sto × List Nd) (N := 9) (σ := fun p => p.1) (fr := fun _ => [(128, .ref x), (91, .ref q.nd)]) (F1 := fun j p => gOf p.2 = (((scOf (gOf ns) y).take j).foldl gStep (gSet (gOf ns) y fun g => { g with np := -2 }, ys)).1 ∧ p.1 m.sa = some (.ls 2 svs)) (F2 := fun j p => SX c p.1 x q p.2 (some (ra, (((scOf (gOf ns) y).take j).foldl gStep (gSet (gOf ns) y fun g => { g with np := -2 }, ys)).2)) np nf) (F3 := fun _ p => Keep2 τi p.1) ⟨by decide, fun it => drvL (vs := svs), fun j p z _ _ => ⟨2, z.2⟩, ?_, ?_⟩ (τ5, ns5) (itLs h3) ⟨rfl, rfl, trivial⟩ ⟨g5, h3⟩ S5 K5
    · intro j v it2 p6 F Qb2 hj hv gg6 S6 K6 hit6 hne6 lp2
      obtain ⟨z, tu, rfl, hzz⟩ := h4.at j v hv
      rw [hsc] at hzz
      have hjs : j < (scOf (gOf ns) y).length := (List.getElem?_eq_some_iff.mp hzz).1
      have S6' := S6.mono (Up2.fresh (i := itL m.sa (j + 1)) hit6)
      have ht7 : (upd p6.1 it2 (itL m.sa (j + 1))) m.sa = some (.ls 2 svs) := (upd_ne (ne_of_none gg6.2 hit6)).trans gg6.2
      have hiti2 : (upd p6.1 it2 (itL m.sa (j + 1))) it2 = some (itL m.sa (j + 1)) := upd_self
      have mk2 : ∀ τ₇, Keep2 (upd p6.1 it2 (itL m.sa (j + 1))) τ₇ → Keep2 τi (del τ₇ it2) := fun τ₇ k => K6.iter hit6 k
      have KI2 : Keep2 (upd p6.1 it2 (itL m.sa (j + 1))) (upd p6.1 it2 (itL m.sa (j + 1))) := Keep2.refl
      obtain ⟨w, hw, hwz⟩ := find_nd (k := z) (ns := p6.2) (by rw [← gOf_k, gg6.1, gSteps_k]; show z ∈ List.map _ (gSet _ _ _); rw [gSet_k (f := fun g => { g with np := -2 }) fun _ => rfl, gOf_k]; exact hc z (List.mem_of_getElem? hzz))
      have g8 : gOf (setN p6.2 w.k fun n => { n with np := w.np - 1 }) = gSet (gOf p6.2) z fun g => { g with np := g.np - 1 } := by
        rw [setN_const (f' := fun n => { n with np := n.np - 1 }) hw S6'.ndk rfl rfl, setN_g (f' := fun g => { g with np := g.np - 1 }) fun _ => rfl, hwz]
      have np8 : npOf (gOf p6.2) z = w.np := by rw [← hwz]; exact npOf_nd hw S6'.ndk
      have step : ((scOf (gOf ns) y).take (j + 1)).foldl gStep (gSet (gOf ns) y fun g => { g with np := -2 }, ys) = gStep (((scOf (gOf ns) y).take j).foldl gStep (gSet (gOf ns) y fun g => { g with np := -2 }, ys)) z := by
        rw [← List.take_append_getElem hjs, List.foldl_append, (List.getElem?_eq_some_iff.mp hzz).2]; rfl
      have rl := gSteps_rd ((scOf (gOf ns) y).take j) (gSet (gOf ns) y fun g => { g with np := -2 }, ys)
      have tl : ((scOf (gOf ns) y).take j).length ≤ 400 := by rw [List.length_take]; omega
      generalize hp : ((scOf (gOf ns) y).take j).foldl gStep (gSet (gOf ns) y fun g => { g with np := -2 }, ys) = pp at *
      generalize upd p6.1 it2 (itL m.sa (j + 1)) = τ7 at *
      refine ⟨_, tgt rfl, oDItem S6'.hd.2.2.2 (by rw [← hwz]; exact kvs_some hw S6'.ndk) (oNp (S6'.each w hw) fun t1 t2 => oIsub fun t3 => oNpX S6' hw KI2 fun τ8 S8 K8 k8 => oNp (m := { w with np := w.np - 1 }) (S8.each _ (mem_setN (f := fun z => { z with np := w.np - 1 }) hw)) fun t4 => ?_)⟩
      have hs8 : τ8 m.sa = some (.ls 2 svs) := k8 _ _ ht7 fun y => by
        obtain ⟨_, _, _, h1, _⟩ := S6'.each w hw
        rw [y, h1] at ht7; cases ht7
      generalize (setN p6.2 w.k fun n => { n with np := w.np - 1 }) = ns8 at S8 g8
      refine ⟨fun hb => ?_, fun hb => ?_⟩
      · have hb : w.np = 1 := by have : w.np - 1 = 0 := beq_iff_eq.mp hb; omega
        refine oRdS ⟨q, S8⟩ (omRd S8 PySem.F.slot_list_append PySem.F.type_list_append ⟨trivial, oAppRd S8 (by dsimp only at rl; omega) K8 fun τ9 S9 K9 k9 s R => ?_⟩)
        have e9 := K9 _ _ hiti2 rfl
        have e2 : (gStep pp z).2 = pp.2 ++ [z] := if_pos (by rw [← gg6.1, np8]; exact hb)
        refine vcS_ok 1 [] [] _ _ _ (lp2.nx ((del τ9 it2, ns8), τ9) ⟨e9, rfl⟩ ⟨?_, (del_ne (ne_of_none gg6.2 hit6)).trans (k9 _ _ hs8 (show (2 : Nat) ≠ 6 by decide))⟩ ?_ (mk2 _ K9) trivial _ ⟨rfl, rfl, trivial⟩) R
        · show gOf ns8 = _; rw [step, g8, gg6.1]; rfl
        · show SX c (del τ9 it2) x q ns8 _ np nf; rw [step, e2]; exact S9.mono (Up2.del e9)
      · have hb : ¬ w.np = 1 := by have : w.np - 1 ≠ 0 := beq_eq_false_iff_ne.mp hb; omega
        have e9 := K8 _ _ hiti2 rfl
        have e2 : (gStep pp z).2 = pp.2 := if_neg (by rw [← gg6.1, np8]; exact hb)
        refine fun s R => vcS_ok 1 [] [] _ _ _ (lp2.nx ((del τ8 it2, ns8), τ8) ⟨e9, rfl⟩ ⟨?_, (del_ne (ne_of_none gg6.2 hit6)).trans hs8⟩ ?_ (mk2 _ K8) trivial _ ⟨rfl, rfl, trivial⟩) R
        · show gOf ns8 = _; rw [step, g8, gg6.1]; rfl
        · show SX c (del τ8 it2) x q ns8 _ np nf; rw [step, e2]; exact S8.mono (Up2.del e9)
    · intro p6 gg6 S6 K6 s R
      rw [h4.length, hsc, List.take_length] at gg6 S6
      refine vcS_ok 9 _ _ _ _ _ ?_ R
      refine oHd29 S6 fun t1 t2 => oIadd fun t9 => oSet29 S6 K6 fun τ7 S7 K7 _ => ?_
      have e9 := K7 _ _ hiti rfl
      exact lp.nx ((del τ7 it, p6.2), τ7) ⟨e9, rfl⟩ ⟨mk _ K7, nofun⟩ nofun (fun _ => ⟨gg6.1, S7.mono (Up2.del e9)⟩) trivial _ ⟨rfl, rfl, trivial⟩
  · intro p gg _ F3 s R
    obtain ⟨g1, S1⟩ := F3 rfl
    exact vcS_ok 1 [] [] _ _ _ (fun s R => hn _ (hgo _ _ _ g1 S1 gg.1 _ R)) R
end
end Mine

namespace Mine
noncomputable def FinOk (G : List Gn) : List Int → Prop
  | [] => True
  | a :: r => (∀ b ∈ scOf G a, b ∈ r) ∧ FinOk G r
noncomputable def StOk (G : List Gn) (fin : List Int) : List (Int × Nat) → Option Int → Prop
  | [], _ => True
  | (a, i) :: below, child => (∀ b ∈ (scOf G a).take i, b ∈ fin ∨ some b = child) ∧ (∀ b, child = some b → b ∈ scOf G a) ∧ StOk G fin below (some a)
noncomputable def Chn (R : Int → Int → Prop) : List Int → Prop
  | a :: b :: r => R a b ∧ Chn R (b :: r)
  | _ => True
theorem Chn.snoc {R : Int → Int → Prop} {a k : Int} (h : R a k) : ∀ {p : List Int}, Chn R (p ++ [a]) → Chn R (p ++ [a] ++ [k])
  | [], _ => ⟨h, trivial⟩
  | [x], q => ⟨q.1, h, trivial⟩
  | x :: y :: r, q => ⟨q.1, Chn.snoc h (p := y :: r) q.2⟩
theorem Chn.tail {R : Int → Int → Prop} : ∀ {p q : List Int}, Chn R (p ++ q) → Chn R q
  | [], _, h => h
  | [x], [], _ => trivial
  | [x], y :: r, h => h.2
  | x :: y :: r, q, h => Chn.tail (p := y :: r) h.2
noncomputable def Ring (G : List Gn) (r : List Int) : Prop := ∃ k q, r = k :: q ++ [k] ∧ (k :: q).Nodup ∧ Chn (fun a b => b ∈ scOf G a) r
noncomputable def Acyc (G : List Gn) : Prop := ∃ fin, FinOk G fin ∧ ∀ g ∈ G, g.k ∈ fin
structure DI (G : List Gn) (fin : List Int) (st : List (Int × Nat)) (seen : Int → Bool) (child : Option Int) : Prop where
  fok : FinOk G fin
  sok : StOk G fin st child
  nd : (fin ++ st.map (·.1)).Nodup
  sub : ∀ k ∈ fin ++ st.map (·.1), k ∈ G.map (·.k)
  see : ∀ k, seen k = true ↔ k ∈ fin ++ st.map (·.1)
section
variable {G : List Gn} {fin : List Int} {st below : List (Int × Nat)} {seen : Int → Bool} {k a b : Int} {i : Nat}
theorem StOk.chain : ∀ {st : List (Int × Nat)} {k : Int}, StOk G fin st (some k) → Chn (fun a b => b ∈ scOf G a) ((st.map (·.1)).reverse ++ [k])
  | [], _, _ => trivial
  | (a, i) :: below, k, ⟨_, h, r⟩ => by
    rw [List.map_cons, List.reverse_cons]
    exact Chn.snoc (h k rfl) (StOk.chain r)
theorem StOk.weak {c c' : Option Int} (h : ∀ b, some b = c → b ∈ fin) : ∀ {st}, StOk G fin st c → StOk G fin st none
  | [], _ => trivial
  | (a, i) :: below, ⟨h1, h2, r⟩ => ⟨fun b hb => .inl ((h1 b hb).elim id (h b)), nofun, r⟩
theorem StOk.more {fin fin' : List Int} {c : Option Int} (h : ∀ b ∈ fin, b ∈ fin') : ∀ {st c}, StOk G fin st c → StOk G fin' st c
  | [], _, _ => trivial
  | (a, i) :: below, _, ⟨h1, h2, r⟩ => ⟨fun b hb => (h1 b hb).imp (h b) id, h2, StOk.more (c := c) h r⟩
theorem DI.ring (D : DI G fin st seen (some k)) {above : List (Int × Nat)} (e : st = above ++ (k, i) :: below) : Ring G ((k :: (above.map (·.1)).reverse) ++ [k]) := by
  have h := D.sok.chain
  subst e
  have nd := D.nd
  rw [List.map_append, List.map_cons] at h nd
  rw [List.reverse_append, List.reverse_cons, List.append_assoc, List.append_assoc] at h
  refine ⟨k, _, rfl, ?_, ?_⟩
  · have := (List.nodup_append.mp nd).2.1
    rw [List.nodup_append] at this
    obtain ⟨h1, h2, h3⟩ := this
    rw [List.nodup_cons]
    refine ⟨fun q => ?_, (List.reverse_perm _).nodup_iff.mpr h1⟩
    exact h3 k (List.mem_reverse.mp q) k (.head _) rfl
  · exact h.tail
theorem DI.skip (D : DI G fin st seen (some k)) (h : k ∈ fin) : DI G fin st seen none := ⟨D.fok, D.sok.weak (c' := none) fun b e => by cases e; exact h, D.nd, D.sub, D.see⟩
theorem DI.push (D : DI G fin st seen (some k)) (h : seen k = false) (hk : k ∈ G.map (·.k)) : DI G fin ((k, 0) :: st) (fun k' => seen k' || decide (k' = k)) none := by
  have hn : k ∉ fin ++ st.map (·.1) := fun q => by rw [← D.see, h] at q; cases q
  have hp : (fin ++ ((k, 0) :: st).map (·.1)).Perm (k :: (fin ++ st.map (·.1))) := by rw [List.map_cons]; exact List.perm_middle
  refine ⟨D.fok, ⟨by simp, nofun, D.sok⟩, ?_, fun j hj => ?_, fun j => ?_⟩
  · rw [hp.nodup_iff, List.nodup_cons]; exact ⟨hn, D.nd⟩
  · rw [hp.mem_iff, List.mem_cons] at hj
    rcases hj with rfl | hj
    · exact hk
    · exact D.sub j hj
  · rw [hp.mem_iff, List.mem_cons, Bool.or_eq_true, decide_eq_true_eq, D.see]
    exact Or.comm
theorem DI.take (D : DI G fin ((a, i) :: below) seen none) (h : (scOf G a)[i]? = some b) : DI G fin ((a, i + 1) :: below) seen (some b) := by
  obtain ⟨h1, h2, r⟩ := D.sok
  obtain ⟨hi, hb⟩ := List.getElem?_eq_some_iff.mp h
  refine ⟨D.fok, ⟨fun x hx => ?_, fun x e => ?_, r⟩, D.nd, D.sub, D.see⟩
  · rw [← List.take_append_getElem hi, List.mem_append, List.mem_singleton] at hx
    rcases hx with hx | hx
    · exact .inl ((h1 x hx).elim id nofun)
    · exact .inr (by rw [hx, hb])
  · cases e; exact List.mem_of_getElem? h
theorem DI.pop (D : DI G fin ((a, i) :: below) seen none) (h : (scOf G a).length ≤ i) : DI G (a :: fin) below seen none := by
  obtain ⟨h1, h2, r⟩ := D.sok
  rw [List.take_of_length_le h] at h1
  have hp : (fin ++ ((a, i) :: below).map (·.1)).Perm (a :: fin ++ below.map (·.1)) := by rw [List.map_cons]; exact List.perm_middle
  refine ⟨⟨fun b hb => (h1 b hb).elim id nofun, D.fok⟩, (StOk.more (c := none) (fun b hb => .tail _ hb) r).weak (c' := none) fun b e => ?_, hp.nodup_iff.mp D.nd, fun k hk => D.sub k (hp.mem_iff.mpr hk), fun k => (D.see k).trans hp.mem_iff⟩
  cases e; exact .head _
theorem DI.start : DI G [] [] (fun _ => false) none := ⟨trivial, trivial, by simp, by simp, by simp⟩
theorem DI.any (D : DI G fin [] seen none) (k : Int) : DI G fin [] seen (some k) := ⟨D.fok, trivial, D.nd, D.sub, D.see⟩
theorem len_le {l m : List Int} (nd : l.Nodup) (h : ∀ x ∈ l, x ∈ m) : l.length ≤ m.length := by
  induction l generalizing m with
  | nil => simp
  | cons a r ih =>
    rw [List.nodup_cons] at nd
    have ha := h a (.head _)
    have : r.length ≤ (m.erase a).length := ih nd.2 fun x hx => (List.mem_erase_of_ne fun q => nd.1 (by rw [← q]; exact hx)).mpr (h x (.tail _ hx))
    rw [List.length_erase_of_mem ha] at this
    have := List.length_pos_of_mem ha
    simp; omega
theorem DI.len {c : Option Int} (D : DI G fin st seen c) : fin.length + st.length ≤ G.length := by
  have := len_le D.nd D.sub
  simpa using this
noncomputable def mu (G : List Gn) (seen : Int → Bool) (st : List (Int × Nat)) : Nat := ((G.map (·.k)).map fun k => if seen k then 0 else (scOf G k).length + 1).sum + (st.map fun p => (scOf G p.1).length - p.2).sum
theorem sum_drop {f f' : Int → Nat} {k : Int} : ∀ {l : List Int}, k ∈ l → (∀ x, f' x ≤ f x) → (l.map f').sum + (f k - f' k) ≤ (l.map f).sum
  | x :: r, h, hf => by
    have all : ∀ r : List Int, (r.map f').sum ≤ (r.map f).sum := fun r => by
      induction r with
      | nil => simp
      | cons y q ih => have := hf y; simp; omega
    rcases List.mem_cons.mp h with rfl | h
    · have := all r; have := hf k; simp; omega
    · have := sum_drop h hf; have := hf x; simp; omega
theorem mu_push (h : seen k = false) (hk : k ∈ G.map (·.k)) : mu G (fun k' => seen k' || decide (k' = k)) ((k, 0) :: st) + 1 ≤ mu G seen st := by
  have := sum_drop (f := fun k => if seen k then 0 else (scOf G k).length + 1) (f' := fun k' => if (seen k' || decide (k' = k)) then 0 else (scOf G k').length + 1) hk fun x => by
    cases seen x <;> simp
    split <;> omega
  simp [h] at this
  unfold mu
  simp
  omega
theorem mu_ar {n i s t : Nat} (h : i < n) : t + (n - (i + 1) + s) + 1 ≤ t + (n - i + s) := by omega
theorem mu_take (h : (scOf G a)[i]? = some b) : mu G seen ((a, i + 1) :: below) + 1 ≤ mu G seen ((a, i) :: below) := by
  obtain ⟨hi, _⟩ := List.getElem?_eq_some_iff.mp h
  unfold mu
  exact mu_ar hi
theorem mu_pop : mu G seen below ≤ mu G seen ((a, i) :: below) := by unfold mu; simp
end
end Mine

namespace Mine
theorem upd_none {f : Sto} {a b : Addr} {i : It} (h : upd f a i b = none) : b ≠ a ∧ f b = none := by
  by_cases q : b = a
  · subst q; rw [upd_self] at h; cases h
  · exact ⟨q, by rwa [upd_ne q] at h⟩
theorem ints_snoc {a : Int} : ∀ {l : List Int} {svs : List Value}, IntsAre svs (l ++ [a]) → ∃ sv0 t0, svs = sv0 ++ [.int a t0] ∧ IntsAre sv0 l
  | [], _, h => by
    refine gate ?_
    intro Gg kg
    obtain ⟨t, vs', rfl, h'⟩ := h.cons_inv
    refine kg ?_
    clear kg Gg
    rw [h'.nil_inv]
    exact ⟨[], t, rfl, .nil⟩
  | x :: r, _, h => by
    refine gate ?_
    intro Gg kg
    obtain ⟨t, vs', rfl, h'⟩ := h.cons_inv
    obtain ⟨sv0, t0, rfl, h2⟩ := ints_snoc h'
    refine kg ?_
    clear kg Gg
    exact ⟨.int x t :: sv0, t0, rfl, .cons _ _ h2⟩
structure Lvl where
  a : Int
  i : Nat
  u : Addr
  it : Addr
  sa : Addr
noncomputable abbrev itLv (x : Lvl) : It := .pr 12 fun o => o.cls = .type "list_iterator" ∧ o.data = .fields #[.ref x.sa, .int x.i 0]
noncomputable def KvOk : List Lvl → List (Int × Value) → Prop
  | [], kvs => kvs = []
  | x :: r, kvs => ∃ kvs' t, kvs = kvs' ++ [(x.a, .int r.length t)] ∧ KvOk r kvs'
theorem KvOk.keys : ∀ {st : List Lvl} {kvs : List (Int × Value)}, KvOk st kvs → kvs.map (·.1) = (st.map (·.a)).reverse
  | [], _, h => by rw [show _ = [] from h]; rfl
  | x :: r, _, ⟨kvs', t, h, q⟩ => by rw [h, List.map_append, KvOk.keys q]; simp
theorem KvOk.len {st : List Lvl} {kvs : List (Int × Value)} (h : KvOk st kvs) : kvs.length = st.length := by
  have := congrArg List.length h.keys
  simpa using this
theorem KvOk.no {st : List Lvl} {kvs : List (Int × Value)} (h : KvOk st kvs) {k : Int} (hk : k ∉ st.map (·.a)) : valueAt kvs k = none := by
  unfold valueAt
  rw [Option.map_eq_none_iff, List.find?_eq_none]
  intro p hp q
  have : p.1 ∈ kvs.map (·.1) := List.mem_map_of_mem hp
  rw [h.keys, List.mem_reverse] at this
  have e : p.1 = k := by simpa using q
  exact hk (e ▸ this)
theorem KvOk.yes : ∀ {st : List Lvl} {kvs : List (Int × Value)}, KvOk st kvs → (st.map (·.a)).Nodup → ∀ {k : Int}, k ∈ st.map (·.a) → ∃ above x below t, st = above ++ x :: below ∧ x.a = k ∧ valueAt kvs k = some (.int below.length t)
  | x :: r, _, ⟨kvs', t, h, q⟩, nd, k, hk => by
    rw [List.map_cons, List.nodup_cons] at nd
    by_cases e : x.a = k
    · refine ⟨[], x, r, t, rfl, e, ?_⟩
      have : valueAt kvs' k = none := q.no (e ▸ nd.1)
      unfold valueAt at this ⊢
      rw [Option.map_eq_none_iff] at this
      rw [h, List.find?_append, this]
      simp [e]
    · have hk' : k ∈ r.map (·.a) := by
        rcases List.mem_cons.mp hk with h | h
        · exact absurd h.symm e
        · exact h
      refine gate ?_
      intro Gg kg
      obtain ⟨ab, y, be, t', e1, e2, e3⟩ := q.yes nd.2 hk'
      refine kg ?_
      clear kg Gg
      refine ⟨x :: ab, y, be, t', by rw [e1]; rfl, e2, ?_⟩
      unfold valueAt at e3 ⊢
      rw [Option.map_eq_some_iff] at e3
      refine gate ?_
      intro Gg kg
      obtain ⟨p, hp, hp2⟩ := e3
      refine kg ?_
      clear kg Gg
      rw [h, List.find?_append, hp]
      simp [hp2]
theorem KvOk.stored {st : List Lvl} {kvs : List (Int × Value)} (h : KvOk st kvs) {k : Int} (hk : k ∉ st.map (·.a)) (v : Value) : stored kvs k v = kvs ++ [(k, v)] := by
  unfold PySem.stored
  rw [if_neg]
  intro q
  refine gate ?_
  intro Gg kg
  obtain ⟨p, hp, e⟩ := List.any_eq_true.mp q
  refine kg ?_
  clear kg Gg
  have : p.1 ∈ kvs.map (·.1) := List.mem_map_of_mem hp
  rw [h.keys, List.mem_reverse] at this
  have e : p.1 = k := by simpa using e
  exact hk (e ▸ this)
theorem KvOk.without {x : Lvl} {st : List Lvl} {kvs : List (Int × Value)} (h : KvOk (x :: st) kvs) (nd : ((x :: st).map (·.a)).Nodup) : KvOk st (without kvs x.a) := by
  refine gate ?_
  intro Gg kg
  obtain ⟨kvs', t, rfl, q⟩ := h
  refine kg ?_
  clear kg Gg
  rw [List.map_cons, List.nodup_cons] at nd
  have : PySem.without (kvs' ++ [(x.a, .int st.length t)]) x.a = kvs' := by
    unfold PySem.without
    rw [List.filter_append]
    have e2 : kvs'.filter (fun kv => decide (kv.1 ≠ x.a)) = kvs' := by
      rw [List.filter_eq_self]
      intro p hp
      have : p.1 ∈ kvs'.map (·.1) := List.mem_map_of_mem hp
      rw [q.keys, List.mem_reverse] at this
      simp only [decide_eq_true_eq]
      exact fun e => nd.1 (e ▸ this)
    rw [e2]
    simp
  rw [this]; exact q
section
variable {c : Cx nm prg KK gl bl} {A : Around} {E : Value → Shared → Prop} {τ τ' β : Sto} {L : Addr} {l : List (Nat × Value)} {s : Shared} {env : Env}
noncomputable def LvAt (β τ : Sto) (G : List Gn) (x : Lvl) : Prop := τ x.u = some (.ob 13 (wrap x.it)) ∧ τ x.it = some (itLv x) ∧ β x.it = none ∧ ∃ svs, β x.sa = some (.ls 2 svs) ∧ IntsAre svs (scOf G x.a)
noncomputable abbrev abs (st : List Lvl) : List (Int × Nat) := st.map fun x => (x.a, x.i)
theorem abs_a (st : List Lvl) : (abs st).map (·.1) = st.map (·.a) := by unfold abs; rw [List.map_map]; rfl
structure FI (c : Cx nm prg KK gl bl) (β τ : Sto) (G : List Gn) (sk ik se di : Addr) (st : List Lvl) (fin : List Int) (seen : Int → Bool) (child : Option Int) : Prop where
  sub : ∀ a j, β a = some j → τ a = some j
  fr : β sk = none ∧ β ik = none ∧ β se = none ∧ β di = none
  stk : ∃ svs, τ sk = some (.ls 14 svs) ∧ IntsAre svs (st.map (·.a)).reverse
  its : τ ik = some (.ls 15 (st.map fun x => Value.ref x.u).reverse)
  set : τ se = some (setI c 10 seen (fin.length + st.length))
  dic : ∃ kvs ep, τ di = some (dct c 11 kvs ep) ∧ KvOk st kvs
  lv : ∀ x ∈ st, LvAt β τ G x
  nit : (st.map (·.it)).Nodup
  ok : DI G fin (abs st) seen child
variable {G : List Gn} {sk ik se di : Addr} {st : List Lvl} {fin : List Int} {seen : Int → Bool} {child : Option Int} {k : Int}
theorem FI.of (F : FI c β τ G sk ik se di st fin seen child) {child'} (D : DI G fin (abs st) seen child') : FI c β τ G sk ik se di st fin seen child' := ⟨F.sub, F.fr, F.stk, F.its, F.set, F.dic, F.lv, F.nit, D⟩
theorem FI.nd (F : FI c β τ G sk ik se di st fin seen child) : (st.map (·.a)).Nodup := by
  have := (List.nodup_append.mp F.ok.nd).2.1
  rwa [abs_a] at this
theorem FI.len (F : FI c β τ G sk ik se di st fin seen child) : fin.length + st.length ≤ G.length := by have := F.ok.len; simpa [abs] using this
theorem FI.push (F : FI c β τ G sk ik se di st fin seen (some k)) (hk : seen k = false) (hG : k ∈ G.map (·.k)) {it u sa : Addr} {svs svs' : List Value} {kvs : List (Int × Value)} {ep ep' : Nat} {t t' : Tok}
    (h1 : τ sk = some (.ls 14 svs)) (h2 : IntsAre svs (st.map (·.a)).reverse) (h3 : τ di = some (dct c 11 kvs ep)) (h4 : KvOk st kvs) (h5 : β sa = some (.ls 2 svs')) (h6 : IntsAre svs' (scOf G k)) (n1 : τ it = none) (n2 : τ u = none) (n3 : u ≠ it) :
    FI c β (upd (upd (upd (upd (upd (upd τ se (setI c 10 (fun k' => seen k' || decide (k' = k)) (fin.length + (st.length + 1)))) it (itLv ⟨k, 0, u, it, sa⟩)) u (.ob 13 (wrap it))) ik (.ls 15 ((st.map fun x => Value.ref x.u).reverse ++ [.ref u]))) di (dct c 11 (stored kvs k (.int st.length t)) ep')) sk (.ls 14 (svs ++ [.int k t'])))
      G sk ik se di (⟨k, 0, u, it, sa⟩ :: st) fin (fun k' => seen k' || decide (k' = k)) none := by
  refine gate ?_
  intro Gg kg
  obtain ⟨sub, ⟨f1, f2, f3, f4⟩, stk, its, set, dic, lv, nit, ok⟩ := F
  refine kg ?_
  clear kg Gg
  have a1 : sk ≠ ik := ne_of_tag h1 its
  have a2 : sk ≠ se := ne_of_tag h1 set
  have a3 : sk ≠ di := ne_of_tag h1 h3
  have a4 : ik ≠ se := ne_of_tag its set
  have a5 : ik ≠ di := ne_of_tag its h3
  have a6 : se ≠ di := ne_of_tag set h3
  have b1 := ne_of_none h1 n1
  have b2 := ne_of_none its n1
  have b3 := ne_of_none set n1
  have b4 := ne_of_none h3 n1
  have c1 := ne_of_none h1 n2
  have c2 := ne_of_none its n2
  have c3 := ne_of_none set n2
  have c4 := ne_of_none h3 n2
  have z1 : ∀ a, τ a = none → β a = none := fun a e => by
    cases q : β a with
    | none => rfl
    | some j => rw [sub a j q] at e; cases e
  have hnot : k ∉ st.map (·.a) := fun q => by
    have := (ok.see k).mpr (List.mem_append_right _ (by rw [abs_a]; exact q))
    rw [hk] at this; cases this
  have old : ∀ a j, a ≠ sk → a ≠ di → a ≠ ik → a ≠ se → τ a = some j → (upd (upd (upd (upd (upd (upd τ se (setI c 10 (fun k' => seen k' || decide (k' = k)) (fin.length + (st.length + 1)))) it (itLv ⟨k, 0, u, it, sa⟩)) u (.ob 13 (wrap it))) ik (.ls 15 ((st.map fun x => Value.ref x.u).reverse ++ [.ref u]))) di (dct c 11 (stored kvs k (.int st.length t)) ep')) sk (.ls 14 (svs ++ [.int k t']))) a = some j := fun a j q1 q2 q3 q4 e => by
    rw [upd_ne q1, upd_ne q2, upd_ne q3, upd_ne (ne_of_none e n2), upd_ne (ne_of_none e n1), upd_ne q4]; exact e
  refine ⟨fun a j e => old a j (ne_of_none e f1) (ne_of_none e f4) (ne_of_none e f2) (ne_of_none e f3) (sub a j e), ⟨f1, f2, f3, f4⟩, ⟨_, upd_self, ?_⟩, ?_, ?_, ⟨stored kvs k (.int st.length t), ep', ?_, ?_⟩, ?_, ?_, ok.push hk hG⟩
  · rw [List.map_cons, List.reverse_cons]; exact h2.append (.cons _ _ .nil)
  · rw [upd_ne (Ne.symm a1), upd_ne a5, upd_self, List.map_cons, List.reverse_cons]
  · rw [upd_ne (Ne.symm a2), upd_ne a6, upd_ne (Ne.symm a4), upd_ne c3, upd_ne b3, upd_self]; rfl
  · rw [upd_ne (Ne.symm a3), upd_self]
  · exact ⟨kvs, t, h4.stored hnot _, h4⟩
  · intro x hx
    rcases List.mem_cons.mp hx with rfl | hx
    · refine ⟨?_, ?_, z1 _ n1, svs', h5, h6⟩
      · rw [upd_ne (Ne.symm c1), upd_ne (Ne.symm c4), upd_ne (Ne.symm c2), upd_self]
      · rw [upd_ne (Ne.symm b1), upd_ne (Ne.symm b4), upd_ne (Ne.symm b2), upd_ne (Ne.symm n3), upd_self]
    · refine gate ?_
      intro Gg kg
      obtain ⟨g1, g2, g3, g4⟩ := lv x hx
      refine kg ?_
      clear kg Gg
      exact ⟨old _ _ (ne_of_tag g1 h1) (ne_of_tag g1 h3) (ne_of_tag g1 its) (ne_of_tag g1 set) g1, old _ _ (ne_of_tag g2 h1) (ne_of_tag g2 h3) (ne_of_tag g2 its) (ne_of_tag g2 set) g2, g3, g4⟩
  · rw [List.map_cons, List.nodup_cons]
    refine ⟨fun q => ?_, nit⟩
    refine gate ?_
    intro Gg kg
    obtain ⟨x, hx, e⟩ := List.mem_map.mp q
    obtain ⟨g1, g2, g3, g4⟩ := lv x hx
    refine kg ?_
    clear kg Gg
    rw [e, n1] at g2; cases g2
theorem FI.take {x : Lvl} (F : FI c β τ G sk ik se di (x :: st) fin seen none) {b : Int} (hb : (scOf G x.a)[x.i]? = some b) : FI c β (upd τ x.it (itLv { x with i := x.i + 1 })) G sk ik se di ({ x with i := x.i + 1 } :: st) fin seen (some b) := by
  refine gate ?_
  intro Gg kg
  obtain ⟨sub, ⟨f1, f2, f3, f4⟩, ⟨svs, h1, h2⟩, its, set, ⟨kvs, ep, h3, h4⟩, lv, nit, ok⟩ := F
  obtain ⟨g1, g2, g3, g4⟩ := lv x (.head _)
  refine kg ?_
  clear kg Gg
  have old : ∀ a j, τ a = some j → a ≠ x.it → (upd τ x.it (itLv { x with i := x.i + 1 })) a = some j := fun a j e q => (upd_ne q).trans e
  refine ⟨fun a j e => old a j (sub a j e) (ne_of_none e g3), ⟨f1, f2, f3, f4⟩, ⟨svs, old _ _ h1 (ne_of_tag h1 g2), h2⟩, old _ _ its (ne_of_tag its g2), old _ _ set (ne_of_tag set g2), ⟨kvs, ep, old _ _ h3 (ne_of_tag h3 g2), h4⟩, ?_, nit, ok.take hb⟩
  intro y hy
  rcases List.mem_cons.mp hy with rfl | hy
  · exact ⟨old _ _ g1 (ne_of_tag g1 g2), upd_self, g3, g4⟩
  · refine gate ?_
    intro Gg kg
    obtain ⟨k1, k2, k3, k4⟩ := lv y (.tail _ hy)
    refine kg ?_
    clear kg Gg
    rw [List.map_cons, List.nodup_cons] at nit
    exact ⟨old _ _ k1 (ne_of_tag k1 g2), old _ _ k2 fun q => nit.1 (q ▸ List.mem_map_of_mem hy), k3, k4⟩
theorem FI.pop {x : Lvl} (F : FI c β τ G sk ik se di (x :: st) fin seen none) (hb : (scOf G x.a).length ≤ x.i) {svs : List Value} {kvs : List (Int × Value)} {ep ep' : Nat} (h2 : IntsAre svs (st.map (·.a)).reverse) (h3 : τ di = some (dct c 11 kvs ep)) (h4 : KvOk (x :: st) kvs) :
    FI c β (upd (upd (upd (del τ x.it) sk (.ls 14 svs)) di (dct c 11 (without kvs x.a) ep')) ik (.ls 15 (st.map fun x => Value.ref x.u).reverse)) G sk ik se di st (x.a :: fin) seen none := by
  have nda := F.nd
  refine gate ?_
  intro Gg kg
  obtain ⟨sub, ⟨f1, f2, f3, f4⟩, ⟨svs', h1, _⟩, its, set, _, lv, nit, ok⟩ := F
  obtain ⟨g1, g2, g3, g4⟩ := lv x (.head _)
  refine kg ?_
  clear kg Gg
  have a1 : sk ≠ ik := ne_of_tag h1 its
  have a2 : sk ≠ se := ne_of_tag h1 set
  have a3 : sk ≠ di := ne_of_tag h1 h3
  have a4 : ik ≠ se := ne_of_tag its set
  have a5 : ik ≠ di := ne_of_tag its h3
  have a6 : se ≠ di := ne_of_tag set h3
  have old : ∀ a j, a ≠ sk → a ≠ di → a ≠ ik → a ≠ x.it → τ a = some j → (upd (upd (upd (del τ x.it) sk (.ls 14 svs)) di (dct c 11 (without kvs x.a) ep')) ik (.ls 15 (st.map fun x => Value.ref x.u).reverse)) a = some j := fun a j q1 q2 q3 q4 e => by
    rw [upd_ne q3, upd_ne q2, upd_ne q1, del_ne q4]; exact e
  refine ⟨fun a j e => old a j (ne_of_none e f1) (ne_of_none e f4) (ne_of_none e f2) (ne_of_none e g3) (sub a j e), ⟨f1, f2, f3, f4⟩, ⟨svs, ?_, h2⟩, upd_self, ?_, ⟨PySem.without kvs x.a, ep', ?_, h4.without nda⟩, ?_, ?_, ok.pop hb⟩
  · rw [upd_ne a1, upd_ne a3, upd_self]
  · rw [old se _ (Ne.symm a2) a6 (Ne.symm a4) (ne_of_tag set g2) set]
    congr 2
    rw [List.length_cons, List.length_cons]; omega
  · rw [upd_ne (Ne.symm a5), upd_self]
  · intro y hy
    refine gate ?_
    intro Gg kg
    obtain ⟨k1, k2, k3, k4⟩ := lv y (.tail _ hy)
    refine kg ?_
    clear kg Gg
    rw [List.map_cons, List.nodup_cons] at nit
    exact ⟨old _ _ (ne_of_tag k1 h1) (ne_of_tag k1 h3) (ne_of_tag k1 its) (ne_of_tag k1 g2) k1, old _ _ (ne_of_tag k2 h1) (ne_of_tag k2 h3) (ne_of_tag k2 its) (fun q => nit.1 (q ▸ List.mem_map_of_mem hy)) k2, k3, k4⟩
  · rw [List.map_cons, List.nodup_cons] at nit; exact nit.2
end
end Mine

namespace Mine
section
variable {c : Cx nm prg KK gl bl} {A : Around} {E : Value → Shared → Prop} {τ τ' β : Sto} {L : Addr} {l : List (Nat × Value)} {s : Shared} {env : Env}
theorem kStop (P : Params) : exmOne (KK P) (.type "StopIteration") (.type "StopIteration") = some true := by kernel_rfl
theorem FI.iter {G : List Gn} {sk ik se di it : Addr} {st : List Lvl} {fin : List Int} {seen : Int → Bool} {child : Option Int} {j : It} (F : FI c β τ G sk ik se di st fin seen child) (hn : τ it = none) (hj : j.tag = 1) : FI c (upd β it j) (upd τ it j) G sk ik se di st fin seen child := by
  refine gate ?_
  intro Gg kg
  obtain ⟨sub, ⟨f1, f2, f3, f4⟩, ⟨svs, h1, h2⟩, its, set, ⟨kvs, ep, h3, h4⟩, lv, nit, ok⟩ := F
  refine kg ?_
  clear kg Gg
  have old : ∀ a i, τ a = some i → upd τ it j a = some i := fun a i e => (upd_ne (ne_of_none e hn)).trans e
  have oldb : ∀ {a i}, τ a = some i → β a = none → upd β it j a = none := fun e q => (upd_ne (ne_of_none e hn)).trans q
  refine ⟨fun a i e => ?_, ⟨oldb h1 f1, oldb its f2, oldb set f3, oldb h3 f4⟩, ⟨svs, old _ _ h1, h2⟩, old _ _ its, old _ _ set, ⟨kvs, ep, old _ _ h3, h4⟩, fun x hx => ?_, nit, ok⟩
  · by_cases q : a = it
    · subst q; rw [upd_self] at e ⊢; exact e
    · rw [upd_ne q] at e ⊢; exact sub a i e
  · refine gate ?_
    intro Gg kg
    obtain ⟨k1, k2, k3, svs, k4, k5⟩ := lv x hx
    refine kg ?_
    clear kg Gg
    exact ⟨old _ _ k1, old _ _ k2, oldb k2 k3, svs, (upd_ne (ne_of_none (sub _ _ k4) hn)).trans k4, k5⟩
theorem FI.back {G : List Gn} {sk ik se di it : Addr} {fin : List Int} {seen : Int → Bool} {child : Option Int} {j : It} (F : FI c (upd β it j) τ G sk ik se di [] fin seen child) (hb : β it = none) : FI c β (del τ it) G sk ik se di [] fin seen child := by
  refine gate ?_
  intro Gg kg
  obtain ⟨sub, ⟨f1, f2, f3, f4⟩, ⟨svs, h1, h2⟩, its, set, ⟨kvs, ep, h3, h4⟩, lv, nit, ok⟩ := F
  refine kg ?_
  clear kg Gg
  have hne : ∀ {a}, upd β it j a = none → a ≠ it := fun e q => by subst q; rw [upd_self] at e; cases e
  refine ⟨fun a i e => ?_, ⟨(upd_ne (hne f1)).symm.trans f1, (upd_ne (hne f2)).symm.trans f2, (upd_ne (hne f3)).symm.trans f3, (upd_ne (hne f4)).symm.trans f4⟩, ⟨svs, (del_ne (hne f1)).trans h1, h2⟩, (del_ne (hne f2)).trans its, (del_ne (hne f3)).trans set, ⟨kvs, ep, (del_ne (hne f4)).trans h3, h4⟩, nofun, nit, ok⟩
  have q : a ≠ it := ne_of_none e hb
  rw [del_ne q]; exact sub a i ((upd_ne q).trans e)
theorem oItemN {ks : List (Nat × NameKind)} {cs : List (Nat × Addr)} {n : Nat} {W : Wk c ks cs n} {value slice : Ex} {a : Addr} {t : Nat} {vs : List Value} {u : Tok} {x : Value} {K : Value → Sto → Prop} (e : τ a = some (.ls t vs)) (hk2 : 1 ≤ vs.length) (hj : vs.length < 100000) (hx : vs[vs.length - 1]? = some x) (h : K x τ) (hs : rawE slice = false := by rfl) : Op W τ l (subscriptTail (embE nm value) (embE nm slice) (.ref a) (.int (-1) u)) K := fun s Q E R q =>
  xItemN (k := 1) R e (Nat.le_refl _) hk2 hj hx (q _ _ s h R) (by cases slice <;> first | rfl | cases hs)
structure Fx where
  τ : Sto
  st : List Lvl
  fin : List Int
  seen : Int → Bool
  k : Int
  t : Tok
theorem oNextW {ks : List (Nat × NameKind)} {cs : List (Nat × Addr)} {n : Nat} {W : Wk c ks cs n} {it a : Addr} {k : Int} {K : Value → Sto → Prop} (n1 : τ it = none) (h : ∀ u, τ u = none → u ≠ it → u ≠ W.L → K (.ref u) (upd (upd τ it (itLv ⟨k, 0, u, it, a⟩)) u (.ob 13 (wrap it)))) : Op W (upd τ it (.ob 1 (liNew a))) l (getAttr (.ref it) (nm 12) true) K := fun s Q E R q =>
  gNext rfl R upd_self fun u2 s p2 p2' R => by
    obtain ⟨p3, p2⟩ := upd_none p2
    have R := R.retell (a := it) (i' := itLv ⟨k, 0, u2, it, a⟩) ((upd_ne (Ne.symm p3)).trans upd_self) (fun h x => ⟨_, x, rfl, rfl⟩)
    rw [upd_comm p3, upd_upd] at R
    have R := R.retell (a := u2) (i' := .ob 13 (wrap it)) upd_self (fun h x => x)
    rw [upd_upd] at R
    exact q _ _ s (h u2 p2 p3 p2') R
theorem sp_find_cycle {x : Addr} {ns : List Nd} {rd : Option (Addr × List Int)} {np nf : Int} {Q : Value → Shared → Prop} (H : Ok 18 A) (LV : Lv A env τ L) (R : Rel c τ L l s) (S : SAt c τ x ns rd np nf) (hz : gSz (gOf ns) 700) (hcl : ∀ n ∈ ns, ∀ z ∈ n.sc, z ∈ ns.map (·.k))
    (hno : ∀ s', Acyc (gOf ns) → Rel c τ L l s' → Q .none s')
    (hyes : ∀ b vs ring s', Ring (gOf ns) ring → IntsAre vs ring → τ b = none → Rel c (upd τ b (.ls 0 vs)) L l s' → Q (.ref b) s') :
    wpAny c.M A (call (.ref f_TopologicalSorter__find_cycle) [.ref x]) Q E s := by
  refine wpAny_call ?_
  refine callW (n := 17) (lb := [(128, .ref x)]) H R rfl (by kernel_rfl) ⟨rfl, rfl, rfl⟩ (ks := ks_TopologicalSorter__find_cycle) rfl rfl (BindsTo.of_eq (by kernel_rfl)) rfl ?_
  have R0 := R
  clear R
  intro W s Q' E' hf hA R f1 f2 hq hn he
  dsimp only [n_self, n_n2i, n_stack, n_itstack, n_seen, n_node2stacki, n_node, n_set, n_iter, n_len, n_StopIteration, n__node2info, n___next__, n_successors, n_append, n_pop, n_add, q_nm, q_int, q_non, q_bool, q_str, q_bin, q_neg, q_not, q_cmp, q_and, q_or, q_sub, q_slLo, q_slHi, q_slRev, q_attr, q_call0, q_call1, q_call2, q_call3, q_meth0, q_meth1, q_meth2, q_list0, q_list1, q_list2, q_list3, q_lc, q_js, q_nx, q_dct, q_asg, q_setI, q_setA, q_asg2, q_asgT, q_augA, q_augI, q_exp, q_iff, q_ret, q_brk, q_cont, q_whl, q_for1, q_forT, q_tryx, q_rai, q_del, q_asr, q_asgC, q_expC, q_nil, q_cons]
  have W1 : Lv W.A W.env (upd τ L (.fr l)) W.L := by rw [hA]; exact LV.into (l := l) W.V hf R0.apart
  obtain ⟨q, S⟩ := S
  have S1 := S.mono (Up2.into (l := l) R0.apart)
  have outw : ∀ τ' l' s', (∀ a j, upd τ L (.fr l) a = some j → τ' a = some j) → Rl W τ' l' s' → Rel c τ L l s' := fun τ' l' s' k R' => R'.back (k _ _ upd_self) (fun a i e => k a i ((upd_ne (ne_of_none e R0.apart)).trans e)) R0.apart
  have hβL : upd τ L (.fr l) L = some (.fr l) := upd_self
  have hβu : ∀ a i, τ a = some i → upd τ L (.fr l) a = some i := fun a i e => (upd_ne (ne_of_none e R0.apart)).trans e
  generalize upd τ L (.fr l) = β at *
  refine vcS_ok 9 _ [] _ _ _ ?_ R
  refine oTG (.inr (.inl rfl)) S1.hd.1 S1.hd.2.1 rfl rfl fun sk n1 n1' ik n2 n2' => ⟨trivial, oRetag (a := sk) (i' := .ls 14 []) ((upd_ne (ne_of_none upd_self n2)).trans upd_self) (fun _ x => x) (oRetag (a := ik) (i' := .ls 15 []) ((upd_ne (Ne.symm (ne_of_none upd_self n2))).trans upd_self) (fun _ x => x) (oNewSet 10 fun se n3 n3' => oDict 11 fun di n4 n4' n4'' => ?_))⟩
  have F0 : FI c β (upd (upd (upd (upd (upd (upd β sk (.ls 1 [])) ik (.ls 1 [])) sk (.ls 14 [])) ik (.ls 15 [])) se (setI c 10 (fun _ => false) 0)) di (dct c 11 [] 0)) (gOf ns) sk ik se di [] [] (fun _ => false) none := by
    have a1 : sk ≠ ik := ne_of_none upd_self n2
    have a3 : ik ≠ se := ne_of_none upd_self n3
    have a2 : sk ≠ se := ne_of_none ((upd_ne a1).trans upd_self) n3
    have a6 : se ≠ di := ne_of_none upd_self n4
    have a5 : ik ≠ di := ne_of_none ((upd_ne a3).trans upd_self) n4
    have a4 : sk ≠ di := ne_of_none ((upd_ne a2).trans ((upd_ne a1).trans upd_self)) n4
    have b2 : β ik = none := (upd_ne (Ne.symm a1)).symm.trans n2
    have b3 : β se = none := (upd_ne (Ne.symm a2)).symm.trans ((upd_ne (Ne.symm a3)).symm.trans ((upd_ne (Ne.symm a2)).symm.trans ((upd_ne (Ne.symm a3)).symm.trans n3)))
    have b4 : β di = none := (upd_ne (Ne.symm a4)).symm.trans ((upd_ne (Ne.symm a5)).symm.trans ((upd_ne (Ne.symm a4)).symm.trans ((upd_ne (Ne.symm a5)).symm.trans ((upd_ne (Ne.symm a6)).symm.trans n4))))
    exact ⟨fun a j e => (upd_ne (ne_of_none e b4)).trans ((upd_ne (ne_of_none e b3)).trans ((upd_ne (ne_of_none e b2)).trans ((upd_ne (ne_of_none e n1)).trans ((upd_ne (ne_of_none e b2)).trans ((upd_ne (ne_of_none e n1)).trans e))))), ⟨n1, b2, b3, b4⟩, ⟨[], (upd_ne a4).trans ((upd_ne a2).trans ((upd_ne a1).trans upd_self)), .nil⟩, (upd_ne a5).trans ((upd_ne a3).trans upd_self), (upd_ne a6).trans upd_self, ⟨[], 0, upd_self, rfl⟩, nofun, .nil, DI.start⟩
  generalize (upd (upd (upd (upd (upd (upd β sk (.ls 1 [])) ik (.ls 1 [])) sk (.ls 14 [])) ik (.ls 15 [])) se (setI c 10 (fun _ => false) 0)) di (dct c 11 [] 0)) = τ4 at F0
  clear n1 n1' n2 n2' n3 n3' n4 n4'
  have e4 := S1.hd.2.2.2
  have hG : (gOf ns).length ≤ 700 := hz.1
  have hkG : ∀ m ∈ ns, m.k ∈ (gOf ns).map (·.k) := fun m hm => by rw [gOf_k]; exact List.mem_map_of_mem hm
  have hsG : ∀ a z, z ∈ scOf (gOf ns) a → z ∈ (gOf ns).map (·.k) := fun a z hz => by
    unfold scOf at hz
    cases e : (gOf ns).find? fun g => g.k == a with
    | none => rw [e] at hz; cases hz
    | some g =>
      rw [e] at hz
      refine gate ?_
      intro Gg kg
      obtain ⟨m, hm, rfl⟩ := List.mem_map.mp (List.mem_of_find?_eq_some e)
      refine kg ?_
      clear kg Gg
      rw [gOf_k]; exact hcl m hm z hz
  refine forK (α := Fx) (N := 9) (σ := Fx.τ) (fr := fun _ => [(91, .ref q.nd), (133, .ref sk), (73, .ref ik), (127, .ref se), (98, .ref di)]) (F1 := fun _ p => FI c β p.τ (gOf ns) sk ik se di [] p.fin p.seen none) (F2 := fun j p => ∀ i < j, ∀ n, ns[i]? = some n → p.seen n.k = true) (F3 := fun _ _ => True) ⟨by decide, fun it => drvD (kvs := kvsOf ns), fun j p F _ _ => ⟨5, F.sub _ _ e4⟩, ?_, ?_⟩ ⟨τ4, [], [], fun _ => false, 0, 0⟩ (itDs (F0.sub _ _ e4) S1.hd.2.2.1) ⟨rfl, rfl, rfl, rfl, rfl, trivial⟩ F0 (fun i hi => absurd hi (Nat.not_lt_zero _)) trivial
  · rintro i _ it p F Qb hi ⟨k, vv, t, hk, rfl⟩ F1 hs _ hit hne lp
    have F2 := F1.iter (j := itD q.nd (kvsOf ns).length q.ep (i + 1)) hit rfl
    have hbit : β it = none := by
      cases z : β it with
      | none => rfl
      | some j => rw [F1.sub _ _ z] at hit; cases hit
    obtain ⟨n, hn, hnk⟩ : ∃ n, ns[i]? = some n ∧ n.k = k := by
      unfold kvsOf at hk
      rw [List.getElem?_map, Option.map_eq_some_iff] at hk
      refine gate ?_
      intro Gg kg
      obtain ⟨n, h1, h2⟩ := hk
      refine kg ?_
      clear kg Gg
      cases h2
      exact ⟨n, h1, rfl⟩
    have more : ∀ {seen' : Int → Bool}, (∀ x, p.seen x = true → seen' x = true) → seen' k = true → ∀ j < i + 1, ∀ m, ns[j]? = some m → seen' m.k = true := fun h1 h2 j hj m hm => by
      rcases Nat.lt_or_eq_of_le (Nat.lt_succ_iff.mp hj) with z | rfl
      · exact h1 _ (hs j z m hm)
      · rw [hn] at hm; cases hm; rw [hnk]; exact h2
    refine ⟨_, tgt rfl, oInS F2.set ⟨fun hb => lp.ct (p, upd p.τ it (itD q.nd (kvsOf ns).length q.ep (i + 1))) ⟨upd_self, del_upd hit⟩ F1 (more (fun _ h => h) hb) trivial trivial _ ⟨rfl, rfl, rfl, rfl, rfl, trivial⟩, fun hb => ?_⟩⟩
    have hb4 : (upd β it (itD q.nd (kvsOf ns).length q.ep (i + 1))) q.nd = some (dct c 5 (kvsOf ns) q.ep) := (upd_ne (ne_of_none e4 hbit)).trans e4
    have hbL : (upd β it (itD q.nd (kvsOf ns).length q.ep (i + 1))) L = some (.fr l) := (upd_ne (ne_of_none hβL hbit)).trans hβL
    have W2 : Lv W.A W.env (upd β it (itD q.nd (kvsOf ns).length q.ep (i + 1))) W.L := W1.mono fun a l e => ⟨l, (upd_ne (ne_of_none e hbit)).trans e⟩
    have each2 : ∀ m ∈ ns, NdAt (upd β it (itD q.nd (kvsOf ns).length q.ep (i + 1))) m := fun m hm => (S1.each m hm).mono (Up2.fresh hbit)
    have up2 : ∀ a j, τ a = some j → (upd β it (itD q.nd (kvsOf ns).length q.ep (i + 1))) a = some j := fun a j e => (upd_ne (ne_of_none (hβu a j e) hbit)).trans (hβu a j e)
    have bk : (upd β it (itD q.nd (kvsOf ns).length q.ep (i + 1))) it = some (itD q.nd (kvsOf ns).length q.ep (i + 1)) := upd_self
    have fbk : ∀ {τ fin seen child}, FI c (upd β it (itD q.nd (kvsOf ns).length q.ep (i + 1))) τ (gOf ns) sk ik se di [] fin seen child → FI c β (del τ it) (gOf ns) sk ik se di [] fin seen child := fun F => F.back hbit
    have hkk : k ∈ (gOf ns).map (·.k) := hnk ▸ hkG n (List.mem_of_getElem? hn)
    generalize upd β it (itD q.nd (kvsOf ns).length q.ep (i + 1)) = β1 at *
    generalize upd p.τ it (itD q.nd (kvsOf ns).length q.ep (i + 1)) = τ1 at *
    refine vWhile 9 Fx.τ (fun x => [(91, .ref q.nd), (133, .ref sk), (73, .ref ik), (127, .ref se), (98, .ref di), (97, .int x.k x.t)]) (fun x => mu (gOf ns) x.seen (abs x.st)) (fun x => FI c β1 x.τ (gOf ns) sk ik se di x.st x.fin x.seen (some x.k)) (fun x => x.k ∈ (gOf ns).map (·.k)) (fun x => x.seen k = true ∨ x.k = k) (fun x => ∀ y, p.seen y = true → x.seen y = true) ⟨τ1, [], p.fin, p.seen, k, t⟩ rfl ⟨rfl, rfl, rfl, rfl, rfl, rfl, trivial⟩ (F2.of (F2.ok.any k)) hkk (.inr rfl) (fun _ h => h) ?_
    clear F2
    intro x Fe Qb2 F2 hk' hor hmono lp2
    have hlen := F2.len
    refine ⟨fun _ => ?_, nofun⟩
    refine vJoin2 (fun τ' l' => ∃ z : Fx, τ' = z.τ ∧ Fsub [(91, .ref q.nd), (133, .ref sk), (73, .ref ik), (127, .ref se), (98, .ref di), (97, .int z.k z.t)] l' ∧ FI c β1 z.τ (gOf ns) sk ik se di z.st z.fin z.seen none ∧ z.seen k = true ∧ (∀ y, p.seen y = true → z.seen y = true) ∧ mu (gOf ns) z.seen (abs z.st) ≤ mu (gOf ns) x.seen (abs x.st)) ?_ fun go => oInS F2.set ⟨fun hb => ?_, fun hb => ?_⟩
    · rintro _ l' ⟨z, rfl, fs, F3, hk3, hm3, hmu⟩
      refine vWhile 9 Fx.τ (fun x => [(91, .ref q.nd), (133, .ref sk), (73, .ref ik), (127, .ref se), (98, .ref di), (97, .int x.k x.t)]) (fun z => z.st.length) (fun z => FI c β1 z.τ (gOf ns) sk ik se di z.st z.fin z.seen none) (fun z => z.seen k = true) (fun z => ∀ y, p.seen y = true → z.seen y = true) (fun z => mu (gOf ns) z.seen (abs z.st) ≤ mu (gOf ns) x.seen (abs x.st)) z rfl fs F3 hk3 hm3 hmu ?_
      clear F2 F3 hk3 hm3 hmu fs hor hmono hk' hlen
      intro z Ff Qb3 F2 hk' hmono hmu lp3
      have hlen := F2.len
      refine gate ?_
      intro Gg kg
      obtain ⟨svs, hsk, hsv⟩ := F2.stk
      refine kg ?_
      clear kg Gg
      have hsl : svs.length = z.st.length := by rw [hsv.length, List.length_reverse, List.length_map]
      refine ⟨14, svs, hsk, by omega, fun hb => ?_, fun hb => ?_⟩
      · obtain ⟨y, st, hst⟩ : ∃ y st, z.st = y :: st := by
          cases e : z.st with
          | cons y st => exact ⟨y, st, rfl⟩
          | nil =>
            rw [e] at hsl
            cases svs with
            | nil => cases hb
            | cons _ _ => cases hsl
        rw [hst] at F2 hsl hlen hsv hmu
        rw [List.length_cons] at hlen hsl
        have its := F2.its
        refine gate ?_
        intro Gg kg
        obtain ⟨g1, g2, g3, svs', g4, g5⟩ := F2.lv y (.head _)
        refine kg ?_
        clear kg Gg
        intro s R
        have z1 : 1 ≤ ((y :: st).map fun x => Value.ref x.u).reverse.length := by rw [List.length_reverse, List.length_map, List.length_cons]; exact Nat.succ_le_succ (Nat.zero_le _)
        have z2 : ((y :: st).map fun x => Value.ref x.u).reverse.length < 100000 := by rw [List.length_reverse, List.length_map, List.length_cons]; omega
        have z3 : ((y :: st).map fun x => Value.ref x.u).reverse[((y :: st).map fun x => Value.ref x.u).reverse.length - 1]? = some (.ref y.u) := by simp
        refine sStm (wpAny_Try_except (wpAny_execs_cons (xAsg W.V (i := 97) rfl (Call_ (vcE_ok (.sub (.nm 73 _) (.neg (.int 1 _ _) _) _) z.τ (fun x τ' => x = .val (.ref y.u) ∧ τ' = z.τ) s _ _ ?h R fun x v τ s hx k R => ?_) rfl) rfl)))
        case h => exact fun t0 => oItemN its z1 z2 z3 ⟨rfl, rfl⟩
        obtain ⟨rfl, rfl⟩ := k
        cases hx
        refine cwW R g1 ?_
        cases hsc : (scOf (gOf ns) y.a)[y.i]? with
        | some b =>
          obtain ⟨tz, hz'⟩ := g5.get y.i b hsc
          refine cNextItem R g1 g2 (F2.sub _ _ g4) hz' fun s R => ⟨_, _, R, fun s R => wpAny_execs_cons (wpAny_Break (lp3.bk _ (vcS_ok 1 [] [] _ _ _ (lp2.nx ⟨upd z.τ y.it (itLv { y with i := y.i + 1 }), { y with i := y.i + 1 } :: st, z.fin, z.seen, b, tz⟩ ?_ (F2.take hsc) (hsG _ _ (List.mem_of_getElem? hsc)) (.inl hk') hmono _ ⟨rfl, rfl, rfl, rfl, rfl, rfl, trivial⟩) R)))⟩
          exact Nat.lt_of_lt_of_le (Nat.lt_of_succ_le (mu_take (seen := z.seen) (below := abs st) hsc)) hmu
        | none =>
          have hz' : svs'[y.i]? = none := by
            rw [List.getElem?_eq_none_iff] at hsc ⊢
            rw [g5.length]; exact hsc
          refine cNextEnd W.H.1 R g1 g2 (F2.sub _ _ g4) hz' fun e s R X => ?_
          have W3 : Lv W.A W.env (del z.τ y.it) W.L := W2.mono fun a l e => ⟨l, (del_ne (ne_of_none e g3)).trans (F2.sub _ _ e)⟩
          refine exn_lands (cv := .type "StopIteration") R X W3 (kStop _) (fun s₁ F Q' R' hq => ldB W.V R' rfl rfl hq) fun s F' R => ?_
          refine gate ?_
          intro Gg kg
          obtain ⟨kvs, ep, h3, h4⟩ := F2.dic
          refine kg ?_
          clear kg Gg
          obtain ⟨sv0, t0, hsv0, hsv1⟩ : ∃ sv0 t0, svs = sv0 ++ [.int y.a t0] ∧ IntsAre sv0 (st.map (·.a)).reverse := by
            rw [List.map_cons, List.reverse_cons] at hsv
            exact ints_snoc hsv
          subst hsv0
          have k1 : (del z.τ y.it) sk = some (.ls 14 (sv0 ++ [.int y.a t0])) := (del_ne (ne_of_tag hsk g2)).trans hsk
          have k2 : (upd (del z.τ y.it) sk (.ls 14 sv0)) di = some (dct c 11 kvs ep) := (upd_ne (Ne.symm (ne_of_tag hsk h3))).trans ((del_ne (ne_of_tag h3 g2)).trans h3)
          rw [List.map_cons, List.reverse_cons] at its
          have k3 : ∀ i, (upd (upd (del z.τ y.it) sk (.ls 14 sv0)) di i) ik = some (.ls 15 ((st.map fun x => Value.ref x.u).reverse ++ [.ref y.u])) := fun i => (upd_ne (ne_of_tag its h3)).trans ((upd_ne (Ne.symm (ne_of_tag hsk its))).trans ((del_ne (ne_of_tag its g2)).trans its))
          have k4 : (valueAt kvs y.a).isSome = true := by
            refine gate ?_
            intro Gg kg
            obtain ⟨_, _, _, _, _, _, hval⟩ := h4.yes F2.nd (k := y.a) (.head _)
            refine kg ?_
            clear kg Gg
            rw [hval]; rfl
          have k5 : sv0.length < 10000 := by rw [List.length_append, List.length_singleton] at hsl; omega
          have k6 : (st.map fun x => Value.ref x.u).reverse.length < 10000 := by rw [List.length_reverse, List.length_map]; omega
          refine wpAny_execs_cons (xDel (ldL W.V R rfl rfl (cmM (ldL W.V R rfl rfl (mList PySem.F.slot_list_pop PySem.F.type_list_pop R k1 (cwB0 (bPop R k1 k5 fun s R => dDel R k2 (by rw [h4.len, List.length_cons]; omega) k4 fun ep' s R => ?_)))) rfl)))
          refine wpAny_execs_cons (xExprA W.V (cmM (ldL W.V R rfl rfl (mList PySem.F.slot_list_pop PySem.F.type_list_pop R (k3 _) (cwB0 (bPop R (k3 _) k6 fun s R => wpAny_execs_nil ?_)))) rfl) rfl)
          refine vcS_ok 1 [] [] _ _ _ (lp3.nx ⟨_, st, y.a :: z.fin, z.seen, z.k, z.t⟩ ?_ (F2.pop (List.getElem?_eq_none_iff.mp hsc) hsv1 h3 h4) hk' hmono (Nat.le_trans mu_pop hmu) _ ⟨rfl, rfl, rfl, rfl, rfl, rfl, trivial⟩) R
          show st.length < z.st.length
          rw [hst]; exact Nat.lt_succ_self _
      · have hst : z.st = [] := by
          cases e : z.st with
          | nil => rfl
          | cons y st =>
            rw [e] at hsl
            cases svs with
            | nil => cases hsl
            | cons _ _ => cases hb
        rw [hst] at F2
        exact fun s R => lp2.bk _ (vcS_ok 1 [] [] _ _ _ (lp.nx (⟨del z.τ it, [], z.fin, z.seen, 0, 0⟩, z.τ) ⟨F2.sub _ _ bk, rfl⟩ (fbk F2) (more hmono hk') trivial trivial _ ⟨rfl, rfl, rfl, rfl, rfl, trivial⟩) R)
    · refine gate ?_
      intro Gg kg
      obtain ⟨kvs, ep, hd, hkv⟩ := F2.dic
      refine kg ?_
      clear kg Gg
      refine oInD hd n4'' ⟨fun hb2 => ?_, fun hb2 s R => vcS_ok 1 [] _ _ _ _ (go _ _ ⟨{ x with }, rfl, ⟨rfl, rfl, rfl, rfl, rfl, rfl, trivial⟩, F2.of (F2.ok.skip ?_), hor.elim id fun z => z ▸ hb, hmono, Nat.le_refl _⟩) R⟩
      · refine gate ?_
        intro Gg kg
        obtain ⟨svs, hsk, hsv⟩ := F2.stk
        refine kg ?_
        clear kg Gg
        have hin : x.k ∈ x.st.map (·.a) := by
          rcases Classical.em (x.k ∈ x.st.map (·.a)) with z | z
          · exact z
          · rw [hkv.no z] at hb2; cases hb2
        refine gate ?_
        intro Gg kg
        obtain ⟨above, y, below, tt, est, hya, hval⟩ := hkv.yes F2.nd hin
        refine kg ?_
        clear kg Gg
        have hsl : svs.length < 1000 := by rw [hsv.length, List.length_reverse, List.length_map]; omega
        refine oDItem hd hval ⟨14, svs, hsk, Nat.lt_trans hsl (by decide), fun b nb nb' b2 nb2 nb2' => oAddL (t := 0) (u := 0) ((upd_ne (ne_of_none upd_self nb2)).trans upd_self) upd_self ?_ fun d nd1 nd2 s R => lp2.rt _ _ (lp.rt _ _ (hq _ _ ?_))⟩
        · have := slicePick_size_le svs.toArray (some (below.length : Int)) none none
          simp at this ⊢
          omega
        refine gate ?_
        intro Gg kg
        obtain ⟨m1, nd3⟩ := upd_none nd1
        obtain ⟨m2, nd4⟩ := upd_none nd3
        obtain ⟨m3, nb3⟩ := upd_none nb2
        refine kg ?_
        clear kg Gg
        have hL2 : x.τ L = some (.fr l) := F2.sub _ _ hbL
        have hdL : d ≠ L := Ne.symm (ne_of_none hL2 nd4)
        have hτd : τ d = none := by
          cases z : τ d with
          | none => rfl
          | some j => rw [F2.sub _ _ (up2 _ _ z)] at nd4; cases nd4
        have hring := F2.ok.ring (above := abs above) (i := y.i) (below := abs below) (by rw [est]; unfold abs; rw [List.map_append, List.map_cons, hya])
        rw [abs_a] at hring
        refine hyes d ((slicePick svs.toArray (some (below.length : Int)) none none).toList ++ [.int x.k x.t]) _ _ hring ?_ hτd (R.back (L := L) (l := l) ?_ ?_ ?_)
        · refine IntsAre.append ?_ (.cons _ _ .nil)
          rw [slicePick_from']
          have := hsv.drop below.length
          rw [est, List.map_append, List.map_cons, List.reverse_append, List.reverse_cons, List.append_assoc, List.drop_left' (by simp), hya] at this
          simpa using this
        · rw [upd_ne (Ne.symm hdL), upd_ne (ne_of_none hL2 nb3), upd_ne (ne_of_none hL2 nb)]; exact hL2
        · intro a j e
          by_cases z : a = d
          · subst z; rw [upd_self] at e ⊢; exact e
          · rw [upd_ne z] at e ⊢
            have : x.τ a = some j := F2.sub _ _ (up2 _ _ e)
            rw [upd_ne (ne_of_none this nb3), upd_ne (ne_of_none this nb)]; exact this
        · rw [upd_ne (Ne.symm hdL)]; exact R0.apart
      · have hni : x.k ∉ x.st.map (·.a) := fun z => by
          refine gate ?_
          intro Gg kg
          obtain ⟨_, _, _, _, _, _, hval⟩ := hkv.yes F2.nd z
          refine kg ?_
          clear kg Gg
          rw [hval] at hb2; cases hb2
        have := (F2.ok.see x.k).mp hb
        rw [abs_a] at this
        exact (List.mem_append.mp this).resolve_right hni
    · have F2' := F2
      refine gate ?_
      intro Gg kg
      obtain ⟨sub, ⟨f1, f2, f3, f4⟩, ⟨svs, h1, h2⟩, its, set, ⟨kvs, ep, h3, h4⟩, lv, nit, ok⟩ := F2'
      have a1 : sk ≠ ik := ne_of_tag h1 its
      have a2 : sk ≠ se := ne_of_tag h1 set
      have a3 : sk ≠ di := ne_of_tag h1 h3
      have a4 : ik ≠ se := ne_of_tag its set
      have a5 : ik ≠ di := ne_of_tag its h3
      have a6 : se ≠ di := ne_of_tag set h3
      have hsl : svs.length = x.st.length := by rw [h2.length, List.length_reverse, List.length_map]
      obtain ⟨nk, hnk', enk⟩ := find_nd (k := x.k) (ns := ns) (by rw [← gOf_k]; exact hk')
      refine kg ?_
      clear kg Gg
      refine omSet F2.set rfl ⟨trivial, oSAdd F2.set (by omega) ?_⟩
      rw [if_neg (by rw [hb]; decide)]
      have ob : ∀ a j, β1 a = some j → (upd x.τ se (setI c 10 (fun k' => x.seen k' || decide (k' = x.k)) (x.fin.length + x.st.length + 1))) a = some j := fun a j e => (upd_ne (ne_of_none e f3)).trans (sub _ _ e)
      refine gate ?_
      intro Gg kg
      obtain ⟨tt, tt', svs', g1, g2, g3, g4⟩ := each2 nk hnk'
      refine kg ?_
      clear kg Gg
      refine omLs PySem.F.slot_list_append PySem.F.type_list_append ((upd_ne a4).trans its) ⟨trivial, trivial, oDItem (ob _ _ hb4) (by rw [← enk]; exact kvs_some hnk' S1.ndk) (oNG sl2 (ob _ _ g1) (ob _ _ g2) rfl rfl (oIter (ob _ _ g3) fun it2 p1 p1' => oNextW (k := x.k) p1 fun u2 p2 p3 p4 => ?_))⟩
      refine gate ?_
      intro Gg kg
      obtain ⟨p5, p6⟩ := upd_none p1
      obtain ⟨p7, p8⟩ := upd_none p2
      refine kg ?_
      clear kg Gg
      have e1 := (upd_ne (i := .ob 13 (wrap it2)) (ne_of_none its p8)).trans ((upd_ne (i := itLv ⟨x.k, 0, u2, it2, nk.sa⟩) (ne_of_none its p6)).trans ((upd_ne (i := setI c 10 (fun k' => x.seen k' || decide (k' = x.k)) (x.fin.length + x.st.length + 1)) a4).trans its))
      have e2 := (upd_ne (i := .ob 13 (wrap it2)) (ne_of_none h1 p8)).trans ((upd_ne (i := itLv ⟨x.k, 0, u2, it2, nk.sa⟩) (ne_of_none h1 p6)).trans ((upd_ne (i := setI c 10 (fun k' => x.seen k' || decide (k' = x.k)) (x.fin.length + x.st.length + 1)) a2).trans h1))
      have e3 := (upd_ne (i := .ob 13 (wrap it2)) (ne_of_none h3 p8)).trans ((upd_ne (i := itLv ⟨x.k, 0, u2, it2, nk.sa⟩) (ne_of_none h3 p6)).trans ((upd_ne (i := setI c 10 (fun k' => x.seen k' || decide (k' = x.k)) (x.fin.length + x.st.length + 1)) (Ne.symm a6)).trans h3))
      have zl : x.st.length < 1000 := by omega
      refine oAppend e1 (by rw [List.length_reverse, List.length_map]; exact Nat.lt_trans zl (by decide)) ⟨trivial, oLen ((upd_ne a1).trans e2) (hsl ▸ Nat.lt_trans zl (by decide)) fun tl => ?_⟩
      rw [hsl]
      refine oDSet ((upd_ne (Ne.symm a5)).trans e3) (by rw [h4.len]; exact Nat.lt_trans zl (by decide)) fun ep' => omLs PySem.F.slot_list_append PySem.F.type_list_append ((upd_ne a3).trans ((upd_ne a1).trans e2)) ⟨trivial, oAppend ((upd_ne a3).trans ((upd_ne a1).trans e2)) (hsl ▸ Nat.lt_trans zl (by decide)) ?_⟩
      refine go _ _ ⟨⟨_, ⟨x.k, 0, u2, it2, nk.sa⟩ :: x.st, x.fin, fun k' => x.seen k' || decide (k' = x.k), x.k, x.t⟩, rfl, ⟨rfl, rfl, rfl, rfl, rfl, rfl, trivial⟩, F2.push hb hk' (sa := nk.sa) h1 h2 h3 h4 g3 (by rw [← enk, scOf_nd hnk' S1.ndk]; exact g4) p6 p8 p3, ?_, fun y hy => ?_, ?_⟩
      · show (x.seen k || decide (k = x.k)) = true
        rcases hor with z | z
        · rw [z]; rfl
        · rw [z, decide_eq_true rfl, Bool.or_true]
      · show (x.seen y || decide (y = x.k)) = true
        rw [hmono y hy]; rfl
      · exact Nat.le_of_succ_le (mu_push (G := gOf ns) (st := abs x.st) hb hk')
  · intro p F1 hs _ s R
    refine vcS_ok 1 _ _ _ _ _ (fun s R => hq _ _ (hno _ ⟨p.fin, F1.ok.fok, fun g hg => ?_⟩ (outw _ _ _ F1.sub R))) R
    refine gate ?_
    intro Gg kg
    obtain ⟨n, hn, rfl⟩ := List.mem_map.mp hg
    obtain ⟨j, hj, e⟩ := List.mem_iff_getElem.mp hn
    refine kg ?_
    clear kg Gg
    have := (F1.ok.see _).mp (hs j (by unfold kvsOf; rw [List.length_map]; exact hj) n (by rw [List.getElem?_eq_getElem hj, e]))
    rw [abs_a, List.map_nil, List.append_nil] at this
    exact this
end
end Mine

namespace Mine
theorem gReady_snoc {G : List Gn} {g : Gn} : (((G ++ [g]).filter fun g => g.np == 0).map (·.k)) = ((G.filter fun g => g.np == 0).map (·.k)) ++ (if g.np == 0 then [g.k] else []) := by
  rw [List.filter_append, List.map_append]
  congr 1
  cases h : g.np == 0 <;> simp [h]
noncomputable def gReady (G : List Gn) : List Int := (G.filter fun g => g.np == 0).map (·.k)
theorem Chn.out {R : Int → Int → Prop} {z : Int} : ∀ {p : List Int}, Chn R (p ++ [z]) → ∀ x ∈ p, ∃ y, R x y
  | [a], h, x, hx => by rw [List.mem_singleton.mp hx]; exact ⟨_, h.1⟩
  | a :: b :: r, h, x, hx => by
    rcases List.mem_cons.mp hx with rfl | hx
    · exact ⟨_, h.1⟩
    · exact Chn.out (p := b :: r) h.2 x hx
theorem scOf_key {G : List Gn} {a b : Int} (h : b ∈ scOf G a) : a ∈ G.map (·.k) := by
  unfold scOf at h
  cases e : G.find? fun g => g.k == a with
  | none => rw [e] at h; cases h
  | some g =>
    have h1 := List.mem_of_find?_eq_some e
    have h2 := List.find?_some e
    have : g.k = a := by simpa using h2
    exact this ▸ List.mem_map_of_mem h1
theorem Ring.len {G : List Gn} {r : List Int} (h : Ring G r) : r.length ≤ G.length + 1 ∧ r ≠ [] := by
  obtain ⟨k, q, rfl, nd, ch⟩ := h
  have := len_le nd (m := G.map (·.k)) fun x hx => by
    obtain ⟨y, hy⟩ := ch.out x hx
    exact scOf_key hy
  simp at this ⊢
  omega
end Mine

namespace Mine
noncomputable abbrev cellOb (ov : Option Value) : Obj := { cls := .type "cell", data := .cell ov }
noncomputable def cellNs : List (Nat × NameKind) → List Nat
  | [] => []
  | (i, .cell) :: r => i :: cellNs r
  | _ :: r => cellNs r
noncomputable def cellsOn (τ : Sto) : List Addr → Sto
  | [] => τ
  | a :: r => cellsOn (upd τ a (.ob 8 (cellOb none))) r
noncomputable def FreshAll (τ : Sto) (L C : Addr) : List Addr → Prop
  | [] => True
  | a :: r => τ a = none ∧ a ≠ L ∧ a ≠ C ∧ FreshAll (upd τ a (.ob 8 (cellOb none))) L C r
section
variable {nm : Nat → Str} {prog : Program} {KK : Params → Frag} {gl bl : Nat → Option Value} {c : Cx nm prog KK gl bl} {A : Around} {E : Value → Shared → Prop} {τ τ' τ₂ : Sto} {L L' : Addr} {l l' : List (Nat × Value)} {s : Shared} {env : Env} {ks : List (Nat × NameKind)} {cs : List (Nat × Addr)} {i : Nat} {pos : Pos} {v : Value}
/- cell names -/
theorem ldC {a : Addr} {t : Nat} {Q : Value → Shared → Prop} (V : Ev c env L ks cs) (R : Rel c τ L l s) (hk : ks.lookup i = some .cell) (hc : cs.lookup i = some a) (hv : τ a = some (.ob t (cellOb (some v)))) (h : Q v s) : wpAny c.M A (eval (.Name (nm i) pos) env) Q E s :=
  wpAny_Name (wpAny_loadName_cell V.fn (V.kinds _ _ hk) (V.cells _ _ hc) ⟨_, R.get hv, rfl⟩ h) (c.nodebug i)
theorem stC {a : Addr} {ov : Option Value} {t : Nat} {Q : Unit → Shared → Prop} (V : Ev c env L ks cs) (R : Rel c τ L l s) (hk : ks.lookup i = some .cell) (hc : cs.lookup i = some a) (hv : τ a = some (.ob t (cellOb ov)))
    (h : ∀ s', Rel c (upd τ a (.ob t (cellOb (some v)))) L l s' → Q () s') : wpAny c.M A (storeName env (nm i) v) Q E s := by
  unfold storeName
  simp only [show env.kindOf (nm i) = some .cell from V.kinds _ _ hk, V.fn]
  refine wpAny_bind (wpAny_cellOf (V.cells _ _ hc) ?_)
  unfold cellSet
  refine wpAny_bind (wpAny_load (R.get hv) ?_)
  refine wpAny_update (R.get hv) (h _ (R.turn (n := s.toks) hv (Heap.SameBut.update ..) ?_))
  exact Heap.get?_update_self _ (R.get hv) rfl
/- laying cells -/
theorem layCells (f : Str × NameKind → List (Str × Addr) → Sem (ForInStep (List (Str × Addr))))
    (hf : ∀ name kind cells, f (name, kind) cells = if kind == .cell then (do let a ← alloc { cls := .type "cell", data := .cell none }; pure (.yield ((name, a) :: cells))) else pure (.yield cells)) :
    ∀ (ks : List (Nat × NameKind)) (acc : List (Str × Addr)) (τ : Sto) (C : Addr) (lc : List (Nat × Value)) (s : Shared) (L : Addr) (Q : List (Str × Addr) → Shared → Prop), Rel c τ C lc s → L < s.heap.objs.size →
      (∀ as s', as.length = (cellNs ks).length → FreshAll τ L C as → Rel c (cellsOn τ as) C lc s' → Q ((named nm ((cellNs ks).zip as)).reverse ++ acc) s') → wpAny c.M A (forIn (named nm ks) acc f) Q E s
  | [], acc, τ, C, lc, s, L, Q, R, hL, h => by
    show wpAny _ _ (forIn [] acc f) _ _ _
    rw [List.forIn_nil]
    exact wpAny_pure (h [] s rfl trivial R)
  | (i, k) :: r, acc, τ, C, lc, s, L, Q, R, hL, h => by
    show wpAny _ _ (forIn ((nm i, k) :: named nm r) acc f) _ _ _
    rw [List.forIn_cons, hf]
    by_cases hk : k = .cell
    · subst hk
      rw [if_pos (by rfl)]
      refine wpAny_bind (wpAny_bind (wpAny_alloc (wpAny_pure ?_)))
      have R' := R.push 8 (cellOb none) s.toks
      refine layCells f hf r _ _ _ _ _ L Q R' (Nat.lt_of_lt_of_le hL (by rw [Heap.size_push]; exact Nat.le_succ _)) fun as s' hl hF Rs => ?_
      have := h (s.heap.objs.size :: as) s' (by rw [List.length_cons, hl]; rfl) ⟨R.fresh, Nat.ne_of_gt hL, Nat.ne_of_gt R.ltL, hF⟩ Rs
      have e : (named nm ((cellNs ((i, NameKind.cell) :: r)).zip (s.heap.objs.size :: as))).reverse ++ acc = (named nm ((cellNs r).zip as)).reverse ++ (nm i, s.heap.objs.size) :: acc := by
        show (named nm ((i, s.heap.objs.size) :: (cellNs r).zip as)).reverse ++ acc = _
        show ((nm i, s.heap.objs.size) :: named nm ((cellNs r).zip as)).reverse ++ acc = _
        rw [List.reverse_cons, List.append_assoc]; rfl
      rw [e] at this
      exact this
    · rw [if_neg (by simpa using hk)]
      refine wpAny_bind (wpAny_pure ?_)
      have hcn : cellNs ((i, k) :: r) = cellNs r := by cases k <;> first | rfl | exact absurd rfl hk
      rw [hcn] at h
      exact layCells f hf r acc τ C lc s L Q R hL h
/- storing what is bound -/
noncomputable def bindGo (ks : List (Nat × NameKind)) (cs : List (Nat × Addr)) : List (Nat × Value) → Sto → List (Nat × Value) → Sto × List (Nat × Value)
  | [], τ, l => (τ, l)
  | (i, v) :: r, τ, l => match ks.lookup i, cs.lookup i with
    | some .cell, some a => bindGo ks cs r (upd τ a (.ob 8 (cellOb (some v)))) l
    | _, _ => bindGo ks cs r τ (put l i v)
noncomputable def bindOk (ks : List (Nat × NameKind)) (cs : List (Nat × Addr)) : List (Nat × Value) → Sto → Prop
  | [], τ => True
  | (i, v) :: r, τ => (ks.lookup i = some .local ∧ bindOk ks cs r τ) ∨ (ks.lookup i = some .cell ∧ ∃ a ov, cs.lookup i = some a ∧ τ a = some (.ob 8 (cellOb ov)) ∧ bindOk ks cs r (upd τ a (.ob 8 (cellOb (some v)))))
theorem bindsGo (f : Str × Value → PUnit → Sem (ForInStep PUnit)) (hf : ∀ n v u, f (n, v) u = (do storeName env n v; pure (.yield ⟨⟩))) (V : Ev c env L ks cs) :
    ∀ (lb : List (Nat × Value)) (τ : Sto) (l : List (Nat × Value)) (s : Shared) (Q : PUnit → Shared → Prop), Rel c τ L l s → bindOk ks cs lb τ → (∀ s', Rel c (bindGo ks cs lb τ l).1 L (bindGo ks cs lb τ l).2 s' → Q ⟨⟩ s') → wpAny c.M A (forIn (named nm lb) ⟨⟩ f) Q E s
  | [], τ, l, s, Q, R, _, h => by
    show wpAny _ _ (forIn [] _ f) _ _ _
    rw [List.forIn_nil]; exact wpAny_pure (h s R)
  | (i, v) :: r, τ, l, s, Q, R, hb, h => by
    show wpAny _ _ (forIn ((nm i, v) :: named nm r) _ f) _ _ _
    rw [List.forIn_cons, hf]
    rcases hb with ⟨hk, hb⟩ | ⟨hk, a, ov, hc, ha, hb⟩
    · have e : bindGo ks cs ((i, v) :: r) τ l = bindGo ks cs r τ (put l i v) := by
        show (match ks.lookup i, cs.lookup i with
          | some .cell, some a => bindGo ks cs r (upd τ a (.ob 8 (cellOb (some v)))) l
          | _, _ => bindGo ks cs r τ (put l i v)) = _
        rw [hk]
      rw [e] at h
      exact wpAny_bind (wpAny_bind (stL V R hk fun s' R' => wpAny_pure (bindsGo f hf V r τ _ s' Q R' hb h)))
    · have e : bindGo ks cs ((i, v) :: r) τ l = bindGo ks cs r (upd τ a (.ob 8 (cellOb (some v)))) l := by
        show (match ks.lookup i, cs.lookup i with
          | some .cell, some a => bindGo ks cs r (upd τ a (.ob 8 (cellOb (some v)))) l
          | _, _ => bindGo ks cs r τ (put l i v)) = _
        rw [hk, hc]
      rw [e] at h
      exact wpAny_bind (wpAny_bind (stC V R hk hc ha fun s' R' => wpAny_pure (bindsGo f hf V r _ l s' Q R' hb h)))
theorem cells_lookup (inj : ∀ i j, nm i = nm j → i = j) {ns : List Nat} {as : List Addr} {acc : List (Nat × Addr)} (nd : ns.Nodup) (ha : ∀ i ∈ ns, acc.lookup i = none) (hl : as.length = ns.length) {i : Nat} {a : Addr} (h : (ns.zip as ++ acc).lookup i = some a) :
    ((named nm (ns.zip as)).reverse ++ named nm acc).lookup (nm i) = some a := by
  have e : (named nm (ns.zip as)).reverse = named nm (ns.zip as).reverse := by unfold named; rw [List.map_reverse]
  have e2 : named nm (ns.zip as).reverse ++ named nm acc = named nm ((ns.zip as).reverse ++ acc) := by unfold named; rw [List.map_append]
  rw [e, e2, named_lookup inj, List.lookup_append]
  rw [List.lookup_append] at h
  have ndz : ((ns.zip as).map (·.1)).Nodup := by rw [List.map_fst_zip (Nat.le_of_eq hl.symm)]; exact nd
  cases q : (ns.zip as).lookup i with
  | some b =>
    rw [q] at h
    have : (ns.zip as).reverse.lookup i = some b := by
      clear h e e2
      generalize ns.zip as = z at *
      induction z with
      | nil => cases q
      | cons p r ih =>
        obtain ⟨k, u⟩ := p
        rw [List.map_cons, List.nodup_cons] at ndz
        rw [List.reverse_cons, List.lookup_append]
        rw [List.lookup_cons] at q
        by_cases z : i = k
        · subst z
          have hno : r.reverse.lookup i = none := by
            rw [List.lookup_eq_none_iff]
            intro p hp
            have : p.1 ∈ r.map (·.1) := List.mem_map_of_mem (List.mem_reverse.mp hp)
            exact bne_iff_ne.mpr fun z => ndz.1 (z ▸ this)
          rw [hno]; simp at q; simp [q]
        · have hb : (i == k) = false := beq_eq_false_iff_ne.mpr z
          rw [hb] at q
          rw [ih ndz.2 q]; rfl
    rw [this]; exact h
  | none =>
    rw [q] at h
    have : (ns.zip as).reverse.lookup i = none := by
      rw [List.lookup_eq_none_iff] at q ⊢
      exact fun p hp => q p (List.mem_reverse.mp hp)
    rw [this]; exact h
noncomputable def lookNone (acc : List (Nat × Addr)) : List Nat → Bool
  | [] => true
  | i :: r => (acc.lookup i).isNone && lookNone acc r
theorem lookNone_of {acc : List (Nat × Addr)} : ∀ {ns : List Nat}, lookNone acc ns = true → ∀ i ∈ ns, acc.lookup i = none
  | i :: r, h, j, hj => by
    unfold lookNone at h
    rw [Bool.and_eq_true] at h
    rcases List.mem_cons.mp hj with rfl | hj
    · exact Option.isNone_iff_eq_none.mp h.1
    · exact lookNone_of h.2 j hj
theorem layEnv {scope : Scope} {closure : List (Nat × Addr)} {lb : List (Nat × Value)} {qual : Str} {func : Option Addr} {code : Value} {around : Option Env} {Q : Env → Shared → Prop} (R : Rel c τ L l s) (hk : scope.kind = .function) (hn : scope.names = named nm ks)
    (hnd : (cellNs ks).Nodup) (hac : ∀ i ∈ cellNs ks, closure.lookup i = none) (hfr : ∀ o, around = some o → o.frame.isSome = true ∧ o.builtins = builtinsNs)
    (h : ∀ as C env', as.length = (cellNs ks).length → τ C = none → C ≠ L → FreshAll (upd τ L (.fr l)) L C as → env' = newEnv scope C mainGlobals ((named nm ((cellNs ks).zip as)).reverse ++ named nm closure) qual func code around builtinsNs →
      Ev c env' C ks ((cellNs ks).zip as ++ closure) →
      bindOk ks ((cellNs ks).zip as ++ closure) lb (cellsOn (upd τ L (.fr l)) as) ∧
      ∀ s', Rel c (bindGo ks ((cellNs ks).zip as ++ closure) lb (cellsOn (upd τ L (.fr l)) as) []).1 C (bindGo ks ((cellNs ks).zip as ++ closure) lb (cellsOn (upd τ L (.fr l)) as) []).2 s' → Q env' s') :
    wpAny c.M A (newFunctionEnv scope mainGlobals (named nm closure) (named nm lb) qual func code around builtinsNs) Q E s := by
  unfold newFunctionEnv
  refine wpAny_bind (wpAny_alloc ?_)
  have fs : ∀ cls : String, frameSat nm (s.heap.push { cls := .type cls, data := .dict #[] }) s.heap.objs.size [] := fun cls => ⟨_, Heap.Ns.new s.heap (.type cls), fun i v e => (nomatch e)⟩
  have R' := R.into (n := s.toks) (L' := s.heap.objs.size) (l' := []) (fun _ _ e => Heap.get?_push_of_some _ e) (Nat.le_refl _) (fs (if around.isSome then "dict" else "frame"))
  rw [hn]
  refine wpAny_bind (layCells _ (fun name kind cells => by cases hkc : kind == NameKind.cell <;> simp [hkc]) ks (named nm closure) _ _ _ _ L _ R' (Nat.lt_of_lt_of_le R.ltL (by rw [Heap.size_push]; exact Nat.le_succ _)) fun as s' hl hF Rs => ?_)
  have hEv : Ev c (newEnv scope s.heap.objs.size mainGlobals ((named nm ((cellNs ks).zip as)).reverse ++ named nm closure) qual func code around builtinsNs) s.heap.objs.size ks ((cellNs ks).zip as ++ closure) := by
    have kinds : ∀ i k, ks.lookup i = some k → scope.names.lookup (nm i) = some k := fun i k e => by rw [hn, named_lookup c.inj]; exact e
    have cells : ∀ i a, ((cellNs ks).zip as ++ closure).lookup i = some a → ((named nm ((cellNs ks).zip as)).reverse ++ named nm closure).lookup (nm i) = some a := fun i a e => cells_lookup c.inj hnd hac hl e
    cases around with
    | none => exact ⟨hk, rfl, rfl, rfl, kinds, rfl, cells⟩
    | some o => exact ⟨hk, rfl, rfl, (hfr o rfl).2, kinds, (hfr o rfl).1, cells⟩
  obtain ⟨hb, hq⟩ := h as s.heap.objs.size _ hl R.fresh (Nat.ne_of_gt R.ltL) hF rfl hEv
  cases around with
  | none => exact wpAny_bind (bindsGo _ (fun _ _ _ => rfl) hEv lb _ [] s' _ Rs hb fun s'' R'' => wpAny_pure (hq s'' R''))
  | some o => exact wpAny_bind (bindsGo _ (fun _ _ _ => rfl) hEv lb _ [] s' _ Rs hb fun s'' R'' => wpAny_pure (hq s'' R''))
end
end Mine

namespace Mine
/- closures -/
noncomputable def closGo (cs : List (Nat × Addr)) : List (Nat × NameKind) → List (Nat × Addr) → List (Nat × Addr)
  | [], acc => acc
  | (i, .free) :: r, acc => match cs.lookup i with
    | some a => closGo cs r ((i, a) :: acc)
    | none => closGo cs r acc
  | _ :: r, acc => closGo cs r acc
noncomputable def FreeOk (ks : List (Nat × NameKind)) (cs : List (Nat × Addr)) : List (Nat × NameKind) → Prop
  | [] => True
  | (i, .free) :: r => ks.lookup i = some .cell ∧ (∃ a, cs.lookup i = some a) ∧ FreeOk ks cs r
  | _ :: r => FreeOk ks cs r
noncomputable def relab : List (Nat × NameKind) → List (Nat × NameKind)
  | [] => []
  | (i, .free) :: r => (i, .cell) :: relab r
  | p :: r => p :: relab r
noncomputable def lkOk (ks : List (Nat × NameKind)) : List (Nat × NameKind) → Bool
  | [] => true
  | (i, .local) :: r => (match ks.lookup i with | some .local => true | _ => false) && lkOk ks r
  | _ :: r => lkOk ks r
theorem lkOk_of {ks : List (Nat × NameKind)} : ∀ {l : List (Nat × NameKind)}, lkOk ks l = true → ∀ i, (i, NameKind.local) ∈ l → ks.lookup i = some .local
  | (j, k) :: r, h, i, hm => by
    rcases List.mem_cons.mp hm with e | hm
    · cases e
      unfold lkOk at h
      rw [Bool.and_eq_true] at h
      have h1 := h.1
      split at h1 <;> first | assumption | cases h1
    · refine lkOk_of (l := r) ?_ i hm
      cases k <;> first | exact h | (unfold lkOk at h; rw [Bool.and_eq_true] at h; exact h.2)
section
variable {nm : Nat → Str} {prog : Program} {KK : Params → Frag} {gl bl : Nat → Option Value} {c : Cx nm prog KK gl bl} {A : Around} {E : Value → Shared → Prop} {τ τ' τ₂ : Sto} {L L' : Addr} {l l' : List (Nat × Value)} {s : Shared} {env : Env} {ks ksC : List (Nat × NameKind)} {cs : List (Nat × Addr)} {i : Nat} {pos : Pos} {v : Value}
theorem clos_of (V : Ev c env L ks cs) : ∀ (ksC : List (Nat × NameKind)) (acc : List (Nat × Addr)), FreeOk ks cs ksC →
    (forIn (named nm ksC) (named nm acc) fun x r => if x.2 == NameKind.free then (do let a ← PySem.cellOf env x.1; pure (ForInStep.yield ((x.1, a) :: r))) else pure (ForInStep.yield r)) = (pure (named nm (closGo cs ksC acc)) : Sem (List (Str × Addr)))
  | [], acc, _ => rfl
  | (i, k) :: r, acc, h => by
    show (forIn ((nm i, k) :: named nm r) (named nm acc) _ : Sem _) = _
    rw [List.forIn_cons]
    by_cases hk : k = .free
    · subst hk
      obtain ⟨_, ⟨a, ha⟩, h⟩ := h
      have e1 : PySem.cellOf env (nm i) = pure a := by unfold PySem.cellOf; rw [V.cells _ _ ha]
      have e2 : closGo cs ((i, .free) :: r) acc = closGo cs r ((i, a) :: acc) := by
        show (match cs.lookup i with | some a => closGo cs r ((i, a) :: acc) | none => closGo cs r acc) = _
        rw [ha]
      rw [e2, ← clos_of V r ((i, a) :: acc) h]
      simp only [beq_self_eq_true, if_true, e1]
      rfl
    · have hb : (k == NameKind.free) = false := by simpa using hk
      have e2 : closGo cs ((i, k) :: r) acc = closGo cs r acc := by cases k <;> first | rfl | exact absurd rfl hk
      have h' : FreeOk ks cs r := by cases k <;> first | exact h | exact absurd rfl hk
      rw [e2, ← clos_of V r acc h']
      simp only [hb, Bool.false_eq_true, if_false]
      rfl
theorem closureFor_of (V : Ev c env L ks cs) {scope : Scope} (hn : scope.names = named nm ksC) (h : FreeOk ks cs ksC) : closureFor scope env = pure (named nm (closGo cs ksC [])) := by
  rw [← clos_of V ksC [] h]
  unfold closureFor
  rw [hn]
  simp only [bind_pure]
  rfl
theorem relab_lookup (V : Ev c env L ks cs) : ∀ {ksC : List (Nat × NameKind)}, FreeOk ks cs ksC →
    ((named nm ksC).map fun (n, k) => if (k == .free && env.scope.kind == .function && env.kindOf n == some .cell) then (n, NameKind.cell) else (n, k)) = named nm (relab ksC)
  | [], _ => rfl
  | (i, k) :: r, h => by
    show _ :: List.map _ (named nm r) = _
    by_cases hk : k = .free
    · subst hk
      obtain ⟨h1, _, h⟩ := h
      have e : env.kindOf (nm i) = some .cell := V.kinds _ _ h1
      rw [relab_lookup V h]
      simp only [V.fn, e]
      rfl
    · have h' : FreeOk ks cs r := by cases k <;> first | exact h | exact absurd rfl hk
      have hb : (k == NameKind.free) = false := by simpa using hk
      rw [relab_lookup V h']
      simp only [hb, Bool.false_and, Bool.false_eq_true, if_false]
      cases k <;> first | rfl | exact absurd rfl hk
theorem Ev.relabel {cenv : Env} {C : Addr} {scope : Scope} {cs' : List (Nat × Addr)} (V : Ev c env L ks cs) (hn : scope.names = named nm ksC) (h : FreeOk ks cs ksC) (hk : scope.kind = .function) (V' : Ev c cenv C ksC cs') : Ev c { cenv with scope := PySem.relabel scope env } C (relab ksC) cs' := by
  refine ⟨hk, V'.loc, V'.glob, V'.blt, fun i k e => ?_, V'.frame, V'.cells⟩
  show (scope.names.map _).lookup (nm i) = some k
  rw [hn, relab_lookup V h, named_lookup c.inj]
  exact e
theorem Rel.outC {τe τf : Sto} {C : Addr} {lc : List (Nat × Value)} {h' : Heap} {n : Nat} (R : Rel c τe C lc s) (hL : τe L = some (.fr l)) (k : ∀ a i, τf a = some i → τe a = some i) (hf : τf L = none) (hs : Heap.SameBut C s.heap h') : Rel c τf L l { s with heap := h', toks := n } := by
  have ne : ∀ {a i}, τe a = some i → a ≠ C := fun e => ne_of_none e R.apart
  refine ⟨fun b o e => (hs.2 b fun q => ?_).trans (R.keep b o e), fun a i e => (R.sat a i (k a i e)).keeps fun o y => (hs.2 a (ne (k a i e))).trans y, fun a i e => R.new a i (k a i e), frameSat.keeps (fun o y => (hs.2 L (ne hL)).trans y) (R.sat _ _ hL), R.newN hL rfl, hf, R.gens, R.os⟩
  subst q; rw [R.newL] at e; cases e
end
end Mine

namespace Mine
noncomputable abbrev testsOf (ifs : List Expr) (env : Env) : Sem Bool := forIn ifs true fun c r => if r = true then do let ok ← isTrue c env (eval c env); pure (ForInStep.yield ok) else pure (ForInStep.yield r)
noncomputable def emitAt (elt : Expr) (gens : List Comprehension) (scope : Scope) (pos : Pos) (d : Nat) (acc : Value) (env : Env) : Sem Unit :=
  match gens[d + 1]? with
  | some g' => do
    let x ← eval g'.iter env
    standAt g'.iter.pos
    let x ← foldedSetIterable g'.iter env x
    let _ ← runOwn (.compStart (.ListComp elt gens scope pos) (d + 1) (← holding [x] (pyIter x)) acc env) env
  | none => do let _ ← call (.builtin "list.append") [acc, ← eval elt env]
theorem compTurn_at (elt : Expr) (gens : List Comprehension) (scope : Scope) (pos : Pos) (d : Nat) (it acc : Value) (env : Env) {target iter : Expr} {ifs : List Expr} (hg : gens[d]? = some ⟨target, iter, ifs, 0⟩) (ha : ∀ g', gens[d + 1]? = some g' → g'.is_async = 0) :
    compTurn (.ListComp elt gens scope pos) d it acc env = (do
      standAt iter.pos
      match ← pyNext it with
      | none => pure (.done .next)
      | some v =>
        letOwnedTupleGo target it v
        assign target env v
        let ok ← testsOf ifs env
        if ok then emitAt elt gens scope pos d acc env
        again (.compLoop (.ListComp elt gens scope pos) d it acc env)) := by
  unfold compTurn
  dsimp only
  rw [hg]
  unfold emitAt
  cases hg' : gens[d + 1]? with
  | none => rfl
  | some g' =>
    obtain ⟨t', i', f', a'⟩ := g'
    have := ha _ hg'
    dsimp only at this
    subst this
    have h0 : ((0 : Int) != 0) = false := rfl
    simp only [h0, Bool.false_eq_true, if_false, bind_assoc, pure_bind]
    rfl
section
variable {nm : Nat → Str} {prog : Program} {KK : Params → Frag} {gl bl : Nat → Option Value} {c : Cx nm prog KK gl bl} {A : Around} {E : Value → Shared → Prop} {τ τ' τ₂ : Sto} {L L' : Addr} {l l' : List (Nat × Value)} {s : Shared} {env : Env} {ks ksC : List (Nat × NameKind)} {cs : List (Nat × Addr)} {i : Nat} {pos : Pos} {v : Value}
theorem tests0 {Q : Bool → Shared → Prop} (h : Q true s) : wpAny c.M A (testsOf [] env) Q E s := wpAny_tests_nil h
theorem tests1 {t : Expr} {Q : Bool → Shared → Prop} (h : wpAny c.M A (isTrue t env (eval t env)) Q E s) : wpAny c.M A (testsOf [t] env) Q E s := wpAny_tests_one h
theorem emit0 {elt : Expr} {gens : List Comprehension} {scope : Scope} {d : Nat} {acc : Value} {Q : Unit → Shared → Prop} (hg : gens[d + 1]? = none) (h : wpAny c.M A (eval elt env) (fun x s₁ => wpAny c.M A (call (.builtin "list.append") [acc, x]) (fun _ s₂ => Q () s₂) E s₁) E s) : wpAny c.M A (emitAt elt gens scope pos d acc env) Q E s := by
  unfold emitAt
  rw [hg]
  exact wpAny_bind (wpAny_mono h (fun x s₁ h₁ => wpAny_bind (wpAny_mono h₁ (fun _ _ h₂ => wpAny_pure h₂) fun _ _ e => e)) fun _ _ e => e)
theorem compGo {elt : Expr} {gens : List Comprehension} {scope : Scope} {d : Nat} {target iter : Expr} {ifs : List Expr} {it : Addr} {acc : Value} {n : Nat} {P : Nat → Value → Prop} {S : Nat → It} {D : Sto → Prop} {R' : Result → Shared → Prop} (hg : gens[d]? = some ⟨target, iter, ifs, 0⟩) (ha : ∀ g', gens[d + 1]? = some g' → g'.is_async = 0)
    (I : Nat → Sto → List (Nat × Value) → Prop) (H : Ok 1 A) (Dr : Drv c it n P S D) (hD : ∀ i τ l, I i τ l → D τ) (R : Rel c (upd τ it (S 0)) L l s) (hn : τ it = none) (h0 : I 0 τ l)
    (turn : ∀ i v τ l s F, i < n → P i v → I i τ l → τ it = none → Rel c (upd τ it (S (i + 1))) L l s → wpAny c.M A (assign target env v) (fun _ s₂ => wpAny c.M A (testsOf ifs env) (fun ok s₃ =>
        (ok = true → wpAny c.M A (emitAt elt gens scope pos d acc env) (fun _ s₄ => ∃ τ' l', Rel c (upd τ' it (S (i + 1))) L l' s₄ ∧ τ' it = none ∧ I (i + 1) τ' l') F s₃) ∧
        (ok = false → ∃ τ' l', Rel c (upd τ' it (S (i + 1))) L l' s₃ ∧ τ' it = none ∧ I (i + 1) τ' l')) F s₂) F s)
    (fin : ∀ τ l s, I n τ l → Rel c τ L l s → R' (.ok .next) s) :
    codeAny c.M A (.compLoop (.ListComp elt gens scope pos) d (.ref it) acc env) R' s := by
  refine codeAny_loop rfl (fun k s => ∃ i τ l, i ≤ n ∧ k = n + 1 - i ∧ I i τ l ∧ τ it = none ∧ Rel c (upd τ it (S i)) L l s) ?_ (n + 1) ⟨0, τ, l, Nat.zero_le _, rfl, h0, hn, R⟩
  rintro k s ⟨i, τ, l, hi, rfl, hI, hit, R⟩
  show wpAny _ A ((compTurn (.ListComp elt gens scope pos) d (.ref it) acc env).onRaise (fun x => do noteFrame x env; theTreesLotGoes x)) _ _ s
  refine wpAny_noted ?_
  rw [compTurn_at elt gens scope pos d (.ref it) acc env hg ha]
  refine wpAny_bind (wpAny_standAt (wpAny_bind ?_))
  by_cases q : i < n
  · refine Dr.item H q hit (hD _ _ _ hI) R fun v s' hp R' => ?_
    dsimp only
    refine wpAny_bind (Dr.tup target v R' ?_)
    refine wpAny_bind (wpAny_mono (turn i v τ l s' _ q hp hI hit R') (fun _ s₂ h₂ => wpAny_bind (wpAny_mono h₂ (fun ok s₃ h₃ => ?_) fun _ _ e => e)) fun _ _ e => e)
    cases ok with
    | false =>
      obtain ⟨τ', l', a, b, e⟩ := h₃.2 rfl
      exact wpAny_pure ⟨rfl, n + 1 - (i + 1), by omega, i + 1, τ', l', q, rfl, e, b, a⟩
    | true =>
      refine wpAny_bind (wpAny_mono (h₃.1 rfl) (fun _ s₄ h₄ => ?_) fun _ _ e => e)
      obtain ⟨τ', l', a, b, e⟩ := h₄
      exact wpAny_pure ⟨rfl, n + 1 - (i + 1), by omega, i + 1, τ', l', q, rfl, e, b, a⟩
  · have : i = n := by omega
    subst this
    exact Dr.done H hit (hD _ _ _ hI) R fun s' R' => wpAny_pure (fin τ l s' hI R')
end
end Mine

namespace Mine
theorem cellsOn_upd {τ : Sto} {it : Addr} {i : It} : ∀ {as : List Addr}, it ∉ as → cellsOn (upd τ it i) as = upd (cellsOn τ as) it i
  | [], _ => rfl
  | a :: r, h => by
    have h1 : it ≠ a := fun q => h (q ▸ .head _)
    show cellsOn (upd (upd τ it i) a _) r = upd (cellsOn (upd τ a _) r) it i
    rw [upd_comm h1, cellsOn_upd fun q => h (.tail _ q)]
theorem cellsOn_ne {τ : Sto} {b : Addr} : ∀ {as : List Addr}, b ∉ as → cellsOn τ as b = τ b
  | [], _ => rfl
  | a :: r, h => (cellsOn_ne (as := r) fun q => h (.tail _ q)).trans (upd_ne fun q => h (q ▸ .head _))
theorem FreshAll.of_upd {τ : Sto} {L C it : Addr} {i : It} : ∀ {as : List Addr}, FreshAll (upd τ it i) L C as → FreshAll τ L C as ∧ it ∉ as
  | [], _ => ⟨trivial, nofun⟩
  | a :: r, ⟨h1, h2, h3, h4⟩ => by
    have hn : a ≠ it := fun q => by subst q; rw [upd_self] at h1; cases h1
    rw [upd_comm (Ne.symm hn)] at h4
    obtain ⟨g1, g2⟩ := FreshAll.of_upd h4
    refine ⟨⟨(upd_ne hn).symm.trans h1, h2, h3, g1⟩, fun q => ?_⟩
    rcases List.mem_cons.mp q with q | q
    · exact hn q.symm
    · exact g2 q
theorem FreshAll.notin {τ : Sto} {L C b : Addr} {i : It} : ∀ {as : List Addr}, FreshAll τ L C as → τ b = some i → b ∉ as
  | [], _, _ => nofun
  | a :: r, ⟨h1, h2, h3, h4⟩, e => fun q => by
    have hn : b ≠ a := ne_of_none e h1
    rcases List.mem_cons.mp q with q | q
    · exact hn q
    · exact FreshAll.notin h4 ((upd_ne hn).trans e) q
section
variable {nm : Nat → Str} {prog : Program} {KK : Params → Frag} {gl bl : Nat → Option Value} {c : Cx nm prog KK gl bl} {A : Around} {E : Value → Shared → Prop} {τ τ' τ₂ : Sto} {L L' : Addr} {l l' : List (Nat × Value)} {s : Shared} {env : Env} {ks ksC : List (Nat × NameKind)} {cs : List (Nat × Addr)} {i : Nat} {pos : Pos} {v : Value}
theorem startGo {elt : Expr} {gens : List Comprehension} {scope : Scope} {d : Nat} {target iter : Expr} {ifs : List Expr} {it : Addr} {acc : Value} {R' : Result → Shared → Prop} (hg : gens[d]? = some ⟨target, iter, ifs, 0⟩)
    (hself : ∀ {A Q E}, Q (.ref it) s → wpAny c.M A (pyIter (.ref it)) Q E s) (h0 : codeAny c.M A (.compLoop (.ListComp elt gens scope pos) d (.ref it) acc env) R' s) :
    codeAny c.M A (.compStart (.ListComp elt gens scope pos) d (.ref it) acc env) R' s := by
  refine codeAny_of_tree ?_
  show wpAny _ _ ((compStart (.ListComp elt gens scope pos) d (.ref it) acc env).onRaise (fun x => do noteFrame x env; standAt theWindowsPlace)) _ _ s
  refine wpAny_notedAt ?_
  unfold compStart
  have hc : clausesOf (.ListComp elt gens scope pos) = gens := rfl
  rw [hc, hg]
  show wpAny _ _ (ask >>= _) _ _ s
  refine wpAny_bind (wpAny_askSetting (wpAny_ite ?_))
  split
  · first
      | exact wpAny_bind (wpAny_pure (wpAny_pure (And.intro rfl h0)))
      | exact wpAny_pure (And.intro rfl h0)
  · first
      | exact wpAny_bind (wpAny_rule (wpAny_bind (wpAny_standAt (wpAny_bind (hself (wpAny_pure (And.intro rfl h0)))))))
      | (refine wpAny_bind (wpAny_rule ?_); show wpAny _ _ (standAt iter.pos >>= _) _ _ s; exact wpAny_bind (wpAny_standAt (wpAny_bind (hself (wpAny_pure (And.intro rfl h0))))))
theorem emit1 {elt : Expr} {gens : List Comprehension} {scope : Scope} {d : Nat} {acc : Value} {g' : Comprehension} {Q : Unit → Shared → Prop} (hg : gens[d + 1]? = some g')
    (h : wpAny c.M A (eval g'.iter env) (fun x s₁ => wpAny c.M A (pyIter x) (fun it s₂ => codeAny c.M A (.compStart (.ListComp elt gens scope pos) (d + 1) it acc env) (fun r s' => match r with | .ok _ => Q () s' | .error e => cameBackBy c.M A env E e s') s₂) E s₁) E s)
    (hs : ∀ x, foldedSetIterable g'.iter env x = pure x := by intro _; rfl) : wpAny c.M A (emitAt elt gens scope pos d acc env) Q E s := by
  unfold emitAt
  rw [hg]
  refine wpAny_bind (wpAny_mono h (fun x s₁ h₁ => wpAny_bind (wpAny_standAt (wpAny_bind (wpAny_of_eq (hs x) (wpAny_bind (wpAny_holding (wpAny_mono h₁ (fun it s₂ h₂ => ?_) fun _ _ e => e))))))) fun _ _ e => e)
  refine wpAny_bind (wpAny_runOwn (codeAny_mono h₂ fun r s' hr => ?_))
  cases r with
  | ok f => exact wpAny_pure hr
  | error e => exact hr
noncomputable def LCPost (c : Cx nm prog KK gl bl) (L : Addr) (l : List (Nat × Value)) (C : Addr) (K : Sto → Prop) (r : Result) (s' : Shared) : Prop := match r with
  | .ok _ => ∃ τe lc τf, Rel c τe C lc s' ∧ τe L = some (.fr l) ∧ (∀ a i, τf a = some i → τe a = some i) ∧ τf L = none ∧ K τf
  | .error _ => False
theorem lcGo {elt target iter : Expr} {ifs : List Expr} {rest : List Comprehension} {scope : Scope} {p : Pos} {use : Option (Value → Sem Unit)} {Q : Value → Shared → Prop} (V : Ev c env L ks cs) (hn : scope.names = named nm ksC) (hk : scope.kind = .function) (hfo : FreeOk ks cs ksC) (hlk : lkOk ksC ksC = true)
    (hnd : (cellNs ksC).Nodup) (hac : lookNone (closGo cs ksC []) (cellNs ksC) = true) (hs : ∀ x, foldedSetIterable iter env x = pure x)
    (h : wpAny c.M A (eval iter env) (fun x s₁ => wpAny c.M A (pyIter x) (fun itv s₂ => ∃ τ l it S, itv = .ref it ∧ Rel c (upd τ it S) L l s₂ ∧ τ it = none ∧ (∀ {A Q E τ' L' l' s'}, Rel c (upd τ' it S) L' l' s' → Q (.ref it) s' → wpAny c.M A (pyIter (.ref it)) Q E s') ∧
      ∀ acc as C env' s₃, τ acc = none → acc ≠ it → acc ≠ L → as.length = (cellNs ksC).length → C ≠ L → C ≠ acc → C ≠ it → τ C = none → FreshAll (upd (upd τ acc (.ls 1 [])) L (.fr l)) L C as → it ∉ as →
        Ev c env' C (relab ksC) ((cellNs ksC).zip as ++ closGo cs ksC []) → Rel c (upd (cellsOn (upd (upd τ acc (.ls 1 [])) L (.fr l)) as) it S) C [] s₃ → cellsOn (upd (upd τ acc (.ls 1 [])) L (.fr l)) as it = none →
        codeAny c.M A (.compLoop (.ListComp elt (⟨target, iter, ifs, 0⟩ :: rest) scope pos) 0 (.ref it) (.ref acc) env') (LCPost c L l C fun τf => match use with
          | none => ∀ s'', Rel c τf L l s'' → Q (.ref acc) s''
          | some u => ∀ τg lc s'', τg C = some (.fr lc) → (∀ a i, τf a = some i → τg a = some i) → (∀ a i, τg a = some i → a ≠ C → τf a = some i) → Rel c τg L l s'' → wpAny c.M A (u (.ref acc)) (fun _ s₄ => ∃ τh lc' l', Rel c τh L l' s₄ ∧ τh C = some (.fr lc') ∧ ∀ s₅, Rel c (del τh C) L l' s₅ → Q .none s₅) E s'') s₃) E s₁) E s) :
    wpAny c.M A (comprehension (.ListComp elt (⟨target, iter, ifs, 0⟩ :: rest) scope pos) scope env p (newList []) false (eval iter env) use) Q E s := by
  refine wpAny_comprehension_free rfl hs (closureFor_of V hn hfo) hk ?_ ?_
  · rw [hn]
    intro x hx hl
    refine gate ?_
    intro Gg kg
    obtain ⟨⟨i, k⟩, hy, rfl⟩ := List.mem_map.mp hx
    refine kg ?_
    clear kg Gg
    dsimp only at hl
    subst hl
    show (named nm ksC).lookup (nm i) = _
    rw [named_lookup c.inj]
    exact lkOk_of hlk i hy
  refine wpAny_mono h (fun x s₁ h₁ => wpAny_mono h₁ (fun itv s₂ h₂ => ?_) fun _ _ e => e) fun _ _ e => e
  refine gate ?_
  intro Gg kg
  obtain ⟨τ, l, it, S, rfl, R, hit, hself, k⟩ := h₂
  refine kg ?_
  clear kg Gg
  refine nList 1 R (by simp) fun acc s₃ a1 a2 R₁ => ?_
  obtain ⟨a3, a4⟩ : acc ≠ it ∧ τ acc = none := by
    by_cases q : acc = it
    · subst q; rw [upd_self] at a1; cases a1
    · exact ⟨q, by rwa [upd_ne q] at a1⟩
  have hitL : it ≠ L := R.neL upd_self
  rw [V.glob]
  refine layEnv (lb := []) (closure := closGo cs ksC []) R₁ hk hn hnd (lookNone_of hac) (fun o ho => by cases ho; exact ⟨V.frame, V.blt⟩) fun as C cenv b1 b2 b3 b4 b5 b6 => ⟨trivial, fun s₄ R₂ => ?_⟩
  have R₂ : Rel c (cellsOn (upd (upd (upd τ it S) acc (.ls 1 [])) L (.fr l)) as) C [] s₄ := R₂
  have hCacc : C ≠ acc := fun q => by subst q; rw [upd_self] at b2; cases b2
  have hCit : C ≠ it := fun q => by subst q; rw [upd_ne hCacc, upd_self] at b2; cases b2
  have hCn : τ C = none := by rwa [upd_ne hCacc, upd_ne hCit] at b2
  have er : upd (upd (upd τ it S) acc (.ls 1 [])) L (.fr l) = upd (upd (upd τ acc (.ls 1 [])) L (.fr l)) it S := by rw [upd_comm (Ne.symm a3), upd_comm hitL]
  rw [er] at b4 R₂
  obtain ⟨b7, b8⟩ := b4.of_upd
  rw [cellsOn_upd b8] at R₂
  have hcn : cellsOn (upd (upd τ acc (.ls 1 [])) L (.fr l)) as it = none := by rw [cellsOn_ne b8, upd_ne hitL, upd_ne (Ne.symm a3)]; exact hit
  have V' := Ev.relabel V hn hfo hk b6
  have loc : cenv.locals = C := b6.loc
  have R3 := R₂
  refine startGo (target := target) (iter := iter) (ifs := ifs) rfl (fun q => hself R3 q) ?_
  refine codeAny_mono (k acc as C _ s₄ a4 a3 a2 b1 b3 hCacc hCit hCn b7 b8 V' R₂ hcn) fun r s' hr => ?_
  cases r with
  | error e => exact hr.elim
  | ok f =>
    refine gate ?_
    intro Gg kg
    obtain ⟨τe, lc, τf, Re, eL, sub, fL, K⟩ := hr
    refine kg ?_
    clear kg Gg
    rw [loc]
    cases use with
    | none =>
      refine gate ?_
      intro Gg kg
      obtain ⟨m, hN, _⟩ := Re.here
      refine kg ?_
      clear kg Gg
      exact ⟨m, hN, fun h' hs' => K _ (Re.outC (n := s'.toks) eL sub fL hs')⟩
    | some u =>
      have hCL : C ≠ L := b3
      have Rg : Rel c (upd τf C (.fr lc)) L l s' := by
        refine ⟨Re.keep, fun a i e => ?_, fun a i e => ?_, Re.sat _ _ eL, Re.newN eL rfl, ?_, Re.gens, Re.os⟩
        · by_cases q : a = C
          · subst q; rw [upd_self] at e; cases e; exact Re.here
          · rw [upd_ne q] at e; exact Re.sat a i (sub a i e)
        · by_cases q : a = C
          · subst q; exact .inr Re.newL
          · rw [upd_ne q] at e; exact Re.new a i (sub a i e)
        · rw [upd_ne (Ne.symm hCL)]; exact fL
      have hfC : τf C = none := by
        cases e : τf C with
        | none => rfl
        | some i => have := sub _ _ e; rw [Re.apart] at this; cases this
      refine wpAny_mono (K (upd τf C (.fr lc)) lc s' upd_self (fun a i e => (upd_ne (ne_of_none e hfC)).trans e) (fun a i e q => by rwa [upd_ne q] at e) Rg) (fun _ s₅ h₅ => ?_) fun _ _ e => e
      refine gate ?_
      intro Gg kg
      obtain ⟨τh, lc', l', Rh, hC', kk⟩ := h₅
      obtain ⟨m, hN, _⟩ := Rh.sat _ _ hC'
      refine kg ?_
      clear kg Gg
      refine ⟨m, hN, fun h' hs' => kk _ ?_⟩
      have neC : ∀ {a i}, del τh C a = some i → a ≠ C := fun e q => by subst q; rw [del_self] at e; cases e
      refine ⟨fun b o e => (hs'.2 b fun q => ?_).trans (Rh.keep b o e), fun a i e => (Rh.sat a i (by rwa [del_ne (neC e)] at e)).keeps fun o y => (hs'.2 a (neC e)).trans y, fun a i e => Rh.new a i (by rwa [del_ne (neC e)] at e), frameSat.keeps (fun o y => (hs'.2 L (Ne.symm hCL)).trans y) Rh.here, Rh.newL, ?_, Rh.gens, Rh.os⟩
      · subst q; rw [Rh.newN hC' rfl] at e; cases e
      · rw [del_ne (Ne.symm hCL)]; exact Rh.apart
noncomputable abbrev LCIn (c : Cx nm prog KK gl bl) (L : Addr) (ksC : List (Nat × NameKind)) (clos : List (Nat × Addr)) (τ : Sto) (l : List (Nat × Value)) (it : Addr) (S : It) (acc : Addr) (as : List Addr) (C : Addr) (env' : Env) (s₃ : Shared) : Prop :=
  τ acc = none ∧ acc ≠ it ∧ acc ≠ L ∧ as.length = (cellNs ksC).length ∧ C ≠ L ∧ C ≠ acc ∧ C ≠ it ∧ τ C = none ∧ FreshAll (upd (upd τ acc (.ls 1 [])) L (.fr l)) L C as ∧ it ∉ as ∧
    Ev c env' C (relab ksC) ((cellNs ksC).zip as ++ clos) ∧ Rel c (upd (cellsOn (upd (upd τ acc (.ls 1 [])) L (.fr l)) as) it S) C [] s₃ ∧ cellsOn (upd (upd τ acc (.ls 1 [])) L (.fr l)) as it = none
theorem xLC {elt target iter : Expr} {ifs : List Expr} {rest : List Comprehension} {scope : Scope} {Q : Value → Shared → Prop} (V : Ev c env L ks cs) (hn : scope.names = named nm ksC) (hk : scope.kind = .function) (hfo : FreeOk ks cs ksC) (hlk : lkOk ksC ksC = true)
    (hnd : (cellNs ksC).Nodup) (hac : lookNone (closGo cs ksC []) (cellNs ksC) = true)
    (h : wpAny c.M A (eval iter env) (fun x s₁ => wpAny c.M A (pyIter x) (fun itv s₂ => ∃ τ l it S, itv = .ref it ∧ Rel c (upd τ it S) L l s₂ ∧ τ it = none ∧ (∀ {A Q E τ' L' l' s'}, Rel c (upd τ' it S) L' l' s' → Q (.ref it) s' → wpAny c.M A (pyIter (.ref it)) Q E s') ∧
      ∀ acc as C env' s₃, LCIn c L ksC (closGo cs ksC []) τ l it S acc as C env' s₃ →
        codeAny c.M A (.compLoop (.ListComp elt (⟨target, iter, ifs, 0⟩ :: rest) scope pos) 0 (.ref it) (.ref acc) env') (LCPost c L l C fun τf => ∀ s'', Rel c τf L l s'' → Q (.ref acc) s'') s₃) E s₁) E s)
    (hs : ∀ x, foldedSetIterable iter env x = pure x := by intro _; rfl) :
    wpAny c.M A (eval (.ListComp elt (⟨target, iter, ifs, 0⟩ :: rest) scope pos) env) Q E s := by
  rw [eval_ListComp]
  refine lcGo (use := none) V hn hk hfo hlk hnd hac hs (wpAny_mono h (fun x s₁ h₁ => wpAny_mono h₁ (fun itv s₂ h₂ => ?_) fun _ _ e => e) fun _ _ e => e)
  refine gate ?_
  intro Gg kg
  obtain ⟨τ, l, it, S, e, R, hit, hself, k⟩ := h₂
  refine kg ?_
  clear kg Gg
  exact ⟨τ, l, it, S, e, R, hit, hself, fun acc as C env' s₃ a1 a2 a3 a4 a5 a6 a7 a8 a9 a10 a11 a12 a13 => k acc as C env' s₃ ⟨a1, a2, a3, a4, a5, a6, a7, a8, a9, a10, a11, a12, a13⟩⟩
noncomputable def noOwn (j : Nat) : List (Nat × NameKind) → Bool
  | [] => true
  | (i, k) :: r => !(Nat.beq i j && (k == .local || k == .cell)) && noOwn j r
theorem noOwn_of (inj : ∀ i j, nm i = nm j → i = j) {j : Nat} : ∀ {ksC : List (Nat × NameKind)}, noOwn j ksC = true → (named nm ksC).any (fun (n, k) => n == nm j && (k == .local || k == .cell)) = false
  | [], _ => rfl
  | (i, k) :: r, h => by
    unfold noOwn at h
    rw [Bool.and_eq_true] at h
    show (nm i == nm j && (k == .local || k == .cell) || (named nm r).any _) = false
    rw [noOwn_of inj h.2, Bool.or_false]
    have h1 : (Nat.beq i j && (k == .local || k == .cell)) = false := by have := h.1; revert this; cases (Nat.beq i j && (k == .local || k == .cell)) <;> simp
    by_cases z : i = j
    · subst z
      rw [Nat.beq_refl, Bool.true_and] at h1
      rw [h1, Bool.and_false]
    · have : (nm i == nm j) = false := beq_eq_false_iff_ne.mpr fun y => z (inj _ _ y)
      rw [this, Bool.false_and]
theorem xAsgLC {j : Nat} {elt target iter : Expr} {ifs : List Expr} {rest : List Comprehension} {scope : Scope} {pos' spos : Pos} {Q : Flow → Shared → Prop} (V : Ev c env L ks cs) (hj : ks.lookup j = some .local) (hn : scope.names = named nm ksC) (hk : scope.kind = .function) (hfo : FreeOk ks cs ksC) (hlk : lkOk ksC ksC = true)
    (hnd : (cellNs ksC).Nodup) (hac : lookNone (closGo cs ksC []) (cellNs ksC) = true) (hno : noOwn j ksC = true) (hln : (pos'.line == pos.line) = true)
    (h : wpAny c.M A (eval iter env) (fun x s₁ => wpAny c.M A (pyIter x) (fun itv s₂ => ∃ τ l it S, itv = .ref it ∧ Rel c (upd τ it S) L l s₂ ∧ τ it = none ∧ (∀ {A Q E τ' L' l' s'}, Rel c (upd τ' it S) L' l' s' → Q (.ref it) s' → wpAny c.M A (pyIter (.ref it)) Q E s') ∧
      ∀ acc as C env' s₃, LCIn c L ksC (closGo cs ksC []) τ l it S acc as C env' s₃ →
        codeAny c.M A (.compLoop (.ListComp elt (⟨target, iter, ifs, 0⟩ :: rest) scope pos) 0 (.ref it) (.ref acc) env') (LCPost c L l C fun τf => ∀ s'', Rel c τf L (put l j (.ref acc)) s'' → Q .next s'') s₃) E s₁) E s)
    (hs : ∀ x, foldedSetIterable iter env x = pure x := by intro _; rfl) :
    wpAny c.M A (exec (.Assign [.Name (nm j) pos'] (.ListComp elt (⟨target, iter, ifs, 0⟩ :: rest) scope pos) spos) env) Q E s := by
  have hsw : swapsWith (.ListComp elt (⟨target, iter, ifs, 0⟩ :: rest) scope pos) (some (.Name (nm j) pos')) spos.line env = pure true := by
    have hkj : env.kindOf (nm j) = some .local := V.kinds _ _ hj
    have hbk : env.blockKind = .function := by unfold Env.blockKind; rw [V.fn]; rfl
    show (pure (env.blockKind == .function && env.kindOf (nm j) == some .local && pos'.line == pos.line && !(scope.names.any fun (n, k) => n == nm j && (k == .local || k == .cell))) : Sem Bool) = pure true
    rw [hbk, hkj, hln, hn, noOwn_of c.inj hno]
    rfl
  rw [exec_Assign_Name_used _ _ _ _ hsw]
  refine wpAny_bind (wpAny_standAt (wpAny_bind ?_))
  show wpAny _ _ (do let _ ← comprehension (.ListComp elt (⟨target, iter, ifs, 0⟩ :: rest) scope pos) scope env (firstIterPos (⟨target, iter, ifs, 0⟩ :: rest) pos) (newList []) false (eval iter env) (some (assign (.Name (nm j) pos') env))) _ _ _
  refine wpAny_bind (lcGo (use := some (assign (.Name (nm j) pos') env)) V hn hk hfo hlk hnd hac hs (wpAny_mono h (fun x s₁ h₁ => wpAny_mono h₁ (fun itv s₂ h₂ => ?_) fun _ _ e => e) fun _ _ e => e))
  refine gate ?_
  intro Gg kg
  obtain ⟨τ, l, it, S, e, R, hit, hself, k⟩ := h₂
  refine kg ?_
  clear kg Gg
  refine ⟨τ, l, it, S, e, R, hit, hself, fun acc as C env' s₃ a1 a2 a3 a4 a5 a6 a7 a8 a9 a10 a11 a12 a13 => codeAny_mono (k acc as C env' s₃ ⟨a1, a2, a3, a4, a5, a6, a7, a8, a9, a10, a11, a12, a13⟩) fun r s' hr => ?_⟩
  cases r with
  | error e => exact hr
  | ok f =>
    refine gate ?_
    intro Gg kg
    obtain ⟨τe, lc, τf, Re, eL, sub, fL, K⟩ := hr
    refine kg ?_
    clear kg Gg
    refine ⟨τe, lc, τf, Re, eL, sub, fL, fun τg lc2 s'' gC g1 g2 Rg => ?_⟩
    refine wpAny_assign_Name (stL V Rg hj fun s₄ R₄ => ⟨τg, lc2, _, R₄, gC, fun s₅ R₅ => ?_⟩)
    refine wpAny_pure (wpAny_pure (K s₅ (R₅.mono fun a i e => ?_)))
    have hne : a ≠ C := fun q => by
      subst q
      have := sub _ _ e
      rw [Re.apart] at this; cases this
    rw [del_ne hne]; exact g1 a i e
end
end Mine

namespace Mine
noncomputable def isStrKey (e : DictEntry) : Bool := match e.key with | .str _ _ => true | _ => false
theorem strKeys_of {es : Array DictEntry} (h : es.all isStrKey = true) : StrKeys es := fun e he => by
  have := Array.all_eq_true_iff_forall_mem.mp h e he
  unfold isStrKey at this
  split at this
  · rename_i n t hk; exact ⟨n, t, hk⟩
  · cases this
noncomputable def esOf : Option Obj → Array DictEntry
  | some { data := .dict es _, .. } => es
  | _ => #[]
noncomputable abbrev esCE (P : Params) : Array DictEntry := esOf ((KK P).lookup (c_CycleError - 1))
theorem kCE_str (P : Params) : (esCE P).all isStrKey = true := by kernel_rfl
theorem kCE_init (P : Params) : nsFind (esCE P) "__init__" = none := by kernel_rfl
section
variable {c : Cx nm prg KK gl bl} {A : Around} {E : Value → Shared → Prop} {τ τ' β : Sto} {L : Addr} {l : List (Nat × Value)} {s : Shared} {env : Env}
theorem kCE_obj (P : Params) : ∃ n q bs hdct sn sub ab col dd k0 k1 k2 k3 k5, (KK P).lookup c_CycleError = some (excClassObj n q c_CycleError (c_CycleError - 1) bs [.type "ValueError", .type "Exception", .type "BaseException", .type "object"] hdct sn sub ab col dd k0 k1 k2 k3 k5 "ValueError.__new__") := ⟨_, _, _, _, _, _, _, _, _, _, _, _, _, _, rfl⟩
theorem kCE_ns (P : Params) : ∃ o ep, (KK P).lookup (c_CycleError - 1) = some o ∧ o.data = .dict (esCE P) ep := ⟨_, _, rfl, rfl⟩
theorem raiseCE {x : Str} {np cpos pos : Pos} {e₀ : Expr} {rest : List Expr} {Q : Flow → Shared → Prop} (hh : A.handled = none) (hplain : (backTo cpos (starEach (e₀ :: rest) env)).any (·.1) = false)
    (h : wpAny c.M A (eval (.Name x np) env) (fun f s₁ => f = .ref c_CycleError ∧ wpAny c.M A (spliced (backTo cpos (starEach (e₀ :: rest) env)))
      (fun vs s₂ => vs.length ≤ sizeLine ∧ ∃ τ L l, Rel c τ L l s₂ ∧ ∀ h' e, Heap.MadeExcOf s₂.heap h' e (.ref c_CycleError) vs → E (.ref e) { s₂ with heap := h' }) E s₁) E s)
    (he : starEach (e₀ :: rest) env = (false, eval e₀ env) :: starEach rest env := by rfl) :
    wpAny c.M A (exec (.Raise (some (.Call (.Name x np) (e₀ :: rest) [] cpos)) none pos) env) Q E s := by
  refine gate ?_
  intro Gg kg
  obtain ⟨n, q, bs, hdct, sn, sub, ab, col, dd, k0, k1, k2, k3, k5, hC⟩ := kCE_obj c.w.params
  obtain ⟨o, ep, hN, hd⟩ := kCE_ns c.w.params
  refine kg ?_
  clear kg Gg
  refine wpAny_Raise_call_sub (C := c_CycleError) (N := c_CycleError - 1) (nm := n) (q := q) (bs := bs) (hdct := hdct) (sn := sn) (sub := sub) (ab := ab) (col := col) (dd := dd) (k0 := k0) (k1 := k1) (k2 := k2) (k3 := k3) (k5 := k5) PySem.F.excBase_ValueError (mN := nsFind (esCE c.w.params)) hh hplain (kCE_init _) (wpAny_mono h (fun f s₁ h₁ => ⟨h₁.1, ?_⟩) fun _ _ e => e)
  have h₂ := h₁.2
  rw [he] at h₂ ⊢
  refine evalArgs_plain (wpAny_mono h₂ (fun vs s₂ h₃ => ?_) fun _ _ e => e)
  refine gate ?_
  intro Gg kg
  obtain ⟨g2, τ, L, l, R, g3⟩ := h₃
  refine kg ?_
  clear kg Gg
  exact ⟨rfl, g2, R.frag _ _ hC, ⟨o, _, ep, R.frag _ _ hN, hd, strKeys_of (kCE_str _), fun _ => rfl⟩, g3⟩
theorem Rel.isQuiet {e : Addr} (R : Rel c τ L l s) (h : s.heap.get? e = none) : Quiet c τ L e := by
  refine ⟨?_, ?_, ?_⟩
  · cases q : c.h₀.get? e with
    | none => rfl
    | some o => rw [R.keep _ _ q] at h; cases h
  · cases q : τ e with
    | none => rfl
    | some i =>
      have z := R.sat _ _ q
      have : ∃ o, s.heap.get? e = some o := by
        cases i with
        | ob _ o => exact ⟨o, z⟩
        | ls _ _ => obtain ⟨n, z⟩ := z; exact ⟨_, z⟩
        | pr _ _ => obtain ⟨o, z, _⟩ := z; exact ⟨_, z⟩
        | fr _ => obtain ⟨o, z, _⟩ := frame_data z; exact ⟨_, z⟩
      obtain ⟨o, z⟩ := this
      rw [h] at z; cases z
  · rintro rfl
    refine gate ?_
    intro Gg kg
    obtain ⟨o, z, _⟩ := frame_data R.here
    refine kg ?_
    clear kg Gg
    rw [h] at z; cases z
theorem Exn.move {e L' : Addr} {cls : Value} {h : Heap} (X : Exn c τ L e cls h) (k : ∀ a, τ a = none → τ' a = none ∧ a ≠ L') : Exn c τ' L' e cls h := by
  refine gate ?_
  intro Gg kg
  obtain ⟨oe, vs, a0, h1, h2, h3, h4, q, h5⟩ := X
  refine kg ?_
  clear kg Gg
  have mv : ∀ {a}, Quiet c τ L a → Quiet c τ' L' a := fun q => ⟨q.1, (k _ q.2.1).1, (k _ q.2.1).2⟩
  refine ⟨oe, vs, a0, h1, h2, h3, h4, mv q, h5.imp id fun ⟨T, oT, ts, g1, g2, g3, g4, g5, g6⟩ => ⟨T, oT, ts, g1, g2, g3, g4, g5, mv g6⟩⟩
theorem exn_made {e : Addr} {cls : Value} {vs : List Value} {h' : Heap} (R : Rel c τ L l s) (hm : Heap.MadeExcOf s.heap h' e cls vs) : Exn c τ L e cls h' := by
  refine gate ?_
  intro Gg kg
  obtain ⟨t, he, htn, ht⟩ := hm.there
  refine kg ?_
  clear kg Gg
  exact ⟨_, _, _, he, rfl, rfl, rfl, R.isQuiet hm.new, .inl rfl⟩
theorem kT_find_cycle (P : Params) : findIn (KK P) (.ref cT) (nm 14) = some (some (.ref f_TopologicalSorter__find_cycle)) := by kernel_rfl
theorem kF_find_cycle (P : Params) : isFn (KK P) (.ref f_TopologicalSorter__find_cycle) = true := by kernel_rfl
theorem lcReady {ks : List (Nat × NameKind)} {n : Nat} {W : Wk c ks [] n} {x : Addr} {q : Hd} {ns : List Nd} {np nf : Int} {K : Value → Sto → Prop} {sc : Scope} {pos p1 p2 p3 p4 p5 p6 p7 p8 p9 p10 p11 : Pos} {m : Nat} (hn : 1 ≤ n) (S1 : SX c τ x q ns none np nf) (hz : (gOf ns).length ≤ 700) (hk : ks.lookup 128 = some .local) (hl : l.lookup 128 = some (.ref x)) (hln : (p6.endLine == p7.line) = true)
    (hsc : sc.names = named nm [(0, .local), (65, .local)]) (hkd : sc.kind = .function) (h : ∀ acc vs, τ acc = none → acc ≠ W.L → IntsAre vs (gReady (gOf ns)) → K (.ref acc) (upd τ acc (.ls 1 vs))) :
    Op W τ l (eval (.ListComp (embE nm (.attr (.nm 65 p1) 97 p2)) [⟨embE nm (.nm 65 p3), embE nm (.meth0 (.attr (.nm 128 p4) 30 p5) 143 p6 p7), [embE nm (.cmp (.attr (.nm 65 p8) 101 p9) .Eq (.int 0 m p10) p11)], 0⟩] sc pos) W.env) K := fun s Q E R qq => by
  have R1 := R
  refine gate ?_
  intro Gg kg
  obtain ⟨⟨e1, e2, e3, e4⟩, e5, each, ndi, nds, ndk⟩ := id S1
  refine kg ?_
  clear kg Gg
  have e5' : q.rv = .none := e5
  rw [e5'] at e2
  refine xLC W.V hsc hkd trivial rfl (by decide) rfl ?_
  refine cmM (Attribute_any_ (ldL W.V R hk hl (tG R (.inr (.inl rfl)) e1 e2 rfl rfl fun s R => mDict PySem.F.slot_dict_values PySem.F.type_dict_values R e4 (cwB0 (dValues R e4 e3 fun vw s m1 m2 R => ?_)))) rfl) (meth_ok (o := .attr (.nm 128 p4) 30 p5) rfl hln rfl)
  refine iterV (u := 0) R upd_self ((upd_ne (ne_of_none e4 m1)).trans e4) ?_
  intro it s m3 m4 R
  obtain ⟨m5, m6⟩ := upd_none m3
  have R := R.drop2 m1
  refine ⟨τ, _, it, _, rfl, R, m6, fun R h => drvV.self (i := 0) R h, ?_⟩
  rintro acc as C cenv s ⟨a1, a2, a3, a4, a5, a6, a7, a8, a9, a10, VC, RC, a11⟩
  obtain rfl : as = [] := List.length_eq_zero_iff.mp a4
  dsimp only [cellsOn, cellNs, List.zip_nil_left, List.nil_append] at VC RC a11
  have hkl : (kvsOf ns).length = (gOf ns).length := by unfold kvsOf gOf; rw [List.length_map, List.length_map]
  have up : ∀ vs lf a j, τ a = some j → (upd (upd τ acc (.ls 1 vs)) W.L (.fr lf)) a = some j := fun vs lf a j e => by
    rw [upd_ne (R1.neL e), upd_ne (ne_of_none e a1)]; exact e
  refine compGo (c := c) rfl (fun g' h => nomatch h) (fun i τ' lc => ∃ vs, IntsAre vs (gReady ((gOf ns).take i)) ∧ τ' = upd (upd τ acc (.ls 1 vs)) W.L (.fr l)) (W.H.le hn) (drvV (kvs := kvsOf ns)) ?_ RC a11 ⟨[], .nil, rfl⟩ ?_ ?_
  · rintro i τ' lc ⟨vs, _, rfl⟩; exact ⟨5, up _ _ _ _ e4⟩
  · rintro i v τ' lc s F hi ⟨k, hk⟩ ⟨vs, hvs, rfl⟩ hit R
    obtain ⟨n', hn, rfl, rfl⟩ : ∃ n, ns[i]? = some n ∧ n.k = k ∧ v = .ref n.ia := by
      unfold kvsOf at hk
      rw [List.getElem?_map, Option.map_eq_some_iff] at hk
      refine gate ?_
      intro Gg kg
      obtain ⟨n, h1, h2⟩ := hk
      refine kg ?_
      clear kg Gg
      cases h2
      exact ⟨n, h1, rfl, rfl⟩
    have hnm := List.mem_of_getElem? hn
    obtain ⟨hin, hne⟩ := List.getElem?_eq_some_iff.mp hn
    have hgi : (gOf ns).take (i + 1) = (gOf ns).take i ++ [n'.g] := by
      rw [← List.take_append_getElem (by unfold gOf; rw [List.length_map]; exact hin)]
      congr 2
      unfold gOf
      rw [List.getElem_map, hne]
    refine gate ?_
    intro Gg kg
    obtain ⟨t, t', svs, h1, h2, h3, h4⟩ := each n' hnm
    refine kg ?_
    clear kg Gg
    have o1 := (upd_ne (i := itV q.nd (kvsOf ns).length q.ep (i + 1)) (ne_of_none (up vs l _ _ h1) hit)).trans (up vs l _ _ h1)
    have o2 := (upd_ne (i := itV q.nd (kvsOf ns).length q.ep (i + 1)) (ne_of_none (up vs l _ _ h2) hit)).trans (up vs l _ _ h2)
    have hacc : (upd (upd τ acc (.ls 1 vs)) W.L (.fr l)) acc = some (.ls 1 vs) := (upd_ne a3).trans upd_self
    refine wpAny_assign_Name (stL VC (R.forget (l' := []) trivial) rfl fun s R => tests1 (wpAny_isTrue_Compare1 (Attribute_any_ (ldL VC R rfl rfl (nG R sl1 o1 o2 rfl rfl fun s R => xInt R fun t0 s R => PyProof.Rows.eq_int (wpAny_truthy_bool ⟨fun hb => ?_, fun hb => ?_⟩))) rfl) rfl))
    · refine emit0 rfl (Attribute_any_ (ldL VC R rfl rfl (nG R sl0 o1 o2 rfl rfl fun s R => bAppend R ((upd_ne (ne_of_none hacc hit)).trans hacc) ?_ fun s R => ?_)) rfl)
      · have := hvs.length
        have h5 : (gReady ((gOf ns).take i)).length ≤ ((gOf ns).take i).length := by unfold gReady; rw [List.length_map]; exact List.length_filter_le _ _
        have h6 : ((gOf ns).take i).length ≤ (gOf ns).length := by rw [List.length_take]; exact Nat.min_le_right _ _
        exact this ▸ Nat.lt_of_le_of_lt (Nat.le_trans h5 (Nat.le_trans h6 hz)) (by decide)
      rw [upd_comm (Ne.symm a2), upd_comm (Ne.symm a3), upd_upd] at R
      refine ⟨upd (upd τ acc (.ls 1 (vs ++ [.int n'.k t]))) W.L (.fr l), _, R, ?_, vs ++ [.int n'.k t], ?_, rfl⟩
      · refine gate ?_
        intro Gg kg
        obtain ⟨z1, z2⟩ := upd_none hit
        obtain ⟨z3, z4⟩ := upd_none z2
        refine kg ?_
        clear kg Gg
        rw [upd_ne z1, upd_ne z3]; exact z4
      · rw [hgi]
        unfold gReady at hvs ⊢
        rw [gReady_snoc, if_pos (show (n'.g.np == 0) = true from hb)]
        exact hvs.append (.cons _ _ .nil)
    · refine ⟨_, _, R, hit, vs, ?_, rfl⟩
      rw [hgi]
      unfold gReady at hvs ⊢
      rw [gReady_snoc, if_neg (by rw [show n'.g.np = n'.np from rfl, hb]; decide), List.append_nil]
      exact hvs
  · rintro τ' lc s ⟨vs, hvs, rfl⟩ R
    rw [hkl, List.take_length] at hvs
    refine ⟨_, _, upd τ acc (.ls 1 vs), R, upd_self, fun a i e => ?_, ?_, fun s R => qq _ _ s (h acc vs a1 a3 hvs) R⟩
    · have : a ≠ W.L := ne_of_none e (by rw [upd_ne (Ne.symm a3)]; exact R1.apart)
      exact (upd_ne this).trans e
    · rw [upd_ne (Ne.symm a3)]; exact R1.apart
theorem sp_prepare {x : Addr} {ns : List Nd} {np nf : Int} {Q : Value → Shared → Prop} (H : Ok 24 A) (LV : Lv A env τ L) (R : Rel c τ L l s) (S : SAt c τ x ns none np nf) (hz : gSz (gOf ns) 700) (hcl : ∀ n ∈ ns, ∀ z ∈ n.sc, z ∈ ns.map (·.k))
    (hno : ∀ ra τ' s', Acyc (gOf ns) → SAt c τ' x ns (some (ra, gReady (gOf ns))) np nf → Keep2 τ τ' → Rel c τ' L l s' → Q .none s')
    (hyes : ∀ ra e τ' ring s', Ring (gOf ns) ring → SAt c τ' x ns (some (ra, gReady (gOf ns))) np nf → Keep2 τ τ' → Rel c τ' L l s' → Exn c τ' L e (.ref c_CycleError) s'.heap → E (.ref e) s') :
    wpAny c.M A (call (.ref f_TopologicalSorter_prepare) [.ref x]) Q E s := by
  refine wpAny_call ?_
  refine callW (n := 23) (lb := [(128, .ref x)]) H R rfl (by kernel_rfl) ⟨rfl, rfl, rfl⟩ (ks := ks_TopologicalSorter_prepare) rfl rfl (BindsTo.of_eq (by kernel_rfl)) rfl ?_
  have R0 := R
  clear R
  intro W s Q' E' hf hA R f1 f2 hq hn he
  dsimp only [n_self, n_cycle, n_ValueError, n_CycleError, n__node2info, n__ready_nodes, n__find_cycle, n_values, n_i, n_dot0, n_node, n_npredecessors, q_nm, q_int, q_non, q_bool, q_str, q_bin, q_neg, q_not, q_cmp, q_and, q_or, q_sub, q_slLo, q_slHi, q_slRev, q_attr, q_call0, q_call1, q_call2, q_call3, q_meth0, q_meth1, q_meth2, q_list0, q_list1, q_list2, q_list3, q_lc, q_js, q_nx, q_dct, q_asg, q_setI, q_setA, q_asg2, q_asgT, q_augA, q_augI, q_exp, q_iff, q_ret, q_brk, q_cont, q_whl, q_for1, q_forT, q_tryx, q_rai, q_del, q_asr, q_asgC, q_expC, q_nil, q_cons]
  have W1 : Lv W.A W.env (upd τ L (.fr l)) W.L := by rw [hA]; exact LV.into W.V hf R0.apart
  obtain ⟨q, S⟩ := S
  have S1 := S.mono (Up2.into (l := l) R0.apart)
  have K1 : Keep2 (upd τ L (.fr l)) (upd τ L (.fr l)) := Keep2.refl
  have back : ∀ {τ3 l3 s3}, Keep2 (upd τ L (.fr l)) τ3 → Rel c τ3 W.L l3 s3 → Rel c (del τ3 L) L l s3 ∧ Keep2 τ (del τ3 L) ∧ Up2 τ3 (del τ3 L) := fun K R => ret2 R0.apart K R
  have eL : (upd τ L (.fr l)) L = some (.fr l) := upd_self
  generalize upd τ L (.fr l) = β at *
  refine gate ?_
  intro Gg kg
  obtain ⟨⟨e1, e2, e3, e4⟩, e5, each, ndi, nds, ndk⟩ := id S1
  refine kg ?_
  clear kg Gg
  refine vcS_ok 2 _ [] _ _ _ ?_ R
  refine oRd0 ⟨q, S1⟩ ⟨nofun, fun _ s R => sStm (plainObj_wpAny_Assign_Attribute (lcReady (K := fun v τ' => ∃ acc vs, β acc = none ∧ IntsAre vs (gReady (gOf ns)) ∧ v = .ref acc ∧ τ' = upd β acc (.ls 1 vs)) (by decide) S1 hz.1 rfl rfl rfl rfl rfl (fun acc vs a1 a3 hvs => ⟨acc, vs, a1, hvs, rfl, rfl⟩) s _ _ R fun v τ' s ⟨acc, vs, a1, hvs, e6, e7⟩ R => ?_) rfl)⟩
  subst e6 e7
  have R := R.tag (t' := 6) upd_self
  rw [upd_upd] at R
  have ob : ∀ a j, β a = some j → (upd β acc (.ls 6 vs)) a = some j := fun a j e => (upd_ne (ne_of_none e a1)).trans e
  have e5' : q.rv = .none := e5
  rw [e5'] at e2
  refine ldL W.V R rfl rfl (tS R (.inr (.inr (.inr rfl))) (ob _ _ e1) (ob _ _ e2) (of_decide_eq_true rfl) fun s R => ?_)
  have S2 : SX c (upd β acc (.ls 6 vs)) x q ns none np nf := S1.mono (Up2.fresh a1)
  have S3 := S2.setHd (rv := .ref acc) (rd' := some (acc, gReady (gOf ns))) (np' := np) (nf' := nf) (t1 := q.t1) (t2 := q.t2) ⟨rfl, vs, upd_self, hvs⟩
  have K3 : Keep2 β _ := (K1.trans (Keep2.fresh (i := .ls 6 vs) a1)).self (i' := atr nm 2 [(30, .ref q.nd), (32, .ref acc), (31, .int np q.t1), (29, .int nf q.t2)]) (ob _ _ e2)
  replace R : Rel c (upd (upd β acc (.ls 6 vs)) q.dx (atr nm 2 [(30, .ref q.nd), (32, .ref acc), (31, .int np q.t1), (29, .int nf q.t2)])) W.L _ s := R
  generalize upd (upd β acc (.ls 6 vs)) q.dx (atr nm 2 [(30, .ref q.nd), (32, .ref acc), (31, .int np q.t1), (29, .int nf q.t2)]) = τ3 at *
  have W3 : Lv W.A W.env τ3 W.L := W1.mono fun a l e => ⟨l, K3 _ _ e rfl⟩
  clear hvs ob S2 e1 e2 e3 e4 each
  refine vcS_ok 1 (.asg 49 _ (.meth0 (.nm 128 _) 14 _ _) _ :: _) [] τ3 _ s ?_ R
  refine omS ⟨_, S3⟩ rfl (kT_find_cycle _) (kF_find_cycle _) ⟨rfl, fun s Q E R qq => sp_find_cycle (W.H.le (by decide)) W3 R ⟨_, S3⟩ hz hcl (fun s hac R => qq _ _ s ?_ R) (fun b vs2 ring s hring hvs2 nb R => qq _ _ s ?_ R)⟩
  · intro s R
    refine sIf0 (wpAny_isTrue_value (ldL W.V R rfl rfl (truthy_none ⟨nofun, fun _ => sEnd (sEnd0 (hn _ ?_))⟩)) rfl)
    refine gate ?_
    intro Gg kg
    obtain ⟨R', k1, k2⟩ := back K3 R
    refine kg ?_
    clear kg Gg
    exact hno acc _ _ hac ⟨_, S3.mono k2⟩ k1 R'
  · intro s R
    have hlen : vs2.length = ring.length := hvs2.length
    have hpos : vs2.length < 2000 ∧ vs2.isEmpty = false := by
      obtain ⟨r1, r2⟩ := hring.len
      refine ⟨hlen ▸ Nat.lt_of_le_of_lt r1 (Nat.lt_of_le_of_lt (Nat.succ_le_succ hz.1) (by decide)), ?_⟩
      cases vs2 with
      | nil => cases ring with
        | nil => exact absurd rfl r2
        | cons _ _ => cases hlen
      | cons _ _ => rfl
    refine sIf0 (wpAny_isTrue_value (ldL W.V R rfl rfl (tList R upd_self (Nat.lt_trans hpos.1 (by decide)) fun s R => ⟨fun _ => ?_, fun hb => by rw [hpos.2] at hb; cases hb⟩)) rfl)
    refine sStm (raiseCE W.H.1 rfl (ldG W.V R rfl rfl ⟨rfl, args_cons (JoinedStr_one (wpAny_Constant_str (args_cons (ldL (i := 49) W.V (R.toks (s.toks + 1)) rfl rfl (args_nil ⟨sizeOk (by simp), _, _, _, R.toks (s.toks + 1), fun h' e hm => ?_⟩)) rfl))) rfl⟩) rfl)
    have R := (R.toks (s.toks + 1)).drop nb
    refine he _ _ (exn_leaves (R.heap (n := s.toks + 1) hm.keeps) (exn_made R hm) W3 fun s' R' X => ?_)
    refine gate ?_
    intro Gg kg
    obtain ⟨R'', k1, k2⟩ := back K3 R'
    refine kg ?_
    clear kg Gg
    refine hyes acc e _ ring _ hring ⟨_, S3.mono k2⟩ k1 R'' (X.move fun a ha => ?_)
    have hne : a ≠ L := fun z => by subst z; rw [K3 _ _ eL rfl] at ha; cases ha
    exact ⟨(del_ne hne).trans ha, hne⟩
end
end Mine

namespace Mine
noncomputable def lexLt : List Int → List Int → Bool
  | [], [] => false
  | [], _ :: _ => true
  | _ :: _, [] => false
  | a :: r, b :: q => if a = b then lexLt r q else decide (a < b)
open AutoSeq1 (wpAny_loadPart') in
theorem lt_loop (l b : Addr) (vs ws : List Value) (xs ys : List Int) (n n2 : Nat) (hx : IntsAre vs xs) (hy : IntsAre ws ys) (k : Nat) :
    ∀ i : Nat, xs.length - i = k → Meets (Builtin.«list.__eq__.loop» ⟨[.ref l, .ref b, rawInt i, rawInt 0], []⟩)
      (fun _ R s => s.heap.get? l = some (lst vs n) ∧ s.heap.get? b = some (lst ws n2) ∧ i ≤ xs.length ∧ i ≤ ys.length ∧
        R (.ok (.ret (.bool (lexLt (xs.drop i) (ys.drop i))))) s) := by
  have lx := hx.length
  have ly := hy.length
  induction k with
  | zero =>
    intro i hk prog w A R s h
    obtain ⟨hp, g, d, tk, os⟩ := s; obtain ⟨hl, hb, hi, hj, h⟩ := h
    have hie : i = xs.length := by omega
    subst hie
    rw [List.drop_length] at h
    wp_walk using wpAny_loadPart' hl, wpAny_loadPart' hb
    have hi1 : vs.toArray[((xs.length : Nat) : Int).toNat]? = none := by simp; omega
    rw [hi1]
    by_cases q : ys.length = xs.length
    · have hi2 : ws.toArray[((xs.length : Nat) : Int).toNat]? = none := by simp; omega
      rw [hi2]
      wp_walk using wpAny_loadPart' hl, wpAny_loadPart' hb
      show R (.ok (.ret (.bool (decide (vs.toArray.size < ws.toArray.size))))) _
      have : ys.drop xs.length = [] := by rw [← q, List.drop_length]
      rw [this] at h
      have e : decide (vs.toArray.size < ws.toArray.size) = false := by simp; omega
      rw [e]; exact h
    · have hi2 : ws.toArray[((xs.length : Nat) : Int).toNat]? = some (ws[xs.length]'(by omega)) := by simp
      rw [hi2]
      wp_walk using wpAny_loadPart' hl, wpAny_loadPart' hb
      show R (.ok (.ret (.bool (decide (vs.toArray.size < ws.toArray.size))))) _
      have : ∃ z r, ys.drop xs.length = z :: r := ⟨_, _, List.drop_eq_getElem_cons (by omega)⟩
      obtain ⟨z, r, hz⟩ := this
      rw [hz] at h
      have e : decide (vs.toArray.size < ws.toArray.size) = true := by simp; omega
      rw [e]; exact h
  | succ k ih =>
    intro i hk prog w A R s h
    obtain ⟨hp, g, d, tk, os⟩ := s; obtain ⟨hl, hb, hi, hj, h⟩ := h
    have hlt : i < xs.length := by omega
    obtain ⟨t, ht⟩ := hx.get i xs[i] (by simp [hlt])
    obtain ⟨hltv, hev⟩ := List.getElem?_eq_some_iff.mp ht
    have hi1 : vs.toArray[((i : Nat) : Int).toNat]? = some (.int xs[i] t) := by simp [ht]
    wp_walk using wpAny_loadPart' hl, wpAny_loadPart' hb
    rw [hi1]
    rw [List.drop_eq_getElem_cons hlt] at h
    by_cases q : i < ys.length
    · obtain ⟨u, hu⟩ := hy.get i ys[i] (by simp [q])
      have hi2 : ws.toArray[((i : Nat) : Int).toNat]? = some (.int ys[i] u) := by simp [hu]
      rw [hi2]
      rw [List.drop_eq_getElem_cons q] at h
      have hc : ((i : Int) + 1) = ((i + 1 : Nat) : Int) := by push_cast; rfl
      refine wpAny_bind (MeetsSeq.EqGives.int xs[i] ys[i] t u prog w _ _ _ _ ?_)
      unfold lexLt at h
      by_cases e : xs[i] = ys[i]
      · rw [if_pos e] at h
        have e' : (xs[i] == ys[i]) = true := by simpa using e
        rw [e']
        wp_walk
        rw [hc]
        exact ⟨plainId_quiet MeetsSeq3.plain_eq_loop _, codeAny_builtin MeetsSeq3.entry_eq_loop (by
          rw [Around.under_plainId MeetsSeq3.plain_eq_loop _]
          exact ih (i + 1) (by omega) prog w A R _ ⟨hl, hb, by omega, by omega, h⟩)⟩
      · rw [if_neg e] at h
        have e' : (xs[i] == ys[i]) = false := by simpa using e
        rw [e']
        wp_walk using wpAny_loadPart' hl, wpAny_loadPart' hb
        rw [hi1, hi2]
        exact wpAny_bind (m := richCompare .Lt (.int xs[i] t) (.int ys[i] u)) (show wpAny _ _ (compareOp .Lt (.int xs[i] t) (.int ys[i] u)) _ _ _ from PyProof.Rows.lt_int (wpAny_pure h))
    · have hi2 : ws.toArray[((i : Nat) : Int).toNat]? = none := by simp; omega
      rw [hi2]
      wp_walk using wpAny_loadPart' hl, wpAny_loadPart' hb
      show R (.ok (.ret (.bool (decide (vs.toArray.size < ws.toArray.size))))) _
      rw [List.drop_eq_nil_of_le (by omega : ys.length ≤ i)] at h
      have e : decide (vs.toArray.size < ws.toArray.size) = false := by simp; omega
      rw [e]; exact h
open AutoSeq1 (wpAny_loadPart') in
theorem list_lt (l b : Addr) (vs ws : List Value) (xs ys : List Int) (n n2 : Nat) (hx : IntsAre vs xs) (hy : IntsAre ws ys) :
    Meets (Builtin.«list.__lt__» ⟨[.ref l, .ref b], []⟩)
      (fun _ R s => s.heap.get? l = some (lst vs n) ∧ s.heap.get? b = some (lst ws n2) ∧ R (.ok (.ret (.bool (lexLt xs ys)))) s) := by
  intro prog w A R s h
  obtain ⟨hp, g, d, tk, os⟩ := s; obtain ⟨hl, hb, h⟩ := h
  have f3 := AutoSeq1.sub_list_list
  wp_walk using wpAny_loadPart' hl, wpAny_loadPart' hb
  exact ⟨plainId_quiet MeetsSeq3.plain_eq_loop _, codeAny_builtin MeetsSeq3.entry_eq_loop (by
    rw [Around.under_plainId MeetsSeq3.plain_eq_loop _]
    exact lt_loop l b vs ws xs ys n n2 hx hy _ 0 rfl prog w A R _ ⟨hl, hb, Nat.zero_le _, Nat.zero_le _, h⟩)⟩
section
variable {nm : Nat → Str} {prog : Program} {KK : Params → Frag} {gl bl : Nat → Option Value} {c : Cx nm prog KK gl bl} {A : Around} {E : Value → Shared → Prop} {τ τ' τ₂ : Sto} {L L' : Addr} {l l' : List (Nat × Value)} {s : Shared} {env : Env} {ks ksC : List (Nat × NameKind)} {cs : List (Nat × Addr)} {i : Nat} {pos : Pos} {v : Value}
theorem xLtL {a b : Addr} {t u : Nat} {vs ws : List Value} {xs ys : List Int} {n : Nat} {Q : Value → Shared → Prop} (H : Ok n A) (R : Rel c τ L l s) (ea : τ a = some (.ls t vs)) (eb : τ b = some (.ls u ws)) (hx : IntsAre vs xs) (hy : IntsAre ws ys) (h : Q (.bool (lexLt xs ys)) s) :
    wpAny c.M A (compareOp .Lt (.ref a) (.ref b)) Q E s := by
  obtain ⟨n1, x⟩ := R.getL ea
  obtain ⟨n2, y⟩ := R.getL eb
  show wpAny _ _ (richCompare .Lt (.ref a) (.ref b)) _ _ _
  refine wpAny_richCompare_same_or (T := "list") ⟨_, x, rfl⟩ ⟨_, y, rfl⟩ PySem.F.slot_list_lt ?_ (.inr H.units)
  exact call_meets PySem.F.slot_list_lt ⟨_, x, rfl⟩ PySem.F.entry_list_lt (PySem.F.args_list_lt_2 _ _) (list_lt a b vs ws xs ys n1 n2 hx hy) ⟨x, y, nofun, h⟩
end
end Mine

namespace Mine
set_option genInjectivity true
inductive Dt where
  | int (n : Int)
  | bool (b : Bool)
  | none
  | list (l : List Dt)
mutual
noncomputable def Dn (τ : Sto) : Value → Dt → Prop
  | v, .int n => ∃ t, v = .int n t
  | v, .bool b => v = .bool b
  | v, .none => v = .none
  | v, .list ds => ∃ a vs, v = .ref a ∧ τ a = some (.ls 0 vs) ∧ Dns τ vs ds
noncomputable def Dns (τ : Sto) : List Value → List Dt → Prop
  | [], [] => True
  | v :: vs, d :: ds => Dn τ v d ∧ Dns τ vs ds
  | _, _ => False
end
mutual
noncomputable def Dt.py : Dt → PyData
  | .int n => .int n
  | .bool b => .bool b
  | .none => .none
  | .list ds => .list (Dt.pys ds)
noncomputable def Dt.pys : List Dt → List PyData
  | [] => []
  | d :: ds => d.py :: Dt.pys ds
end
noncomputable def Frz (τ τ' : Sto) : Prop := ∀ a vs, τ a = some (.ls 0 vs) → τ' a = some (.ls 0 vs)
theorem Frz.refl {τ : Sto} : Frz τ τ := fun _ _ e => e
theorem Frz.trans {τ τ' τ₂ : Sto} (h : Frz τ τ') (h' : Frz τ' τ₂) : Frz τ τ₂ := fun a vs e => h' a vs (h a vs e)
mutual
theorem Dn.mono {τ τ' : Sto} (h : Frz τ τ') : ∀ {v : Value} {d : Dt}, Dn τ v d → Dn τ' v d
  | _, .int _, x => x
  | _, .bool _, x => x
  | _, .none, x => x
  | _, .list ds, ⟨a, vs, e, q, r⟩ => ⟨a, vs, e, h _ _ q, Dns.mono h r⟩
theorem Dns.mono {τ τ' : Sto} (h : Frz τ τ') : ∀ {vs : List Value} {ds : List Dt}, Dns τ vs ds → Dns τ' vs ds
  | [], [], _ => trivial
  | v :: vs, d :: ds, ⟨x, y⟩ => ⟨Dn.mono h x, Dns.mono h y⟩
end
section
variable {nm : Nat → Str} {prog : Program} {KK : Params → Frag} {gl bl : Nat → Option Value} {c : Cx nm prog KK gl bl} {A : Around} {E : Value → Shared → Prop} {τ τ' τ₂ : Sto} {L L' : Addr} {l l' : List (Nat × Value)} {s : Shared} {env : Env} {ks ksC : List (Nat × NameKind)} {cs : List (Nat × Addr)} {i : Nat} {pos : Pos} {v : Value}
mutual
theorem Dn.reads (R : Rel c τ L l s) : ∀ {v : Value} {d : Dt}, Dn τ v d → ∃ as, Reads s.heap v d.py as
  | _, .int n, ⟨t, e⟩ => by subst e; exact ⟨_, .int n t⟩
  | v, .bool b, e => by have e : v = .bool b := e; subst e; exact ⟨_, .bool b⟩
  | v, .none, e => by have e : v = .none := e; subst e; exact ⟨_, .none⟩
  | _, .list ds, ⟨a, vs, e, q, r⟩ => by
    obtain ⟨as, h⟩ := Dns.reads R r
    obtain ⟨n, x⟩ := R.getL q
    subst e
    exact ⟨_, Reads.list x rfl rfl (by simpa using h)⟩
theorem Dns.reads (R : Rel c τ L l s) : ∀ {vs : List Value} {ds : List Dt}, Dns τ vs ds → ∃ as, ReadsAll s.heap vs (Dt.pys ds) as
  | [], [], _ => ⟨_, .nil⟩
  | v :: vs, d :: ds, ⟨x, y⟩ => by
    obtain ⟨as, h⟩ := Dn.reads R x
    obtain ⟨bs, h'⟩ := Dns.reads R y
    exact ⟨_, .cons h h'⟩
end
noncomputable def Dt.deq : Dt → Dt → Prop := fun a b => a = b
mutual
noncomputable def Dt.dep : Dt → Nat
  | .list ds => Dt.deps ds + 1
  | _ => 0
noncomputable def Dt.deps : List Dt → Nat
  | [] => 0
  | d :: ds => max d.dep (Dt.deps ds)
end
mutual
theorem Dt.lay : ∀ d : Dt, d.py.canLay0 = true ∧ d.py.depth ≤ d.dep
  | .int n => by simp [Dt.py, PyData.canLay0, PyData.depth]
  | .bool b => by simp [Dt.py, PyData.canLay0, PyData.depth]
  | .none => by simp [Dt.py, PyData.canLay0, PyData.depth]
  | .list ds => by
    have h := Dt.lays ds
    simp only [Dt.py, PyData.canLay0, PyData.depth, Dt.dep, h.1, true_and]
    have := h.2
    omega
theorem Dt.lays : ∀ ds : List Dt, PyData.canLayAll0 (Dt.pys ds) = true ∧ PyData.depthAll (Dt.pys ds) ≤ Dt.deps ds
  | [] => by simp [Dt.pys, PyData.canLayAll0, PyData.depthAll]
  | d :: ds => by
    have h1 := Dt.lay d
    have h2 := Dt.lays ds
    simp only [Dt.pys, PyData.canLayAll0, PyData.depthAll, Dt.deps, h1.1, h2.1, Bool.and_self, true_and]
    have := h1.2
    have := h2.2
    omega
end
theorem Dt.shaped {d : Dt} (h : d.dep ≤ 60) : PySem.SeqAt.shaped d.py = true := by
  unfold PySem.SeqAt.shaped
  rw [(Dt.lay d).1, Bool.true_and]
  exact decide_eq_true (Nat.le_trans (Dt.lay d).2 (by omega))
theorem xEqD {w : Value} {d e : Dt} {n : Nat} {Q : Value → Shared → Prop} (H : Ok (n + 5) A) (R : Rel c τ L l s) (hv : Dn τ v d) (hw : Dn τ w e) (hd : d.dep ≤ 60) (he : e.dep ≤ 60) (h : Q (.bool (PyData.eqv d.py e.py)) s) : wpAny c.M A (compareOp .Eq v w) Q E s := by
  obtain ⟨as, ra⟩ := hv.reads R
  obtain ⟨bs, rb⟩ := hw.reads R
  exact eq_dataH ra rb (Dt.shaped hd) (Dt.shaped he) (by have := H.2.2; show A.units + 64 < 9900; omega) h
theorem xNeD {w : Value} {d e : Dt} {n : Nat} {Q : Value → Shared → Prop} (H : Ok (n + 5) A) (R : Rel c τ L l s) (hv : Dn τ v d) (hw : Dn τ w e) (hd : d.dep ≤ 60) (he : e.dep ≤ 60) (h : Q (.bool (!PyData.eqv d.py e.py)) s) : wpAny c.M A (compareOp .NotEq v w) Q E s := by
  obtain ⟨as, ra⟩ := hv.reads R
  obtain ⟨bs, rb⟩ := hw.reads R
  exact ne_dataH ra rb (Dt.shaped hd) (Dt.shaped he) (by have := H.2.2; show A.units + 64 < 9900; omega) h
mutual
noncomputable def Dt.nb : Dt → Bool
  | .bool _ => false
  | .list ds => Dt.nbs ds
  | _ => true
noncomputable def Dt.nbs : List Dt → Bool
  | [] => true
  | d :: ds => d.nb && Dt.nbs ds
end
mutual
theorem Dt.eqv_nb : ∀ d e : Dt, d.nb = true → e.nb = true → (PyData.eqv d.py e.py = true ↔ d = e)
  | .int a, .int b, _, _ => by simp [Dt.py, PyData.eqv]
  | .none, .none, _, _ => by simp [Dt.py, PyData.eqv]
  | .list ds, .list es, h1, h2 => by
    simp only [Dt.py, PyData.eqv, Dt.list.injEq]
    exact Dt.eqvs_nb ds es h1 h2
  | .int a, .none, _, _ => by simp [Dt.py, PyData.eqv]
  | .none, .int b, _, _ => by simp [Dt.py, PyData.eqv]
  | .int a, .list es, _, _ => by simp [Dt.py, PyData.eqv]
  | .list ds, .int b, _, _ => by simp [Dt.py, PyData.eqv]
  | .none, .list es, _, _ => by simp [Dt.py, PyData.eqv]
  | .list ds, .none, _, _ => by simp [Dt.py, PyData.eqv]
theorem Dt.eqvs_nb : ∀ ds es : List Dt, Dt.nbs ds = true → Dt.nbs es = true → (PyData.eqvAll (Dt.pys ds) (Dt.pys es) = true ↔ ds = es)
  | [], [], _, _ => by simp [Dt.pys, PyData.eqvAll]
  | [], e :: es, _, _ => by simp [Dt.pys, PyData.eqvAll]
  | d :: ds, [], _, _ => by simp [Dt.pys, PyData.eqvAll]
  | d :: ds, e :: es, h1, h2 => by
    unfold Dt.nbs at h1 h2
    rw [Bool.and_eq_true] at h1 h2
    simp only [Dt.pys, PyData.eqvAll, Bool.and_eq_true, List.cons.injEq, Dt.eqv_nb d e h1.1 h2.1, Dt.eqvs_nb ds es h1.2 h2.2]
end
noncomputable abbrev dI (xs : List Int) : Dt := .list (xs.map .int)
theorem Dns.ints : ∀ {vs : List Value} {xs : List Int}, Dns τ vs (xs.map .int) ↔ IntsAre vs xs
  | [], [] => ⟨fun _ => .nil, fun _ => trivial⟩
  | [], x :: xs => ⟨fun h => h.elim, fun h => nomatch h⟩
  | v :: vs, [] => ⟨fun h => h.elim, fun h => nomatch h⟩
  | v :: vs, x :: xs => by
    constructor
    · rintro ⟨⟨t, rfl⟩, h⟩
      exact .cons _ _ (Dns.ints.mp h)
    · intro h
      obtain ⟨t, vs', e, h'⟩ := h.cons_inv
      cases e
      exact ⟨⟨t, rfl⟩, Dns.ints.mpr h'⟩
theorem Dns.length : ∀ {vs : List Value} {ds : List Dt}, Dns τ vs ds → vs.length = ds.length
  | [], [], _ => rfl
  | v :: vs, d :: ds, ⟨_, h⟩ => by rw [List.length_cons, List.length_cons, Dns.length h]
theorem Dns.append : ∀ {vs ws : List Value} {ds es : List Dt}, Dns τ vs ds → Dns τ ws es → Dns τ (vs ++ ws) (ds ++ es)
  | [], _, [], _, _, h => h
  | v :: vs, _, d :: ds, _, ⟨a, b⟩, h => ⟨a, b.append h⟩
theorem Dns.get : ∀ {vs : List Value} {ds : List Dt}, Dns τ vs ds → ∀ (i : Nat) (d : Dt), ds[i]? = some d → ∃ v, vs[i]? = some v ∧ Dn τ v d
  | v :: vs, d :: ds, ⟨a, b⟩, 0, d', e => by cases e; exact ⟨v, rfl, a⟩
  | v :: vs, d :: ds, ⟨a, b⟩, i + 1, d', e => Dns.get b i d' e
  | [], [], _, i, d', e => by simp at e
  | [], d :: ds, h, _, _, _ => h.elim
  | v :: vs, [], h, _, _, _ => h.elim
theorem Dns.at : ∀ {vs : List Value} {ds : List Dt}, Dns τ vs ds → ∀ (i : Nat) (v : Value), vs[i]? = some v → ∃ d, ds[i]? = some d ∧ Dn τ v d
  | v :: vs, d :: ds, ⟨a, b⟩, 0, v', e => by cases e; exact ⟨d, rfl, a⟩
  | v :: vs, d :: ds, ⟨a, b⟩, i + 1, v', e => Dns.at b i v' e
  | [], [], _, i, d', e => by simp at e
  | [], d :: ds, h, _, _, _ => h.elim
  | v :: vs, [], h, _, _, _ => h.elim
theorem Dns.drop : ∀ {vs : List Value} {ds : List Dt}, Dns τ vs ds → ∀ k, Dns τ (vs.drop k) (ds.drop k)
  | [], [], _, k => by simp [Dns]
  | v :: vs, d :: ds, h, 0 => h
  | v :: vs, d :: ds, ⟨_, h⟩, k + 1 => Dns.drop h k
theorem Dns.take : ∀ {vs : List Value} {ds : List Dt}, Dns τ vs ds → ∀ k, Dns τ (vs.take k) (ds.take k)
  | [], [], _, k => by simp [Dns]
  | v :: vs, d :: ds, _, 0 => trivial
  | v :: vs, d :: ds, ⟨a, h⟩, k + 1 => ⟨a, Dns.take h k⟩
end
end Mine

namespace Mine
section
variable {nm : Nat → Str} {prog : Program} {KK : Params → Frag} {gl bl : Nat → Option Value} {c : Cx nm prog KK gl bl} {A : Around} {E : Value → Shared → Prop} {τ τ' τ₂ : Sto} {L L' : Addr} {l l' : List (Nat × Value)} {s : Shared} {env : Env} {ks ksC : List (Nat × NameKind)} {cs : List (Nat × Addr)} {i : Nat} {pos : Pos} {v : Value}
theorem aPairG {a : Addr} {t : Nat} {x y : Value} {i j : Nat} {pi pj : Pos} {kk : Nat} {Q : Unit → Shared → Prop} (H : Ok 1 A) (R : Rel c τ L l s) (e : τ a = some (.ls t [x, y]))
    (h : ∀ s', Rel c τ L l s' → wpAny c.M A (assign (.Name (nm i) pi) env x) (fun _ s₁ => wpAny c.M A (assign (.Name (nm j) pj) env y) Q E s₁) E s') : wpAny c.M A (assign (.Tuple [.Name (nm i) pi, .Name (nm j) pj] kk pos) env (.ref a)) Q E s := by
  rw [PyProof.Rows.assign_Tuple]
  refine wpAny_bind (wpAny_standAt ?_)
  unfold unpack
  refine wpAny_bind (wpAny_holding ?_)
  show wpAny _ _ (unpackItems (.ref a) 2 none) _ _ _
  unfold unpackItems
  refine wpAny_bind ?_
  unfold notIterableAtAll
  refine wpAny_bind (wpAny_specialOf (R.isList e).typeIs slot_list_iter.lookup ?_)
  refine wpAny_pure ?_
  simp only [Bool.false_eq_true, if_false]
  refine wpAny_bind (wpAny_holding (iterL R e fun it s₁ n1 n2 R₁ => ?_))
  have D : ∀ {τ : Sto}, τ a = some (.ls t [x, y]) → ∃ t, τ a = some (.ls t [x, y]) := fun h => ⟨t, h⟩
  have Dr := drvL (c := c) (it := it) (a := a) (vs := [x, y])
  refine wpAny_bind (wpAny_holding ?_)
  show wpAny _ _ (pyNext (.ref it) >>= _) _ _ _
  refine wpAny_bind (Dr.item (i := 0) H (by simp) n1 (D e) R₁ fun v s₂ hv R₂ => ?_)
  cases hv
  refine wpAny_bind (wpAny_holding ?_)
  show wpAny _ _ (pyNext (.ref it) >>= _) _ _ _
  refine wpAny_bind (Dr.item (i := 1) H (by simp) n1 (D e) R₂ fun v s₃ hv R₃ => ?_)
  cases hv
  refine wpAny_bind (wpAny_holding (wpAny_pure (wpAny_pure (wpAny_pure ?_))))
  rw [if_neg (by simp)]
  refine wpAny_bind (wpAny_holding (Dr.done H n1 (D e) R₃ fun s₄ R₄ => ?_))
  simp only [Option.isSome_none, Bool.false_eq_true, if_false]
  refine wpAny_pure ?_
  show wpAny _ _ (assignInOrder [assign (.Name (nm i) pi) env, assign (.Name (nm j) pj) env] [x, y]) _ _ _
  exact wpAny_bind (wpAny_holding (wpAny_mono (h s₄ R₄) (fun _ s₅ h₅ => wpAny_bind (wpAny_holding (wpAny_mono h₅ (fun _ s₆ h₆ => wpAny_pure h₆) fun _ _ e => e))) fun _ _ e => e))
theorem aPair {a : Addr} {t : Nat} {x y : Value} {i j : Nat} {pi pj : Pos} {kk : Nat} {Q : Unit → Shared → Prop} (H : Ok 1 A) (V : Ev c env L ks cs) (R : Rel c τ L l s) (e : τ a = some (.ls t [x, y])) (hi : ks.lookup i = some .local) (hj : ks.lookup j = some .local)
    (h : ∀ s', Rel c τ L (put (put l i x) j y) s' → Q () s') : wpAny c.M A (assign (.Tuple [.Name (nm i) pi, .Name (nm j) pj] kk pos) env (.ref a)) Q E s :=
  aPairG H R e fun s' R' => wpAny_assign_Name (stL V R' hi fun s₅ R₅ => wpAny_assign_Name (stL V R₅ hj fun s₆ R₆ => h s₆ R₆))
end
end Mine

namespace Mine
set_option genSizeOfSpec false
set_option genInjectivity false
inductive Dx where
  | nm (i : Nat) (p : Pos)
  | int (k : Int) (m : Nat) (p : Pos)
  | non (m : Nat) (p : Pos)
  | bool (b : Bool) (m : Nat) (p : Pos)
  | bin (a : Dx) (op : Operator) (b : Dx) (p : Pos)
  | neg (a : Dx) (p : Pos)
  | cmp (a : Dx) (op : CmpOp) (b : Dx) (p : Pos)
  | not (a : Dx) (p : Pos)
  | con (op : BoolOp) (a b : Dx) (p : Pos)
  | sub (o x : Dx) (p : Pos)
  | slLo (o x : Dx) (p q : Pos)
  | slHi (o x : Dx) (p q : Pos)
  | slRev (o x : Dx) (p q : Pos)
  | lst (es : Dx) (p : Pos)
  | call (i : Nat) (q : Pos) (es : Dx) (p : Pos)
  | meth (o : Dx) (i : Nat) (q : Pos) (a : Dx) (p : Pos)
  | lc (e g : Dx) (ks : List (Nat × NameKind)) (p : Pos)
  | nil
  | cons (a b : Dx)
  | cl (i : Nat) (q : Pos) (it fs rest : Dx)
noncomputable def scp (ks : List (Nat × NameKind)) : Scope := { kind := .function, names := named nm ks, isGenerator := false, isCoroutine := false, more := [] }
mutual
noncomputable def dE : Dx → Expr
  | .nm i p => .Name (nm i) p
  | .int k m p => .Constant (.int k) m p
  | .non m p => .Constant .none m p
  | .bool b m p => .Constant (.bool b) m p
  | .bin a op b p => .BinOp (dE a) op (dE b) p
  | .neg a p => .UnaryOp .USub (dE a) p
  | .cmp a op b p => .Compare (dE a) [op] [dE b] p
  | .not a p => .UnaryOp .Not (dE a) p
  | .con op a b p => .BoolOp op [dE a, dE b] p
  | .sub o x p => .Subscript (dE o) (dE x) p
  | .slLo o x p q => .Subscript (dE o) (.Slice (some (dE x)) none none q) p
  | .slHi o x p q => .Subscript (dE o) (.Slice none (some (dE x)) none q) p
  | .slRev o x p q => .Subscript (dE o) (.Slice none none (some (dE x)) q) p
  | .lst es p => .List (dL es) p
  | .call i q es p => .Call (.Name (nm i) q) (dL es) [] p
  | .meth o i q a p => .Call (.Attribute (dE o) (nm i) q) [dE a] [] p
  | .lc e g ks p => .ListComp (dE e) (dC g) (scp ks) p
  | _ => .Constant .none 0 ⟨0, 0, 0, 0⟩
noncomputable def dL : Dx → List Expr
  | .cons a b => dE a :: dL b
  | _ => []
noncomputable def dC : Dx → List Comprehension
  | .cl i q it fs rest => ⟨.Name (nm i) q, dE it, dL fs, 0⟩ :: dC rest
  | _ => []
end
noncomputable def noCd : Dx → Bool
  | .call .. => false
  | _ => true
noncomputable abbrev Gm := List (Nat × Dt)
noncomputable def Dt.eqB (x y : Dt) : Bool := PyData.eqv x.py y.py
noncomputable def Dt.isN : Dt → Bool
  | .none => true
  | _ => false
noncomputable def arD (op : Operator) (a b : Int) (K : Int → Prop) : Prop := match op with
  | .Add => K (a + b)
  | .Sub => K (a - b)
  | .Mod => b ≠ 0 ∧ K (a.fmod b)
  | .FloorDiv => (b ≠ 0 ∧ b.natAbs < 1073741824) ∧ K (a.fdiv b)
  | _ => False
noncomputable def adL (op : Operator) (P : Prop) : Prop := match op with
  | .Add => P
  | _ => False
noncomputable def binD (op : Operator) (x y : Dt) (K : Dt → Prop) : Prop := match x with
  | .int a => (match y with
    | .int b => arD op a b fun k => K (.int k)
    | _ => False)
  | .list a => (match y with
    | .list b => adL op (a.length + b.length < 100000 ∧ K (.list (a ++ b)))
    | _ => False)
  | _ => False
noncomputable def negD (x : Dt) (K : Dt → Prop) : Prop := match x with
  | .int k => K (.int (-k))
  | _ => False
noncomputable def ltD (x y : Dt) (K : Dt → Prop) : Prop := match x with
  | .int a => (match y with
    | .int b => K (.bool (decide (a < b)))
    | _ => False)
  | _ => False
noncomputable def inD (neg : Bool) (x y : Dt) (K : Dt → Prop) : Prop := match y with
  | .list ds => (x.dep ≤ 60 ∧ (Dt.list ds).dep ≤ 60) ∧ K (.bool (xor neg (ds.any fun d => d.eqB x)))
  | _ => False
noncomputable def cmpD (op : CmpOp) (x y : Dt) (K : Dt → Prop) : Prop := match op with
  | .Eq => (x.dep ≤ 60 ∧ y.dep ≤ 60) ∧ K (.bool (x.eqB y))
  | .NotEq => (x.dep ≤ 60 ∧ y.dep ≤ 60) ∧ K (.bool (!x.eqB y))
  | .Is => y = .none ∧ K (.bool x.isN)
  | .In => inD false x y K
  | .NotIn => inD true x y K
  | .Lt => ltD x y K
  | _ => False
noncomputable def subD (x y : Dt) (K : Dt → Prop) : Prop := match x with
  | .list ds => (match y with
    | .int k => ∃ j d, k = Int.ofNat j ∧ j < 100000 ∧ ds[j]? = some d ∧ K d
    | _ => False)
  | _ => False
noncomputable def cutN (n : Nat) (k : Int) : Nat := if k < 0 then ((n : Int) + k).toNat else k.toNat
noncomputable def sliD (f : List Dt → Int → List Dt) (x y : Dt) (K : Dt → Prop) : Prop := match x with
  | .list ds => (match y with
    | .int k => ds.length < 100000 ∧ K (.list (f ds k))
    | _ => False)
  | _ => False
noncomputable def revD (x y : Dt) (K : Dt → Prop) : Prop := match x with
  | .list ds => y = .int (-1) ∧ ds.length < 100000 ∧ K (.list ds.reverse)
  | _ => False
noncomputable def idxD (x y : Dt) (K : Dt → Prop) : Prop := match x with
  | .list ds => (match y with
    | .int k => ∃ ns : List Int, ds = ns.map .int ∧ ns.length ≤ 30 ∧ k ∈ ns ∧ K (.int (ns.idxOf k : Nat))
    | _ => False)
  | _ => False
noncomputable def trD (x : Dt) (K : Bool → Prop) : Prop := match x with
  | .bool b => K b
  | .list ds => ds.length < 100000 ∧ K (!ds.isEmpty)
  | _ => False
noncomputable def rngD (x : List Dt) (K : List Dt → Prop) : Prop := match x with
  | [.int k] => ∃ n : Nat, k = n ∧ n < 100000 ∧ K ((List.range n).map fun j => .int (j : Nat))
  | _ => False
noncomputable def lisD (x : Dt) (K : List Dt → Prop) : Prop := match x with
  | .list ds => K ds
  | _ => False
noncomputable def Tn2 (R : Dt → List Dt → Prop) : List Dt → List (List Dt) → Prop
  | [], [] => True
  | d :: ds, ys :: yss => R d ys ∧ Tn2 R ds yss
  | _, _ => False
noncomputable def setC (ks : List (Nat × NameKind)) (i : Nat) : Bool := match ks.lookup i with
  | some .local => true
  | some .cell => true
  | _ => false
noncomputable def glbC (ks : List (Nat × NameKind)) (i : Nat) : Bool := match ks.lookup i with
  | some .globalImplicit => true
  | _ => false
noncomputable def isFree (ks : List (Nat × NameKind)) (i : Nat) : Bool := match ks.lookup i with
  | some .free => true
  | _ => false
noncomputable def isCell (ks : List (Nat × NameKind)) (i : Nat) : Bool := match ks.lookup i with
  | some .cell => true
  | _ => false
noncomputable def ndK : List (Nat × NameKind) → Bool
  | [] => true
  | (i, _) :: r => !(r.any fun q => Nat.beq q.1 i) && ndK r
noncomputable def okC (ks : List (Nat × NameKind)) (Γ : Gm) : List (Nat × NameKind) → Bool
  | [] => true
  | (i, .free) :: r => (isCell ks i && (Γ.lookup i).isSome) && okC ks Γ r
  | _ :: r => okC ks Γ r
noncomputable def innG (ksC : List (Nat × NameKind)) (Γ : Gm) : Gm := Γ.filter fun p => isFree ksC p.1
noncomputable def tnB (F : Gm → (Bool → Prop) → Prop) (R : Gm → List Dt → Prop) (ksC : List (Nat × NameKind)) (i : Nat) (Γ : Gm) (ds ys : List Dt) : Prop :=
  (setC ksC i = true ∧ Γ.lookup i = none) ∧ ∃ yss, ys = yss.flatten ∧ Tn2 (fun d zs => F ((i, d) :: Γ) fun b => (b = true → R ((i, d) :: Γ) zs) ∧ (b = false → zs = [])) ds yss
section
variable (Φ : Nat → Option (List Dt → (Dt → Prop) → Prop))
mutual
noncomputable def ev : Dx → List (Nat × NameKind) → Gm → (Dt → Prop) → Prop
  | .nm i _, _, Γ, K => (match Γ.lookup i with
    | some d => K d
    | none => False)
  | .int k _ _, _, _, K => K (.int k)
  | .non _ _, _, _, K => K .none
  | .bool b _ _, _, _, K => K (.bool b)
  | .bin a op b _, ks, Γ, K => ev a ks Γ fun x => ev b ks Γ fun y => binD op x y K
  | .neg a _, ks, Γ, K => ev a ks Γ fun x => negD x K
  | .cmp a op b _, ks, Γ, K => gB (!behindInMarks op (dE b)) <| ev a ks Γ fun x => ev b ks Γ fun y => cmpD op x y K
  | .sub o x _, ks, Γ, K => ev o ks Γ fun o => ev x ks Γ fun x => subD o x K
  | .slLo o x _ _, ks, Γ, K => ev o ks Γ fun o => ev x ks Γ fun x => sliD (fun ds k => ds.drop (cutN ds.length k)) o x K
  | .slHi o x _ _, ks, Γ, K => ev o ks Γ fun o => ev x ks Γ fun x => sliD (fun ds k => ds.take (cutN ds.length k)) o x K
  | .slRev o x _ _, ks, Γ, K => ev o ks Γ fun o => ev x ks Γ fun x => revD o x K
  | .lst es _, ks, Γ, K => evL es ks Γ fun ds => ds.length < 100000 ∧ K (.list ds)
  | .call i _ es _, ks, Γ, K => gB (glbC ks i) <| (match Φ i with
    | some φ => evL es ks Γ fun ds => φ ds K
    | none => False)
  | .meth o i q a p, ks, Γ, K => gB (Nat.beq i 66 && (noCd o && (q.endLine == p.line))) <| ev o ks Γ fun o => lisD o fun ds => ev a ks Γ fun x => idxD (.list ds) x K
  | .lc e (.cl i _ it fs rest) ksC _, ks, Γ, K => gB (ndK ksC && okC ks Γ ksC) <| evI it ks Γ fun ds => ∃ ys, tnB (evF fs (relab ksC)) (evR rest ksC fun Γ ys => ev e (relab ksC) Γ fun d => ys = [d]) ksC i (innG ksC Γ) ds ys ∧ ys.length < 100000 ∧ K (.list ys)
  | _, _, _, _ => False
noncomputable def evT : Dx → List (Nat × NameKind) → Gm → (Bool → Prop) → Prop
  | .not a _, ks, Γ, K => evT a ks Γ fun b => K (!b)
  | .con .And a b _, ks, Γ, K => evT a ks Γ fun x => (x = true → evT b ks Γ K) ∧ (x = false → K false)
  | .con .Or a b _, ks, Γ, K => evT a ks Γ fun x => (x = false → evT b ks Γ K) ∧ (x = true → K true)
  | .cmp a op b _, ks, Γ, K => gB (!behindInMarks op (dE b)) <| ev a ks Γ fun x => ev b ks Γ fun y => cmpD op x y fun d => trD d K
  | .nm i _, _, Γ, K => (match Γ.lookup i with
    | some d => trD d K
    | none => False)
  | .sub o x _, ks, Γ, K => ev o ks Γ fun o => ev x ks Γ fun x => subD o x fun d => trD d K
  | .call i _ es _, ks, Γ, K => gB (glbC ks i) <| (match Φ i with
    | some φ => evL es ks Γ fun ds => φ ds fun d => trD d K
    | none => False)
  | _, _, _, _ => False
noncomputable def evL : Dx → List (Nat × NameKind) → Gm → (List Dt → Prop) → Prop
  | .nil, _, _, K => K []
  | .cons a b, ks, Γ, K => ev a ks Γ fun x => evL b ks Γ fun ds => K (x :: ds)
  | _, _, _, _ => False
noncomputable def evI : Dx → List (Nat × NameKind) → Gm → (List Dt → Prop) → Prop
  | .nm i _, _, Γ, K => (match Γ.lookup i with
    | some d => lisD d K
    | none => False)
  | .call i _ es _, ks, Γ, K => gB (glbC ks i && Nat.beq i 117) <| evL es ks Γ fun ds => rngD ds K
  | .bin a op b _, ks, Γ, K => ev a ks Γ fun x => ev b ks Γ fun y => binD op x y fun d => lisD d K
  | _, _, _, _ => False
noncomputable def evF : Dx → List (Nat × NameKind) → Gm → (Bool → Prop) → Prop
  | .nil, _, _, K => K true
  | .cons a .nil, ks, Γ, K => evT a ks Γ K
  | _, _, _, _ => False
noncomputable def evR : Dx → List (Nat × NameKind) → (Gm → List Dt → Prop) → Gm → List Dt → Prop
  | .nil, _, inner, Γ, ys => inner Γ ys
  | .cl i _ it fs rest, ksC, inner, Γ, ys => evI it (relab ksC) Γ fun ds => tnB (evF fs (relab ksC)) (evR rest ksC inner) ksC i Γ ds ys
  | _, _, _, _, _ => False
end
end
end Mine

namespace Mine
theorem Dns.nil {τ : Sto} {vs : List Value} (h : Dns τ vs []) : vs = [] := by
  cases vs with
  | nil => rfl
  | cons v ws => exact h.elim
theorem Dns.uncons {τ : Sto} {vs : List Value} {d : Dt} {ds : List Dt} (h : Dns τ vs (d :: ds)) : ∃ v ws, vs = v :: ws ∧ Dn τ v d ∧ Dns τ ws ds := by
  cases vs with
  | nil => exact h.elim
  | cons v ws => exact ⟨v, ws, rfl, h⟩
theorem Dns.one {τ : Sto} {vs : List Value} {d : Dt} (h : Dns τ vs [d]) : ∃ v, vs = [v] ∧ Dn τ v d := by
  obtain ⟨v, ws, rfl, h1, h2⟩ := h.uncons
  exact ⟨v, by rw [h2.nil], h1⟩
theorem Dns.two {τ : Sto} {vs : List Value} {d e : Dt} (h : Dns τ vs [d, e]) : ∃ v w, vs = [v, w] ∧ Dn τ v d ∧ Dn τ w e := by
  obtain ⟨v, ws, rfl, h1, h2⟩ := h.uncons
  obtain ⟨w, rfl, h3⟩ := h2.one
  exact ⟨v, w, rfl, h1, h3⟩
theorem Dns.three {τ : Sto} {vs : List Value} {d e f : Dt} (h : Dns τ vs [d, e, f]) : ∃ u v w, vs = [u, v, w] ∧ Dn τ u d ∧ Dn τ v e ∧ Dn τ w f := by
  obtain ⟨v, ws, rfl, h1, h2⟩ := h.uncons
  obtain ⟨u, w, rfl, h3⟩ := h2.two
  exact ⟨v, u, w, rfl, h1, h3⟩
theorem put_look {l : List (Nat × Value)} {k j : Nat} {v : Value} : (put l k v).lookup j = if j = k then some v else l.lookup j := by
  induction l with
  | nil =>
    by_cases q : j = k
    · subst q; simp [put]
    · simp [put, List.lookup_cons, beq_eq_false_iff_ne.mpr q, q]
  | cons p r ih =>
    obtain ⟨k', v'⟩ := p
    unfold put
    by_cases z : k' = k
    · subst z
      rw [Nat.beq_refl, cond_true, List.lookup_cons, List.lookup_cons]
      by_cases q : j = k'
      · subst q; simp
      · rw [beq_eq_false_iff_ne.mpr q, if_neg q]
    · have zb : Nat.beq k' k = false := by cases e : Nat.beq k' k with | false => rfl | true => exact absurd (Nat.eq_of_beq_eq_true e) z
      rw [zb, cond_false, List.lookup_cons, List.lookup_cons, ih]
      by_cases q : j = k'
      · subst q; simp [z]
      · rw [beq_eq_false_iff_ne.mpr q]
theorem lookup_put_self {l : List (Nat × Value)} {k : Nat} {v : Value} : (put l k v).lookup k = some v := by rw [put_look, if_pos rfl]
theorem lookup_put_ne {l : List (Nat × Value)} {k j : Nat} {v : Value} (h : j ≠ k) : (put l k v).lookup j = l.lookup j := by rw [put_look, if_neg h]
noncomputable def Kc (τ τ' : Sto) : Prop := ∀ a i, τ a = some i → Nat.beq i.tag 8 = false → τ' a = some i
theorem Keep2.frz {τ τ' : Sto} (h : Keep2 τ τ') : Frz τ τ' := fun a vs e => h a _ e rfl
theorem Kc.frz {τ τ' : Sto} (h : Kc τ τ') : Frz τ τ' := fun a vs e => h a _ e rfl
theorem Keep2.up {τ : Sto} {a : Addr} {i : It} (h : τ a = none) : Keep2 τ (upd τ a i) := Keep2.fresh h
noncomputable def NmAt (ks : List (Nat × NameKind)) (cs : List (Nat × Addr)) (τ : Sto) (l : List (Nat × Value)) (i : Nat) (v : Value) : Prop :=
  (ks.lookup i = some .local ∧ l.lookup i = some v) ∨ (ks.lookup i = some .cell ∧ ∃ a, cs.lookup i = some a ∧ τ a = some (.ob 8 (cellOb (some v))))
theorem NmAt.mono {ks : List (Nat × NameKind)} {cs : List (Nat × Addr)} {τ τ' : Sto} {l : List (Nat × Value)} {i : Nat} {v : Value} (k : Keep2 τ τ') : NmAt ks cs τ l i v → NmAt ks cs τ' l i v :=
  fun h => h.imp id fun ⟨h1, a, h2, h3⟩ => ⟨h1, a, h2, k _ _ h3 rfl⟩
noncomputable def LvA (A : Around) (τ : Sto) (L : Addr) : Prop := ∃ fr, A.frames = some fr ∧ ∀ e ∈ fr, e.scope.kind = .function ∧ ∃ f, e.frame = some f ∧ (f = L ∨ ∃ l, τ f = some (.fr l))
theorem LvA.mono {A : Around} {τ τ' : Sto} {L : Addr} (h : LvA A τ L) (k : Keep2 τ τ') : LvA A τ' L := by
  obtain ⟨fr, h1, h2⟩ := h
  refine ⟨fr, h1, fun e he => ?_⟩
  obtain ⟨h3, f, h4, h5⟩ := h2 e he
  exact ⟨h3, f, h4, h5.imp id fun ⟨l, h⟩ => ⟨l, k _ _ h rfl⟩⟩
structure DS (A : Around) (L : Addr) (ks : List (Nat × NameKind)) (cs : List (Nat × Addr)) (own : List Nat) (β : Sto) (Γ : Gm) (τ : Sto) (l : List (Nat × Value)) : Prop where
  lv : LvA A β L
  up : Keep2 β τ
  sat : ∀ i d, Γ.lookup i = some d → ∃ v, Dn τ v d ∧ NmAt ks cs τ l i v
  ow : ∀ i ∈ own, ks.lookup i = some .cell ∧ ∃ a ov, cs.lookup i = some a ∧ β a = none ∧ τ a = some (.ob 8 (cellOb ov))
  inj : ∀ i j a, cs.lookup i = some a → cs.lookup j = some a → i = j
section
variable {A : Around} {L : Addr} {ks : List (Nat × NameKind)} {cs : List (Nat × Addr)} {own : List Nat} {β τ τ' : Sto} {Γ Γ' : Gm} {l l' : List (Nat × Value)}
theorem DS.mono (D : DS A L ks cs own β Γ τ l) (k : Keep2 τ τ') : DS A L ks cs own β Γ τ' l :=
  ⟨D.lv, D.up.trans k, fun i d e => let ⟨v, h1, h2⟩ := D.sat i d e; ⟨v, h1.mono k.frz, h2.mono k⟩, fun i hi => let ⟨h1, a, ov, h2, h3, h4⟩ := D.ow i hi; ⟨h1, a, ov, h2, h3, k _ _ h4 rfl⟩, D.inj⟩
theorem DS.sub (D : DS A L ks cs own β Γ τ l) (k : ∀ i d, Γ'.lookup i = some d → Γ.lookup i = some d) : DS A L ks cs own β Γ' τ l := ⟨D.lv, D.up, fun i d e => D.sat i d (k i d e), D.ow, D.inj⟩
theorem DS.tl {i : Nat} {d : Dt} (D : DS A L ks cs own β ((i, d) :: Γ) τ l) (h : Γ.lookup i = none) : DS A L ks cs own β Γ τ l := D.sub fun j e he => by
  rw [List.lookup_cons]
  by_cases q : j = i
  · subst q; rw [h] at he; cases he
  · rw [beq_eq_false_iff_ne.mpr q]; exact he
theorem DS.itIn {it : Addr} {i : It} (D : DS A L ks cs own β Γ τ l) (h : τ it = none) (hi : i.own = false) : DS A L ks cs own (upd β it i) Γ (upd τ it i) l := by
  have k : Keep2 τ (upd τ it i) := Keep2.up h
  refine ⟨?_, fun a j e t => ?_, fun i d e => let ⟨v, h1, h2⟩ := D.sat i d e; ⟨v, h1.mono k.frz, h2.mono k⟩, fun i hi => ?_, D.inj⟩
  · obtain ⟨fr, h1, h2⟩ := D.lv
    refine ⟨fr, h1, fun e he => ?_⟩
    obtain ⟨h3, f, h4, h5⟩ := h2 e he
    refine ⟨h3, f, h4, h5.imp id fun ⟨l, q⟩ => ⟨l, ?_⟩⟩
    rw [upd_ne (ne_of_none (D.up _ _ q rfl) h)]; exact q
  · by_cases q : a = it
    · subst q; rw [upd_self] at e ⊢; exact e
    · rw [upd_ne q] at e ⊢; exact D.up _ _ e t
  · obtain ⟨h1, a, ov, h2, h3, h4⟩ := D.ow i hi
    have : a ≠ it := ne_of_none h4 h
    exact ⟨h1, a, ov, h2, (upd_ne this).trans h3, (upd_ne this).trans h4⟩
theorem frz_del {it : Addr} {i : It} (h : τ it = some i) (hi : i.tag = 1) : Frz τ (del τ it) := fun a vs e => (del_ne (ne_of_it e h fun q => by subst q; cases hi)).trans e
theorem DS.itOut {it : Addr} {i : It} {τ0 : Sto} (D : DS A L ks cs own (upd β it i) Γ τ l) (h : Keep2 β τ0) (h0 : τ0 it = none) (hi : i.tag = 1) : DS A L ks cs own β Γ (del τ it) l := by
  have ho : i.own = false := by unfold It.own; rw [hi]; rfl
  have eit : τ it = some i := D.up _ _ upd_self ho
  have hk : ∀ {a j}, τ a = some j → j.tag ≠ 1 → del τ it a = some j := fun e t => (del_ne (ne_of_it e eit fun q => by subst q; exact t hi)).trans e
  refine ⟨?_, fun a j e t => ?_, fun i d e => ?_, fun i hi => ?_, D.inj⟩
  · obtain ⟨fr, h1, h2⟩ := D.lv
    refine ⟨fr, h1, fun e he => ?_⟩
    obtain ⟨h3, f, h4, h5⟩ := h2 e he
    refine ⟨h3, f, h4, h5.imp id fun ⟨l, q⟩ => ⟨l, ?_⟩⟩
    by_cases z : f = it
    · subst z; rw [upd_self] at q; cases q; cases hi
    · rwa [upd_ne z] at q
  · have hne : a ≠ it := fun q => by subst q; rw [h _ _ e t] at h0; cases h0
    exact (del_ne hne).trans (D.up _ _ ((upd_ne hne).trans e) t)
  · obtain ⟨v, h1, h2⟩ := D.sat i d e
    refine ⟨v, h1.mono (frz_del eit hi), h2.imp id fun ⟨h1, a, h2, h3⟩ => ⟨h1, a, h2, hk h3 nofun⟩⟩
  · obtain ⟨h1, a, ov, h2, h3, h4⟩ := D.ow i hi
    have hne : a ≠ it := fun q => by subst q; rw [upd_self] at h3; cases h3
    exact ⟨h1, a, ov, h2, (upd_ne hne).symm.trans h3, hk h4 nofun⟩
end
section
variable {c : Cx nm prg KK gl bl} {A : Around} {L : Addr} {ks : List (Nat × NameKind)} {cs : List (Nat × Addr)} {n : Nat} {W : Wk c ks cs n} {own : List Nat} {β τ τ' : Sto} {Γ Γ' : Gm} {l l' : List (Nat × Value)} {s : Shared} {E : Value → Shared → Prop}
theorem dStoG {i : Nat} {v : Value} {Q : Unit → Shared → Prop} (hi : ks.lookup i = some .local ∨ i ∈ own) (D : DS W.A W.L ks cs own β Γ τ l) (R : Rl W τ l s) (hΓ : ∀ j d, Γ'.lookup j = some d → (j ≠ i ∧ Γ.lookup j = some d) ∨ (j = i ∧ Dn τ v d))
    (h : ∀ τ' l' s', DS W.A W.L ks cs own β Γ' τ' l' → Kc τ τ' → NmAt ks cs τ' l' i v → (∀ j u, j ≠ i → NmAt ks cs τ l j u → NmAt ks cs τ' l' j u) → Rl W τ' l' s' → Q () s') : wpAny c.M W.A (storeName W.env (nm i) v) Q E s := by
  rcases hi with hi | hi
  · have keep : ∀ j u, j ≠ i → NmAt ks cs τ l j u → NmAt ks cs τ (put l i v) j u := fun j u z h => h.imp (fun ⟨g1, g2⟩ => ⟨g1, (lookup_put_ne z).trans g2⟩) id
    have here : NmAt ks cs τ (put l i v) i v := .inl ⟨hi, lookup_put_self⟩
    refine stL W.V R hi fun s' R' => h τ _ s' ⟨D.lv, D.up, fun j e he => ?_, D.ow, D.inj⟩ (fun a i e _ => e) here keep R'
    rcases hΓ j e he with ⟨z, he⟩ | ⟨rfl, hv⟩
    · obtain ⟨u, h1, h2⟩ := D.sat j e he
      exact ⟨u, h1, keep j u z h2⟩
    · exact ⟨v, hv, here⟩
  · obtain ⟨h1, a, ov, h2, h3, h4⟩ := D.ow i hi
    have k : ∀ {b j}, τ b = some j → b ≠ a → upd τ a (.ob 8 (cellOb (some v))) b = some j := fun e z => (upd_ne z).trans e
    have kl : Frz τ (upd τ a (.ob 8 (cellOb (some v)))) := fun b vs e => k e (ne_of_it e h4 nofun)
    have keep : ∀ j u, j ≠ i → NmAt ks cs τ l j u → NmAt ks cs (upd τ a (.ob 8 (cellOb (some v)))) l j u := fun j u z h => h.imp id fun ⟨g3, b, g4, g5⟩ => ⟨g3, b, g4, k g5 fun y => z (D.inj _ _ _ (y ▸ g4) h2)⟩
    have here : NmAt ks cs (upd τ a (.ob 8 (cellOb (some v)))) l i v := .inr ⟨h1, a, h2, upd_self⟩
    refine stC W.V R h1 h2 h4 fun s' R' => h _ _ s' ⟨?_, fun b j e t => ?_, fun j e he => ?_, fun j hj => ?_, D.inj⟩ (fun b j e t => k e (fun z => ?_)) here keep R'
    · exact D.lv
    · exact k (D.up _ _ e t) fun z => by subst z; rw [h3] at e; cases e
    · rcases hΓ j e he with ⟨z, he⟩ | ⟨rfl, hv⟩
      · obtain ⟨u, g1, g2⟩ := D.sat j e he
        exact ⟨u, g1.mono kl, keep j u z g2⟩
      · exact ⟨v, hv.mono kl, here⟩
    · obtain ⟨g1, b, ov', g2, g3, g4⟩ := D.ow j hj
      by_cases z : b = a
      · subst z; exact ⟨g1, b, _, g2, g3, upd_self⟩
      · exact ⟨g1, b, ov', g2, g3, k g4 z⟩
    · subst z; rw [h4] at e; cases e; cases t
theorem cons_look {i : Nat} {d : Dt} {v : Value} (hv : Dn τ v d) : ∀ j e, ((i, d) :: Γ).lookup j = some e → (j ≠ i ∧ Γ.lookup j = some e) ∨ (j = i ∧ Dn τ v e) := fun j e he => by
  rw [List.lookup_cons] at he
  by_cases z : j = i
  · subst z
    rw [beq_self_eq_true] at he
    cases he
    exact .inr ⟨rfl, hv⟩
  · rw [beq_eq_false_iff_ne.mpr z] at he
    exact .inl ⟨z, he⟩
theorem dSto {i : Nat} {v : Value} {d : Dt} {Q : Unit → Shared → Prop} (hi : ks.lookup i = some .local ∨ i ∈ own) (D : DS W.A W.L ks cs own β Γ τ l) (R : Rl W τ l s) (hv : Dn τ v d)
    (h : ∀ τ' l' s', DS W.A W.L ks cs own β ((i, d) :: Γ) τ' l' → Kc τ τ' → (∀ j u, j ≠ i → NmAt ks cs τ l j u → NmAt ks cs τ' l' j u) → Rl W τ' l' s' → Q () s') : wpAny c.M W.A (storeName W.env (nm i) v) Q E s :=
  dStoG hi D R (cons_look hv) fun τ' l' s' D' k _ keep R' => h τ' l' s' D' k keep R'
theorem dAss {i : Nat} {q : Pos} {v : Value} {d : Dt} {Q : Unit → Shared → Prop} (hi : ks.lookup i = some .local ∨ i ∈ own) (D : DS W.A W.L ks cs own β Γ τ l) (R : Rl W τ l s) (hv : Dn τ v d)
    (h : ∀ τ' l' s', DS W.A W.L ks cs own β ((i, d) :: Γ) τ' l' → Kc τ τ' → Rl W τ' l' s' → Q () s') : wpAny c.M W.A (assign (.Name (nm i) q) W.env v) Q E s :=
  wpAny_assign_Name (dSto hi D R hv fun τ' l' s' D' k _ R' => h τ' l' s' D' k R')
theorem nm_ok {i : Nat} {p : Pos} {v : Value} {Q : Value → Shared → Prop} (R : Rl W τ l s) (h : NmAt ks cs τ l i v) (q : Q v s) : wpAny c.M W.A (eval (.Name (nm i) p) W.env) Q E s := by
  rcases h with ⟨h1, h2⟩ | ⟨h1, a, h2, h3⟩
  · exact ldL W.V R h1 h2 q
  · exact ldC W.V R h1 h2 h3 q
noncomputable def FnOk (c : Cx nm prg KK gl bl) (n : Nat) (fv : Value) (φ : List Dt → (Dt → Prop) → Prop) : Prop :=
  ∀ {ds K A L τ l s vs Q E}, φ ds K → Ok n A → LvA A τ L → Rel c τ L l s → Dns τ vs ds → (∀ d v τ' s', K d → Keep2 τ τ' → Dn τ' v d → Rel c τ' L l s' → Q v s') → wpAny c.M A (call fv vs) Q E s
noncomputable def PhiOk (c : Cx nm prg KK gl bl) (Φ : Nat → Option (List Dt → (Dt → Prop) → Prop)) (n : Nat) : Prop := ∀ i φ, Φ i = some φ → ∃ fv, (gl i = some fv ∨ (gl i = none ∧ bl i = some fv)) ∧ FOk c fv ∧ FnOk c n fv φ
theorem fine_dE (e : Dx) (es : List Expr) (env : Env) : starEach (dE e :: es) env = (false, eval (dE e) env) :: starEach es env := by
  cases e <;> rfl
theorem star_dL (p : Pos) (env : Env) : ∀ es : Dx, (backTo p (starEach (dL es) env)).any (·.1) = false
  | .cons a b => by
    show (backTo p (starEach (dE a :: dL b) env)).any (·.1) = false
    rw [fine_dE]
    exact star_dL p env b
  | .nil | .nm .. | .int .. | .non .. | .bool .. | .bin .. | .neg .. | .cmp .. | .not .. | .con .. | .sub .. | .slLo .. | .slHi .. | .slRev .. | .lst .. | .call .. | .meth .. | .lc .. | .cl .. => rfl
theorem fold_dE (e : Dx) (env : Env) (x : Value) : foldedSetIterable (dE e) env x = pure x := by cases e <;> rfl
end
end Mine

namespace Mine
section
variable {c : Cx nm prg KK gl bl} {A : Around} {L : Addr} {ks : List (Nat × NameKind)} {cs : List (Nat × Addr)} {n : Nat} {W : Wk c ks cs n} {own : List Nat} {β τ τ' : Sto} {Γ Γ' : Gm} {l l' : List (Nat × Value)} {s : Shared} {E : Value → Shared → Prop} {x y : Dt} {v w : Value} {K : Dt → Prop} {Q : Value → Shared → Prop}
noncomputable abbrev Kn (W : Wk c ks cs n) (τ : Sto) (l : List (Nat × Value)) (K : Dt → Prop) (Q : Value → Shared → Prop) : Prop := ∀ d v τ' s', K d → Keep2 τ τ' → Dn τ' v d → Rl W τ' l s' → Q v s'
theorem Dn.lst (h : Dn τ v (.list ds)) : ∃ a vs, v = .ref a ∧ τ a = some (.ls 0 vs) ∧ Dns τ vs ds := h
theorem Kn.new {vs : List Value} {ds : List Dt} (q : Kn W τ l K Q) (k : K (.list ds)) (h : Dns τ vs ds) : ∀ a s', τ a = none → a ≠ W.L → Rel c (upd τ a (.ls 0 vs)) W.L l s' → Q (.ref a) s' := fun a s' n1 _ R =>
  q _ _ _ s' k (Keep2.up n1) ⟨a, vs, rfl, upd_self, h.mono (Keep2.up (i := .ls 0 vs) n1).frz⟩ R
theorem Kn.at (q : Kn W τ l K Q) {d : Dt} (k : K d) (h : ∀ τ, Dn τ v d) {s' : Shared} (R : Rl W τ l s') : Q v s' := q d v τ s' k Keep2.refl (h τ) R
theorem binD_ok {op : Operator} (h : binD op x y K) (hv : Dn τ v x) (hw : Dn τ w y) (R : Rl W τ l s) (q : Kn W τ l K Q) : wpAny c.M W.A (binaryOp op v w) Q E s := by
  cases x with
  | int a =>
    cases y with
    | int b =>
      obtain ⟨t, rfl⟩ := hv
      obtain ⟨u, rfl⟩ := hw
      have g : ∀ {k : Int}, K (.int k) → ∀ t s', Rel c τ W.L l s' → Q (.int k t) s' := fun k t s' R => q.at (v := .int _ t) k (fun _ => ⟨t, rfl⟩) R
      cases op with
      | Add => exact xAdd R (g h)
      | Sub => exact xSub R (g h)
      | Mod => exact xMod R h.1 (g h.2)
      | FloorDiv => exact xDiv R h.1.1 h.1.2 (g h.2)
      | _ => exact h.elim
    | _ => exact h.elim
  | list a =>
    cases y with
    | list b =>
      obtain ⟨p, vs, rfl, h1, h2⟩ := hv.lst
      obtain ⟨r, ws, rfl, h3, h4⟩ := hw.lst
      cases op with
      | Add => exact xAddL 0 R h1 h3 (by rw [h2.length, h4.length]; exact h.1) (q.new h.2 (h2.append h4))
      | _ => exact h.elim
    | _ => exact h.elim
  | _ => exact h.elim
theorem negD_ok (h : negD x K) (hv : Dn τ v x) (R : Rl W τ l s) (q : Kn W τ l K Q) : wpAny c.M W.A (unaryOp .USub v) Q E s := by
  cases x with
  | int a =>
    obtain ⟨t, rfl⟩ := hv
    exact xNeg R fun t s' R => q.at (v := .int _ t) h (fun _ => ⟨t, rfl⟩) R
  | _ => exact h.elim
theorem isN_ok (hv : Dn τ v x) : (v == .none) = x.isN := by
  cases x with
  | int a => obtain ⟨t, rfl⟩ := hv; rfl
  | bool b => cases hv; rfl
  | none => cases hv; rfl
  | list ds => obtain ⟨a, vs, rfl, _⟩ := hv.lst; rfl
theorem Dt.pys_any (ds : List Dt) (x : Dt) : (Dt.pys ds).any (fun y => PyData.eqv y x.py) = ds.any fun d => d.eqB x := by
  induction ds with
  | nil => rfl
  | cons d ds ih => rw [List.any_cons, ← ih]; rfl
theorem Dt.canLay (x : Dt) : x.py.canLay0 = true := (Dt.lay x).1
theorem inD_ok {b : Bool} (hn : 5 ≤ n) (h : inD b x y K) (hv : Dn τ v x) (hw : Dn τ w y) (R : Rl W τ l s) (q : Kn W τ l K Q) : wpAny c.M W.A (compareOp (if b then .NotIn else .In) v w) Q E s := by
  cases y with
  | list ds =>
    obtain ⟨⟨h1, h2⟩, h⟩ := h
    obtain ⟨as, ra⟩ := hv.reads R
    obtain ⟨bs, rb⟩ := hw.reads R
    have hu : W.A.units + 1 + min (PyData.depthAll (Dt.pys ds)) x.py.depth < cLine := by
      have := (W.H.le hn).2.2
      have := (Dt.lay x).2
      have := Nat.min_le_right (PyData.depthAll (Dt.pys ds)) x.py.depth
      show _ < 9900
      omega
    have hc : PyData.canLayAll0 (Dt.pys ds) = true := (Dt.lays ds).1
    cases b with
    | false => exact PySem.SeqAt.in_list_reads rb ra hc x.canLay hu (by rw [Dt.pys_any]; exact q.at (v := .bool _) (d := .bool _) (by simpa using h) (fun _ => rfl) R)
    | true => exact PySem.SeqAt.notIn_list_reads rb ra hc x.canLay hu (by rw [Dt.pys_any]; exact q.at (v := .bool _) (d := .bool _) (by simpa using h) (fun _ => rfl) R)
  | _ => exact h.elim
theorem cmpD_ok {op : CmpOp} (hn : 5 ≤ n) (h : cmpD op x y K) (hv : Dn τ v x) (hw : Dn τ w y) (R : Rl W τ l s) (q : Kn W τ l K Q) : wpAny c.M W.A (compareOp op v w) Q E s := by
  cases op with
  | Eq => exact xEqD (n := 0) (W.H.le hn) R hv hw h.1.1 h.1.2 (q.at (v := .bool _) h.2 (fun _ => rfl) R)
  | NotEq => exact xNeD (n := 0) (W.H.le hn) R hv hw h.1.1 h.1.2 (q.at (v := .bool _) h.2 (fun _ => rfl) R)
  | Is =>
    obtain ⟨rfl, h⟩ := h
    cases hw
    exact is_none_gen (by rw [isN_ok hv]; exact q.at (v := .bool _) (d := .bool _) h (fun _ => rfl) R)
  | In => exact inD_ok (b := false) hn h hv hw R q
  | NotIn => exact inD_ok (b := true) hn h hv hw R q
  | Lt =>
    cases x with
    | int a =>
      cases y with
      | int b =>
        obtain ⟨t, rfl⟩ := hv
        obtain ⟨u, rfl⟩ := hw
        exact PyProof.Rows.lt_int (q.at (v := .bool _) h (fun _ => rfl) R)
      | _ => exact h.elim
    | _ => exact h.elim
  | _ => exact h.elim
theorem subD_ok {o : Dx} {e : Dx} (h : subD x y K) (hv : Dn τ v x) (hw : Dn τ w y) (R : Rl W τ l s) (q : Kn W τ l K Q) : wpAny c.M W.A (subscriptTail (dE o) (dE e) v w) Q E s := by
  cases x with
  | list ds =>
    cases y with
    | int k =>
      obtain ⟨a, vs, rfl, h1, h2⟩ := hv.lst
      obtain ⟨u, rfl⟩ := hw
      obtain ⟨j, d, rfl, hj, hd, k⟩ := h
      obtain ⟨z, hz, hz'⟩ := h2.get j d hd
      exact xItem R h1 rfl hj hz (q d z τ s k Keep2.refl hz' R) (by cases e <;> (with_unfolding_all rfl))
    | _ => exact h.elim
  | _ => exact h.elim
theorem clip_cut (m : Nat) (k : Int) : clipAt m k = min (cutN m k) m := by
  cases k with
  | ofNat a => exact clipAt_nat m a
  | negSucc a =>
    have e : cutN m (Int.negSucc a) = m - (a + 1) := by unfold cutN; rw [if_pos (Int.negSucc_lt_zero a)]; exact Int.toNat_sub m (a + 1)
    rw [e, Nat.min_eq_left (Nat.sub_le ..)]
    exact clipAt_neg m (a + 1) (Nat.succ_pos a)
theorem pick_lo (vs : List Value) (k : Int) : (slicePick vs.toArray (some k) none none).toList = vs.drop (cutN vs.length k) := by
  rw [slicePick_plain]
  simp only [Option.elim, List.size_toArray, clip_cut]
  rcases Nat.le_total (cutN vs.length k) vs.length with h | h
  · rw [Nat.min_eq_left h]; simp [List.take_of_length_le]
  · rw [Nat.min_eq_right h, List.drop_of_length_le h]; simp
theorem pick_hi (vs : List Value) (k : Int) : (slicePick vs.toArray none (some k) none).toList = vs.take (cutN vs.length k) := by
  rw [slicePick_plain]
  simp only [Option.elim, List.size_toArray, clip_cut, List.drop_zero, Nat.sub_zero]
  rcases Nat.le_total (cutN vs.length k) vs.length with h | h
  · rw [Nat.min_eq_left h]
  · rw [Nat.min_eq_right h, List.take_of_length_le h, List.take_of_length_le (Nat.le_refl _)]
theorem Dns.reverse {vs : List Value} {ds : List Dt} (h : Dns τ vs ds) : Dns τ vs.reverse ds.reverse := by
  induction vs generalizing ds with
  | nil => cases ds with
    | nil => trivial
    | cons => exact h.elim
  | cons v vs ih => cases ds with
    | nil => exact h.elim
    | cons d ds => rw [List.reverse_cons, List.reverse_cons]; exact (ih h.2).append ⟨h.1, trivial⟩
theorem sli_ok {f : List Dt → Int → List Dt} {lo hi : Int → Option Int} {vl vu : Value} (h : sliD f x y K) (hv : Dn τ v x) (hw : Dn τ w y) (R : Rl W τ l s) (q : Kn W τ l K Q)
    (h1 : ∀ {k t}, w = .int k t → IsPart vl (lo k)) (h2 : ∀ {k t}, w = .int k t → IsPart vu (hi k))
    (hf : ∀ {vs ds k}, Dns τ vs ds → Dns τ (slicePick vs.toArray (lo k) (hi k) none).toList (f ds k)) :
    ∃ τ l a t vs lo hi st, v = .ref a ∧ Rel c τ W.L l s ∧ τ a = some (.ls t vs) ∧ vs.length < 100000 ∧ IsPart vl lo ∧ IsPart vu hi ∧ IsPart .none st ∧ st ≠ some 0 ∧ ∀ b s', τ b = none → b ≠ W.L → Rel c (upd τ b (.ls 0 (slicePick vs.toArray lo hi st).toList)) W.L l s' → Q (.ref b) s' := by
  cases x with
  | list ds =>
    cases y with
    | int k =>
      obtain ⟨a, vs, rfl, g1, g2⟩ := hv.lst
      obtain ⟨u, rfl⟩ := hw
      exact ⟨τ, l, a, 0, vs, _, _, _, rfl, R, g1, g2.length ▸ h.1, h1 rfl, h2 rfl, .none, nofun, q.new h.2 (hf g2)⟩
    | _ => exact h.elim
  | _ => exact h.elim
theorem rev_ok (h : revD x y K) (hv : Dn τ v x) (hw : Dn τ w y) (R : Rl W τ l s) (q : Kn W τ l K Q) :
    ∃ τ l a t vs lo hi st, v = .ref a ∧ Rel c τ W.L l s ∧ τ a = some (.ls t vs) ∧ vs.length < 100000 ∧ IsPart .none lo ∧ IsPart .none hi ∧ IsPart w st ∧ st ≠ some 0 ∧ ∀ b s', τ b = none → b ≠ W.L → Rel c (upd τ b (.ls 0 (slicePick vs.toArray lo hi st).toList)) W.L l s' → Q (.ref b) s' := by
  cases x with
  | list ds =>
    obtain ⟨rfl, h1, h2⟩ := h
    obtain ⟨a, vs, rfl, g1, g2⟩ := hv.lst
    obtain ⟨u, rfl⟩ := hw
    refine ⟨τ, l, a, 0, vs, none, none, some (-1), rfl, R, g1, g2.length ▸ h1, .none, .none, .int _ _, by decide, q.new h2 ?_⟩
    rw [krv_pick]
    simpa using g2.reverse
  | _ => exact h.elim
theorem idx_ok (hn : 5 ≤ n) (h : idxD x y K) (hv : Dn τ v x) (hw : Dn τ w y) (R : Rl W τ l s) (q : Kn W τ l K Q) : (∃ a t vs, v = .ref a ∧ τ a = some (.ls t vs)) ∧ wpAny c.M W.A (call (.builtin "list.index") [v, w]) Q E s := by
  cases x with
  | list ds =>
    cases y with
    | int k =>
      obtain ⟨a, vs, rfl, g1, g2⟩ := hv.lst
      obtain ⟨t, rfl⟩ := hw
      obtain ⟨ns, rfl, hl, hk, h⟩ := h
      refine ⟨⟨a, _, _, rfl, g1⟩, ?_⟩
      have hi : IntsAre vs ns := Dns.ints.mp g2
      obtain ⟨m, ho⟩ := R.getL g1
      have hlen := hi.length
      have hj : ns.idxOf k < ns.length := List.idxOf_lt_length_iff.mpr hk
      refine call_meets PySem.F.slot_list_index ⟨_, ho, rfl⟩ PySem.F.entry_list_index (PySem.F.args_list_index_2 _ _)
        (PySem.SeqAt.list_indexAt a vs.toArray m none #[] (.int k t) (isInt k) (ns.idxOf k) (by simpa [hlen] using hj) (by omega) ?_ ?_) ⟨ho, fun y hy => (eq_isInt k t hi y (by simpa using hy)).at _ _, q.at (v := .int _ _) h (fun _ => ⟨_, rfl⟩) (R.toks _)⟩
      · show isInt k vs[ns.idxOf k] = true
        rw [isInt_at k hi _ (by omega) hj]
        simpa using List.getElem_idxOf hj
      · intro j hjs hlt
        show isInt k vs[j] = false
        rw [isInt_at k hi j (by simpa using hjs) (by omega)]
        exact ne_of_lt_idxOf hlt _
    | _ => exact h.elim
  | _ => exact h.elim
theorem trD_ok {K : Bool → Prop} {Q : Bool → Shared → Prop} (h : trD x K) (hv : Dn τ v x) (R : Rl W τ l s) (q : ∀ b s', K b → Rl W τ l s' → Q b s') : wpAny c.M W.A (truthy v) Q E s := by
  cases x with
  | bool b => cases hv; exact wpAny_truthy_bool (q b s h R)
  | list ds =>
    obtain ⟨a, vs, rfl, g1, g2⟩ := hv.lst
    have e : vs.isEmpty = ds.isEmpty := by
      cases vs <;> cases ds <;> first | rfl | exact g2.elim
    exact tList R g1 (g2.length ▸ h.1) fun s' R => q _ s' (e ▸ h.2) R
  | _ => exact h.elim
end
end Mine

namespace Mine
theorem tn2_len {R : Dt → List Dt → Prop} : ∀ {ds : List Dt} {yss : List (List Dt)}, Tn2 R ds yss → yss.length = ds.length
  | [], [], _ => rfl
  | d :: ds, y :: yss, h => by rw [List.length_cons, List.length_cons, tn2_len h.2]
theorem tn2_at {R : Dt → List Dt → Prop} : ∀ {ds : List Dt} {yss : List (List Dt)}, Tn2 R ds yss → ∀ (j : Nat) (d : Dt), ds[j]? = some d → ∃ ys, yss[j]? = some ys ∧ R d ys
  | d :: ds, y :: yss, h, 0, e, q => by cases q; exact ⟨y, rfl, h.1⟩
  | d :: ds, y :: yss, h, j + 1, e, q => tn2_at h.2 j e q
  | [], [], _, j, e, q => by simp at q
theorem flat_len {yss : List (List Dt)} (j : Nat) : (yss.take j).flatten.length ≤ yss.flatten.length := by
  have : yss.flatten = (yss.take j).flatten ++ (yss.drop j).flatten := by rw [← List.flatten_append, List.take_append_drop]
  rw [this, List.length_append]
  exact Nat.le_add_right _ _
structure CI (A : Around) (L : Addr) (ks : List (Nat × NameKind)) (cs : List (Nat × Addr)) (own : List Nat) (β : Sto) (acc : Addr) (Γ : Gm) (xs : List Dt) (τ : Sto) (l : List (Nat × Value)) : Prop where
  ds : DS A L ks cs own β Γ τ l
  na : β acc = none
  ac : ∃ vs, τ acc = some (.ls 1 vs) ∧ Dns τ vs xs
theorem lkup_loc {ks : List (Nat × NameKind)} {i : Nat} : ∀ {r : List (Nat × NameKind)}, r.lookup i = some .local → (relab r).lookup i = some .local
  | (j, k) :: r, h => by
    rw [List.lookup_cons] at h
    by_cases q : i = j
    · subst q; rw [beq_self_eq_true] at h; cases h
      show List.lookup i ((i, .local) :: relab r) = _
      rw [List.lookup_cons, beq_self_eq_true]
    · rw [beq_eq_false_iff_ne.mpr q] at h
      have ih := lkup_loc (ks := ks) h
      cases k <;> (show List.lookup i ((j, _) :: relab r) = _; rw [List.lookup_cons, beq_eq_false_iff_ne.mpr q]; exact ih)
theorem mem_cellNs {i : Nat} : ∀ {r : List (Nat × NameKind)}, r.lookup i = some .cell → i ∈ cellNs r
  | (j, k) :: r, h => by
    rw [List.lookup_cons] at h
    by_cases q : i = j
    · subst q; rw [beq_self_eq_true] at h; cases h; exact .head _
    · rw [beq_eq_false_iff_ne.mpr q] at h
      have ih := mem_cellNs h
      cases k <;> first | exact ih | exact .tail _ ih
theorem setC_ok {ksC : List (Nat × NameKind)} {i : Nat} (h : setC ksC i = true) : (relab ksC).lookup i = some .local ∨ i ∈ cellNs ksC := by
  unfold setC at h
  split at h
  · rename_i e; exact .inl (lkup_loc (ks := ksC) e)
  · rename_i e; exact .inr (mem_cellNs e)
  · cases h
section
variable {c : Cx nm prg KK gl bl} {ksC : List (Nat × NameKind)} {cs : List (Nat × Addr)} {n : Nat} {W : Wk c (relab ksC) cs n} {β τ τ' : Sto} {Γ Γ' : Gm} {l l' : List (Nat × Value)} {s : Shared} {E : Value → Shared → Prop}
theorem turnsGo (hn : 1 ≤ n) {gens : List Comprehension} {elt : Expr} {scope : Scope} {pos : Pos} {d i : Nat} {q : Pos} {itE : Expr} {fs : Dx} {acc : Addr} (hg : gens[d]? = some ⟨.Name (nm i) q, itE, dL fs, 0⟩) (ha : ∀ g', gens[d + 1]? = some g' → g'.is_async = 0)
    {F : Gm → (Bool → Prop) → Prop} {Rr : Gm → List Dt → Prop} {ds ys xs : List Dt}
    (hF : ∀ {Γ K β τ l s E Q}, F Γ K → DS W.A W.L (relab ksC) cs (cellNs ksC) β Γ τ l → Rl W τ l s → (∀ b τ' s', K b → Keep2 τ τ' → Rl W τ' l s' → Q b s') → wpAny c.M W.A (testsOf (dL fs) W.env) Q E s)
    (hR : ∀ {Γ zs xs β τ l s E}, Rr Γ zs → CI W.A W.L (relab ksC) cs (cellNs ksC) β acc Γ xs τ l → xs.length + zs.length < 100000 → Rl W τ l s → wpAny c.M W.A (emitAt elt gens scope pos d (.ref acc) W.env) (fun _ s' => ∃ τ' l', CI W.A W.L (relab ksC) cs (cellNs ksC) β acc Γ (xs ++ zs) τ' l' ∧ Rl W τ' l' s') E s)
    (T : tnB F Rr ksC i Γ ds ys) (hz : xs.length + ys.length < 100000)
    {itr : Addr} {P : Nat → Value → Prop} {S : Nat → It} {D : Sto → Prop} (Dr : Drv c itr ds.length P S D) (hP : ∀ j v, j < ds.length → P j v → ∃ d, ds[j]? = some d ∧ ∀ τ, Keep2 β τ → Dn τ v d) (hD : ∀ τ, Keep2 β τ → D τ) (hS : ∀ j, (S j).tag = 1)
    (C : CI W.A W.L (relab ksC) cs (cellNs ksC) β acc Γ xs τ l) (hit : τ itr = none) (R0 : Rl W (upd τ itr (S 0)) l s)
    {R' : Result → Shared → Prop} (fin : ∀ τ l s, CI W.A W.L (relab ksC) cs (cellNs ksC) β acc Γ (xs ++ ys) τ l → Rl W τ l s → R' (.ok .next) s) :
    codeAny c.M W.A (.compLoop (.ListComp elt gens scope pos) d (.ref itr) (.ref acc) W.env) R' s := by
  obtain ⟨⟨hset, hno⟩, yss, rfl, T⟩ := T
  have hSo : ∀ j, (S j).own = false := fun j => by unfold It.own; rw [hS]; rfl
  have hlen := tn2_len T
  refine compGo (c := c) hg ha (fun j τ l => CI W.A W.L (relab ksC) cs (cellNs ksC) β acc Γ (xs ++ (yss.take j).flatten) τ l) (W.H.le hn) Dr (fun j τ l hI => hD τ hI.ds.up) R0 hit (by simpa using C) ?_ ?_
  · intro j v τ l s F' hj hp hI hit R
    obtain ⟨dd, hdd, hv⟩ := hP j v hj hp
    obtain ⟨zs, hzs, T⟩ := tn2_at T j dd hdd
    have htk : yss.take (j + 1) = yss.take j ++ [zs] := by
      obtain ⟨h1, h2⟩ := List.getElem?_eq_some_iff.mp hzs
      rw [← List.take_append_getElem h1, h2]
    have hx : xs ++ (yss.take (j + 1)).flatten = xs ++ (yss.take j).flatten ++ zs := by rw [htk]; simp
    have hzz : (xs ++ (yss.take j).flatten).length + zs.length < 100000 := by
      have h1 := flat_len (yss := yss) (j + 1)
      have h2 : (xs ++ (yss.take (j + 1)).flatten).length = (xs ++ (yss.take j).flatten ++ zs).length := by rw [hx]
      rw [List.length_append, List.length_append (bs := zs)] at h2
      omega
    obtain ⟨D0, na, vs, hac, hvs⟩ := hI
    have hai : acc ≠ itr := ne_of_none hac hit
    have na' : upd β itr (S (j + 1)) acc = none := (upd_ne hai).trans na
    have D1 := D0.itIn (i := S (j + 1)) hit (hSo _)
    have k1 : Keep2 τ (upd τ itr (S (j + 1))) := Keep2.up hit
    have out : ∀ {τ' l' s' xs'}, CI W.A W.L (relab ksC) cs (cellNs ksC) (upd β itr (S (j + 1))) acc Γ xs' τ' l' → Rl W τ' l' s' → ∃ τ₁ l₁, Rel c (upd τ₁ itr (S (j + 1))) W.L l₁ s' ∧ τ₁ itr = none ∧ CI W.A W.L (relab ksC) cs (cellNs ksC) β acc Γ xs' τ₁ l₁ := fun {τ' l' s' xs'} C R => by
      obtain ⟨D2, _, ws, hac2, hws⟩ := C
      have eit : τ' itr = some (S (j + 1)) := D2.up _ _ upd_self (hSo _)
      exact ⟨del τ' itr, l', by rw [upd_del' eit]; exact R, del_self, D2.itOut D0.up hit (hS _), na, ws, (del_ne hai).trans hac2, hws.mono (frz_del eit (hS _))⟩
    refine dAss (setC_ok hset) D1 R (hv _ (D0.up.trans k1)) fun τ2 l2 s2 D2 kc R2 => ?_
    have hac2 : τ2 acc = some (.ls 1 vs) := kc _ _ (k1 _ _ hac rfl) rfl
    have hvs2 := (hvs.mono k1.frz).mono kc.frz
    refine hF T D2 R2 fun b τ3 s3 hb k3 R3 => ⟨fun hbt => ?_, fun hbf => ?_⟩
    · refine wpAny_mono (hR (hb.1 hbt) ⟨D2.mono k3, na', vs, k3 _ _ hac2 rfl, hvs2.mono k3.frz⟩ hzz R3) (fun _ s4 h => ?_) fun _ _ e => e
      obtain ⟨τ4, l4, C4, R4⟩ := h
      rw [hx]
      exact out ⟨C4.ds.tl hno, C4.na, C4.ac⟩ R4
    · have := hb.2 hbf
      subst this
      rw [hx, List.append_nil]
      exact out ⟨(D2.mono k3).tl hno, na', vs, k3 _ _ hac2 rfl, hvs2.mono k3.frz⟩ R3
  · intro τ l s hI R
    rw [← hlen, List.take_length] at hI
    exact fin τ l s hI R
end
end Mine

namespace Mine
noncomputable def Itb (τ : Sto) (v : Value) (ds : List Dt) : Prop := (∃ a vs, v = .ref a ∧ τ a = some (.ls 0 vs) ∧ Dns τ vs ds) ∨ (∃ a, ∃ m : Nat, v = .ref a ∧ τ a = some (.pr 0 (rngOb 0 m 1)) ∧ m < 100000 ∧ ds = (List.range m).map fun j => .int (j : Nat))
theorem dC_async {g : Dx} {g' : Comprehension} (h : (dC g)[0]? = some g') : g'.is_async = 0 := by
  cases g <;> first | (cases h; rfl) | cases h
open Classical in
noncomputable def basO (β τ : Sto) (acc : Addr) : Sto := fun a => if (∀ i, β a = some i → i.own = true) ∧ (a = acc ∨ ∃ ov, τ a = some (.ob 8 (cellOb ov))) then none else τ a
theorem basO_sub {β τ : Sto} {acc a : Addr} {i : It} (h : basO β τ acc a = some i) : τ a = some i := by
  unfold basO at h
  split at h
  · cases h
  · exact h
theorem basO_keep {β τ : Sto} {acc a : Addr} {i : It} (h : τ a = some i) (h1 : a ≠ acc) (h2 : ∀ ov, i ≠ .ob 8 (cellOb ov)) : basO β τ acc a = some i := by
  unfold basO
  rw [if_neg]
  · exact h
  · rintro ⟨_, q | ⟨ov, q⟩⟩
    · exact h1 q
    · rw [h] at q; cases q; exact h2 _ rfl
theorem basO_base {β τ : Sto} {acc : Addr} (k : Keep2 β τ) : Keep2 β (basO β τ acc) := fun a i e t => by
  unfold basO
  rw [if_neg (fun q => by have := q.1 _ e; rw [t] at this; cases this)]
  exact k _ _ e t
theorem basO_none {β τ : Sto} {acc a : Addr} (h : ∀ i, β a = some i → i.own = true) (h' : a = acc ∨ ∃ ov, τ a = some (.ob 8 (cellOb ov))) : basO β τ acc a = none := by
  unfold basO
  rw [if_pos ⟨h, h'⟩]
section
variable {A : Around} {L : Addr} {ks : List (Nat × NameKind)} {cs : List (Nat × Addr)} {own : List Nat} {β τ τ' : Sto} {Γ Γ' : Gm} {l l' : List (Nat × Value)} {acc : Addr}
theorem DS.re (D : DS A L ks cs own β Γ τ l) : DS A L ks cs own (basO β τ acc) Γ τ l :=
  ⟨D.lv.mono (basO_base D.up), fun a i e _ => basO_sub e, D.sat, fun i hi => let ⟨h1, a, ov, h2, h3, h4⟩ := D.ow i hi; ⟨h1, a, ov, h2, basO_none (fun i e => by rw [h3] at e; cases e) (.inr ⟨ov, h4⟩), h4⟩, D.inj⟩
theorem DS.un {τ0 : Sto} {Γ0 : Gm} {l0 : List (Nat × Value)} (D0 : DS A L ks cs own β Γ0 τ0 l0) (D : DS A L ks cs own (basO β τ0 acc) Γ τ l) : DS A L ks cs own β Γ τ l :=
  ⟨D0.lv, (basO_base D0.up).trans D.up, D.sat, fun i hi => let ⟨h1, a, ov, h2, h3, h4⟩ := D.ow i hi; let ⟨_, b, _, g2, g3, _⟩ := D0.ow i hi; ⟨h1, a, ov, h2, by rw [h2] at g2; cases g2; exact g3, h4⟩, D.inj⟩
end
section
variable {c : Cx nm prg KK gl bl} {A : Around} {L : Addr} {ks ksC : List (Nat × NameKind)} {cs : List (Nat × Addr)} {n : Nat} {W : Wk c ks cs n} {own : List Nat} {β τ τ' : Sto} {Γ Γ' : Gm} {l l' : List (Nat × Value)} {s : Shared} {E : Value → Shared → Prop} {Φ : Nat → Option (List Dt → (Dt → Prop) → Prop)}
theorem Itb.bas {v : Value} {ds : List Dt} {acc : Addr} {vs : List Value} (h : τ acc = some (.ls 1 vs)) (h0 : Itb τ v ds) : Itb (basO β τ acc) v ds := by
  obtain ⟨a, ws, h1, h2, h3⟩ | ⟨a, m, h1, h2, h3⟩ := h0
  · exact .inl ⟨a, ws, h1, basO_keep h2 (ne_of_it h2 h nofun) nofun, h3.mono fun b us e => basO_keep e (ne_of_it e h nofun) nofun⟩
  · exact .inr ⟨a, m, h1, basO_keep h2 (ne_of_it h2 h nofun) nofun, h3⟩
theorem itb_go {v : Value} {ds : List Dt} {Q : Value → Shared → Prop} (h : Itb β v ds) (k : Keep2 β τ) (R : Rel c τ L l s)
    (q : ∀ itr P S D s', Drv c itr ds.length P S D → (∀ j v, j < ds.length → P j v → ∃ d, ds[j]? = some d ∧ ∀ τ, Keep2 β τ → Dn τ v d) → (∀ τ, Keep2 β τ → D τ) → (∀ j, (S j).tag = 1) → τ itr = none → Rel c (upd τ itr (S 0)) L l s' → Q (.ref itr) s') : wpAny c.M A (pyIter v) Q E s := by
  rcases h with ⟨a, vs, rfl, h1, h2⟩ | ⟨a, m, rfl, h1, hm, rfl⟩
  · refine iterL R (k _ _ h1 rfl) fun it s' n1 _ R' => q it _ _ _ s' (h2.length ▸ drvL (vs := vs) (a := a)) (fun j v _ hv => ?_) (fun τ k => ⟨0, k _ _ h1 rfl⟩) (fun _ => rfl) n1 R'
    obtain ⟨d, h3, h4⟩ := h2.at j v hv
    exact ⟨d, h3, fun τ k => h4.mono k.frz⟩
  · have e : ((List.range m).map fun j => Dt.int (j : Nat)).length = m := by rw [List.length_map, List.length_range]
    refine iterR R (k _ _ h1 rfl) hm fun it s' n1 _ R' => q it (fun i v => ∃ t, v = .int (0 + i * 1) t) (fun i => .ob 1 (rngIt (0 + i * 1) ((m : Int) - i) 1)) (fun _ => True) s' (by rw [e]; exact drvR) (fun j v hj hv => ?_) (fun _ _ => trivial) (fun _ => rfl) n1 R'
    rw [e] at hj
    obtain ⟨t, rfl⟩ := hv
    refine ⟨.int (j : Nat), ?_, fun τ _ => ⟨t, by congr 1; omega⟩⟩
    rw [List.getElem?_map, List.getElem?_range hj]; rfl
noncomputable def SndE (c : Cx nm prg KK gl bl) (Φ : Nat → Option (List Dt → (Dt → Prop) → Prop)) (n : Nat) (e : Dx) : Prop := ∀ {ks cs} {W : Wk c ks cs n} {own β Γ τ l s K Q E}, ev Φ e ks Γ K → DS W.A W.L ks cs own β Γ τ l → Rl W τ l s → Kn W τ l K Q → wpAny c.M W.A (eval (dE e) W.env) Q E s
noncomputable def SndT (c : Cx nm prg KK gl bl) (Φ : Nat → Option (List Dt → (Dt → Prop) → Prop)) (n : Nat) (e : Dx) : Prop := ∀ {ks cs} {W : Wk c ks cs n} {own β Γ τ l s K Q E}, evT Φ e ks Γ K → DS W.A W.L ks cs own β Γ τ l → Rl W τ l s → (∀ b τ' s', K b → Keep2 τ τ' → Rl W τ' l s' → Q b s') → wpAny c.M W.A (isTrue (dE e) W.env (eval (dE e) W.env)) Q E s
noncomputable def SndF (c : Cx nm prg KK gl bl) (Φ : Nat → Option (List Dt → (Dt → Prop) → Prop)) (n : Nat) (fs : Dx) : Prop := ∀ {ks cs} {W : Wk c ks cs n} {own β Γ τ l s K Q E}, evF Φ fs ks Γ K → DS W.A W.L ks cs own β Γ τ l → Rl W τ l s → (∀ b τ' s', K b → Keep2 τ τ' → Rl W τ' l s' → Q b s') → wpAny c.M W.A (testsOf (dL fs) W.env) Q E s
noncomputable def SndL (c : Cx nm prg KK gl bl) (Φ : Nat → Option (List Dt → (Dt → Prop) → Prop)) (n : Nat) (es : Dx) : Prop := ∀ {ks cs} {W : Wk c ks cs n} {own β Γ τ l s K Q E p}, evL Φ es ks Γ K → DS W.A W.L ks cs own β Γ τ l → Rl W τ l s → (∀ ds vs τ' s', K ds → Keep2 τ τ' → Dns τ' vs ds → Rl W τ' l s' → Q vs s') → wpAny c.M W.A (spliced (backTo p (starEach (dL es) W.env))) Q E s
noncomputable def SndI (c : Cx nm prg KK gl bl) (Φ : Nat → Option (List Dt → (Dt → Prop) → Prop)) (n : Nat) (e : Dx) : Prop := ∀ {ks cs} {W : Wk c ks cs n} {own β Γ τ l s K Q E}, evI Φ e ks Γ K → DS W.A W.L ks cs own β Γ τ l → Rl W τ l s → (∀ ds v τ' s', K ds → Keep2 τ τ' → Itb τ' v ds → Rl W τ' l s' → Q v s') → wpAny c.M W.A (eval (dE e) W.env) Q E s
noncomputable def SndR (c : Cx nm prg KK gl bl) (Φ : Nat → Option (List Dt → (Dt → Prop) → Prop)) (n : Nat) (g : Dx) : Prop := ∀ {ksC cs} {W : Wk c (relab ksC) cs n} {gens elt scope pos d acc inner β Γ zs xs τ l s E}, gens.drop (d + 1) = dC g →
  (∀ {Γ ys β τ l s E Q}, inner Γ ys → DS W.A W.L (relab ksC) cs (cellNs ksC) β Γ τ l → Rl W τ l s → Kn W τ l (fun d => ys = [d]) Q → wpAny c.M W.A (eval elt W.env) Q E s) →
  evR Φ g ksC inner Γ zs → CI W.A W.L (relab ksC) cs (cellNs ksC) β acc Γ xs τ l → xs.length + zs.length < 100000 → Rl W τ l s → wpAny c.M W.A (emitAt elt gens scope pos d (.ref acc) W.env) (fun _ s' => ∃ τ' l', CI W.A W.L (relab ksC) cs (cellNs ksC) β acc Γ (xs ++ zs) τ' l' ∧ Rl W τ' l' s') E s
theorem sndR_nil : SndR c Φ n .nil := by
  intro ksC cs W gens elt scope pos d acc inner β Γ zs xs τ l s E hd hin h C hz R
  have hg : gens[d + 1]? = none := by
    have := congrArg (fun x => x[0]?) hd
    simpa [dC] using this
  refine emit0 hg (hin h C.ds R fun x v τ' s' e k hv R' => ?_)
  subst e
  obtain ⟨vs, h1, h2⟩ := C.ac
  have h3 := k _ _ h1 rfl
  have hl : vs.length < 100000 := by rw [h2.length]; exact Nat.lt_of_le_of_lt (Nat.le_add_right _ _) hz
  refine bAppend R' h3 hl fun s'' R'' => ⟨_, l, ⟨?_, C.na, vs ++ [v], upd_self, ?_⟩, R''⟩
  · have D := C.ds.mono k
    have ko : ∀ {a j}, τ' a = some j → j.tag ≠ 1 → upd τ' acc (.ls 1 (vs ++ [v])) a = some j := fun e t => (upd_ne (ne_of_it e h3 fun q => t (by rw [q]; rfl))).trans e
    refine ⟨D.lv, fun a j e t => ?_, fun i d e => ?_, fun i hi => ?_, D.inj⟩
    · exact (upd_ne fun q => by subst q; rw [C.na] at e; cases e).trans (D.up _ _ e t)
    · obtain ⟨u, g1, g2⟩ := D.sat i d e
      exact ⟨u, g1.mono fun a us e => ko e nofun, g2.imp id fun ⟨g3, a, g4, g5⟩ => ⟨g3, a, g4, ko g5 nofun⟩⟩
    · obtain ⟨g1, a, ov, g2, g3, g4⟩ := D.ow i hi
      exact ⟨g1, a, ov, g2, g3, ko g4 nofun⟩
  · have kf : Frz τ' (upd τ' acc (.ls 1 (vs ++ [v]))) := fun a us e => (upd_ne (ne_of_it e h3 nofun)).trans e
    exact ((h2.mono k.frz).mono kf).append ⟨hv.mono kf, trivial⟩
theorem sndR_cl {i : Nat} {q : Pos} {it fs rest : Dx} (hn : 1 ≤ n) (hI : SndI c Φ n it) (hF : SndF c Φ n fs) (hR : SndR c Φ n rest) : SndR c Φ n (.cl i q it fs rest) := by
  intro ksC cs W gens elt scope pos d acc inner β Γ zs xs τ l s E hd hin h C hz R
  have hd' : gens.drop (d + 1) = ⟨.Name (nm i) q, dE it, dL fs, 0⟩ :: dC rest := hd
  have hg : gens[d + 1]? = some ⟨.Name (nm i) q, dE it, dL fs, 0⟩ := by
    have := congrArg (fun x => x[0]?) hd'
    simpa using this
  have hg2 : gens.drop (d + 1 + 1) = dC rest := by
    have := congrArg (List.drop 1) hd'
    rw [List.drop_drop] at this
    simpa using this
  have ha : ∀ g', gens[d + 1 + 1]? = some g' → g'.is_async = 0 := fun g' e => by
    have := congrArg (fun x => x[0]?) hg2
    rw [List.getElem?_drop] at this
    exact dC_async (this.symm.trans e)
  refine emit1 hg (hI h C.ds R fun ds v τ1 s1 hK k1 hit R1 => ?_) (fun x => fold_dE it W.env x)
  obtain ⟨vs, h1, h2⟩ := C.ac
  have h3 := k1 _ _ h1 rfl
  have D1 := C.ds.mono k1
  refine itb_go (β := basO β τ1 acc) (hit.bas h3) (fun a i e _ => basO_sub e) R1 fun itr P S D s2 Dr hP hD hS n1 R2 => ?_
  refine startGo hg (fun q => Dr.self R2 q) ?_
  refine turnsGo hn (β := basO β τ1 acc) hg ha (fun h D R q => hF h D R q) (fun h C z R => hR hg2 hin h C z R) hK hz Dr hP hD hS ⟨D1.re, ?_, vs, h3, h2.mono k1.frz⟩ n1 R2 fun τ' l' s' C' R' => ?_
  · exact basO_none (fun i e => by rw [C.na] at e; cases e) (.inl rfl)
  · exact ⟨τ', l', ⟨D1.un C'.ds, C.na, C'.ac⟩, R'⟩
end
end Mine

namespace Mine
theorem ndK_look : ∀ {ks : List (Nat × NameKind)}, ndK ks = true → ∀ {i k}, (i, k) ∈ ks → ks.lookup i = some k
  | (j, m) :: r, h, i, k, hm => by
    unfold ndK at h
    rw [Bool.and_eq_true] at h
    rw [List.lookup_cons]
    rcases List.mem_cons.mp hm with e | hm2
    · cases e; rw [beq_self_eq_true]
    · have : i ≠ j := fun z => by
        subst z
        have h1 := h.1
        rw [Bool.not_eq_true'] at h1
        have := List.any_eq_false.mp h1 _ hm2
        exact this (Nat.beq_refl i)
      rw [beq_eq_false_iff_ne.mpr this]
      exact ndK_look h.2 hm2
theorem look_mem {α : Type} {i : Nat} {k : α} : ∀ {r : List (Nat × α)}, r.lookup i = some k → (i, k) ∈ r
  | (j, m) :: r, h => by
    rw [List.lookup_cons] at h
    by_cases q : i = j
    · subst q; rw [beq_self_eq_true] at h; cases h; exact .head _
    · rw [beq_eq_false_iff_ne.mpr q] at h; exact .tail _ (look_mem h)
theorem cellNs_mem {i : Nat} : ∀ {r : List (Nat × NameKind)}, i ∈ cellNs r → (i, .cell) ∈ r
  | (j, k) :: r, h => by
    cases k with
    | cell => rcases List.mem_cons.mp h with rfl | h
              · exact .head _
              · exact .tail _ (cellNs_mem h)
    | _ => exact .tail _ (cellNs_mem h)
theorem cellNs_nodup : ∀ {r : List (Nat × NameKind)}, ndK r = true → (cellNs r).Nodup
  | [], _ => .nil
  | (j, k) :: r, h => by
    have h0 := h
    unfold ndK at h
    rw [Bool.and_eq_true] at h
    have ih := cellNs_nodup h.2
    cases k with
    | cell =>
      refine List.nodup_cons.mpr ⟨fun q => ?_, ih⟩
      have h1 := h.1
      rw [Bool.not_eq_true'] at h1
      exact List.any_eq_false.mp h1 _ (cellNs_mem q) (Nat.beq_refl j)
    | _ => exact ih
theorem relab_to {i : Nat} : ∀ {r : List (Nat × NameKind)}, r.lookup i = some .free ∨ r.lookup i = some .cell → (relab r).lookup i = some .cell
  | [], h => by rcases h with h | h <;> cases h
  | (j, k) :: r, h => by
    by_cases q : i = j
    · subst q
      rw [List.lookup_cons, beq_self_eq_true] at h
      rcases h with h | h
      · cases h; show List.lookup i ((i, .cell) :: relab r) = _; rw [List.lookup_cons, beq_self_eq_true]
      · cases h; show List.lookup i ((i, .cell) :: relab r) = _; rw [List.lookup_cons, beq_self_eq_true]
    · rw [List.lookup_cons, beq_eq_false_iff_ne.mpr q] at h
      have ih := relab_to h
      cases k <;> (show List.lookup i ((j, _) :: relab r) = _; rw [List.lookup_cons, beq_eq_false_iff_ne.mpr q]; exact ih)
theorem clos_in {cs : List (Nat × Addr)} {i : Nat} {a : Addr} (hc : cs.lookup i = some a) : ∀ {r : List (Nat × NameKind)} {acc : List (Nat × Addr)}, acc.lookup i = some a ∨ (i, NameKind.free) ∈ r → (closGo cs r acc).lookup i = some a
  | [], acc, h => h.elim id fun z => nomatch z
  | (j, k) :: r, acc, h => by
    cases k with
    | free =>
      show (match cs.lookup j with | some a => closGo cs r ((j, a) :: acc) | none => closGo cs r acc).lookup i = _
      by_cases q : i = j
      · subst q
        rw [hc]
        exact clos_in hc (.inl (by rw [List.lookup_cons, beq_self_eq_true]))
      · have h' : acc.lookup i = some a ∨ (i, NameKind.free) ∈ r := h.imp id fun z => (List.mem_cons.mp z).resolve_left fun y => q (by cases y; rfl)
        cases cs.lookup j with
        | none => exact clos_in hc h'
        | some b => exact clos_in hc (h'.imp (fun z => by rw [List.lookup_cons, beq_eq_false_iff_ne.mpr q]; exact z) id)
    | _ => exact clos_in (r := r) hc (h.imp id fun z => (List.mem_cons.mp z).resolve_left fun y => by cases y)
theorem clos_of' {cs : List (Nat × Addr)} {i : Nat} {a : Addr} : ∀ {r : List (Nat × NameKind)} {acc : List (Nat × Addr)}, (closGo cs r acc).lookup i = some a → acc.lookup i = some a ∨ (cs.lookup i = some a ∧ (i, NameKind.free) ∈ r)
  | [], acc, h => .inl h
  | (j, k) :: r, acc, h => by
    have go : (closGo cs r acc).lookup i = some a → acc.lookup i = some a ∨ (cs.lookup i = some a ∧ (i, NameKind.free) ∈ (j, k) :: r) := fun h => (clos_of' h).imp id fun z => ⟨z.1, .tail _ z.2⟩
    cases k with
    | free =>
      have h : (match cs.lookup j with | some a => closGo cs r ((j, a) :: acc) | none => closGo cs r acc).lookup i = some a := h
      cases e : cs.lookup j with
      | none => rw [e] at h; exact go h
      | some b =>
        rw [e] at h
        rcases clos_of' h with h | h
        · rw [List.lookup_cons] at h
          by_cases q : i = j
          · subst q; rw [beq_self_eq_true] at h; exact .inr ⟨e.trans h, .head _⟩
          · rw [beq_eq_false_iff_ne.mpr q] at h; exact .inl h
        · exact .inr ⟨h.1, .tail _ h.2⟩
    | _ => exact go h
theorem lkOk_all {ks : List (Nat × NameKind)} (h : ndK ks = true) : ∀ {r : List (Nat × NameKind)}, (∀ p ∈ r, p ∈ ks) → lkOk ks r = true
  | [], _ => rfl
  | (i, k) :: r, hm => by
    have ih := lkOk_all h (r := r) fun p hp => hm p (.tail _ hp)
    cases k with
    | «local» =>
      show ((match ks.lookup i with | some .local => true | _ => false) && lkOk ks r) = true
      rw [ndK_look h (hm _ (.head _)), ih]; rfl
    | _ => exact ih
theorem lookNone_to {acc : List (Nat × Addr)} : ∀ {ns : List Nat}, (∀ i ∈ ns, acc.lookup i = none) → lookNone acc ns = true
  | [], _ => rfl
  | i :: r, h => by
    show ((acc.lookup i).isNone && lookNone acc r) = true
    rw [h i (.head _), lookNone_to fun j hj => h j (.tail _ hj)]; rfl
theorem FreshAll.nodup {L C : Addr} : ∀ {as : List Addr} {τ : Sto}, FreshAll τ L C as → as.Nodup
  | [], _, _ => .nil
  | a :: r, τ, h => List.nodup_cons.mpr ⟨FreshAll.notin h.2.2.2 upd_self, h.2.2.2.nodup⟩
theorem FreshAll.none {L C a : Addr} {as : List Addr} {τ : Sto} (h : FreshAll τ L C as) (ha : a ∈ as) : τ a = none := by
  cases e : τ a with
  | none => rfl
  | some i => exact absurd ha (h.notin e)
theorem cellsOn_at {a : Addr} : ∀ {as : List Addr} {τ : Sto}, as.Nodup → a ∈ as → cellsOn τ as a = some (.ob 8 (cellOb none))
  | b :: r, τ, nd, h => by
    obtain ⟨h1, h2⟩ := List.nodup_cons.mp nd
    rcases List.mem_cons.mp h with rfl | h
    · exact (cellsOn_ne h1).trans upd_self
    · show cellsOn (upd τ b _) r a = _
      exact cellsOn_at h2 h
theorem zip_look {i : Nat} : ∀ {ns : List Nat} {as : List Addr}, as.length = ns.length → i ∈ ns → ∃ a ∈ as, (ns.zip as).lookup i = some a
  | j :: r, b :: as, hl, h => by
    show ∃ a ∈ b :: as, List.lookup i ((j, b) :: r.zip as) = some a
    by_cases q : i = j
    · subst q; exact ⟨b, .head _, by rw [List.lookup_cons, beq_self_eq_true]⟩
    · obtain ⟨a, h1, h2⟩ := zip_look (ns := r) (as := as) (by simpa using hl) ((List.mem_cons.mp h).resolve_left q)
      exact ⟨a, .tail _ h1, by rw [List.lookup_cons, beq_eq_false_iff_ne.mpr q]; exact h2⟩
theorem zip_mem {i : Nat} {a : Addr} {ns : List Nat} {as : List Addr} (h : (ns.zip as).lookup i = some a) : i ∈ ns ∧ a ∈ as := List.of_mem_zip (look_mem h)
theorem zip_inj {i j : Nat} {a : Addr} : ∀ {ns : List Nat} {as : List Addr}, as.Nodup → (ns.zip as).lookup i = some a → (ns.zip as).lookup j = some a → i = j
  | k :: r, b :: as, nd, h1, h2 => by
    have h1 : List.lookup i ((k, b) :: r.zip as) = some a := h1
    have h2 : List.lookup j ((k, b) :: r.zip as) = some a := h2
    obtain ⟨n1, n2⟩ := List.nodup_cons.mp nd
    rw [List.lookup_cons] at h1 h2
    by_cases q1 : i = k
    · by_cases q2 : j = k
      · exact q1.trans q2.symm
      · rw [q1, beq_self_eq_true] at h1
        rw [beq_eq_false_iff_ne.mpr q2] at h2
        cases h1
        exact absurd (zip_mem h2).2 n1
    · rw [beq_eq_false_iff_ne.mpr q1] at h1
      by_cases q2 : j = k
      · rw [q2, beq_self_eq_true] at h2
        cases h2
        exact absurd (zip_mem h1).2 n1
      · rw [beq_eq_false_iff_ne.mpr q2] at h2
        exact zip_inj n2 h1 h2
  | [], _, _, h1, _ => by cases h1
  | _ :: _, [], _, h1, _ => by cases h1
theorem isFree_look {ks : List (Nat × NameKind)} {i : Nat} (h : isFree ks i = true) : ks.lookup i = some .free := by
  unfold isFree at h
  split at h <;> first | assumption | cases h
theorem innG_look {ksC : List (Nat × NameKind)} {i : Nat} {d : Dt} : ∀ {Γ : Gm}, (innG ksC Γ).lookup i = some d → isFree ksC i = true ∧ Γ.lookup i = some d
  | (j, e) :: r, h => by
    have h : (List.filter _ ((j, e) :: r)).lookup i = some d := h
    rw [List.filter_cons] at h
    by_cases q : i = j
    · subst q
      split at h
      · rename_i hf
        rw [List.lookup_cons, beq_self_eq_true] at h ⊢
        exact ⟨hf, h⟩
      · rename_i hf
        exact absurd (innG_look (Γ := r) h).1 hf
    · have := innG_look (ksC := ksC) (i := i) (d := d) (Γ := r) (by
        split at h
        · rwa [List.lookup_cons, beq_eq_false_iff_ne.mpr q] at h
        · exact h)
      exact ⟨this.1, by rw [List.lookup_cons, beq_eq_false_iff_ne.mpr q]; exact this.2⟩
theorem okC_at {ks : List (Nat × NameKind)} {Γ : Gm} {i : Nat} : ∀ {r : List (Nat × NameKind)}, okC ks Γ r = true → (i, NameKind.free) ∈ r → isCell ks i = true ∧ (Γ.lookup i).isSome = true
  | (j, k) :: r, h, hm => by
    have go : okC ks Γ r = true := by
      cases k with
      | free => exact (Bool.and_eq_true _ _ ▸ h : _ ∧ _).2
      | _ => exact h
    rcases List.mem_cons.mp hm with e | hm
    · cases e
      have h : (isCell ks i && (Γ.lookup i).isSome) = true := (Bool.and_eq_true _ _ ▸ h : _ ∧ _).1
      rwa [Bool.and_eq_true] at h
    · exact okC_at go hm
theorem isCell_look {ks : List (Nat × NameKind)} {i : Nat} (h : isCell ks i = true) : ks.lookup i = some .cell := by
  unfold isCell at h
  split at h <;> first | assumption | cases h
section
variable {A : Around} {L : Addr} {ks ksC : List (Nat × NameKind)} {cs : List (Nat × Addr)} {own : List Nat} {β τ τ' : Sto} {Γ Γ' : Gm} {l l' : List (Nat × Value)} {acc : Addr}
theorem DS.cell (D : DS A L ks cs own β Γ τ l) {i : Nat} {d : Dt} (h : Γ.lookup i = some d) (hk : ks.lookup i = some .cell) : ∃ v a, Dn τ v d ∧ cs.lookup i = some a ∧ τ a = some (.ob 8 (cellOb (some v))) := by
  obtain ⟨v, h1, ⟨h2, _⟩ | ⟨_, a, h3, h4⟩⟩ := D.sat i d h
  · rw [hk] at h2; cases h2
  · exact ⟨v, a, h1, h3, h4⟩
theorem DS.freeOk (D : DS A L ks cs own β Γ τ l) : ∀ {r : List (Nat × NameKind)}, okC ks Γ r = true → FreeOk ks cs r
  | [], _ => trivial
  | (i, k) :: r, h => by
    cases k with
    | free =>
      have hc := okC_at h (.head _)
      obtain ⟨d, hd⟩ := Option.isSome_iff_exists.mp hc.2
      obtain ⟨v, a, _, h3, _⟩ := D.cell hd (isCell_look hc.1)
      exact ⟨isCell_look hc.1, ⟨a, h3⟩, D.freeOk (Bool.and_eq_true _ _ ▸ h : _ ∧ _).2⟩
    | _ => exact D.freeOk (r := r) h
theorem DS.inner (D : DS A L ks cs own β Γ τ l) (hL : τ L = none) (h1 : ndK ksC = true) (h2 : okC ks Γ ksC = true) {as : List Addr} {C : Addr} (ha : τ acc = none) (haL : acc ≠ L) (hl : as.length = (cellNs ksC).length) (hC : C ≠ L) (hCn : τ C = none)
    (hF : FreshAll (upd (upd τ acc (.ls 1 [])) L (.fr l)) L C as) :
    CI A C (relab ksC) ((cellNs ksC).zip as ++ closGo cs ksC []) (cellNs ksC) (upd τ L (.fr l)) acc (innG ksC Γ) [] (cellsOn (upd (upd τ acc (.ls 1 [])) L (.fr l)) as) [] := by
  have nd := hF.nodup
  have hin : ∀ a ∈ as, τ a = none ∧ a ≠ L ∧ a ≠ acc := fun a ha' => by
    have := hF.none ha'
    obtain ⟨g1, g2⟩ := upd_none this
    obtain ⟨g3, g4⟩ := upd_none g2
    exact ⟨g4, g1, g3⟩
  have hk : Keep2 (upd τ L (.fr l)) (cellsOn (upd (upd τ acc (.ls 1 [])) L (.fr l)) as) := fun a i e t => by
    have hna : a ∉ as := fun q => by rw [upd_ne (hin a q).2.1, (hin a q).1] at e; cases e
    rw [cellsOn_ne hna]
    by_cases q : a = L
    · subst q; rw [upd_self] at e ⊢; exact e
    · rw [upd_ne q] at e ⊢
      rw [upd_ne (ne_of_none e ha)]; exact e
  have hτ : Keep2 τ (upd τ L (.fr l)) := Keep2.up hL
  have nocell : ∀ {i}, i ∈ cellNs ksC → ¬ (i, NameKind.free) ∈ ksC := fun hi hf => by
    have := (ndK_look h1 (cellNs_mem hi)).symm.trans (ndK_look h1 hf)
    cases this
  have zno : ∀ {i}, (i, NameKind.free) ∈ ksC → ((cellNs ksC).zip as).lookup i = none := fun {i} hf => by
    cases e : ((cellNs ksC).zip as).lookup i with
    | none => rfl
    | some a => exact absurd hf (nocell (zip_mem e).1)
  have cell : ∀ {i a}, ((cellNs ksC).zip as ++ closGo cs ksC []).lookup i = some a → ((cellNs ksC).zip as).lookup i = some a ∨ (cs.lookup i = some a ∧ (i, NameKind.free) ∈ ksC) := fun {i a} h => by
    rw [List.lookup_append] at h
    cases e : ((cellNs ksC).zip as).lookup i with
    | some b => rw [e] at h; exact .inl h
    | none => rw [e] at h; exact .inr ((clos_of' h).resolve_left fun z => by cases z)
  have clive : ∀ {i a}, cs.lookup i = some a → (i, NameKind.free) ∈ ksC → τ a ≠ none := fun {i a} e hf => by
    have hc := okC_at h2 hf
    obtain ⟨d, hd⟩ := Option.isSome_iff_exists.mp hc.2
    obtain ⟨v, b, _, h3, h4⟩ := D.cell hd (isCell_look hc.1)
    rw [e] at h3; cases h3
    rw [h4]; exact nofun
  refine ⟨⟨?_, hk, fun i d e => ?_, fun i hi => ?_, fun i j a e1 e2 => ?_⟩, (upd_ne haL).trans ha, [], ?_, trivial⟩
  · obtain ⟨fr, g1, g2⟩ := D.lv
    refine ⟨fr, g1, fun e he => ?_⟩
    obtain ⟨g3, f, g4, g5⟩ := g2 e he
    refine ⟨g3, f, g4, .inr ?_⟩
    rcases g5 with rfl | ⟨l', g5⟩
    · exact ⟨l, upd_self⟩
    · exact ⟨l', hτ _ _ (D.up _ _ g5 rfl) rfl⟩
  · obtain ⟨g1, g2⟩ := innG_look e
    have hf := look_mem (isFree_look g1)
    obtain ⟨v, a, g3, g4, g5⟩ := D.cell g2 (isCell_look (okC_at h2 hf).1)
    refine ⟨v, g3.mono (hτ.trans hk).frz, .inr ⟨relab_to (.inl (isFree_look g1)), a, ?_, (hτ.trans hk) _ _ g5 rfl⟩⟩
    rw [List.lookup_append, zno hf]
    exact clos_in g4 (.inr hf)
  · obtain ⟨a, g1, g2⟩ := zip_look hl hi
    refine ⟨relab_to (.inr (ndK_look h1 (cellNs_mem hi))), a, none, ?_, ?_, cellsOn_at nd g1⟩
    · rw [List.lookup_append, g2]; rfl
    · rw [upd_ne (hin a g1).2.1]; exact (hin a g1).1
  · rcases cell e1 with g1 | ⟨g1, g1'⟩ <;> rcases cell e2 with g2 | ⟨g2, g2'⟩
    · exact zip_inj nd g1 g2
    · exact absurd (hin a (zip_mem g1).2).1 (clive g2 g2')
    · exact absurd (hin a (zip_mem g2).2).1 (clive g1 g1')
    · exact D.inj _ _ _ g1 g2
  · rw [cellsOn_ne fun q => (hin acc q).2.2 rfl, upd_ne haL, upd_self]
end
end Mine

namespace Mine
section
variable {c : Cx nm prg KK gl bl} {A : Around} {L : Addr} {ks ksC : List (Nat × NameKind)} {cs : List (Nat × Addr)} {n : Nat} {W : Wk c ks cs n} {own : List Nat} {β τ τ' : Sto} {Γ Γ' : Gm} {l l' : List (Nat × Value)} {s : Shared} {E : Value → Shared → Prop} {Φ : Nat → Option (List Dt → (Dt → Prop) → Prop)}
theorem DS.lookNo (D : DS A L ks cs own β Γ τ l) (h : ndK ksC = true) : lookNone (closGo cs ksC []) (cellNs ksC) = true := lookNone_to fun i hi => by
  cases e : (closGo cs ksC []).lookup i with
  | none => rfl
  | some a =>
    obtain ⟨_, g⟩ := (clos_of' e).resolve_left fun z => by cases z
    have := (ndK_look h (cellNs_mem hi)).symm.trans (ndK_look h g)
    cases this
theorem lcTurns (hn : 1 ≤ n) {elt : Expr} {i : Nat} {q : Pos} {itx fs rest : Dx} {pos : Pos} {F : Gm → (Bool → Prop) → Prop} {Rr : Gm → List Dt → Prop} {ds ys : List Dt} (hok1 : ndK ksC = true) (hok2 : okC ks Γ ksC = true)
    (hF : ∀ {cs'} {W' : Wk c (relab ksC) cs' n} {Γ K β τ l s E Q}, F Γ K → DS W'.A W'.L (relab ksC) cs' (cellNs ksC) β Γ τ l → Rl W' τ l s → (∀ b τ' s', K b → Keep2 τ τ' → Rl W' τ' l s' → Q b s') → wpAny c.M W'.A (testsOf (dL fs) W'.env) Q E s)
    (hR : ∀ {cs'} {W' : Wk c (relab ksC) cs' n} {acc Γ zs xs β τ l s E}, Rr Γ zs → CI W'.A W'.L (relab ksC) cs' (cellNs ksC) β acc Γ xs τ l → xs.length + zs.length < 100000 → Rl W' τ l s → wpAny c.M W'.A (emitAt elt (dC (.cl i q itx fs rest)) (scp ksC) pos 0 (.ref acc) W'.env) (fun _ s' => ∃ τ' l', CI W'.A W'.L (relab ksC) cs' (cellNs ksC) β acc Γ (xs ++ zs) τ' l' ∧ Rl W' τ' l' s') E s)
    (T : tnB F Rr ksC i (innG ksC Γ) ds ys) (hz : ys.length < 100000) (D : DS W.A W.L ks cs own β Γ τ l) (R : Rl W τ l s) {x : Value} (hx : Itb τ x ds) {Kf : List (Nat × Value) → Addr → Sto → Prop}
    (hK : ∀ acc τf, τ acc = none → acc ≠ W.L → Keep2 τ τf → (∃ vs, τf acc = some (.ls 1 vs) ∧ Dns τf vs ys) → Kf l acc τf) :
    wpAny c.M W.A (pyIter x) (fun itv s₂ => ∃ τ l it S, itv = .ref it ∧ Rel c (upd τ it S) W.L l s₂ ∧ τ it = none ∧ (∀ {A Q E τ' L' l' s'}, Rel c (upd τ' it S) L' l' s' → Q (.ref it) s' → wpAny c.M A (pyIter (.ref it)) Q E s') ∧
      ∀ acc as C env' s₃, LCIn c W.L ksC (closGo cs ksC []) τ l it S acc as C env' s₃ → codeAny c.M W.A (.compLoop (.ListComp elt (dC (.cl i q itx fs rest)) (scp ksC) pos) 0 (.ref it) (.ref acc) env') (LCPost c W.L l C (Kf l acc)) s₃) E s := by
  refine itb_go hx Keep2.refl R fun itr P S D' s2 Dr hP hD hS n1 R2 => ⟨τ, l, itr, S 0, rfl, R2, n1, fun R q => Dr.self R q, fun acc as C env' s3 hin => ?_⟩
  obtain ⟨a1, a2, a3, a4, a5, a6, a7, a8, a9, a10, a11, a12, a13⟩ := hin
  have kL : Keep2 τ (upd τ W.L (.fr l)) := Keep2.up R.apart
  refine turnsGo (W := ⟨W.A, env', C, a11, W.H⟩) hn rfl (fun g' e => dC_async (g := rest) e) hF hR T (by rw [List.length_nil, Nat.zero_add]; exact hz) Dr (fun j v hj hp => ?_) (fun τ k => hD τ (kL.trans k)) hS (D.inner R.apart hok1 hok2 a1 a3 a4 a5 a8 a9) a13 a12 fun τe lc s C' R' => ?_
  · obtain ⟨d, h1, h2⟩ := hP j v hj hp
    exact ⟨d, h1, fun τ k => h2 τ (kL.trans k)⟩
  · obtain ⟨vs, g1, g2⟩ := C'.ac
    have eL : τe W.L = some (.fr l) := C'.ds.up _ _ upd_self rfl
    refine ⟨τe, lc, del τe W.L, R', eL, fun a i e => ?_, del_self, hK acc _ a1 a3 (fun a i e t => ?_) ⟨vs, (del_ne a3).trans g1, ?_⟩⟩
    · exact (del_ne fun q => by subst q; rw [del_self] at e; cases e).symm.trans e
    · have hne : a ≠ W.L := R.neL e
      exact (del_ne hne).trans (C'.ds.up _ _ (kL _ _ e t) t)
    · have : ys = [] ++ ys := rfl
      exact (this ▸ g2).mono fun a us e => (del_ne (ne_of_it e eL nofun)).trans e
theorem lcEv (hn : 1 ≤ n) {e : Dx} {i : Nat} {q : Pos} {it fs rest : Dx} {pos : Pos} (hE : SndE c Φ n e) (hI : SndI c Φ n it) (hF : SndF c Φ n fs) (hR : SndR c Φ n rest) : SndE c Φ n (.lc e (.cl i q it fs rest) ksC pos) := by
  intro ks cs W own β Γ τ l s K Q E h D R qq
  have h := gB_ok h
  obtain ⟨h0, h⟩ := h
  have h0 := and2 h0
  refine xLC W.V rfl rfl (D.freeOk h0.2) (lkOk_all h0.1 fun _ x => x) (cellNs_nodup h0.1) (D.lookNo h0.1) (hI h D R fun ds v τ1 s1 hK k1 hit R1 => ?_) (fun x => fold_dE it W.env x)
  obtain ⟨ys, T, hz, hK⟩ := hK
  refine lcTurns (Kf := fun l acc τf => ∀ s'', Rel c τf W.L l s'' → Q (.ref acc) s'') hn h0.1 h0.2 (fun h D R q => hF h D R q) (fun h C z R => hR (d := 0) rfl (fun h D R q => hE h D R q) h C z R) T hz (D.mono k1) R1 hit fun acc τf ha haL kf hac s'' R'' => ?_
  obtain ⟨vs, g1, g2⟩ := hac
  have R3 := R''.tag (t' := 0) g1
  have kf2 : Frz τf (upd τf acc (.ls 0 vs)) := fun a us e => (upd_ne (ne_of_it e g1 nofun)).trans e
  exact qq _ _ _ _ hK (fun a i e t => (upd_ne (ne_of_none (k1 _ _ e t) ha)).trans (kf _ _ (k1 _ _ e t) t)) ⟨acc, vs, rfl, upd_self, g2.mono kf2⟩ R3
theorem nmG {Γ : Gm} {i : Nat} {K : Dt → Prop} (h : match Γ.lookup i with | some d => K d | none => False) : ∃ d, Γ.lookup i = some d ∧ K d := by
  cases e : Γ.lookup i with
  | none => rw [e] at h; exact h.elim
  | some d => rw [e] at h; exact ⟨d, rfl, h⟩
theorem glb_look {ks : List (Nat × NameKind)} {i : Nat} (h : glbC ks i = true) : ks.lookup i = some .globalImplicit := by
  unfold glbC at h
  split at h <;> first | assumption | cases h
theorem callEv {i : Nat} {q p : Pos} {es : Dx} (hΦ : PhiOk c Φ n) (hL : SndL c Φ n es) : SndE c Φ n (.call i q es p) := by
  intro ks cs W own β Γ τ l s K Q E h D R qq
  have h := gB_ok h
  obtain ⟨h0, h⟩ := h
  have hk := glb_look h0
  cases e : Φ i with
  | none => rw [e] at h; exact h.elim
  | some φ =>
    rw [e] at h
    obtain ⟨fv, hv, hf, ok⟩ := hΦ i φ e
    have go : wpAny c.M W.A (callWith p fv [] (backTo p (starEach (dL es) W.env)) []) Q E s := by
      have fin : ∀ ds vs τ' s', φ ds K → Keep2 τ τ' → Dns τ' vs ds → Rl W τ' l s' → wpAny c.M W.A (call fv vs) Q E s' := fun ds vs τ' s' hK k hv R' =>
        ok hK W.H ((D.lv.mono D.up).mono k) R' hv fun d v τ₂ s₂ hd k2 hv R₂ => qq d v τ₂ s₂ hd (k.trans k2) hv R₂
      cases es with
      | nil => exact call0_ok hf R (fin [] [] τ s h Keep2.refl trivial R)
      | cons a b => exact callN_ok hf (fine_dE a _) (fun env => star_dL p env b) (hL h D R fun ds vs τ' s' hK k hv R' => ⟨⟨_, _, _, R'⟩, fin ds vs τ' s' hK k hv R'⟩)
      | _ => exact h.elim
    refine Call_ ?_ rfl
    rcases hv with hv | ⟨hv, hv'⟩
    · exact ldG W.V R hk hv go
    · exact ldB W.V R hk hv' go
theorem base_dE {o : Dx} (h : noCd o = true) (x : Str) (env : Env) (m : Sem Value) : attributeBase (dE o) x env m = m := by
  cases o <;> first | rfl | cases h
theorem methD {o : Dx} {i : Nat} {q p : Pos} {args : List Expr} (h : noCd o = true) (hl : (q.endLine == p.line) = true) (ha : methodCallForm args.length (backTo p (starEach args W.env)) [] = true) :
    eval (.Call (.Attribute (dE o) (nm i) q) args [] p) W.env = (do
      let ov ← eval (dE o) W.env
      standAt q.atName
      let (f, first) ← holding [ov] (getMethod ov (nm i) (do return (← importBound (dE o) W.env).getD true))
      callWith p f first (backTo p (starEach args W.env)) (backToKw p (keywordEach [] W.env))) := by
  have e0 : eval (.Call (.Attribute (dE o) (nm i) q) args [] p) W.env = (do
    let ov ← attributeBase (dE o) (nm i) W.env (eval (dE o) W.env)
    standAt q.atName
    methodCall (dE o) (nm i) q p W.env ov (args.length + 0) (backTo p (starEach args W.env)) (backToKw p (keywordEach [] W.env))) := by
      exact arm_eval_Call _ _ _ _ _ _ _
  have e1 : backToKw p (keywordEach [] W.env) = [] := rfl
  have e2 : ∀ ov, methodCall (dE o) (nm i) q p W.env ov (args.length + 0) (backTo p (starEach args W.env)) (backToKw p (keywordEach [] W.env)) = (do
      let (f, first) ← holding [ov] (getMethod ov (nm i) (do return (← importBound (dE o) W.env).getD true))
      callWith p f first (backTo p (starEach args W.env)) (backToKw p (keywordEach [] W.env))) := fun ov => by
    unfold methodCall calleeOf methodCallPos
    rw [e1, Nat.add_zero, ha]
    simp only [hl, Bool.not_true, Bool.false_or, if_true]
    rfl
  rw [e0, base_dE h]
  simp only [e2]
theorem methEv (hn : 5 ≤ n) {o a : Dx} {i : Nat} {q p : Pos} (hO : SndE c Φ n o) (hA : SndE c Φ n a) : SndE c Φ n (.meth o i q a p) := by
  intro ks cs W own β Γ τ l s K Q E h D R qq
  obtain ⟨h0, hh⟩ := gB_ok h
  obtain ⟨h1, h2⟩ := and2 h0
  obtain ⟨h2, h3⟩ := and2 h2
  clear h
  obtain rfl := Nat.eq_of_beq_eq_true h1
  refine cmM (hO hh D R fun x v τ1 s1 hK k1 hv R1 => ?_) (methD h2 h3 (by rw [fine_dE]; rfl))
  cases x with
  | list ds =>
    obtain ⟨b, vs, rfl, hb, _⟩ := hv.lst
    refine mList PySem.F.slot_list_index PySem.F.type_list_index R1 hb (callN_ok (W := W) (f := .builtin "list.index") trivial (fine_dE a _) (fun _ => rfl) ?_)
    refine args_cons (hA hK (D.mono k1) R1 fun y w τ2 s2 hK k2 hw R2 => args_nil ⟨⟨_, _, _, R2⟩, ?_⟩) (fine_dE _ _ _)
    exact (idx_ok hn hK (hv.mono k2.frz) hw R2 fun d v τ3 s3 hd k3 hv R3 => qq d v τ3 s3 hd (k1.trans (k2.trans k3)) hv R3).2
  | _ => exact hK.elim
theorem rng_inv {K : List Dt → Prop} {ds : List Dt} (h : rngD ds K) : ∃ j, ds = [.int j] ∧ ∃ m : Nat, j = m ∧ m < 100000 ∧ K ((List.range m).map fun i => .int (i : Nat)) := by
  unfold rngD at h
  split at h
  · exact ⟨_, rfl, h⟩
  · exact h.elim
theorem rngEv {i : Nat} {q p : Pos} {es : Dx} (hL : SndL c Φ n es) : SndI c Φ n (.call i q es p) := by
  intro ks cs W own β Γ τ l s K Q E h D R qq
  obtain ⟨h0, hh⟩ := gB_ok h
  clear h
  obtain ⟨h1, h2⟩ := and2 h0
  obtain rfl := Nat.eq_of_beq_eq_true h2
  refine Call_ (ldB W.V R (glb_look h1) (v := .type "range") rfl ?_) rfl
  have fin : ∀ ds vs τ' s', rngD ds K → Keep2 τ τ' → Dns τ' vs ds → Rl W τ' l s' → wpAny c.M W.A (call (.type "range") vs) Q E s' := fun ds vs τ' s' hK k hv R' => by
    obtain ⟨j, rfl, m, rfl, hm, hK⟩ := rng_inv hK
    obtain ⟨w, rfl, t, rfl⟩ := Dns.one hv
    exact bRange R' fun a s'' n1 n2 R'' => qq _ _ _ s'' hK (k.trans (Keep2.up n1)) (.inr ⟨a, m, rfl, upd_self, hm, rfl⟩) R''
  cases es with
  | nil => exact hh.elim
  | cons a b => exact callN_ok (W := W) (f := .type "range") trivial (fine_dE a _) (fun env => star_dL p env b) (hL hh D R fun ds vs τ' s' hK k hv R' => ⟨⟨_, _, _, R'⟩, fin ds vs τ' s' hK k hv R'⟩)
  | _ => exact hh.elim
end
end Mine

namespace Mine
section
variable {c : Cx nm prg KK gl bl} {ks ksC : List (Nat × NameKind)} {cs : List (Nat × Addr)} {n : Nat} {Φ : Nat → Option (List Dt → (Dt → Prop) → Prop)}
theorem sliEv {o x : Dx} {p q : Pos} (hO : SndE c Φ n o) (hX : SndE c Φ n x) : SndE c Φ n (.slLo o x p q) ∧ SndE c Φ n (.slHi o x p q) ∧ SndE c Φ n (.slRev o x p q) := by
  refine ⟨?_, ?_, ?_⟩ <;> intro ks cs W own β Γ τ l s K Q E h D R qq
  · refine xSlice W.V (hO h D R fun x v τ1 s1 hK k1 hv R1 => wpAny_evalPart_some (hX hK (D.mono k1) R1 fun y w τ2 s2 hK k2 hw R2 => wpAny_evalPart_none (wpAny_evalPart_none ?_)))
    refine sli_ok (W := W) (lo := some) (hi := fun _ => none) hK (hv.mono k2.frz) hw R2 (fun d v τ3 s3 hd k3 hv R3 => qq d v τ3 s3 hd (k1.trans (k2.trans k3)) hv R3) (fun e => e ▸ .int _ _) (fun _ => .none) fun h => ?_
    rw [pick_lo, h.length]; exact h.drop _
  · refine xSlice W.V (hO h D R fun x v τ1 s1 hK k1 hv R1 => wpAny_evalPart_none (wpAny_evalPart_some (hX hK (D.mono k1) R1 fun y w τ2 s2 hK k2 hw R2 => wpAny_evalPart_none ?_)))
    refine sli_ok (W := W) (lo := fun _ => none) (hi := some) hK (hv.mono k2.frz) hw R2 (fun d v τ3 s3 hd k3 hv R3 => qq d v τ3 s3 hd (k1.trans (k2.trans k3)) hv R3) (fun _ => .none) (fun e => e ▸ .int _ _) fun h => ?_
    rw [pick_hi, h.length]; exact h.take _
  · refine xSlice W.V (hO h D R fun x v τ1 s1 hK k1 hv R1 => wpAny_evalPart_none (wpAny_evalPart_none (wpAny_evalPart_some (hX hK (D.mono k1) R1 fun y w τ2 s2 hK k2 hw R2 => ?_))))
    exact rev_ok (W := W) hK (hv.mono k2.frz) hw R2 (fun d v τ3 s3 hd k3 hv R3 => qq d v τ3 s3 hd (k1.trans (k2.trans k3)) hv R3)
mutual
theorem ev_ok (hn : 5 ≤ n) (hΦ : PhiOk c Φ n) : ∀ e : Dx, SndE c Φ n e := fun e => by
  cases e with
  | nm i p =>
    intro ks cs W own β Γ τ l s K Q E h D R qq
    obtain ⟨d, h1, h2⟩ := nmG h
    obtain ⟨v, h3, h4⟩ := D.sat i d h1
    exact nm_ok R h4 (qq d v τ s h2 Keep2.refl h3 R)
  | int k m p => exact fun h D R qq => xInt R fun t s R => qq.at (v := .int _ t) h (fun _ => ⟨t, rfl⟩) R
  | non m p => exact fun h D R qq => wpAny_Constant_none (qq.at (v := .none) h (fun _ => rfl) R)
  | bool b m p => exact fun h D R qq => wpAny_Constant_bool (qq.at (v := .bool b) h (fun _ => rfl) R)
  | bin a op b p => exact fun h D R qq => wpAny_BinOp (ev_ok hn hΦ a h D R fun x v τ1 s1 hK k1 hv R1 => ev_ok hn hΦ b hK (D.mono k1) R1 fun y w τ2 s2 hK k2 hw R2 =>
      binD_ok hK (hv.mono k2.frz) hw R2 fun d v τ3 s3 hd k3 hv R3 => qq d v τ3 s3 hd (k1.trans (k2.trans k3)) hv R3)
  | neg a p => exact fun h D R qq => UnaryOp_ (ev_ok hn hΦ a h D R fun x v τ1 s1 hK k1 hv R1 => negD_ok hK hv R1 fun d v τ3 s3 hd k3 hv R3 => qq d v τ3 s3 hd (k1.trans k3) hv R3)
  | cmp a op b p =>
    intro ks cs W own β Γ τ l s K Q E h D R qq
    obtain ⟨h0, h⟩ := gB_ok h
    exact wpAny_Compare1 (ev_ok hn hΦ a h D R fun x v τ1 s1 hK k1 hv R1 => ev_ok hn hΦ b hK (D.mono k1) R1 fun y w τ2 s2 hK k2 hw R2 =>
      cmpD_ok hn hK (hv.mono k2.frz) hw R2 fun d v τ3 s3 hd k3 hv R3 => qq d v τ3 s3 hd (k1.trans (k2.trans k3)) hv R3) (not2 h0)
  | sub o x p => exact fun h D R qq => Subscript_ (ev_ok hn hΦ o h D R fun z v τ1 s1 hK k1 hv R1 => ev_ok hn hΦ x hK (D.mono k1) R1 fun y w τ2 s2 hK k2 hw R2 =>
      subD_ok hK (hv.mono k2.frz) hw R2 fun d v τ3 s3 hd k3 hv R3 => qq d v τ3 s3 hd (k1.trans (k2.trans k3)) hv R3)
  | slLo o x p q => exact (sliEv (ev_ok hn hΦ o) (ev_ok hn hΦ x)).1
  | slHi o x p q => exact (sliEv (ev_ok hn hΦ o) (ev_ok hn hΦ x)).2.1
  | slRev o x p q => exact (sliEv (ev_ok hn hΦ o) (ev_ok hn hΦ x)).2.2
  | lst es p => exact fun h D R qq => xList (evL_ok hn hΦ es h D R fun ds vs τ1 s1 hK k1 hv R1 => nList 0 R1 (by rw [hv.length]; exact hK.1) fun a s' n1 n2 R' => (Kn.new (fun d v τ3 s3 hd k3 hv R3 => qq d v τ3 s3 hd (k1.trans k3) hv R3) hK.2 hv) a s' n1 n2 R')
  | call i q es p => exact callEv hΦ (evL_ok hn hΦ es)
  | meth o i q a p => exact methEv hn (ev_ok hn hΦ o) (ev_ok hn hΦ a)
  | lc e g ks p =>
    cases g with
    | cl i q it fs rest => exact lcEv (Nat.le_trans (by decide) hn) (ev_ok hn hΦ e) (evI_ok hn hΦ it) (evF_ok hn hΦ fs) (evR_ok hn hΦ rest)
    | _ => exact fun h => h.elim
  | _ => exact fun h => h.elim
theorem evT_ok (hn : 5 ≤ n) (hΦ : PhiOk c Φ n) : ∀ e : Dx, SndT c Φ n e := fun e => by
  cases e with
  | not a p => exact fun h D R q => wpAny_isTrue_Not (evT_ok hn hΦ a h D R fun b τ1 s1 hb k1 R1 => q _ τ1 s1 hb k1 R1)
  | con op a b p =>
    intro ks cs W own β Γ τ l s K Q E h D R q
    cases op with
    | And => exact wpAny_isTrue_BoolOp (wpAny_allTrue_And_cons (evT_ok hn hΦ a h D R fun x τ1 s1 hx k1 R1 => by
        cases x with
        | false => exact q _ τ1 s1 (hx.2 rfl) k1 R1
        | true => exact wpAny_allTrue_And_cons (evT_ok hn hΦ b (hx.1 rfl) (D.mono k1) R1 fun y τ2 s2 hy k2 R2 => by
            cases y with
            | false => exact q _ τ2 s2 hy (k1.trans k2) R2
            | true => exact wpAny_allTrue_And_nil (q _ τ2 s2 hy (k1.trans k2) R2))))
    | Or => exact wpAny_isTrue_BoolOp (wpAny_allTrue_Or_cons (evT_ok hn hΦ a h D R fun x τ1 s1 hx k1 R1 => by
        cases x with
        | true => exact q _ τ1 s1 (hx.2 rfl) k1 R1
        | false => exact wpAny_allTrue_Or_cons (evT_ok hn hΦ b (hx.1 rfl) (D.mono k1) R1 fun y τ2 s2 hy k2 R2 => by
            cases y with
            | true => exact q _ τ2 s2 hy (k1.trans k2) R2
            | false => exact wpAny_allTrue_Or_nil (q _ τ2 s2 hy (k1.trans k2) R2))))
  | cmp a op b p =>
    intro ks cs W own β Γ τ l s K Q E h D R q
    obtain ⟨h0, h⟩ := gB_ok h
    exact wpAny_isTrue_Compare1 (ev_ok hn hΦ a h D R fun x v τ1 s1 hK k1 hv R1 => ev_ok hn hΦ b hK (D.mono k1) R1 fun y w τ2 s2 hK k2 hw R2 =>
      cmpD_ok hn hK (hv.mono k2.frz) hw R2 fun d v τ3 s3 hd k3 hv R3 => trD_ok hd hv R3 fun b s4 hb R4 => q b τ3 s4 hb (k1.trans (k2.trans k3)) R4) (not2 h0)
  | nm i p =>
    intro ks cs W own β Γ τ l s K Q E h D R q
    obtain ⟨d, h1, h2⟩ := nmG (K := fun d => trD d K) h
    obtain ⟨v, h3, h4⟩ := D.sat i d h1
    exact wpAny_isTrue_value (nm_ok R h4 (trD_ok h2 h3 R fun b s4 hb R4 => q b τ s4 hb Keep2.refl R4)) rfl
  | sub o x p => exact fun h D R q => wpAny_isTrue_value (Subscript_ (ev_ok hn hΦ o h D R fun z v τ1 s1 hK k1 hv R1 => ev_ok hn hΦ x hK (D.mono k1) R1 fun y w τ2 s2 hK k2 hw R2 =>
      subD_ok hK (hv.mono k2.frz) hw R2 fun d v τ3 s3 hd k3 hv R3 => trD_ok hd hv R3 fun b s4 hb R4 => q b τ3 s4 hb (k1.trans (k2.trans k3)) R4)) rfl
  | call i q es p => exact fun h D R q => wpAny_isTrue_value (callEv (K := fun d => trD d _) hΦ (evL_ok hn hΦ es) h D R fun d v τ1 s1 hd k1 hv R1 => trD_ok hd hv R1 fun b s2 hb R2 => q b τ1 s2 hb k1 R2) rfl
  | _ => exact fun h => h.elim
theorem evF_ok (hn : 5 ≤ n) (hΦ : PhiOk c Φ n) : ∀ e : Dx, SndF c Φ n e := fun e => by
  cases e with
  | nil => exact fun h D R q => tests0 (q true _ _ h Keep2.refl R)
  | cons a b =>
    cases b with
    | nil => exact fun h D R q => tests1 (evT_ok hn hΦ a h D R q)
    | _ => exact fun h => h.elim
  | _ => exact fun h => h.elim
theorem evL_ok (hn : 5 ≤ n) (hΦ : PhiOk c Φ n) : ∀ e : Dx, SndL c Φ n e := fun e => by
  cases e with
  | nil => exact fun h D R q => args_nil (q [] [] _ _ h Keep2.refl trivial R)
  | cons a b => exact fun h D R q => args_cons (ev_ok hn hΦ a h D R fun x v τ1 s1 hK k1 hv R1 => evL_ok hn hΦ b hK (D.mono k1) R1 fun ds vs τ2 s2 hK k2 hvs R2 => q _ _ τ2 s2 hK (k1.trans k2) ⟨hv.mono k2.frz, hvs⟩ R2) (fine_dE _ _ _)
  | _ => exact fun h => h.elim
theorem evI_ok (hn : 5 ≤ n) (hΦ : PhiOk c Φ n) : ∀ e : Dx, SndI c Φ n e := fun e => by
  cases e with
  | nm i p =>
    intro ks cs W own β Γ τ l s K Q E h D R q
    obtain ⟨d, h1, h2⟩ := nmG (K := fun d => lisD d K) h
    obtain ⟨v, h3, h4⟩ := D.sat i d h1
    refine nm_ok R h4 ?_
    cases d with
    | list ds => obtain ⟨a, vs, rfl, g1, g2⟩ := h3.lst; exact q ds _ τ s h2 Keep2.refl (.inl ⟨a, vs, rfl, g1, g2⟩) R
    | _ => exact h2.elim
  | call i q es p => exact rngEv (evL_ok hn hΦ es)
  | bin a op b p => exact fun h D R q => wpAny_BinOp (ev_ok hn hΦ a h D R fun x v τ1 s1 hK k1 hv R1 => ev_ok hn hΦ b hK (D.mono k1) R1 fun y w τ2 s2 hK k2 hw R2 =>
      binD_ok hK (hv.mono k2.frz) hw R2 fun d v τ3 s3 hd k3 hv R3 => by
        cases d with
        | list ds => obtain ⟨a, vs, rfl, g1, g2⟩ := hv.lst; exact q ds _ τ3 s3 hd (k1.trans (k2.trans k3)) (.inl ⟨a, vs, rfl, g1, g2⟩) R3
        | _ => exact hd.elim)
  | _ => exact fun h => h.elim
theorem evR_ok (hn : 5 ≤ n) (hΦ : PhiOk c Φ n) : ∀ e : Dx, SndR c Φ n e := fun e => by
  cases e with
  | nil => exact sndR_nil
  | cl i q it fs rest => exact sndR_cl (Nat.le_trans (by decide) hn) (evI_ok hn hΦ it) (evF_ok hn hΦ fs) (evR_ok hn hΦ rest)
  | _ => exact fun _ _ h => h.elim
end
end
end Mine

namespace Mine
noncomputable def isLc : Dx → Bool
  | .lc .. => true
  | _ => false
theorem noSwD {e : Dx} (h : isLc e = false) (t : Option Expr) (k : Nat) (env : Env) : swapsWith (dE e) t k env = pure false := by
  cases e <;> first | rfl | cases h
noncomputable def GSub : Gm → Gm → Prop
  | [], _ => True
  | (i, d) :: r, Γ => Γ.lookup i = some d ∧ GSub r Γ
theorem GSub.get : ∀ {Γ' Γ : Gm}, GSub Γ' Γ → ∀ i d, Γ'.lookup i = some d → Γ.lookup i = some d
  | (j, e) :: r, Γ, h, i, d, q => by
    rw [List.lookup_cons] at q
    by_cases z : i = j
    · subst z; rw [beq_self_eq_true] at q; cases q; exact h.1
    · rw [beq_eq_false_iff_ne.mpr z] at q; exact GSub.get h.2 i d q
noncomputable def OwP (ks : List (Nat × NameKind)) (cs : List (Nat × Addr)) (β : Sto) (o : Option (Nat × List Dt)) (τ : Sto) (l : List (Nat × Value)) : Prop := match o with
  | none => True
  | some (x, xs) => ∃ acc vs, (∀ i, β acc = some i → i.own = true) ∧ NmAt ks cs τ l x (.ref acc) ∧ τ acc = some (.ls 1 vs) ∧ Dns τ vs xs
noncomputable def oNe (o : Option (Nat × List Dt)) (y : Nat) : Bool := match o with
  | none => true
  | some (x, _) => !Nat.beq x y
theorem oNe_ok {o : Option (Nat × List Dt)} {x y : Nat} {xs : List Dt} (h : oNe o y = true) (e : o = some (x, xs)) : x ≠ y := fun q => by
  subst e q
  have h : (!Nat.beq x x) = true := h
  rw [Nat.beq_refl] at h
  cases h
noncomputable def rdG (o : Option (Nat × List Dt)) (Γ : Gm) : Gm := match o with
  | none => Γ
  | some (x, xs) => (x, .list xs) :: Γ
section
variable {c : Cx nm prg KK gl bl} {ks ksC : List (Nat × NameKind)} {cs : List (Nat × Addr)} {n : Nat} {W : Wk c ks cs n} {β τ τ' : Sto} {Γ Γ' : Gm} {o : Option (Nat × List Dt)} {l l' : List (Nat × Value)} {s : Shared} {E : Value → Shared → Prop} {Q : Flow → Shared → Prop} {ss : List Stmt} {rs : List (List Stmt)} {Φ : Nat → Option (List Dt → (Dt → Prop) → Prop)}
structure SP (W : Wk c ks cs n) (β : Sto) (Γ : Gm) (o : Option (Nat × List Dt)) (τ : Sto) (l : List (Nat × Value)) : Prop where
  ds : DS W.A W.L ks cs (cellNs ks) β Γ τ l
  ow : OwP ks cs β o τ l
noncomputable def DG (W : Wk c ks cs n) (β : Sto) (Γ : Gm) (o : Option (Nat × List Dt)) (ss : List Stmt) (rs : List (List Stmt)) (Q : Flow → Shared → Prop) (E : Value → Shared → Prop) : Prop := ∀ τ l s, SP W β Γ o τ l → Rl W τ l s → XX W ss rs Q E s
theorem OwP.imp {l' : List (Nat × Value)} (h : OwP ks cs β o τ l) (k : ∀ x xs, o = some (x, xs) → OwP ks cs β (some (x, xs)) τ l → OwP ks cs β (some (x, xs)) τ' l') : OwP ks cs β o τ' l' := by
  cases o with
  | none => trivial
  | some p => exact k _ _ rfl h
theorem OwP.mono (k : Keep2 τ τ') (h : OwP ks cs β o τ l) : OwP ks cs β o τ' l := by
  cases o with
  | none => trivial
  | some p => obtain ⟨acc, vs, h1, h2, h3, h4⟩ := h; exact ⟨acc, vs, h1, h2.mono k, k _ _ h3 rfl, h4.mono k.frz⟩
theorem SP.mono (S : SP W β Γ o τ l) (k : Keep2 τ τ') : SP W β Γ o τ' l := ⟨S.ds.mono k, S.ow.mono k⟩
theorem spSto {i : Nat} {v : Value} {d : Dt} {Q : Unit → Shared → Prop} (hi : setC ks i = true) (ho : oNe o i = true) (S : SP W β Γ o τ l) (R : Rl W τ l s) (hv : Dn τ v d)
    (h : ∀ τ' l' s', SP W β ((i, d) :: Γ) o τ' l' → Kc τ τ' → Rl W τ' l' s' → Q () s') : wpAny c.M W.A (storeName W.env (nm i) v) Q E s := by
  have hi' : ks.lookup i = some .local ∨ i ∈ cellNs ks := by
    unfold setC at hi
    split at hi
    · exact .inl ‹_›
    · exact .inr (mem_cellNs ‹_›)
    · cases hi
  refine dSto hi' S.ds R hv fun τ' l' s' D k kn R' => h τ' l' s' ⟨D, ?_⟩ k R'
  refine OwP.imp S.ow fun x xs e h => ?_
  obtain ⟨acc, vs, h1, h2, h3, h4⟩ := h
  exact ⟨acc, vs, h1, kn _ _ (oNe_ok ho e) h2, k _ _ h3 rfl, h4.mono k.frz⟩
theorem gEnd {r : List Stmt} (h : DG W β Γ o r rs Q E) : DG W β Γ o [] (r :: rs) Q E := fun τ l s S R => sEnd (h τ l s S R)
theorem gAsg {i : Nat} {q p : Pos} {e : Dx} (hn : 5 ≤ n) (hΦ : PhiOk c Φ n) (hi : setC ks i = true) (ho : oNe o i = true) (hl : isLc e = false) (h : ev Φ e ks Γ fun d => DG W β ((i, d) :: Γ) o ss rs Q E) : DG W β Γ o (.Assign [.Name (nm i) q] (dE e) p :: ss) rs Q E := fun τ l s S R =>
  sStm (wpAny_Assign_Name (ev_ok hn hΦ e h S.ds R fun d v τ1 s1 hK k1 hv R1 => spSto hi ho (S.mono k1) R1 hv fun τ2 l2 s2 S2 _ R2 => hK τ2 l2 s2 S2 R2) (noSwD hl _ _ _))
theorem gAsgC {i : Nat} {q p pos : Pos} {e g : Dx} (hn : 5 ≤ n) (hΦ : PhiOk c Φ n) (hi : ks.lookup i = some .cell) (ho : oNe o i = true) (h : ev Φ (.lc e g ksC pos) ks Γ fun d => DG W β ((i, d) :: Γ) o ss rs Q E) : DG W β Γ o (.Assign [.Name (nm i) q] (dE (.lc e g ksC pos)) p :: ss) rs Q E := fun τ l s S R =>
  sStm (wpAny_Assign_Name (ev_ok hn hΦ _ h S.ds R fun d v τ1 s1 hK k1 hv R1 => spSto (by unfold setC; rw [hi]) ho (S.mono k1) R1 hv fun τ2 l2 s2 S2 _ R2 => hK τ2 l2 s2 S2 R2) (by
    show (pure (W.env.blockKind == .function && W.env.kindOf (nm i) == some .local && q.line == pos.line && !((named nm ksC).any fun (n, k) => n == nm i && (k == .local || k == .cell))) : Sem Bool) = pure false
    rw [show W.env.kindOf (nm i) = some .cell from W.V.kinds _ _ hi]
    cases W.env.blockKind <;> rfl))
theorem gAsgL {i j : Nat} {q q' p pos : Pos} {e it fs rest : Dx} (hn : 5 ≤ n) (hΦ : PhiOk c Φ n) (hi : ks.lookup i = some .local) (ho : oNe o i = true) (hno : noOwn i ksC = true) (hln : (q.line == pos.line) = true) (h : ev Φ (.lc e (.cl j q' it fs rest) ksC pos) ks Γ fun d => DG W β ((i, d) :: Γ) o ss rs Q E) :
    DG W β Γ o (.Assign [.Name (nm i) q] (dE (.lc e (.cl j q' it fs rest) ksC pos)) p :: ss) rs Q E := fun τ l s S R => by
  obtain ⟨h0, h⟩ := gB_ok h
  have h0 := and2 h0
  have hn1 : 1 ≤ n := Nat.le_trans (by decide) hn
  refine sStm (xAsgLC W.V hi rfl rfl (S.ds.freeOk h0.2) (lkOk_all h0.1 fun _ x => x) (cellNs_nodup h0.1) (S.ds.lookNo h0.1) hno hln (evI_ok hn hΦ it h S.ds R fun ds v τ1 s1 hK k1 hit R1 => ?_) (fun x => fold_dE it W.env x))
  obtain ⟨ys, T, hz, hK⟩ := hK
  refine lcTurns (Kf := fun l acc τf => ∀ s'', Rel c τf W.L (put l i (.ref acc)) s'' → nxt W ss rs Q E .next s'') hn1 h0.1 h0.2 (fun h D R q => evF_ok hn hΦ fs h D R q) (fun h C z R => evR_ok hn hΦ rest (d := 0) rfl (fun h D R q => ev_ok hn hΦ e h D R q) h C z R) T hz (S.ds.mono k1) R1 hit fun acc τf ha haL kf hac s'' R'' => ?_
  obtain ⟨vs, g1, g2⟩ := hac
  have R3 := R''.tag (t' := 0) g1
  have kf2 : Frz τf (upd τf acc (.ls 0 vs)) := fun a us e => (upd_ne (ne_of_it e g1 nofun)).trans e
  have k3 : Keep2 τ (upd τf acc (.ls 0 vs)) := fun a i e t => (upd_ne (ne_of_none (k1 _ _ e t) ha)).trans (kf _ _ (k1 _ _ e t) t)
  have S3 := S.mono k3
  refine hK _ _ _ ⟨⟨S3.ds.lv, S3.ds.up, fun j e he => ?_, S3.ds.ow, S3.ds.inj⟩, ?_⟩ R3
  · rw [List.lookup_cons] at he
    by_cases z : j = i
    · subst z
      rw [beq_self_eq_true] at he
      cases he
      exact ⟨_, ⟨acc, vs, rfl, upd_self, g2.mono kf2⟩, .inl ⟨hi, lookup_put_self⟩⟩
    · rw [beq_eq_false_iff_ne.mpr z] at he
      obtain ⟨u, h1, h2⟩ := S3.ds.sat j e he
      exact ⟨u, h1, h2.imp (fun ⟨g1, g2⟩ => ⟨g1, (lookup_put_ne z).trans g2⟩) id⟩
  · refine OwP.imp S3.ow fun x xs e h => ?_
    obtain ⟨acc, vs, h1, h2, h3, h4⟩ := h
    exact ⟨acc, vs, h1, h2.imp (fun g => ⟨g.1, (lookup_put_ne (oNe_ok ho e)).trans g.2⟩) id, h3, h4⟩
theorem gRet {p : Pos} {e : Dx} (hn : 5 ≤ n) (hΦ : PhiOk c Φ n) (h : ev Φ e ks Γ fun d => ∀ v τ l s, Keep2 β τ → Dn τ v d → Rl W τ l s → Q (.ret v) s) : DG W β Γ o (.Return (some (dE e)) p :: ss) rs Q E := fun τ l s S R =>
  sStm (wpAny_Return_some (ev_ok hn hΦ e h S.ds R fun d v τ1 s1 hK k1 hv R1 => hK v τ1 l s1 (S.ds.up.trans k1) hv R1))
theorem SP.froz {x : Nat} {xs : List Dt} (S : SP W β Γ (some (x, xs)) τ l) : ∃ acc vs, τ acc = some (.ls 1 vs) ∧ DS W.A W.L ks cs (cellNs ks) β ((x, .list xs) :: Γ) (upd τ acc (.ls 0 vs)) l := by
  obtain ⟨acc, vs, h1, h2, h3, h4⟩ := S.ow
  have kf : Frz τ (upd τ acc (.ls 0 vs)) := fun a us e => (upd_ne (ne_of_it e h3 nofun)).trans e
  have ko : ∀ {a j}, τ a = some j → j.tag ≠ 1 → upd τ acc (.ls 0 vs) a = some j := fun e t => (upd_ne (ne_of_it e h3 fun q => t (by rw [q]; rfl))).trans e
  have kn : ∀ {i v}, NmAt ks cs τ l i v → NmAt ks cs (upd τ acc (.ls 0 vs)) l i v := fun h => h.imp id fun ⟨g3, a, g4, g5⟩ => ⟨g3, a, g4, ko g5 nofun⟩
  have D := S.ds
  refine ⟨acc, vs, h3, D.lv, fun a j e t => (upd_ne fun q => by subst q; have := h1 _ e; rw [t] at this; cases this).trans (D.up _ _ e t), fun i d e => ?_, fun i hi => ?_, D.inj⟩
  · rw [List.lookup_cons] at e
    by_cases z : i = x
    · subst z
      rw [beq_self_eq_true] at e
      cases e
      exact ⟨_, ⟨acc, vs, rfl, upd_self, h4.mono kf⟩, kn h2⟩
    · rw [beq_eq_false_iff_ne.mpr z] at e
      obtain ⟨u, g1, g2⟩ := D.sat i d e
      exact ⟨u, g1.mono kf, kn g2⟩
  · obtain ⟨g1, a, ov, g2, g3, g4⟩ := D.ow i hi
    exact ⟨g1, a, ov, g2, g3, ko g4 nofun⟩
theorem gFrz {x : Nat} {xs : List Dt} (h : DG W β ((x, .list xs) :: Γ) none ss rs Q E) : DG W β Γ (some (x, xs)) ss rs Q E := fun τ l s S R => by
  obtain ⟨acc, vs, h3, D⟩ := S.froz
  exact h _ l s ⟨D, trivial⟩ (R.tag (t' := 0) h3)
theorem Rel.tell {D : Addr} {i : It} (R : Rel c τ L l s) (h0 : c.h₀.get? D = none) (hL : D ≠ L) (hi : i.sat nm s.heap D) : Rel c (upd τ D i) L l s :=
  ⟨R.keep, fun a j e => by
    by_cases q : a = D
    · subst q; rw [upd_self] at e; cases e; exact hi
    · rw [upd_ne q] at e; exact R.sat a j e, fun a j e => by
    by_cases q : a = D
    · subst q; exact .inr h0
    · rw [upd_ne q] at e; exact R.new a j e, R.here, R.newL, by rw [upd_ne (Ne.symm hL)]; exact R.apart, R.gens, R.os⟩
theorem spTest {t : Dx} {K : Bool → Prop} {Q : Bool → Shared → Prop} (hn : 5 ≤ n) (hΦ : PhiOk c Φ n) (h : evT Φ t ks (rdG o Γ) K) (S : SP W β Γ o τ l) (R : Rl W τ l s) (q : ∀ b τ' s', K b → SP W β Γ o τ' l → Rl W τ' l s' → Q b s') : wpAny c.M W.A (isTrue (dE t) W.env (eval (dE t) W.env)) Q E s := by
  cases o with
  | none => exact evT_ok hn hΦ t h S.ds R fun b τ' s' hb k R' => q b τ' s' hb (S.mono k) R'
  | some p =>
    obtain ⟨acc, vs, h3, D⟩ := S.froz
    refine evT_ok hn hΦ t h D (R.tag (t' := 0) h3) fun b τ' s' hb k R' => q b _ s' hb (S.mono fun a i e t => ?_) (R'.tell (i := .ls 1 vs) (R.newN h3 rfl) (R.neL h3) (R'.getL (k _ _ upd_self rfl)))
    by_cases z : a = acc
    · subst z; rw [upd_self]; rw [h3] at e; exact e
    · exact (upd_ne z).trans (k _ _ ((upd_ne z).trans e) t)
end
end Mine

namespace Mine
section
variable {c : Cx nm prg KK gl bl} {ks ksC : List (Nat × NameKind)} {cs : List (Nat × Addr)} {n : Nat} {W : Wk c ks cs n} {β τ τ' : Sto} {Γ Γ' : Gm} {o : Option (Nat × List Dt)} {l l' : List (Nat × Value)} {s : Shared} {E : Value → Shared → Prop} {Q : Flow → Shared → Prop} {ss : List Stmt} {rs : List (List Stmt)} {Φ : Nat → Option (List Dt → (Dt → Prop) → Prop)}
theorem gIf {t : Dx} {b e : List Stmt} {p : Pos} (hn : 5 ≤ n) (hΦ : PhiOk c Φ n) (h : evT Φ t ks (rdG o Γ) fun z => (z = true → DG W β Γ o b (ss :: rs) Q E) ∧ (z = false → DG W β Γ o e (ss :: rs) Q E)) : DG W β Γ o (.If (dE t) b e p :: ss) rs Q E := fun τ l s S R =>
  sIf0 (spTest hn hΦ h S R fun z τ' s' hz S' R' => ⟨fun q => hz.1 q τ' l s' S' R', fun q => hz.2 q τ' l s' S' R'⟩)
theorem setC_own {i : Nat} (hi : setC ks i = true) : ks.lookup i = some .local ∨ i ∈ cellNs ks := by
  unfold setC at hi
  split at hi
  · exact .inl ‹_›
  · exact .inr (mem_cellNs ‹_›)
  · cases hi
theorem gT2 {i j k : Nat} {pi pj tp p : Pos} {e : Dx} (hn : 5 ≤ n) (hΦ : PhiOk c Φ n) (hi : setC ks i = true) (hj : setC ks j = true) (ho : oNe o i = true) (ho' : oNe o j = true) (h : ev Φ e ks Γ fun d => ∃ x y, d = .list [x, y] ∧ DG W β ((j, y) :: (i, x) :: Γ) o ss rs Q E) :
    DG W β Γ o (.Assign [.Tuple [.Name (nm i) pi, .Name (nm j) pj] k tp] (dE e) p :: ss) rs Q E := fun τ l s S R =>
  sStm (Assign_Tuple (ev_ok hn hΦ e h S.ds R fun d v τ1 s1 hK k1 hv R1 => by
    obtain ⟨x, y, rfl, hK⟩ := hK
    obtain ⟨a, vs, rfl, h1, h2⟩ := hv.lst
    obtain ⟨u, w, rfl, hu, hw⟩ := Dns.two h2
    exact aPairG (t := 0) (W.H.le (Nat.le_trans (by decide) hn)) R1 h1 fun s2 R2 => wpAny_assign_Name (spSto hi ho (S.mono k1) R2 hu fun τ3 l3 s3 S3 k3 R3 => wpAny_assign_Name (spSto hj ho' S3 R3 (hw.mono k3.frz) fun τ4 l4 s4 S4 _ R4 => hK τ4 l4 s4 S4 R4))) (by cases e <;> rfl) (by cases e <;> rfl))
theorem gNew {i : Nat} {q p1 p : Pos} {es : Dx} (hn : 5 ≤ n) (hΦ : PhiOk c Φ n) (hi : setC ks i = true) (hno : Γ.lookup i = none) (h : evL Φ es ks Γ fun ds => ds.length < 100000 ∧ DG W β Γ (some (i, ds)) ss rs Q E) : DG W β Γ none (.Assign [.Name (nm i) q] (dE (.lst es p1)) p :: ss) rs Q E := fun τ l s S R =>
  sStm (wpAny_Assign_Name (xList (evL_ok hn hΦ es h S.ds R fun ds vs τ1 s1 hK k1 hv R1 => nList 1 R1 (by rw [hv.length]; exact hK.1) fun a s2 n1 n2 R2 => by
    have kf : Keep2 τ1 (upd τ1 a (.ls 1 vs)) := Keep2.up n1
    refine dStoG (Γ' := Γ) (setC_own hi) (S.ds.mono (k1.trans kf)) R2 (fun j d e => .inl ⟨fun z => (by subst z; rw [hno] at e; cases e), e⟩) fun τ3 l3 s3 D3 k3 here _ R3 => hK.2 τ3 l3 s3 ⟨D3, a, vs, fun i e => ?_, here, k3 _ _ upd_self rfl, (hv.mono kf.frz).mono k3.frz⟩ R3
    cases hi' : i.own with
    | true => rfl
    | false => rw [k1 _ _ (S.ds.up _ _ e hi') hi'] at n1; cases n1)) rfl)
theorem gNewL {i : Nat} {q q' p1 p : Pos} {e : Dx} (hn : 5 ≤ n) (hΦ : PhiOk c Φ n) (hi : setC ks i = true) (hno : Γ.lookup i = none) (hk : glbC ks 85 = true) (h : ev Φ e ks Γ fun d => lisD d fun ds => ds.length < 100000 ∧ DG W β Γ (some (i, ds)) ss rs Q E) : DG W β Γ none (.Assign [.Name (nm i) q] (dE (.call 85 q' (.cons e .nil) p1)) p :: ss) rs Q E := fun τ l s S R =>
  sStm (wpAny_Assign_Name (Call_ (ldB W.V R (glb_look hk) (v := .type "list") rfl (callN_ok (W := W) (f := .type "list") trivial (fine_dE e _) (fun _ => rfl) (args_cons (ev_ok hn hΦ e h S.ds R fun d v τ1 s1 hK k1 hv R1 => args_nil ⟨⟨_, _, _, R1⟩, by
    cases d with
    | list ds =>
      obtain ⟨b, vs, rfl, h1, h2⟩ := hv.lst
      refine bListL 1 R1 h1 (by rw [h2.length]; exact hK.1) fun a s2 n1 n2 R2 => ?_
      have kf : Keep2 τ1 (upd τ1 a (.ls 1 vs)) := Keep2.up n1
      refine dStoG (Γ' := Γ) (setC_own hi) (S.ds.mono (k1.trans kf)) R2 (fun j d e => .inl ⟨fun z => (by subst z; rw [hno] at e; cases e), e⟩) fun τ3 l3 s3 D3 k3 here _ R3 => hK.2 τ3 l3 s3 ⟨D3, a, vs, fun i e => ?_, here, k3 _ _ upd_self rfl, (h2.mono kf.frz).mono k3.frz⟩ R3
      cases hi' : i.own with
      | true => rfl
      | false => rw [k1 _ _ (S.ds.up _ _ e hi') hi'] at n1; cases n1
    | _ => exact hK.elim⟩) (fine_dE _ _ _)))) rfl) rfl)
theorem gApp {x : Nat} {xs : List Dt} {q1 q2 p1 p : Pos} {e : Dx} (hn : 5 ≤ n) (hΦ : PhiOk c Φ n) (hln : (q2.endLine == p1.line) = true) (hz : xs.length < 100000) (h : ev Φ e ks Γ fun d => DG W β Γ (some (x, xs ++ [d])) ss rs Q E) :
    DG W β Γ (some (x, xs)) (.Expr (.Call (.Attribute (.Name (nm x) q1) (nm 40) q2) [dE e] [] p1) p :: ss) rs Q E := fun τ l s S R => by
  obtain ⟨acc, vs, h1, h2, h3, h4⟩ := S.ow
  refine sStm (xExprA W.V (cmM (nm_ok R h2 (mList PySem.F.slot_list_append PySem.F.type_list_append R h3 (callN_ok (W := W) (f := .builtin "list.append") trivial (fine_dE e _) (fun _ => rfl) (args_cons (ev_ok hn hΦ e h S.ds R fun d v τ1 s1 hK k1 hv R1 => args_nil ⟨⟨_, _, _, R1⟩, ?_⟩) (fine_dE _ _ _))))) (methD (o := .nm x q1) rfl hln (by rw [fine_dE]; rfl))) rfl)
  have h5 := k1 _ _ h3 rfl
  refine bAppend R1 h5 (by rw [h4.length]; exact hz) fun s2 R2 => hK _ l s2 ⟨?_, acc, vs ++ [v], h1, ?_, upd_self, ?_⟩ R2
  · have D := S.ds.mono k1
    have ko : ∀ {a j}, τ1 a = some j → j.tag ≠ 1 → upd τ1 acc (.ls 1 (vs ++ [v])) a = some j := fun e t => (upd_ne (ne_of_it e h5 fun q => t (by rw [q]; rfl))).trans e
    refine ⟨D.lv, fun a j e t => ?_, fun i d e => ?_, fun i hi => ?_, D.inj⟩
    · exact (upd_ne fun q => by subst q; have := h1 _ e; rw [t] at this; cases this).trans (D.up _ _ e t)
    · obtain ⟨u, g1, g2⟩ := D.sat i d e
      exact ⟨u, g1.mono fun a us e => ko e nofun, g2.imp id fun ⟨g3, a, g4, g5⟩ => ⟨g3, a, g4, ko g5 nofun⟩⟩
    · obtain ⟨g1, a, ov, g2, g3, g4⟩ := D.ow i hi
      exact ⟨g1, a, ov, g2, g3, ko g4 nofun⟩
  · exact (h2.mono k1).imp id fun ⟨g3, a, g4, g5⟩ => ⟨g3, a, g4, (upd_ne (ne_of_it g5 h5 nofun)).trans g5⟩
  · have kf : Frz τ1 (upd τ1 acc (.ls 1 (vs ++ [v]))) := fun a us e => (upd_ne (ne_of_it e h5 nofun)).trans e
    exact ((h4.mono k1.frz).mono kf).append ⟨hv.mono kf, trivial⟩
theorem SP.itIn {it : Addr} {i : It} (S : SP W β Γ o τ l) (h : τ it = none) (hi : i.own = false) : SP W (upd β it i) Γ o (upd τ it i) l := by
  refine ⟨S.ds.itIn h hi, ?_⟩
  have ow := S.ow
  cases o with
  | none => trivial
  | some p =>
    obtain ⟨acc, vs, h1, h2, h3, h4⟩ := ow
    have hne : acc ≠ it := ne_of_none h3 h
    exact ⟨acc, vs, fun i e => h1 i ((upd_ne hne).symm.trans e), h2.mono (Keep2.up h), (upd_ne hne).trans h3, h4.mono (Keep2.up h).frz⟩
theorem SP.itOut {it : Addr} {i : It} {τ0 : Sto} (S : SP W (upd β it i) Γ o τ l) (h : Keep2 β τ0) (h0 : τ0 it = none) (hi : i.tag = 1) : SP W β Γ o (del τ it) l := by
  refine ⟨S.ds.itOut h h0 hi, ?_⟩
  have ho : i.own = false := by unfold It.own; rw [hi]; rfl
  have eit : τ it = some i := S.ds.up _ _ upd_self ho
  have ow := S.ow
  cases o with
  | none => trivial
  | some p =>
    obtain ⟨acc, vs, h1, h2, h3, h4⟩ := ow
    have hne : acc ≠ it := fun q => by subst q; have := h1 _ upd_self; rw [ho] at this; cases this
    exact ⟨acc, vs, fun i e => h1 i ((upd_ne hne).trans e), h2.imp id fun ⟨g3, a, g4, g5⟩ => ⟨g3, a, g4, (del_ne (ne_of_it g5 eit fun q => by subst q; cases hi)).trans g5⟩, (del_ne hne).trans h3, h4.mono (frz_del eit hi)⟩
structure Lq {α : Type} (W : Wk c ks cs n) (β β' : Sto) (G : α → Gm) (O : α → Option (Nat × List Dt)) (P : α → Prop) (Q Qb : Flow → Shared → Prop) : Prop where
  nx : ∀ x Γ', P x → GSub (G x) Γ' → ∀ τ l s, SP W β' Γ' (O x) τ l → Rl W τ l s → Qb .next s
  rt : ∀ v s, Q (.ret v) s → Qb (.ret v) s
  kb : Keep2 β β'
theorem Lq.end {α : Type} {β' : Sto} {G : α → Gm} {O : α → Option (Nat × List Dt)} {P : α → Prop} {Qb : Flow → Shared → Prop} (q : Lq W β β' G O P Q Qb) (x : α) (h : P x) (k : GSub (G x) Γ) : DG W β' Γ (O x) [] [] Qb E := fun τ l s S R => sEnd0 (q.nx x Γ h k τ l s S R)
theorem gFor {α : Type} {i : Nat} {q p : Pos} {it : Dx} {b : List Stmt} (ds : List Dt) (G : α → Gm) (O : α → Option (Nat × List Dt)) (P : Nat → α → Prop) (x0 : α) (hn : 5 ≤ n) (hΦ : PhiOk c Φ n) (hI : evI Φ it ks Γ fun ds' => ds' = ds) (hi : setC ks i = true) (ho : ∀ x, oNe (O x) i = true)
    (hs : GSub (G x0) Γ) (hO : O x0 = o) (h0 : P 0 x0) (turn : ∀ j d x β' F Qb, ds[j]? = some d → P j x → Lq W β β' G O (P (j + 1)) Q Qb → DG W β' ((i, d) :: G x) (O x) b [] Qb F) (fin : ∀ x, P ds.length x → DG W β (G x) (O x) ss rs Q E) :
    DG W β Γ o (.For (.Name (nm i) q) (dE it) b [] p :: ss) rs Q E := fun τ l s S R => by
  subst hO
  refine sStm (wpAny_For (evI_ok hn hΦ it hI S.ds R fun ds' v τ1 s1 e k1 hit R1 => ?_) (fun x => fold_dE it W.env x))
  subst e
  have S1 := S.mono k1
  obtain ⟨acc, hacc, hb⟩ : ∃ acc, OwP ks cs (basO β τ1 acc) (O x0) τ1 l ∧ Itb (basO β τ1 acc) v ds' := by
    have ow := S1.ow
    cases e : O x0 with
    | none => exact ⟨W.L, trivial, hit.imp (fun ⟨a, vs, h1, h2, h3⟩ => ⟨a, vs, h1, basO_keep h2 (R1.neL h2) nofun, h3.mono fun b us e => basO_keep e (R1.neL e) nofun⟩) fun ⟨a, m, h1, h2, h3⟩ => ⟨a, m, h1, basO_keep h2 (R1.neL h2) nofun, h3⟩⟩
    | some p =>
      rw [e] at ow
      obtain ⟨acc, vs, h1, h2, h3, h4⟩ := ow
      exact ⟨acc, ⟨acc, vs, (fun i e => by rw [basO_none h1 (.inl rfl)] at e; cases e), h2, h3, h4⟩, hit.bas h3⟩
  refine itb_go (β := basO β τ1 acc) hb (fun a i e _ => basO_sub e) R1 fun itr Pp Sp D s2 Dr hP hD hS n1 R2 => ?_
  have hSo : ∀ j, (Sp j).own = false := fun j => by unfold It.own; rw [hS]; rfl
  have kb0 : Keep2 β (basO β τ1 acc) := basO_base S1.ds.up
  refine forGo (c := c) (L := W.L) (fun j τ l => ∃ x, P j x ∧ SP W (basO β τ1 acc) (G x) (O x) τ l) (W.H.le (Nat.le_trans (by decide) hn)) Dr (fun j τ l ⟨x, _, S⟩ => hD τ S.ds.up) R2 n1 ⟨x0, h0, S1.ds.re.sub hs.get, hacc⟩ (fun j v τ l s F hj hp hI hit R => ?_) fun τ l s F ⟨x, hx, S2⟩ R => wpAny_execs_nil ?_
  · obtain ⟨x, hx, S2⟩ := hI
    obtain ⟨d, hd, hv⟩ := hP j v hj hp
    have k2 : Keep2 τ (upd τ itr (Sp (j + 1))) := Keep2.up hit
    have out : ∀ x Γ', P (j + 1) x → GSub (G x) Γ' → ∀ τ' l' s', SP W (upd (basO β τ1 acc) itr (Sp (j + 1))) Γ' (O x) τ' l' → Rl W τ' l' s' → ∃ τ₁ l₁, Rel c (upd τ₁ itr (Sp (j + 1))) W.L l₁ s' ∧ τ₁ itr = none ∧ ∃ x, P (j + 1) x ∧ SP W (basO β τ1 acc) (G x) (O x) τ₁ l₁ := fun x Γ' hx hg τ' l' s' S3 R3 => by
      have eit : τ' itr = some (Sp (j + 1)) := S3.ds.up _ _ upd_self (hSo _)
      have S4 := S3.itOut S2.ds.up hit (hS _)
      exact ⟨del τ' itr, l', by rw [upd_del' eit]; exact R3, del_self, x, hx, S4.ds.sub hg.get, S4.ow⟩
    have kb : Keep2 β (upd (basO β τ1 acc) itr (Sp (j + 1))) := fun a i e t => (upd_ne fun z => by subst z; rw [S2.ds.up _ _ (kb0 _ _ e t) t] at hit; cases hit).trans (kb0 _ _ e t)
    refine wpAny_assign_Name (spSto hi (ho x) (S2.itIn hit (hSo _)) R (hv _ (S2.ds.up.trans k2)) fun τ3 l3 s3 S3 _ R3 => ?_)
    refine wpAny_mono (turn j d x _ F (fun f s₃ => match f with
            | .next | .cont => ∃ τ' l', Rel c (upd τ' itr (Sp (j + 1))) W.L l' s₃ ∧ τ' itr = none ∧ ∃ x, P (j + 1) x ∧ SP W (basO β τ1 acc) (G x) (O x) τ' l'
            | .brk => nxt W ss rs Q E .next s₃
            | .ret v => nxt W ss rs Q E (.ret v) s₃) hd hx ⟨out, fun v s q => q, kb⟩ τ3 l3 s3 S3 R3) (fun f s4 q => ?_) fun _ _ e => e
    cases f <;> exact q
  · refine fin x hx τ l s ⟨S1.ds.un S2.ds, ?_⟩ R
    have ow := S2.ow
    cases e : O x with
    | none => trivial
    | some p =>
      rw [e] at ow
      obtain ⟨a, vs, h1, h2, h3, h4⟩ := ow
      refine ⟨a, vs, fun i q => ?_, h2, h3, h4⟩
      cases hi' : i.own with
      | true => rfl
      | false => have := h1 _ (kb0 _ _ q hi'); rw [hi'] at this; cases this
end
end Mine

namespace Mine
section
variable {c : Cx nm prg KK gl bl} {A : Around} {E : Value → Shared → Prop} {ks : List (Nat × NameKind)} {cs : List (Nat × Addr)} {n : Nat} {β τ : Sto} {Γ : Gm} {L : Addr} {l : List (Nat × Value)} {s : Shared}
theorem DS.bind (hk : ndK ks = true) : ∀ (is : List Nat) (vs : List Value) (ds : List Dt) {Γ τ l}, DS A L ks cs (cellNs ks) β Γ τ l → Dns τ vs ds → is.length = ds.length → is.all (setC ks) = true →
    bindOk ks cs (is.zip vs) τ ∧ DS A L ks cs (cellNs ks) β ((is.zip ds).reverse ++ Γ) (bindGo ks cs (is.zip vs) τ l).1 (bindGo ks cs (is.zip vs) τ l).2
  | [], vs, ds, Γ, τ, l, D, _, hl, _ => by
    cases ds with
    | nil => exact ⟨trivial, D⟩
    | cons => cases hl
  | i :: is, v :: vs, d :: ds, Γ, τ, l, D, hv, hl, ha => by
    rw [List.all_cons, Bool.and_eq_true] at ha
    have hl : is.length = ds.length := by simpa using hl
    have e0 : ((i :: is).zip (d :: ds)).reverse ++ Γ = (is.zip ds).reverse ++ ((i, d) :: Γ) := by rw [List.zip_cons_cons, List.reverse_cons, List.append_assoc]; rfl
    rw [e0]
    rcases setC_own ha.1 with hi | hi
    · have e : bindGo ks cs ((i, v) :: is.zip vs) τ l = bindGo ks cs (is.zip vs) τ (put l i v) := by
        show (match ks.lookup i, cs.lookup i with
          | some .cell, some a => bindGo ks cs (is.zip vs) (upd τ a (.ob 8 (cellOb (some v)))) l
          | _, _ => bindGo ks cs (is.zip vs) τ (put l i v)) = _
        rw [hi]
      have D' : DS A L ks cs (cellNs ks) β ((i, d) :: Γ) τ (put l i v) := ⟨D.lv, D.up, fun j e he => by
        rcases cons_look (Γ := Γ) hv.1 j e he with ⟨z, he⟩ | ⟨rfl, hv⟩
        · obtain ⟨u, h1, h2⟩ := D.sat j e he
          exact ⟨u, h1, h2.imp (fun ⟨g1, g2⟩ => ⟨g1, (lookup_put_ne z).trans g2⟩) id⟩
        · exact ⟨v, hv, .inl ⟨hi, lookup_put_self⟩⟩, D.ow, D.inj⟩
      obtain ⟨h1, h2⟩ := DS.bind hk is vs ds D' hv.2 hl ha.2
      exact ⟨.inl ⟨hi, h1⟩, by rw [List.zip_cons_cons, e]; exact h2⟩
    · obtain ⟨h1, a, ov, h2, h3, h4⟩ := D.ow i hi
      have e : bindGo ks cs ((i, v) :: is.zip vs) τ l = bindGo ks cs (is.zip vs) (upd τ a (.ob 8 (cellOb (some v)))) l := by
        show (match ks.lookup i, cs.lookup i with
          | some .cell, some a => bindGo ks cs (is.zip vs) (upd τ a (.ob 8 (cellOb (some v)))) l
          | _, _ => bindGo ks cs (is.zip vs) τ (put l i v)) = _
        rw [h1, h2]
      have k : ∀ {b j}, τ b = some j → b ≠ a → upd τ a (.ob 8 (cellOb (some v))) b = some j := fun e z => (upd_ne z).trans e
      have kl : Frz τ (upd τ a (.ob 8 (cellOb (some v)))) := fun b vs e => k e (ne_of_it e h4 nofun)
      have D' : DS A L ks cs (cellNs ks) β ((i, d) :: Γ) (upd τ a (.ob 8 (cellOb (some v)))) l := ⟨D.lv, fun b j eb t => k (D.up _ _ eb t) (fun z => by subst z; rw [h3] at eb; cases eb), fun j e he => by
        rcases cons_look (Γ := Γ) hv.1 j e he with ⟨z, he⟩ | ⟨rfl, hv⟩
        · obtain ⟨u, g1, g2⟩ := D.sat j e he
          exact ⟨u, g1.mono kl, g2.imp id fun ⟨g3, b, g4, g5⟩ => ⟨g3, b, g4, k g5 fun y => z (D.inj _ _ _ (y ▸ g4) h2)⟩⟩
        · exact ⟨v, hv.mono kl, .inr ⟨h1, a, h2, upd_self⟩⟩, fun j hj => by
        obtain ⟨g1, b, ov', g2, g3, g4⟩ := D.ow j hj
        by_cases z : b = a
        · subst z; exact ⟨g1, b, _, g2, g3, upd_self⟩
        · exact ⟨g1, b, ov', g2, g3, k g4 z⟩, D.inj⟩
      obtain ⟨f1, f2⟩ := DS.bind hk is vs ds D' (hv.2.mono kl) hl ha.2
      exact ⟨.inr ⟨h1, a, ov, h2, h4, f1⟩, by rw [List.zip_cons_cons, e]; exact f2⟩
  | i :: is, v :: vs, [], _, _, _, _, hv, _, _ => hv.elim
  | i :: is, [], d :: ds, _, _, _, _, hv, _, _ => hv.elim
  | i :: is, [], [], _, _, _, _, _, hl, _ => by cases hl
theorem callD2 {f : Addr} {name qual : Str} {params : Arguments} {body : List Stmt} {scope : Scope} {dV kV doc pm cdv ct oc : Value} {an od : Option Addr} {osl : Array (Option Value)} {is : List Nat} {vs : List Value} {ds : List Dt} {K : Dt → Prop} {Q : Value → Shared → Prop}
    (H : Ok (n + 1) A) (LA : LvA A τ L) (R : Rel c τ L l s) (hv : Dns τ vs ds) (q : ∀ d v τ' s', K d → Keep2 τ τ' → Dn τ' v d → Rel c τ' L l s' → Q v s') (ho : c.K.lookup f = some ⟨oc, od, .func (fnOf name qual params body scope dV kV doc pm an cdv ct), osl⟩) (hcd : codeIn c.K cdv qual = true)
    (hsc : scope.kind = .function ∧ scope.isGenerator = false ∧ scope.isCoroutine = false) (hn : scope.names = named nm ks) (hk : ndK ks = true)
    (hbind : BindsTo s (fnOf name qual params body scope dV kV doc pm an cdv ct) ⟨vs, []⟩ (named nm (is.zip vs))) (hpar : is.all (setC ks) = true) (hlen : is.length = ds.length)
    (h : ∀ {cs} (W : Wk c ks cs n) β Q' E', Lv W.A W.env β W.L → (∀ v d τ' l' s', K d → Keep2 β τ' → Dn τ' v d → Rl W τ' l' s' → Q' (.ret v) s') → DG W β ((is.zip ds).reverse ++ []) none body [] Q' E') :
    wpAny c.M A (call (.ref f) vs) Q E s := by
  refine wpAny_call (codeAny_call_function H.room (R.frag _ _ ho) rfl hsc.2.2 hsc.2.1 rfl (codeRec_of R.frag hcd) (hbind _ _ _ _ ?_))
  have R0 := R
  refine layEnv (lb := is.zip vs) (closure := []) R hsc.1 hn (cellNs_nodup hk) (fun _ _ => rfl) (fun o ho => nomatch ho) fun as C env' b1 b2 b3 b4 b5 b6 => ?_
  have kL : Keep2 τ (upd τ L (.fr l)) := Keep2.up R0.apart
  have nd := b4.nodup
  have hin : ∀ a ∈ as, (upd τ L (.fr l)) a = none := fun a ha => b4.none ha
  have hce : Keep2 (upd τ L (.fr l)) (cellsOn (upd τ L (.fr l)) as) := fun a i e t => (cellsOn_ne fun q => by rw [hin a q] at e; cases e).trans e
  have lkz : ∀ {i a}, ((cellNs ks).zip as ++ ([] : List (Nat × Addr))).lookup i = some a → ((cellNs ks).zip as).lookup i = some a := fun h => by rwa [List.append_nil] at h
  have D : DS (A.deeper env') C ks ((cellNs ks).zip as ++ []) (cellNs ks) (upd τ L (.fr l)) [] (cellsOn (upd τ L (.fr l)) as) [] := by
    refine ⟨?_, hce, (fun i d e => by cases e), fun i hi => ?_, fun i j a e1 e2 => zip_inj nd (lkz e1) (lkz e2)⟩
    · obtain ⟨fr, g1, g2⟩ := LA
      refine ⟨env' :: fr, by show A.frames.map _ = _; rw [g1]; rfl, fun e he => ?_⟩
      rcases List.mem_cons.mp he with rfl | he
      · exact ⟨b6.fn, C, by subst b5; rfl, .inl rfl⟩
      · obtain ⟨g3, f, g4, g5⟩ := g2 e he
        refine ⟨g3, f, g4, .inr ?_⟩
        rcases g5 with rfl | ⟨l', g5⟩
        · exact ⟨l, upd_self⟩
        · exact ⟨l', kL _ _ g5 rfl⟩
    · obtain ⟨a, g1, g2⟩ := zip_look b1 hi
      exact ⟨ndK_look hk (cellNs_mem hi), a, none, by rw [List.append_nil]; exact g2, hin a g1, cellsOn_at nd g1⟩
  have LV : Lv (A.deeper env') env' (upd τ L (.fr l)) C := by
    obtain ⟨fr, g1, g2⟩ := LA
    refine ⟨by subst b5; rfl, b6.fn, fr, by show A.frames.map _ = _; rw [g1]; rfl, fun e he => ?_⟩
    obtain ⟨g3, f, g4, g5⟩ := g2 e he
    refine ⟨g3, f, ?_⟩
    rcases g5 with rfl | ⟨l', g5⟩
    · exact ⟨l, g4, upd_self⟩
    · exact ⟨l', g4, kL _ _ g5 rfl⟩
  obtain ⟨f1, f2⟩ := DS.bind hk is vs ds (Γ := []) D ((hv.mono kL.frz).mono hce.frz) hlen hpar
  refine ⟨f1, fun s1 R1 => ⟨R1.nolimit, codeAny_func ?_⟩⟩
  have := h (⟨A.deeper env', env', C, b6, H.deeper env'⟩ : Wk c ks _ n) (upd τ L (.fr l)) (fun fl s'' => Q (flowVal fl) s'') (fun e s' => wpAny c.M (A.deeper env') («leaving» env' e) (fun _ s'' => E e s'') (fun e' s'' => E e' s'') s') LV (fun v d τ' l' s' hK k hd R' => by
    obtain ⟨R2, k2, _⟩ := ret2 R0.apart k R'
    have eL : τ' L = some (.fr l) := k _ _ upd_self rfl
    exact q d v _ s' hK k2 (hd.mono fun a us e => (del_ne (ne_of_it e eL nofun)).trans e) R2) _ _ s1 ⟨f2, trivial⟩ R1
  exact this
theorem callD {f : Addr} {name qual : Str} {params : Arguments} {body : List Stmt} {scope : Scope} {dV kV doc pm cdv ct oc : Value} {an od : Option Addr} {osl : Array (Option Value)} {is : List Nat} {vs : List Value} {ds : List Dt} {K : Dt → Prop} {Q : Value → Shared → Prop}
    (H : Ok (n + 1) A) (LA : LvA A τ L) (R : Rel c τ L l s) (hv : Dns τ vs ds) (q : ∀ d v τ' s', K d → Keep2 τ τ' → Dn τ' v d → Rel c τ' L l s' → Q v s') (ho : c.K.lookup f = some ⟨oc, od, .func (fnOf name qual params body scope dV kV doc pm an cdv ct), osl⟩) (hcd : codeIn c.K cdv qual = true)
    (hsc : scope.kind = .function ∧ scope.isGenerator = false ∧ scope.isCoroutine = false) (hn : scope.names = named nm ks) (hk : ndK ks = true)
    (hbind : BindsTo s (fnOf name qual params body scope dV kV doc pm an cdv ct) ⟨vs, []⟩ (named nm (is.zip vs))) (hpar : is.all (setC ks) = true) (hlen : is.length = ds.length)
    (h : ∀ {cs} (W : Wk c ks cs n) β Q' E', (∀ v d τ' l' s', K d → Keep2 β τ' → Dn τ' v d → Rl W τ' l' s' → Q' (.ret v) s') → DG W β ((is.zip ds).reverse ++ []) none body [] Q' E') :
    wpAny c.M A (call (.ref f) vs) Q E s := callD2 H LA R hv q ho hcd hsc hn hk hbind hpar hlen fun W β Q' E' _ hq => h W β Q' E' hq
end
end Mine

namespace Mine
theorem r_nm (i : Nat) (p : Pos) : Expr.Name (nm i) p = dE (.nm i p) := rfl
theorem r_int (k : Int) (m : Nat) (p : Pos) : Expr.Constant (.int k) m p = dE (.int k m p) := rfl
theorem r_non (m : Nat) (p : Pos) : Expr.Constant .none m p = dE (.non m p) := rfl
theorem r_bool (b : Bool) (m : Nat) (p : Pos) : Expr.Constant (.bool b) m p = dE (.bool b m p) := rfl
theorem r_bin (a : Dx) (op : Operator) (b : Dx) (p : Pos) : Expr.BinOp (dE a) op (dE b) p = dE (.bin a op b p) := rfl
theorem r_neg (a : Dx) (p : Pos) : Expr.UnaryOp .USub (dE a) p = dE (.neg a p) := rfl
theorem r_not (a : Dx) (p : Pos) : Expr.UnaryOp .Not (dE a) p = dE (.not a p) := rfl
theorem r_cmp (a : Dx) (op : CmpOp) (b : Dx) (p : Pos) : Expr.Compare (dE a) [op] (dL (.cons b .nil)) p = dE (.cmp a op b p) := rfl
theorem r_con (op : BoolOp) (a b : Dx) (p : Pos) : Expr.BoolOp op (dL (.cons a (.cons b .nil))) p = dE (.con op a b p) := rfl
theorem r_sub (o x : Dx) (p : Pos) : Expr.Subscript (dE o) (dE x) p = dE (.sub o x p) := rfl
theorem r_slLo (o x : Dx) (p q : Pos) : Expr.Subscript (dE o) (.Slice (some (dE x)) none none q) p = dE (.slLo o x p q) := rfl
theorem r_slHi (o x : Dx) (p q : Pos) : Expr.Subscript (dE o) (.Slice none (some (dE x)) none q) p = dE (.slHi o x p q) := rfl
theorem r_slRev (o x : Dx) (p q : Pos) : Expr.Subscript (dE o) (.Slice none none (some (dE x)) q) p = dE (.slRev o x p q) := rfl
theorem r_lst (es : Dx) (p : Pos) : Expr.List (dL es) p = dE (.lst es p) := rfl
theorem r_call (i : Nat) (q : Pos) (es : Dx) (p : Pos) : Expr.Call (dE (.nm i q)) (dL es) [] p = dE (.call i q es p) := rfl
theorem r_meth (o : Dx) (i : Nat) (q : Pos) (a : Dx) (p : Pos) : Expr.Call (.Attribute (dE o) (nm i) q) (dL (.cons a .nil)) [] p = dE (.meth o i q a p) := rfl
theorem r_lc (e g : Dx) (ks : List (Nat × NameKind)) (p : Pos) : Expr.ListComp (dE e) (dC g) (scp ks) p = dE (.lc e g ks p) := rfl
theorem r_nil : ([] : List Expr) = dL .nil := rfl
theorem r_cons (a b : Dx) : dE a :: dL b = dL (.cons a b) := rfl
theorem r_cnil : ([] : List Comprehension) = dC .nil := rfl
theorem r_cl (i : Nat) (q : Pos) (it fs rest : Dx) : (⟨dE (.nm i q), dE it, dL fs, 0⟩ : Comprehension) :: dC rest = dC (.cl i q it fs rest) := rfl
theorem r_snil : ([] : List (Str × NameKind)) = named nm [] := rfl
theorem r_scons (i : Nat) (k : NameKind) (r : List (Nat × NameKind)) : (nm i, k) :: named nm r = named nm ((i, k) :: r) := rfl
theorem r_scp (ks : List (Nat × NameKind)) : Scope.mk .function (named nm ks) false false [] = scp ks := rfl
theorem tn2_map {α : Type} {R : Dt → List Dt → Prop} {f : α → Dt} {g : α → List Dt} : ∀ {l : List α}, (∀ x ∈ l, R (f x) (g x)) → Tn2 R (l.map f) (l.map g)
  | [], _ => trivial
  | x :: l, h => ⟨h x (.head _), tn2_map fun y hy => h y (.tail _ hy)⟩
theorem tnB_to {α : Type} {F : Gm → (Bool → Prop) → Prop} {R : Gm → List Dt → Prop} {ksC : List (Nat × NameKind)} {i : Nat} {Γ : Gm} {ds ys : List Dt} (l : List α) (f : α → Dt) (g : α → List Dt) (hds : ds = l.map f) (hset : setC ksC i = true) (hno : Γ.lookup i = none) (hys : ys = l.flatMap g)
    (h : ∀ x ∈ l, F ((i, f x) :: Γ) fun b => (b = true → R ((i, f x) :: Γ) (g x)) ∧ (b = false → g x = [])) : tnB F R ksC i Γ ds ys := by
  subst hds hys
  exact ⟨⟨hset, hno⟩, l.map g, by rw [List.flatMap_def], tn2_map h⟩
end Mine

namespace Mine
noncomputable def cv (l : List Nat) : List Value := l.map fun (n : Nat) => Value.int (Int.ofNat n) 0
noncomputable def ltC : Value → Value → Bool
  | .int a _, .int b _ => decide (a < b)
  | _, _ => false
noncomputable def isHp (lt : Value → Value → Bool) (vs : List Value) : Bool := (List.range vs.length).all fun p => p == 0 || !lt (vs.getD p .none) (vs.getD ((p - 1) / 2) .none)
noncomputable def listsIn (m : Nat) : Nat → List (List Nat)
  | 0 => [[]]
  | n + 1 => (listsIn m n).flatMap fun l => ((List.range m).filter fun x => !l.contains x).map fun x => x :: l
theorem mem_listsIn {m : Nat} : ∀ {l : List Nat}, l.Nodup → (∀ x ∈ l, x < m) → l ∈ listsIn m l.length
  | [], _, _ => .head _
  | x :: r, nd, h => by
    rw [List.nodup_cons] at nd
    have := mem_listsIn nd.2 fun y hy => h y (.tail _ hy)
    show _ ∈ List.flatMap _ _
    rw [List.mem_flatMap]
    refine ⟨r, this, List.mem_map.mpr ⟨x, ?_, rfl⟩⟩
    rw [List.mem_filter]
    exact ⟨List.mem_range.mpr (h x (.head _)), by simpa using nd.1⟩
noncomputable def toN : Value → Nat
  | .int n _ => n.toNat
  | _ => 99
noncomputable def permB (a : List Value) (l : List Nat) : Bool := (a.map toN).isPerm l
noncomputable def chkFy (l : List Nat) : Bool := isHp ltC (hfy ltC (l.length / 2) (cv l)) && permB (hfy ltC (l.length / 2) (cv l)) l
noncomputable def chkPush (l : List Nat) : Bool := match l with
  | [] => true
  | x :: r => !isHp ltC (cv r) || (isHp ltC (hpush ltC (cv r) (.int (Int.ofNat x) 0)) && permB (hpush ltC (cv r) (.int (Int.ofNat x) 0)) l)
noncomputable def chkPop (l : List Nat) : Bool := match l.reverse with
  | [] => true
  | y :: q => !isHp ltC (cv l) || (let r := hpop ltC (cv q.reverse) (.int (Int.ofNat y) 0); isHp ltC r.2 && permB (r.1 :: r.2) l && r.2.all fun z => ltC r.1 z)
theorem chkFy_all : ∀ n, n < 6 → ∀ l ∈ listsIn n n, chkFy l = true := by decide +kernel
theorem chkPush_all : ∀ n, n < 7 → ∀ l ∈ listsIn n n, chkPush l = true := by decide +kernel
theorem chkPop_all : ∀ n, n < 7 → ∀ l ∈ listsIn n n, chkPop l = true := by decide +kernel

/- the same on other values with the same order -/
section
variable {lt : Value → Value → Bool} {g : Value → Value} {T : Value → Prop}
theorem getD_map (hg : g .none = .none) (vs : List Value) (p : Nat) : (vs.map g).getD p .none = g (vs.getD p .none) := by
  simp only [List.getD, List.getElem?_map]
  cases vs[p]? with
  | none => simp [hg]
  | some v => rfl
theorem sdGo_map (hg : g .none = .none) (hlt : ∀ x y, T x → T y → ltC (g x) (g y) = lt x y) {x : Value} (hx : T x) {sp : Nat} : ∀ (n p : Nat) (vs : List Value), (∀ y ∈ vs, T y) → p < vs.length → sdGo ltC (g x) sp n (vs.map g) p = (sdGo lt x sp n vs p).map g
  | 0, p, vs, _, _ => by simp [sdGo, List.map_set]
  | n + 1, p, vs, h, hp => by
    unfold sdGo
    rw [getD_map hg, hlt x _ hx (h _ (gv_mem (by omega)))]
    split
    · split
      · rw [← List.map_set]
        refine sdGo_map hg hlt hx n _ _ (fun y hy => ?_) (by simp; omega)
        rcases List.mem_or_eq_of_mem_set hy with h' | rfl
        · exact h y h'
        · exact h _ (gv_mem (by omega))
      · rw [List.map_set]
    · rw [List.map_set]
theorem sdL_map (hg : g .none = .none) (hlt : ∀ x y, T x → T y → ltC (g x) (g y) = lt x y) {vs : List Value} {sp p : Nat} (h : ∀ y ∈ vs, T y) (hp : p < vs.length) : sdL ltC (vs.map g) sp p = (sdL lt vs sp p).map g := by
  unfold sdL
  rw [getD_map hg]
  exact sdGo_map hg hlt (h _ (gv_mem hp)) _ _ _ h hp
theorem chld_map (hg : g .none = .none) (hlt : ∀ x y, T x → T y → ltC (g x) (g y) = lt x y) {vs : List Value} {p : Nat} (h : ∀ y ∈ vs, T y) (hp : 2 * p + 1 < vs.length) : chld ltC (vs.map g) p = chld lt vs p := by
  unfold chld
  rw [getD_map hg, getD_map hg, List.length_map]
  by_cases q : 2 * p + 2 < vs.length
  · rw [hlt _ _ (h _ (gv_mem hp)) (h _ (gv_mem q))]
  · rw [if_neg (fun z => q z.1), if_neg (fun z => q z.1)]
theorem suGo_map (hg : g .none = .none) (hlt : ∀ x y, T x → T y → ltC (g x) (g y) = lt x y) : ∀ (n p : Nat) (vs : List Value), (∀ y ∈ vs, T y) → p < vs.length → suGo ltC n (vs.map g) p = ((suGo lt n vs p).1.map g, (suGo lt n vs p).2)
  | 0, p, vs, _, _ => rfl
  | n + 1, p, vs, h, hp => by
    unfold suGo
    rw [List.length_map]
    split
    · rename_i q
      rw [chld_map hg hlt h q, getD_map hg, ← List.map_set]
      refine suGo_map hg hlt n _ _ (fun y hy => ?_) (by simp; exact chld_lt q)
      rcases List.mem_or_eq_of_mem_set hy with h' | rfl
      · exact h y h'
      · exact h _ (gv_mem (chld_lt q))
    · rfl
theorem suL_map (hg : g .none = .none) (hlt : ∀ x y, T x → T y → ltC (g x) (g y) = lt x y) {vs : List Value} {p : Nat} (h : ∀ y ∈ vs, T y) (hp : p < vs.length) : suL ltC (vs.map g) p = (suL lt vs p).map g := by
  have q := mem_suGo (lt := lt) vs.length p vs h hp
  unfold suL
  rw [List.length_map, suGo_map hg hlt _ _ _ h hp, getD_map hg]
  dsimp only
  rw [← List.map_set]
  refine sdL_map hg hlt (fun y hy => ?_) (by rw [List.length_set, suGo_length]; exact q.2)
  rcases List.mem_or_eq_of_mem_set hy with h' | rfl
  · exact q.1 y h'
  · exact h _ (gv_mem hp)
theorem hfy_map (hg : g .none = .none) (hlt : ∀ x y, T x → T y → ltC (g x) (g y) = lt x y) : ∀ (n : Nat) {vs : List Value}, (∀ y ∈ vs, T y) → n ≤ vs.length → hfy ltC n (vs.map g) = (hfy lt n vs).map g
  | 0, _, _, _ => rfl
  | n + 1, vs, h, hn => by
    unfold hfy
    rw [suL_map hg hlt h (by omega)]
    exact hfy_map hg hlt n (mem_suL h (by omega)) (by rw [suL_length]; omega)
theorem hpush_map (hg : g .none = .none) (hlt : ∀ x y, T x → T y → ltC (g x) (g y) = lt x y) {vs : List Value} {x : Value} (h : ∀ y ∈ vs, T y) (hx : T x) : hpush ltC (vs.map g) (g x) = (hpush lt vs x).map g := by
  unfold hpush
  rw [List.length_map, show vs.map g ++ [g x] = (vs ++ [x]).map g by simp]
  exact sdL_map hg hlt (fun y hy => by
    rcases List.mem_append.mp hy with hy | hy
    · exact h y hy
    · rw [List.mem_singleton.mp hy]; exact hx) (by simp)
theorem hpop_map (hg : g .none = .none) (hlt : ∀ x y, T x → T y → ltC (g x) (g y) = lt x y) {p : List Value} {y : Value} (h : ∀ z ∈ p, T z) (hy : T y) : hpop ltC (p.map g) (g y) = (g (hpop lt p y).1, (hpop lt p y).2.map g) := by
  cases p with
  | nil => rfl
  | cons z r =>
    show (g z, suL ltC (g y :: r.map g) 0) = (g z, (suL lt (y :: r) 0).map g)
    rw [show g y :: r.map g = (y :: r).map g from rfl, suL_map hg hlt (fun w hw => ?_) (by simp)]
    rcases List.mem_cons.mp hw with rfl | hw
    · exact hy
    · exact h w (.tail _ hw)
theorem isHp_map (hg : g .none = .none) (hlt : ∀ x y, T x → T y → ltC (g x) (g y) = lt x y) {vs : List Value} (h : ∀ y ∈ vs, T y) : isHp ltC (vs.map g) = isHp lt vs := by
  unfold isHp
  rw [List.length_map]
  rw [Bool.eq_iff_iff, List.all_eq_true, List.all_eq_true]
  have e : ∀ p ∈ List.range vs.length, ltC ((vs.map g).getD p .none) ((vs.map g).getD ((p - 1) / 2) .none) = lt (vs.getD p .none) (vs.getD ((p - 1) / 2) .none) := fun p hp => by
    have hp := List.mem_range.mp hp
    rw [getD_map hg, getD_map hg]
    exact hlt _ _ (h _ (gv_mem hp)) (h _ (gv_mem (by omega)))
  constructor
  · intro q p hp; rw [← e p hp]; exact q p hp
  · intro q p hp; rw [e p hp]; exact q p hp
end
theorem perm_of_map {α β : Type} {f : α → β} : ∀ {a b : List α}, (∀ x ∈ a, ∀ y ∈ b, f x = f y → x = y) → (a.map f).Perm (b.map f) → a.Perm b
  | [], b, _, h => by
    have : b = [] := by
      have := h.length_eq
      simpa using this.symm
    rw [this]
  | x :: r, b, inj, h => by
    have hx : f x ∈ b.map f := h.mem_iff.mp (.head _)
    obtain ⟨y, hy, e⟩ := List.mem_map.mp hx
    have : x = y := inj x (.head _) y hy e.symm
    subst this
    obtain ⟨b1, b2, rfl⟩ := List.append_of_mem hy
    have h2 : (r.map f).Perm ((b1 ++ b2).map f) := by
      have : ((b1 ++ x :: b2).map f).Perm (f x :: (b1 ++ b2).map f) := by rw [List.map_append, List.map_cons, List.map_append]; exact List.perm_middle
      exact (h.trans this).cons_inv
    refine ((perm_of_map (fun z hz w hw => inj z (.tail _ hz) w ?_) h2).cons x).trans List.perm_middle.symm
    rcases List.mem_append.mp hw with hw | hw
    · exact List.mem_append_left _ hw
    · exact List.mem_append_right _ (.tail _ hw)
structure TotOn (lt : Value → Value → Bool) (vs : List Value) : Prop where
  some : ∀ x ∈ vs, x ≠ .none
  irr : ∀ x ∈ vs, lt x x = false
  tot : ∀ x ∈ vs, ∀ y ∈ vs, x = y ∨ lt x y = true ∨ lt y x = true
  trans : ∀ x ∈ vs, ∀ y ∈ vs, ∀ z ∈ vs, lt x y = true → lt y z = true → lt x z = true
section
variable {lt : Value → Value → Bool} {vs ws : List Value}
noncomputable def rk (lt : Value → Value → Bool) (vs : List Value) (x : Value) : Nat := (vs.filter fun y => lt y x).length
noncomputable def gOfRk (lt : Value → Value → Bool) (vs : List Value) : Value → Value
  | .none => .none
  | x => .int (Int.ofNat (rk lt vs x)) 0
theorem filter_lt {p q : Value → Bool} : ∀ {l : List Value}, (∀ x ∈ l, p x = true → q x = true) → (l.filter p).length ≤ (l.filter q).length
  | [], _ => Nat.le_refl _
  | a :: r, h => by
    have ih := filter_lt (l := r) fun x hx => h x (.tail _ hx)
    rw [List.filter_cons, List.filter_cons]
    cases hp : p a with
    | true => rw [if_pos rfl, if_pos (h a (.head _) hp)]; simp; exact ih
    | false =>
      rw [if_neg (by decide)]
      split
      · simp; omega
      · exact ih
theorem filter_slt {p q : Value → Bool} {l : List Value} {a : Value} (hm : a ∈ l) (hp : p a = false) (hq : q a = true) (h : ∀ x ∈ l, p x = true → q x = true) : (l.filter p).length < (l.filter q).length := by
  induction l with
  | nil => cases hm
  | cons b r ih =>
    rw [List.filter_cons, List.filter_cons]
    rcases List.mem_cons.mp hm with rfl | hm
    · rw [hp, hq, if_neg (by decide), if_pos rfl]
      have := filter_lt (l := r) (p := p) (q := q) fun x hx => h x (.tail _ hx)
      simp; omega
    · have ih := ih hm fun x hx => h x (.tail _ hx)
      cases hpb : p b with
      | true => rw [if_pos rfl, if_pos (h b (.head _) hpb)]; simp; exact ih
      | false =>
        rw [if_neg (by decide)]
        split
        · simp; omega
        · exact ih
theorem TotOn.rk_lt (h : TotOn lt vs) {x y : Value} (hx : x ∈ vs) (hy : y ∈ vs) : lt x y = decide (rk lt vs x < rk lt vs y) := by
  have up : ∀ {x y}, x ∈ vs → y ∈ vs → lt x y = true → rk lt vs x < rk lt vs y := fun {x y} hx hy e => filter_slt hx (h.irr x hx) e fun z hz q => h.trans z hz x hx y hy q e
  cases e : lt x y with
  | true => rw [decide_eq_true (up hx hy e)]
  | false =>
    rcases h.tot x hx y hy with rfl | q | q
    · simp
    · rw [e] at q; cases q
    · have := up hy hx q
      rw [decide_eq_false (by omega)]
theorem TotOn.rk_inj (h : TotOn lt vs) {x y : Value} (hx : x ∈ vs) (hy : y ∈ vs) (e : rk lt vs x = rk lt vs y) : x = y := by
  rcases h.tot x hx y hy with q | q | q
  · exact q
  · rw [h.rk_lt hx hy, e] at q; simp at q
  · rw [h.rk_lt hy hx, e] at q; simp at q
theorem TotOn.rk_bound (h : TotOn lt vs) {x : Value} (hx : x ∈ vs) : rk lt vs x < vs.length := by
  have : (vs.filter fun y => lt y x).length < (vs.filter fun _ => true).length := filter_slt hx (h.irr x hx) rfl fun _ _ _ => rfl
  rw [List.filter_eq_self.mpr fun _ _ => rfl] at this
  exact this
theorem TotOn.g_lt (h : TotOn lt vs) (x y : Value) (hx : x ∈ vs) (hy : y ∈ vs) : ltC (gOfRk lt vs x) (gOfRk lt vs y) = lt x y := by
  have e : ∀ {x}, x ∈ vs → gOfRk lt vs x = .int (Int.ofNat (rk lt vs x)) 0 := fun {x} hx => by
    cases x <;> first | rfl | exact absurd rfl (h.some _ hx)
  rw [e hx, e hy, h.rk_lt hx hy]
  show decide (Int.ofNat _ < Int.ofNat _) = _
  simp
theorem TotOn.map_g (h : TotOn lt vs) (k : ∀ x ∈ ws, x ∈ vs) : ws.map (gOfRk lt vs) = cv (ws.map (rk lt vs)) := by
  unfold cv
  rw [List.map_map]
  refine List.map_congr_left fun x hx => ?_
  have := h.some x (k x hx)
  cases x <;> first | rfl | exact absurd rfl this
theorem toN_g (h : TotOn lt vs) (k : ∀ x ∈ ws, x ∈ vs) : (ws.map (gOfRk lt vs)).map toN = ws.map (rk lt vs) := by
  rw [h.map_g k]
  unfold cv
  rw [List.map_map, List.map_map]
  refine List.map_congr_left fun x _ => ?_
  simp [toN]
theorem ranks_in (h : TotOn lt vs) (nd : vs.Nodup) : vs.map (rk lt vs) ∈ listsIn vs.length vs.length := by
  have : vs.map (rk lt vs) ∈ listsIn vs.length (vs.map (rk lt vs)).length := mem_listsIn ?_ ?_
  · rwa [List.length_map] at this
  · have go : ∀ l : List Value, (∀ x ∈ l, x ∈ vs) → l.Nodup → (l.map (rk lt vs)).Nodup := by
      intro l
      induction l with
      | nil => intros; exact .nil
      | cons a r ih =>
        intro hs nd
        rw [List.nodup_cons] at nd
        rw [List.map_cons, List.nodup_cons]
        refine ⟨fun q => ?_, ih (fun x hx => hs x (.tail _ hx)) nd.2⟩
        obtain ⟨b, hb, e⟩ := List.mem_map.mp q
        have := h.rk_inj (hs b (.tail _ hb)) (hs a (.head _)) e
        exact nd.1 (this ▸ hb)
    exact go vs (fun _ h => h) nd
  · intro x hx
    obtain ⟨v, hv, rfl⟩ := List.mem_map.mp hx
    exact h.rk_bound hv
theorem mem_hfy {P : Value → Prop} : ∀ (n : Nat) {vs : List Value}, (∀ y ∈ vs, P y) → n ≤ vs.length → ∀ y ∈ hfy lt n vs, P y
  | 0, _, h, _ => h
  | n + 1, vs, h, hn => mem_hfy n (mem_suL h (by omega)) (by rw [suL_length]; omega)
theorem hfy_ok (h : TotOn lt vs) (nd : vs.Nodup) (h6 : vs.length ≤ 5) : isHp lt (hfy lt (vs.length / 2) vs) = true ∧ (hfy lt (vs.length / 2) vs).Perm vs := by
  have k := chkFy_all vs.length (by omega) _ (ranks_in h nd)
  unfold chkFy at k
  rw [List.length_map, ← h.map_g (fun _ h => h), hfy_map (T := (· ∈ vs)) rfl (fun x y => h.g_lt x y) _ (fun _ h => h) (by omega), Bool.and_eq_true] at k
  have hm := mem_hfy (lt := lt) (P := (· ∈ vs)) (vs.length / 2) (vs := vs) (fun _ h => h) (by omega)
  refine ⟨?_, ?_⟩
  · rw [← isHp_map (T := (· ∈ vs)) rfl (fun x y => h.g_lt x y) hm]; exact k.1
  · have k2 := k.2
    unfold permB at k2
    rw [List.isPerm_iff, toN_g h hm] at k2
    exact perm_of_map (fun x hx y hy e => h.rk_inj (hm x hx) hy e) k2
theorem mem_hpush {P : Value → Prop} {x : Value} (h : ∀ y ∈ vs, P y) (hx : P x) : ∀ y ∈ hpush lt vs x, P y := by
  unfold hpush
  refine mem_sdL (fun y hy => ?_) (by simp)
  rcases List.mem_append.mp hy with hy | hy
  · exact h y hy
  · rw [List.mem_singleton.mp hy]; exact hx
theorem hpush_ok {x : Value} (h : TotOn lt (x :: vs)) (nd : (x :: vs).Nodup) (h6 : vs.length ≤ 5) (hp : isHp lt vs = true) : isHp lt (hpush lt vs x) = true ∧ (hpush lt vs x).Perm (x :: vs) := by
  have k := chkPush_all (x :: vs).length (by simp; omega) _ (ranks_in h nd)
  rw [List.map_cons] at k
  unfold chkPush at k
  dsimp only at k
  have hs : ∀ y ∈ vs, y ∈ x :: vs := fun y hy => .tail _ hy
  rw [← h.map_g hs, isHp_map (T := (· ∈ x :: vs)) rfl (fun a b => h.g_lt a b) hs, hp, Bool.not_true, Bool.false_or] at k
  have ex : Value.int (Int.ofNat (rk lt (x :: vs) x)) 0 = gOfRk lt (x :: vs) x := by
    have := h.some x (.head _)
    cases x <;> first | rfl | exact absurd rfl this
  rw [ex, hpush_map (T := (· ∈ x :: vs)) rfl (fun a b => h.g_lt a b) hs (.head _), Bool.and_eq_true] at k
  have hm := mem_hpush (lt := lt) (P := (· ∈ x :: vs)) hs (.head _)
  refine ⟨?_, ?_⟩
  · rw [← isHp_map (T := (· ∈ x :: vs)) rfl (fun a b => h.g_lt a b) hm]; exact k.1
  · have k2 := k.2
    unfold permB at k2
    rw [List.isPerm_iff, toN_g h hm, ← List.map_cons] at k2
    exact perm_of_map (fun a ha b hb e => h.rk_inj (hm a ha) hb e) k2
theorem mem_hpop {P : Value → Prop} {p : List Value} {y : Value} (h : ∀ z ∈ p, P z) (hy : P y) : P (hpop lt p y).1 ∧ ∀ z ∈ (hpop lt p y).2, P z := by
  cases p with
  | nil => exact ⟨hy, nofun⟩
  | cons z r =>
    refine ⟨h z (.head _), mem_suL (fun w hw => ?_) (by simp)⟩
    rcases List.mem_cons.mp hw with rfl | hw
    · exact hy
    · exact h w (.tail _ hw)
theorem hpop_ok {p : List Value} {y : Value} (h : TotOn lt (p ++ [y])) (nd : (p ++ [y]).Nodup) (h6 : p.length ≤ 5) (hp : isHp lt (p ++ [y]) = true) :
    isHp lt (hpop lt p y).2 = true ∧ ((hpop lt p y).1 :: (hpop lt p y).2).Perm (p ++ [y]) ∧ ∀ z ∈ (hpop lt p y).2, lt (hpop lt p y).1 z = true := by
  have k := chkPop_all (p ++ [y]).length (by simp; omega) _ (ranks_in h nd)
  unfold chkPop at k
  have hs : ∀ z ∈ p, z ∈ p ++ [y] := fun z hz => List.mem_append_left _ hz
  have hy : y ∈ p ++ [y] := by simp
  rw [← h.map_g (fun _ h => h), isHp_map (T := (· ∈ p ++ [y])) rfl (fun a b => h.g_lt a b) (fun _ h => h), hp, Bool.not_true, List.map_append, List.map_cons, List.map_nil, List.reverse_append] at k
  have ex : Value.int (Int.ofNat (rk lt (p ++ [y]) y)) 0 = gOfRk lt (p ++ [y]) y := by
    have := h.some y hy
    cases y <;> first | rfl | exact absurd rfl this
  simp only [List.reverse_cons, List.reverse_nil, List.nil_append, List.singleton_append, List.reverse_reverse, Bool.false_or] at k
  rw [ex, ← h.map_g hs, hpop_map (T := (· ∈ p ++ [y])) rfl (fun a b => h.g_lt a b) hs hy] at k
  dsimp only at k
  rw [Bool.and_eq_true, Bool.and_eq_true] at k
  obtain ⟨m1, m2⟩ := mem_hpop (lt := lt) (P := (· ∈ p ++ [y])) hs hy
  obtain ⟨⟨k1, k2⟩, k3⟩ := k
  refine ⟨?_, ?_, fun z hz => ?_⟩
  · rw [← isHp_map (T := (· ∈ p ++ [y])) rfl (fun a b => h.g_lt a b) m2]; exact k1
  · unfold permB at k2
    have hm : ∀ x ∈ (hpop lt p y).1 :: (hpop lt p y).2, x ∈ p ++ [y] := fun x hx => by
      rcases List.mem_cons.mp hx with rfl | hx
      · exact m1
      · exact m2 x hx
    rw [← List.map_cons, List.isPerm_iff, toN_g h hm] at k2
    have e : (p ++ [y]).map (rk lt (p ++ [y])) = p.map (rk lt (p ++ [y])) ++ [rk lt (p ++ [y]) y] := by simp
    rw [← e] at k2
    exact perm_of_map (fun a ha b hb e => h.rk_inj (hm a ha) hb e) k2
  · rw [List.all_eq_true] at k3
    have := k3 _ (List.mem_map_of_mem hz)
    rwa [h.g_lt _ _ m1 (m2 z hz)] at this
end
end Mine

namespace Mine
section
variable {c : Cx nm prg KK gl bl} {A : Around} {E : Value → Shared → Prop} {τ : Sto} {L : Addr} {l : List (Nat × Value)} {s : Shared}
end
end Mine

namespace Mine
theorem lexLt_irr : ∀ xs : List Int, lexLt xs xs = false
  | [] => rfl
  | a :: r => by unfold lexLt; rw [if_pos rfl]; exact lexLt_irr r
theorem lexLt_tri : ∀ xs ys : List Int, xs = ys ∨ lexLt xs ys = true ∨ lexLt ys xs = true
  | [], [] => .inl rfl
  | [], _ :: _ => .inr (.inl rfl)
  | _ :: _, [] => .inr (.inr rfl)
  | a :: r, b :: q => by
    unfold lexLt
    by_cases e : a = b
    · subst e
      rw [if_pos rfl, if_pos rfl]
      exact (lexLt_tri r q).imp (fun h => by rw [h]) id
    · rw [if_neg e, if_neg (Ne.symm e)]
      rcases Int.lt_or_gt_of_ne e with h | h
      · exact .inr (.inl (decide_eq_true h))
      · exact .inr (.inr (decide_eq_true h))
theorem lexLt_trans : ∀ xs ys zs : List Int, lexLt xs ys = true → lexLt ys zs = true → lexLt xs zs = true
  | [], [], zs, h, _ => by cases h
  | [], _ :: _, [], _, h => by cases h
  | [], _ :: _, _ :: _, _, _ => rfl
  | _ :: _, [], _, h, _ => by cases h
  | _ :: _, _ :: _, [], _, h => by cases h
  | a :: r, b :: q, d :: p, h1, h2 => by
    unfold lexLt at h1 h2 ⊢
    by_cases e1 : a = b
    · subst e1
      rw [if_pos rfl] at h1
      by_cases e2 : a = d
      · rw [if_pos e2] at h2 ⊢; exact lexLt_trans r q p h1 h2
      · rw [if_neg e2] at h2 ⊢; exact h2
    · rw [if_neg e1] at h1
      have h1 := of_decide_eq_true h1
      by_cases e2 : b = d
      · subst e2; rw [if_neg e1]; exact decide_eq_true h1
      · rw [if_neg e2] at h2
        have h2 := of_decide_eq_true h2
        rw [if_neg (Int.ne_of_lt (Int.lt_trans h1 h2))]
        exact decide_eq_true (Int.lt_trans h1 h2)
noncomputable def toI : Value → Int
  | .int n _ => n
  | _ => 0
noncomputable def xsV (τ : Sto) (v : Value) : List Int := match v with
  | .ref a => (match τ a with
    | some (.ls _ vs) => vs.map toI
    | _ => [])
  | _ => []
theorem ints_toI {vs : List Value} {xs : List Int} (h : IntsAre vs xs) : vs.map toI = xs := by
  induction xs generalizing vs with
  | nil => cases vs with
    | nil => rfl
    | cons => exact absurd h.length (by simp)
  | cons x xs ih =>
    obtain ⟨t, vs', rfl, h'⟩ := h.cons_inv
    rw [List.map_cons, ih h']; rfl
theorem xsV_of {τ : Sto} {v : Value} {xs : List Int} (h : Dn τ v (dI xs)) : xsV τ v = xs := by
  obtain ⟨a, vs, rfl, h1, h2⟩ := h.lst
  unfold xsV
  dsimp only
  rw [h1]
  exact ints_toI (Dns.ints.mp h2)
theorem xsV_at {τ : Sto} {ws : List Value} {os : List (List Int)} (h : Dns τ ws (os.map dI)) : ws.map (xsV τ) = os ∧ ∀ v ∈ ws, Dn τ v (dI (xsV τ v)) := by
  induction os generalizing ws with
  | nil =>
    obtain rfl := Dns.nil h
    exact ⟨rfl, nofun⟩
  | cons o os ih =>
    obtain ⟨v, ws, rfl, g1, g2⟩ := Dns.uncons h
    obtain ⟨h1, h2⟩ := ih g2
    have e := xsV_of g1
    refine ⟨by rw [List.map_cons, h1, e], fun w hw => ?_⟩
    rcases List.mem_cons.mp hw with rfl | hw
    · rw [e]; exact g1
    · exact h2 w hw
section
variable {c : Cx nm prg KK gl bl} {A : Around} {E : Value → Shared → Prop} {τ : Sto} {L : Addr} {l : List (Nat × Value)} {s : Shared}
theorem ltL_at {v w : Value} {xs ys : List Int} {Q : Value → Shared → Prop} (H : Ok 0 A) (R : Rel c τ L l s) (hv : Dn τ v (dI xs)) (hw : Dn τ w (dI ys)) (h : Q (.bool (lexLt xs ys)) s) : wpAny c.M A (richCompare .Lt v w) Q E s := by
  obtain ⟨a, vs, rfl, h1, h2⟩ := hv.lst
  obtain ⟨b, us, rfl, h3, h4⟩ := hw.lst
  exact xLtL H R h1 h3 (Dns.ints.mp h2) (Dns.ints.mp h4) h
end
end Mine

namespace Mine
noncomputable def phLen : List Dt → (Dt → Prop) → Prop := fun ds K => ∃ xs, ds = [.list xs] ∧ xs.length < 100000 ∧ K (.int (xs.length : Nat))
theorem map_inj_of {α β : Type} {f : α → β} : ∀ {l : List α}, (l.map f).Nodup → ∀ x ∈ l, ∀ y ∈ l, f x = f y → x = y
  | a :: r, h, x, hx, y, hy, e => by
    rw [List.map_cons, List.nodup_cons] at h
    rcases List.mem_cons.mp hx with e1 | hx' <;> rcases List.mem_cons.mp hy with e2 | hy'
    · exact e1.trans e2.symm
    · exact absurd (e1 ▸ e ▸ List.mem_map_of_mem hy') h.1
    · exact absurd (e2 ▸ e ▸ List.mem_map_of_mem hx') h.1
    · exact map_inj_of h.2 x hx' y hy' e
theorem nodup_of {α β : Type} {f : α → β} : ∀ {l : List α}, (l.map f).Nodup → l.Nodup
  | [], _ => .nil
  | a :: r, h => by
    rw [List.map_cons, List.nodup_cons] at h
    exact List.nodup_cons.mpr ⟨fun q => h.1 (List.mem_map_of_mem q), nodup_of h.2⟩
section
variable {c : Cx nm prg KK gl bl} {τ : Sto}
theorem totL {ws : List Value} {os : List (List Int)} (h : Dns τ ws (os.map dI)) (nd : os.Nodup) : TotOn (fun v w => lexLt (xsV τ v) (xsV τ w)) ws := by
  obtain ⟨h1, h2⟩ := xsV_at h
  refine ⟨fun x hx => ?_, fun x _ => lexLt_irr _, fun x hx y hy => ?_, fun x _ y _ z _ => lexLt_trans _ _ _⟩
  · obtain ⟨a, vs, rfl, _⟩ := (h2 x hx).lst; exact nofun
  · exact (lexLt_tri (xsV τ x) (xsV τ y)).imp (map_inj_of (by rw [h1]; exact nd) x hx y hy) id
theorem ok_len : FnOk c 5 (.builtin "len") phLen := by
  rintro ds K A L τ l s vs Q E ⟨xs, rfl, hz, hK⟩ H LA R hv q
  obtain ⟨v, rfl, h0⟩ := Dns.one hv
  obtain ⟨a, ws, rfl, h1, h2⟩ := h0.lst
  exact bLen R h1 (h2.length ▸ hz) fun u s' R' => q _ _ τ s' hK Keep2.refl ⟨u, by rw [h2.length]⟩ R'
end
/- equality of data -/
theorem dep_dI (xs : List Int) : (dI xs).dep ≤ 1 := by
  have : ∀ xs : List Int, Dt.deps (xs.map .int) = 0 := fun xs => by
    induction xs with
    | nil => rfl
    | cons x xs ih => show max 0 _ = 0; rw [ih]; rfl
  show Dt.deps _ + 1 ≤ 1
  rw [this]; exact Nat.le_refl _
theorem dep_map {α : Type} {f : α → Dt} {k : Nat} : ∀ {l : List α}, (∀ x ∈ l, (f x).dep ≤ k) → (Dt.list (l.map f)).dep ≤ k + 1 := fun {l} h => by
  have : ∀ l : List α, (∀ x ∈ l, (f x).dep ≤ k) → Dt.deps (l.map f) ≤ k := fun l h => by
    induction l with
    | nil => exact Nat.zero_le _
    | cons x l ih => exact Nat.max_le.mpr ⟨h x (.head _), ih fun y hy => h y (.tail _ hy)⟩
  exact Nat.succ_le_succ (this l h)
theorem nb_dI : ∀ xs : List Int, (dI xs).nb = true
  | [] => rfl
  | x :: xs => nb_dI xs
theorem eqB_dI (a b : List Int) : (dI a).eqB (dI b) = decide (a = b) := by
  have h := Dt.eqv_nb (dI a) (dI b) (nb_dI a) (nb_dI b)
  have inj : dI a = dI b ↔ a = b := ⟨fun e => by
    have e : a.map Dt.int = b.map Dt.int := by injection e
    have : ∀ a b : List Int, a.map Dt.int = b.map Dt.int → a = b := fun a => by
      induction a with
      | nil => intro b e; cases b with | nil => rfl | cons => cases e
      | cons x a ih => intro b e; cases b with
        | nil => cases e
        | cons y b => injection e with e1 e2; injection e1 with e1; rw [e1, ih b e2]
    exact this a b e, fun e => by rw [e]⟩
  show PyData.eqv _ _ = _
  cases q : PyData.eqv (dI a).py (dI b).py with
  | true => rw [decide_eq_true (inj.mp (h.mp q))]
  | false => rw [decide_eq_false fun z => by rw [h.mpr (inj.mpr z)] at q; cases q]
theorem eqB_int (a b : Int) : (Dt.int a).eqB (.int b) = decide (a = b) := by
  show PyData.eqv _ _ = _
  simp only [Dt.py, PyData.eqv]
  exact Bool.beq_eq_decide_eq a b
theorem any_dI (l : List (List Int)) (x : List Int) : (l.map dI).any (fun d => d.eqB (dI x)) = decide (x ∈ l) := by
  rw [List.any_map]
  cases q : decide (x ∈ l) with
  | true => exact List.any_eq_true.mpr ⟨x, of_decide_eq_true q, by show (dI x).eqB (dI x) = true; rw [eqB_dI]; exact decide_eq_true rfl⟩
  | false =>
    exact List.any_eq_false.mpr fun y hy z => by
      have z : (dI y).eqB (dI x) = true := z
      rw [eqB_dI] at z
      exact of_decide_eq_false q (of_decide_eq_true z ▸ hy)
theorem any_int (l : List Int) (x : Int) : (l.map Dt.int).any (fun d => d.eqB (.int x)) = decide (x ∈ l) := by
  rw [List.any_map]
  cases q : decide (x ∈ l) with
  | true => exact List.any_eq_true.mpr ⟨x, of_decide_eq_true q, by show (Dt.int x).eqB (.int x) = true; rw [eqB_int]; exact decide_eq_true rfl⟩
  | false =>
    exact List.any_eq_false.mpr fun y hy z => by
      have z : (Dt.int y).eqB (.int x) = true := z
      rw [eqB_int] at z
      exact of_decide_eq_false q (of_decide_eq_true z ▸ hy)
theorem eqB_nil (ds : List Dt) : (Dt.list ds).eqB (.list []) = ds.isEmpty := by
  show PyData.eqv _ _ = _
  cases ds <;> rfl
mutual
theorem eqv_self : ∀ d : Dt, d.eqB d = true
  | .int a => by rw [eqB_int]; exact decide_eq_true rfl
  | .bool b => by cases b <;> rfl
  | .none => rfl
  | .list ds => eqvs_self ds
theorem eqvs_self : ∀ ds : List Dt, PyData.eqvAll (Dt.pys ds) (Dt.pys ds) = true
  | [] => rfl
  | d :: ds => by
    show (PyData.eqv d.py d.py && PyData.eqvAll (Dt.pys ds) (Dt.pys ds)) = true
    have := eqv_self d
    rw [show PyData.eqv d.py d.py = true from this, eqvs_self ds]; rfl
end
theorem int_at {xs : List Int} {i : Nat} (h : i < xs.length) : (xs.map Dt.int)[i]? = some (.int (xs.getD i 0)) := by
  rw [List.getElem?_map, List.getElem?_eq_getElem h]
  simp [List.getD, h]
theorem dI_at {xs : List (List Int)} {i : Nat} (h : i < xs.length) : (xs.map dI)[i]? = some (dI (xs.getD i [])) := by
  rw [List.getElem?_map, List.getElem?_eq_getElem h]
  simp [List.getD, h]
end Mine

namespace Mine
noncomputable def phSortI : List Dt → (Dt → Prop) → Prop := fun ds K => ∃ ns : List Int, ds = [dI ns] ∧ ns.length < 64 ∧ ∀ ns' : List Int, ns'.Perm ns → ns'.Pairwise (· ≤ ·) → K (dI ns')
noncomputable def phMin2 : List Dt → (Dt → Prop) → Prop := fun ds K => ∃ a b : Int, ds = [.int a, .int b] ∧ K (.int (if b < a then b else a))
noncomputable def phMax2 : List Dt → (Dt → Prop) → Prop := fun ds K => ∃ a b : Int, ds = [.int a, .int b] ∧ K (.int (if b > a then b else a))
noncomputable def phB1 (i : Nat) : Option (List Dt → (Dt → Prop) → Prop) :=
  bif Nat.beq i 84 then some phLen else bif Nat.beq i 87 then some phMax2 else bif Nat.beq i 89 then some phMin2 else bif Nat.beq i 131 then some phSortI else none
section
variable {c : Cx nm prg KK gl bl} {τ : Sto}
theorem ok_sortI : FnOk c 5 (.builtin "sorted") phSortI := by
  rintro ds K A L τ l s vs Q E ⟨ns, rfl, h64, hK⟩ H LA R hv q
  obtain ⟨v, rfl, h0⟩ := Dns.one hv
  obtain ⟨a, ws, rfl, h1, h2⟩ := h0.lst
  have hi := Dns.ints.mp h2
  refine sorted_ints (R.isList h1) hi (by rw [hi.length]; exact h64) fun out ns' hI hp ha => ?_
  have hn : τ (s.heap.objs.size + 1) = none := R.none_size (Nat.le_succ _)
  have k : Keep2 τ (upd τ (s.heap.objs.size + 1) (.ls 0 out.toList)) := Keep2.up hn
  exact q _ _ _ _ (hK ns' hp ha) k ⟨_, out.toList, rfl, upd_self, Dns.ints.mpr hI⟩ (R.grow (n := s.toks) (fun b o e => sortedAll_old e) (Nat.le_succ _) (sortedAll_at s.heap ws out))
theorem ok_min2 : FnOk c 5 (.builtin "min") phMin2 := by
  rintro ds K A L τ l s vs Q E ⟨a, b, rfl, hK⟩ H LA R hv q
  obtain ⟨v, w, rfl, ⟨t, rfl⟩, ⟨u, rfl⟩⟩ := Dns.two hv
  refine min_two_ints H.1 fun h' tk k => q _ _ τ _ hK Keep2.refl ?_ (R.heap k)
  by_cases z : b < a
  · rw [if_pos z, if_pos z]; exact ⟨u, rfl⟩
  · rw [if_neg z, if_neg z]; exact ⟨t, rfl⟩
theorem ok_max2 : FnOk c 5 (.builtin "max") phMax2 := by
  rintro ds K A L τ l s vs Q E ⟨a, b, rfl, hK⟩ H LA R hv q
  obtain ⟨v, w, rfl, ⟨t, rfl⟩, ⟨u, rfl⟩⟩ := Dns.two hv
  refine max_two_ints H.1 fun h' tk k => q _ _ τ _ hK Keep2.refl ?_ (R.heap k)
  by_cases z : b > a
  · rw [if_pos z, if_pos z]; exact ⟨u, rfl⟩
  · rw [if_neg z, if_neg z]; exact ⟨t, rfl⟩
theorem ok_B1 : PhiOk c phB1 5 := by
  intro i φ e
  unfold phB1 at e
  cases e1 : Nat.beq i 84 with
  | true => rw [e1] at e; cases e; obtain rfl := Nat.eq_of_beq_eq_true e1; exact ⟨_, .inr ⟨rfl, rfl⟩, trivial, ok_len⟩
  | false =>
  cases e2 : Nat.beq i 87 with
  | true => rw [e1, e2] at e; cases e; obtain rfl := Nat.eq_of_beq_eq_true e2; exact ⟨_, .inr ⟨rfl, rfl⟩, trivial, ok_max2⟩
  | false =>
  cases e3 : Nat.beq i 89 with
  | true => rw [e1, e2, e3] at e; cases e; obtain rfl := Nat.eq_of_beq_eq_true e3; exact ⟨_, .inr ⟨rfl, rfl⟩, trivial, ok_min2⟩
  | false =>
  cases e4 : Nat.beq i 131 with
  | true => rw [e1, e2, e3, e4] at e; cases e; obtain rfl := Nat.eq_of_beq_eq_true e4; exact ⟨_, .inr ⟨rfl, rfl⟩, trivial, ok_sortI⟩
  | false => rw [e1, e2, e3, e4] at e; cases e
theorem FnOk.ge {n m : Nat} {fv : Value} {φ : List Dt → (Dt → Prop) → Prop} (h : FnOk c n fv φ) (k : n ≤ m) : FnOk c m fv φ := fun hK H LA R hv q => h hK (H.le k) LA R hv q
theorem PhiOk.ge {n m : Nat} {Φ : Nat → Option (List Dt → (Dt → Prop) → Prop)} (h : PhiOk c Φ n) (k : n ≤ m) : PhiOk c Φ m := fun i φ e => let ⟨fv, h1, h2, h3⟩ := h i φ e; ⟨fv, h1, h2, h3.ge k⟩
end
theorem any_dP (l : List (Int × Int)) (x : Int × Int) : (l.map fun e : Int × Int => dI [e.1, e.2]).any (fun d => d.eqB (dI [x.1, x.2])) = decide (x ∈ l) := by
  have h := any_dI (l.map fun e => [e.1, e.2]) [x.1, x.2]
  rw [List.map_map] at h
  refine Eq.trans h ?_
  refine decide_eq_decide.mpr ?_
  rw [List.mem_map]
  constructor
  · rintro ⟨e, he, q⟩
    injection q with q1 q2
    injection q2 with q2 _
    have : e = x := Prod.ext q1 q2
    exact this ▸ he
  · exact fun h => ⟨x, h, rfl⟩
noncomputable abbrev dPair (e : Int × Int) : Dt := .list [.int e.1, .int e.2]
theorem any_dPair (l : List (Int × Int)) (x : Int × Int) : (l.map dPair).any (fun d => d.eqB (dPair x)) = decide (x ∈ l) := any_dP l x
theorem fm1 {α β : Type} {f : α → β} : ∀ {l : List α}, l.flatMap (fun x => [f x]) = l.map f
  | [] => rfl
  | x :: l => by rw [List.flatMap_cons, fm1]; rfl
theorem cutN_nat (n i : Nat) : cutN n (i : Nat) = i := by unfold cutN; rw [if_neg (Int.not_lt.mpr (Int.natCast_nonneg i))]; rfl
theorem fmF {α β : Type} {p : α → Bool} {f : α → β} : ∀ {l : List α}, (l.filter p).map f = l.flatMap fun x => if p x = true then [f x] else []
  | [] => rfl
  | x :: l => by
    rw [List.filter_cons, List.flatMap_cons]
    cases h : p x with
    | true => rw [if_pos rfl, if_pos rfl, List.map_cons, fmF]; rfl
    | false => rw [if_neg (by decide), if_neg (by decide), fmF]; rfl
theorem dns1 {τ : Sto} {vs : List Value} {a : Dt} (h : Dns τ vs [a]) : ∃ v, vs = [v] := by
  obtain ⟨v, e, _⟩ := Dns.one h
  exact ⟨v, e⟩
theorem foldl_take {α β : Type} {f : β → α → β} {x : β} {l : List α} {k : Nat} {d : α} (h : l[k]? = some d) : (l.take (k + 1)).foldl f x = f ((l.take k).foldl f x) d := by
  obtain ⟨h1, h2⟩ := List.getElem?_eq_some_iff.mp h
  rw [← List.take_append_getElem h1, List.foldl_append, h2]; rfl
theorem ints_at {N : List Int} {k : Nat} {d : Dt} (h : (N.map Dt.int)[k]? = some d) : ∃ a, N[k]? = some a ∧ d = .int a := by
  rw [List.getElem?_map, Option.map_eq_some_iff] at h
  obtain ⟨a, h1, h2⟩ := h
  exact ⟨a, h1, h2.symm⟩
theorem dep_dPs (J : List (Int × Int)) : (Dt.list (J.map dPair)).dep ≤ 60 := Nat.le_trans (dep_map (k := 1) fun x _ => dep_dI [x.1, x.2]) (by decide)
theorem dep_dI60 (xs : List Int) : (dI xs).dep ≤ 60 := Nat.le_trans (dep_dI xs) (by decide)
end Mine

namespace Mine
theorem Dns.set {τ : Sto} {v : Value} {d : Dt} (hv : Dn τ v d) : ∀ {vs : List Value} {ds : List Dt} (j : Nat), Dns τ vs ds → Dns τ (vs.set j v) (ds.set j d)
  | [], [], _, _ => trivial
  | w :: vs, e :: ds, 0, h => ⟨hv, h.2⟩
  | w :: vs, e :: ds, j + 1, h => ⟨h.1, Dns.set hv j h.2⟩
  | [], _ :: _, _, h => h.elim
  | _ :: _, [], _, h => h.elim
section
variable {c : Cx nm prg KK gl bl} {ks ksC : List (Nat × NameKind)} {cs : List (Nat × Addr)} {n : Nat} {W : Wk c ks cs n} {β τ τ' : Sto} {Γ Γ' : Gm} {l l' : List (Nat × Value)} {s : Shared} {E : Value → Shared → Prop} {Q : Flow → Shared → Prop} {ss : List Stmt} {rs : List (List Stmt)} {Φ : Nat → Option (List Dt → (Dt → Prop) → Prop)}
theorem gAug {x : Nat} {xs : List Dt} {q1 q2 p : Pos} {ei e : Dx} (hn : 5 ≤ n) (hΦ : PhiOk c Φ n)
    (h : ev Φ ei ks Γ fun d => ∃ (j : Nat) (old : Int), d = .int (j : Nat) ∧ j < 100000 ∧ xs[j]? = some (.int old) ∧ ev Φ e ks Γ fun d2 => ∃ m, d2 = .int m ∧ DG W β Γ (some (x, xs.set j (.int (old + m)))) ss rs Q E) :
    DG W β Γ (some (x, xs)) (.AugAssign (.Subscript (.Name (nm x) q1) (dE ei) q2) .Add (dE e) p :: ss) rs Q E := fun τ l s S R => by
  obtain ⟨acc, vs, h1, h2, h3, h4⟩ := S.ow
  refine sStm (wpAny_AugAssign_SubscriptAny (nm_ok R h2 (ev_ok hn hΦ ei h S.ds R fun d v τ1 s1 hK k1 hv R1 => ?_)) (by cases ei <;> (intros; rfl)))
  obtain ⟨j, old, rfl, hj, hx, hK⟩ := hK
  obtain ⟨t, rfl⟩ := hv
  have h31 := k1 _ _ h3 rfl
  obtain ⟨w, hw, hwd⟩ := (h4.mono k1.frz).get j _ hx
  obtain ⟨t2, rfl⟩ := hwd
  refine gItem R1 h31 rfl hj hw (ev_ok hn hΦ e hK (S.ds.mono k1) R1 fun d v τ2 s2 hK k2 hv R2 => ?_)
  obtain ⟨m, rfl, hK⟩ := hK
  obtain ⟨t3, rfl⟩ := hv
  have h32 := k2 _ _ h31 rfl
  have kk := k1.trans k2
  refine xIadd R2 fun t4 s3 R3 => sItem R3 h32 rfl hj (List.getElem?_eq_some_iff.mp hw).1 fun s4 R4 => hK _ l s4 ⟨?_, acc, _, h1, ?_, upd_self, ?_⟩ R4
  · have D := S.ds.mono kk
    have ko : ∀ {a k}, τ2 a = some k → k.tag ≠ 1 → upd τ2 acc (.ls 1 (vs.set j (.int (old + m) t4))) a = some k := fun e t => (upd_ne (ne_of_it e h32 fun q => t (by rw [q]; rfl))).trans e
    refine ⟨D.lv, fun a k e t => ?_, fun i d e => ?_, fun i hi => ?_, D.inj⟩
    · exact (upd_ne fun q => by subst q; have := h1 _ e; rw [t] at this; cases this).trans (D.up _ _ e t)
    · obtain ⟨u, g1, g2⟩ := D.sat i d e
      exact ⟨u, g1.mono fun a us e => ko e nofun, g2.imp id fun ⟨g3, a, g4, g5⟩ => ⟨g3, a, g4, ko g5 nofun⟩⟩
    · obtain ⟨g1, a, ov, g2, g3, g4⟩ := D.ow i hi
      exact ⟨g1, a, ov, g2, g3, ko g4 nofun⟩
  · exact (h2.mono kk).imp id fun ⟨g3, a, g4, g5⟩ => ⟨g3, a, g4, (upd_ne (ne_of_it g5 h32 nofun)).trans g5⟩
  · have kf : Frz τ2 (upd τ2 acc (.ls 1 (vs.set j (.int (old + m) t4)))) := fun a us e => (upd_ne (ne_of_it e h32 nofun)).trans e
    exact Dns.set (d := .int (old + m)) ⟨t4, rfl⟩ j ((h4.mono kk.frz).mono kf)
end
noncomputable def addN (ns : List Int) (x : Int) : List Int := if x ∈ ns then ns else ns ++ [x]
noncomputable def nmS (xs : List Int) : List Int := xs.take 5 ++ [3, -2, 8, 5, 0]
noncomputable def nmL (xs : List Int) : List Int := ((nmS xs).foldl addN []).take 5
theorem addN_len : ∀ (xs ns : List Int), (xs.foldl addN ns).length ≤ ns.length + xs.length
  | [], ns => Nat.le_refl _
  | x :: xs, ns => by
    refine Nat.le_trans (addN_len xs (addN ns x)) ?_
    unfold addN
    split
    · rw [List.length_cons]; omega
    · rw [List.length_append, List.length_cons]; simp; omega
theorem addN_mem : ∀ (xs ns : List Int) (z : Int), z ∈ xs.foldl addN ns ↔ z ∈ ns ∨ z ∈ xs
  | [], ns, z => by simp
  | x :: xs, ns, z => by
    rw [List.foldl_cons, addN_mem xs]
    unfold addN
    split
    · rename_i h
      constructor
      · rintro (h1 | h1)
        · exact .inl h1
        · exact .inr (.tail _ h1)
      · rintro (h1 | h1)
        · exact .inl h1
        · rcases List.mem_cons.mp h1 with rfl | h1
          · exact .inl h
          · exact .inr h1
    · simp [or_assoc]
theorem addN_nd : ∀ (xs ns : List Int), ns.Nodup → (xs.foldl addN ns).Nodup
  | [], ns, h => h
  | x :: xs, ns, h => by
    rw [List.foldl_cons]
    refine addN_nd xs _ ?_
    unfold addN
    split
    · exact h
    · rename_i hx
      exact List.nodup_append.mpr ⟨h, by simp, fun a ha b hb q => hx (by rw [List.mem_singleton.mp hb] at q; exact q ▸ ha)⟩
theorem nmL_nd (xs : List Int) : (nmL xs).Nodup := (addN_nd _ [] .nil).sublist (List.take_sublist _ _)
theorem nmL_len (xs : List Int) : (nmL xs).length = 5 := by
  unfold nmL
  rw [List.length_take]
  have := len_le (l := [3, -2, 8, 5, 0]) (m := (nmS xs).foldl addN []) (by decide) fun z hz => (addN_mem _ _ _).mpr (.inr (List.mem_append_right _ hz))
  have : 5 ≤ ((nmS xs).foldl addN []).length := this
  omega
noncomputable def phNm : List Dt → (Dt → Prop) → Prop := fun ds K => ∃ xs : List Int, ds = [dI xs] ∧ xs.length ≤ 63 ∧ K (dI (nmL xs))
noncomputable def phSt : List Dt → (Dt → Prop) → Prop := fun ds K => ∃ xs N : List Int, ds = [dI xs, dI N] ∧ xs.length ≤ 63 ∧ N.length = 5 ∧ ∀ es : List (Int × Int), es.length ≤ 6 → (∀ e ∈ es, e.1 ∈ N ∧ e.2 ∈ N) → K (.list (es.map dPair))
noncomputable def jB (a m : Int) (J : List (Int × Int)) (b : Int) : List (Int × Int) := if (m, b) ∈ J ∧ (a, b) ∉ J then J ++ [(a, b)] else J
noncomputable def jA (N : List Int) (m : Int) (J : List (Int × Int)) (a : Int) : List (Int × Int) := if (a, m) ∈ J then N.foldl (jB a m) J else J
noncomputable def jM (N : List Int) (J : List (Int × Int)) (m : Int) : List (Int × Int) := N.foldl (jA N m) J
noncomputable def jAll (N : List Int) (es : List (Int × Int)) : List (Int × Int) := N.foldl (jM N) es
theorem fold_len {f : List (Int × Int) → Int → List (Int × Int)} {k : Nat} (h : ∀ J a, (f J a).length ≤ J.length + k) : ∀ (N : List Int) (J : List (Int × Int)), (N.foldl f J).length ≤ J.length + k * N.length
  | [], J => by simp
  | a :: N, J => by
    rw [List.foldl_cons]
    have := fold_len h N (f J a)
    have h2 := h J a
    rw [List.length_cons, Nat.mul_succ]
    omega
theorem jB_len (a m : Int) (J : List (Int × Int)) (b : Int) : (jB a m J b).length ≤ J.length + 1 := by
  unfold jB; split <;> simp
theorem jA_len (N : List Int) (m : Int) (J : List (Int × Int)) (a : Int) : (jA N m J a).length ≤ J.length + N.length := by
  unfold jA
  split
  · have := fold_len (jB_len a m) N J; omega
  · omega
theorem jM_len (N : List Int) (J : List (Int × Int)) (m : Int) : (jM N J m).length ≤ J.length + N.length * N.length := by
  have := fold_len (jA_len N m) N J
  unfold jM
  exact this
noncomputable def phJn : List Dt → (Dt → Prop) → Prop := fun ds K => ∃ (N : List Int) (es : List (Int × Int)), ds = [dI N, .list (es.map dPair)] ∧ N.length ≤ 5 ∧ es.length ≤ 60 ∧ K (.list ((jAll N es).map dPair))
noncomputable def phItem : List Dt → (Dt → Prop) → Prop := fun ds K => ∃ a b : Int, ds = [.int a, .int b] ∧ K (dI [if a = b then 1 else 0, a])
noncomputable def aheadP (o : List Int) (p : Int × Int) : Bool := decide (((o.idxOf p.1 : Nat) : Int) < ((o.idxOf p.2 : Nat) : Int))
noncomputable def phKp : List Dt → (Dt → Prop) → Prop := fun ds K => ∃ (ps : List (Int × Int)) (o : List Int), ds = [.list (ps.map dPair), dI o] ∧ ps.length < 1000 ∧ o.length ≤ 30 ∧ (∀ p ∈ ps, p.1 ∈ o ∧ p.2 ∈ o) ∧ K (.list ((ps.filter (aheadP o)).map dPair))
section
variable {c : Cx nm prg KK gl bl}
theorem ok_names : FnOk c 6 (.ref f__law_names) phNm := by
  rintro ds K A L τ l s vs Q E ⟨xs, rfl, h63, hK⟩ H LA R hv q
  obtain ⟨v1, rfl⟩ := dns1 hv
  refine callD (n := 5) (is := [125]) H LA R hv q rfl (by kernel_rfl) ⟨rfl, rfl, rfl⟩ (ks := ks__law_names) rfl rfl (BindsTo.of_eq (by kernel_rfl)) rfl rfl fun W β Q' E' hq => ?_
  dsimp only [n_script, n_names, n_x, n_append, r_nm, r_int, r_non, r_bool, r_bin, r_neg, r_not, r_cmp, r_con, r_sub, r_slLo, r_slHi, r_slRev, r_lst, r_call, r_meth, r_lc, r_nil, r_cons, r_cnil, r_cl, r_snil, r_scons, r_scp]
  have h5 : 5 ≤ 5 := Nat.le_refl _
  have hΦ := ok_B1 (c := c)
  have hs : (nmS xs).length ≤ 10 := by unfold nmS; rw [List.length_append, List.length_take]; simp; omega
  refine gNew h5 hΦ rfl rfl ⟨(show 0 < 100000 by decide), ?_⟩
  refine gFor (α := List Int) ((nmS xs).map Dt.int) (fun _ => [(125, dI xs)]) (fun ns => some (93, ns.map Dt.int)) (fun j ns => ns = ((nmS xs).take j).foldl addN []) [] h5 hΦ ?_ rfl (fun _ => rfl) ⟨rfl, trivial⟩ rfl rfl ?_ ?_
  · refine ⟨by rw [List.length_map]; omega, (show 5 < 100000 by decide), ?_, ?_⟩
    · show ((xs.map Dt.int).take _).length + 5 < 100000
      rw [List.length_take, List.length_map]; omega
    · show (xs.map Dt.int).take (cutN (xs.map Dt.int).length ((5 : Nat) : Int)) ++ _ = _
      rw [cutN_nat]
      unfold nmS
      rw [List.map_append, List.map_take]; rfl
  · intro j d ns β' F Qb hd hx lq
    subst hx
    obtain ⟨x, hx, rfl⟩ := ints_at hd
    have hl := addN_len ((nmS xs).take j) []
    rw [List.length_take] at hl
    have e := foldl_take (f := addN) (x := []) hx
    generalize ((nmS xs).take j).foldl addN [] = ns at *
    refine gIf h5 hΦ ⟨⟨Nat.zero_le _, dep_dI60 ns⟩, fun h => ?_, fun h => ?_⟩
    · have h : (xor true ((ns.map Dt.int).any fun d => d.eqB (.int x))) = true := h
      rw [any_int] at h
      have hn : x ∉ ns := by simpa using h
      refine gApp h5 hΦ rfl (by rw [List.length_map]; simp at hl; omega) (gEnd ?_)
      have := Lq.end (Γ := (146, .int x) :: [(125, dI xs)]) (E := F) lq (ns ++ [x]) (by rw [e]; unfold addN; rw [if_neg hn]) ⟨rfl, trivial⟩
      rw [List.map_append] at this
      exact this
    · have h : (xor true ((ns.map Dt.int).any fun d => d.eqB (.int x))) = false := h
      rw [any_int] at h
      have hn : x ∈ ns := by simpa using h
      exact gEnd (Lq.end (Γ := (146, .int x) :: [(125, dI xs)]) (E := F) lq ns (by rw [e]; unfold addN; rw [if_pos hn]) ⟨rfl, trivial⟩)
  · intro ns hx
    rw [List.length_map, List.take_length] at hx
    have hl := addN_len (nmS xs) []
    rw [← hx] at hl
    refine gFrz (gRet h5 hΦ ⟨by rw [List.length_map]; simp at hl; omega, fun v τ l s k hv R => ?_⟩)
    refine hq v (dI (nmL xs)) τ l s hK k ?_ R
    have e : (ns.map Dt.int).take (cutN (ns.map Dt.int).length ((5 : Nat) : Int)) = (nmL xs).map Dt.int := by
      rw [cutN_nat]; unfold nmL; rw [← hx, List.map_take]
    exact cast (congrArg (fun x => Dn τ v (.list x)) e) hv
theorem ok_steps : FnOk c 6 (.ref f__law_steps) phSt := by
  rintro ds K A L τ l s vs Q E ⟨xs, N, rfl, h63, hN, hK⟩ H LA R hv q
  obtain ⟨v1, v2, rfl, -⟩ := Dns.two hv
  refine callD (n := 5) (is := [125, 93]) H LA R hv q rfl (by kernel_rfl) ⟨rfl, rfl, rfl⟩ (ks := ks__law_steps) rfl rfl (BindsTo.of_eq (by kernel_rfl)) rfl rfl fun W β Q' E' hq => ?_
  dsimp only [n_script, n_names, n_draws, n_i, n_steps, n_d, n_a, n_b, n_range, n_len, n_min, n_max, n_append, r_nm, r_int, r_non, r_bool, r_bin, r_neg, r_not, r_cmp, r_con, r_sub, r_slLo, r_slHi, r_slRev, r_lst, r_call, r_meth, r_lc, r_nil, r_cons, r_cnil, r_cl, r_snil, r_scons, r_scp]
  have h5 : 5 ≤ 5 := Nat.le_refl _
  have hΦ := ok_B1 (c := c)
  have hxl : (xs.map Dt.int).length = xs.length := List.length_map _
  refine gNew h5 hΦ rfl rfl ⟨(show 6 < 100000 by decide), ?_⟩
  refine gFor (α := List Int) ((List.range xs.length).map fun j => .int (j : Nat)) (fun _ => [(93, dI N), (125, dI xs)]) (fun d => some (52, d.map Dt.int)) (fun j d => d.length = 6) [10, 11, 22, 20, 16, 9] h5 hΦ ⟨_, rfl, by rw [hxl]; omega, xs.length, by rw [hxl], by omega, rfl⟩ rfl (fun _ => rfl) ⟨rfl, rfl, trivial⟩ rfl rfl ?_ ?_
  · intro j d x β' F Qb hd hx lq
    obtain ⟨hj, rfl⟩ : j < xs.length ∧ d = .int (j : Nat) := by
      rw [List.getElem?_map, Option.map_eq_some_iff] at hd
      obtain ⟨k, h1, h2⟩ := hd
      obtain ⟨h3, h4⟩ := List.getElem?_eq_some_iff.mp h1
      rw [List.getElem_range] at h4
      subst h4
      exact ⟨by simpa using h3, h2.symm⟩
    have hm : j % 6 < x.length := by rw [hx]; exact Nat.mod_lt _ (by decide)
    refine gAug h5 hΦ ⟨by decide, j % 6, x.getD (j % 6) 0, congrArg Dt.int (Int.ofNat_fmod j 6).symm, by omega, int_at hm, j, _, rfl, by omega, int_at hj, _, rfl, ?_⟩
    have := Lq.end (Γ := (65, .int (j : Nat)) :: [(93, dI N), (125, dI xs)]) (E := F) lq (x.set (j % 6) (x.getD (j % 6) 0 + xs.getD j 0)) (by rw [List.length_set]; exact hx) ⟨rfl, rfl, trivial⟩
    rw [List.map_set] at this
    exact this
  · intro ds hds
    refine gFrz (gNew h5 hΦ rfl rfl ⟨(show 0 < 100000 by decide), ?_⟩)
    refine gFor (α := List (Int × Int)) (ds.map Dt.int) (fun _ => [(52, dI ds), (93, dI N), (125, dI xs)]) (fun es => some (137, es.map dPair)) (fun j es => es.length ≤ j ∧ ∀ e ∈ es, e.1 ∈ N ∧ e.2 ∈ N) [] h5 hΦ rfl rfl (fun _ => rfl) ⟨rfl, rfl, rfl, trivial⟩ rfl ⟨Nat.le_refl _, nofun⟩ ?_ ?_
    · rintro j d es β' F Qb hd ⟨hl, hin⟩ lq
      obtain ⟨x, hx, rfl⟩ := ints_at hd
      have hj : j < 6 := by have := (List.getElem?_eq_some_iff.mp hx).1; omega
      have fin : ∀ es' : List (Int × Int), es'.length ≤ j + 1 → (∀ e ∈ es', e.1 ∈ N ∧ e.2 ∈ N) → ∀ {a b : Dt}, DG W β' [(42, b), (36, a), (50, .int x), (52, dI ds), (93, dI N), (125, dI xs)] (some (137, es'.map dPair)) [] [] Qb F := fun es' h1 h2 {a b} => Lq.end (Γ := [(42, b), (36, a), (50, .int x), (52, dI ds), (93, dI N), (125, dI xs)]) (E := F) lq es' ⟨h1, h2⟩ ⟨rfl, rfl, rfl, trivial⟩
      have go : ∀ a b : Nat, a < 5 → b < 5 → ∀ {a' b' : Dt}, DG W β' [(42, b'), (36, a'), (50, .int x), (52, dI ds), (93, dI N), (125, dI xs)] (some (137, es.map dPair ++ [.list [.int (N.getD a 0), .int (N.getD b 0)]])) [] [] Qb F := fun a b ha hb {a' b'} => by
        have hg : ∀ {i : Nat}, i < 5 → N.getD i 0 ∈ N := fun {i} h => by
          have h : i < N.length := by omega
          rw [List.getD_eq_getElem?_getD, List.getElem?_eq_getElem h]
          exact List.getElem_mem h
        have := fin (es ++ [(N.getD a 0, N.getD b 0)]) (by rw [List.length_append]; exact Nat.succ_le_succ hl) (fun e he => (List.mem_append.mp he).elim (hin e) fun h => by rw [List.mem_singleton.mp h]; exact ⟨hg ha, hg hb⟩) (a := a') (b := b')
        rw [List.map_append] at this
        exact this
      obtain ⟨a, ea, ha⟩ : ∃ a : Nat, x.fmod 5 = (a : Nat) ∧ a < 5 := ⟨(x.fmod 5).toNat, (Int.toNat_of_nonneg (Int.fmod_nonneg_of_pos _ (by decide))).symm, by have := Int.fmod_lt_of_pos x (show (0 : Int) < 5 by decide); have := Int.fmod_nonneg_of_pos x (show (0 : Int) < 5 by decide); omega⟩
      obtain ⟨b, eb, hb⟩ : ∃ b : Nat, (x.fdiv 5).fmod 5 = (b : Nat) ∧ b < 5 := ⟨((x.fdiv 5).fmod 5).toNat, (Int.toNat_of_nonneg (Int.fmod_nonneg_of_pos _ (by decide))).symm, by have := Int.fmod_lt_of_pos (x.fdiv 5) (show (0 : Int) < 5 by decide); have := Int.fmod_nonneg_of_pos (x.fdiv 5) (show (0 : Int) < 5 by decide); omega⟩
      refine gAsg h5 hΦ rfl rfl rfl ⟨by decide, ?_⟩
      refine gAsg h5 hΦ rfl rfl rfl ⟨⟨by decide, by decide⟩, by decide, ?_⟩
      rw [ea, eb]
      have hlt : ∀ {i : Nat}, i < 5 → i < N.length := fun h => by omega
      have h100 : ∀ {i : Nat}, i < 5 → i < 100000 := fun h => by omega
      have hes : (es.map dPair).length < 100000 := by rw [List.length_map]; omega
      refine gIf h5 hΦ ⟨⟨by decide, by decide⟩, by decide, ⟨Nat.zero_le _, Nat.zero_le _⟩, fun h => ?_, fun h => ?_⟩
      · refine gApp h5 hΦ rfl hes ⟨a, _, rfl, h100 ha, int_at (hlt ha), b, _, rfl, h100 hb, int_at (hlt hb), (show 2 < 100000 by decide), gEnd (go a b ha hb)⟩
      · refine gIf h5 hΦ ⟨⟨Nat.zero_le _, Nat.zero_le _⟩, fun h => ?_, fun h => gEnd (gEnd (fin es (Nat.le_succ_of_le hl) hin))⟩
        have mn : ∀ {p : Prop} [Decidable p], (if p then ((b : Nat) : Int) else ((a : Nat) : Int)) = ((if p then b else a : Nat) : Int) := fun {p} _ => by split <;> rfl
        have lt5 : ∀ {p : Prop} [Decidable p], (if p then b else a) < 5 := fun {p} _ => by split <;> assumption
        refine gApp h5 hΦ rfl hes ⟨_, _, rfl, _, _, mn, h100 lt5, int_at (hlt lt5), _, _, rfl, _, _, mn, h100 lt5, int_at (hlt lt5), (show 2 < 100000 by decide), gEnd (gEnd (go _ _ lt5 lt5))⟩
    · rintro es ⟨hl, hin⟩
      rw [List.length_map, hds] at hl
      exact gFrz (gRet h5 hΦ fun v τ l s k hv R => hq v _ τ l s (hK es hl hin) k hv R)
theorem ok_joined : FnOk c 6 (.ref f__law_joined) phJn := by
  rintro ds K A L τ l s vs Q E ⟨N, es, rfl, hN, hes, hK⟩ H LA R hv q
  obtain ⟨v1, v2, rfl, -⟩ := Dns.two hv
  refine callD (n := 5) (is := [93, 137]) H LA R hv q rfl (by kernel_rfl) ⟨rfl, rfl, rfl⟩ (ks := ks__law_joined) rfl rfl (BindsTo.of_eq (by kernel_rfl)) rfl rfl fun W β Q' E' hq => ?_
  dsimp only [n_names, n_steps, n_joined, n_middle, n_a, n_b, n_list, n_append, r_nm, r_int, r_non, r_bool, r_bin, r_neg, r_not, r_cmp, r_con, r_sub, r_slLo, r_slHi, r_slRev, r_lst, r_call, r_meth, r_lc, r_nil, r_cons, r_cnil, r_cl, r_snil, r_scons, r_scp]
  have h5 : 5 ≤ 5 := Nat.le_refl _
  have hΦ := ok_B1 (c := c)
  have nn : N.length * N.length ≤ 25 := Nat.le_trans (Nat.mul_le_mul hN hN) (by decide)
  refine gNewL h5 hΦ rfl rfl rfl ⟨by rw [List.length_map]; omega, ?_⟩
  refine gFor (α := List (Int × Int)) (N.map Dt.int) (fun _ => [(137, .list (es.map dPair)), (93, dI N)]) (fun J => some (74, J.map dPair)) (fun k J => J = (N.take k).foldl (jM N) es) es h5 hΦ rfl rfl (fun _ => rfl) ⟨rfl, rfl, trivial⟩ rfl rfl ?_ ?_
  · rintro k d J β1 F Qb hd rfl lq
    obtain ⟨m, hm, rfl⟩ := ints_at hd
    have e1 := foldl_take (f := jM N) (x := es) hm
    have l1 := fold_len (jM_len N) (N.take k) es
    have l1 : ((N.take k).foldl (jM N) es).length ≤ 60 + 25 * 5 := Nat.le_trans l1 (Nat.add_le_add hes (Nat.mul_le_mul nn (by rw [List.length_take]; omega)))
    generalize (N.take k).foldl (jM N) es = J0 at *
    refine gFor (α := List (Int × Int)) (N.map Dt.int) (fun _ => [(88, .int m), (137, .list (es.map dPair)), (93, dI N)]) (fun J => some (74, J.map dPair)) (fun i J => J = (N.take i).foldl (jA N m) J0) J0 h5 hΦ rfl rfl (fun _ => rfl) ⟨rfl, rfl, rfl, trivial⟩ rfl rfl ?_ ?_
    · rintro i d J β2 F2 Qb2 hd rfl lq2
      obtain ⟨a, ha, rfl⟩ := ints_at hd
      have e2 := foldl_take (f := jA N m) (x := J0) ha
      have l2 := fold_len (jA_len N m) (N.take i) J0
      have l2 : ((N.take i).foldl (jA N m) J0).length ≤ 200 + 25 := Nat.le_trans l2 (Nat.add_le_add (by omega) (Nat.le_trans (Nat.mul_le_mul hN (by rw [List.length_take]; exact Nat.le_trans (Nat.min_le_right ..) hN)) (by decide)))
      generalize (N.take i).foldl (jA N m) J0 = J1 at *
      refine gIf h5 hΦ ⟨(show 2 < 100000 by decide), ⟨dep_dI60 [a, m], dep_dPs J1⟩, fun h => ?_, fun h => ?_⟩
      · have h : (xor false ((J1.map dPair).any fun d => d.eqB (dPair (a, m)))) = true := h
        rw [any_dPair] at h
        have h : (a, m) ∈ J1 := by simpa using h
        refine gFor (α := List (Int × Int)) (N.map Dt.int) (fun _ => [(36, .int a), (88, .int m), (137, .list (es.map dPair)), (93, dI N)]) (fun J => some (74, J.map dPair)) (fun i J => J = (N.take i).foldl (jB a m) J1) J1 h5 hΦ rfl rfl (fun _ => rfl) ⟨rfl, rfl, rfl, rfl, trivial⟩ rfl rfl ?_ ?_
        · rintro i d J β3 F3 Qb3 hd rfl lq3
          obtain ⟨b, hb, rfl⟩ := ints_at hd
          have e3 := foldl_take (f := jB a m) (x := J1) hb
          have l3 := fold_len (jB_len a m) (N.take i) J1
          have l3 : ((N.take i).foldl (jB a m) J1).length ≤ 300 := by rw [List.length_take] at l3; omega
          generalize (N.take i).foldl (jB a m) J1 = J2 at *
          have fin : ∀ J3, J3 = jB a m J2 b → DG W β3 [(42, .int b), (36, .int a), (88, .int m), (137, .list (es.map dPair)), (93, dI N)] (some (74, J3.map dPair)) [] [] Qb3 F3 := fun J3 h => Lq.end (Γ := _) (E := F3) lq3 J3 (h.trans e3.symm) ⟨rfl, rfl, rfl, rfl, trivial⟩
          have tm : ∀ x : Int × Int, (J2.map dPair).any (fun d => d.eqB (dPair x)) = decide (x ∈ J2) := any_dPair J2
          refine gIf h5 hΦ ⟨(show 2 < 100000 by decide), ⟨dep_dI60 [m, b], dep_dPs J2⟩, fun h1 => ⟨(show 2 < 100000 by decide), ⟨dep_dI60 [a, b], dep_dPs J2⟩, fun h2 => ?_, fun h2 => ?_⟩, fun h1 => ⟨nofun, fun _ => ?_⟩⟩
          · have h1 : (xor false ((J2.map dPair).any fun d => d.eqB (dPair (m, b)))) = true := h1
            have h2 : (xor true ((J2.map dPair).any fun d => d.eqB (dPair (a, b)))) = true := h2
            rw [tm] at h1 h2
            have h1 : (m, b) ∈ J2 := by simpa using h1
            have h2 : (a, b) ∉ J2 := by simpa using h2
            refine gApp h5 hΦ rfl (by rw [List.length_map]; omega) ⟨(show 2 < 100000 by decide), gEnd ?_⟩
            have := fin (J2 ++ [(a, b)]) (by unfold jB; rw [if_pos ⟨h1, h2⟩])
            rw [List.map_append] at this
            exact this
          · have h2 : (xor true ((J2.map dPair).any fun d => d.eqB (dPair (a, b)))) = false := h2
            rw [tm] at h2
            have h2 : (a, b) ∈ J2 := by simpa using h2
            exact gEnd (fin J2 (by unfold jB; rw [if_neg fun z => z.2 h2]))
          · have h1 : (xor false ((J2.map dPair).any fun d => d.eqB (dPair (m, b)))) = false := h1
            rw [tm] at h1
            have h1 : (m, b) ∉ J2 := by simpa using h1
            exact gEnd (fin J2 (by unfold jB; rw [if_neg fun z => h1 z.1]))
        · rintro J rfl
          rw [List.length_map, List.take_length]
          exact gEnd (Lq.end (Γ := _) (E := F2) lq2 (N.foldl (jB a m) J1) (by rw [e2]; unfold jA; rw [if_pos h]) ⟨rfl, rfl, rfl, trivial⟩)
      · have h : (xor false ((J1.map dPair).any fun d => d.eqB (dPair (a, m)))) = false := h
        rw [any_dPair] at h
        have h : (a, m) ∉ J1 := by simpa using h
        exact gEnd (Lq.end (Γ := _) (E := F2) lq2 J1 (by rw [e2]; unfold jA; rw [if_neg h]) ⟨rfl, rfl, rfl, trivial⟩)
    · rintro J rfl
      rw [List.length_map, List.take_length]
      exact Lq.end (Γ := _) (E := F) lq (N.foldl (jA N m) J0) e1.symm ⟨rfl, rfl, trivial⟩
  · rintro J rfl
    rw [List.length_map, List.take_length]
    exact gFrz (gRet h5 hΦ fun v τ l s k hv R => hq v _ τ l s hK k hv R)
theorem ok_item : FnOk c 6 (.ref f__law_item) phItem := by
  rintro ds K A L τ l s vs Q E ⟨a, b, rfl, hK⟩ H LA R hv q
  obtain ⟨v1, v2, rfl, -⟩ := Dns.two hv
  refine callD (n := 5) (is := [92, 79]) H LA R hv q rfl (by kernel_rfl) ⟨rfl, rfl, rfl⟩ (ks := ks__law_item) rfl rfl (BindsTo.of_eq (by kernel_rfl)) rfl rfl fun W β Q' E' hq => ?_
  dsimp only [n_name, n_late, r_nm, r_int, r_non, r_bool, r_bin, r_neg, r_not, r_cmp, r_con, r_sub, r_slLo, r_slHi, r_slRev, r_lst, r_call, r_meth, r_lc, r_nil, r_cons, r_cnil, r_cl, r_snil, r_scons, r_scp]
  have h5 : 5 ≤ 5 := Nat.le_refl _
  have hΦ := ok_B1 (c := c)
  refine gIf h5 hΦ ⟨⟨Nat.zero_le _, Nat.zero_le _⟩, fun h => ?_, fun h => gEnd ?_⟩
  · have h : (Dt.int a).eqB (.int b) = true := h
    rw [eqB_int] at h
    rw [if_pos (of_decide_eq_true h)] at hK
    exact gRet h5 hΦ ⟨(show 2 < 100000 by decide), fun v τ l s k hv R => hq v _ τ l s hK k hv R⟩
  · have h : (Dt.int a).eqB (.int b) = false := h
    rw [eqB_int] at h
    rw [if_neg (of_decide_eq_false h)] at hK
    exact gRet h5 hΦ ⟨(show 2 < 100000 by decide), fun v τ l s k hv R => hq v _ τ l s hK k hv R⟩
theorem ok_kept : FnOk c 6 (.ref f__law_kept) phKp := by
  rintro ds K A L τ l s vs Q E ⟨ps, o, rfl, hps, ho, hin, hK⟩ H LA R hv q
  obtain ⟨v1, v2, rfl, -⟩ := Dns.two hv
  refine callD (n := 5) (is := [108, 104]) H LA R hv q rfl (by kernel_rfl) ⟨rfl, rfl, rfl⟩ (ks := ks__law_kept) rfl rfl (BindsTo.of_eq (by kernel_rfl)) rfl rfl fun W β Q' E' hq => ?_
  dsimp only [n_pairs, n_order, n_p, n_dot0, n_index, r_nm, r_int, r_non, r_bool, r_bin, r_neg, r_not, r_cmp, r_con, r_sub, r_slLo, r_slHi, r_slRev, r_lst, r_call, r_meth, r_lc, r_nil, r_cons, r_cnil, r_cl, r_snil, r_scons, r_scp]
  have h5 : 5 ≤ 5 := Nat.le_refl _
  have hΦ := ok_B1 (c := c)
  refine gRet h5 hΦ ⟨(ps.filter (aheadP o)).map dPair, tnB_to ps dPair (fun p => if aheadP o p = true then [dPair p] else []) rfl rfl rfl fmF fun p hp => ⟨0, _, rfl, by decide, rfl, o, rfl, ho, (hin p hp).1, 1, _, rfl, by decide, rfl, o, rfl, ho, (hin p hp).2, fun h => if_pos h, fun h => if_neg (by rw [show aheadP o p = false from h]; decide)⟩, ?_, fun v τ l s k hv R => hq v _ τ l s hK k hv R⟩
  rw [List.length_map]
  have := List.length_filter_le (aheadP o) ps
  omega
end
end Mine

namespace Mine
noncomputable def It.retag : It → It
  | .ob _ o => .ob 20 o
  | .ls _ vs => .ls 20 vs
  | .pr _ P => .pr 20 P
  | .fr l => .fr l
noncomputable def It.mask (i : It) : It := bif i.own then i.retag else i
theorem It.mask_own (i : It) : i.mask.own = false := by
  unfold It.mask
  cases h : i.own with
  | true => cases i with
    | fr l => cases h
    | _ => rfl
  | false => exact h
theorem It.mask_no {i : It} (h : i.own = false) : i.mask = i := by unfold It.mask; rw [h]; rfl
theorem It.mask_sat {nm : Nat → Str} {h : Heap} {a : Addr} {i : It} : i.mask.sat nm h a ↔ i.sat nm h a := by
  unfold It.mask
  cases i.own <;> cases i <;> exact Iff.rfl
theorem It.mask_fz (i : It) : i.mask.fz = i.fz := by
  unfold It.mask
  cases h : i.own with
  | false => rfl
  | true => cases i with
    | ls t vs => cases t with
      | zero => cases h
      | succ n => rfl
    | _ => rfl
noncomputable def maskS (τ : Sto) : Sto := fun a => (τ a).map It.mask
noncomputable def unmS (τ τ' : Sto) : Sto := fun a => match τ a with
  | some i => bif i.own then some i else τ' a
  | none => τ' a
section
variable {τ τ' : Sto} {a : Addr} {i : It}
theorem mask_at (h : τ a = some i) : maskS τ a = some i.mask := by unfold maskS; rw [h]; rfl
theorem mask_none (h : τ a = none) : maskS τ a = none := by unfold maskS; rw [h]; rfl
theorem mask_inv {j : It} (h : maskS τ a = some j) : ∃ i, τ a = some i ∧ j = i.mask := by
  unfold maskS at h
  obtain ⟨i, h1, h2⟩ := Option.map_eq_some_iff.mp h
  exact ⟨i, h1, h2.symm⟩
theorem mask_keep (h : τ a = some i) (ho : i.own = false) : maskS τ a = some i := by rw [mask_at h, It.mask_no ho]
theorem mask_upd (ho : i.own = false) : maskS (upd τ a i) = upd (maskS τ) a i := by
  funext b
  unfold maskS upd
  by_cases q : b = a
  · rw [if_pos q, if_pos q, Option.map_some, It.mask_no ho]
  · rw [if_neg q, if_neg q]
theorem unm_all (k : Keep2 (maskS τ) τ') : ∀ a i, τ a = some i → unmS τ τ' a = some i := fun a i e => by
  unfold unmS
  rw [e]
  dsimp only
  cases h : i.own with
  | true => rfl
  | false => exact k a i (mask_keep e h) h
theorem unm_up (k : Keep2 (maskS τ) τ') : Keep2 τ (unmS τ τ') ∧ Up2 τ (unmS τ τ') := ⟨fun a i e _ => unm_all k a i e, fun a i e _ => unm_all k a i e⟩
theorem unm_at {j : It} (k : Keep2 (maskS τ) τ') (h : τ' a = some j) (ht : j.tag ≠ 20) : unmS τ τ' a = some j := by
  unfold unmS
  cases e : τ a with
  | none => exact h
  | some i =>
    dsimp only
    cases ho : i.own with
    | false => exact h
    | true =>
      exfalso
      have h2 := k a _ (mask_at e) (It.mask_own i)
      rw [h] at h2
      cases h2
      apply ht
      unfold It.mask
      rw [ho]
      cases i with
      | fr l => cases ho
      | _ => rfl
theorem unm_frz (k : Keep2 (maskS τ) τ') : Frz τ' (unmS τ τ') := fun a vs e => unm_at k e (show 0 ≠ 20 by decide)
end
section
variable {c : Cx nm prg KK gl bl} {A : Around} {E : Value → Shared → Prop} {τ τ' : Sto} {L : Addr} {l : List (Nat × Value)} {s : Shared}
theorem Rel.mask (R : Rel c τ L l s) : Rel c (maskS τ) L l s :=
  ⟨R.keep, fun a j e => let ⟨i, h1, h2⟩ := mask_inv e; h2 ▸ It.mask_sat.mpr (R.sat a i h1), fun a j e => let ⟨i, h1, h2⟩ := mask_inv e; h2 ▸ (It.mask_fz i).symm ▸ R.new a i h1, R.here, R.newL, mask_none R.apart, R.gens, R.os⟩
theorem Rel.unmask (k : Keep2 (maskS τ) τ') (R : Rel c τ' L l s) : Rel c (unmS τ τ') L l s := by
  have go : ∀ a i, unmS τ τ' a = some i → ∃ j, τ' a = some j ∧ (j.sat nm s.heap a → i.sat nm s.heap a) ∧ j.fz = i.fz := fun a i e => by
    unfold unmS at e
    cases h : τ a with
    | none => rw [h] at e; exact ⟨i, e, id, rfl⟩
    | some i0 =>
      rw [h] at e
      dsimp only at e
      cases ho : i0.own with
      | false => rw [ho] at e; exact ⟨i, e, id, rfl⟩
      | true =>
        rw [ho] at e
        cases e
        exact ⟨_, k a _ (mask_at h) (It.mask_own _), It.mask_sat.mp, It.mask_fz _⟩
  refine ⟨R.keep, fun a i e => ?_, fun a i e => ?_, R.here, R.newL, ?_, R.gens, R.os⟩
  · obtain ⟨j, h1, h2, _⟩ := go a i e
    exact h2 (R.sat a j h1)
  · obtain ⟨j, h1, _, h3⟩ := go a i e
    exact h3 ▸ R.new a j h1
  · cases e : unmS τ τ' L with
    | none => rfl
    | some i =>
      obtain ⟨j, h1, _⟩ := go L i e
      rw [R.apart] at h1
      cases h1
end
section
variable {c : Cx nm prg KK gl bl} {A : Around} {L : Addr} {ks ksC : List (Nat × NameKind)} {cs : List (Nat × Addr)} {n : Nat} {W : Wk c ks cs n} {own : List Nat} {β τ τ' : Sto} {Γ Γ' : Gm} {l l' : List (Nat × Value)} {s : Shared} {E : Value → Shared → Prop} {Φ : Nat → Option (List Dt → (Dt → Prop) → Prop)}
theorem lcTurnsG (hn : 1 ≤ n) {elt : Expr} {i : Nat} {q : Pos} {itE : Expr} {fs : Dx} {pos : Pos} {F : Gm → (Bool → Prop) → Prop} {Rr : Gm → List Dt → Prop} {ds ys : List Dt} (hok1 : ndK ksC = true) (hok2 : okC ks Γ ksC = true)
    (hF : ∀ {cs'} {W' : Wk c (relab ksC) cs' n} {Γ K β τ l s E Q}, F Γ K → DS W'.A W'.L (relab ksC) cs' (cellNs ksC) β Γ τ l → Rl W' τ l s → (∀ b τ' s', K b → Keep2 τ τ' → Rl W' τ' l s' → Q b s') → wpAny c.M W'.A (testsOf (dL fs) W'.env) Q E s)
    (hR : ∀ {cs'} {W' : Wk c (relab ksC) cs' n} {acc Γ zs xs β τ l s E}, Rr Γ zs → CI W'.A W'.L (relab ksC) cs' (cellNs ksC) β acc Γ xs τ l → xs.length + zs.length < 100000 → Rl W' τ l s → wpAny c.M W'.A (emitAt elt [⟨.Name (nm i) q, itE, dL fs, 0⟩] (scp ksC) pos 0 (.ref acc) W'.env) (fun _ s' => ∃ τ' l', CI W'.A W'.L (relab ksC) cs' (cellNs ksC) β acc Γ (xs ++ zs) τ' l' ∧ Rl W' τ' l' s') E s)
    (T : tnB F Rr ksC i (innG ksC Γ) ds ys) (hz : ys.length < 100000) (D : DS W.A W.L ks cs own β Γ τ l)
    {itr : Addr} {P : Nat → Value → Prop} {S : Nat → It} {D' : Sto → Prop} (Dr : Drv c itr ds.length P S D') (hP : ∀ j v, j < ds.length → P j v → ∃ d, ds[j]? = some d ∧ ∀ τ', Keep2 τ τ' → Dn τ' v d) (hD : ∀ τ', Keep2 τ τ' → D' τ') (hS : ∀ j, (S j).tag = 1) (n1 : τ itr = none) (R2 : Rel c (upd τ itr (S 0)) W.L l s) {Kf : List (Nat × Value) → Addr → Sto → Prop}
    (hK : ∀ acc τf, τ acc = none → acc ≠ W.L → Keep2 τ τf → (∃ vs, τf acc = some (.ls 1 vs) ∧ Dns τf vs ys) → Kf l acc τf) :
    ∃ τ l it S, Value.ref itr = .ref it ∧ Rel c (upd τ it S) W.L l s ∧ τ it = none ∧ (∀ {A Q E τ' L' l' s'}, Rel c (upd τ' it S) L' l' s' → Q (.ref it) s' → wpAny c.M A (pyIter (.ref it)) Q E s') ∧
      ∀ acc as C env' s₃, LCIn c W.L ksC (closGo cs ksC []) τ l it S acc as C env' s₃ → codeAny c.M W.A (.compLoop (.ListComp elt [⟨.Name (nm i) q, itE, dL fs, 0⟩] (scp ksC) pos) 0 (.ref it) (.ref acc) env') (LCPost c W.L l C (Kf l acc)) s₃ := by
  refine ⟨τ, l, itr, S 0, rfl, R2, n1, fun R q => Dr.self R q, fun acc as C env' s3 hin => ?_⟩
  obtain ⟨a1, a2, a3, a4, a5, a6, a7, a8, a9, a10, a11, a12, a13⟩ := hin
  have hL : τ W.L = none := (upd_none R2.apart).2
  have kL : Keep2 τ (upd τ W.L (.fr l)) := Keep2.up hL
  have neL : ∀ {a i}, τ a = some i → a ≠ W.L := fun e => ne_of_none e hL
  refine turnsGo (W := ⟨W.A, env', C, a11, W.H⟩) hn rfl (fun g' e => by simp at e) hF hR T (by rw [List.length_nil, Nat.zero_add]; exact hz) Dr (fun j v hj hp => ?_) (fun τ k => hD τ (kL.trans k)) hS (D.inner hL hok1 hok2 a1 a3 a4 a5 a8 a9) a13 a12 fun τe lc s C' R' => ?_
  · obtain ⟨d, h1, h2⟩ := hP j v hj hp
    exact ⟨d, h1, fun τ k => h2 τ (kL.trans k)⟩
  · obtain ⟨vs, g1, g2⟩ := C'.ac
    have eL : τe W.L = some (.fr l) := C'.ds.up _ _ upd_self rfl
    refine ⟨τe, lc, del τe W.L, R', eL, fun a i e => ?_, del_self, hK acc _ a1 a3 (fun a i e t => ?_) ⟨vs, (del_ne a3).trans g1, ?_⟩⟩
    · exact (del_ne fun q => by subst q; rw [del_self] at e; cases e).symm.trans e
    · have hne : a ≠ W.L := neL e
      exact (del_ne hne).trans (C'.ds.up _ _ (kL _ _ e t) t)
    · have : ys = [] ++ ys := rfl
      exact (this ▸ g2).mono fun a us e => (del_ne (ne_of_it e eL nofun)).trans e
theorem DS.cells (D : DS A L ks cs own β Γ τ l) (hc : ∀ i d, Γ.lookup i = some d → ks.lookup i = some .cell) (k : Keep2 τ τ') (l' : List (Nat × Value)) : DS A L ks cs own β Γ τ' l' := by
  have D' := D.mono k
  refine ⟨D'.lv, D'.up, fun i d e => ?_, D'.ow, D'.inj⟩
  obtain ⟨v, h1, ⟨h2, _⟩ | h2⟩ := D'.sat i d e
  · rw [hc i d e] at h2; cases h2
  · exact ⟨v, h1, .inr h2⟩
theorem DS.loc (D : DS A L ks cs own β Γ τ l) {i : Nat} {d : Dt} {v : Value} (hk : ks.lookup i = some .local) (hl : l.lookup i = some v) (hd : Dn τ v d) : DS A L ks cs own β ((i, d) :: Γ) τ l := by
  refine ⟨D.lv, D.up, fun j e he => ?_, D.ow, D.inj⟩
  rw [List.lookup_cons] at he
  by_cases z : j = i
  · subst z
    rw [beq_self_eq_true] at he
    cases he
    exact ⟨v, hd, .inl ⟨hk, hl⟩⟩
  · rw [beq_eq_false_iff_ne.mpr z] at he
    exact D.sat j e he
end
end Mine

namespace Mine
theorem find_gSet {G : List Gn} {k z : Int} {f : Gn → Gn} (hf : ∀ g, (f g).k = g.k) : (gSet G k f).find? (fun g => g.k == z) = (G.find? fun g => g.k == z).map fun g => if g.k = k then f g else g := by
  unfold gSet
  rw [List.find?_map]
  congr 1
  have : ((fun g : Gn => g.k == z) ∘ fun g => if g.k = k then f g else g) = fun g : Gn => g.k == z := by
    funext g
    dsimp only [Function.comp]
    split
    · rw [hf]
    · rfl
  rw [this]
theorem find_key {G : List Gn} {z : Int} (h : z ∈ G.map (·.k)) : ∃ g, G.find? (fun g => g.k == z) = some g ∧ g.k = z ∧ g ∈ G := by
  obtain ⟨g, hg, e⟩ := List.mem_map.mp h
  cases q : G.find? fun g => g.k == z with
  | none =>
    rw [List.find?_eq_none] at q
    have := q g hg
    simp [e] at this
  | some g' => exact ⟨g', rfl, by simpa using List.find?_some q, List.mem_of_find?_eq_some q⟩
theorem scOf_gSet {G : List Gn} {k z : Int} {f : Gn → Gn} (hf : ∀ g, (f g).k = g.k) (hs : ∀ g, (f g).sc = g.sc) : scOf (gSet G k f) z = scOf G z := by
  unfold scOf
  rw [find_gSet hf]
  cases G.find? fun g => g.k == z with
  | none => rfl
  | some g =>
    show (if g.k = k then f g else g).sc = g.sc
    split
    · exact hs g
    · rfl
theorem npOf_gSet {G : List Gn} {k z : Int} {f : Gn → Gn} {h : Int → Int} (hf : ∀ g, (f g).k = g.k) (hh : ∀ g, (f g).np = h g.np) (hz : z ∈ G.map (·.k)) : npOf (gSet G k f) z = if z = k then h (npOf G z) else npOf G z := by
  obtain ⟨g, e, ek, _⟩ := find_key hz
  unfold npOf
  rw [find_gSet hf, e]
  show (if g.k = k then f g else g).np = if z = k then h g.np else g.np
  rw [ek]
  split
  · exact hh g
  · rfl
theorem gDec_np {G : List Gn} {k z : Int} (hz : z ∈ G.map (·.k)) : npOf (gSet G k fun g => { g with np := g.np - 1 }) z = if z = k then npOf G z - 1 else npOf G z := npOf_gSet (h := fun x => x - 1) (fun _ => rfl) (fun _ => rfl) hz
theorem steps_sc : ∀ (zs : List Int) (p : List Gn × List Int) (z : Int), scOf (zs.foldl gStep p).1 z = scOf p.1 z
  | [], _, _ => rfl
  | a :: r, p, z => (steps_sc r _ z).trans (scOf_gSet (fun _ => rfl) fun _ => rfl)
theorem steps_np : ∀ (zs : List Int) (p : List Gn × List Int) (z : Int), z ∈ p.1.map (·.k) → npOf (zs.foldl gStep p).1 z = npOf p.1 z - zs.count z
  | [], p, z, _ => by simp
  | a :: r, p, z, hz => by
    rw [List.foldl_cons, steps_np r _ z (by show z ∈ (gSet _ _ _).map _; rw [gSet_k (f := fun g => { g with np := g.np - 1 }) fun _ => rfl]; exact hz)]
    show npOf (gSet p.1 a fun g => { g with np := g.np - 1 }) z - _ = _
    rw [gDec_np hz, List.count_cons]
    by_cases q : z = a
    · subst q; simp; omega
    · have : (a == z) = false := beq_eq_false_iff_ne.mpr (Ne.symm q)
      rw [if_neg q, this]; simp
theorem steps_ready : ∀ (zs : List Int) (G : List Gn) (rd : List Int), (∀ z ∈ zs, z ∈ G.map (·.k)) → (∀ z ∈ zs, (zs.count z : Int) ≤ npOf G z) → ∃ ws, (zs.foldl gStep (G, rd)).2 = rd ++ ws ∧ ws.Nodup ∧ ∀ z, z ∈ ws ↔ z ∈ zs ∧ npOf G z = zs.count z
  | [], G, rd, _, _ => ⟨[], by simp, .nil, by simp⟩
  | a :: r, G, rd, hk, hc => by
    have hk' : ∀ z ∈ r, z ∈ (gSet G a fun g => { g with np := g.np - 1 }).map (·.k) := fun z hz => by rw [gSet_k (f := fun g => { g with np := g.np - 1 }) fun _ => rfl]; exact hk z (.tail _ hz)
    have hc' : ∀ z ∈ r, (r.count z : Int) ≤ npOf (gSet G a fun g => { g with np := g.np - 1 }) z := fun z hz => by
      rw [gDec_np (hk z (.tail _ hz))]
      have := hc z (.tail _ hz)
      rw [List.count_cons] at this
      by_cases q : z = a
      · subst q; rw [if_pos rfl]; simp at this; omega
      · rw [if_neg q]
        have q' : (a == z) = false := beq_eq_false_iff_ne.mpr (Ne.symm q)
        rw [q'] at this; simpa using this
    have ca := hc a (.head _)
    rw [List.count_cons] at ca
    simp only [beq_self_eq_true, if_true] at ca
    obtain ⟨ws, e, nd, hm⟩ := steps_ready r (gSet G a fun g => { g with np := g.np - 1 }) (if npOf G a = 1 then rd ++ [a] else rd) hk' hc'
    have hne : ∀ z, z ≠ a → (z ∈ ws ↔ z ∈ a :: r ∧ npOf G z = (a :: r).count z) := fun z q => by
      have q' : (a == z) = false := beq_eq_false_iff_ne.mpr (Ne.symm q)
      rw [hm, List.mem_cons, List.count_cons, q']
      constructor
      · rintro ⟨h1, h2⟩
        rw [gDec_np (hk z (.tail _ h1)), if_neg q] at h2
        exact ⟨.inr h1, by simpa using h2⟩
      · rintro ⟨h1, h2⟩
        have h1 := h1.resolve_left q
        refine ⟨h1, ?_⟩
        rw [gDec_np (hk z (.tail _ h1)), if_neg q]
        simpa using h2
    have e' : ((a :: r).foldl gStep (G, rd)).2 = (if npOf G a = 1 then rd ++ [a] else rd) ++ ws := e
    by_cases q1 : npOf G a = 1
    · have hr : r.count a = 0 := by omega
      have har : a ∉ r := fun z => by have := List.count_pos_iff.mpr z; omega
      have haw : a ∉ ws := fun z => har ((hm a).mp z).1
      rw [if_pos q1] at e'
      refine ⟨a :: ws, by rw [e', List.append_assoc]; rfl, List.nodup_cons.mpr ⟨haw, nd⟩, fun z => ?_⟩
      rw [List.mem_cons]
      by_cases q : z = a
      · subst q
        rw [List.count_cons, hr, q1]
        simp
      · rw [hne z q]
        exact ⟨fun h => h.resolve_left q, .inr⟩
    · rw [if_neg q1] at e'
      refine ⟨ws, e', nd, fun z => ?_⟩
      by_cases q : z = a
      · subst q
        rw [hm, List.count_cons]
        simp only [beq_self_eq_true, if_true, List.mem_cons, true_or, true_and]
        constructor
        · rintro ⟨h1, h2⟩
          rw [gDec_np (hk z (.tail _ h1)), if_pos rfl] at h2
          omega
        · intro h2
          have hp : 0 < r.count z := by omega
          have hz := List.count_pos_iff.mp hp
          refine ⟨hz, ?_⟩
          rw [gDec_np (hk z (.tail _ hz)), if_pos rfl]
          omega
      · exact hne z q
noncomputable def remG (G : List Gn) (z : Int) (ord : List Int) : Nat := ((G.map (·.k)).map fun p => if p ∈ ord then 0 else (scOf G p).count z).sum
theorem sum_zero {f : Int → Nat} : ∀ {l : List Int}, (l.map f).sum = 0 ↔ ∀ x ∈ l, f x = 0
  | [] => by simp
  | a :: r => by
    rw [List.map_cons, List.sum_cons, Nat.add_eq_zero_iff, sum_zero]
    simp
theorem remG_zero {G : List Gn} {z : Int} {ord : List Int} : remG G z ord = 0 ↔ ∀ p ∈ G.map (·.k), z ∈ scOf G p → p ∈ ord := by
  unfold remG
  rw [sum_zero]
  refine forall_congr' fun p => forall_congr' fun hp => ?_
  by_cases q : p ∈ ord
  · simp [q]
  · rw [if_neg q, List.count_eq_zero]
    exact ⟨fun h h' => absurd h' h, fun h h' => q (h h')⟩
theorem sum_one {f f' : Int → Nat} {y : Int} : ∀ {l : List Int}, y ∈ l → l.Nodup → (∀ x, x ≠ y → f' x = f x) → (l.map f').sum + f y = (l.map f).sum + f' y
  | a :: r, h, nd, hf => by
    rw [List.nodup_cons] at nd
    rw [List.map_cons, List.map_cons, List.sum_cons, List.sum_cons]
    rcases List.mem_cons.mp h with rfl | h
    · have : r.map f' = r.map f := List.map_congr_left fun x hx => hf x fun q => nd.1 (q ▸ hx)
      rw [this]; omega
    · have ih := sum_one h nd.2 hf
      have : a ≠ y := fun q => nd.1 (q ▸ h)
      rw [hf a this]; omega
theorem remG_snoc {G : List Gn} {z y : Int} {ord : List Int} (hy : y ∈ G.map (·.k)) (nd : (G.map (·.k)).Nodup) (ho : y ∉ ord) : remG G z (ord ++ [y]) + (scOf G y).count z = remG G z ord := by
  have := sum_one (f := fun p => if p ∈ ord then 0 else (scOf G p).count z) (f' := fun p => if p ∈ ord ++ [y] then 0 else (scOf G p).count z) hy nd fun x hx => by
    have : x ∈ ord ++ [y] ↔ x ∈ ord := by simp [hx]
    simp only [this]
  simp [ho] at this
  unfold remG
  simp
  omega
theorem remG_mono {G : List Gn} {z : Int} {ord ord' : List Int} (h : ∀ x ∈ ord, x ∈ ord') (e : remG G z ord = 0) : remG G z ord' = 0 := by
  rw [remG_zero] at e ⊢
  exact fun p hp hz => h p (e p hp hz)
structure KI (G0 G : List Gn) (ord out rd : List Int) : Prop where
  keys : G.map (·.k) = G0.map (·.k)
  sc : ∀ z, scOf G z = scOf G0 z
  np : ∀ z ∈ G0.map (·.k), npOf G z = if z ∈ ord then -2 else if z ∈ out then -1 else (remG G0 z ord : Int)
  nd : (ord ++ (out ++ rd)).Nodup
  sub : ∀ z ∈ ord ++ (out ++ rd), z ∈ G0.map (·.k)
  av : ∀ z ∈ G0.map (·.k), z ∉ ord → (remG G0 z ord = 0 ↔ z ∈ out ∨ z ∈ rd)
  cl : ∀ z ∈ ord, remG G0 z ord = 0
theorem KI.start {G : List Gn} (nd : (G.map (·.k)).Nodup) (hin : ∀ z ∈ G.map (·.k), npOf G z = remG G z []) : KI G G [] [] (gReady G) := by
  have hr : ∀ z ∈ G.map (·.k), z ∈ gReady G ↔ npOf G z = 0 := fun z hz => by
    unfold gReady
    rw [List.mem_map]
    obtain ⟨g, e, ek, hg⟩ := find_key hz
    have hnp : npOf G z = g.np := by unfold npOf; rw [e]; rfl
    have uniq : ∀ g' ∈ G, g'.k = z → g' = g := fun g' hg' e' => by
      have h2 : ∀ l : List Gn, (l.map (·.k)).Nodup → ∀ a ∈ l, ∀ b ∈ l, a.k = b.k → a = b := by
        intro l
        induction l with
        | nil => intro _ a ha; cases ha
        | cons x r ih =>
          intro nd a ha b hb e
          rw [List.map_cons, List.nodup_cons] at nd
          rcases List.mem_cons.mp ha with h1 | h1 <;> rcases List.mem_cons.mp hb with h2 | h2
          · rw [h1, h2]
          · rw [← h1] at nd; exact absurd (e ▸ List.mem_map_of_mem h2) nd.1
          · rw [← h2] at nd; exact absurd (e ▸ List.mem_map_of_mem h1) nd.1
          · exact ih nd.2 a h1 b h2 e
      exact h2 G nd g' hg' g hg (e'.trans ek.symm)
    constructor
    · rintro ⟨g', hg', e'⟩
      rw [List.mem_filter] at hg'
      rw [hnp, ← uniq g' hg'.1 e']
      simpa using hg'.2
    · intro h
      exact ⟨g, List.mem_filter.mpr ⟨hg, by rw [← hnp, h]; rfl⟩, ek⟩
  refine ⟨rfl, fun _ => rfl, fun z hz => ?_, ?_, fun z hz => ?_, fun z hz _ => ?_, nofun⟩
  · simp [hin z hz]
  · show (gReady G).Nodup
    unfold gReady
    exact (List.Sublist.map _ List.filter_sublist).nodup nd
  · have hz : z ∈ gReady G := by simpa using hz
    unfold gReady at hz
    obtain ⟨g, hg, e⟩ := List.mem_map.mp hz
    exact e ▸ List.mem_map_of_mem (List.mem_filter.mp hg).1
  · rw [hr z hz, hin z hz]
    simp
theorem gOut_np : ∀ (ys : List Int) {G : List Gn} {z : Int}, z ∈ G.map (·.k) → npOf (gOut G ys) z = if z ∈ ys then -1 else npOf G z
  | [], _, _, _ => by simp [gOut]
  | y :: r, G, z, hz => by
    show npOf (gOut (gSet G y fun g => { g with np := -1 }) r) z = _
    rw [gOut_np r (by rw [gSet_k (f := fun g => { g with np := -1 }) fun _ => rfl]; exact hz), npOf_gSet (f := fun g => { g with np := -1 }) (h := fun _ => -1) (fun _ => rfl) (fun _ => rfl) hz]
    by_cases q : z = y
    · simp [q]
    · simp [q]
theorem gOut_sc : ∀ (ys : List Int) {G : List Gn} {z : Int}, scOf (gOut G ys) z = scOf G z
  | [], _, _ => rfl
  | y :: r, G, z => by
    show scOf (gOut (gSet G y fun g => { g with np := -1 }) r) z = _
    rw [gOut_sc r, scOf_gSet (f := fun g => { g with np := -1 }) (fun _ => rfl) fun _ => rfl]
theorem KI.out {G0 G : List Gn} {ord out rd : List Int} (K : KI G0 G ord out rd) : KI G0 (gOut G rd) ord (out ++ rd) [] := by
  refine ⟨gOut_k.trans K.keys, fun z => (gOut_sc _).trans (K.sc z), fun z hz => ?_, by rw [List.append_nil]; exact K.nd, by rw [List.append_nil]; exact K.sub, fun z hz ho => ?_, K.cl⟩
  · rw [gOut_np rd (by rw [K.keys]; exact hz), K.np z hz]
    by_cases h1 : z ∈ rd
    · have h2 : z ∉ ord := fun q => (List.nodup_append.mp K.nd).2.2 z q z (List.mem_append_right _ h1) rfl
      simp [h1, h2]
    · simp [h1]
  · rw [K.av z hz ho]; simp
theorem KI.done {G0 G : List Gn} {ord out : List Int} {y : Int} (K : KI G0 G ord out []) (nd0 : (G0.map (·.k)).Nodup) (hcl : ∀ a z, z ∈ scOf G0 a → z ∈ G0.map (·.k)) (hy : y ∈ out) : KI G0 (gDone G [] y).1 (ord ++ [y]) (out.erase y) (gDone G [] y).2 := by
  have hyk := K.sub y (by simp [hy])
  have nd := K.nd
  rw [List.append_nil] at nd
  obtain ⟨nd1, nd2, nd3⟩ := List.nodup_append.mp nd
  have hyo : y ∉ ord := fun q => nd3 y q y hy rfl
  have ry : remG G0 y ord = 0 := (K.av y hyk hyo).mpr (.inl hy)
  have rs := fun z => remG_snoc (z := z) hyk nd0 hyo
  have succ : ∀ z ∈ scOf G0 y, z ∈ G0.map (·.k) ∧ z ∉ ord ∧ z ∉ out ∧ z ≠ y := fun z hz => by
    have hzk := hcl y z hz
    have hpos : remG G0 z ord ≠ 0 := fun q => hyo (remG_zero.mp q y hyk hz)
    have h1 : z ∉ ord := fun q => hpos (K.cl z q)
    refine ⟨hzk, h1, fun q => hpos ((K.av z hzk h1).mpr (.inl q)), fun q => hpos (q ▸ ry)⟩
  have hk1 : (gSet G y fun g => { g with np := -2 }).map (·.k) = G0.map (·.k) := (gSet_k (f := fun g => { g with np := -2 }) fun _ => rfl).trans K.keys
  have np1 : ∀ z ∈ G0.map (·.k), npOf (gSet G y fun g => { g with np := -2 }) z = if z = y then -2 else npOf G z := fun z hz => npOf_gSet (h := fun _ => -2) (fun _ => rfl) (fun _ => rfl) (by rw [K.keys]; exact hz)
  have np2 : ∀ z ∈ scOf G0 y, npOf (gSet G y fun g => { g with np := -2 }) z = (remG G0 z ord : Int) := fun z hz => by
    obtain ⟨h1, h2, h3, h4⟩ := succ z hz
    rw [np1 z h1, if_neg h4, K.np z h1, if_neg h2, if_neg h3]
  have hsc : scOf G y = scOf G0 y := K.sc y
  obtain ⟨ws, e, ndw, hw⟩ := steps_ready (scOf G0 y) (gSet G y fun g => { g with np := -2 }) [] (fun z hz => by rw [hk1]; exact (succ z hz).1) (fun z hz => by rw [np2 z hz]; have := rs z; omega)
  have hw' : ∀ z, z ∈ ws ↔ z ∈ scOf G0 y ∧ remG G0 z (ord ++ [y]) = 0 := fun z => by
    rw [hw]
    constructor
    · rintro ⟨h1, h2⟩
      rw [np2 z h1] at h2
      have := rs z
      exact ⟨h1, by omega⟩
    · rintro ⟨h1, h2⟩
      refine ⟨h1, ?_⟩
      rw [np2 z h1]
      have := rs z
      omega
  have e2 : (gDone G [] y).2 = ws := by unfold gDone; rw [hsc, e, List.nil_append]
  have hme : ∀ z, z ∈ out.erase y ↔ z ∈ out ∧ z ≠ y := fun z => by rw [nd2.mem_erase_iff]; exact And.comm
  rw [e2]
  refine ⟨?_, fun z => ?_, fun z hz => ?_, ?_, fun z hz => ?_, fun z hz ho => ?_, fun z hz => ?_⟩
  · unfold gDone; rw [gSteps_k]; exact hk1
  · unfold gDone
    rw [steps_sc]; show scOf (gSet _ _ _) z = _; rw [scOf_gSet (f := fun g => { g with np := -2 }) (fun _ => rfl) fun _ => rfl]; exact K.sc z
  · unfold gDone
    rw [hsc, steps_np _ _ z (by show z ∈ (gSet _ _ _).map _; rw [hk1]; exact hz)]
    show npOf (gSet G y fun g => { g with np := -2 }) z - _ = _
    by_cases q : z ∈ scOf G0 y
    · obtain ⟨h1, h2, h3, h4⟩ := succ z q
      have : z ∉ ord ++ [y] := by simp [h2, h4]
      rw [np2 z q, if_neg this, if_neg (by rw [hme]; exact fun h => h3 h.1)]
      have := rs z
      omega
    · have hc0 : (scOf G0 y).count z = 0 := List.count_eq_zero.mpr q
      rw [np1 z hz, hc0]
      have hrem := rs z
      rw [hc0] at hrem
      by_cases h4 : z = y
      · subst h4; simp
      · rw [if_neg h4, K.np z hz]
        have h5 : z ∈ ord ++ [y] ↔ z ∈ ord := by simp [h4]
        have h6 : z ∈ out.erase y ↔ z ∈ out := by rw [hme]; exact ⟨fun h => h.1, fun h => ⟨h, h4⟩⟩
        simp only [h5, h6]
        rw [← hrem]
        simp
  · rw [List.nodup_append]
    refine ⟨?_, ?_, ?_⟩
    · rw [List.nodup_append]
      exact ⟨nd1, by simp, fun a ha b hb q => by simp at hb; subst hb; exact hyo (q ▸ ha)⟩
    · rw [List.nodup_append]
      exact ⟨nd2.erase y, ndw, fun a ha b hb q => by
        subst q
        exact (succ a ((hw' a).mp hb).1).2.2.1 ((hme a).mp ha).1⟩
    · intro a ha b hb q
      subst q
      rcases List.mem_append.mp hb with hb | hb
      · have := (hme a).mp hb
        rcases List.mem_append.mp ha with ha | ha
        · exact nd3 a ha a this.1 rfl
        · exact this.2 (by simpa using ha)
      · obtain ⟨h1, h2, h3, h4⟩ := succ a ((hw' a).mp hb).1
        rcases List.mem_append.mp ha with ha | ha
        · exact h2 ha
        · exact h4 (by simpa using ha)
  · rcases List.mem_append.mp hz with hz | hz
    · rcases List.mem_append.mp hz with hz | hz
      · exact K.sub z (by simp [hz])
      · have : z = y := by simpa using hz
        subst this; exact hyk
    · rcases List.mem_append.mp hz with hz | hz
      · exact K.sub z (by simp [((hme z).mp hz).1])
      · exact (succ z ((hw' z).mp hz).1).1
  · have ho1 : z ∉ ord := fun q => ho (List.mem_append_left _ q)
    have hzy : z ≠ y := fun q => ho (by simp [q])
    rw [hme, hw']
    have hrem := rs z
    constructor
    · intro h0
      by_cases q : z ∈ scOf G0 y
      · exact .inr ⟨q, h0⟩
      · have hc0 : (scOf G0 y).count z = 0 := List.count_eq_zero.mpr q
        have := (K.av z hz ho1).mp (by omega)
        exact .inl ⟨this.resolve_right nofun, hzy⟩
    · rintro (⟨h1, _⟩ | ⟨_, h1⟩)
      · have := (K.av z hz ho1).mpr (.inl h1)
        omega
      · exact h1
  · rcases List.mem_append.mp hz with hz | hz
    · exact remG_mono (fun x hx => List.mem_append_left _ hx) (K.cl z hz)
    · have : z = y := by simpa using hz
      subst this
      exact remG_mono (fun x hx => List.mem_append_left _ hx) ry
end Mine

namespace Mine
noncomputable def Av (G : List Gn) (ord : List Int) (z : Int) : Prop := z ∈ G.map (·.k) ∧ z ∉ ord ∧ remG G z ord = 0
noncomputable def GrP (G : List Gn) (lt : Int → Int → Bool) (ord : List Int) : Prop := ∀ p y q, ord = p ++ y :: q → Av G p y ∧ ∀ z, Av G p z → z ≠ y → lt y z = true
noncomputable def Greedy (G : List Gn) (lt : Int → Int → Bool) (ord : List Int) : Prop := GrP G lt ord ∧ ∀ z, ¬ Av G ord z
theorem GrP.nil {G : List Gn} {lt : Int → Int → Bool} : GrP G lt [] := fun p y q e => by
  have := congrArg List.length e
  simp at this
theorem GrP.snoc {G : List Gn} {lt : Int → Int → Bool} {ord : List Int} {y : Int} (h : GrP G lt ord) (ha : Av G ord y) (hm : ∀ z, Av G ord z → z ≠ y → lt y z = true) : GrP G lt (ord ++ [y]) := fun p x q e => by
  rcases List.eq_nil_or_concat q with rfl | ⟨q', b, rfl⟩
  · have := List.append_inj' e rfl
    have h2 : y = x := by simpa using this.2
    rw [← this.1, ← h2]
    exact ⟨ha, hm⟩
  · have e' : ord ++ [y] = (p ++ x :: q') ++ [b] := by rw [e]; simp
    exact h p x q' (List.append_inj' e' rfl).1
theorem KI.avail {G0 G : List Gn} {ord out : List Int} (K : KI G0 G ord out []) {z : Int} : Av G0 ord z ↔ z ∈ out := by
  constructor
  · rintro ⟨h1, h2, h3⟩
    exact ((K.av z h1 h2).mp h3).resolve_right nofun
  · intro h
    have hk := K.sub z (by simp [h])
    have ho : z ∉ ord := fun q => (List.nodup_append.mp K.nd).2.2 z q z (by simp [h]) rfl
    exact ⟨hk, ho, (K.av z hk ho).mpr (.inl h)⟩
structure BX (es1 es2 : List (Int × Int)) (V : List Int) (G : List Gn) : Prop where
  nd : (G.map (·.k)).Nodup
  keys : ∀ z, z ∈ G.map (·.k) ↔ z ∈ V
  sc : ∀ p, scOf G p = (es1.filter fun e => e.1 == p).map (·.2)
  np : ∀ z ∈ G.map (·.k), npOf G z = (es2.countP fun e => e.2 == z : Nat)
  end1 : ∀ e ∈ es1, e.1 ∈ V
  end2 : ∀ e ∈ es2, e.2 ∈ V
noncomputable abbrev BG (es : List (Int × Int)) (V : List Int) (G : List Gn) : Prop := BX es es V G
theorem BG.nil : BG [] [] [] := ⟨.nil, by simp, fun _ => rfl, nofun, nofun, nofun⟩
theorem find_gGet {G : List Gn} {k z : Int} (hz : z ∈ G.map (·.k)) : (gGet G k).find? (fun g => g.k == z) = G.find? fun g => g.k == z := by
  unfold gGet
  split
  · rfl
  · obtain ⟨g, e, _⟩ := find_key hz
    rw [List.find?_append, e]; rfl
theorem find_gGet_new {G : List Gn} {k : Int} (hz : k ∉ G.map (·.k)) : (gGet G k).find? (fun g => g.k == k) = some ⟨k, 0, []⟩ := by
  unfold gGet
  rw [if_neg hz, List.find?_append]
  have : G.find? (fun g => g.k == k) = none := by
    rw [List.find?_eq_none]
    intro g hg q
    exact hz ((by simpa using q : g.k = k) ▸ List.mem_map_of_mem hg)
  rw [this]; simp
theorem find_gGet_other {G : List Gn} {k z : Int} (hk : z ≠ k) : (gGet G k).find? (fun g => g.k == z) = G.find? fun g => g.k == z := by
  unfold gGet
  split
  · rfl
  · rw [List.find?_append]
    have : (k == z) = false := beq_eq_false_iff_ne.mpr (Ne.symm hk)
    simp [this]
theorem mem_gGet {G : List Gn} {k z : Int} : z ∈ (gGet G k).map (·.k) ↔ z ∈ G.map (·.k) ∨ z = k := by
  unfold gGet
  split
  · rename_i h
    exact ⟨.inl, fun q => q.elim id fun e => e ▸ h⟩
  · rw [List.map_append, List.mem_append]; simp
theorem BX.get {es1 es2 : List (Int × Int)} {V : List Int} {G : List Gn} (B : BX es1 es2 V G) (k : Int) : BX es1 es2 (V ++ [k]) (gGet G k) := by
  have none1 : k ∉ G.map (·.k) → ∀ e ∈ es1, e.1 ≠ k := fun h e he q => h ((B.keys k).mpr (q ▸ B.end1 e he))
  have none2 : k ∉ G.map (·.k) → ∀ e ∈ es2, e.2 ≠ k := fun h e he q => h ((B.keys k).mpr (q ▸ B.end2 e he))
  refine ⟨?_, fun z => ?_, fun p => ?_, fun z hz => ?_, fun e he => List.mem_append_left _ (B.end1 e he), fun e he => List.mem_append_left _ (B.end2 e he)⟩
  · unfold gGet
    split
    · exact B.nd
    · rename_i h
      rw [List.map_append, List.nodup_append]
      refine ⟨B.nd, by simp, fun a ha b hb q => h ?_⟩
      have : b = k := by simpa using hb
      exact this ▸ q ▸ ha
  · rw [mem_gGet, B.keys, List.mem_append, List.mem_singleton]
  · by_cases q : p = k
    · subst q
      by_cases h : p ∈ G.map (·.k)
      · rw [← B.sc p]; unfold scOf; rw [find_gGet h]
      · unfold scOf; rw [find_gGet_new h]
        have : es1.filter (fun e => e.1 == p) = [] := by
          rw [List.filter_eq_nil_iff]
          intro e he
          simpa using none1 h e he
        rw [this]; rfl
    · rw [← B.sc p]; unfold scOf; rw [find_gGet_other q]
  · by_cases h : z ∈ G.map (·.k)
    · rw [← B.np z h]; unfold npOf; rw [find_gGet h]
    · have : z = k := (mem_gGet.mp hz).resolve_left h
      subst this
      unfold npOf; rw [find_gGet_new h]
      have : es2.countP (fun e => e.2 == z) = 0 := by
        rw [List.countP_eq_zero]
        intro e he
        simpa using none2 h e he
      rw [this]; rfl
theorem BX.inc {es1 es2 : List (Int × Int)} {V : List Int} {G : List Gn} (B : BX es1 es2 V G) (a b : Int) (hb : b ∈ V) : BX es1 (es2 ++ [(a, b)]) V (gSet G b fun g => { g with np := g.np + 1 }) := by
  have hk : (gSet G b fun g => { g with np := g.np + 1 }).map (·.k) = G.map (·.k) := gSet_k (f := fun g => { g with np := g.np + 1 }) fun _ => rfl
  refine ⟨by rw [hk]; exact B.nd, fun z => by rw [hk]; exact B.keys z, fun p => ?_, fun z hz => ?_, B.end1, fun e he => ?_⟩
  · rw [scOf_gSet (f := fun g => { g with np := g.np + 1 }) (fun _ => rfl) fun _ => rfl]; exact B.sc p
  · rw [hk] at hz
    rw [npOf_gSet (f := fun g => { g with np := g.np + 1 }) (h := fun x => x + 1) (fun _ => rfl) (fun _ => rfl) hz, B.np z hz, List.countP_append]
    by_cases q : z = b
    · subst q; simp
    · have : (b == z) = false := beq_eq_false_iff_ne.mpr (Ne.symm q)
      simp [q, this]
  · rcases List.mem_append.mp he with he | he
    · exact B.end2 e he
    · rw [List.mem_singleton.mp he]; exact hb
theorem scOf_app {G : List Gn} {a b p : Int} (ha : a ∈ G.map (·.k)) : scOf (gSet G a fun g => { g with sc := g.sc ++ [b] }) p = if p = a then scOf G p ++ [b] else scOf G p := by
  unfold scOf
  rw [find_gSet (f := fun g => { g with sc := g.sc ++ [b] }) fun _ => rfl]
  by_cases q : p = a
  · subst q
    obtain ⟨g, e, ek, _⟩ := find_key ha
    rw [e, if_pos rfl]
    show (if g.k = p then _ else g).sc = _
    rw [if_pos ek]; rfl
  · rw [if_neg q]
    cases e : G.find? fun g => g.k == p with
    | none => rfl
    | some g =>
      have ek : g.k = p := by simpa using List.find?_some e
      show (if g.k = a then _ else g).sc = g.sc
      rw [if_neg (by rw [ek]; exact q)]
theorem BX.app {es1 es2 : List (Int × Int)} {V : List Int} {G : List Gn} (B : BX es1 es2 V G) (a b : Int) (ha : a ∈ V) : BX (es1 ++ [(a, b)]) es2 V (gSet G a fun g => { g with sc := g.sc ++ [b] }) := by
  have hk : (gSet G a fun g => { g with sc := g.sc ++ [b] }).map (·.k) = G.map (·.k) := gSet_k (f := fun g => { g with sc := g.sc ++ [b] }) fun _ => rfl
  refine ⟨by rw [hk]; exact B.nd, fun z => by rw [hk]; exact B.keys z, fun p => ?_, fun z hz => ?_, fun e he => ?_, B.end2⟩
  · rw [scOf_app ((B.keys a).mpr ha), B.sc p, List.filter_append, List.map_append]
    by_cases q : p = a
    · subst q; simp
    · have : (a == p) = false := beq_eq_false_iff_ne.mpr (Ne.symm q)
      simp [q, this]
  · rw [hk] at hz
    rw [npOf_gSet (f := fun g => { g with sc := g.sc ++ [b] }) (h := fun x => x) (fun _ => rfl) (fun _ => rfl) hz, B.np z hz]
    split <;> rfl
  · rcases List.mem_append.mp he with he | he
    · exact B.end1 e he
    · rw [List.mem_singleton.mp he]; exact ha
theorem BG.add0 {es : List (Int × Int)} {V : List Int} {G : List Gn} (B : BG es V G) (k : Int) : BG es (V ++ [k]) (gAdd G k []) := by
  have B' := BX.get B k
  have e : gAdd G k [] = gGet G k := by
    show gSet (gGet G k) k (fun g => { g with np := g.np + (([] : List Int).length : Nat) }) = _
    unfold gSet
    rw [List.map_congr_left (g := id), List.map_id]
    intro g _
    split
    · simp
    · rfl
  rw [e]; exact B'
theorem BG.add1 {es : List (Int × Int)} {V : List Int} {G : List Gn} (B : BG es V G) (a b : Int) : BG (es ++ [(a, b)]) (V ++ [b] ++ [a]) (gAdd G b [a]) :=
  (((BX.get B b).inc a b (by simp)).get a).app a b (by simp)
theorem BG.indeg {es : List (Int × Int)} {V : List Int} {G : List Gn} (B : BG es V G) : ∀ z ∈ G.map (·.k), npOf G z = remG G z [] := fun z hz => by
  rw [B.np z hz]
  congr 1
  unfold remG
  have hs : ∀ p, (if p ∈ ([] : List Int) then 0 else (scOf G p).count z) = ((es.filter fun e => e.1 == p).map (·.2)).count z := fun p => by rw [if_neg (by simp), B.sc p]
  simp only [hs]
  have go : ∀ (es : List (Int × Int)), (∀ e ∈ es, e.1 ∈ G.map (·.k)) → es.countP (fun e => e.2 == z) = ((G.map (·.k)).map fun p => ((es.filter fun e => e.1 == p).map (·.2)).count z).sum := by
    intro es
    induction es with
    | nil => intro _; rw [List.countP_nil]; symm; rw [sum_zero]; intro x _; simp
    | cons e r ih =>
      intro h
      have ih := ih fun e he => h e (.tail _ he)
      have he := h e (.head _)
      have := sum_one (f := fun p => ((r.filter fun e => e.1 == p).map (·.2)).count z) (f' := fun p => (((e :: r).filter fun e => e.1 == p).map (·.2)).count z) he B.nd fun x hx => by
        have : (e.1 == x) = false := beq_eq_false_iff_ne.mpr (Ne.symm hx)
        simp [List.filter_cons, this]
      simp [List.filter_cons, List.count_cons] at this
      rw [List.countP_cons, ih]
      simp [List.filter_cons] at this ⊢
      omega
  exact go es fun e he => (B.keys _).mpr (B.end1 e he)
end Mine

namespace Mine
theorem kT_add (P : Params) : findIn (KK P) (.ref cT) (nm 37) = some (some (.ref f_TopologicalSorter_add)) := by kernel_rfl
theorem kF_add (P : Params) : isFn (KK P) (.ref f_TopologicalSorter_add) = true := by kernel_rfl
theorem kT_prepare (P : Params) : findIn (KK P) (.ref cT) (nm 116) = some (some (.ref f_TopologicalSorter_prepare)) := by kernel_rfl
theorem kF_prepare (P : Params) : isFn (KK P) (.ref f_TopologicalSorter_prepare) = true := by kernel_rfl
theorem kCyc (P : Params) : exmOne (KK P) (.ref c_CycleError) (.ref c_CycleError) = some true := by kernel_rfl
theorem kT_get_ready (P : Params) : findIn (KK P) (.ref cT) (nm 59) = some (some (.ref f_TopologicalSorter_get_ready)) := by kernel_rfl
theorem kF_get_ready (P : Params) : isFn (KK P) (.ref f_TopologicalSorter_get_ready) = true := by kernel_rfl
theorem kT_done (P : Params) : findIn (KK P) (.ref cT) (nm 51) = some (some (.ref f_TopologicalSorter_done)) := by kernel_rfl
theorem kF_done (P : Params) : isFn (KK P) (.ref f_TopologicalSorter_done) = true := by kernel_rfl
section
variable {c : Cx nm prg KK gl bl} {A : Around} {E : Value → Shared → Prop} {Q : Flow → Shared → Prop} {τ τ' β : Sto} {L : Addr} {l : List (Nat × Value)} {s : Shared} {env : Env} {cs : List (Nat × Addr)} {W : Wk c ks__law_told cs 39} {ss : List Sx} {rs : List (List Sx)} {x : Addr} {nv sv : Value}
theorem toldA {p1 p2 p3 p4 p5 p6 p7 p8 p9 p10 p11 : Pos} {N k : Nat} {es : List (Int × Int)} (hln : (p6.endLine == p9.line) = true) (hst : Dn β sv (.list (es.map dPair))) (hl : es.length ≤ 60) (S1 : SAt c τ x [] none 0 0) (hβ : Keep2 β τ)
    (h : ∀ τ' ns, BG es (es.flatMap fun e => [e.2, e.1]) (gOf ns) → gSz (gOf ns) 120 → SAt c τ' x ns none 0 0 → Keep2 β τ' → vcS W Q E N ss rs τ' [(93, nv), (132, .ref x)]) :
    ∀ s, Rl W τ [(93, nv), (137, sv), (132, .ref x)] s → XX W (embL nm (.forT [embE nm (.nm 39 p1), embE nm (.nm 43 p2)] k p3 (.nm 137 p4) [.exp (.meth2 (.nm 132 p5) 37 p6 (.nm 43 p7) (.nm 39 p8) p9) p10] p11 :: ss)) (rs.map (embL nm)) Q E s := fun s R => by
  obtain ⟨sa, ws, rfl, hsa, hws⟩ := hst.lst
  have hlen : ws.length = es.length := by rw [hws.length, List.length_map]
  refine vcS_ok 1 _ rs τ _ s ?_ R
  refine forK (α := Sto × List Nd) (N := 2) (cnt := ws.length) (σ := fun p => p.1) (fr := fun _ => [(93, nv), (132, .ref x)]) (F1 := fun j p => BG (es.take j) ((es.take j).flatMap fun e => [e.2, e.1]) (gOf p.2) ∧ gSz (gOf p.2) (2 * j)) (F2 := fun _ p => SAt c p.1 x p.2 none 0 0) (F3 := fun _ p => Keep2 β p.1) ⟨by decide, fun it => drvL (vs := ws), fun j p _ _ K => ⟨0, K _ _ hsa rfl⟩, ?_, ?_⟩
    (τ, []) (itLs (hβ _ _ hsa rfl)) ⟨rfl, rfl, trivial⟩ ⟨BG.nil, ⟨Nat.le_refl _, nofun⟩⟩ S1 hβ
  · rintro j v it p F Qb hj hv ⟨gg, gz⟩ S' K hit hne lp
    obtain ⟨d, hd, hv'⟩ := hws.at j v hv
    rw [List.getElem?_map, Option.map_eq_some_iff] at hd
    obtain ⟨e, he, rfl⟩ := hd
    obtain ⟨pa, pv, rfl, hpa, hpv⟩ := hv'.lst
    obtain ⟨x1, x2, rfl, ⟨t1, rfl⟩, ⟨t2, rfl⟩⟩ : ∃ x1 x2, pv = [x1, x2] ∧ (∃ t, x1 = .int e.1 t) ∧ ∃ t, x2 = .int e.2 t := by
      obtain ⟨x1, x2, e, h1, h2⟩ := Dns.two hpv
      exact ⟨x1, x2, e, h1, h2⟩
    have hpa' := K _ _ hpa rfl
    have SS := S'.mono (Up2.fresh (i := itL sa (j + 1)) hit)
    refine ⟨_, fun s R => aPair (t := 0) (W.H.le (by decide)) W.V R ((upd_ne (ne_of_none hpa' hit)).trans hpa') rfl rfl fun s R => R, ?_⟩
    show gB (true && (p6.endLine == p9.line)) _
    rw [hln]
    refine omS SS rfl (kT_add _) (kF_add _) ⟨rfl, fun s Q E R q => sp_add (more := [.int e.1 t1]) (ps := [e.1]) (W.H.le (by decide)) R SS (gz.le (by omega)) (.inr ⟨_, rfl⟩) (.cons _ _ .nil) fun ns2 τ2 s g2 S2 K2 R => q _ _ s ?_ R⟩
    have e5 := K2 _ _ upd_self rfl
    obtain ⟨hi', hie⟩ := List.getElem?_eq_some_iff.mp he
    have htk : es.take (j + 1) = es.take j ++ [e] := by rw [← List.take_append_getElem hi', hie]
    refine lp.nx ((del τ2 it, ns2), τ2) ⟨e5, rfl⟩ ⟨?_, ?_⟩ (S2.mono (Up2.del e5)) (K.iter hit K2) trivial _ ⟨rfl, rfl, trivial⟩
    · dsimp only
      rw [g2, htk]
      have := BG.add1 gg e.1 e.2
      simpa using this
    · dsimp only
      rw [g2]
      exact (gz.add).le (by simp; omega)
  · rintro p ⟨gg, gz⟩ S' K s R
    rw [hlen, List.take_length] at gg
    exact vcS_ok N ss rs _ _ s (h _ _ gg (gz.le (by omega)) S' K) R
theorem toldB {p1 p4 p5 p6 p7 p8 p9 p10 : Pos} {N : Nat} {es : List (Int × Int)} {Nm V0 : List Int} {ns0 : List Nd} (hln : (p6.endLine == p8.line) = true) (hnv : Dn β nv (dI Nm)) (hl : Nm.length ≤ 5) (B0 : BG es V0 (gOf ns0)) (z0 : gSz (gOf ns0) 120) (S1 : SAt c τ x ns0 none 0 0) (hβ : Keep2 β τ)
    (h : ∀ τ' ns, BG es (V0 ++ Nm) (gOf ns) → gSz (gOf ns) 700 → SAt c τ' x ns none 0 0 → Keep2 β τ' → vcS W Q E N ss rs τ' [(132, .ref x)]) :
    ∀ s, Rl W τ [(93, nv), (132, .ref x)] s → XX W (embL nm (.for1 92 p1 (.nm 93 p4) [.exp (.meth1 (.nm 132 p5) 37 p6 (.nm 92 p7) p8) p9] p10 :: ss)) (rs.map (embL nm)) Q E s := fun s R => by
  obtain ⟨na, ws, rfl, hna, hws⟩ := hnv.lst
  have hlen : ws.length = Nm.length := by rw [hws.length, List.length_map]
  refine vcS_ok 1 _ rs τ _ s ?_ R
  refine forK (α := Sto × List Nd) (N := 2) (cnt := ws.length) (σ := fun p => p.1) (fr := fun _ => [(132, .ref x)]) (F1 := fun j p => BG es (V0 ++ Nm.take j) (gOf p.2) ∧ gSz (gOf p.2) (120 + 2 * j)) (F2 := fun _ p => SAt c p.1 x p.2 none 0 0) (F3 := fun _ p => Keep2 β p.1) ⟨by decide, fun it => drvL (vs := ws), fun j p _ _ K => ⟨0, K _ _ hna rfl⟩, ?_, ?_⟩
    (τ, ns0) (itLs (hβ _ _ hna rfl)) ⟨rfl, trivial⟩ ⟨by simpa using B0, z0⟩ S1 hβ
  · rintro j v it p F Qb hj hv ⟨gg, gz⟩ S' K hit hne lp
    obtain ⟨d, hd, hv'⟩ := hws.at j v hv
    obtain ⟨z, hz, rfl⟩ := ints_at hd
    obtain ⟨t1, rfl⟩ := hv'
    have SS := S'.mono (Up2.fresh (i := itL na (j + 1)) hit)
    refine ⟨_, tgt rfl, ?_⟩
    show gB (true && (p6.endLine == p8.line)) _
    rw [hln]
    refine omS SS rfl (kT_add _) (kF_add _) ⟨rfl, fun s Q E R q => sp_add (more := []) (ps := []) (W.H.le (by decide)) R SS (gz.le (by omega)) (.inl rfl) .nil fun ns2 τ2 s g2 S2 K2 R => q _ _ s ?_ R⟩
    have e5 := K2 _ _ upd_self rfl
    obtain ⟨hi', hie⟩ := List.getElem?_eq_some_iff.mp hz
    have htk : Nm.take (j + 1) = Nm.take j ++ [z] := by rw [← List.take_append_getElem hi', hie]
    refine lp.nx ((del τ2 it, ns2), τ2) ⟨e5, rfl⟩ ⟨?_, ?_⟩ (S2.mono (Up2.del e5)) (K.iter hit K2) trivial _ ⟨rfl, trivial⟩
    · dsimp only
      rw [g2, htk, ← List.append_assoc]
      exact BG.add0 gg z
    · dsimp only
      rw [g2]
      exact (gz.add).le (by simp; omega)
  · rintro p ⟨gg, gz⟩ S' K s R
    rw [hlen, List.take_length] at gg
    exact vcS_ok N ss rs _ _ s (h _ _ gg (gz.le (by omega)) S' K) R
theorem BG.cl {es : List (Int × Int)} {V : List Int} {ns : List Nd} {rd : Option (Addr × List Int)} {np nf : Int} (B : BG es V (gOf ns)) (S : SAt c τ x ns rd np nf) : ∀ n ∈ ns, ∀ z ∈ n.sc, z ∈ ns.map (·.k) := fun n hn z hz => by
  obtain ⟨q, S⟩ := S
  have := scOf_nd hn S.ndk
  rw [← this, B.sc] at hz
  obtain ⟨e, he, rfl⟩ := List.mem_map.mp hz
  rw [← gOf_k]
  exact (B.keys _).mpr (B.end2 e (List.mem_filter.mp he).1)
theorem toldC {p1 p2 p3 p4 p5 p6 p7 p8 p9 p10 p11 p12 p13 : Pos} {m1 m2 : Nat} {es : List (Int × Int)} {V : List Int} {ns : List Nd} (hln : (p2.endLine == p3.line) = true) (B : BG es V (gOf ns)) (hz : gSz (gOf ns) 700) (LV : Lv W.A W.env β W.L) (S1 : SAt c τ x ns none 0 0) (hβ : Keep2 β τ)
    (h : ∀ τ' ra free, SAt c τ' x ns (some (ra, gReady (gOf ns))) 0 0 → Keep2 β τ' → ((free = true ∧ Acyc (gOf ns)) ∨ (free = false ∧ ∃ r, Ring (gOf ns) r)) → ∀ s, Rl W τ' [(132, .ref x), (56, .bool free)] s → XX W (embL nm ss) (rs.map (embL nm)) Q E s) :
    ∀ s, Rl W τ [(132, .ref x)] s → XX W (embL nm (.tryx [.exp (.meth0 (.nm 132 p1) 116 p2 p3) p4, .asg 56 p5 (.bool true m1 p6) p7] (.nm 1 p8) [.asg 56 p9 (.bool false m2 p10) p11] p12 p13 :: ss)) (rs.map (embL nm)) Q E s := fun s R => by
  have LV2 : Lv W.A W.env τ W.L := LV.mono fun a l e => ⟨l, hβ _ _ e rfl⟩
  obtain ⟨q, ⟨e1, e2, e3, e4⟩, e5, _⟩ := id S1
  have e5 : q.rv = .none := e5
  refine sStm (wpAny_Try_except (wpAny_execs_cons (xExprA W.V (cmM (ldL W.V R rfl rfl (tM R e1 e2 (kT_prepare _) (kF_prepare _) (by rw [e5]; rfl) (cwF0 R rfl (sp_prepare (W.H.le (by decide)) LV2 R S1 hz (B.cl S1) (fun ra τ3 s hac S3 K3 R => ?_) fun ra e τ3 ring s hring S3 K3 R X => ?_)))) (meth_ok (o := .nm 132 p1) rfl hln rfl)) rfl)))
  · exact wpAny_execs_cons (xAsg W.V rfl (wpAny_Constant_bool ⟨_, _, R, fun s R => wpAny_execs_nil (wpAny_execs_nil (h τ3 ra true S3 (hβ.trans K3) (.inl ⟨rfl, hac⟩) s R))⟩) rfl)
  · have LV3 : Lv W.A W.env τ3 W.L := LV2.mono fun a l e => ⟨l, K3 _ _ e rfl⟩
    refine exn_lands (cv := .ref c_CycleError) R X LV3 (kCyc _) (fun s₁ F Q' R' hq => ldG W.V R' rfl rfl hq) fun s F' R => ?_
    exact wpAny_execs_cons (xAsg W.V rfl (wpAny_Constant_bool ⟨_, _, R, fun s R => wpAny_execs_nil (h τ3 ra false S3 (hβ.trans K3) (.inr ⟨rfl, ring, hring⟩) s R)⟩) rfl)
end
end Mine

namespace Mine
noncomputable def itm (lt z : Int) : List Int := [if z = lt then 1 else 0, z]
noncomputable def ltT (lt a b : Int) : Bool := lexLt (itm lt a) (itm lt b)
noncomputable abbrev ltX (τ : Sto) (v w : Value) : Bool := lexLt (xsV τ v) (xsV τ w)
noncomputable def zV (τ : Sto) (v : Value) : Int := (xsV τ v).getD 1 0
noncomputable def itmD (lt z : Int) : Dt := dI (itm lt z)
theorem itm_inj {lt a b : Int} (h : itm lt a = itm lt b) : a = b := by
  unfold itm at h
  injection h with _ h
  injection h
theorem isHp_congr {f g : Value → Value → Bool} {vs : List Value} (h : ∀ v ∈ vs, ∀ w ∈ vs, f v w = g v w) : isHp f vs = isHp g vs := by
  unfold isHp
  rw [Bool.eq_iff_iff, List.all_eq_true, List.all_eq_true]
  have gm : ∀ {i : Nat}, i < vs.length → vs.getD i .none ∈ vs := fun {i} hi => by
    rw [List.getD_eq_getElem?_getD, List.getElem?_eq_getElem hi]
    exact List.getElem_mem hi
  refine forall_congr' fun p => forall_congr' fun hp => ?_
  have hp := List.mem_range.mp hp
  rw [h _ (gm hp) _ (gm (Nat.lt_of_le_of_lt (by omega) hp))]
theorem itD_z {τ : Sto} {lt z : Int} {v : Value} (h : Dn τ v (itmD lt z)) : zV τ v = z := by
  unfold zV
  rw [xsV_of h]; rfl
theorem dns_itD {τ : Sto} {lt : Int} : ∀ {hs : List Int} {vs : List Value}, Dns τ vs (hs.map (itmD lt)) → vs.map (zV τ) = hs ∧ ∀ v ∈ vs, Dn τ v (itmD lt (zV τ v))
  | [], vs, h => by
    obtain rfl := Dns.nil h
    exact ⟨rfl, nofun⟩
  | z :: hs, vs, h => by
    obtain ⟨v, ws, rfl, h1, h2⟩ := h.uncons
    obtain ⟨h3, h4⟩ := dns_itD h2
    have e := itD_z h1
    refine ⟨by rw [List.map_cons, h3, e], fun w hw => ?_⟩
    rcases List.mem_cons.mp hw with rfl | hw
    · rw [e]; exact h1
    · exact h4 w hw
theorem dns_toD {τ : Sto} {lt : Int} : ∀ {vs : List Value}, (∀ v ∈ vs, Dn τ v (itmD lt (zV τ v))) → Dns τ vs ((vs.map (zV τ)).map (itmD lt))
  | [], _ => trivial
  | v :: vs, h => ⟨h v (.head _), dns_toD fun w hw => h w (.tail _ hw)⟩
theorem ltX_at {τ : Sto} {lt : Int} {v w : Value} (hv : Dn τ v (itmD lt (zV τ v))) (hw : Dn τ w (itmD lt (zV τ w))) : ltX τ v w = ltT lt (zV τ v) (zV τ w) := by
  unfold ltX ltT
  rw [xsV_of hv, xsV_of hw]
theorem totT {τ : Sto} {lt : Int} {hs : List Int} {vs : List Value} (h : Dns τ vs (hs.map (itmD lt))) (nd : hs.Nodup) : TotOn (ltX τ) vs ∧ vs.Nodup := by
  obtain ⟨h1, h2⟩ := dns_itD h
  have e : hs.map (itmD lt) = (hs.map (itm lt)).map dI := by rw [List.map_map]; rfl
  exact ⟨totL (os := hs.map (itm lt)) (e ▸ h) (List.pairwise_map.mpr (nd.imp fun hne q => hne (itm_inj q))), nodup_of (f := zV τ) (by rw [h1]; exact nd)⟩
theorem hp_mono {τ τ' : Sto} {lt : Int} {hs : List Int} {vs : List Value} (k : Frz τ τ') (h : Dns τ vs (hs.map (itmD lt))) : isHp (ltX τ') vs = isHp (ltX τ) vs := by
  obtain ⟨h1, h2⟩ := dns_itD h
  refine isHp_congr fun v hv w hw => ?_
  unfold ltX
  rw [xsV_of (h2 v hv), xsV_of (h2 w hw), xsV_of ((h2 v hv).mono k), xsV_of ((h2 w hw).mono k)]
theorem KI.nodupO {G0 G : List Gn} {ord out rd : List Int} (K : KI G0 G ord out rd) : out.Nodup ∧ ∀ z ∈ out, z ∉ ord := by
  have h := K.nd
  rw [List.nodup_append] at h
  obtain ⟨h1, h2, h3⟩ := h
  exact ⟨(List.nodup_append.mp h2).1, fun z hz ho => h3 z ho z (List.mem_append_left _ hz) rfl⟩
theorem Up2.turn {τ : Sto} {a : Addr} {i j : It} (h : τ a = some i) (ho : i.own = false) : Up2 τ (upd τ a j) := fun b k e t => (upd_ne fun q => by subst q; rw [h] at e; cases e; rw [ho] at t; cases t).trans e
theorem Keep2.turn {β τ : Sto} {a : Addr} {j : It} (k : Keep2 β τ) (h : β a = none) : Keep2 β (upd τ a j) := fun b i e t => (upd_ne fun q => by subst q; rw [h] at e; cases e).trans (k _ _ e t)
section
variable {c : Cx nm prg KK gl bl} {τ : Sto}
theorem cmpL : CmpOk c τ (fun v => ∃ xs, Dn τ v (dI xs)) (ltX τ) := by
  rintro x y ⟨xs, hx⟩ ⟨ys, hy⟩
  obtain ⟨a, vs, e1, h1, h2⟩ := hx.lst
  obtain ⟨b, us, e2, h3, h4⟩ := hy.lst
  refine ⟨(fun i j t u e _ => by rw [e1] at e; cases e), fun τ₁ L₁ l₁ A s Q E hz H R h => ?_⟩
  have kf : Frz τ τ₁ := fun a vs e => hz _ _ e rfl
  unfold ltX at h
  rw [xsV_of hx, xsV_of hy] at h
  exact ltL_at (H.le (by decide)) R (hx.mono kf) (hy.mono kf) (h s R)
theorem toldP {lt : Int} {G0 : List Gn} {ns : List Nd} {p : List Value} {y : Value} {ord out : List Int} {hs : List Int} (h5 : G0.length ≤ 5) (ki : KI G0 (gOf ns) ord out []) (hi : Dns τ (p ++ [y]) (hs.map (itmD lt))) (hp : hs.Perm out) (he : isHp (ltX τ) (p ++ [y]) = true) (gr : GrP G0 (ltT lt) ord) :
    p.length ≤ 5 ∧ ∃ (m : Int) (hs' : List Int), Dn τ (hpop (ltX τ) p y).1 (itmD lt m) ∧ m ∈ out ∧ Dns τ (hpop (ltX τ) p y).2 (hs'.map (itmD lt)) ∧ hs'.Perm (out.erase m) ∧ isHp (ltX τ) (hpop (ltX τ) p y).2 = true ∧ GrP G0 (ltT lt) (ord ++ [m]) := by
  obtain ⟨ond, _⟩ := ki.nodupO
  obtain ⟨T, vnd⟩ := totT hi (hp.nodup_iff.mpr ond)
  obtain ⟨z1, z2⟩ := dns_itD hi
  have hlen : out.length ≤ G0.length := by
    have := len_le ond (m := G0.map (·.k)) fun z hz => ki.sub z (by simp [hz])
    rwa [List.length_map] at this
  have hl : p.length ≤ 5 := by
    have h1 := hi.length
    have h2 := hp.length_eq
    rw [List.length_append, List.length_singleton, List.length_map] at h1
    omega
  obtain ⟨k1, k2, k3⟩ := hpop_ok T vnd hl he
  have mem : ∀ v, v ∈ (hpop (ltX τ) p y).1 :: (hpop (ltX τ) p y).2 → Dn τ v (itmD lt (zV τ v)) := fun v hv => z2 v (k2.mem_iff.mp hv)
  have hp2 : (zV τ (hpop (ltX τ) p y).1 :: (hpop (ltX τ) p y).2.map (zV τ)).Perm out := by
    have := (k2.map (zV τ)).trans (z1 ▸ hp)
    rwa [List.map_cons] at this
  have hm : zV τ (hpop (ltX τ) p y).1 ∈ out := hp2.mem_iff.mp (.head _)
  refine ⟨hl, _, _, mem _ (.head _), hm, dns_toD fun v hv => mem v (.tail _ hv), List.cons_perm_iff_perm_erase.mp hp2 |>.2, k1, gr.snoc (ki.avail.mpr hm) fun z hz hne => ?_⟩
  have hz' := ki.avail.mp hz
  have : z ∈ (hpop (ltX τ) p y).2.map (zV τ) := (List.mem_cons.mp (hp2.mem_iff.mpr hz')).resolve_left hne
  obtain ⟨v, hv, rfl⟩ := List.mem_map.mp this
  rw [← ltX_at (mem _ (.head _)) (mem v (.tail _ hv))]
  exact k3 v hv
structure TJ (c : Cx nm prg KK gl bl) (β : Sto) (lt : Int) (G0 : List Gn) (x ra hp oa : Addr) (τ : Sto) (ns : List Nd) (hv ov : List Value) (ord out : List Int) : Prop where
  kp : Keep2 β τ
  st : ∃ np nf, SAt c τ x ns (some (ra, [])) np nf
  ki : KI G0 (gOf ns) ord out []
  eh : τ hp = some (.ls 1 hv)
  hs : ∃ hs : List Int, Dns τ hv (hs.map (itmD lt)) ∧ hs.Perm out
  he : isHp (ltX τ) hv = true
  eo : τ oa = some (.ls 1 ov)
  os : IntsAre ov ord
  gr : GrP G0 (ltT lt) ord
  nh : β hp = none
  no : β oa = none
  ne : hp ≠ oa
structure LS where
  τ : Sto
  ns : List Nd
  hv : List Value
  ov : List Value
  ord : List Int
  out : List Int
noncomputable def phI (i : Nat) : Option (List Dt → (Dt → Prop) → Prop) := bif Nat.beq i 20 then some phItem else none
theorem ok_I : PhiOk c phI 6 := by
  intro i φ e
  unfold phI at e
  cases e1 : Nat.beq i 20 with
  | true => rw [e1] at e; cases e; obtain rfl := Nat.eq_of_beq_eq_true e1; exact ⟨_, .inl rfl, rfl, ok_item⟩
  | false => rw [e1] at e; cases e
end
section
variable {c : Cx nm prg KK gl bl} {A : Around} {E : Value → Shared → Prop} {Q : Flow → Shared → Prop} {τ τ' β β0 : Sto} {L : Addr} {l l0 : List (Nat × Value)} {s : Shared} {env : Env} {cs : List (Nat × Addr)} {W : Wk c ks__law_told cs 39} {ss : List Sx} {rs : List (List Sx)} {x : Addr} {nv sv : Value}
noncomputable abbrev kC : List (Nat × NameKind) := [(0, .local), (92, .local), (20, .globalImplicit), (79, .free)]
theorem late_cell {lt : Int} : ∀ i d, List.lookup i [(79, Dt.int lt)] = some d → ks__law_told.lookup i = some .cell := fun i d e => by
  rw [List.lookup_cons] at e
  by_cases z : i = 79
  · subst z; rfl
  · rw [beq_eq_false_iff_ne.mpr z] at e; cases e
theorem toldD {p1 p2 p3 p4 p5 p6 p7 p8 p9 p10 p11 : Pos} {lt : Int} {es : List (Int × Int)} {V : List Int} {ns : List Nd} {ra : Addr} {free : Bool} (l1 : (p1.line == p10.line) = true) (l2 : (p8.endLine == p9.line) = true) (D : DS W.A W.L ks__law_told cs (cellNs ks__law_told) β0 [(79, .int lt)] τ l0) (B : BG es V (gOf ns)) (h5 : (gOf ns).length ≤ 5) (S : SAt c τ x ns (some (ra, gReady (gOf ns))) 0 0)
    (h : ∀ τ' β' ns' hp hv, Keep2 τ β' → (∀ a i, β' a = some i → τ' a = some i) → β' hp = none → (∃ np nf, SAt c τ' x ns' (some (ra, [])) np nf) → KI (gOf ns) (gOf ns') [] (gReady (gOf ns)) [] → τ' hp = some (.ls 1 hv) → Dns τ' hv ((gReady (gOf ns)).map (itmD lt)) → (gReady (gOf ns)).length ≤ 5 → (gReady (gOf ns)).Nodup → ∀ s, Rl W τ' [(132, .ref x), (56, .bool free), (61, .ref hp)] s → XX W (embL nm ss) (rs.map (embL nm)) Q E s) :
    ∀ s, Rl W τ [(132, .ref x), (56, .bool free)] s → XX W (embL nm (.asg 61 p1 (.lc (embE nm (.call2 20 p2 (.nm 92 p3) (.nm 79 p4) p5)) [⟨embE nm (.nm 92 p6), embE nm (.meth0 (.nm 132 p7) 59 p8 p9), [], 0⟩] (scp kC) p10) p11 :: ss)) (rs.map (embL nm)) Q E s := fun s R => by
  have ki := KI.start B.nd B.indeg
  have ki2 := ki.out
  rw [List.nil_append] at ki2
  have hrl : (gReady (gOf ns)).length ≤ 5 := by
    have := len_le ki2.nodupO.1 (m := (gOf ns).map (·.k)) fun z hz => ki2.sub z (by simp [hz])
    rw [List.length_map] at this
    omega
  show XX W (.Assign [.Name (nm 61) p1] (.ListComp (dE (.call 20 p2 (.cons (.nm 92 p3) (.cons (.nm 79 p4) .nil)) p5)) [⟨.Name (nm 92) p6, embE nm (.meth0 (.nm 132 p7) 59 p8 p9), dL .nil, 0⟩] (scp kC) p10) p11 :: embL nm ss) (rs.map (embL nm)) Q E s
  have hok : okC ks__law_told [(79, Dt.int lt)] kC = true := rfl
  have hΦ := (ok_I (c := c)).ge (show 6 ≤ 39 by decide)
  refine sStm (xAsgLC (ksC := kC) W.V rfl rfl rfl (D.freeOk hok) rfl (by decide) (D.lookNo rfl) rfl l1 ?_ (fun x => rfl))
  refine vcE_ok (.meth0 (.nm 132 p7) 59 p8 p9) τ (fun v τ4 => ∃ ta rvs ns4, v = .val (.ref ta) ∧ τ4 ta = some (.ob 0 (tup rvs)) ∧ IntsAre rvs (gReady (gOf ns)) ∧ (∃ np nf, SAt c τ4 x ns4 (some (ra, [])) np nf) ∧ KI (gOf ns) (gOf ns4) [] (gReady (gOf ns)) [] ∧ Keep2 τ τ4) s _ E ?_ R ?_
  · show gB (true && (p8.endLine == p9.line)) _
    rw [l2]
    refine omS S rfl (kT_get_ready _) (kF_get_ready _) ⟨rfl, fun s Q E R q => sp_get_ready (W.H.le (by decide)) R S (Nat.lt_of_le_of_lt hrl (by decide)) (fun z hz => ?_) fun ta vs ns4 τ4 s n0 hta hvs g4 S4 K4 R => q _ _ s ⟨ta, vs, ns4, rfl, hta, hvs, ⟨_, _, S4⟩, g4 ▸ ki2, K4⟩ R⟩
    rw [← gOf_k]; exact ki.sub z (by simpa using hz)
  · rintro xv v τ1 s1 hx ⟨ta, rvs, ns4, rfl, hta, hrv, S4, ki4, K4⟩ R1
    obtain rfl : v = .ref ta := hx
    refine iterT R1 hta fun itr s2 n1 n2 R2 => ?_
    have hlen : rvs.length = ((gReady (gOf ns)).map Dt.int).length := by rw [hrv.length, List.length_map]
    refine lcTurnsG (i := 92) (q := p6) (Γ := [(79, Dt.int lt)]) (τ := maskS τ1) (ds := (gReady (gOf ns)).map .int) (ys := (gReady (gOf ns)).map (itmD lt)) (F := evF phI .nil (relab kC)) (Rr := evR phI .nil kC fun Γ ys => ev phI (.call 20 p2 (.cons (.nm 92 p3) (.cons (.nm 79 p4) .nil)) p5) (relab kC) Γ fun d => ys = [d])
      (Kf := fun l acc τf => ∀ s'', Rel c τf W.L (put l 61 (.ref acc)) s'' → nxt W (embL nm ss) (rs.map (embL nm)) Q E .next s'') (by decide) rfl hok (fun h D R q => evF_ok (by decide) hΦ .nil h D R q) (fun h C z R => evR_ok (by decide) hΦ .nil (d := 0) rfl (fun h D R q => ev_ok (by decide) hΦ _ h D R q) h C z R)
      (tnB_to (gReady (gOf ns)) .int (fun z => [itmD lt z]) rfl rfl rfl fm1.symm fun z hz => ⟨fun _ => ⟨z, lt, rfl, rfl⟩, nofun⟩) (by rw [List.length_map]; omega) (D.cells late_cell (K4.trans fun a i e t => mask_keep e t) _)
      (hlen ▸ drvT (vs := rvs)) (fun j v hj hv => ?_) (fun τ' k => ⟨0, k _ _ (mask_keep hta rfl) rfl⟩) (fun _ => rfl) (mask_none n1) (mask_upd (i := itT ta 0) rfl ▸ R2.mask) fun acc τf ha haL kf hac s'' R'' => ?_
    · obtain ⟨z, u, rfl, hz⟩ := hrv.at j v hv
      exact ⟨.int z, by rw [List.getElem?_map, hz]; rfl, fun τ' _ => ⟨u, rfl⟩⟩
    · obtain ⟨vs, g1, g2⟩ := hac
      have ha1 : τ1 acc = none := by
        cases e : τ1 acc with
        | none => rfl
        | some i => rw [mask_at e] at ha; cases ha
      obtain ⟨u1, u2⟩ := unm_up kf
      refine h _ τ1 ns4 acc vs K4 (unm_all kf) ha1 ?_ ki4 (unm_at kf g1 (show 1 ≠ 20 by decide)) (g2.mono (unm_frz kf)) hrl ki2.nodupO.1 s'' (R''.unmask kf)
      obtain ⟨np, nf, S4⟩ := S4
      exact ⟨np, nf, S4.mono u2⟩
theorem toldE {p8 p9 p10 p11 p12 p13 p14 : Pos} {lt : Int} {G0 : List Gn} {ns : List Nd} {ra hp : Addr} {free : Bool} {hv : List Value} {out : List Int} (ka : ∀ a i, β a = some i → τ a = some i) (nh : β hp = none) (st : ∃ np nf, SAt c τ x ns (some (ra, [])) np nf) (ki : KI G0 (gOf ns) [] out []) (eh : τ hp = some (.ls 1 hv)) (hd : Dns τ hv (out.map (itmD lt))) (hl : out.length ≤ 5) (nd : out.Nodup)
    (h : ∀ τ' oa hv, TJ c β lt G0 x ra hp oa τ' ns hv [] [] out → ∀ s, Rl W τ' [(132, .ref x), (56, .bool free), (61, .ref hp), (104, .ref oa)] s → XX W (embL nm ss) (rs.map (embL nm)) Q E s) :
    ∀ s, Rl W τ [(132, .ref x), (56, .bool free), (61, .ref hp)] s → XX W (embL nm (.exp (.call1 62 p8 (.nm 61 p9) p10) p11 :: .asg 104 p12 (.list0 p13) p14 :: ss)) (rs.map (embL nm)) Q E s := fun s R => by
  have hvl : hv.length ≤ 5 := by rw [hd.length, List.length_map]; exact hl
  obtain ⟨T, vnd⟩ := totT hd nd
  obtain ⟨z1, z2⟩ := dns_itD hd
  obtain ⟨h1, h2⟩ := hfy_ok T vnd hvl
  have hd2 : Dns τ (hfy (ltX τ) (hv.length / 2) hv) (((hfy (ltX τ) (hv.length / 2) hv).map (zV τ)).map (itmD lt)) := dns_toD fun v hv => z2 v (h2.mem_iff.mp hv)
  have hp2 : ((hfy (ltX τ) (hv.length / 2) hv).map (zV τ)).Perm out := z1 ▸ h2.map (zV τ)
  refine vcS_ok 2 _ rs τ _ s ?_ R
  refine ⟨rfl, fun s Q E R q => sp_heapify (lt := ltX τ) (P := fun v => ∃ xs, Dn τ v (dI xs)) (W.H.le (by decide)) R (fun v hv => ⟨_, z2 v hv⟩) cmpL eh (Nat.lt_of_le_of_lt hvl (by decide)) fun s R => q _ (upd τ hp (.ls 1 (hfy (ltX τ) (hv.length / 2) hv))) s ?_ R⟩
  generalize hfy (ltX τ) (hv.length / 2) hv = hv2 at *
  obtain ⟨np, nf, st⟩ := st
  refine fun oa p3 p4 s R => ?_
  have hne : hp ≠ oa := ne_of_none upd_self p3
  have kf1 : Frz τ (upd τ hp (.ls 1 hv2)) := fun a us e => (upd_ne (ne_of_it e eh nofun)).trans e
  have kf2 : Frz (upd τ hp (.ls 1 hv2)) (upd (upd τ hp (.ls 1 hv2)) oa (.ls 1 [])) := (Keep2.fresh p3).frz
  have no : β oa = none := by
    cases e : β oa with
    | none => rfl
    | some i =>
      obtain ⟨_, p5⟩ := upd_none p3
      rw [ka _ _ e] at p5
      cases p5
  have kp : Keep2 β τ := fun a i e _ => ka a i e
  exact h _ oa hv2 ⟨(kp.turn nh).turn no, ⟨np, nf, (st.mono (Up2.turn eh rfl)).mono (Up2.fresh p3)⟩, ki, (upd_ne hne).trans upd_self, ⟨_, (hd2.mono kf1).mono kf2, hp2⟩, by rw [hp_mono kf2 (hd2.mono kf1), hp_mono kf1 hd2]; exact h1, upd_self, .nil, GrP.nil, nh, no, hne⟩ s R
end
end Mine

namespace Mine
section
variable {c : Cx nm prg KK gl bl} {A : Around} {E : Value → Shared → Prop} {Q : Flow → Shared → Prop} {τ τ' β β0 : Sto} {L : Addr} {l l0 : List (Nat × Value)} {s : Shared} {env : Env} {cs : List (Nat × Addr)} {W : Wk c ks__law_told cs 39} {ss : List Sx} {rs : List (List Sx)} {x : Addr} {nv sv : Value}
theorem toldG {p21 p22 p23 p24 p25 p26 p27 : Pos} {lt z : Int} {u : Tok} {hp : Addr} {hv : List Value} {hs : List Int} {l : List (Nat × Value)} (D : DS W.A W.L ks__law_told cs (cellNs ks__law_told) β0 [(79, .int lt)] τ l) (lh : l.lookup 61 = some (.ref hp)) (ln : l.lookup 92 = some (.int z u)) (eh : τ hp = some (.ls 1 hv)) (hd : Dns τ hv (hs.map (itmD lt))) (he : isHp (ltX τ) hv = true) (hl : hv.length ≤ 5) (nd : (z :: hs).Nodup)
    (h : ∀ τ' hv' (hs' : List Int), (∀ a i, a ≠ hp → τ a = some i → τ' a = some i) → τ' hp = some (.ls 1 hv') → Dns τ' hv' (hs'.map (itmD lt)) → isHp (ltX τ') hv' = true → hs'.Perm (hs ++ [z]) → vcS W Q E 1 [] [] τ' l) :
    ∀ s, Rl W τ l s → XX W (embL nm [.exp (.call2 64 p21 (.nm 61 p22) (.call2 20 p23 (.nm 92 p24) (.nm 79 p25) p26) p27) p27]) [] Q E s := fun s R => by
  show XX W [.Expr (.Call (.Name (nm 64) p21) [dE (.nm 61 p22), dE (.call 20 p23 (.cons (.nm 92 p24) (.cons (.nm 79 p25) .nil)) p26)] [] p27) p27] [] Q E s
  have hΦ := (ok_I (c := c)).ge (show 6 ≤ 39 by decide)
  have D1 : DS W.A W.L ks__law_told cs (cellNs ks__law_told) β0 [(92, .int z), (79, .int lt)] (maskS τ) l := (D.mono fun a i e t => mask_keep e t).loc rfl ln ⟨u, rfl⟩
  refine sStm (xExprA W.V (Call_ (ldG W.V R rfl rfl (callN_ok (W := W) (f := .ref f_heappush) rfl (fine_dE (.nm 61 p22) _) (fun _ => rfl) (args_cons (nm_ok R (.inl ⟨rfl, lh⟩) (args_cons (ev_ok (Φ := phI) (Γ := [(92, .int z), (79, .int lt)]) (K := fun d => d = itmD lt z) (by decide) hΦ _ ⟨z, lt, rfl, rfl⟩ D1 R.mask fun d v τ1 s1 hdd k hv1 R1 => args_nil ⟨⟨_, _, _, R1⟩, ?_⟩) (fine_dE _ _ _))) (fine_dE _ _ _)))) rfl) rfl)
  subst hdd
  have R2 := R1.unmask k
  have ka := unm_all k
  have hv2 := hv1.mono (unm_frz k)
  have kf : Frz τ (unmS τ τ1) := (unm_up k).1.frz
  generalize unmS τ τ1 = τ2 at *
  have eh2 := ka _ _ eh
  have hd2 := hd.mono kf
  have he2 : isHp (ltX τ2) hv = true := by rw [hp_mono kf hd]; exact he
  have hd3 : Dns τ2 (v :: hv) ((z :: hs).map (itmD lt)) := ⟨hv2, hd2⟩
  obtain ⟨T, vnd⟩ := totT hd3 nd
  obtain ⟨z1, z2⟩ := dns_itD hd3
  obtain ⟨g1, g2⟩ := hpush_ok T vnd hl he2
  refine sp_heappush (W.H.le (by decide)) R2 (P := fun v => ∃ xs, Dn τ2 v (dI xs)) (fun w hw => ⟨_, z2 w (.tail _ hw)⟩) ⟨_, hv2⟩ cmpL eh2 (Nat.lt_of_le_of_lt hl (by decide)) fun s3 R3 => ?_
  have kf3 : Frz τ2 (upd τ2 hp (.ls 1 (hpush (ltX τ2) hv v))) := fun a us e => (upd_ne (ne_of_it e eh2 nofun)).trans e
  have hd4 : Dns τ2 (hpush (ltX τ2) hv v) (((hpush (ltX τ2) hv v).map (zV τ2)).map (itmD lt)) := dns_toD fun w hw => z2 w (g2.mem_iff.mp hw)
  show XX W (embL nm []) (([] : List (List Sx)).map (embL nm)) Q E s3
  refine vcS_ok 1 [] [] _ l s3 (h (upd τ2 hp (.ls 1 (hpush (ltX τ2) hv v))) _ _ (fun a i hne e => (upd_ne hne).trans (ka a i e)) upd_self (hd4.mono kf3) (by rw [hp_mono kf3 hd4]; exact g1) ?_) R3
  have := g2.map (zV τ2)
  rw [z1] at this
  exact this.trans (List.perm_append_singleton z hs).symm
theorem toldF {p1 p2 p3 p4 p5 p6 p7 p8 p9 p10 p11 p12 p13 p14 p15 p16 p17 p18 p19 p20 p21 p22 p23 p24 p25 p26 p27 p28 p29 p30 p31 : Pos} {m1 m2 : Nat} {lt : Int} {es : List (Int × Int)} {V : List Int} {G0 : List Gn} {ra hp oa : Addr} {free : Bool} {ns : List Nd} {hv : List Value} {out : List Int}
    (l1 : (p3.endLine == p7.line) = true) (l2 : (p10.endLine == p15.line) = true) (l3 : (p19.endLine == p20.line) = true) (D : DS W.A W.L ks__law_told cs (cellNs ks__law_told) β0 [(79, .int lt)] β l0) (B : BG es V G0) (h60 : es.length ≤ 60) (h5 : G0.length ≤ 5) (I0 : TJ c β lt G0 x ra hp oa τ ns hv [] [] out)
    (h : ∀ τ' ov ord, Greedy G0 (ltT lt) ord → IntsAre ov ord → τ' oa = some (.ls 1 ov) → β oa = none → Keep2 β τ' → ord.length ≤ 5 → ∀ s, Rl W τ' [(132, .ref x), (56, .bool free), (61, .ref hp), (104, .ref oa)] s → XX W (embL nm ss) (rs.map (embL nm)) Q E s) :
    ∀ s, Rl W τ [(132, .ref x), (56, .bool free), (61, .ref hp), (104, .ref oa)] s → XX W (embL nm (.whl (.nm 61 p1) [.exp (.meth1 (.nm 104 p2) 40 p3 (.sub (.call1 63 p4 (.nm 61 p5) p6) (.int 1 m2 p28) p29) p7) p8, .exp (.meth1 (.nm 132 p9) 51 p10 (.sub (.nm 104 p11) (.neg (.int 1 m1 p12) p13) p14) p15) p16,
      .for1 92 p17 (.meth0 (.nm 132 p18) 59 p19 p20) [.exp (.call2 64 p21 (.nm 61 p22) (.call2 20 p23 (.nm 92 p24) (.nm 79 p25) p26) p27) p27] p30] [] p31 :: ss)) (rs.map (embL nm)) Q E s := by
  have nd0 := B.nd
  have hcl : ∀ a z, z ∈ scOf G0 a → z ∈ G0.map (·.k) := fun a z hz => by
    rw [B.sc] at hz
    obtain ⟨e, he, rfl⟩ := List.mem_map.mp hz
    exact (B.keys _).mpr (B.end2 e (List.mem_filter.mp he).1)
  have hsc : ∀ a, (scOf G0 a).length ≤ 60 := fun a => by
    rw [B.sc, List.length_map]; exact Nat.le_trans (List.length_filter_le _ _) h60
  have ordl : ∀ {G : List Gn} {ord out rd : List Int}, KI G0 G ord out rd → ord.length ≤ 5 := fun {G ord out rd} K => by
    have := len_le (List.nodup_append.mp K.nd).1 (m := G0.map (·.k)) fun z hz => K.sub z (List.mem_append_left _ hz)
    rw [List.length_map] at this
    omega
  refine vWhile (α := LS) 4 (fun y => y.τ) (fun _ => [(132, .ref x), (56, .bool free), (61, .ref hp), (104, .ref oa)]) (fun y => 5 - y.ord.length) (fun y => TJ c β lt G0 x ra hp oa y.τ y.ns y.hv y.ov y.ord y.out) (fun _ => True) (fun _ => True) (fun _ => True) ⟨τ, ns, hv, [], [], out⟩ rfl ⟨rfl, rfl, rfl, rfl, trivial⟩ I0 trivial trivial trivial ?_
  rintro ⟨τ, ns, hv, ov, ord, out⟩ F Qb ⟨kp, ⟨np, nf, st⟩, ki, eh, ⟨hs, hi, hperm⟩, he, eo, os, gr, nh, no, ne⟩ _ _ _ lp
  dsimp only at kp st ki eh hi he eo os gr lp hperm
  have hvl : hv.length ≤ 5 := by
    have h1 := hi.length
    have h2 := hperm.length_eq
    have := len_le ki.nodupO.1 (m := G0.map (·.k)) fun z hz => ki.sub z (by simp [hz])
    rw [List.length_map] at this h1
    omega
  refine ⟨1, hv, eh, Nat.lt_of_le_of_lt hvl (by decide), fun hb => ?_, fun hb => ?_⟩
  · obtain ⟨p, y, rfl⟩ : ∃ p y, hv = p ++ [y] := by
      rcases List.eq_nil_or_concat hv with e | ⟨p, y, e⟩
      · rw [e] at hb; cases hb
      · exact ⟨p, y, by rw [e, List.concat_eq_append]⟩
    obtain ⟨hl, m, hs', hm1, hm, hi2, hp2, he2, gr2⟩ := toldP h5 ki hi hperm he gr
    have ovl : ov.length ≤ 5 := os.length ▸ ordl ki
    obtain ⟨z1, z2⟩ := dns_itD hi
    show gB (true && (p3.endLine == p7.line)) _
    rw [l1]
    refine omLs PySem.F.slot_list_append PySem.F.type_list_append eo ⟨trivial, rfl, fun s Q E R q => sp_heappop (W.H.le (by decide)) R (P := fun v => ∃ xs, Dn τ v (dI xs)) (fun v hv => ⟨_, z2 v (List.mem_append_left _ hv)⟩) ⟨_, z2 y (by simp)⟩ cmpL eh (Nat.lt_of_le_of_lt hl (by decide)) fun s R => q _ _ s ?_ R⟩
    obtain ⟨ia, us, e1, hia, hus⟩ := hm1.lst
    obtain ⟨u0, u1, rfl, -, ⟨t, rfl⟩⟩ := Dns.two hus
    rw [e1]
    generalize (hpop (ltX τ) p y).2 = hv2 at hi2 he2
    have kf1 : Frz τ (upd τ hp (.ls 1 hv2)) := fun a us e => (upd_ne (ne_of_it e eh nofun)).trans e
    refine fun t0 => oItem (j := 1) (x := .int m t) (kf1 _ _ hia) rfl (by decide) rfl ?_
    refine oAppend ((upd_ne (Ne.symm ne)).trans eo) (Nat.lt_of_le_of_lt ovl (by decide)) ?_
    have S2 : SAt c (upd (upd τ hp (.ls 1 hv2)) oa (.ls 1 (ov ++ [.int m t]))) x ns (some (ra, [])) np nf := (st.mono (Up2.turn eh rfl)).mono (Up2.turn ((upd_ne (Ne.symm ne)).trans eo) rfl)
    have kp2 : Keep2 β (upd (upd τ hp (.ls 1 hv2)) oa (.ls 1 (ov ++ [.int m t]))) := (kp.turn nh).turn no
    have eh2 : (upd (upd τ hp (.ls 1 hv2)) oa (.ls 1 (ov ++ [.int m t]))) hp = some (.ls 1 hv2) := (upd_ne ne).trans upd_self
    have eo2 : (upd (upd τ hp (.ls 1 hv2)) oa (.ls 1 (ov ++ [.int m t]))) oa = some (.ls 1 (ov ++ [.int m t])) := upd_self
    have kf2 : Frz τ (upd (upd τ hp (.ls 1 hv2)) oa (.ls 1 (ov ++ [.int m t]))) := fun a us e => (upd_ne (ne_of_it e eo nofun)).trans (kf1 a us e)
    have hi3 := hi2.mono kf2
    have he3 : isHp (ltX (upd (upd τ hp (.ls 1 hv2)) oa (.ls 1 (ov ++ [.int m t])))) hv2 = true := by rw [hp_mono kf2 hi2]; exact he2
    generalize upd (upd τ hp (.ls 1 hv2)) oa (.ls 1 (ov ++ [.int m t])) = τ2 at *
    show gB (true && (p10.endLine == p15.line)) _
    rw [l2]
    have hov : (ov ++ [Value.int m t]).length = ov.length + 1 := by rw [List.length_append, List.length_singleton]
    have mk : m ∈ G0.map (·.k) := ki.sub m (by simp [hm])
    have nk : ∀ {z : Int}, z ∈ G0.map (·.k) → z ∈ ns.map (·.k) := fun h => by rw [← gOf_k, ki.keys]; exact h
    have hnp : npOf (gOf ns) m = -1 := by rw [ki.np m mk, if_neg (ki.nodupO.2 m hm), if_pos hm]
    refine omS S2 rfl (kT_done _) (kF_done _) ⟨rfl, fun t0 => oItemN (x := .int m t) eo2 (by rw [hov]; exact Nat.succ_pos _) (by rw [hov]; exact Nat.lt_of_le_of_lt (Nat.succ_le_succ ovl) (by decide)) (by simp) fun s Q E R q => sp_done (W.H.le (by decide)) R S2 (by decide) (by rw [ki.sc]; exact Nat.lt_of_le_of_lt (hsc m) (by decide)) (nk mk) hnp (fun z hz => nk (hcl m z (by rw [← ki.sc]; exact hz))) fun ns3 τ3 s g3 S3 K3 R => q _ _ s ?_ R⟩
    have ki2 := ki.done nd0 hcl hm
    rw [← g3] at ki2
    generalize (gDone (gOf ns) [] m).2 = rd at ki2 S3
    have ki3 := ki2.out
    have onl : (out.erase m ++ rd).length ≤ 5 := by
      have := len_le ki3.nodupO.1 (m := G0.map (·.k)) fun z hz => ki3.sub z (by simp [List.mem_append.mp hz])
      rw [List.length_map] at this
      omega
    show gB (true && (p19.endLine == p20.line)) _
    rw [l3]
    have rdl : rd.length ≤ 5 := by rw [List.length_append] at onl; omega
    refine omS S3 rfl (kT_get_ready _) (kF_get_ready _) ⟨rfl, fun s Q E R q => sp_get_ready (W.H.le (by decide)) R S3 (Nat.lt_of_le_of_lt rdl (by decide)) (fun z hz => ?_) fun ta rvs ns4 τ4 s n0 hta hrv g4 S4 K4 R => q _ _ s ?_ R⟩
    · rw [← gOf_k, ki2.keys]; exact ki2.sub z (by simp [hz])
    rw [← g4] at ki3
    have K24 := K3.trans K4
    have eh4 := K24 _ _ eh2 rfl
    have eo4 := K24 _ _ eo2 rfl
    have tah : ta ≠ hp := fun q => by subst q; rw [hta] at eh4; cases eh4
    have kpd : Keep2 β (del τ4 hp) := fun a i e t => (del_ne fun q => by subst q; rw [nh] at e; cases e).trans ((kp2.trans K24) _ _ e t)
    have hrl := hrv.length
    have hi4 := hi3.mono K24.frz
    have he4 : isHp (ltX τ4) hv2 = true := by rw [hp_mono K24.frz hi3]; exact he3
    refine forK (α := Sto × List Value) (N := 0) (cnt := rvs.length) (σ := fun p => p.1) (fr := fun _ => [(132, .ref x), (56, .bool free), (61, .ref hp), (104, .ref oa)]) (F1 := fun j p => p.1 hp = some (.ls 1 p.2) ∧ isHp (ltX p.1) p.2 = true ∧ ∃ hs : List Int, Dns p.1 p.2 (hs.map (itmD lt)) ∧ hs.Perm (out.erase m ++ rd.take j)) (F2 := fun _ p => SAt c p.1 x ns4 (some (ra, [])) (np + rd.length) (nf + 1)) (F3 := fun _ p => Keep2 (del τ4 hp) p.1)
      ⟨by decide, fun it => drvT (vs := rvs), fun j p _ _ K => ⟨0, K _ _ ((del_ne tah).trans hta) rfl⟩, ?_, ?_⟩ (τ4, hv2) (itTs hta) ⟨rfl, rfl, rfl, rfl, trivial⟩ ⟨eh4, he4, hs', hi4, by simpa using hp2⟩ S4 (fun a i e t => (del_ne fun q => by subst q; rw [del_self] at e; cases e).symm.trans e)
    · rintro j v it ⟨τ5, hv5⟩ F' Qb' hj hv ⟨eh5, he5, hs5, hi5, hp5⟩ S5 K5 hit hne lp2
      dsimp only at eh5 he5 hi5 S5 K5 hit
      obtain ⟨z, u, rfl, hz⟩ := hrv.at j v hv
      obtain ⟨hj', hje⟩ := List.getElem?_eq_some_iff.mp hz
      have htk : rd.take (j + 1) = rd.take j ++ [z] := by rw [← List.take_append_getElem hj', hje]
      have ndj : (out.erase m ++ rd.take (j + 1)).Nodup := ki3.nodupO.1.sublist (List.Sublist.append_left (List.take_sublist _ _) _)
      rw [htk, ← List.append_assoc] at ndj
      have zn : z ∉ hs5 := fun q => by
        have := (List.nodup_append.mp ndj).2.2 z (hp5.mem_iff.mp q) z (by simp)
        exact this rfl
      have hs5n : hs5.Nodup := hp5.nodup_iff.mpr (List.nodup_append.mp ndj).1
      have h5l : hv5.length ≤ 5 := by
        rw [hi5.length, List.length_map, hp5.length_eq, List.length_append, List.length_take]
        rw [List.length_append] at onl
        omega
      have kfr : Frz τ5 (upd τ5 it (itT ta (j + 1))) := (Keep2.fresh hit).frz
      have hih : it ≠ hp := Ne.symm (ne_of_none eh5 hit)
      have D5 : DS W.A W.L ks__law_told cs (cellNs ks__law_told) β0 [(79, .int lt)] (upd τ5 it (itT ta (j + 1))) [(132, .ref x), (56, .bool free), (61, .ref hp), (104, .ref oa), (92, .int z u)] := D.cells late_cell ((kpd.trans K5).trans (Keep2.fresh hit)) _
      refine ⟨_, tgt rfl, toldG D5 rfl rfl ((upd_ne (Ne.symm hih)).trans eh5) (hi5.mono kfr) (by rw [hp_mono kfr hi5]; exact he5) h5l (List.nodup_cons.mpr ⟨zn, hs5n⟩) fun τ6 hv6 hs6 ka eh6 hi6 he6 hp6 => ?_⟩
      have e5 : τ6 it = some (itT ta (j + 1)) := ka _ _ hih upd_self
      have kd : Frz τ6 (del τ6 it) := frz_del e5 rfl
      refine lp2.nx ((del τ6 it, hv6), τ6) ⟨e5, rfl⟩ ⟨(del_ne (Ne.symm hih)).trans eh6, by rw [hp_mono kd hi6]; exact he6, hs6, hi6.mono kd, ?_⟩ (S5.mono fun a i e t => ?_) (fun a i e t => ?_) trivial _ ⟨rfl, rfl, rfl, rfl, trivial⟩
      · rw [htk, ← List.append_assoc]
        exact hp6.trans (hp5.append_right [z])
      · have h1 : a ≠ it := ne_of_none e hit
        have h2 : a ≠ hp := fun q => by subst q; rw [eh5] at e; cases e; cases t
        exact (del_ne h1).trans (ka a i h2 ((upd_ne h1).trans e))
      · have h2 : a ≠ hp := fun q => by subst q; rw [del_self] at e; cases e
        have e' := K5 a i e t
        have h1 : a ≠ it := ne_of_none e' hit
        exact (del_ne h1).trans (ka a i h2 ((upd_ne h1).trans e'))
    · rintro ⟨τ5, hv5⟩ ⟨eh5, he5, hs5, hi5, hp5⟩ S5 K5 s R
      dsimp only at eh5 he5 hi5 S5 K5
      rw [hrl, List.take_length] at hp5
      refine vcS_ok 1 [] [] _ _ s (lp.nx ⟨τ5, ns4, hv5, ov ++ [.int m t], ord ++ [m], out.erase m ++ rd⟩ ?_ ⟨kpd.trans K5, ⟨_, _, S5⟩, ki3, eh5, ⟨hs5, hi5, hp5⟩, he5, K5 _ _ ((del_ne (Ne.symm ne)).trans eo4) rfl, os.append (.cons _ _ .nil), gr2, nh, no, ne⟩ trivial trivial trivial _ ⟨rfl, rfl, rfl, rfl, trivial⟩) R
      have := ordl ki3
      rw [List.length_append, List.length_singleton] at this
      show 5 - (ord ++ [m]).length < 5 - ord.length
      rw [List.length_append, List.length_singleton]
      omega
  · have e : hv = [] := by cases hv with | nil => rfl | cons => cases hb
    subst e
    have e2 : out = [] := by
      have := hi.length
      have h2 := hperm.length_eq
      cases hs with
      | nil => exact List.length_eq_zero_iff.mp h2.symm
      | cons => cases this
    subst e2
    exact fun s R => h τ ov ord ⟨gr, fun z hz => by cases ki.avail.mp hz⟩ os eo no kp (ordl ki) s R
noncomputable def phT : List Dt → (Dt → Prop) → Prop := fun ds K => ∃ (N : List Int) (es : List (Int × Int)) (lt : Int), ds = [dI N, .list (es.map dPair), .int lt] ∧ es.length ≤ 60 ∧ N.length ≤ 5 ∧ (∀ e ∈ es, e.1 ∈ N ∧ e.2 ∈ N) ∧
  ∀ G order free, BG es ((es.flatMap fun e => [e.2, e.1]) ++ N) G → Greedy G (ltT lt) order → ((free = true ∧ Acyc G) ∨ (free = false ∧ ∃ r, Ring G r)) → K (.list [.bool free, dI order])
theorem ok_told : FnOk c 40 (.ref f__law_told) phT := by
  rintro ds K A L τ0 l0 s0 vs Q E ⟨N, es, lt, rfl, h60, hN, hin, hK⟩ H LA R0 hv qq
  obtain ⟨v1, v2, v3, rfl, -⟩ := Dns.three hv
  refine callD2 (n := 39) (is := [93, 137, 79]) H LA R0 hv qq rfl (by kernel_rfl) ⟨rfl, rfl, rfl⟩ (ks := ks__law_told) rfl rfl (BindsTo.of_eq (by kernel_rfl)) rfl rfl fun {cs} W β Q' E' LV hq τ l s S R => ?_
  dsimp only [n_names, n_steps, n_late, n_sorter, n_ahead, n_behind, n_name, n_free, n_heap, n_order, n_TopologicalSorter, n_CycleError, n_heapify, n_heappop, n_heappush, n__law_item, n_add, n_prepare, n_get_ready, n_done, n_append, n_dot0, q_nm, q_int, q_non, q_bool, q_str, q_bin, q_neg, q_not, q_cmp, q_and, q_or, q_sub, q_slLo, q_slHi, q_slRev, q_attr, q_call0, q_call1, q_call2, q_call3, q_meth0, q_meth1, q_meth2, q_list0, q_list1, q_list2, q_list3, q_lc, q_js, q_nx, q_dct, q_asg, q_setI, q_setA, q_asg2, q_asgT, q_augA, q_augI, q_exp, q_iff, q_ret, q_brk, q_cont, q_whl, q_for1, q_forT, q_tryx, q_rai, q_del, q_asr, q_asgC, q_expC, q_nil, q_cons]
  have D := S.ds
  obtain ⟨nv, hnv, hnl⟩ := D.sat 93 (dI N) rfl
  obtain ⟨sv, hsv, hsl⟩ := D.sat 137 (.list (es.map dPair)) rfl
  have hnl : l.lookup 93 = some nv := hnl.elim (·.2) fun h => nomatch h.1
  have hsl : l.lookup 137 = some sv := hsl.elim (·.2) fun h => nomatch h.1
  have R := R.forget (l' := [(93, nv), (137, sv)]) ⟨hnl, hsl, trivial⟩
  have LV1 : Lv W.A W.env τ W.L := LV.mono fun a l e => ⟨l, D.up _ _ e rfl⟩
  have D1 : DS W.A W.L ks__law_told cs (cellNs ks__law_told) β [(79, .int lt)] τ l := D.sub fun i d e => by
    rw [List.lookup_cons] at e
    by_cases z : i = 79
    · subst z; rw [beq_self_eq_true] at e; cases e; rfl
    · rw [beq_eq_false_iff_ne.mpr z] at e; cases e
  refine vcS_ok 1 _ [] _ _ _ ?_ R
  refine ⟨rfl, fun s Q E R q => sp_newSorter (W.H.le (by decide)) R fun x τ1 s x0 S1 K1 R => q _ _ s ?_ R⟩
  refine toldA (N := 0) rfl hsv h60 S1 K1 fun τ2 ns2 B2 z2 S2 K2 => ?_
  refine toldB (N := 0) rfl hnv hN B2 z2 S2 K2 fun τ3 ns3 B3 z3 S3 K3 => ?_
  have h5 : (gOf ns3).length ≤ 5 := by
    have := len_le B3.nd (m := N) fun z hz => by
      rcases List.mem_append.mp ((B3.keys z).mp hz) with h | h
      · obtain ⟨e, he, h⟩ := List.mem_flatMap.mp h
        rcases List.mem_cons.mp h with rfl | h
        · exact (hin e he).2
        · rw [List.mem_singleton.mp h]; exact (hin e he).1
      · exact h
    rw [List.length_map] at this
    omega
  refine toldC rfl B3 z3 LV1 S3 K3 fun τ4 ra free S4 K4 c2 => ?_
  refine toldD rfl rfl (D1.cells late_cell K4 l) B3 h5 S4 fun τ5 β5 ns5 hp hv5 K5 ka nh st5 ki5 eh5 hd5 hl5 nd5 => ?_
  refine toldE ka nh st5 ki5 eh5 hd5 hl5 nd5 fun τ6 oa hv6 I6 => ?_
  refine toldF rfl rfl rfl (D1.cells late_cell (K4.trans K5) l) B3 h60 h5 I6 fun τ7 ov ord hgr hov eo no K7 ol s R => ?_
  have K57 : Keep2 τ τ7 := K4.trans (K5.trans K7)
  refine vcS_ok 1 _ [] τ7 _ s ?_ R
  refine fun d n1 n2 s R => ?_
  have hd7 : oa ≠ d := ne_of_none eo n1
  have R1 := R.tag (t' := 0) ((upd_ne hd7).trans eo)
  have K8 : Keep2 β5 (upd (upd τ7 d (.ls 0 [.bool free, .ref oa])) oa (.ls 0 ov)) := (K7.trans (Keep2.fresh n1)).turn no
  exact hq (.ref d) (.list [.bool free, dI ord]) _ _ s (hK _ ord free B3 hgr c2) (D.up.trans (K4.trans (K5.trans K8))) ⟨d, _, rfl, (upd_ne (Ne.symm hd7)).trans upd_self, rfl, ⟨oa, ov, rfl, upd_self, Dns.ints.mpr hov⟩, trivial⟩ R1
end
end Mine

namespace Mine
inductive Tg (es : List (Int × Int)) : Int → Int → Prop where
  | one {a b : Int} : (a, b) ∈ es → Tg es a b
  | more {a b d : Int} : Tg es a b → (b, d) ∈ es → Tg es a d
theorem Tg.trans {es : List (Int × Int)} {a b d : Int} (h : Tg es a b) (k : Tg es b d) : Tg es a d := by
  induction k with
  | one h2 => exact .more h h2
  | more _ h2 ih => exact .more ih h2
theorem Tg.ends {es : List (Int × Int)} {N : List Int} (hin : ∀ e ∈ es, e.1 ∈ N ∧ e.2 ∈ N) {a b : Int} (h : Tg es a b) : a ∈ N ∧ b ∈ N := by
  induction h with
  | one h2 => exact hin _ h2
  | more _ h2 ih => exact ⟨ih.1, (hin _ h2).2⟩
/- the joined steps -/
theorem mem_jB {a m b : Int} {J : List (Int × Int)} {x : Int × Int} : x ∈ jB a m J b ↔ x ∈ J ∨ (x = (a, b) ∧ (m, b) ∈ J) := by
  unfold jB
  split
  · rename_i h
    rw [List.mem_append, List.mem_singleton]
    exact ⟨fun q => q.imp id fun q => ⟨q, h.1⟩, fun q => q.imp id fun q => q.1⟩
  · rename_i h
    refine ⟨.inl, fun q => q.elim id fun ⟨q1, q2⟩ => ?_⟩
    subst q1
    exact Classical.byContradiction fun z => h ⟨q2, z⟩
theorem mem_fB {a m : Int} {x : Int × Int} : ∀ {L : List Int} {J : List (Int × Int)}, x ∈ L.foldl (jB a m) J ↔ x ∈ J ∨ ∃ b ∈ L, x = (a, b) ∧ (m, b) ∈ J
  | [], J => by simp
  | b :: L, J => by
    have st : ∀ b', (m, b') ∈ jB a m J b ↔ (m, b') ∈ J := fun b' => by
      rw [mem_jB]
      refine ⟨fun q => q.elim id fun ⟨q1, q2⟩ => ?_, .inl⟩
      injection q1 with _ q1
      exact q1 ▸ q2
    rw [List.foldl_cons, mem_fB, mem_jB]
    constructor
    · rintro ((h | ⟨h1, h2⟩) | ⟨b', h1, h2, h3⟩)
      · exact .inl h
      · exact .inr ⟨b, .head _, h1, h2⟩
      · exact .inr ⟨b', .tail _ h1, h2, (st b').mp h3⟩
    · rintro (h | ⟨b', h1, h2, h3⟩)
      · exact .inl (.inl h)
      · rcases List.mem_cons.mp h1 with rfl | h1
        · exact .inl (.inr ⟨h2, h3⟩)
        · exact .inr ⟨b', h1, h2, (st b').mpr h3⟩
theorem mem_jA {N : List Int} {m a : Int} {J : List (Int × Int)} {x : Int × Int} : x ∈ jA N m J a ↔ x ∈ J ∨ ((a, m) ∈ J ∧ ∃ b ∈ N, x = (a, b) ∧ (m, b) ∈ J) := by
  unfold jA
  split
  · rename_i h
    rw [mem_fB]
    exact ⟨fun q => q.imp id fun q => ⟨h, q⟩, fun q => q.imp id fun q => q.2⟩
  · rename_i h
    exact ⟨.inl, fun q => q.elim id fun q => absurd q.1 h⟩
theorem mem_fA {N : List Int} {m : Int} {x : Int × Int} : ∀ {L : List Int} {J : List (Int × Int)}, x ∈ L.foldl (jA N m) J ↔ x ∈ J ∨ ∃ a ∈ L, (a, m) ∈ J ∧ ∃ b ∈ N, x = (a, b) ∧ (m, b) ∈ J
  | [], J => by simp
  | a :: L, J => by
    have s1 : ∀ a', (a', m) ∈ jA N m J a ↔ (a', m) ∈ J := fun a' => by
      rw [mem_jA]
      refine ⟨fun q => q.elim id fun ⟨q1, b, _, q2, _⟩ => ?_, .inl⟩
      injection q2 with q2 _
      exact q2 ▸ q1
    have s2 : ∀ b, (m, b) ∈ jA N m J a ↔ (m, b) ∈ J := fun b => by
      rw [mem_jA]
      refine ⟨fun q => q.elim id fun ⟨_, b', _, q2, q3⟩ => ?_, .inl⟩
      injection q2 with _ q2
      exact q2 ▸ q3
    rw [List.foldl_cons, mem_fA, mem_jA]
    constructor
    · rintro ((h | ⟨h1, h2⟩) | ⟨a', h1, h2, b, h3, h4, h5⟩)
      · exact .inl h
      · exact .inr ⟨a, .head _, h1, h2⟩
      · exact .inr ⟨a', .tail _ h1, (s1 a').mp h2, b, h3, h4, (s2 b).mp h5⟩
    · rintro (h | ⟨a', h1, h2, b, h3, h4, h5⟩)
      · exact .inl (.inl h)
      · rcases List.mem_cons.mp h1 with rfl | h1
        · exact .inl (.inr ⟨h2, b, h3, h4, h5⟩)
        · exact .inr ⟨a', h1, (s1 a').mpr h2, b, h3, h4, (s2 b).mpr h5⟩
theorem mem_jM {N : List Int} {m : Int} {J : List (Int × Int)} {a b : Int} (hin : ∀ e ∈ J, e.1 ∈ N ∧ e.2 ∈ N) : (a, b) ∈ jM N J m ↔ (a, b) ∈ J ∨ ((a, m) ∈ J ∧ (m, b) ∈ J) := by
  unfold jM
  rw [mem_fA]
  constructor
  · rintro (h | ⟨a', h1, h2, b', h3, h4, h5⟩)
    · exact .inl h
    · injection h4 with h6 h7
      subst h6 h7
      exact .inr ⟨h2, h5⟩
  · rintro (h | ⟨h1, h2⟩)
    · exact .inl h
    · exact .inr ⟨a, (hin _ h1).1, h1, b, (hin _ h2).2, rfl, h2⟩
theorem jAll_go {N : List Int} {es : List (Int × Int)} (hes : ∀ e ∈ es, e.1 ∈ N ∧ e.2 ∈ N) : ∀ (L D : List Int) (J : List (Int × Int)), (∀ e ∈ J, e.1 ∈ N ∧ e.2 ∈ N) → (∀ e ∈ J, Tg es e.1 e.2) → (∀ e ∈ es, e ∈ J) → (∀ m ∈ D, ∀ a b, (a, m) ∈ J → (m, b) ∈ J → (a, b) ∈ J) →
    (∀ e ∈ L.foldl (jM N) J, Tg es e.1 e.2) ∧ (∀ e ∈ es, e ∈ L.foldl (jM N) J) ∧ (∀ m ∈ D ++ L, ∀ a b, (a, m) ∈ L.foldl (jM N) J → (m, b) ∈ L.foldl (jM N) J → (a, b) ∈ L.foldl (jM N) J)
  | [], D, J, h1, h2, h3, h4 => ⟨h2, h3, by rwa [List.append_nil]⟩
  | m :: L, D, J, h1, h2, h3, h4 => by
    have mm := fun a b => mem_jM (m := m) (a := a) (b := b) h1
    have := jAll_go hes L (D ++ [m]) (jM N J m) (fun e he => ?_) (fun e he => ?_) (fun e he => ?_) (fun k hk a b q1 q2 => ?_)
    · rw [List.append_assoc] at this
      exact this
    · rcases (mm e.1 e.2).mp he with h | ⟨q1, q2⟩
      · exact h1 _ h
      · exact ⟨(h1 _ q1).1, (h1 _ q2).2⟩
    · rcases (mm e.1 e.2).mp he with h | ⟨q1, q2⟩
      · exact h2 _ h
      · exact (h2 _ q1).trans (h2 _ q2)
    · exact (mm e.1 e.2).mpr (.inl (h3 e he))
    · rw [mm] at q1 q2 ⊢
      rcases List.mem_append.mp hk with hk | hk
      · have c := h4 k hk
        rcases q1 with q1 | ⟨q1, q1'⟩ <;> rcases q2 with q2 | ⟨q2, q2'⟩
        · exact .inl (c _ _ q1 q2)
        · exact .inr ⟨c _ _ q1 q2, q2'⟩
        · exact .inr ⟨q1, c _ _ q1' q2⟩
        · exact .inr ⟨q1, q2'⟩
      · obtain rfl := List.mem_singleton.mp hk
        rcases q1 with q1 | ⟨q1, q1'⟩ <;> rcases q2 with q2 | ⟨q2, q2'⟩
        · exact .inr ⟨q1, q2⟩
        · exact .inr ⟨q1, q2'⟩
        · exact .inr ⟨q1, q2⟩
        · exact .inr ⟨q1, q2'⟩
theorem mem_jAll {N : List Int} {es : List (Int × Int)} (hes : ∀ e ∈ es, e.1 ∈ N ∧ e.2 ∈ N) {a b : Int} : (a, b) ∈ jAll N es ↔ Tg es a b := by
  obtain ⟨h1, h2, h3⟩ := jAll_go hes N [] es hes (fun e he => .one he) (fun _ h => h) nofun
  refine ⟨fun h => h1 _ h, fun h => ?_⟩
  induction h with
  | one h => exact h2 _ h
  | @more b d hab hbd ih => exact h3 b (by rw [List.nil_append]; exact (hab.ends hes).2) _ _ ih (h2 _ hbd)
/- who may come -/
noncomputable def Prd (es : List (Int × Int)) (V p : List Int) (y : Int) : Prop := y ∈ V ∧ y ∉ p ∧ ∀ e ∈ es, e.2 = y → e.1 ∈ p
structure Gr (es : List (Int × Int)) (V : List Int) (lt : Int) (ord : List Int) : Prop where
  av : ∀ p y q, ord = p ++ y :: q → Prd es V p y
  min : ∀ p y q, ord = p ++ y :: q → ∀ z, Prd es V p z → z ≠ y → ltT lt y z = true
  stop : ∀ z, ¬ Prd es V ord z
theorem mem_sc {es : List (Int × Int)} {V : List Int} {G : List Gn} (B : BG es V G) {a b : Int} : b ∈ scOf G a ↔ (a, b) ∈ es := by
  rw [B.sc, List.mem_map]
  constructor
  · rintro ⟨⟨x, y⟩, h1, rfl⟩
    obtain ⟨h1, h2⟩ := List.mem_filter.mp h1
    have : x = a := by simpa using h2
    exact this ▸ h1
  · exact fun h => ⟨(a, b), List.mem_filter.mpr ⟨h, by simp⟩, rfl⟩
theorem av_iff {es : List (Int × Int)} {V V' : List Int} {G : List Gn} {p : List Int} {y : Int} (B : BG es V' G) (hV : ∀ z, z ∈ V' ↔ z ∈ V) : Av G p y ↔ Prd es V p y := by
  unfold Av Prd
  rw [B.keys, hV, remG_zero]
  exact and_congr_right fun h1 => and_congr_right fun h2 => ⟨fun h e he q => h e.1 ((B.keys _).mpr (B.end1 e he)) ((mem_sc B).mpr (q ▸ he)), fun h x hx hz => h (x, y) ((mem_sc B).mp hz) rfl⟩
theorem gr_of {es : List (Int × Int)} {V V' : List Int} {G : List Gn} {lt : Int} {ord : List Int} (B : BG es V' G) (hV : ∀ z, z ∈ V' ↔ z ∈ V) (h : Greedy G (ltT lt) ord) : Gr es V lt ord :=
  ⟨fun p y q e => (av_iff B hV).mp (h.1 p y q e).1, fun p y q e z hz hne => (h.1 p y q e).2 z ((av_iff B hV).mpr hz) hne, fun z hz => h.2 z ((av_iff B hV).mpr hz)⟩
theorem nd_of : ∀ (os p : List Int), p.Nodup → (∀ a y q, os = a ++ y :: q → y ∉ p ++ a) → (p ++ os).Nodup
  | [], p, h, _ => by rwa [List.append_nil]
  | y :: os, p, h, k => by
    have hy : y ∉ p := fun q => k [] y os rfl (List.mem_append_left _ q)
    rw [List.append_cons]
    refine nd_of os (p ++ [y]) (List.nodup_append.mpr ⟨h, by simp, fun a ha b hb e => ?_⟩) fun a z q e => ?_
    · rw [List.mem_singleton.mp hb] at e
      exact hy (e ▸ ha)
    · have := k (y :: a) z q (by rw [e]; rfl)
      rwa [List.append_cons] at this
theorem idx_at {p q : List Int} {y : Int} (h : y ∉ p) : (p ++ y :: q).idxOf y = p.length := by
  rw [List.idxOf_append, if_neg h, List.idxOf_cons_self, Nat.zero_add]
theorem notin {o p q : List Int} {y : Int} (nd : o.Nodup) (e : o = p ++ y :: q) : y ∉ p := fun h => (List.nodup_append.mp (e ▸ nd)).2.2 y h y (.head _) rfl
theorem idx_lt {o p q : List Int} {x y : Int} (nd : o.Nodup) (e : o = p ++ y :: q) : o.idxOf x < o.idxOf y ↔ x ∈ p := by
  have hy := notin nd e
  subst e
  rw [idx_at hy, List.idxOf_append]
  split
  · rename_i h; exact ⟨fun _ => h, fun _ => List.idxOf_lt_length_of_mem h⟩
  · rename_i h; exact ⟨fun q => absurd q (Nat.not_lt.mpr (Nat.le_add_left ..)), fun q => absurd q h⟩
theorem aheadP_iff {o : List Int} {p : Int × Int} : aheadP o p = true ↔ o.idxOf p.1 < o.idxOf p.2 := by unfold aheadP; rw [decide_eq_true_iff]; exact Int.ofNat_lt
/- rings -/
theorem FinOk.succ {G : List Gn} {y z : Int} (hz : z ∈ scOf G y) : ∀ {fin : List Int}, FinOk G fin → y ∈ fin → z ∈ fin
  | a :: r, h, hy => by
    rcases List.mem_cons.mp hy with rfl | hy
    · exact .tail _ (h.1 z hz)
    · exact .tail _ (FinOk.succ hz h.2 hy)
theorem fin_ring {G : List Gn} {S : Int → Prop} {k : Int} (hk : S k) (hp : ∀ z, S z → ∃ y, S y ∧ z ∈ scOf G y) : ∀ {fin : List Int}, FinOk G fin → (∀ z, S z → z ∈ fin) → False
  | [], _, h => by cases h k hk
  | a :: r, f, h => fin_ring hk hp f.2 fun z hz => by
    obtain ⟨y, hy, hyz⟩ := hp z hz
    rcases List.mem_cons.mp (h y hy) with rfl | hyr
    · exact f.1 z hyz
    · exact FinOk.succ hyz f.2 hyr
theorem chn_tg {es : List (Int × Int)} {R : Int → Int → Prop} (hR : ∀ a b, R a b → (a, b) ∈ es) : ∀ {l : List Int} {a z : Int}, Chn R (a :: (l ++ [z])) → Tg es a z
  | [], a, z, h => .one (hR _ _ h.1)
  | b :: l, a, z, h => (Tg.one (hR _ _ h.1)).trans (chn_tg (l := l) hR h.2)
section
variable {es : List (Int × Int)} {V V' : List Int} {G : List Gn}
theorem acyc_tg (B : BG es V' G) (h : Acyc G) (k : Int) : ¬ Tg es k k := fun hk => by
  obtain ⟨fin, hf, hg⟩ := h
  have hend : ∀ e ∈ es, e.1 ∈ V' ∧ e.2 ∈ V' := fun e he => ⟨B.end1 e he, B.end2 e he⟩
  refine fin_ring (S := fun z => Tg es k z ∧ Tg es z k) ⟨hk, hk⟩ (fun z hz => ?_) hf fun z hz => ?_
  · obtain ⟨h1, h2⟩ := hz
    cases h1 with
    | one h => exact ⟨k, ⟨hk, hk⟩, (mem_sc B).mpr h⟩
    | more h1 h3 => exact ⟨_, ⟨h1, (Tg.one h3).trans h2⟩, (mem_sc B).mpr h3⟩
  · obtain ⟨g, h1, rfl⟩ := List.mem_map.mp ((B.keys z).mpr (hz.1.ends hend).2)
    exact hg g h1
theorem ring_tg (B : BG es V' G) {r : List Int} (h : Ring G r) : ∃ k, Tg es k k := by
  obtain ⟨k, q, rfl, _, ch⟩ := h
  exact ⟨k, chn_tg (fun a b h => (mem_sc B).mp h) ch⟩
end
noncomputable def rgB (J : List (Int × Int)) (m n : Int) : Bool := decide ((m, m) ∈ J) && decide ((m, n) ∈ J)
noncomputable def cmB (N : List Int) (J : List (Int × Int)) (n : Int) : Bool := (N.filter fun m => rgB J m n).isEmpty
noncomputable def cmL (N : List Int) (J : List (Int × Int)) : List Int := N.filter (cmB N J)
theorem filt_lt {α : Type} {p q : α → Bool} {x : α} : ∀ {l : List α}, (∀ y ∈ l, p y = true → q y = true) → x ∈ l → p x = false → q x = true → (l.filter p).length < (l.filter q).length := by
  have le : ∀ {l : List α}, (∀ y ∈ l, p y = true → q y = true) → (l.filter p).length ≤ (l.filter q).length := fun {l} => by
    induction l with
    | nil => exact fun _ => Nat.le_refl _
    | cons a l ih =>
      intro h
      have := ih fun y hy => h y (.tail _ hy)
      have ha := h a (.head _)
      rw [List.filter_cons, List.filter_cons]
      cases e1 : p a with
      | true => rw [ha e1, if_pos rfl, if_pos rfl]; exact Nat.succ_le_succ this
      | false =>
        rw [if_neg (by decide)]
        split
        · exact Nat.le_succ_of_le this
        · exact this
  intro l
  induction l with
  | nil => intro _ h; cases h
  | cons a l ih =>
    intro h hx h1 h2
    have hl : ∀ y ∈ l, p y = true → q y = true := fun y hy => h y (.tail _ hy)
    rw [List.filter_cons, List.filter_cons]
    rcases List.mem_cons.mp hx with rfl | hx
    · rw [if_neg (by rw [h1]; decide), if_pos h2]
      exact Nat.lt_succ_of_le (le hl)
    · have := ih hl hx h1 h2
      cases e1 : p a with
      | true => rw [h a (.head _) e1, if_pos rfl, if_pos rfl]; exact Nat.succ_lt_succ this
      | false =>
        rw [if_neg (by decide)]
        split
        · exact Nat.lt_succ_of_lt this
        · exact this
section
variable {es : List (Int × Int)} {N : List Int} (hes : ∀ e ∈ es, e.1 ∈ N ∧ e.2 ∈ N)
include hes
theorem mem_cmL {n : Int} : n ∈ cmL N (jAll N es) ↔ n ∈ N ∧ ∀ m, Tg es m m → ¬ Tg es m n := by
  unfold cmL
  rw [List.mem_filter]
  refine and_congr_right fun hn => ?_
  unfold cmB
  rw [List.isEmpty_iff, List.filter_eq_nil_iff]
  constructor
  · intro h m h1 h2
    refine h m (h1.ends hes).1 ?_
    unfold rgB
    rw [decide_eq_true ((mem_jAll hes).mpr h1), decide_eq_true ((mem_jAll hes).mpr h2)]; rfl
  · intro h m _ q
    unfold rgB at q
    obtain ⟨q1, q2⟩ := and2 q
    exact h m ((mem_jAll hes).mp (of_decide_eq_true q1)) ((mem_jAll hes).mp (of_decide_eq_true q2))
theorem cm_no {n : Int} (h : n ∈ cmL N (jAll N es)) : ¬ Tg es n n := fun q => ((mem_cmL hes).mp h).2 n q q
theorem cm_up {x n : Int} (h : n ∈ cmL N (jAll N es)) (t : Tg es x n) : x ∈ cmL N (jAll N es) := (mem_cmL hes).mpr ⟨(t.ends hes).1, fun m h1 h2 => ((mem_cmL hes).mp h).2 m h1 (h2.trans t)⟩
theorem cm_free {G : List Gn} {V' : List Int} (B : BG es V' G) {free : Bool} (h : (free = true ∧ Acyc G) ∨ (free = false ∧ ∃ r, Ring G r)) : free = decide ((cmL N (jAll N es)).length = N.length) := by
  rcases h with ⟨rfl, h⟩ | ⟨rfl, r, h⟩
  · refine (decide_eq_true ?_).symm
    have : cmL N (jAll N es) = N := List.filter_eq_self.mpr fun n hn => by
      have : n ∈ cmL N (jAll N es) := (mem_cmL hes).mpr ⟨hn, fun m h1 => absurd h1 (acyc_tg B h m)⟩
      exact (List.mem_filter.mp this).2
    rw [this]
  · refine (decide_eq_false ?_).symm
    obtain ⟨k, hk⟩ := ring_tg B h
    have h1 := (hk.ends hes).1
    have h2 : cmB N (jAll N es) k = false := by
      cases e : cmB N (jAll N es) k with
      | false => rfl
      | true => exact absurd hk (cm_no hes (List.mem_filter.mpr ⟨h1, e⟩))
    have := filt_lt (p := cmB N (jAll N es)) (q := fun _ => true) (l := N) (fun _ _ _ => rfl) h1 h2 rfl
    have e : N.filter (fun _ => true) = N := List.filter_eq_self.mpr fun _ _ => rfl
    rw [e] at this
    exact Nat.ne_of_lt this
end
section
variable {es : List (Int × Int)} {N : List Int} {lt : Int} {ord : List Int}
theorem Gr.nd {V : List Int} (g : Gr es V lt ord) : ord.Nodup := nd_of ord [] .nil fun a y q e => by rw [List.nil_append]; exact (g.av a y q e).2.1
theorem Gr.sub {V : List Int} (g : Gr es V lt ord) : ∀ y ∈ ord, y ∈ V := fun y hy => by
  obtain ⟨p, q, e⟩ := List.append_of_mem hy
  exact (g.av p y q e).1
theorem Gr.tg {V : List Int} (g : Gr es V lt ord) {a b : Int} (h : Tg es a b) : b ∈ ord → a ∈ ord ∧ ord.idxOf a < ord.idxOf b := by
  have one : ∀ {a b}, (a, b) ∈ es → b ∈ ord → a ∈ ord ∧ ord.idxOf a < ord.idxOf b := fun {a b} h hb => by
    obtain ⟨p, q, e⟩ := List.append_of_mem hb
    have := (g.av p b q e).2.2 _ h rfl
    exact ⟨by rw [e]; exact List.mem_append_left _ this, (idx_lt g.nd e).mpr this⟩
  induction h with
  | one h => exact one h
  | more _ h ih =>
    intro hb
    obtain ⟨h1, h2⟩ := one h hb
    obtain ⟨h3, h4⟩ := ih h1
    exact ⟨h3, Nat.lt_trans h4 h2⟩
variable (hes : ∀ e ∈ es, e.1 ∈ N ∧ e.2 ∈ N)
include hes
theorem Gr.mem (g : Gr es N lt ord) {z : Int} : z ∈ ord ↔ z ∈ cmL N (jAll N es) := by
  constructor
  · intro hz
    refine (mem_cmL hes).mpr ⟨g.sub z hz, fun m h1 h2 => ?_⟩
    have hm := (g.tg h2 hz).1
    exact Nat.lt_irrefl _ (g.tg h1 hm).2
  · intro hz
    have go : ∀ (k : Nat) (z : Int), z ∈ cmL N (jAll N es) → ((cmL N (jAll N es)).filter fun w => decide ((w, z) ∈ jAll N es)).length = k → z ∈ ord := by
      intro k
      induction k using Nat.strongRecOn with
      | _ k ih =>
        intro z hz hk
        refine Classical.byContradiction fun hn => ?_
        obtain ⟨e, he, rfl, h2⟩ : ∃ e ∈ es, e.2 = z ∧ e.1 ∉ ord := Classical.byContradiction fun h => g.stop z ⟨((mem_cmL hes).mp hz).1, hn, fun e he q => Classical.byContradiction fun k => h ⟨e, he, q, k⟩⟩
        have t : Tg es e.1 e.2 := .one he
        have hx := cm_up hes hz t
        refine h2 (ih _ ?_ e.1 hx rfl)
        rw [← hk]
        refine filt_lt (x := e.1) (fun y _ h => ?_) hx ?_ ?_
        · exact decide_eq_true ((mem_jAll hes).mpr (((mem_jAll hes).mp (of_decide_eq_true h)).trans t))
        · exact decide_eq_false fun q => cm_no hes hx ((mem_jAll hes).mp q)
        · exact decide_eq_true ((mem_jAll hes).mpr t)
    exact go _ z hz rfl
theorem cmL_nd (hN : N.Nodup) : (cmL N (jAll N es)).Nodup := hN.filter _
theorem Gr.perm (hN : N.Nodup) (g : Gr es N lt ord) : ord.Perm (cmL N (jAll N es)) := (List.perm_ext_iff_of_nodup g.nd (cmL_nd hes hN)).mpr fun z => g.mem hes
theorem Gr.late (g : Gr es N lt ord) {p q : List Int} (e : ord = p ++ lt :: q) {z : Int} : z ∈ q ↔ z ∈ cmL N (jAll N es) ∧ Tg es lt z := by
  constructor
  · intro hz
    have hz' : z ∈ ord := by rw [e]; simp [hz]
    refine ⟨(g.mem hes).mp hz', ?_⟩
    have go : ∀ (k : Nat) (q1 q2 : List Int) (z : Int), q1.length = k → q = q1 ++ z :: q2 → Tg es lt z := by
      intro k
      induction k using Nat.strongRecOn with
      | _ k ih =>
        intro q1 q2 z hk hq
        have eo : ord = (p ++ lt :: q1) ++ z :: q2 := by rw [e, hq, List.append_assoc]; rfl
        have hz := g.av _ _ _ eo
        have hne : z ≠ lt := fun h => hz.2.1 (by rw [h]; simp)
        obtain ⟨x, hx, hxz, hn⟩ : ∃ x ∈ es, x.2 = z ∧ x.1 ∉ p := Classical.byContradiction fun h => by
          have := g.min p lt q e z ⟨hz.1, fun h => hz.2.1 (List.mem_append_left _ h), fun x hx hxz => Classical.byContradiction fun k => h ⟨x, hx, hxz, k⟩⟩ hne
          unfold ltT itm at this
          rw [if_pos rfl, if_neg hne] at this
          cases this
        have := hz.2.2 x hx hxz
        have hx : (x.1, z) ∈ es := hxz ▸ hx
        rcases List.mem_append.mp this with h | h
        · exact absurd h hn
        · rcases List.mem_cons.mp h with h | h
          · exact .one (h ▸ hx)
          · obtain ⟨a, b, hab⟩ := List.append_of_mem h
            exact .more (ih a.length (by rw [← hk, hab]; simp) a (b ++ z :: q2) x.1 rfl (by rw [hq, hab, List.append_assoc]; rfl)) hx
    obtain ⟨q1, q2, hq⟩ := List.append_of_mem hz
    exact go _ q1 q2 z rfl hq
  · rintro ⟨h1, h2⟩
    have h3 := g.tg h2 ((g.mem hes).mpr h1)
    have hzo := (g.mem hes).mpr h1
    rw [e] at hzo
    rcases List.mem_append.mp hzo with h | h
    · have := (idx_lt g.nd e (x := z)).mpr h
      exact absurd h3.2 (Nat.not_lt_of_gt this)
    · rcases List.mem_cons.mp h with h | h
      · rw [h] at h3; exact absurd h3.2 (Nat.lt_irrefl _)
      · exact h
end
/- the orders are kept apart by the pairs -/
theorem keep_all : ∀ (os : List (List Int)) (ps : List (Int × Int)), os.foldl (fun ps o => ps.filter (aheadP o)) ps = ps.filter fun p => os.all fun o => aheadP o p
  | [], ps => (List.filter_eq_self.mpr fun _ _ => rfl).symm
  | o :: os, ps => by
    rw [List.foldl_cons, keep_all os, List.filter_filter]
    congr 1
    funext p
    rw [List.all_cons, Bool.and_comm]
noncomputable def neB (C : List Int) (K : List (Int × Int)) (p : Int × Int) : Bool := (C.filter fun n => decide ((p.1, n) ∈ K) && decide ((n, p.2) ∈ K)).isEmpty
noncomputable def pairL (C : List Int) : List (Int × Int) := C.flatMap fun a => C.flatMap fun b => if a ≠ b then [(a, b)] else []
theorem mem_pairL {C : List Int} {a b : Int} : (a, b) ∈ pairL C ↔ a ∈ C ∧ b ∈ C ∧ a ≠ b := by
  unfold pairL
  rw [List.mem_flatMap]
  constructor
  · rintro ⟨a', h1, h2⟩
    obtain ⟨b', h3, h4⟩ := List.mem_flatMap.mp h2
    by_cases q : a' ≠ b'
    · rw [if_pos q] at h4
      cases List.mem_singleton.mp h4
      exact ⟨h1, h3, q⟩
    · rw [if_neg q] at h4; cases h4
  · rintro ⟨h1, h2, h3⟩
    exact ⟨a, h1, List.mem_flatMap.mpr ⟨b, h2, by rw [if_pos h3]; exact .head _⟩⟩
section
variable {es : List (Int × Int)} {N : List Int} (hes : ∀ e ∈ es, e.1 ∈ N ∧ e.2 ∈ N)
include hes
theorem kept_eq {os : List (List Int)} (hN : N.Nodup) (hos : ∀ o ∈ os, ∃ lt, Gr es N lt o) (hall : ∀ a ∈ N, ∃ o ∈ os, Gr es N a o) : os.foldl (fun ps o => ps.filter (aheadP o)) (pairL (cmL N (jAll N es))) = (pairL (cmL N (jAll N es))).filter fun p => decide (p ∈ jAll N es) := by
  rw [keep_all]
  refine List.filter_congr fun p hp => ?_
  obtain ⟨a, b⟩ := p
  obtain ⟨ha, hb, hab⟩ := mem_pairL.mp hp
  rw [Bool.eq_iff_iff, List.all_eq_true, decide_eq_true_iff, mem_jAll hes]
  constructor
  · intro h
    obtain ⟨o, ho, g⟩ := hall a ((mem_cmL hes).mp ha).1
    obtain ⟨p, q, e⟩ := List.append_of_mem ((g.mem hes).mpr ha)
    have h1 := aheadP_iff.mp (h o ho)
    have hbo := (g.mem hes).mpr hb
    have : b ∈ q := by
      rw [e] at hbo
      rcases List.mem_append.mp hbo with h2 | h2
      · exact absurd h1 (Nat.not_lt_of_gt ((idx_lt g.nd e (x := b)).mpr h2))
      · exact (List.mem_cons.mp h2).resolve_left fun z => hab z.symm
    exact ((g.late hes e).mp this).2
  · intro h o ho
    obtain ⟨lt, g⟩ := hos o ho
    exact aheadP_iff.mpr (g.tg h ((g.mem hes).mpr hb)).2
noncomputable def kpL (N : List Int) (es : List (Int × Int)) : List (Int × Int) := (pairL (cmL N (jAll N es))).filter fun p => decide (p ∈ jAll N es)
noncomputable def nrL (N : List Int) (es : List (Int × Int)) : List (Int × Int) := (kpL N es).filter (neB (cmL N (jAll N es)) (kpL N es))
omit hes in
theorem mem_kpL' {a b : Int} : (a, b) ∈ kpL N es ↔ (a ∈ cmL N (jAll N es) ∧ b ∈ cmL N (jAll N es) ∧ a ≠ b) ∧ (a, b) ∈ jAll N es := by
  unfold kpL
  rw [List.mem_filter, mem_pairL, decide_eq_true_iff]
theorem mem_kpL {a b : Int} : (a, b) ∈ kpL N es ↔ b ∈ cmL N (jAll N es) ∧ Tg es a b := by
  rw [mem_kpL', mem_jAll hes]
  refine ⟨fun h => ⟨h.1.2.1, h.2⟩, fun h => ⟨⟨cm_up hes h.1 h.2, h.1, fun e => ?_⟩, h.2⟩⟩
  subst e
  exact cm_no hes h.1 h.2
theorem mem_nrL {a b : Int} : (a, b) ∈ nrL N es ↔ (b ∈ cmL N (jAll N es) ∧ Tg es a b) ∧ ∀ n, Tg es a n → ¬ Tg es n b := by
  unfold nrL
  rw [List.mem_filter, mem_kpL hes]
  refine and_congr_right fun hk => ?_
  unfold neB
  rw [List.isEmpty_iff, List.filter_eq_nil_iff]
  constructor
  · intro h n h1 h2
    have hn := cm_up hes hk.1 h2
    refine h n hn ?_
    rw [decide_eq_true ((mem_kpL hes).mpr ⟨hn, h1⟩), decide_eq_true ((mem_kpL hes).mpr ⟨hk.1, h2⟩)]; rfl
  · intro h n _ q
    obtain ⟨q1, q2⟩ := and2 q
    exact h n ((mem_kpL hes).mp (of_decide_eq_true q1)).2 ((mem_kpL hes).mp (of_decide_eq_true q2)).2
theorem nr_ends : ∀ e ∈ (nrL N es).reverse, e.1 ∈ cmL N (jAll N es) ∧ e.2 ∈ cmL N (jAll N es) := fun e he => by
  have := (mem_nrL hes (a := e.1) (b := e.2)).mp (List.mem_reverse.mp he)
  exact ⟨cm_up hes this.1.1 this.1.2, this.1.1⟩
theorem nr_tg {a b : Int} (h : Tg (nrL N es).reverse a b) : b ∈ cmL N (jAll N es) ∧ Tg es a b := by
  induction h with
  | one h => exact ((mem_nrL hes).mp (List.mem_reverse.mp h)).1
  | more _ h ih =>
    have := ((mem_nrL hes).mp (List.mem_reverse.mp h)).1
    exact ⟨this.1, ih.2.trans this.2⟩
theorem nr_free {G : List Gn} {V' : List Int} (B : BG (nrL N es).reverse V' G) {free : Bool} (h : (free = true ∧ Acyc G) ∨ (free = false ∧ ∃ r, Ring G r)) : free = true := by
  rcases h with ⟨h, _⟩ | ⟨_, r, h⟩
  · exact h
  · obtain ⟨k, hk⟩ := ring_tg B h
    have := nr_tg hes hk
    exact absurd this.2 (cm_no hes this.1)
theorem prd_iff {p : List Int} (h1 : ∀ z ∈ p, z ∈ cmL N (jAll N es)) (h2 : ∀ z ∈ p, ∀ x, Tg es x z → x ∈ p) {y : Int} : Prd es N p y ↔ Prd (nrL N es).reverse (cmL N (jAll N es)) p y := by
  constructor
  · rintro ⟨a1, a2, a3⟩
    have up : ∀ {x}, Tg es x y → x ∈ p := fun {x} h => by
      cases h with
      | one h => exact a3 _ h rfl
      | more h h3 => exact h2 _ (a3 _ h3 rfl) _ h
    refine ⟨(mem_cmL hes).mpr ⟨a1, fun m q1 q2 => ?_⟩, a2, fun e he hy => ?_⟩
    · exact cm_no hes (h1 m (up q2)) q1
    · subst hy
      exact up ((mem_nrL hes (a := e.1) (b := e.2)).mp (List.mem_reverse.mp he)).1.2
  · rintro ⟨a1, a2, a3⟩
    have go : ∀ (k : Nat) (x : Int), Tg es x y → ((cmL N (jAll N es)).filter fun w => decide ((x, w) ∈ jAll N es)).length = k → x ∈ p := by
      intro k
      induction k using Nat.strongRecOn with
      | _ k ih =>
        intro x hx hk
        by_cases hn : ∃ n, Tg es x n ∧ Tg es n y
        · obtain ⟨n, q1, q2⟩ := hn
          have hnC := cm_up hes a1 q2
          have hnp : n ∈ p := by
            refine ih _ ?_ n q2 rfl
            rw [← hk]
            refine filt_lt (x := n) (fun w _ h => ?_) hnC ?_ ?_
            · exact decide_eq_true ((mem_jAll hes).mpr (q1.trans ((mem_jAll hes).mp (of_decide_eq_true h))))
            · exact decide_eq_false fun q => cm_no hes hnC ((mem_jAll hes).mp q)
            · exact decide_eq_true ((mem_jAll hes).mpr q1)
          exact h2 n hnp x q1
        · exact a3 (x, y) (List.mem_reverse.mpr ((mem_nrL hes).mpr ⟨⟨a1, hx⟩, fun n q1 q2 => hn ⟨n, q1, q2⟩⟩)) rfl
    exact ⟨((mem_cmL hes).mp a1).1, a2, fun e he hy => by subst hy; exact go _ e.1 (.one he) rfl⟩
theorem gr_same {lt : Int} {ord ord' : List Int} (g : Gr es N lt ord) (g' : Gr (nrL N es).reverse (cmL N (jAll N es)) lt ord') : ord = ord' := by
  have go : ∀ (u v a : List Int), ord = a ++ u → ord' = a ++ v → u = v := by
    intro u
    induction u with
    | nil =>
      intro v a h1 h2
      cases v with
      | nil => rfl
      | cons y v =>
        exfalso
        rw [List.append_nil] at h1
        have hp := prd_iff hes (p := a) (fun z hz => (g.mem hes).mp (h1 ▸ hz)) (fun z hz x hx => h1 ▸ (g.tg hx (h1 ▸ hz)).1) (y := y)
        exact g.stop y (h1 ▸ hp.mpr (g'.av a y v h2))
    | cons x u ih =>
      intro v a h1 h2
      have ha : ∀ z ∈ a, z ∈ ord := fun z hz => h1 ▸ List.mem_append_left _ hz
      have hp := fun y => prd_iff hes (p := a) (fun z hz => (g.mem hes).mp (ha z hz)) (fun z hz w hw => by
        obtain ⟨p, q, e⟩ := List.append_of_mem hz
        have eo : ord = p ++ z :: (q ++ x :: u) := by rw [h1, e, List.append_assoc]; rfl
        have := (idx_lt g.nd eo).mp (g.tg hw (ha z hz)).2
        rw [e]; exact List.mem_append_left _ this) (y := y)
      have hx := g.av a x u h1
      cases v with
      | nil =>
        exfalso
        rw [List.append_nil] at h2
        exact g'.stop x (h2 ▸ (hp x).mp hx)
      | cons y v =>
        have hy := g'.av a y v h2
        have : x = y := Classical.byContradiction fun hne => by
          have e1 := g.min a x u h1 y ((hp y).mpr hy) (fun h => hne h.symm)
          have e2 := g'.min a y v h2 x ((hp x).mp hx) hne
          have := lexLt_trans _ _ _ e1 e2
          rw [lexLt_irr] at this
          cases this
        subst this
        rw [ih v (a ++ [x]) (by rw [h1, List.append_assoc]; rfl) (by rw [h2, List.append_assoc]; rfl)]
  exact go ord ord' [] rfl rfl
end
end Mine

namespace Mine
section
variable {c : Cx nm prg KK gl bl} {A : Around} {E : Value → Shared → Prop} {τ : Sto} {L : Addr} {l : List (Nat × Value)} {s : Shared}
theorem LvA.deep {ks : List (Nat × NameKind)} {n : Nat} {W : Wk c ks [] n} (h : LvA A τ L) (hf : W.env.frame = some W.L) (hA : W.A = A.deeper W.env) (hL : τ L = none) : LvA W.A (upd τ L (.fr l)) W.L := by
  obtain ⟨fr, g1, g2⟩ := h
  rw [hA]
  refine ⟨W.env :: fr, by show A.frames.map _ = _; rw [g1]; rfl, fun e he => ?_⟩
  rcases List.mem_cons.mp he with rfl | he
  · exact ⟨W.V.fn, W.L, hf, .inl rfl⟩
  · obtain ⟨g3, f, g4, g5⟩ := g2 e he
    refine ⟨g3, f, g4, .inr ?_⟩
    rcases g5 with rfl | ⟨l', g5⟩
    · exact ⟨l, upd_self⟩
    · exact ⟨l', (upd_ne (ne_of_none g5 hL)).trans g5⟩
theorem kMiss (P : Params) : ∃ o, (KK P).lookup a_missing = some o ∧ o.cls ≠ .type "list" := ⟨_, rfl, fun h => by injection h with h; exact absurd h (by decide)⟩
theorem sp_reduce {f : Addr} {φ : List Dt → (Dt → Prop) → Prop} {sv iv : Value} {ds : List Dt} {d0 : List Dt} {Q : Value → Shared → Prop} (hkf : keepIn c.K (.ref f) = true) (hφ : FnOk c 41 (.ref f) φ) (I : Nat → Dt → Prop) (h0 : I 0 (.list d0)) (hstep : ∀ j d e, ds[j]? = some e → I j d → φ [d, e] (I (j + 1)))
    (H : Ok 42 A) (LA : LvA A τ L) (R : Rel c τ L l s) (hs : Dn τ sv (.list ds)) (hi : Dn τ iv (.list d0)) (q0 : ∀ d v τ' s', I ds.length d → Keep2 τ τ' → Dn τ' v d → Rel c τ' L l s' → Q v s') :
    wpAny c.M A (call (.ref f_reduce) [.ref f, sv, iv]) Q E s := by
  refine wpAny_call ?_
  refine callW (n := 41) (lb := [(57, .ref f), (129, sv), (67, iv)]) H R rfl (by kernel_rfl) ⟨rfl, rfl, rfl⟩ (ks := ks_reduce) rfl rfl (BindsTo.of_defaults rfl (R.frag _ _ rfl) rfl rfl (by kernel_rfl)) rfl ?_
  have R0 := R
  clear R
  intro W s Q' E' hf hA R f1 f2 hq hn he
  dsimp only [n_function, n_sequence, n_initial, n_it, n_value, n_element, n_iter, n__initial_missing, n_next, n_StopIteration, n_TypeError, q_nm, q_int, q_non, q_bool, q_str, q_bin, q_neg, q_not, q_cmp, q_and, q_or, q_sub, q_slLo, q_slHi, q_slRev, q_attr, q_call0, q_call1, q_call2, q_call3, q_meth0, q_meth1, q_meth2, q_list0, q_list1, q_list2, q_list3, q_lc, q_js, q_nx, q_dct, q_asg, q_setI, q_setA, q_asg2, q_asgT, q_augA, q_augI, q_exp, q_iff, q_ret, q_brk, q_cont, q_whl, q_for1, q_forT, q_tryx, q_rai, q_del, q_asr, q_asgC, q_expC, q_nil, q_cons]
  have kL : Keep2 τ (upd τ L (.fr l)) := Keep2.up R0.apart
  have LA1 := LA.deep (l := l) hf hA R0.apart
  obtain ⟨sa, ws, rfl, hsa, hws⟩ := (hs.mono kL.frz).lst
  have hi' := hi.mono kL.frz
  obtain ⟨ia, us, rfl, hia, hus⟩ := hi'.lst
  have back : ∀ {τ3 l3 s3}, Keep2 (upd τ L (.fr l)) τ3 → Rel c τ3 W.L l3 s3 → Rel c (del τ3 L) L l s3 ∧ Keep2 τ (del τ3 L) ∧ Up2 τ3 (del τ3 L) := fun K R => ret2 R0.apart K R
  have eL : (upd τ L (.fr l)) L = some (.fr l) := upd_self
  generalize upd τ L (.fr l) = β at *
  have hlen : ws.length = ds.length := hws.length
  refine vcS_ok 6 _ [] _ _ _ ?_ R
  refine ⟨trivial, oIter hsa fun it n1 n2 => ?_⟩
  refine fun s Q E R q => ?_
  obtain ⟨om, hom, hcl⟩ := kMiss c.w.params
  obtain ⟨n0, hx⟩ := R.getL ((upd_ne (ne_of_none hia n1)).trans hia)
  have hne : ia ≠ a_missing := fun e => by
    rw [e, R.frag _ _ hom] at hx
    exact hcl (congrArg Obj.cls (Option.some.inj hx))
  refine wpAny_is_ref_other hne hx (R.frag _ _ hom) (fun h => by injection h with h; exact absurd h (by decide)) (q _ _ s ⟨false, rfl, nofun, fun _ => ?_⟩ R)
  refine vRetag (m := 2) (a := it) (i' := itL sa 0) upd_self (fun h e => ⟨_, e, rfl, rfl⟩) ?_
  rw [upd_upd]
  refine forKi (α := Sto × Value) (N := 2) (cnt := ws.length) (σ := fun p => p.1) (fr := fun p => [(57, .ref f), (142, p.2)]) (F1 := fun j p => ∃ d, I j d ∧ Dn p.1 p.2 d) (F2 := fun _ p => Keep2 β p.1) (F3 := fun _ _ => True) ⟨by decide, fun it => drvL (vs := ws), fun j p _ K _ => ⟨0, K _ _ hsa rfl⟩, ?_, ?_⟩ (β, .ref ia) ⟨rfl, rfl, trivial⟩ ⟨_, h0, hi'⟩ Keep2.refl trivial n1
  · rintro j v it' ⟨τ1, w⟩ F Qb hj hv ⟨d, hd, hw⟩ K _ hit hne lp
    dsimp only at hw K hit
    obtain ⟨e, he, hve⟩ := hws.at j v hv
    have k1 : Keep2 τ1 (upd τ1 it' (itL sa (j + 1))) := Keep2.up hit
    refine ⟨_, tgt rfl, hkf, fun s Q E R q => hφ (hstep j d e he hd) W.H ((LA1.mono K).mono k1) R ⟨hw.mono k1.frz, hve.mono (K.trans k1).frz, trivial⟩ fun d' v' τ2 s2 hd' k2 hv' R2 => q _ _ s2 ?_ R2⟩
    have e5 := k2 _ _ upd_self rfl
    exact lp.nx ((del τ2 it', v'), τ2) ⟨e5, rfl⟩ ⟨d', hd', hv'.mono (frz_del e5 rfl)⟩ (K.iter hit k2) trivial trivial _ ⟨rfl, rfl, trivial⟩
  · rintro ⟨τ1, w⟩ ⟨d, hd, hw⟩ K _ s R
    dsimp only at hw K
    refine vcS_ok 2 _ [] _ _ s ?_ R
    refine fun s R => hq _ _ ?_
    rw [hlen] at hd
    obtain ⟨R2, k2, _⟩ := back K R
    have eL8 := K _ _ eL rfl
    exact q0 d w _ s hd k2 (hw.mono fun a us e => (del_ne (ne_of_it e eL8 nofun)).trans e) R2
end
end Mine

namespace Mine
noncomputable def phAg : List Dt → (Dt → Prop) → Prop := fun ds K => ∃ (N : List Int) (es : List (Int × Int)), ds = [dI N, .list (es.map dPair)] ∧ N.length = 5 ∧ N.Nodup ∧ es.length ≤ 6 ∧ (∀ e ∈ es, e.1 ∈ N ∧ e.2 ∈ N) ∧ K (.bool true)
noncomputable def phA1 (i : Nat) : Option (List Dt → (Dt → Prop) → Prop) := bif Nat.beq i 21 then some phJn else bif Nat.beq i 27 then some phT else phB1 i
theorem inP (J : List (Int × Int)) (a b : Int) : (xor false ((J.map dPair).any fun d => d.eqB (.list [.int a, .int b]))) = decide ((a, b) ∈ J) := by
  have := any_dPair J (a, b)
  rw [Bool.false_xor]
  exact this
theorem inI (C : List Int) (a : Int) : (xor false ((C.map Dt.int).any fun d => d.eqB (.int a))) = decide (a ∈ C) := by rw [Bool.false_xor]; exact any_int C a
theorem srt_eq {a b x y : List Int} (h1 : a.Perm x) (h2 : b.Perm y) (h : x.Perm y) (ha : a.Pairwise (· ≤ ·)) (hb : b.Pairwise (· ≤ ·)) : a = b := List.Perm.eq_of_pairwise (fun _ _ _ _ h1 h2 => Int.le_antisymm h1 h2) ha hb (h1.trans (h.trans h2.symm))
theorem drop_at {o p q : List Int} {y : Int} {n : Nat} (hn : y ∉ p) (e : o = p ++ y :: q) : (o.map Dt.int).drop (cutN n (((o.idxOf y : Nat) : Int) + 1)) = q.map Dt.int := by
  have e1 : (((o.idxOf y : Nat) : Int) + 1) = ((p.length + 1 : Nat) : Int) := by rw [e, idx_at hn]; rfl
  rw [e1, cutN_nat, ← List.map_drop, e, List.append_cons]
  have : (p ++ [y]).length = p.length + 1 := by rw [List.length_append]; rfl
  rw [← this, List.drop_left]
theorem ends_mem {es : List (Int × Int)} {V : List Int} (h : ∀ e ∈ es, e.1 ∈ V ∧ e.2 ∈ V) {z : Int} : z ∈ (es.flatMap fun e => [e.2, e.1]) ++ V ↔ z ∈ V := by
  rw [List.mem_append]
  refine ⟨fun q => q.elim (fun q => ?_) id, .inr⟩
  obtain ⟨e, he, hz⟩ := List.mem_flatMap.mp q
  rcases List.mem_cons.mp hz with rfl | hz
  · exact (h e he).2
  · rw [List.mem_singleton.mp hz]; exact (h e he).1
theorem flat_le {α β : Type} {f : α → List β} {k : Nat} : ∀ {l : List α}, (∀ x ∈ l, (f x).length ≤ k) → (l.flatMap f).length ≤ k * l.length
  | [], _ => Nat.zero_le _
  | x :: l, h => by
    rw [List.flatMap_cons, List.length_append, List.length_cons, Nat.mul_succ]
    have := flat_le (l := l) fun y hy => h y (.tail _ hy)
    have := h x (.head _)
    omega
theorem pairL_len {C : List Int} (h : C.length ≤ 5) : (pairL C).length ≤ 25 := by
  unfold pairL
  refine Nat.le_trans (flat_le (k := 5) fun a _ => ?_) (Nat.mul_le_mul (Nat.le_refl 5) h)
  refine Nat.le_trans (flat_le (k := 1) fun b _ => ?_) (by omega)
  split <;> simp
theorem pairL_map {C : List Int} : (pairL C).map dPair = C.flatMap fun a => C.flatMap fun b => if a ≠ b then [dPair (a, b)] else [] := by
  unfold pairL
  rw [List.map_flatMap]
  congr 1
  funext a
  rw [List.map_flatMap]
  congr 1
  funext b
  split <;> rfl
theorem bo_dep (b : Bool) (o : List Int) : (Dt.list [.bool b, dI o]).dep ≤ 60 := by
  have h := dep_dI o
  exact Nat.succ_le_succ (Nat.max_le.mpr ⟨Nat.zero_le _, Nat.max_le.mpr ⟨Nat.le_trans h (by decide), Nat.zero_le _⟩⟩)
section
variable {c : Cx nm prg KK gl bl}
theorem ok_A1 : PhiOk c phA1 40 := by
  intro i φ e
  unfold phA1 at e
  cases e1 : Nat.beq i 21 with
  | true => rw [e1] at e; cases e; obtain rfl := Nat.eq_of_beq_eq_true e1; exact ⟨_, .inl rfl, rfl, ok_joined.ge (by decide)⟩
  | false =>
  cases e2 : Nat.beq i 27 with
  | true => rw [e1, e2] at e; cases e; obtain rfl := Nat.eq_of_beq_eq_true e2; exact ⟨_, .inl rfl, rfl, ok_told⟩
  | false => rw [e1, e2] at e; exact (ok_B1.ge (by decide)) i φ e
section
variable {ks : List (Nat × NameKind)} {cs : List (Nat × Addr)} {n : Nat} {W : Wk c ks cs n} {β : Sto} {Γ : Gm} {o : Option (Nat × List Dt)} {E : Value → Shared → Prop} {Q : Flow → Shared → Prop} {ss : List Stmt} {rs : List (List Stmt)} {Φ : Nat → Option (List Dt → (Dt → Prop) → Prop)}
theorem gIfK {t : Dx} {b e : List Stmt} {p : Pos} (hn : 5 ≤ n) (hΦ : PhiOk c Φ n) (rest : DG W β Γ o ss rs Q E) (h : DG W β Γ o ss rs Q E → evT Φ t ks (rdG o Γ) fun z => (z = true → DG W β Γ o b (ss :: rs) Q E) ∧ (z = false → DG W β Γ o e (ss :: rs) Q E)) : DG W β Γ o (.If (dE t) b e p :: ss) rs Q E := gIf hn hΦ (h rest)
theorem gReduce {i f j k fn : Nat} {q q' p1 p2 p3 p p' : Pos} {φ : List Dt → (Dt → Prop) → Prop} {ds d0 : List Dt} (hn : 42 ≤ n) (hi : setC ks i = true) (ho : oNe o i = true) (hr : glbC ks 118 = true) (hf : glbC ks fn = true) (hg : gl fn = some (.ref f)) (hkf : keepIn c.K (.ref f) = true) (hφ : FnOk c 41 (.ref f) φ)
    (hj : Γ.lookup j = some (.list ds)) (hk : Γ.lookup k = some (.list d0)) (I : Nat → Dt → Prop) (h0 : I 0 (.list d0)) (hstep : ∀ j d e, ds[j]? = some e → I j d → φ [d, e] (I (j + 1))) (h : ∀ d, I ds.length d → DG W β ((i, d) :: Γ) o ss rs Q E) :
    DG W β Γ o (.Assign [.Name (nm i) q] (dE (.call 118 q' (.cons (.nm fn p1) (.cons (.nm j p2) (.cons (.nm k p3) .nil))) p)) p' :: ss) rs Q E := fun τ l s S R => by
  obtain ⟨sv, hs, hsn⟩ := S.ds.sat _ _ hj
  obtain ⟨iv, hv, hvn⟩ := S.ds.sat _ _ hk
  refine sStm (wpAny_Assign_Name (Call_ (ldG W.V R (glb_look hr) (v := .ref f_reduce) rfl (callN_ok (W := W) (f := .ref f_reduce) rfl (fine_dE (.nm fn p1) _) (fun env => star_dL p env (.cons (.nm j p2) (.cons (.nm k p3) .nil))) (args_cons (ldG W.V R (glb_look hf) hg (args_cons (nm_ok R hsn (args_cons (nm_ok R hvn (args_nil ⟨⟨_, _, _, R⟩, ?_⟩)) (fine_dE _ _ _))) (fine_dE _ _ _))) (fine_dE _ _ _)))) rfl) (noSwD rfl _ _ _))
  exact sp_reduce hkf hφ I h0 hstep (W.H.le hn) (S.ds.lv.mono S.ds.up) R hs hv fun d v τ1 s1 hd k1 hv1 R1 => spSto hi ho (S.mono k1) R1 hv1 fun τ2 l2 s2 S2 _ R2 => h d hd τ2 l2 s2 S2 R2
end
theorem ok_agrees : FnOk c 43 (.ref f__law_agrees) phAg := by
  rintro ds K A L τ l s vs Q E ⟨N, es, rfl, hN, nd, hes, hin, hK⟩ H LA R hv q
  obtain ⟨v1, v2, rfl, -⟩ := Dns.two hv
  refine callD (n := 42) (is := [93, 137]) H LA R hv q rfl (by kernel_rfl) ⟨rfl, rfl, rfl⟩ (ks := ks__law_agrees) rfl rfl (BindsTo.of_eq (by kernel_rfl)) rfl rfl fun W β Q' E' hq => ?_
  dsimp only [n_names, n_steps, n_joined, n_come, n_orders, n_late, n_free, n_order, n_pairs, n_kept, n_near, n_k, n__law_joined, n__law_told, n_len, n_sorted, n_reduce, n__law_kept, n_range, n_dot0, n_m, n_n, n_a, n_b, n_p, n_index, n_append, r_nm, r_int, r_non, r_bool, r_bin, r_neg, r_not, r_cmp, r_con, r_sub, r_slLo, r_slHi, r_slRev, r_lst, r_call, r_meth, r_lc, r_nil, r_cons, r_cnil, r_cl, r_snil, r_scons, r_scp]
  have h5 : 5 ≤ 42 := by decide
  have hΦ := (ok_A1 (c := c)).ge (show 40 ≤ 42 by decide)
  have hC5 : (cmL N (jAll N es)).length ≤ 5 := Nat.le_trans (List.length_filter_le _ _) (Nat.le_of_eq hN)
  have l2 : ∀ {x y : Dt}, [x, y].length < 100000 := fun {x y} => (show 2 < 100000 by decide)
  have lI : ∀ {ns : List Int}, ns.length ≤ 5 → (ns.map Dt.int).length < 100000 := fun h => by rw [List.length_map]; omega
  have hP : (pairL (cmL N (jAll N es))).length ≤ 25 := pairL_len hC5
  have hK5 : (kpL N es).length ≤ 25 := Nat.le_trans (List.length_filter_le _ _) hP
  have hR5 : (nrL N es).length ≤ 25 := Nat.le_trans (List.length_filter_le _ _) hK5
  have lP : ∀ {ps : List (Int × Int)}, ps.length ≤ 25 → (ps.map dPair).length < 100000 := fun h => by rw [List.length_map]; omega
  refine gAsg h5 hΦ rfl rfl rfl ⟨N, es, rfl, Nat.le_of_eq hN, by omega, ?_⟩
  refine gAsgC h5 hΦ rfl rfl ⟨(cmL N (jAll N es)).map Dt.int, tnB_to N Dt.int (fun n => if cmB N (jAll N es) n = true then [.int n] else []) rfl rfl rfl fmF fun n hn =>
    ⟨(N.filter fun m => rgB (jAll N es) m n).map Dt.int, tnB_to N Dt.int (fun m => if rgB (jAll N es) m n = true then [.int m] else []) rfl rfl rfl fmF fun m hm => ⟨l2, ⟨dep_dI60 [m, m], dep_dPs _⟩, fun h1 => ⟨l2, ⟨dep_dI60 [m, n], dep_dPs _⟩, fun h2 => ?_, fun h2 => ?_⟩, fun h1 => ⟨nofun, fun _ => ?_⟩⟩, lI (Nat.le_trans (List.length_filter_le _ _) (Nat.le_of_eq hN)), (show 0 < 100000 by decide), ⟨dep_dI60 _, (show 1 ≤ 60 by decide)⟩, fun h => ?_, fun h => ?_⟩, lI hC5, ?_⟩
  · refine (if_pos ?_)
    unfold rgB
    rw [(inP _ m m).symm.trans h1, (inP _ m n).symm.trans h2]; rfl
  · refine (if_neg ?_)
    unfold rgB
    rw [(inP _ m n).symm.trans h2, Bool.and_false]; decide
  · refine (if_neg ?_)
    unfold rgB
    rw [(inP _ m m).symm.trans h1, Bool.false_and]; decide
  · have h : (Dt.list ((N.filter fun m => rgB (jAll N es) m n).map Dt.int)).eqB (.list []) = true := h
    rw [eqB_nil, List.isEmpty_map] at h
    exact if_pos h
  · have h : (Dt.list ((N.filter fun m => rgB (jAll N es) m n).map Dt.int)).eqB (.list []) = false := h
    rw [eqB_nil, List.isEmpty_map] at h
    exact if_neg (by unfold cmB; rw [h]; decide)
  have hV : ∀ z, z ∈ (es.flatMap fun e => [e.2, e.1]) ++ N ↔ z ∈ N := fun z => ends_mem hin
  have h00 : ∀ (j : Nat) (o : List Int), ([] : List (List Int))[j]? = some o → ∃ a, N[j]? = some a ∧ Gr es N a o := fun j o h => by rw [List.getElem?_nil] at h; cases h
  refine gNew h5 hΦ rfl rfl ⟨(show 0 < 100000 by decide), ?_⟩
  refine gFor (α := List (List Int)) (N.map Dt.int) (fun _ => [(48, dI (cmL N (jAll N es))), (74, .list ((jAll N es).map dPair)), (137, .list (es.map dPair)), (93, dI N)]) (fun os => some (105, os.map dI)) (fun k os => os.length = k ∧ ∀ j o, os[j]? = some o → ∃ a, N[j]? = some a ∧ Gr es N a o) [] h5 hΦ rfl rfl (fun _ => rfl) ⟨rfl, rfl, rfl, rfl, trivial⟩ rfl ⟨rfl, h00⟩ ?_ ?_
  · rintro k d os β1 F Qb hd ⟨hl, hos⟩ lq
    obtain ⟨lt, hlt, rfl⟩ := ints_at hd
    have hk5 : k < 5 := hN ▸ (List.getElem?_eq_some_iff.mp hlt).1
    refine gT2 h5 hΦ rfl rfl rfl rfl ⟨N, es, lt, rfl, by omega, Nat.le_of_eq hN, hin, fun G order free B hgr hc => ⟨.bool free, dI order, rfl, ?_⟩⟩
    have g : Gr es N lt order := gr_of B hV hgr
    have hfree := cm_free hin B hc
    have pm := g.perm hin nd
    have ol : order.length ≤ 5 := pm.length_eq ▸ hC5
    refine gIf h5 hΦ ⟨_, rfl, lI hC5, _, rfl, lI (Nat.le_of_eq hN), ⟨Nat.zero_le _, Nat.zero_le _⟩, ⟨Nat.zero_le _, Nat.zero_le _⟩, fun hx => ⟨order, rfl, by omega, fun rs1 hp1 ha1 => ⟨cmL N (jAll N es), rfl, by omega, fun rs2 hp2 ha2 => ⟨⟨dep_dI60 _, dep_dI60 _⟩, fun hz => ?_, fun hz => gEnd ?_⟩⟩⟩, fun hx => ?_⟩
    · exfalso
      have hz : (!(dI rs1).eqB (dI rs2)) = true := hz
      rw [srt_eq hp1 hp2 pm ha1 ha2, eqv_self] at hz
      cases hz
    · refine gIfK h5 hΦ ?_ fun rest => ⟨⟨Nat.zero_le _, dep_dI60 _⟩, fun hx => ?_, fun hx => ⟨nofun, fun _ => gEnd rest⟩⟩
      · refine gApp h5 hΦ rfl (by rw [List.length_map]; omega) ?_
        have := Lq.end (Γ := (104, dI order) :: (56, .bool free) :: (79, .int lt) :: [(48, dI (cmL N (jAll N es))), (74, .list ((jAll N es).map dPair)), (137, .list (es.map dPair)), (93, dI N)]) (E := F) lq (os ++ [order]) ⟨by rw [List.length_append, hl]; rfl, fun j o h => ?_⟩ ⟨rfl, rfl, rfl, rfl, trivial⟩
        · rw [List.map_append] at this
          exact this
        · by_cases hj : j < os.length
          · rw [List.getElem?_append_left hj] at h
            exact hos j o h
          · rw [List.getElem?_append_right (Nat.le_of_not_lt hj)] at h
            have h0 : j - os.length = 0 := by
              have := (List.getElem?_eq_some_iff.mp h).1
              simp at this; omega
            rw [h0] at h
            have h : some order = some o := h
            cases h
            have : j = k := by omega
            exact this ▸ ⟨lt, hlt, g⟩
      · have hx : (xor false (((cmL N (jAll N es)).map Dt.int).any fun d => d.eqB (.int lt))) = true := hx
        rw [inI] at hx
        have hx := of_decide_eq_true hx
        have hlo := (g.mem hin).mpr hx
        obtain ⟨p, q, eo⟩ := List.append_of_mem hlo
        have hq : q.length ≤ 5 := by rw [eo, List.length_append, List.length_cons] at ol; omega
        have hnp := notin g.nd eo
        have pm2 : q.Perm ((cmL N (jAll N es)).filter fun n => decide ((lt, n) ∈ jAll N es)) := by
          refine (List.perm_ext_iff_of_nodup ?_ ((cmL_nd hin nd).filter _)).mpr fun z => ?_
          · have := g.nd
            rw [eo] at this
            exact (List.nodup_cons.mp (List.nodup_append.mp this).2.1).2
          · rw [g.late hin eo, List.mem_filter, decide_eq_true_iff, mem_jAll hin]
        refine ⟨order, rfl, by omega, hlo, lI ol, q, ?_, by omega, fun rs1 hp1 ha1 => ⟨((cmL N (jAll N es)).filter fun n => decide ((lt, n) ∈ jAll N es)).map Dt.int, tnB_to (cmL N (jAll N es)) Dt.int (fun n => if decide ((lt, n) ∈ jAll N es) = true then [.int n] else []) rfl rfl rfl fmF fun n hn => ⟨l2, ⟨dep_dI60 [lt, n], dep_dPs _⟩, fun h => if_pos ((inP _ lt n).symm.trans h), fun h => if_neg (by rw [(inP _ lt n).symm.trans h]; decide)⟩, lI (Nat.le_trans (List.length_filter_le _ _) hC5), _, rfl, Nat.lt_of_le_of_lt (Nat.le_trans (List.length_filter_le _ _) hC5) (by decide), fun rs2 hp2 ha2 => ⟨⟨dep_dI60 _, dep_dI60 _⟩, fun hz => ?_, fun hz => gEnd rest⟩⟩⟩
        · exact congrArg (fun x => [Dt.list x]) (drop_at hnp eo)
        · exfalso
          have hz : (!(dI rs1).eqB (dI rs2)) = true := hz
          rw [srt_eq hp1 hp2 pm2 ha1 ha2, eqv_self] at hz
          cases hz
    · exfalso
      have hx : (!(Dt.bool free).eqB (.bool ((Dt.int (((cmL N (jAll N es)).map Dt.int).length : Nat)).eqB (.int ((N.map Dt.int).length : Nat))))) = true := hx
      rw [eqB_int, List.length_map, List.length_map] at hx
      have e : decide ((((cmL N (jAll N es)).length : Nat) : Int) = ((N.length : Nat) : Int)) = decide ((cmL N (jAll N es)).length = N.length) := decide_eq_decide.mpr Int.ofNat_inj
      rw [e, ← hfree, eqv_self] at hx
      cases hx
  · rintro os ⟨hl, hos⟩
    rw [List.length_map] at hl
    have hos' : ∀ o ∈ os, ∃ lt, Gr es N lt o := fun o ho => by
      obtain ⟨j, hj⟩ := List.mem_iff_getElem?.mp ho
      obtain ⟨a, _, h⟩ := hos j o hj
      exact ⟨a, h⟩
    have hat : ∀ {j : Nat}, j < N.length → Gr es N (N.getD j 0) (os.getD j []) := fun {j} hj => by
      have h1 : j < os.length := by omega
      obtain ⟨a, h2, h3⟩ := hos j os[j] (List.getElem?_eq_getElem h1)
      rw [List.getD_eq_getElem?_getD, h2, List.getD_eq_getElem?_getD, List.getElem?_eq_getElem h1]
      exact h3
    have hall : ∀ a ∈ N, ∃ o ∈ os, Gr es N a o := fun a ha => by
      obtain ⟨j, hj, rfl⟩ := List.getElem_of_mem ha
      have h1 : j < os.length := by omega
      refine ⟨os[j], List.getElem_mem h1, ?_⟩
      have := hat hj
      rwa [List.getD_eq_getElem?_getD, List.getElem?_eq_getElem hj, List.getD_eq_getElem?_getD, List.getElem?_eq_getElem h1] at this
    refine gFrz ?_
    refine gAsgL h5 hΦ rfl rfl rfl rfl ⟨(pairL (cmL N (jAll N es))).map dPair, tnB_to (cmL N (jAll N es)) Dt.int (fun a => (cmL N (jAll N es)).flatMap fun b => if a ≠ b then [dPair (a, b)] else []) rfl rfl rfl pairL_map fun a ha => ⟨fun _ => tnB_to (cmL N (jAll N es)) Dt.int (fun b => if a ≠ b then [dPair (a, b)] else []) rfl rfl rfl rfl fun b hb => ⟨⟨Nat.zero_le _, Nat.zero_le _⟩, fun h => ⟨l2, ?_⟩, fun h => ?_⟩, nofun⟩, lP hP, ?_⟩
    · have h : (!(Dt.int a).eqB (.int b)) = true := h
      rw [eqB_int] at h
      exact if_pos (fun e => by rw [decide_eq_true e] at h; cases h)
    · have h : (!(Dt.int a).eqB (.int b)) = false := h
      rw [eqB_int] at h
      exact if_neg (fun e => by rw [decide_eq_false e] at h; cases h)
    refine gReduce (f := f__law_kept) (fn := 22) (ds := os.map dI) (d0 := (pairL (cmL N (jAll N es))).map dPair) (φ := phKp) (by decide) rfl rfl rfl rfl rfl rfl (ok_kept.ge (by decide)) rfl rfl (fun j d => d = .list (((os.take j).foldl (fun ps o => ps.filter (aheadP o)) (pairL (cmL N (jAll N es)))).map dPair)) rfl (fun j d e he hI => ?_) fun d hd => ?_
    · subst hI
      rw [List.getElem?_map, Option.map_eq_some_iff] at he
      obtain ⟨o, ho, rfl⟩ := he
      obtain ⟨lt, g⟩ := hos' o (List.mem_of_getElem? ho)
      have hsub : ∀ p ∈ (os.take j).foldl (fun ps o => ps.filter (aheadP o)) (pairL (cmL N (jAll N es))), p ∈ pairL (cmL N (jAll N es)) := fun p hp => by
        rw [keep_all] at hp; exact (List.mem_filter.mp hp).1
      have hlen : ((os.take j).foldl (fun ps o => ps.filter (aheadP o)) (pairL (cmL N (jAll N es)))).length ≤ 25 := by
        rw [keep_all]; exact Nat.le_trans (List.length_filter_le _ _) hP
      refine ⟨_, o, rfl, by omega, by have := (g.perm hin nd).length_eq; omega, fun p hp => ?_, ?_⟩
      · obtain ⟨h1, h2, _⟩ := mem_pairL.mp (hsub p hp)
        exact ⟨(g.mem hin).mpr h1, (g.mem hin).mpr h2⟩
      · exact congrArg (fun x => Dt.list (x.map dPair)) (foldl_take (f := fun (ps : List (Int × Int)) (o : List Int) => ps.filter (aheadP o)) ho).symm
    rw [List.length_map, List.take_length, kept_eq hin nd hos' hall] at hd
    have hd : d = .list ((kpL N es).map dPair) := hd
    subst hd
    refine gIf h5 hΦ ⟨(kpL N es).map dPair, tnB_to (pairL (cmL N (jAll N es))) dPair (fun p => if decide (p ∈ jAll N es) = true then [dPair p] else []) rfl rfl rfl fmF fun p hp => ⟨⟨dep_dI60 [p.1, p.2], dep_dPs _⟩, fun h => if_pos ((inP _ p.1 p.2).symm.trans h), fun h => if_neg (by rw [(inP _ p.1 p.2).symm.trans h]; decide)⟩, lP hK5, ⟨dep_dPs _, dep_dPs _⟩, fun hz => ?_, fun _ => gEnd ?_⟩
    · exfalso
      have hz : (!(Dt.list ((kpL N es).map dPair)).eqB (.list ((kpL N es).map dPair))) = true := hz
      rw [eqv_self] at hz
      cases hz
    refine gAsgL h5 hΦ rfl rfl rfl rfl ⟨(nrL N es).map dPair, tnB_to (kpL N es) dPair (fun p => if neB (cmL N (jAll N es)) (kpL N es) p = true then [dPair p] else []) rfl rfl rfl fmF fun p hp =>
      ⟨((cmL N (jAll N es)).filter fun n => decide ((p.1, n) ∈ kpL N es) && decide ((n, p.2) ∈ kpL N es)).map Dt.int, tnB_to (cmL N (jAll N es)) Dt.int (fun n => if (decide ((p.1, n) ∈ kpL N es) && decide ((n, p.2) ∈ kpL N es)) = true then [.int n] else []) rfl rfl rfl fmF fun n hn => ⟨0, _, rfl, by decide, rfl, l2, ⟨dep_dI60 [p.1, n], dep_dPs _⟩, fun h1 => ⟨1, _, rfl, by decide, rfl, l2, ⟨dep_dI60 [n, p.2], dep_dPs _⟩, fun h2 => ?_, fun h2 => ?_⟩, fun h1 => ⟨nofun, fun _ => ?_⟩⟩, lI (Nat.le_trans (List.length_filter_le _ _) hC5), (show 0 < 100000 by decide), ⟨dep_dI60 _, (show 1 ≤ 60 by decide)⟩, fun h => ?_, fun h => ?_⟩, lP hR5, ?_⟩
    · exact if_pos (by rw [(inP _ p.1 n).symm.trans h1, (inP _ n p.2).symm.trans h2]; rfl)
    · exact if_neg (by rw [(inP _ n p.2).symm.trans h2, Bool.and_false]; decide)
    · exact if_neg (by rw [(inP _ p.1 n).symm.trans h1, Bool.false_and]; decide)
    · have h : (Dt.list (((cmL N (jAll N es)).filter fun n => decide ((p.1, n) ∈ kpL N es) && decide ((n, p.2) ∈ kpL N es)).map Dt.int)).eqB (.list []) = true := h
      rw [eqB_nil, List.isEmpty_map] at h
      exact if_pos h
    · have h : (Dt.list (((cmL N (jAll N es)).filter fun n => decide ((p.1, n) ∈ kpL N es) && decide ((n, p.2) ∈ kpL N es)).map Dt.int)).eqB (.list []) = false := h
      rw [eqB_nil, List.isEmpty_map] at h
      exact if_neg (by unfold neB; rw [h]; decide)
    refine gFor (α := Unit) ((List.range 5).map fun j => .int (j : Nat)) (fun _ => [(94, .list ((nrL N es).map dPair)), (105, .list (os.map dI)), (48, dI (cmL N (jAll N es))), (93, dI N)]) (fun _ => none) (fun _ _ => True) () h5 hΦ ⟨5, rfl, by decide, rfl⟩ rfl (fun _ => rfl) ⟨rfl, rfl, rfl, rfl, trivial⟩ rfl trivial ?_ ?_
    · intro k d _ β2 F Qb hd _ lq
      obtain ⟨hk, rfl⟩ : k < 5 ∧ d = .int (k : Nat) := by
        rw [List.getElem?_map, Option.map_eq_some_iff] at hd
        obtain ⟨k', h1, h2⟩ := hd
        obtain ⟨h3, h4⟩ := List.getElem?_eq_some_iff.mp h1
        rw [List.getElem_range] at h4
        subst h4
        exact ⟨by simpa using h3, h2.symm⟩
      have hkN : k < N.length := by omega
      have hko : k < os.length := by omega
      have g := hat hkN
      refine gIf h5 hΦ ⟨rfl, lP hR5, k, _, rfl, by omega, int_at hkN, cmL N (jAll N es), (nrL N es).reverse, N.getD k 0, ?_, by rw [List.length_reverse]; omega, hC5, nr_ends hin, fun G order free B hgr hc => ⟨k, _, rfl, by omega, dI_at hko, l2, ⟨bo_dep _ _, bo_dep _ _⟩, fun hz => ?_, fun _ => gEnd (Lq.end (Γ := _) (E := F) lq () trivial ⟨rfl, rfl, rfl, rfl, trivial⟩)⟩⟩
      · show [dI _, Dt.list ((nrL N es).map dPair).reverse, _] = _
        rw [← List.map_reverse]
      · exfalso
        have hz : (!(Dt.list [.bool free, dI order]).eqB (.list [.bool true, dI (os.getD k [])])) = true := hz
        have g2 : Gr (nrL N es).reverse (cmL N (jAll N es)) (N.getD k 0) order := gr_of B (fun z => ends_mem (nr_ends hin)) hgr
        rw [nr_free hin B hc, ← gr_same hin g g2, eqv_self] at hz
        cases hz
    · intro _ _
      exact gRet h5 hΦ fun v τ l s k hv R => hq v (.bool true) τ l s hK k hv R
end
end Mine

namespace Mine
section
variable {nm : Nat → Str} {prog : Program} {KK : Params → Frag} {gl bl : Nat → Option Value} {c : Cx nm prog KK gl bl} {A : Around} {E : Value → Shared → Prop} {s : Shared} {ks : List (Nat × NameKind)}
theorem enterTop {β : Sto} {f : Addr} {n : Nat} {name qual : Str} {params : Arguments} {body : List Stmt} {scope : Scope} {dV kV doc pm cdv ct oc : Value} {an od : Option Addr} {osl : Array (Option Value)} {vals : List Value} {lb : List (Nat × Value)} {Q : Value → Shared → Prop}
    (H : Ok (n + 1) A) (hh : s.heap = c.h₀) (hg : s.gens = #[]) (hos : s.os = c.os₀) (hβ : ∀ a i, β a = some i → i.fz = true ∧ i.sat nm s.heap a) (ho : c.K.lookup f = some ⟨oc, od, .func (fnOf name qual params body scope dV kV doc pm an cdv ct), osl⟩) (hcd : codeIn c.K cdv qual = true)
    (hsc : scope.kind = .function ∧ scope.isGenerator = false ∧ scope.isCoroutine = false) (hn : scope.names = named nm ks) (hcell : noCell ks = true)
    (hbind : BindsTo s (fnOf name qual params body scope dV kV doc pm an cdv ct) ⟨vals, []⟩ (named nm lb)) (hloc : locOk ks (lb.map (·.1)) = true)
    (h : ∀ (W : Wk c ks [] n) s Q' E', W.env.frame = some W.L → W.A = A.deeper W.env → Rl W β lb s → (∀ v s, Q v s → Q' (.ret v) s) → XX W body [] Q' E' s) :
    wpAny c.M A (call (.ref f) vals) Q E s := by
  have frag : c.K.In s.heap := hh ▸ c.X
  refine wpAny_call (codeAny_call_def (fd := fnOf name qual params body scope dV kV doc pm an cdv ct) (body := body) (binds := named nm lb) H.room (frag _ _ ho) rfl (hh ▸ c.lim) (codeRec_of frag hcd) rfl hbind ?_ ?_ (fun h₁ hns hk₁ => ?_) hsc.2.2 hsc.2.1 hsc.1)
  · show ∀ x ∈ scope.names, _
    rw [hn]
    intro x hx
    obtain ⟨y, hy, rfl⟩ := List.mem_map.mp hx
    exact noCell_of hcell y hy
  · intro x hx
    obtain ⟨y, hy, rfl⟩ := List.mem_map.mp hx
    show scope.names.lookup _ = _
    rw [hn, named_lookup c.inj]
    exact (locOk_of hloc).2 _ (List.mem_map_of_mem hy)
  · have fs : frameSat nm h₁ s.heap.objs.size lb := ⟨_, hns, fun i v e => by
      have e1 := lookup_rev (locOk_of hloc).1 e
      show (named nm lb).reverse.lookup (nm i) = some v
      have e2 : (named nm lb).reverse = named nm lb.reverse := by unfold named; rw [List.map_reverse]
      rw [e2, named_lookup c.inj]; exact e1⟩
    have V : Ev c (callEnv (fnOf name qual params body scope dV kV doc pm an cdv ct) s.heap.objs.size f) s.heap.objs.size ks [] := ⟨hsc.1, rfl, rfl, rfl, fun i k e => by
      show scope.names.lookup _ = _
      rw [hn, named_lookup c.inj]; exact e, rfl, fun i a e => (nomatch e)⟩
    refine h ⟨A.deeper _, _, _, V, H.deeper _⟩ _ (fun fl s'' => Q (flowVal fl) s'') _ rfl rfl ⟨fun b o e => hk₁ b o (hh ▸ e), fun a i e => (hβ a i e).2.keeps fun o q => hk₁ a o q, fun a i e => .inl (hβ a i e).1, fs, ?_, ?_, hg, hos⟩ fun _ _ q => q
    · rw [← hh]
      cases e : s.heap.get? s.heap.objs.size with
      | none => rfl
      | some o => exact absurd (Heap.lt_size e) (Nat.lt_irrefl _)
    · cases e : β s.heap.objs.size with
      | none => rfl
      | some i => exact absurd (hβ _ _ e).2.lt (Nat.lt_irrefl _)
end
section
variable {c : Cx nm prg KK gl bl} {A : Around} {E : Value → Shared → Prop} {τ : Sto} {L : Addr} {l : List (Nat × Value)} {s : Shared}
theorem top_law {sa : Addr} {xs : List Int} {vs : List Value} {Q : Value → Shared → Prop} (H : Ok 45 A) (hA0 : A.frames = some []) (hh : s.heap = c.h₀) (hg : s.gens = #[]) (hos : s.os = c.os₀)
    (hs : s.heap.get? sa = some (lst vs 0)) (hI : IntsAre vs xs) (h63 : xs.length ≤ 63)
    (q0 : ∀ s', (∀ b o, c.h₀.get? b = some o → s'.heap.get? b = some o) → s'.gens = #[] → s'.os = c.os₀ → Q (.bool true) s') : wpAny c.M A (call (.ref f_law) [.ref sa]) Q E s := by
  refine enterTop (n := 44) (lb := [(125, .ref sa)]) (β := upd (fun _ => none) sa (.ls 0 vs)) H hh hg hos (fun a i e => ?_) rfl (by kernel_rfl) ⟨rfl, rfl, rfl⟩ (ks := ks_law) rfl rfl (BindsTo.of_eq (by kernel_rfl)) rfl ?_
  · by_cases q : a = sa
    · subst q; rw [upd_self] at e; cases e; exact ⟨rfl, 0, hs⟩
    · rw [upd_ne q] at e; cases e
  intro W s Q' E' hf hA R hq
  dsimp only [n_script, n__law_agrees, n__law_names, n__law_steps, q_nm, q_int, q_non, q_bool, q_str, q_bin, q_neg, q_not, q_cmp, q_and, q_or, q_sub, q_slLo, q_slHi, q_slRev, q_attr, q_call0, q_call1, q_call2, q_call3, q_meth0, q_meth1, q_meth2, q_list0, q_list1, q_list2, q_list3, q_lc, q_js, q_nx, q_dct, q_asg, q_setI, q_setA, q_asg2, q_asgT, q_augA, q_augI, q_exp, q_iff, q_ret, q_brk, q_cont, q_whl, q_for1, q_forT, q_tryx, q_rai, q_del, q_asr, q_asgC, q_expC, q_nil, q_cons]
  have LA1 : LvA W.A (upd (fun _ => none) sa (.ls 0 vs)) W.L := ⟨[W.env], by rw [hA]; show A.frames.map _ = _; rw [hA0]; rfl, fun e he => by rw [List.mem_singleton.mp he]; exact ⟨W.V.fn, W.L, hf, .inl rfl⟩⟩
  have hs1 : Dn (upd (fun _ => none) sa (.ls 0 vs)) (.ref sa) (dI xs) := ⟨sa, vs, rfl, upd_self, Dns.ints.mpr hI⟩
  generalize upd (fun _ => none) sa (It.ls 0 vs) = β at *
  have hw : FnOk c 44 (.ref f__law_names) phNm := ok_names.ge (by decide)
  have hb : FnOk c 44 (.ref f__law_steps) phSt := ok_steps.ge (by decide)
  have ha : FnOk c 44 (.ref f__law_agrees) phAg := ok_agrees.ge (by decide)
  refine vcS_ok 1 _ [] _ _ _ ?_ R
  refine ⟨rfl, rfl, fun s Q E R q => hw (K := fun d => d = dI (nmL xs)) ⟨xs, rfl, h63, rfl⟩ W.H LA1 R ⟨hs1, trivial⟩ fun d v τ1 s1 hd k1 hv R1 => q _ _ s1 ?_ R1⟩
  subst hd
  refine ⟨rfl, rfl, fun s Q E R q => hw (K := fun d => d = dI (nmL xs)) ⟨xs, rfl, h63, rfl⟩ W.H (LA1.mono k1) R ⟨hs1.mono k1.frz, trivial⟩ fun d v2 τ2 s2 hd k2 hv2 R2 => q _ _ s2 ?_ R2⟩
  subst hd
  refine fun s Q E R q => hb (K := fun d => ∃ es : List (Int × Int), es.length ≤ 6 ∧ (∀ e ∈ es, e.1 ∈ nmL xs ∧ e.2 ∈ nmL xs) ∧ d = .list (es.map dPair)) ⟨xs, nmL xs, rfl, h63, nmL_len xs, fun es h1 h2 => ⟨es, h1, h2, rfl⟩⟩ W.H ((LA1.mono k1).mono k2) R ⟨hs1.mono (k1.trans k2).frz, hv2, trivial⟩ fun d v3 τ3 s3 hd k3 hv3 R3 => q _ _ s3 ?_ R3
  obtain ⟨es, h6, hin, rfl⟩ := hd
  refine fun s Q E R q => ha (K := fun d => d = .bool true) ⟨nmL xs, es, rfl, nmL_len xs, nmL_nd xs, h6, hin, rfl⟩ W.H (((LA1.mono k1).mono k2).mono k3) R ⟨hv.mono (k2.trans k3).frz, hv3, trivial⟩ fun d v5 τ5 s5 hd k5 hv5 R5 => q _ _ s5 ?_ R5
  subst hd
  cases hv5
  intro s R
  exact hq _ _ (q0 s R.keep R.gens R.os)
end
end Mine

namespace Mine
noncomputable def mainAt (P : Params) (x : Str) : Option Value := ((KK P).lookup mainGlobals).bind fun o => match o.data with | .dict es _ => nsFind es x | _ => none
theorem mainLaw (P : Params) : mainAt P (PySem.Str.ofString "law") = some (.ref f_law) := by kernel_rfl
theorem main_at {P : Params} {h : Heap} {mg : Str → Option Value} (X : (KK P).In h) (G : h.Ns mainGlobals mg) (x : Str) : mg x = mainAt P x := by
  obtain ⟨o, es, ep, h1, h2, _, h3⟩ := G
  have hl := mainLaw P
  unfold mainAt at hl ⊢
  cases e : (KK P).lookup mainGlobals with
  | none => rw [e] at hl; cases hl
  | some o' =>
    have e2 := X _ _ e
    rw [h1] at e2
    cases e2
    show mg x = match o.data with | .dict es _ => nsFind es x | _ => none
    rw [h2]
    exact (h3 x).symm
theorem lookT_mem {i : Nat} {v : Value} : ∀ {l : List (Nat × Value)}, lookT l i = some v → (i, v) ∈ l
  | (k, u) :: r, h => by
    unfold lookT at h
    cases e : Nat.beq k i with
    | true => rw [e] at h; cases h; rw [Nat.eq_of_beq_eq_true e]; exact .head _
    | false => rw [e] at h; exact .tail _ (lookT_mem h)
theorem glT_at (P : Params) : glT.map (fun p => mainAt P (nm p.1)) = glT.map fun p => some p.2 := by kernel_rfl
theorem blT_at (P : Params) : blT.map (fun p => (mainAt P (nm p.1), bootBuiltins (nm p.1))) = blT.map fun p => (none, some p.2) := by kernel_rfl
theorem blT_ne : ∀ p ∈ blT.map (·.1), nm p ≠ "__name__" := by decide
theorem gl_at (P : Params) (i : Nat) (v : Value) (h : gl i = some v) : mainAt P (nm i) = some v := List.map_inj_left.mp (glT_at P) _ (lookT_mem h)
theorem bl_at (P : Params) (i : Nat) (v : Value) (h : bl i = some v) : mainAt P (nm i) = none ∧ bootBuiltins (nm i) = some v ∧ nm i ≠ "__name__" :=
  have q := List.map_inj_left.mp (blT_at P) _ (lookT_mem h)
  ⟨congrArg Prod.fst q, congrArg Prod.snd q, blT_ne _ (List.mem_map_of_mem (lookT_mem h))⟩
noncomputable def cxOf {w : World} {s : Shared} {mean : ExcName → Option Value} {p : Program} {loose : List Str} {mg mb : Str → Option Value} (T : Top p loose mean mg mb s.heap) (X : (KK w.params).In s.heap) : Cx nm prg KK gl bl where
  w := w
  h₀ := s.heap
  os₀ := s.os
  mg := mg
  mb := mb
  inj := nm_inj
  nodebug := nm_nodebug
  X := X
  G := T.g
  B := T.b
  lim := T.nolimit
  globs := fun i v h => (main_at X T.g _).trans (gl_at _ i v h)
  bltins := fun i v h => have q := bl_at w.params i v h; ⟨(main_at X T.g _).trans q.1, (T.builtins _ q.2.2).trans q.2.1⟩
theorem all_done : PySem.Challenge.rw_mg0061_01.Holds := by
  refine hd ?_
  intro w s₀ s₁ mg mb G Y a o pm cd doc dV kV ho hd' hcd hD hmg hgens args vals as hpre hlay hrd hwl hlo
  have X0 : (KK w.params).In s₁.heap := kIn_of Y
  clear hd' Y hD hcd ho
  have hwl' := hwl
  wrow_args hpre hlay hrd hwl hlo
  rename_i xs _ _ _ _ _ _ _ sa vs _ hL _ _ _ hI _ h63 _
  have ha : a = f_law := by
    have := hmg.symm.trans ((main_at X0 G.T.g _).trans (mainLaw _))
    cases this; rfl
  subst ha
  cases hwl' with
  | cons hw _ => cases hw with
    | list hg _ =>
      rename_i us _
      obtain ⟨o, h1, _, n, h2⟩ := hL
      have ho := h1.symm.trans hg
      cases ho
      cases h2
      refine top_law (c := cxOf G.T X0) (s := s₁) (xs := xs) ⟨rfl, by decide +kernel, by decide +kernel⟩ rfl rfl hgens rfl hg hI (by omega) fun s' hk hg' ho' => ?_
      refine GoodW.toG ⟨.inl ⟨_, _, _, rfl, ?_, .bool true, ?_, ?_⟩, hk, ho', hg'⟩
      · exact fun _ => rfl
      · wrow_post
      · exact fun _ => ⟨.nil, nofun⟩
end Mine

theorem PySem.Challenge.cw_mg0061_01_holds : PySem.Challenge.rw_mg0061_01.Holds :=
  Mine.all_done
