import PyProof.Rows.All
import Wide.All
import OpenK.AllK
import Wide.FinOn
import Lean
import PySem.Challenge.RW_pg0097_01
open PySem PySem.W PyProof.Rows
set_option Elab.async false
set_option maxRecDepth 100000
set_option linter.unusedVariables false

section
open PySem PySem.W PyProof.Rows
set_option Elab.async false
namespace Mine
set_option maxRecDepth 100000

/-- plain data, floats too -/
inductive D where
  | none
  | bool (b : Bool)
  | int (i : Int)
  | flt (x : UInt64)
  | str (x : Str)
  | tup (l : List D)
  | lst (l : List D)
  | rng (a b : Int)
  deriving Inhabited

noncomputable abbrev OSet := Addr → Prop
noncomputable def seqO (T : String) (vs : List Value) (n : Nat) : Obj := { cls := .type T, data := .seq vs.toArray n }

mutual
/-- v reads d in h, its lists off O -/
inductive Rd (O : OSet) (h : Heap) : Value → D → Prop
  | none : Rd O h .none .none
  | bool (b : Bool) : Rd O h (.bool b) (.bool b)
  | int (i : Int) (t : Tok) : Rd O h (.int i t) (.int i)
  | flt (x : UInt64) (t : Tok) : Rd O h (.float x t) (.flt x)
  | str (x : Str) (t : Tok) : Rd O h (.str x t) (.str x)
  | tup {a : Addr} {vs : List Value} {n : Nat} {ds : List D} : h.get? a = some (seqO "tuple" vs n) → RdAll O h vs ds → Rd O h (.ref a) (.tup ds)
  | lst {a : Addr} {vs : List Value} {n : Nat} {ds : List D} : ¬ O a → h.get? a = some (seqO "list" vs n) → RdAll O h vs ds → Rd O h (.ref a) (.lst ds)
  | rng {r : Addr} {a b : Int} {t u v : Tok} : IsRange h r a b 1 t u v → Rd O h (.ref r) (.rng a b)
inductive RdAll (O : OSet) (h : Heap) : List Value → List D → Prop
  | nil : RdAll O h [] []
  | cons {v : Value} {d : D} {vs : List Value} {ds : List D} : Rd O h v d → RdAll O h vs ds → RdAll O h (v :: vs) (d :: ds)
end

theorem none_some {α : Type} {d : α} {P : Prop} (h : (none : Option α) = some d) : P := by cases h
theorem ite_some {α : Type} {c : Prop} [Decidable c] {x : Option α} {d : α} (h : (if c then x else none) = some d) : c ∧ x = some d := by
  by_cases q : c
  · rw [if_pos q] at h; exact ⟨q, h⟩
  · rw [if_neg q] at h; cases h
theorem ite_none {α : Type} {c : Prop} [Decidable c] {x : Option α} {d : α} (h : (if c then none else x) = some d) : ¬ c ∧ x = some d := by
  by_cases q : c
  · rw [if_pos q] at h; cases h
  · rw [if_neg q] at h; exact ⟨q, h⟩
theorem ite_or {α : Type} {c : Prop} [Decidable c] {x y : Option α} {d : α} (h : (if c then x else y) = some d) : (c ∧ x = some d) ∨ y = some d := by
  by_cases q : c
  · rw [if_pos q] at h; exact .inl ⟨q, h⟩
  · rw [if_neg q] at h; exact .inr h
theorem bind_some' {α β : Type} {x : Option α} {f : α → Option β} {b : β} (h : x.bind f = some b) : ∃ a, x = some a ∧ f a = some b := by
  cases x with
  | none => cases h
  | some a => exact ⟨a, rfl, h⟩
theorem map_some' {α β : Type} {x : Option α} {f : α → β} {b : β} (h : x.map f = some b) : ∃ a, x = some a ∧ f a = b := by
  cases x with
  | none => cases h
  | some a => exact ⟨a, rfl, Option.some.inj h⟩

/-- heap kept -/
noncomputable def Kp (h h' : Heap) : Prop := ∀ b o, h.get? b = some o → h'.get? b = some o
theorem Kp.refl (h : Heap) : Kp h h := fun _ _ e => e
theorem Kp.trans {a b c : Heap} (x : Kp a b) (y : Kp b c) : Kp a c := fun _ _ e => y _ _ (x _ _ e)
theorem Kp.push (h : Heap) (o : Obj) : Kp h (h.push o) := fun _ _ e => Heap.get?_push_of_some o e

/-- an object that a reading may meet -/
noncomputable def IsDat (O : OSet) (b : Addr) (o : Obj) : Prop := (∃ vs n, o.data = .seq vs n ∧ (o.cls = .type "list" → ¬ O b)) ∨ (∃ fs, o.data = .fields fs ∧ o.cls = .type "range")
/-- the data of h off O stay -/
noncomputable def Chg (O : OSet) (h h' : Heap) : Prop := ∀ b o, h.get? b = some o → IsDat O b o → h'.get? b = some o
theorem Kp.chg {O : OSet} {h h' : Heap} (x : Kp h h') : Chg O h h' := fun b o e _ => x b o e
theorem Chg.refl (O : OSet) (h : Heap) : Chg O h h := fun _ _ e _ => e
theorem Chg.trans {O : OSet} {a b c : Heap} (x : Chg O a b) (y : Chg O b c) : Chg O a c := fun _ _ e k => y _ _ (x _ _ e k) k
/-- a change at one place that bears no data, or is hidden -/
theorem Chg.sameBut {O : OSet} {h h' : Heap} {a : Addr} {o : Obj} (ho : h.get? a = some o) (hn : ¬ IsDat O a o) (hs : Heap.SameBut a h h') : Chg O h h' := by
  intro b ob e k
  by_cases hb : b = a
  · subst hb
    rw [ho] at e; cases e
    exact absurd k hn
  · rw [hs.2 b hb]; exact e
theorem Chg.ns {O : OSet} {h h' : Heap} {a : Addr} {m : Str → Option Value} (hn : h.Ns a m) (hs : Heap.SameBut a h h') : Chg O h h' := by
  obtain ⟨o, es, ep, ho, hd, _⟩ := hn
  refine .sameBut ho ?_ hs
  rintro (⟨_, _, e, _⟩ | ⟨_, e, _⟩) <;> rw [hd] at e <;> cases e
theorem Chg.cell {O : OSet} {h h' : Heap} {a : Addr} {v : Option Value} (hn : h.IsCell a v) (hs : Heap.SameBut a h h') : Chg O h h' := by
  obtain ⟨o, ho, hd⟩ := hn
  refine .sameBut ho ?_ hs
  rintro (⟨_, _, e, _⟩ | ⟨_, e, _⟩) <;> rw [hd] at e <;> cases e
theorem Chg.hid {O : OSet} {h h' : Heap} {a : Addr} {vs : List Value} {n : Nat} (ho : h.get? a = some (seqO "list" vs n)) (hO : O a) (hs : Heap.SameBut a h h') : Chg O h h' := by
  refine .sameBut ho ?_ hs
  rintro (⟨_, _, _, e⟩ | ⟨_, e, _⟩)
  · exact e rfl hO
  · cases e

mutual
theorem Rd.chg {O : OSet} {h h' : Heap} (c : Chg O h h') : ∀ {v : Value} {d : D}, Rd O h v d → Rd O h' v d
  | _, _, .none => .none
  | _, _, .bool b => .bool b
  | _, _, .int i t => .int i t
  | _, _, .flt x t => .flt x t
  | _, _, .str x t => .str x t
  | _, _, .tup e r => .tup (c _ _ e (.inl ⟨_, _, rfl, fun q => by simp [seqO] at q⟩)) (RdAll.chg c r)
  | _, _, .lst o e r => .lst o (c _ _ e (.inl ⟨_, _, rfl, fun _ => o⟩)) (RdAll.chg c r)
  | _, _, .rng e => .rng (c _ _ e (.inr ⟨_, rfl, rfl⟩))
theorem RdAll.chg {O : OSet} {h h' : Heap} (c : Chg O h h') : ∀ {vs : List Value} {ds : List D}, RdAll O h vs ds → RdAll O h' vs ds
  | _, _, .nil => .nil
  | _, _, .cons x r => .cons (Rd.chg c x) (RdAll.chg c r)
end
theorem Rd.kp {O : OSet} {h h' : Heap} {v : Value} {d : D} (r : Rd O h v d) (k : Kp h h') : Rd O h' v d := r.chg k.chg
theorem RdAll.kp {O : OSet} {h h' : Heap} {v : List Value} {d : List D} (r : RdAll O h v d) (k : Kp h h') : RdAll O h' v d := r.chg k.chg

mutual
/-- fewer hidden, or more hidden that the reading does not meet -/
theorem Rd.mono {O O' : OSet} {h : Heap} (c : ∀ a, O' a → O a ∨ h.get? a = Option.none) : ∀ {v : Value} {d : D}, Rd O h v d → Rd O' h v d
  | _, _, .none => .none
  | _, _, .bool b => .bool b
  | _, _, .int i t => .int i t
  | _, _, .flt x t => .flt x t
  | _, _, .str x t => .str x t
  | _, _, .tup e r => .tup e (RdAll.mono c r)
  | _, _, .lst o e r => .lst (fun q => by rcases c _ q with q | q; exact o q; rw [q] at e; cases e) e (RdAll.mono c r)
  | _, _, .rng e => .rng e
theorem RdAll.mono {O O' : OSet} {h : Heap} (c : ∀ a, O' a → O a ∨ h.get? a = Option.none) : ∀ {vs : List Value} {ds : List D}, RdAll O h vs ds → RdAll O' h vs ds
  | _, _, .nil => .nil
  | _, _, .cons x r => .cons (Rd.mono c x) (RdAll.mono c r)
end

section
variable {O : OSet} {h : Heap} {vs ws : List Value} {ds es : List D} {v : Value} {d : D}
theorem RdAll.length (r : RdAll O h vs ds) : vs.length = ds.length := by
  induction vs generalizing ds with
  | nil => cases r; rfl
  | cons v vs ih => cases r with | cons _ r => rw [List.length_cons, List.length_cons, ih r]
theorem RdAll.append (r : RdAll O h vs ds) (q : RdAll O h ws es) : RdAll O h (vs ++ ws) (ds ++ es) := by
  induction vs generalizing ds with
  | nil => cases r; exact q
  | cons v vs ih => cases r with | cons x r => exact .cons x (ih r)
theorem RdAll.one (r : Rd O h v d) : RdAll O h [v] [d] := .cons r .nil
theorem RdAll.get (r : RdAll O h vs ds) {k : Nat} (hd : ds[k]? = some d) : ∃ v, vs[k]? = some v ∧ Rd O h v d := by
  induction vs generalizing ds k with
  | nil => cases r; simp at hd
  | cons v vs ih =>
    cases r with
    | cons x r =>
      cases k with
      | zero => simp at hd; subst hd; exact ⟨v, rfl, x⟩
      | succ k => exact ih r (by simpa using hd)
theorem RdAll.get' (r : RdAll O h vs ds) {k : Nat} (hv : vs[k]? = some v) : ∃ d, ds[k]? = some d ∧ Rd O h v d := by
  induction vs generalizing ds k with
  | nil => simp at hv
  | cons v vs ih =>
    cases r with
    | cons x r =>
      cases k with
      | zero => simp at hv; subst hv; exact ⟨_, rfl, x⟩
      | succ k => exact ih r (by simpa using hv)
theorem RdAll.take (r : RdAll O h vs ds) (k : Nat) : RdAll O h (vs.take k) (ds.take k) := by
  induction vs generalizing ds k with
  | nil => cases r; simp; exact .nil
  | cons v vs ih =>
    cases r with
    | cons x r =>
      cases k with
      | zero => exact .nil
      | succ k => exact .cons x (ih r k)
theorem RdAll.drop (r : RdAll O h vs ds) (k : Nat) : RdAll O h (vs.drop k) (ds.drop k) := by
  induction vs generalizing ds k with
  | nil => cases r; simp; exact .nil
  | cons v vs ih =>
    cases r with
    | cons x r =>
      cases k with
      | zero => exact .cons x r
      | succ k => exact ih r k
theorem RdAll.reverse (r : RdAll O h vs ds) : RdAll O h vs.reverse ds.reverse := by
  induction vs generalizing ds with
  | nil => cases r; exact .nil
  | cons v vs ih =>
    cases r with
    | cons x r => rw [List.reverse_cons, List.reverse_cons]; exact (ih r).append (.one x)
end

/-- the weak reading: a list at its top may be hidden -/
inductive RdT (O : OSet) (h : Heap) (v : Value) (d : D) : Prop
  | of : Rd O h v d → RdT O h v d
  | top {a : Addr} {vs : List Value} {n : Nat} {ds : List D} : v = .ref a → d = .lst ds → h.get? a = some (seqO "list" vs n) → RdAll O h vs ds → RdT O h v d
theorem RdT.kp {O : OSet} {h h' : Heap} {v : Value} {d : D} (r : RdT O h v d) (k : Kp h h') : RdT O h' v d := by
  cases r with
  | of r => exact .of (r.kp k)
  | top e1 e2 e r => exact .top e1 e2 (k _ _ e) (r.kp k)
theorem RdT.list {O : OSet} {h : Heap} {v : Value} {ds : List D} (r : RdT O h v (.lst ds)) : ∃ a vs n, v = .ref a ∧ h.get? a = some (seqO "list" vs n) ∧ RdAll O h vs ds := by
  cases r with
  | of r => cases r with | lst _ e r => exact ⟨_, _, _, rfl, e, r⟩
  | top e1 e2 e r => cases e2; exact ⟨_, _, _, e1, e, r⟩
theorem isList_of {h : Heap} {a : Addr} {vs : List Value} {n : Nat} (e : h.get? a = some (seqO "list" vs n)) : h.IsList a vs.toArray := ⟨_, e, rfl, n, rfl⟩
theorem isTup_of {h : Heap} {a : Addr} {vs : List Value} {n : Nat} (e : h.get? a = some (seqO "tuple" vs n)) : h.IsTuple a vs.toArray := ⟨_, e, rfl, n, rfl⟩

/-- values without a heap part -/
noncomputable def D.flat : D → Bool
  | .none | .bool _ | .int _ | .flt _ | .str _ => true
  | _ => false
theorem RdT.flat {O O' : OSet} {h : Heap} {v : Value} {d : D} (r : RdT O h v d) (f : d.flat = true) : Rd O' h v d := by
  cases r with
  | of r => cases r <;> first | (simp [D.flat] at f; done) | constructor
  | top _ e2 _ _ => subst e2; cases f

noncomputable def Ks (s s' : Shared) : Prop := ∃ h' tk, s' = { s with heap := h', toks := tk } ∧ ∀ b o, s.heap.get? b = some o → h'.get? b = some o
theorem Ks.refl' (s : Shared) : Ks s s := ⟨s.heap, s.toks, rfl, fun _ _ e => e⟩
theorem Ks.tr {a b c : Shared} (x : Ks a b) (y : Ks b c) : Ks a c := by
  obtain ⟨h, t, rfl, k⟩ := x
  obtain ⟨h', t', rfl, k'⟩ := y
  exact ⟨h', t', rfl, fun b o e => k' b o (k b o e)⟩
theorem Ks.kp {a b : Shared} (x : Ks a b) : Kp a.heap b.heap := by
  obtain ⟨h, t, rfl, k⟩ := x
  exact k
theorem Ks.mk' {s : Shared} {h' : Heap} {tk : Nat} (k : Kp s.heap h') : Ks s { s with heap := h', toks := tk } := ⟨h', tk, rfl, k⟩
theorem Ks.toks (s : Shared) (tk : Nat) : Ks s { s with toks := tk } := ⟨s.heap, tk, rfl, fun _ _ e => e⟩

/-- every hidden place is alive -/
noncomputable def Alive (O : OSet) (h : Heap) : Prop := ∀ a, O a → ∃ o, h.get? a = some o
theorem Alive.kp {O : OSet} {h h' : Heap} (x : Alive O h) (k : Kp h h') : Alive O h' := fun a q => let ⟨o, e⟩ := x a q; ⟨o, k _ _ e⟩
theorem Alive.fresh {O : OSet} {h : Heap} (x : Alive O h) : ¬ O h.objs.size := fun q => by
  obtain ⟨o, e⟩ := x _ q
  exact absurd (Heap.lt_size e) (Nat.lt_irrefl _)
theorem Alive.new {O : OSet} {h : Heap} {a : Addr} (x : Alive O h) (ha : h.objs.size ≤ a) : ¬ O a := fun q => by
  obtain ⟨o, e⟩ := x _ q
  exact absurd (Heap.lt_size e) (Nat.not_lt.mpr ha)

/-- a tree that gives a value which reads d, and keeps the heap -/
noncomputable def Gv (M : Model) (A : Around) (t : Sem Value) (O : OSet) (d : D) (s : Shared) : Prop :=
  ∀ (Q : Value → Shared → Prop) (E : Value → Shared → Prop), (∀ v s', Ks s s' → Rd O s'.heap v d → Q v s') → wpAny M A t Q E s
noncomputable def GvT (M : Model) (A : Around) (t : Sem Value) (O : OSet) (d : D) (s : Shared) : Prop :=
  ∀ (Q : Value → Shared → Prop) (E : Value → Shared → Prop), (∀ v s', Ks s s' → RdT O s'.heap v d → Q v s') → wpAny M A t Q E s
noncomputable def GvB (M : Model) (A : Around) (t : Sem Bool) (b : Bool) (s : Shared) : Prop :=
  ∀ (Q : Bool → Shared → Prop) (E : Value → Shared → Prop), (∀ s', Ks s s' → Q b s') → wpAny M A t Q E s
theorem Gv.toT {M : Model} {A : Around} {t : Sem Value} {O : OSet} {d : D} {s : Shared} (g : Gv M A t O d s) : GvT M A t O d s :=
  fun Q E h => g Q E fun v s' k r => h v s' k (.of r)

theorem rd_new_list {O : OSet} {h : Heap} {vs : List Value} {ds : List D} (al : Alive O h) (r : RdAll O h vs ds) : Rd O (h.push { cls := .type "list", data := .seq vs.toArray }) (.ref h.objs.size) (.lst ds) :=
  .lst al.fresh (Heap.get?_push_size _ rfl) (r.kp (Kp.push _ _))
theorem rd_new_tup {O : OSet} {h : Heap} {vs : List Value} {ds : List D} (r : RdAll O h vs ds) : Rd O (h.push { cls := .type "tuple", data := .seq vs.toArray }) (.ref h.objs.size) (.tup ds) :=
  .tup (Heap.get?_push_size _ rfl) (r.kp (Kp.push _ _))
end Mine
end

section
open PySem PySem.W PyProof.Rows
set_option Elab.async false
namespace Mine
set_option maxRecDepth 100000

section inv
variable {O : OSet} {h : Heap} {v : Value}
theorem RdT.int' {i : Int} (r : RdT O h v (.int i)) : ∃ t, v = .int i t := by
  cases r with
  | of r => cases r with | int i t => exact ⟨t, rfl⟩
  | top _ e _ _ => cases e
theorem RdT.flt' {x : UInt64} (r : RdT O h v (.flt x)) : ∃ t, v = .float x t := by
  cases r with
  | of r => cases r with | flt i t => exact ⟨t, rfl⟩
  | top _ e _ _ => cases e
theorem RdT.str' {x : Str} (r : RdT O h v (.str x)) : ∃ t, v = .str x t := by
  cases r with
  | of r => cases r with | str i t => exact ⟨t, rfl⟩
  | top _ e _ _ => cases e
theorem RdT.bool' {b : Bool} (r : RdT O h v (.bool b)) : v = .bool b := by
  cases r with
  | of r => cases r with | bool b => rfl
  | top _ e _ _ => cases e
theorem RdT.tup' {ds : List D} (r : RdT O h v (.tup ds)) : ∃ a vs n, v = .ref a ∧ h.get? a = some (seqO "tuple" vs n) ∧ RdAll O h vs ds := by
  cases r with
  | of r => cases r with | tup e r => exact ⟨_, _, _, rfl, e, r⟩
  | top _ e _ _ => cases e
theorem RdT.rng' {a b : Int} (r : RdT O h v (.rng a b)) : ∃ p t u w, v = .ref p ∧ IsRange h p a b 1 t u w := by
  cases r with
  | of r => cases r with | rng e => exact ⟨_, _, _, _, rfl, e⟩
  | top _ e _ _ => cases e
end inv

noncomputable def smallI (i : Int) : Bool := decide (i.natAbs < 2 ^ 62)
noncomputable def binD (op : Operator) (x y : D) : Option D :=
  match x, y with
  | .int a, .int b => match op with
    | .Add => some (.int (a + b))
    | .Sub => some (.int (a - b))
    | .Mult => if smallI a = true then some (.int (a * b)) else none
    | .FloorDiv => if b ≠ 0 ∧ smallI b = true then some (.int (a.fdiv b)) else none
    | .Mod => if b ≠ 0 then some (.int (a.fmod b)) else none
    | .Pow => if 0 ≤ b ∧ b ≤ 64 ∧ smallI a = true then some (.int (a ^ b.toNat)) else none
    | _ => none
  | .flt a, .flt b => match op with
    | .Add => some (.flt (Float64.add a b))
    | .Sub => some (.flt (Float64.sub a b))
    | .Mult => some (.flt (Float64.mul a b))
    | .Div => if Float64.isZero b = true then none else some (.flt (Float64.div a b))
    | .Mod => if Float64.isZero b = true then none else some (.flt (Float64.divmod a b).2)
    | _ => none
  | .int a, .flt b => match op with
    | .Add => if smallI a = true then some (.flt (Float64.add (Float64.ofInt a) b)) else none
    | .Mult => if smallI a = true then some (.flt (Float64.mul (Float64.ofInt a) b)) else none
    | .Div => if smallI a = true ∧ ¬ Float64.isZero b = true then some (.flt (Float64.div (Float64.ofInt a) b)) else none
    | _ => none
  | .flt a, .int b => match op with
    | .Sub => if smallI b = true then some (.flt (Float64.sub a (Float64.ofInt b))) else none
    | .Mult => if smallI b = true then some (.flt (Float64.mul a (Float64.ofInt b))) else none
    | .Div => if smallI b = true ∧ b ≠ 0 then some (.flt (Float64.div a (Float64.ofInt b))) else none
    | _ => none
  | .str a, .str b => match op with
    | .Add => if a.length + b.length ≤ 2 ^ 20 then some (.str (a ++ b)) else none
    | _ => none
  | .str a, .int n => match op with
    | .Mult => if a.length ≤ 4 ∧ 0 ≤ n ∧ n ≤ 4096 then some (.str (Txt.mul a n)) else none
    | _ => none
  | .lst a, .lst b => match op with
    | .Add => if a.length + b.length ≤ 2 ^ 20 then some (.lst (a ++ b)) else none
    | _ => none
  | _, _ => none

theorem smallI_lt {i : Int} (h : smallI i = true) : i.natAbs < 2 ^ 62 := of_decide_eq_true h
theorem natAbs_fits {i : Int} (h : smallI i = true) : i.natAbs < 2 ^ 1023 := Nat.lt_of_lt_of_le (smallI_lt h) (Nat.pow_le_pow_right (by decide) (by decide))
theorem bits_small {i : Int} (h : smallI i = true) : Builtin.Int.intBits i ≤ 62 := by
  unfold Builtin.Int.intBits
  split
  · exact Nat.zero_le _
  · rename_i h0
    have h0' : i.natAbs ≠ 0 := by simpa using h0
    exact (Nat.log2_lt h0').mpr (smallI_lt h)
theorem over_small {i : Int} (h : smallI i = true) : ¬ PySem.Flt.Over i := by
  intro ho
  have := natAbs_fits h
  unfold PySem.Flt.Over at ho
  omega

section
variable {prog : Program} {w : World} {A : Around} {O : OSet} {s : Shared} {x y d : D} {v u : Value}

theorem gv_tok {t : Sem Value} {d : D} (h : ∀ (Q : Value → Shared → Prop) (E : Value → Shared → Prop), (∀ v tk, Rd O s.heap v d → Q v { s with toks := tk }) → wpAny (model prog w) A t Q E s) : Gv (model prog w) A t O d s :=
  fun Q E hq => h Q E fun v tk r => hq v _ (Ks.toks s tk) r

theorem bin_lists {a b : List D} (al : Alive O s.heap) (hv : RdT O s.heap v (.lst a)) (hu : RdT O s.heap u (.lst b)) (hs : a.length + b.length ≤ 2 ^ 20) : Gv (model prog w) A (binaryOp .Add v u) O (.lst (a ++ b)) s := by
  intro Q E hq
  obtain ⟨l, vs, n, rfl, e1, r1⟩ := hv.list
  obtain ⟨m, ws, k, rfl, e2, r2⟩ := hu.list
  have e : vs.toArray ++ ws.toArray = (vs ++ ws).toArray := by simp
  refine concat_meets ⟨_, e1, rfl⟩ ⟨_, e2, rfl⟩ noFill_list_add seq_list_add PySem.F.slot_list_add PySem.F.entry_list_add (PySem.F.args_list_add_2 _ _) (list_addW l m vs.toArray ws.toArray n k none none #[] #[] ?_) ⟨e1, e2, ?_⟩
  · show vs.toArray.size + ws.toArray.size ≤ 2 ^ 24
    rw [List.size_toArray, List.size_toArray, r1.length, r2.length]; omega
  · rw [e]
    exact hq _ _ (Ks.mk' (Kp.push _ _)) (rd_new_list al (r1.append r2))

set_option maxHeartbeats 2000000 in
theorem bin_sound {op : Operator} (hA : A.handled = none) (al : Alive O s.heap) (hb : binD op x y = some d) (hv : RdT O s.heap v x) (hu : RdT O s.heap u y) : Gv (model prog w) A (binaryOp op v u) O d s := by
  cases x with
  | int a =>
    obtain ⟨t, rfl⟩ := hv.int'
    cases y with
    | int b =>
      obtain ⟨t', rfl⟩ := hu.int'
      refine gv_tok fun Q E hq => ?_
      cases op <;> first | exact none_some hb | skip
      · obtain rfl := Option.some.inj hb; exact add_int (hq _ _ (.int _ _))
      · obtain rfl := Option.some.inj hb; exact sub_int (hq _ _ (.int _ _))
      · obtain ⟨hc, hb⟩ := ite_some hb
        obtain rfl := Option.some.inj hb
        exact mul_int (hq _ _ (.int _ _)) (IntMulOk.of_left (Nat.le_trans (bits_small hc) (by decide)))
      · obtain ⟨hc, hb⟩ := ite_some hb; obtain rfl := Option.some.inj hb; exact mod_int' hc (hq _ _ (.int _ _))
      · obtain ⟨hc, hb⟩ := ite_some hb
        obtain rfl := Option.some.inj hb
        refine pow_int hc.1 ?_ (hq _ _ (.int _ _))
        have h1 := bits_small hc.2.2
        have h2 := hc.2.1
        have h3 := hc.1
        have : (Builtin.Int.intBits a : Int) * b ≤ 62 * 64 := Int.mul_le_mul (by omega) h2 h3 (by decide)
        omega
      · obtain ⟨hc, hb⟩ := ite_some hb
        obtain rfl := Option.some.inj hb
        refine floordiv_int hc.1 (hq _ _ (.int _ _)) (.inl ?_)
        unfold Builtin.divisionGoesByPylong
        have h1 : (if (b == 0) = true then 0 else b.natAbs.log2 / 30 + 1) ≤ 300 := by
          split
          · omega
          · rename_i h0
            have h0' : b.natAbs ≠ 0 := by simpa using h0
            have := (Nat.log2_lt h0').mpr (smallI_lt hc.2)
            omega
        have h2 : decide ((if (b == 0) = true then 0 else b.natAbs.log2 / 30 + 1) > 300) = false := decide_eq_false (Nat.not_lt.mpr h1)
        simp only [h2, Bool.false_and]
    | flt b =>
      obtain ⟨t', rfl⟩ := hu.flt'
      refine gv_tok fun Q E hq => ?_
      cases op <;> first | exact none_some hb | skip
      · obtain ⟨hc, hb⟩ := ite_some hb; obtain rfl := Option.some.inj hb; exact add_if_fits (natAbs_fits hc) (hq _ _ (.flt _ _))
      · obtain ⟨hc, hb⟩ := ite_some hb; obtain rfl := Option.some.inj hb; exact mul_if_fits (natAbs_fits hc) (hq _ _ (.flt _ _))
      · obtain ⟨hc, hb⟩ := ite_some hb; obtain rfl := Option.some.inj hb; exact PySem.Flt.truediv_if hA (fun o => absurd o (over_small hc.1)) (fun _ z => absurd z hc.2) (fun _ _ => hq _ _ (.flt _ _))
    | _ => exact none_some hb
  | flt a =>
    obtain ⟨t, rfl⟩ := hv.flt'
    cases y with
    | int b =>
      obtain ⟨t', rfl⟩ := hu.int'
      refine gv_tok fun Q E hq => ?_
      cases op <;> first | exact none_some hb | skip
      · obtain ⟨hc, hb⟩ := ite_some hb; obtain rfl := Option.some.inj hb; exact sub_fi_fits (natAbs_fits hc) (hq _ _ (.flt _ _))
      · obtain ⟨hc, hb⟩ := ite_some hb; obtain rfl := Option.some.inj hb; exact mul_fi_fits (natAbs_fits hc) (hq _ _ (.flt _ _))
      · obtain ⟨hc, hb⟩ := ite_some hb; obtain rfl := Option.some.inj hb; exact PySem.Flt.truediv_fi hA (fun o => absurd o (over_small hc.1)) (fun z => absurd z hc.2) (fun _ _ => hq _ _ (.flt _ _))
    | flt b =>
      obtain ⟨t', rfl⟩ := hu.flt'
      refine gv_tok fun Q E hq => ?_
      cases op <;> first | exact none_some hb | skip
      · obtain rfl := Option.some.inj hb; exact add_float (hq _ _ (.flt _ _))
      · obtain rfl := Option.some.inj hb; exact sub_float (hq _ _ (.flt _ _))
      · obtain rfl := Option.some.inj hb; exact mul_float (hq _ _ (.flt _ _))
      · obtain ⟨hc, hb⟩ := ite_none hb; obtain rfl := Option.some.inj hb; exact truediv_float_or hA (fun z => absurd z hc) (fun _ => hq _ _ (.flt _ _))
      · obtain ⟨hc, hb⟩ := ite_none hb; obtain rfl := Option.some.inj hb; exact AutoFloatOps.mod_1 hc (hq _ _ (.flt _ _))
    | _ => exact none_some hb
  | str a =>
    obtain ⟨t, rfl⟩ := hv.str'
    cases y with
    | str b =>
      obtain ⟨t', rfl⟩ := hu.str'
      refine gv_tok fun Q E hq => ?_
      cases op <;> first | exact none_some hb | skip
      obtain ⟨hc, hb⟩ := ite_some hb; obtain rfl := Option.some.inj hb; exact add_str (fun t' tk => hq _ _ (.str _ _)) (Nat.le_trans hc (by decide))
    | int n =>
      obtain ⟨t', rfl⟩ := hu.int'
      refine gv_tok fun Q E hq => ?_
      cases op <;> first | exact none_some hb | skip
      obtain ⟨hc, hb⟩ := ite_some hb
      obtain rfl := Option.some.inj hb
      refine SB.mul ?_ (fun t' tk => hq _ _ (.str _ _))
      obtain ⟨h1, h2, h3⟩ := hc
      refine ⟨?_, ?_, ?_⟩
      · simp; omega
      · intro h4 h5 h6
        have : (2 ^ 63 - 1 : Int) / n ≥ 4 := by
          apply Int.le_ediv_of_mul_le (by omega)
          omega
        omega
      · intro h4 h5
        have : a.length * n.toNat ≤ 4 * 4096 := Nat.mul_le_mul h1 (by omega)
        unfold Builtin.Str.tooLong
        simp
        show _ ≤ 2 ^ 24
        omega
    | _ => exact none_some hb
  | lst a =>
    cases y with
    | lst b =>
      cases op <;> first | exact none_some hb | skip
      obtain ⟨hc, hb⟩ := ite_some hb; obtain rfl := Option.some.inj hb; exact bin_lists al hv hu hc
    | _ => exact none_some hb
  | _ => exact none_some hb
end
end Mine
end

section
open PySem PySem.W PyProof.Rows
set_option Elab.async false
namespace Mine
set_option maxRecDepth 100000

mutual
noncomputable def D.py : D → PyData
  | .none => .none
  | .bool b => .bool b
  | .int i => .int i
  | .flt _ => .none
  | .str x => .str x
  | .tup l => .tuple (D.pys l)
  | .lst l => .list (D.pys l)
  | .rng _ _ => .none
noncomputable def D.pys : List D → List PyData
  | [] => []
  | d :: r => D.py d :: D.pys r
end
mutual
/-- ints, texts, tuples and lists of these, at most k deep -/
noncomputable def D.ok : Nat → D → Bool
  | _, .int _ => true
  | _, .str x => PyData.strOk x
  | k + 1, .tup l => D.oks k l
  | k + 1, .lst l => D.oks k l
  | _, _ => false
noncomputable def D.oks : Nat → List D → Bool
  | _, [] => true
  | k, d :: r => D.ok k d && D.oks k r
end
mutual
noncomputable def D.eqb : D → D → Bool
  | .int a, .int b => a == b
  | .str a, .str b => a == b
  | .tup a, .tup b => D.eqbs a b
  | .lst a, .lst b => D.eqbs a b
  | _, _ => false
noncomputable def D.eqbs : List D → List D → Bool
  | [], [] => true
  | a :: r, b :: t => D.eqb a b && D.eqbs r t
  | _, _ => false
end

theorem D.oks_cons {k : Nat} {a : D} {r : List D} (h : D.oks k (a :: r) = true) : a.ok k = true ∧ D.oks k r = true := (Bool.and_eq_true_iff (x := a.ok k) (y := D.oks k r)).mp h
mutual
theorem D.eqv_py : ∀ {k : Nat} {a b : D}, a.ok k = true → b.ok k = true → PyData.eqv a.py b.py = D.eqb a b
  | _, .int _, .int _, _, _ => rfl
  | _, .int _, .str _, _, _ => rfl
  | _, .str _, .int _, _, _ => rfl
  | _, .str _, .str _, _, _ => rfl
  | _, .int _, .tup _, _, _ => rfl
  | _, .int _, .lst _, _, _ => rfl
  | _, .str _, .tup _, _, _ => rfl
  | _, .str _, .lst _, _, _ => rfl
  | _, .tup _, .int _, _, _ => rfl
  | _, .lst _, .int _, _, _ => rfl
  | _, .tup _, .str _, _, _ => rfl
  | _, .lst _, .str _, _, _ => rfl
  | _, .tup _, .lst _, _, _ => rfl
  | _, .lst _, .tup _, _, _ => rfl
  | k + 1, .tup a, .tup b, h1, h2 => D.eqvs_py (k := k) (a := a) (b := b) h1 h2
  | k + 1, .lst a, .lst b, h1, h2 => D.eqvs_py (k := k) (a := a) (b := b) h1 h2
theorem D.eqvs_py : ∀ {k : Nat} {a b : List D}, D.oks k a = true → D.oks k b = true → PyData.eqvAll (D.pys a) (D.pys b) = D.eqbs a b
  | _, [], [], _, _ => rfl
  | _, [], _ :: _, _, _ => rfl
  | _, _ :: _, [], _, _ => rfl
  | k, a :: r, b :: t, h1, h2 => by
    have h1 := D.oks_cons h1
    have h2 := D.oks_cons h2
    show (PyData.eqv a.py b.py && PyData.eqvAll (D.pys r) (D.pys t)) = (D.eqb a b && D.eqbs r t)
    rw [D.eqv_py h1.1 h2.1, D.eqvs_py h1.2 h2.2]
end
mutual
theorem D.canLay : ∀ {k : Nat} {a : D}, a.ok k = true → a.py.canLay0 = true
  | _, .int _, _ => rfl
  | 0, .str _, h => h
  | _ + 1, .str _, h => h
  | k + 1, .tup l, h => D.canLays (k := k) (a := l) h
  | k + 1, .lst l, h => D.canLays (k := k) (a := l) h
theorem D.canLays : ∀ {k : Nat} {a : List D}, D.oks k a = true → PyData.canLayAll0 (D.pys a) = true
  | _, [], _ => rfl
  | k, a :: r, h => by
    have h := D.oks_cons h
    exact (Bool.and_eq_true_iff (x := a.py.canLay0) (y := PyData.canLayAll0 (D.pys r))).mpr ⟨D.canLay h.1, D.canLays h.2⟩
end
mutual
theorem D.depth_le : ∀ {k : Nat} {a : D}, a.ok k = true → a.py.depth ≤ k
  | _, .int _, _ => Nat.zero_le _
  | _, .str _, _ => Nat.zero_le _
  | k + 1, .tup l, h => Nat.succ_le_succ (D.depths_le (k := k) (a := l) h)
  | k + 1, .lst l, h => Nat.succ_le_succ (D.depths_le (k := k) (a := l) h)
theorem D.depths_le : ∀ {k : Nat} {a : List D}, D.oks k a = true → PyData.depthAll (D.pys a) ≤ k
  | _, [], _ => Nat.zero_le _
  | k, a :: r, h => by
    have h := D.oks_cons h
    exact Nat.max_le.mpr ⟨D.depth_le h.1, D.depths_le h.2⟩
end
mutual
theorem Rd.reads {O : OSet} {h : Heap} : ∀ {k : Nat} {v : Value} {d : D}, d.ok k = true → Rd O h v d → ∃ as, Reads h v d.py as
  | _, _, _, _, .int i t => ⟨_, .int i t⟩
  | _, _, _, _, .str x t => ⟨_, .str x t⟩
  | k + 1, _, _, hk, .tup e r => let ⟨as, q⟩ := RdAll.reads (k := k) hk r; ⟨_, .tuple e rfl rfl q⟩
  | k + 1, _, _, hk, .lst _ e r => let ⟨as, q⟩ := RdAll.reads (k := k) hk r; ⟨_, .list e rfl rfl q⟩
theorem RdAll.reads {O : OSet} {h : Heap} : ∀ {k : Nat} {v : List Value} {d : List D}, D.oks k d = true → RdAll O h v d → ∃ as, ReadsAll h v (D.pys d) as
  | _, _, _, _, .nil => ⟨_, .nil⟩
  | k, _, _, hk, .cons x r => by
    have hk := D.oks_cons hk
    obtain ⟨as, q⟩ := Rd.reads hk.1 x
    obtain ⟨bs, q'⟩ := RdAll.reads hk.2 r
    exact ⟨_, .cons q q'⟩
end
theorem RdT.reads {O : OSet} {h : Heap} {k : Nat} {v : Value} {d : D} (hk : d.ok k = true) (r : RdT O h v d) : ∃ as, Reads h v d.py as := by
  cases r with
  | of r => exact r.reads hk
  | top e1 e2 e r =>
    subst e1 e2
    cases k with
    | zero => exact absurd (show false = true from hk) (by decide)
    | succ k => obtain ⟨as, q⟩ := RdAll.reads (k := k) hk r; exact ⟨_, .list e rfl rfl q⟩

noncomputable def cmpD (op : CmpOp) (x y : D) : Option Bool :=
  match op with
  | .Eq => match x, y with
    | .int a, .int b => some (a == b)
    | .flt a, .flt b => some (Float64.cmp a b == some Ordering.eq)
    | x, y => if x.ok 8 && y.ok 8 then some (D.eqb x y) else none
  | .NotEq => match x, y with
    | .int a, .int b => some (a != b)
    | x, y => if x.ok 8 && y.ok 8 then some (!D.eqb x y) else none
  | .Lt => match x, y with
    | .int a, .int b => some (decide (a < b))
    | .flt a, .flt b => some (Float64.cmp a b == some Ordering.lt)
    | _, _ => none
  | .LtE => match x, y with
    | .int a, .int b => some (decide (a ≤ b))
    | .flt a, .flt b => some (Float64.cmp a b == some Ordering.lt || Float64.cmp a b == some Ordering.eq)
    | _, _ => none
  | .Gt => match x, y with
    | .int a, .int b => some (decide (b < a))
    | _, _ => none
  | .GtE => match x, y with
    | .int a, .int b => some (decide (b ≤ a))
    | _, _ => none
  | .In => match y with
    | .lst l => if x.ok 8 && D.oks 8 l then some (l.any fun z => D.eqb z x) else none
    | .tup l => if x.ok 8 && D.oks 8 l then some (l.any fun z => D.eqb z x) else none
    | _ => none
  | .NotIn => match y with
    | .lst l => if x.ok 8 && D.oks 8 l then some (!l.any fun z => D.eqb z x) else none
    | .tup l => if x.ok 8 && D.oks 8 l then some (!l.any fun z => D.eqb z x) else none
    | _ => none
  | _ => none

theorem any_py {k : Nat} {x : D} (hx : x.ok k = true) : ∀ {l : List D}, D.oks k l = true → ((D.pys l).any fun y => PyData.eqv y x.py) = l.any fun z => D.eqb z x
  | [], _ => rfl
  | a :: r, h => by
    have h := D.oks_cons h
    show (PyData.eqv a.py x.py || (D.pys r).any fun y => PyData.eqv y x.py) = (D.eqb a x || r.any fun z => D.eqb z x)
    rw [D.eqv_py h.1 hx, any_py hx h.2]

section
variable {prog : Program} {w : World} {A : Around} {O : OSet} {s : Shared} {x y d : D} {v u : Value}
theorem shaped_ok {d : D} (h : d.ok 8 = true) : SeqAt.shaped d.py = true := by
  unfold SeqAt.shaped
  rw [D.canLay h, Bool.true_and]
  exact decide_eq_true (Nat.le_trans (D.depth_le h) (by decide))

theorem gv_bool {t : Sem Value} {b : Bool} (h : ∀ (Q : Value → Shared → Prop) (E : Value → Shared → Prop), Q (.bool b) s → wpAny (model prog w) A t Q E s) : Gv (model prog w) A t O (.bool b) s :=
  fun Q E hq => h Q E (hq _ _ (Ks.refl' s) (.bool b))

theorem cmp_eq (hu : A.units + 100 < cLine) (hx : x.ok 8 = true) (hy : y.ok 8 = true) (rv : RdT O s.heap v x) (ru : RdT O s.heap u y) : Gv (model prog w) A (compareOp .Eq v u) O (.bool (D.eqb x y)) s := by
  refine gv_bool fun Q E hq => ?_
  obtain ⟨as, r1⟩ := rv.reads hx
  obtain ⟨bs, r2⟩ := ru.reads hy
  refine eq_dataH r1 r2 (shaped_ok hx) (shaped_ok hy) (by omega) ?_
  rw [D.eqv_py hx hy]; exact hq
theorem cmp_ne (hu : A.units + 100 < cLine) (hx : x.ok 8 = true) (hy : y.ok 8 = true) (rv : RdT O s.heap v x) (ru : RdT O s.heap u y) : Gv (model prog w) A (compareOp .NotEq v u) O (.bool (!D.eqb x y)) s := by
  refine gv_bool fun Q E hq => ?_
  obtain ⟨as, r1⟩ := rv.reads hx
  obtain ⟨bs, r2⟩ := ru.reads hy
  refine ne_dataH r1 r2 (shaped_ok hx) (shaped_ok hy) (by omega) ?_
  rw [D.eqv_py hx hy]; exact hq
theorem room_in {l : List D} {x : D} (hu : A.units + 100 < cLine) (hx : x.ok 8 = true) : A.units + 1 + min (PyData.depthAll (D.pys l)) x.py.depth < cLine := by
  have h1 := D.depth_le hx
  have : min (PyData.depthAll (D.pys l)) x.py.depth ≤ x.py.depth := Nat.min_le_right _ _
  omega

set_option maxHeartbeats 2000000 in
theorem cmp_sound {op : CmpOp} {b : Bool} (hu : A.units + 100 < cLine) (hb : cmpD op x y = some b) (rv : RdT O s.heap v x) (ru : RdT O s.heap u y) : Gv (model prog w) A (compareOp op v u) O (.bool b) s := by
  have gen_eq : ∀ {b}, (if x.ok 8 && y.ok 8 then some (D.eqb x y) else none) = some b → Gv (model prog w) A (compareOp .Eq v u) O (.bool b) s := by
    intro b hb
    obtain ⟨hc, hb⟩ := ite_some hb
    have hc := Bool.and_eq_true_iff.mp hc
    obtain rfl := Option.some.inj hb; exact cmp_eq hu hc.1 hc.2 rv ru
  have gen_ne : ∀ {b}, (if x.ok 8 && y.ok 8 then some (!D.eqb x y) else none) = some b → Gv (model prog w) A (compareOp .NotEq v u) O (.bool b) s := by
    intro b hb
    obtain ⟨hc, hb⟩ := ite_some hb
    have hc := Bool.and_eq_true_iff.mp hc
    obtain rfl := Option.some.inj hb; exact cmp_ne hu hc.1 hc.2 rv ru
  cases op with
  | Eq =>
    cases x with
    | flt a =>
      cases y with
      | flt b =>
        obtain ⟨t, rfl⟩ := rv.flt'; obtain ⟨t', rfl⟩ := ru.flt'; obtain rfl := Option.some.inj hb
        exact gv_bool fun Q E hq => AutoFloatOps.eq_0 hq
      | _ => exact gen_eq hb
    | int a =>
      cases y with
      | _ => exact gen_eq hb
    | _ => exact gen_eq hb
  | NotEq =>
    cases x with
    | int a =>
      cases y with
      | _ => exact gen_ne hb
    | _ => exact gen_ne hb
  | Lt =>
    cases x with
    | int a =>
      cases y with
      | int b =>
        obtain ⟨t, rfl⟩ := rv.int'; obtain ⟨t', rfl⟩ := ru.int'; obtain rfl := Option.some.inj hb
        exact gv_bool fun Q E hq => lt_int hq
      | _ => exact none_some hb
    | flt a =>
      cases y with
      | flt b =>
        obtain ⟨t, rfl⟩ := rv.flt'; obtain ⟨t', rfl⟩ := ru.flt'; obtain rfl := Option.some.inj hb
        exact gv_bool fun Q E hq => AutoFloatOps.lt_0 hq
      | _ => exact none_some hb
    | _ => exact none_some hb
  | LtE =>
    cases x with
    | int a =>
      cases y with
      | int b =>
        obtain ⟨t, rfl⟩ := rv.int'; obtain ⟨t', rfl⟩ := ru.int'; obtain rfl := Option.some.inj hb
        exact gv_bool fun Q E hq => le_int hq
      | _ => exact none_some hb
    | flt a =>
      cases y with
      | flt b =>
        obtain ⟨t, rfl⟩ := rv.flt'; obtain ⟨t', rfl⟩ := ru.flt'; obtain rfl := Option.some.inj hb
        exact gv_bool fun Q E hq => AutoFloatOps.le_0 hq
      | _ => exact none_some hb
    | _ => exact none_some hb
  | Gt =>
    cases x with
    | int a =>
      cases y with
      | int b =>
        obtain ⟨t, rfl⟩ := rv.int'; obtain ⟨t', rfl⟩ := ru.int'; obtain rfl := Option.some.inj hb
        exact gv_bool fun Q E hq => gt_int hq
      | _ => exact none_some hb
    | _ => exact none_some hb
  | GtE =>
    cases x with
    | int a =>
      cases y with
      | int b =>
        obtain ⟨t, rfl⟩ := rv.int'; obtain ⟨t', rfl⟩ := ru.int'; obtain rfl := Option.some.inj hb
        exact gv_bool fun Q E hq => ge_int hq
      | _ => exact none_some hb
    | _ => exact none_some hb
  | In =>
    cases y with
    | tup l =>
      obtain ⟨hc, hb⟩ := ite_some hb
      have hc := Bool.and_eq_true_iff.mp hc
      obtain rfl := Option.some.inj hb
      refine gv_bool fun Q E hq => ?_
      obtain ⟨as, r1⟩ := rv.reads hc.1
      obtain ⟨bs, r2⟩ := ru.reads (k := 9) (show D.ok 9 (.tup l) = true from hc.2)
      exact SeqAt.in_tuple_reads r2 r1 (D.canLays hc.2) (D.canLay hc.1) (room_in hu hc.1) (by rw [any_py hc.1 hc.2]; exact hq)
    | lst l =>
      obtain ⟨hc, hb⟩ := ite_some hb
      have hc := Bool.and_eq_true_iff.mp hc
      obtain rfl := Option.some.inj hb
      refine gv_bool fun Q E hq => ?_
      obtain ⟨as, r1⟩ := rv.reads hc.1
      obtain ⟨bs, r2⟩ := ru.reads (k := 9) (show D.ok 9 (.lst l) = true from hc.2)
      exact SeqAt.in_list_reads r2 r1 (D.canLays hc.2) (D.canLay hc.1) (room_in hu hc.1) (by rw [any_py hc.1 hc.2]; exact hq)
    | _ => exact none_some hb
  | NotIn =>
    cases y with
    | tup l =>
      obtain ⟨hc, hb⟩ := ite_some hb
      have hc := Bool.and_eq_true_iff.mp hc
      obtain rfl := Option.some.inj hb
      refine gv_bool fun Q E hq => ?_
      obtain ⟨as, r1⟩ := rv.reads hc.1
      obtain ⟨bs, r2⟩ := ru.reads (k := 9) (show D.ok 9 (.tup l) = true from hc.2)
      exact SeqAt.notIn_tuple_reads r2 r1 (D.canLays hc.2) (D.canLay hc.1) (room_in hu hc.1) (by rw [any_py hc.1 hc.2]; exact hq)
    | lst l =>
      obtain ⟨hc, hb⟩ := ite_some hb
      have hc := Bool.and_eq_true_iff.mp hc
      obtain rfl := Option.some.inj hb
      refine gv_bool fun Q E hq => ?_
      obtain ⟨as, r1⟩ := rv.reads hc.1
      obtain ⟨bs, r2⟩ := ru.reads (k := 9) (show D.ok 9 (.lst l) = true from hc.2)
      exact SeqAt.notIn_list_reads r2 r1 (D.canLays hc.2) (D.canLay hc.1) (room_in hu hc.1) (by rw [any_py hc.1 hc.2]; exact hq)
    | _ => exact none_some hb
  | _ => exact none_some hb
end
end Mine
end

section
open PySem PySem.W PyProof.Rows
set_option Elab.async false
namespace Mine
set_option maxRecDepth 100000

noncomputable def idxD {α : Type} (l : List α) (k : Int) : Option α := if smallI k = true then (seqIndex? k l.length).bind (l[·]?) else none
noncomputable def itemD (x i : D) : Option D :=
  match x, i with
  | .lst l, .int k => idxD l k
  | .tup l, .int k => idxD l k
  | .str x, .int k => if smallI k = true then ((seqIndex? k x.length).bind (x.cps[·]?)).map fun c => .str ⟨#[c]⟩ else none
  | _, _ => none
noncomputable def pickD {α : Type} (l : List α) (lo hi st : Option Int) : List α :=
  (sliceRange (sliceBounds lo hi st l.length).1 (sliceBounds lo hi st l.length).2.1 (sliceBounds lo hi st l.length).2.2).filterMap (l[·]?)
noncomputable def sliceD (x : D) (lo hi st : Option Int) : Option D :=
  match x with
  | .lst l => if l.length ≤ 2 ^ 20 ∧ st ≠ some 0 then some (.lst (pickD l lo hi st)) else none
  | .tup l => if lo = none ∧ hi = some 1 ∧ st = none ∧ 2 ≤ l.length ∧ l.length ≤ 2 ^ 20 then some (.tup (l.take 1)) else none
  | _ => none

theorem RdAll.pick {O : OSet} {h : Heap} {vs : List Value} {ds : List D} (r : RdAll O h vs ds) : ∀ l : List Nat, RdAll O h (l.filterMap (vs[·]?)) (l.filterMap (ds[·]?))
  | [] => .nil
  | i :: l => by
    have ih := RdAll.pick r l
    simp only [List.filterMap_cons]
    cases hd : ds[i]? with
    | none =>
      have hv : vs[i]? = Option.none := by
        rw [List.getElem?_eq_none_iff] at hd ⊢
        rw [r.length]; exact hd
      rw [hv]; exact ih
    | some d =>
      obtain ⟨v, e, q⟩ := r.get hd
      rw [e]; exact .cons q ih
theorem RdAll.pickD {O : OSet} {h : Heap} {vs : List Value} {ds : List D} (r : RdAll O h vs ds) (lo hi st : Option Int) : RdAll O h (slicePick vs.toArray lo hi st).toList (pickD ds lo hi st) := by
  unfold slicePick Mine.pickD
  rw [List.size_toArray, r.length]
  simpa using r.pick _

section
variable {prog : Program} {w : World} {A : Around} {E : Value → Shared → Prop} {O : OSet} {s : Shared} {x y d : D} {v u : Value}

theorem sub_ops (slice : PySem.Expr) (o i : Value) : ∃ ops, subscripted slice false o i = operate ops (getItem o i) := by
  cases slice with
  | Slice lo hi st p =>
    cases st with
    | none => exact ⟨_, rfl⟩
    | some e => exact ⟨_, rfl⟩
  | _ => exact ⟨_, rfl⟩

theorem seqIndex_cases {k : Int} {n j : Nat} (h : seqIndex? k n = some j) : (k < 0 ∧ -(n : Int) ≤ k ∧ j = (k + n).toNat) ∨ (0 ≤ k ∧ k < n ∧ j = k.toNat) := by
  unfold seqIndex? at h
  by_cases h0 : k < 0
  · simp only [h0, if_true] at h
    by_cases h1 : (decide (0 ≤ k + (n : Int)) && decide (k + (n : Int) < n)) = true
    · rw [if_pos h1] at h
      rw [Bool.and_eq_true, decide_eq_true_iff, decide_eq_true_iff] at h1
      cases h; exact .inl ⟨h0, by omega, rfl⟩
    · rw [if_neg h1] at h; cases h
  · simp only [h0, if_false] at h
    by_cases h1 : (decide (0 ≤ k) && decide (k < (n : Int))) = true
    · rw [if_pos h1] at h
      rw [Bool.and_eq_true, decide_eq_true_iff, decide_eq_true_iff] at h1
      cases h; exact .inr ⟨h1.1, h1.2, rfl⟩
    · rw [if_neg h1] at h; cases h

theorem item_list {l : Addr} {vs : List Value} {n : Nat} {k : Int} {t : Tok} {z : Value} {Q : Value → Shared → Prop} (e : s.heap.get? l = some (seqO "list" vs n)) (hk : smallI k = true) (hz : (seqIndex? k vs.length).bind (vs[·]?) = some z) (h : Q z s) :
    wpAny (model prog w) A (getItem (.ref l) (.int k t)) Q E s := by
  have hs := smallI_lt hk
  cases hj : seqIndex? k vs.length with
  | none => rw [hj] at hz; cases hz
  | some j =>
    rw [hj] at hz
    have hz' : vs[j]? = some z := hz
    rcases seqIndex_cases hj with ⟨h0, h1, rfl⟩ | ⟨h0, h1, rfl⟩
    · refine wpAny_getItem_list_neg (isList_of e) h0 ?_ ?_ ?_ h
      · rw [List.size_toArray]; exact h1
      · omega
      · rw [List.size_toArray]; simpa using hz'
    · exact wpAny_getItem_list (isList_of e) h0 (by omega) (by simpa using hz') h

theorem item_sound {value slice : PySem.Expr} (hb : itemD x y = some d) (rv : RdT O s.heap v x) (ru : RdT O s.heap u y) : Gv (model prog w) A (subscriptTail value slice v u) O d s := by
  intro Q E hq
  obtain ⟨ops, hops⟩ := sub_ops slice v u
  cases y with
  | int k =>
    obtain ⟨t, rfl⟩ := ru.int'
    cases x with
    | lst l =>
      obtain ⟨a, vs, n, rfl, e, r⟩ := rv.list
      obtain ⟨hk, hb⟩ := ite_some (show (if smallI k = true then (seqIndex? k l.length).bind (l[·]?) else none) = some d from hb)
      obtain ⟨j, hj, hb⟩ := bind_some' hb
      obtain ⟨z, hz, rz⟩ := r.get (k := j) hb
      exact tail_any (isList_of e).typeIs slot_list_getitem.lookup (item_list e hk (by rw [r.length, hj]; exact hz) (hq z s (Ks.refl' s) rz)) hops
    | tup l =>
      obtain ⟨a, vs, n, rfl, e, r⟩ := rv.tup'
      obtain ⟨hk, hb⟩ := ite_some (show (if smallI k = true then (seqIndex? k l.length).bind (l[·]?) else none) = some d from hb)
      obtain ⟨j, hj, hb⟩ := bind_some' hb
      obtain ⟨z, hz, rz⟩ := r.get (k := j) hb
      have hs := smallI_lt hk
      have ht : IsTup s.heap a vs.toArray := ⟨_, e, rfl, n, rfl⟩
      exact tail_any ht.typeIs slot_tuple_getitem.lookup (getItem_tuple ht (by omega) (by omega) (by rw [List.size_toArray, r.length]; exact hj) (by simpa using hz) (hq z s (Ks.refl' s) rz)) hops
    | str z =>
      obtain ⟨t', rfl⟩ := rv.str'
      obtain ⟨hk, hb⟩ := ite_some (show (if smallI k = true then ((seqIndex? k z.length).bind (z.cps[·]?)).map fun c => D.str ⟨#[c]⟩ else none) = some d from hb)
      obtain ⟨c, hj, rfl⟩ := map_some' hb
      have hs := smallI_lt hk
      refine tail_any (typeIs_str _ _ _) PySem.F.slot_str_getitem.lookup (P.getItem_str ?_ hj (hq _ _ (Ks.toks s _) (.str _ _))) hops
      simp; omega
    | _ => exact none_some hb
  | _ => cases x <;> exact none_some hb

theorem tuple_first {t sl : Addr} {vs : List Value} {n : Nat} {u : Tok} {Q : Value → Shared → Prop} (e : s.heap.get? t = some (seqO "tuple" vs n)) (hs : s.heap.IsSliceOf sl .none (.int 1 u) .none) (h2 : 2 ≤ vs.length) (hsz : vs.length ≤ 2 ^ 20)
    (h : Q (.ref s.heap.objs.size) { s with heap := s.heap.push { cls := .type "tuple", data := .seq (vs.take 1).toArray } }) : wpAny (model prog w) A (getItem (.ref t) (.ref sl)) Q E s := by
  have ht : IsTup s.heap t vs.toArray := ⟨_, e, rfl, n, rfl⟩
  obtain ⟨os, hos, hcs, hds⟩ := id hs
  have hTs : s.TypeIs (.ref sl) "slice" := ⟨os, hos, hcs⟩
  have hsz1 : sizeOk (.seq (vs.take 1).toArray) := by
    show (vs.take 1).toArray.size ≤ 2 ^ 24
    rw [List.size_toArray, List.length_take]; omega
  unfold getItem
  try with_reducible refine wpAny_holding ?_
  first | refine wpAny_bind (wpAny_pure ?_) | skip
  refine wpAny_bind (wpAny_sequenceKey ht.typeIs (by decide) ?_)
  refine wpAny_bind (wpAny_callSpecial?_slot (name := Str.ofString "__getitem__") ht.typeIs slot_tuple_getitem
    (wpAny_call_entry slot_tuple_getitem ht.typeIs entry_tuple_getitem ?_ (args_tuple_getitem _ _)))
  show wpAny _ _ (Builtin.Tuple.tupleItemsOf (.ref t) >>= _) _ _ s
  refine wpAny_bind (tupleItemsOf_ ht ?_)
  refine wpAny_bind (wpAny_typeOf hTs ?_)
  rw [if_pos (by decide)]
  have happ : ∀ {R : Int × Int × Nat → Shared → Prop} {E' : Value → Shared → Prop} {A' : Around}, R (0, 1, 1) s → wpAny (model prog w) A' (Builtin.Slice.sliceApplied (.ref sl) (pure (vs.toArray.size : Int))) R E' s := by
    intro R E' A' hR
    unfold Builtin.Slice.sliceApplied Builtin.Slice.sliceFields
    refine wpAny_bind (wpAny_bind (wpAny_field hos hds (x := .none) rfl (wpAny_bind (wpAny_field hos hds (x := .int 1 u) rfl (wpAny_bind (wpAny_field hos hds (x := .none) rfl (wpAny_pure ?_)))))))
    refine wpAny_bind (slicePart_none ?_)
    show wpAny _ _ (if ((1 : Int) == 0) = true then _ else _) _ _ s
    rw [if_neg (by decide)]
    refine wpAny_bind (slicePart_none (wpAny_bind (slicePart_int (wpAny_bind (wpAny_pure ?_)))))
    have e1 : Builtin.Slice.sliceAdjust none (some (1 : Int)) 1 (vs.toArray.size : Int) = ((0 : Int), (1 : Int)) := by
      rw [List.size_toArray]
      unfold Builtin.Slice.sliceAdjust
      simp
      omega
    show wpAny _ _ (match Builtin.Slice.sliceAdjust none (some (1 : Int)) 1 (vs.toArray.size : Int) with | (lo, hi) => pure (lo, (1 : Int), Builtin.Slice.slicePlaces lo hi 1)) _ _ s
    rw [e1]
    exact wpAny_pure hR
  refine wpAny_bind (happ ?_)
  have hno : ¬ (((0 : Int) == 0 && (1 : Int) == 1 && (1 : Nat) == vs.toArray.size) = true) := by
    rw [List.size_toArray]
    have : ((1 : Nat) == vs.length) = false := by rw [beq_eq_false_iff_ne]; omega
    rw [this]; simp
  show wpAny _ _ (if ((0 : Int) == 0 && (1 : Int) == 1 && (1 : Nat) == vs.toArray.size) = true then _ else _) _ _ s
  rw [if_neg hno]
  have hp : ((List.range 1).filterMap fun (k : Nat) => vs.toArray[((0 : Int) + (k : Int) * 1).toNat]?).toArray = (vs.take 1).toArray := by
    cases vs with
    | nil => simp at h2
    | cons a r => simp [List.range_succ]
  rw [hp]
  first
    | exact wpAny_bind (m := Builtin.Tuple.tupleExact _) (wpAny_newObj_type (wpAny_pure ⟨_, rfl, wpAny_pure h⟩) hsz1)
    | exact wpAny_bind (m := Builtin.Tuple.tupleExact _) (wpAny_newObj_type (wpAny_bind (wpAny_pure (wpAny_pure ⟨_, rfl, wpAny_pure h⟩))) hsz1)
    | exact wpAny_bind (wpAny_bind (m := Builtin.Tuple.tupleExact _) (wpAny_newObj_type (wpAny_pure (wpAny_pure ⟨_, rfl, wpAny_pure h⟩)) hsz1))
    | exact wpAny_bind (wpAny_bind (m := Builtin.Tuple.tupleExact _) (wpAny_newObj_type (wpAny_pure ⟨_, rfl, wpAny_pure h⟩) hsz1))

theorem slice_sound {value slice : PySem.Expr} {lo hi st : Option Int} {vl vu vt : Value} {sl : Addr} (al : Alive O s.heap) (hb : sliceD x lo hi st = some d) (rv : RdT O s.heap v x) (hs : s.heap.IsSliceOf sl vl vu vt) (hl : IsPart vl lo) (hh : IsPart vu hi) (ht : IsPart vt st) :
    Gv (model prog w) A (subscriptTail value slice v (.ref sl)) O d s := by
  intro Q E hq
  obtain ⟨ops, hops⟩ := sub_ops slice v (.ref sl)
  cases x with
  | lst l =>
    obtain ⟨a, vs, n, rfl, e, r⟩ := rv.list
    obtain ⟨hc, hb⟩ := ite_some hb
    obtain rfl := Option.some.inj hb
    refine tail_any (isList_of e).typeIs slot_list_getitem.lookup (wpAny_getItem_list_slice (isList_of e) hs hl hh ht hc.2 ?_ ?_) hops
    · have r' := r.pickD lo hi st
      have : (slicePick vs.toArray lo hi st) = (slicePick vs.toArray lo hi st).toList.toArray := by simp
      rw [this]
      exact hq _ _ (Ks.mk' (Kp.push _ _)) (rd_new_list al r')
    · show vs.toArray.size ≤ 2 ^ 24
      rw [List.size_toArray, r.length]; omega
  | tup l =>
    obtain ⟨a, vs, n, rfl, e, r⟩ := rv.tup'
    obtain ⟨⟨c1, c2, c3, c4, c5⟩, hb⟩ := ite_some hb
    obtain rfl := Option.some.inj hb
    subst c1 c2 c3
    cases hl; cases ht
    cases hh with
    | int i t =>
      have ht : IsTup s.heap a vs.toArray := ⟨_, e, rfl, n, rfl⟩
      exact tail_any ht.typeIs slot_tuple_getitem.lookup (tuple_first e hs (by rw [r.length]; exact c4) (by rw [r.length]; exact c5) (hq _ _ (Ks.mk' (Kp.push _ _)) (rd_new_tup (r.take 1)))) hops
  | _ => exact none_some hb
end
end Mine
end

section
open PySem PySem.W PyProof.Rows
set_option Elab.async false
namespace Mine
set_option maxRecDepth 100000

inductive RdTs (O : OSet) (h : Heap) : List Value → List D → Prop
  | nil : RdTs O h [] []
  | cons {v : Value} {d : D} {vs : List Value} {ds : List D} : RdT O h v d → RdTs O h vs ds → RdTs O h (v :: vs) (d :: ds)
theorem RdTs.kp {O : OSet} {h h' : Heap} {vs : List Value} {ds : List D} (r : RdTs O h vs ds) (k : Kp h h') : RdTs O h' vs ds := by
  induction r with
  | nil => exact .nil
  | cons a _ ih => exact .cons (a.kp k) ih
theorem RdAll.ts {O : OSet} {h : Heap} : ∀ {vs : List Value} {ds : List D}, RdAll O h vs ds → RdTs O h vs ds
  | _, _, .nil => .nil
  | _, _, .cons a r => .cons (.of a) (RdAll.ts r)

noncomputable def intsD : List D → Option (List Int)
  | [] => some []
  | .int i :: r => (intsD r).map (i :: ·)
  | _ :: _ => none
noncomputable def strsD : List D → Option (List Str)
  | [] => some []
  | .str i :: r => (strsD r).map (i :: ·)
  | _ :: _ => none
theorem RdAll.ints {O : OSet} {h : Heap} {vs : List Value} {ds : List D} {ns : List Int} (r : RdAll O h vs ds) (e : intsD ds = some ns) : IntsAre vs ns := by
  induction vs generalizing ds ns with
  | nil => cases r; cases e; exact .nil
  | cons v vs ih =>
    cases r with
    | cons x r =>
      cases x <;> first | exact none_some e | skip
      obtain ⟨ms, e1, rfl⟩ := map_some' e
      exact .cons _ _ (ih r e1)
theorem RdAll.strs {O : OSet} {h : Heap} {vs : List Value} {ds : List D} {ns : List Str} (r : RdAll O h vs ds) (e : strsD ds = some ns) : StrsAre vs ns := by
  induction vs generalizing ds ns with
  | nil => cases r; cases e; exact .nil
  | cons v vs ih =>
    cases r with
    | cons x r =>
      cases x <;> first | exact none_some e | skip
      obtain ⟨ms, e1, rfl⟩ := map_some' e
      exact .cons _ _ (ih r e1)

noncomputable def fltBest (op : Ordering) (a b c : UInt64) : UInt64 := [a, b, c].getD (argBest (fun i j => Float64.cmp ([a, b, c].getD i 0) ([a, b, c].getD j 0) == some op) 2) 0

section
variable {prog : Program} {w : World} {A : Around} {E : Value → Shared → Prop} {O : OSet} {s : Shared} {x y d : D} {v u : Value}

theorem len_sound {l : List D} (hl : l.length ≤ 2 ^ 20) (rv : RdT O s.heap v (.lst l)) : Gv (model prog w) A (call (.builtin "len") [v]) O (.int l.length) s := by
  intro Q E hq
  obtain ⟨a, vs, n, rfl, e, r⟩ := rv.list
  refine Calls.call_len_list (isList_of e) (by rw [List.size_toArray, r.length]; omega) ?_
  rw [List.size_toArray, r.length]
  exact hq _ _ (Ks.toks s _) (.int _ _)

theorem sum_sound {l : List D} {ns : List Int} (hA : A.handled = none) (hi : intsD l = some ns) (rv : RdT O s.heap v (.lst l)) : Gv (model prog w) A (call (.builtin "sum") [v]) O (.int ns.sum) s := by
  intro Q E hq
  obtain ⟨a, vs, n, rfl, e, r⟩ := rv.list
  have hI := r.ints hi
  obtain ⟨xs, hxs⟩ := hI.allInts.items
  have hl := isList_of e
  rw [hxs] at hl
  refine sum_intListG hA hl fun h' tk t' hk => ?_
  have hn : preSum (numAt xs) xs.size = ns.sum := by
    rw [preSum_eq, List.take_of_length_le (by simp)]
    have h2 := hI.numsOf
    rw [show vs = vs.toArray.toList from rfl, hxs, nums_intItems] at h2
    rw [h2]
  rw [hn]
  exact hq _ _ (Ks.mk' hk) (.int _ _)

theorem range1_sound {n : Int} (rv : RdT O s.heap v (.int n)) : Gv (model prog w) A (call (.type "range") [v]) O (.rng 0 n) s := by
  intro Q E hq
  obtain ⟨t, rfl⟩ := rv.int'
  exact call_range_1 (hq _ _ (Ks.mk' (Kp.push _ _)) (.rng (IsRange.new ..)))
theorem range2_sound {a b : Int} (rv : RdT O s.heap v (.int a)) (ru : RdT O s.heap u (.int b)) : Gv (model prog w) A (call (.type "range") [v, u]) O (.rng a b) s := by
  intro Q E hq
  obtain ⟨t, rfl⟩ := rv.int'
  obtain ⟨t', rfl⟩ := ru.int'
  exact call_range_2 (hq _ _ (Ks.mk' (Kp.push _ _)) (.rng (IsRange.new ..)))
theorem int_sound {b : UInt64} {sg : Bool} {m : Nat} {e : Int} (hd : Float64.decode b = .fin sg m e) (rv : RdT O s.heap v (.flt b)) : Gv (model prog w) A (call (.type "int") [v]) O (.int (Float64.truncOf sg m e)) s := by
  intro Q E hq
  obtain ⟨t, rfl⟩ := rv.flt'
  exact call_int_float hd (hq _ _ (Ks.toks s _) (.int _ _))

theorem flt_items {a b c : UInt64} {t t' t'' : Tok} {i : Nat} {z : Value} (h : (#[Value.float a t, Value.float b t', Value.float c t''] : Array Value)[i]? = some z) : ∃ tk, z = .float ([a, b, c].getD i 0) tk := by
  match i, h with
  | 0, h => simp at h; exact ⟨t, h.symm⟩
  | 1, h => simp at h; exact ⟨t', h.symm⟩
  | 2, h => simp at h; exact ⟨t'', h.symm⟩
  | n + 3, h => simp at h

theorem max_sound {a b c : UInt64} {v1 v2 v3 : Value} (hA : A.handled = none) (r1 : RdT O s.heap v1 (.flt a)) (r2 : RdT O s.heap v2 (.flt b)) (r3 : RdT O s.heap v3 (.flt c)) : Gv (model prog w) A (call (.builtin "max") [v1, v2, v3]) O (.flt (fltBest .gt a b c)) s := by
  intro Q E hq
  obtain ⟨t, rfl⟩ := r1.flt'
  obtain ⟨t', rfl⟩ := r2.flt'
  obtain ⟨t'', rfl⟩ := r3.flt'
  have hT : (s.heap.push { cls := .type "tuple", data := .seq #[.float a t, .float b t', .float c t''] }).IsTuple s.heap.objs.size #[.float a t, .float b t', .float c t''] := ⟨_, Heap.get?_push_size _ rfl, rfl, 0, rfl⟩
  refine call_max_three (wpAny_pyIter_tuple hT ?_)
  have hsz : (s.heap.push { cls := .type "tuple", data := .seq #[.float a t, .float b t', .float c t''] }).objs.size = s.heap.objs.size + 1 := Heap.size_push ..
  refine ⟨_, [_, s.heap.objs.size], [_], _, _, _, (fun i j => Float64.cmp ([a, b, c].getD i 0) ([a, b, c].getD j 0) == some Ordering.gt), rfl, Walks.tuple (A := A.in1) hA _ s.heap.objs.size (by rw [hsz]; exact Nat.ne_of_lt (Nat.lt_succ_self _)) #[.float a t, .float b t', .float c t''],
    ⟨⟨_, Heap.get?_push_size _ rfl, rfl, rfl⟩, hT.push _⟩, fun d hd => ?_, by simp, ?_, fun z h' tk hP hk => ?_⟩
  · show d < ((s.heap.push _).push _).objs.size
    rw [Heap.size_push, hsz]
    rcases List.mem_cons.mp hd with rfl | hd
    · rw [hsz]; exact Nat.lt_succ_self _
    · rcases List.mem_cons.mp hd with rfl | hd
      · exact Nat.lt_succ_of_lt (Nat.lt_succ_self _)
      · cases hd
  · intro i j vi vj s' Q' E' hi hj hQ
    obtain ⟨ti, rfl⟩ := flt_items hi
    obtain ⟨tj, rfl⟩ := flt_items hj
    exact richCompare_gives (op := .Gt) (typeIs_float s' _ _) (typeIs_float s' _ _) F.slot_float_gt F.entry_float_gt (F.args_float_gt_2 _ _) (AutoFloatG4.float___gt___float_float_0 _ _ _ _) (fun x => nomatch x) hQ
  · have hold : Kp s.heap h' := fun d o e => by
      refine hk d o (fun hm => ?_) (Heap.get?_push_of_some _ (Heap.get?_push_of_some _ e))
      rcases List.mem_cons.mp hm with e1 | hm
      · have := Heap.lt_size e; rw [e1, hsz] at this; exact Nat.lt_irrefl _ (Nat.lt_of_succ_lt this)
      · cases hm
    obtain ⟨tz, rfl⟩ := flt_items hP
    exact hq _ _ (Ks.mk' hold) (.flt _ _)
theorem min_sound {a b c : UInt64} {v1 v2 v3 : Value} (hA : A.handled = none) (r1 : RdT O s.heap v1 (.flt a)) (r2 : RdT O s.heap v2 (.flt b)) (r3 : RdT O s.heap v3 (.flt c)) : Gv (model prog w) A (call (.builtin "min") [v1, v2, v3]) O (.flt (fltBest .lt a b c)) s := by
  intro Q E hq
  obtain ⟨t, rfl⟩ := r1.flt'
  obtain ⟨t', rfl⟩ := r2.flt'
  obtain ⟨t'', rfl⟩ := r3.flt'
  have hT : (s.heap.push { cls := .type "tuple", data := .seq #[.float a t, .float b t', .float c t''] }).IsTuple s.heap.objs.size #[.float a t, .float b t', .float c t''] := ⟨_, Heap.get?_push_size _ rfl, rfl, 0, rfl⟩
  refine call_min_three (wpAny_pyIter_tuple hT ?_)
  have hsz : (s.heap.push { cls := .type "tuple", data := .seq #[.float a t, .float b t', .float c t''] }).objs.size = s.heap.objs.size + 1 := Heap.size_push ..
  refine ⟨_, [_, s.heap.objs.size], [_], _, _, _, (fun i j => Float64.cmp ([a, b, c].getD i 0) ([a, b, c].getD j 0) == some Ordering.lt), rfl, Walks.tuple (A := A.in1) hA _ s.heap.objs.size (by rw [hsz]; exact Nat.ne_of_lt (Nat.lt_succ_self _)) #[.float a t, .float b t', .float c t''],
    ⟨⟨_, Heap.get?_push_size _ rfl, rfl, rfl⟩, hT.push _⟩, fun d hd => ?_, by simp, ?_, fun z h' tk hP hk => ?_⟩
  · show d < ((s.heap.push _).push _).objs.size
    rw [Heap.size_push, hsz]
    rcases List.mem_cons.mp hd with rfl | hd
    · rw [hsz]; exact Nat.lt_succ_self _
    · rcases List.mem_cons.mp hd with rfl | hd
      · exact Nat.lt_succ_of_lt (Nat.lt_succ_self _)
      · cases hd
  · intro i j vi vj s' Q' E' hi hj hQ
    obtain ⟨ti, rfl⟩ := flt_items hi
    obtain ⟨tj, rfl⟩ := flt_items hj
    exact richCompare_gives (op := .Lt) (typeIs_float s' _ _) (typeIs_float s' _ _) F.slot_float_lt F.entry_float_lt (F.args_float_lt_2 _ _) (AutoFloatG5.float___lt___float_float_0 _ _ _ _) (fun x => nomatch x) hQ
  · have hold : Kp s.heap h' := fun d o e => by
      refine hk d o (fun hm => ?_) (Heap.get?_push_of_some _ (Heap.get?_push_of_some _ e))
      rcases List.mem_cons.mp hm with e1 | hm
      · have := Heap.lt_size e; rw [e1, hsz] at this; exact Nat.lt_irrefl _ (Nat.lt_of_succ_lt this)
      · cases hm
    obtain ⟨tz, rfl⟩ := flt_items hP
    exact hq _ _ (Ks.mk' hold) (.flt _ _)

theorem join_sound {x : Str} {l : List D} {ys : List Str} (hi : strsD l = some ys) (hok : (ys.map (·.length)).sum + ys.length * x.length ≤ 2 ^ 20) (rv : RdT O s.heap v (.str x)) (ru : RdT O s.heap u (.lst l)) :
    Gv (model prog w) A (call (.builtin "str.join") [v, u]) O (.str (Txt.join x ys)) s := by
  intro Q E hq
  obtain ⟨t, rfl⟩ := rv.str'
  obtain ⟨a, vs, n, rfl, e, r⟩ := ru.list
  exact join_list (isList_of e) (r.strs hi) (Nat.le_trans hok (by decide)) fun t' k => hq _ _ (Ks.toks s _) (.str _ _)

theorem strVals_rd (O : OSet) (h : Heap) : ∀ l : List (Str × Tok), RdAll O h (strValues l) ((l.map (·.1)).map D.str)
  | [] => .nil
  | (x, t) :: r => .cons (.str x t) (strVals_rd O h r)

theorem split_sound {x y : Str} (al : Alive O s.heap) (hy : (y.length == 0) = false) (hsz : x.length ≤ 2 ^ 20) (hsz2 : (Builtin.Str.partsBetween x (Builtin.Str.occurrences x y 0 x.length (x.length + 1)) y.length).length ≤ 2 ^ 20) (rv : RdT O s.heap v (.str x)) (ru : RdT O s.heap u (.str y)) :
    Gv (model prog w) A (call (.builtin "str.split") [v, u]) O (.lst ((Txt.split x y).map D.str)) s := by
  intro Q E hq
  obtain ⟨t, rfl⟩ := rv.str'
  obtain ⟨t', rfl⟩ := ru.str'
  have new : ∀ (l : List (Str × Tok)) (k : Nat), l.map (·.1) = Txt.split x y → Q (.ref s.heap.objs.size) { s with toks := k, heap := s.heap.push { cls := .type "list", data := .seq (strValues l).toArray } } := by
    intro l k hl
    refine hq _ _ (Ks.mk' (Kp.push _ _)) ?_
    rw [← hl]
    exact rd_new_list al (strVals_rd O s.heap l)
  cases h1 : (decide (x.length < y.length) || decide (Builtin.Str.strKind x < Builtin.Str.strKind y))
  · cases hf : (Builtin.Str.occurrences x y 0 x.length (x.length + 1)).isEmpty
    · refine call_meets F.slot_str_split (typeIs_str _ _ _) F.entry_str_split (F.args_str_split_2 _ _) (meets_str_split_sep x y t t' h1 hy hf (Nat.le_trans hsz (by decide)) (Nat.le_trans hsz2 (by decide))) ?_
      show wants Q E _ { s with toks := _, heap := s.heap.push { cls := .type "list", data := .seq (strsFrom s.toks (Builtin.Str.partsBetween x (Builtin.Str.occurrences x y 0 x.length (x.length + 1)) y.length)).toArray } }
      rw [strsFrom_eq]
      exact new (numbered s.toks _) _ ((numbered_texts _ _).trans ((if_neg (ne_true_of_eq_false h1)).trans (if_neg (ne_true_of_eq_false hf))).symm)
    · exact call_meets F.slot_str_split (typeIs_str _ _ _) F.entry_str_split (F.args_str_split_2 _ _) (meets_str_split_not_found x y t t' h1 hy hf)
        (new [(x, t)] _ ((if_neg (ne_true_of_eq_false h1)).trans (if_pos hf)).symm)
  · exact call_meets F.slot_str_split (typeIs_str _ _ _) F.entry_str_split (F.args_str_split_2 _ _) (meets_str_split_cannot_occur x y t t' h1)
      (new [(x, t)] _ (if_pos h1).symm)

theorem scount_sound {x y : Str} (rv : RdT O s.heap v (.str x)) (ru : RdT O s.heap u (.str y)) : Gv (model prog w) A (call (.builtin "str.count") [v, u]) O (.int (Txt.count x y)) s := by
  intro Q E hq
  obtain ⟨t, rfl⟩ := rv.str'
  obtain ⟨t', rfl⟩ := ru.str'
  exact SC.count (hq _ _ (Ks.toks s _) (.int _ _))
theorem lcount_sound {l : List D} {ns : List Int} {k : Int} (hi : intsD l = some ns) (rv : RdT O s.heap v (.lst l)) (ru : RdT O s.heap u (.int k)) : Gv (model prog w) A (call (.builtin "list.count") [v, u]) O (.int (ns.count k : Nat)) s := by
  intro Q E hq
  obtain ⟨a, vs, n, rfl, e, r⟩ := rv.list
  obtain ⟨t', rfl⟩ := ru.int'
  exact count_list_ints (isList_of e) (r.ints hi) (hq _ _ (Ks.toks s _) (.int _ _))
end
end Mine
end

section
open PySem PySem.W PyProof.Rows
set_option Elab.async false
namespace Mine
set_option maxRecDepth 100000
set_option linter.unusedVariables false

noncomputable def KasAll {α : Type} (n : Nat) (P : α → Prop) : KasT α → Prop
  | .ret a => P a
  | .ask i j k => i < n ∧ j < n ∧ ∀ b, KasAll n P (k b)
theorem KasAll.bind {α β : Type} {n : Nat} {P : α → Prop} {R : β → Prop} {f : α → KasT β} (hf : ∀ a, P a → KasAll n R (f a)) : ∀ {t : KasT α}, KasAll n P t → KasAll n R (t.bind f)
  | .ret a, h => hf a h
  | .ask i j k, h => ⟨h.1, h.2.1, fun b => KasAll.bind hf (h.2.2 b)⟩
noncomputable def runKas {α : Type} (lt : Nat → Nat → Bool) : KasT α → α
  | .ret a => a
  | .ask i j k => runKas lt (k (lt i j))
theorem KasAll.run {α : Type} {n : Nat} {P : α → Prop} (lt : Nat → Nat → Bool) : ∀ {t : KasT α}, KasAll n P t → P (runKas lt t)
  | .ret _, h => h
  | .ask i j k, h => by
    show P (runKas lt (k (lt i j)))
    exact KasAll.run (n := n) lt (h.2.2 (lt i j))
theorem KasAll.wp {α : Type} {n : Nat} {P : α → Prop} {lt : Nat → Nat → Bool} {cmp : Nat → Nat → (Bool → Shared → Prop) → Shared → Prop} {s : Shared} (hc : ∀ i j, i < n → j < n → ∀ C : Bool → Shared → Prop, C (lt i j) s → cmp i j C s) {Q : α → Shared → Prop} :
    ∀ {t : KasT α}, KasAll n P t → Q (runKas lt t) s → t.kasWp cmp Q s
  | .ret _, _, hq => hq
  | .ask i j k, h, hq => hc i j h.1 h.2.1 _ (KasAll.wp hc (h.2.2 _) hq)

/-- a permutation of 0 .. n - 1 -/
noncomputable def PermN (n : Nat) (p : Array Nat) : Prop := p.Perm (List.range n).toArray
theorem PermN.bd {n : Nat} (hn : 0 < n) {p : Array Nat} (h : PermN n p) (i : Nat) : p.getD i 0 < n := by
  by_cases hi : i < p.size
  · have hm : p.getD i 0 ∈ p := by simp [Array.getD, hi]
    have h' : p.toList.Perm (List.range n) := by
      have := h; unfold PermN at this; rw [Array.perm_iff_toList_perm] at this; simpa using this
    have := h'.mem_iff.mp (Array.mem_toList_iff.mpr hm)
    exact List.mem_range.mp this
  · simp [Array.getD, hi]; exact hn
theorem PermN.rev {n : Nat} {p : Array Nat} (h : PermN n p) (i j : Nat) : PermN n (kas_rev p i j) := (mirror_perm p i j _).trans h
theorem PermN.bub {n : Nat} {p : Array Nat} (h : PermN n p) (i j : Nat) : PermN n (bubble p i j) := (bubble_perm p i j).trans h

section
variable {n : Nat} (hn : 0 < n)
include hn
theorem asc_all {p : Array Nat} (h : PermN n p) : ∀ f m, KasAll n (fun _ => True) (kas_asc p f m)
  | 0, _ => trivial
  | f + 1, m => ⟨h.bd hn _, h.bd hn _, fun b => by cases b <;> simp <;> first | exact trivial | exact asc_all h f (m + 1)⟩
theorem desc_all : ∀ f p m q, PermN n p → KasAll n (fun r => PermN n r.1) (kas_desc f p m q)
  | 0, _, _, _, h => h
  | f + 1, p, m, q, h => ⟨h.bd hn _, h.bd hn _, fun b => by
      cases b with
      | true =>
        simp only [if_true]
        by_cases hq : q > 0
        · simp only [hq, if_true]; exact desc_all f _ _ _ (h.rev _ _)
        · simp only [hq, if_false]; exact desc_all f _ _ _ h
      | false =>
        simp only [Bool.false_eq_true, if_false]
        refine ⟨h.bd hn _, h.bd hn _, fun d => ?_⟩
        cases d with
        | true => exact h
        | false => exact desc_all f _ _ _ h⟩
theorem tail3_all {m nrem : Nat} {p : Array Nat} (h : PermN n p) : KasAll n (fun r => PermN n r.2) (kas_tail3 m nrem p) :=
  by
  unfold kas_tail3
  refine KasAll.bind (P := fun _ => True) (fun k _ => ?_) (asc_all hn (h.rev _ _) _ _)
  exact h.rev _ _
theorem descPart_all {m nrem : Nat} {p : Array Nat} (h : PermN n p) : KasAll n (fun r => PermN n r.2) (kas_descPart m nrem p) := by
  refine KasAll.bind (fun r hr => ?_) (desc_all hn _ _ _ _ h)
  split
  · exact tail3_all hn (PermN.rev hr _ _)
  · exact tail3_all hn hr
theorem count_all {nrem : Nat} {p : Array Nat} (h : PermN n p) : KasAll n (fun r => PermN n r.2) (kas_count nrem p) := by
  refine KasAll.bind (fun m _ => ?_) (asc_all hn h _ _)
  split
  · exact h
  · split
    · refine ⟨h.bd hn _, h.bd hn _, fun b => ?_⟩
      cases b with
      | true => exact h
      | false => exact descPart_all hn (h.rev _ _)
    · exact descPart_all hn h
theorem place_all {p : Array Nat} (h : PermN n p) (k : Nat) : ∀ f l r, KasAll n (fun _ => True) (kas_place p k f l r)
  | 0, _, _ => trivial
  | f + 1, l, r => by
    unfold kas_place
    split
    · exact trivial
    · refine ⟨h.bd hn _, h.bd hn _, fun b => ?_⟩
      cases b with
      | true => exact place_all h k f _ _
      | false => exact place_all h k f _ _
theorem bin_all : ∀ f p k, PermN n p → KasAll n (PermN n) (kas_bin f p k)
  | 0, _, _, h => h
  | f + 1, p, k, h => KasAll.bind (fun _ _ => bin_all f _ _ (h.bub _ _)) (place_all hn h k _ _ _)
theorem sort_all : KasAll n (PermN n) (kas_sort n) := by
  refine KasAll.bind (fun r hr => ?_) (count_all hn (Array.Perm.refl _))
  split
  · exact bin_all hn _ _ _ hr
  · exact hr
end

/-- pairs of ints -/
noncomputable def intD : D → Option Int
  | .int i => some i
  | _ => none
theorem intD_some {d : D} {i : Int} (h : intD d = some i) : d = .int i := by
  cases d with
  | int j => exact congrArg D.int (Option.some.inj h)
  | _ => exact none_some h
noncomputable def pairL : List D → Option (Int × Int)
  | [] => none
  | a :: r => match r with
    | [] => none
    | b :: r' => match r' with
      | [] => (intD a).bind fun i => (intD b).map fun j => (i, j)
      | _ :: _ => none
noncomputable def pairD : D → Option (Int × Int)
  | .tup l => pairL l
  | _ => none
theorem pairD_some {d : D} {p : Int × Int} (h : pairD d = some p) : d = .tup [.int p.1, .int p.2] := by
  cases d with
  | tup l =>
    cases l with
    | nil => exact none_some h
    | cons a r =>
      cases r with
      | nil => exact none_some h
      | cons b r =>
        cases r with
        | nil =>
          obtain ⟨i, h1, h⟩ := bind_some' h
          obtain ⟨j, h2, rfl⟩ := map_some' h
          rw [intD_some h1, intD_some h2]
        | cons _ _ => exact none_some h
  | _ => exact none_some h
noncomputable def pairsD : List D → Option (List (Int × Int))
  | [] => some []
  | d :: r => (pairD d).bind fun p => (pairsD r).map (p :: ·)
noncomputable def pairLt (p q : Int × Int) : Bool := if p.1 == q.1 then (if p.2 == q.2 then false else decide (p.2 < q.2)) else decide (p.1 < q.1)
noncomputable def sortIx (ps : List (Int × Int)) : List Nat := (runKas (fun i j => pairLt (ps.getD i (0, 0)) (ps.getD j (0, 0))) (kas_sort ps.length)).toList
noncomputable def sortD (l : List D) (ps : List (Int × Int)) : List D := (sortIx ps).map fun i => l.getD i .none
theorem sortIx_perm {ps : List (Int × Int)} (h : 0 < ps.length) : (sortIx ps).Perm (List.range ps.length) := by
  have := KasAll.run (fun i j => pairLt (ps.getD i (0, 0)) (ps.getD j (0, 0))) (sort_all h)
  unfold PermN at this; rw [Array.perm_iff_toList_perm] at this; exact this
theorem getD_range_map {α : Type} (l : List α) (d : α) : (List.range l.length).map (fun i => l.getD i d) = l := by
  apply List.ext_getElem
  · simp
  · intro i h1 h2; simp [List.getD_eq_getElem?_getD, h2]
theorem sortD_perm {l : List D} {ps : List (Int × Int)} (h : 0 < ps.length) (e : l.length = ps.length) : (sortD l ps).Perm l := by
  have h1 := (sortIx_perm h).map fun i => l.getD i D.none
  rw [← e, getD_range_map] at h1
  exact h1

inductive PairsAt (h : Heap) : List Value → List (Int × Int) → Prop
  | nil : PairsAt h [] []
  | cons {a : Addr} {n : Nat} {x y : Int} {t u : Tok} {vs : List Value} {ps : List (Int × Int)} : h.get? a = some (seqO "tuple" [.int x t, .int y u] n) → PairsAt h vs ps → PairsAt h (.ref a :: vs) ((x, y) :: ps)
theorem PairsAt.of {O : OSet} {h : Heap} {vs : List Value} {ds : List D} {ps : List (Int × Int)} (r : RdAll O h vs ds) (e : pairsD ds = some ps) : PairsAt h vs ps := by
  induction vs generalizing ds ps with
  | nil => cases r; obtain rfl := Option.some.inj e; exact .nil
  | cons v vs ih =>
    cases r with
    | cons x r =>
      obtain ⟨p, e1, e⟩ := bind_some' e
      obtain ⟨qs, e2, rfl⟩ := map_some' e
      rw [pairD_some e1] at x
      cases x with
      | tup e0 r0 =>
        cases r0 with
        | cons y r1 =>
          cases r1 with
          | cons z r2 => cases y; cases z; cases r2; exact .cons e0 (ih r e2)
theorem PairsAt.chg {h h' : Heap} (k : ∀ b o, h.get? b = some o → o.cls = .type "tuple" → h'.get? b = some o) {vs : List Value} {ps : List (Int × Int)} (r : PairsAt h vs ps) : PairsAt h' vs ps := by
  induction r with
  | nil => exact .nil
  | cons e _ ih => exact .cons (k _ _ e rfl) ih
theorem PairsAt.length {h : Heap} {vs : List Value} {ps : List (Int × Int)} (r : PairsAt h vs ps) : vs.length = ps.length := by
  induction r with
  | nil => rfl
  | cons _ _ ih => simp [ih]
theorem PairsAt.get {h : Heap} {vs : List Value} {ps : List (Int × Int)} (r : PairsAt h vs ps) {i : Nat} (hi : i < vs.length) :
    ∃ a n t u, vs.getD i .none = .ref a ∧ h.get? a = some (seqO "tuple" [.int (ps.getD i (0, 0)).1 t, .int (ps.getD i (0, 0)).2 u] n) := by
  induction r generalizing i with
  | nil => simp at hi
  | cons e _ ih =>
    cases i with
    | zero => exact ⟨_, _, _, _, rfl, e⟩
    | succ i => exact ih (by simpa using hi)
theorem PairsAt.tups {h : Heap} {vs : List Value} {ps : List (Int × Int)} (r : PairsAt h vs ps) : ∃ fs, KatTups h vs fs ∧ fs.length = vs.length ∧ ∀ v ∈ fs, ∃ i t, v = .int i t := by
  induction r with
  | nil => exact ⟨[], trivial, rfl, fun _ h => (nomatch h)⟩
  | cons e _ ih =>
    obtain ⟨fs, h1, h2, h3⟩ := ih
    refine ⟨_ :: fs, KatTups.cons e rfl rfl rfl h1, by simp [h2], ?_⟩
    intro v hv
    rcases List.mem_cons.mp hv with rfl | hv
    · exact ⟨_, _, rfl⟩
    · exact h3 v hv
theorem pairsD_length : ∀ {ds : List D} {ps : List (Int × Int)}, pairsD ds = some ps → ps.length = ds.length
  | [], _, e => by obtain rfl := Option.some.inj e; rfl
  | d :: r, ps, e => by
    obtain ⟨p, _, e⟩ := bind_some' e
    obtain ⟨qs, e1, rfl⟩ := map_some' e
    exact congrArg (· + 1) (pairsD_length e1)

section
variable {prog : Program} {w : World} {A : Around} {E : Value → Shared → Prop} {O : OSet} {s : Shared} {v : Value}
theorem ask_pairs {vs : List Value} {ps : List (Int × Int)} (r : PairsAt s.heap vs ps) {i j : Nat} (hi : i < vs.length) (hj : j < vs.length) {C : Bool → Shared → Prop} (hC : C (pairLt (ps.getD i (0, 0)) (ps.getD j (0, 0))) s) :
    kas_ask prog w A (tuples' true) vs i j C s := by
  obtain ⟨a, n, t, u, e1, g1⟩ := r.get hi
  obtain ⟨b, m, t', u', e2, g2⟩ := r.get hj
  unfold kas_ask
  rw [e1, e2]
  refine kat_lt g1 rfl g2 rfl ?_
  show KatLex prog w A true (decide (2 < 2)) C [(_, _), (_, _)] 0 s
  unfold pairLt at hC
  refine kat_cons (wpAny_eqBool_int ?_)
  by_cases h1 : (ps.getD i (0, 0)).1 = (ps.getD j (0, 0)).1
  · have hb : ((ps.getD i (0, 0)).1 == (ps.getD j (0, 0)).1) = true := by rw [beq_iff_eq]; exact h1
    rw [hb] at hC ⊢
    simp only [if_true] at hC
    refine kat_yes (kat_cons (wpAny_eqBool_int ?_))
    by_cases h2 : (ps.getD i (0, 0)).2 = (ps.getD j (0, 0)).2
    · have hb2 : ((ps.getD i (0, 0)).2 == (ps.getD j (0, 0)).2) = true := by rw [beq_iff_eq]; exact h2
      rw [hb2] at hC ⊢
      simp only [if_true] at hC
      exact kat_yes (kat_nil hC)
    · have hb2 : ((ps.getD i (0, 0)).2 == (ps.getD j (0, 0)).2) = false := by rw [beq_eq_false_iff_ne]; exact h2
      rw [hb2] at hC ⊢
      simp only [Bool.false_eq_true, if_false] at hC
      exact kat_no (kat_one _ _ (lt_int hC))
  · have hb : ((ps.getD i (0, 0)).1 == (ps.getD j (0, 0)).1) = false := by rw [beq_eq_false_iff_ne]; exact h1
    rw [hb] at hC ⊢
    simp only [Bool.false_eq_true, if_false] at hC
    exact kat_no (oneLt_int hC)

theorem sort_body {P : PySem.Fin → Shared → Prop} {a : Addr} {vs : List Value} {ps : List (Int × Int)} (r : PairsAt s.heap vs ps) (ho : s.heap.get? a = some (seqO "list" vs 0)) (h2 : 2 ≤ vs.length) (h64 : vs.length < 64)
    (hP : ∀ h' c, (∀ b o, b ≠ a → s.heap.get? b = some o → h'.get? b = some o) → h'.get? a = some (seqO "list" ((sortIx ps).map fun i => vs.getD i Value.none) c) → P (.done (.ret .none)) { s with heap := h' }) :
    wpAny (model prog w) A (Builtin.«list.sort» ⟨[.ref a], []⟩) P E s := by
  have ho' : s.heap.get? a = some (seqObj "list" vs.toArray 0) := ho
  have ha : a < s.heap.objs.size := Heap.lt_size ho
  have s1 := Heap.SameBut.update s.heap a (Obj.mapSeq fun _ => (#[] : Array Value))
  obtain ⟨e1, ho1⟩ : ∃ e1, (s.heap.update a (Obj.mapSeq fun _ => (#[] : Array Value))).get? a = some (seqObj "list" #[] e1) := ⟨_, get?_update_seq ho' fun _ => #[]⟩
  generalize hH : ((s.heap.update a (Obj.mapSeq fun _ => (#[] : Array Value))).push (seqObj "tuple" vs.toArray 0)).push (seqObj "list" #[] 0) = H
  have keep : ∀ b o, b ≠ a → s.heap.get? b = some o → H.get? b = some o := fun b o hb e => by
    rw [← hH]
    exact Heap.get?_push_of_some _ (Heap.get?_push_of_some _ ((s1.2 b hb).trans e))
  have hoH : H.get? a = some (seqObj "list" #[] e1) := by
    rw [← hH]
    exact Heap.get?_push_of_some _ (Heap.get?_push_of_some _ ho1)
  have rH : PairsAt H vs ps := r.chg fun b o e k => keep b o (by rintro rfl; rw [ho] at e; cases e; simp [seqO] at k) e
  have hlen := r.length
  rw [list_sort_plain]
  refine wpAny_bind (listItems_at ho' rfl ?_)
  refine wpAny_bind (listUpdate_at ho' rfl ?_ (by rw [List.size_toArray, sizeLine_eq]; omega) (Nat.zero_le _))
  refine wpAny_bind (seqEpoch_at ho1 rfl ?_)
  refine wpAny_bind (wpAny_newTuple ?_ (by show vs.length ≤ _; rw [sizeLine_eq]; omega))
  refine wpAny_bind (wpAny_newList ?_ (Nat.zero_le _))
  refine wpAny_holding ?_
  show wpAny (model prog w) A _ P E { s with heap := ((s.heap.update a (Obj.mapSeq fun _ => (#[] : Array Value))).push (seqObj "tuple" vs.toArray 0)).push (seqObj "list" #[] 0) }
  rw [hH]
  dsimp only
  have hn2 : ¬ vs.toArray.size < 2 := by rw [List.size_toArray]; omega
  rw [if_neg hn2, if_neg hn2]
  obtain ⟨fs, ht, hfl, hfi⟩ := rH.tups
  have kind : wpAny (model prog w) A (keyKind' vs.toArray) (fun κ s' => κ = tuples' true ∧ s' = { s with heap := H }) E { s with heap := H } := by
    refine kat_kind (T := .type "int") ht (by omega) (fun v hv => ?_) (by decide) ⟨by rfl, rfl⟩
    obtain ⟨i, t, rfl⟩ := hfi v hv
    exact Looks.of_pure rfl
  refine wpAny_bind (wpAny_mono kind (fun κ s0 hk => ?_) fun _ _ x => x)
  obtain ⟨rfl, rfl⟩ := hk
  have run := kat_run (prog := prog) (w := w) (A := A) (E := E) (κ := tuples' true) (ks := vs) (vs := vs) (s := { s with heap := H })
    (Q := fun st' s' => s' = { s with heap := H } ∧ arrOf st' = (runKas (fun i j => pairLt (ps.getD i (0, 0)) (ps.getD j (0, 0))) (kas_sort vs.length)).map (kas_item (vs.toArray.zip vs.toArray)) ∧ failedOf st' = none)
    (G := fun p s' => s' = { s with heap := H } ∧ p = runKas (fun i j => pairLt (ps.getD i (0, 0)) (ps.getD j (0, 0))) (kas_sort vs.length))
    rfl h2 h64 (fun p' st' s' a1 a2 a3 a4 => ⟨a4.1, by rw [a2, a4.2], a3⟩)
    (KasAll.wp (s := { s with heap := H }) (lt := fun i j => pairLt (ps.getD i (0, 0)) (ps.getD j (0, 0))) (fun i j hi hj C hC => ask_pairs rH hi hj hC) (sort_all (n := vs.length) (by omega)) ⟨rfl, rfl⟩)
  refine wpAny_bind (wpAny_mono run ?_ fun _ _ e => e)
  rintro ⟨⟨⟩, st'⟩ s' ⟨rfl, har, hf⟩
  dsimp only
  have hout := kat_snds rfl har
  have hix : (sortIx ps) = (runKas (fun i j => pairLt (ps.getD i (0, 0)) (ps.getD j (0, 0))) (kas_sort vs.length)).toList := by unfold sortIx; rw [hlen]
  rw [hout, ← hix]
  have hpl : (sortIx ps).length = ps.length := by rw [(sortIx_perm (by omega)).length_eq, List.length_range]
  have s2 := Heap.SameBut.update H a (Obj.mapSeq fun _ => List.toArray ((sortIx ps).map fun i => vs.getD i Value.none))
  obtain ⟨c2, hc2⟩ : ∃ c2, (H.update a (Obj.mapSeq fun _ => List.toArray ((sortIx ps).map fun i => vs.getD i Value.none))).get? a = some (seqObj "list" (List.toArray ((sortIx ps).map fun i => vs.getD i Value.none)) c2) := ⟨_, get?_update_seq hoH fun _ => List.toArray ((sortIx ps).map fun i => vs.getD i Value.none)⟩
  refine wpAny_bind (seqEpoch_at hoH rfl ?_)
  refine wpAny_bind (listUpdate_at hoH rfl ?_ (Nat.zero_le _) (by rw [List.size_toArray, List.length_map, hpl, sizeLine_eq]; omega))
  rw [hf]
  simp only [bne_self_eq_false, Bool.false_eq_true, if_false]
  exact wpAny_pure (hP _ c2 (fun b o hb e => (s2.2 b hb).trans (keep b o hb e)) hc2)

theorem RdAll.getD {h : Heap} {vs : List Value} {ds : List D} (r : RdAll O h vs ds) : ∀ {l : List Nat}, (∀ i ∈ l, i < vs.length) → RdAll O h (l.map fun i => vs.getD i Value.none) (l.map fun i => ds.getD i D.none)
  | [], _ => .nil
  | i :: l, hl => by
    have hi := hl i List.mem_cons_self
    have hd : ds[i]? = some (ds.getD i D.none) := by
      rw [List.getD_eq_getElem?_getD, List.getElem?_eq_getElem (by rw [← r.length]; exact hi)]; rfl
    obtain ⟨v, e, q⟩ := r.get hd
    have : vs.getD i Value.none = v := by rw [List.getD_eq_getElem?_getD, e]; rfl
    refine .cons ?_ (RdAll.getD r fun j hj => hl j (List.mem_cons_of_mem _ hj))
    show Rd O h (vs.getD i Value.none) _
    rw [this]; exact q

theorem sorted_sound {l : List D} {ps : List (Int × Int)} (al : Alive O s.heap) (hp : pairsD l = some ps) (h2 : 2 ≤ l.length) (h64 : l.length < 64) (rv : RdT O s.heap v (.lst l)) : Gv (model prog w) A (call (.builtin "sorted") [v]) O (.lst (sortD l ps)) s := by
  intro Q E hq
  obtain ⟨a, vs, n, rfl, e, r⟩ := rv.list
  have hlen := r.length
  have hpl := pairsD_length hp
  refine Calls.call_function_entry kind_sorted plain_sorted entry_sorted (args_sorted1 _) ?_
  unfold Builtin.«sorted»
  refine wpAny_bind (m := checkCount "sorted" 1 1 _) (wpAny_pure ?_)
  refine wpAny_bind (collect_list (isList_of e) ?_ (by rw [sizeLine_eq]; omega))
  refine wpAny_bind (wpAny_newList ?_ (by rw [sizeLine_eq]; omega))
  generalize hH : (s.heap.push (seqObj "list" #[] 0)).update s.heap.objs.size (Obj.mapSeq (· ++ vs.toArray)) = H
  have hsz : H.objs.size = s.heap.objs.size + 1 := by rw [← hH, Heap.size_update, size_push']
  have keep : Kp s.heap H := fun b o q => by
    have hlt : b < s.heap.objs.size := Heap.lt_size q
    rw [← hH, Heap.get?_update_ne _ _ _ _ (Nat.ne_of_lt hlt)]
    exact Heap.get?_push_of_some _ q
  show wpAny _ _ _ _ _ { s with heap := H.push (seqObj "list" vs.toArray 0) }
  have hoL : (H.push (seqObj "list" vs.toArray 0)).get? H.objs.size = some (seqO "list" vs 0) := Heap.get?_push_size _ rfl
  have keep2 : Kp s.heap (H.push (seqObj "list" vs.toArray 0)) := keep.trans (Kp.push _ _)
  have r2 := r.kp keep2
  refine wpAny_bind (wpAny_holding (wpAny_call_entry slot_list_sort ⟨_, hoL, rfl⟩ entry_list_sort ?_ (args_list_sort _)))
  refine sort_body (s := { s with heap := H.push (seqObj "list" vs.toArray 0) }) (PairsAt.of r2 hp) hoL (by omega) (by omega) fun h' c k hc => ?_
  have kk : Kp s.heap h' := fun b o q => by
    refine k b o ?_ (keep2 b o q)
    have := Heap.lt_size q
    rintro rfl; rw [hsz] at this; exact Nat.lt_irrefl _ (Nat.lt_of_succ_lt this)
  refine ⟨_, rfl, wpAny_pure ⟨_, rfl, ?_⟩⟩
  refine hq _ { s with heap := h' } (Ks.mk' (tk := s.toks) kk) (.lst (al.new (by show s.heap.objs.size ≤ H.objs.size; omega)) hc ?_)
  refine (r.kp kk).getD fun i hi => ?_
  have := (sortIx_perm (ps := ps) (by omega)).mem_iff.mp hi
  rw [List.mem_range] at this; omega
end
end Mine
end

section
open PySem PySem.W PyProof.Rows
set_option Elab.async false
namespace Mine
set_option maxRecDepth 100000
set_option linter.unusedVariables false

/-- what a global name stands for -/
inductive GV where
  | fn (a : Addr) (F : List D → Option D)
  | val (d : D)
  | bi (id : String)
  | ty (T : String)

noncomputable abbrev Sg := List (Str × D)

noncomputable def constD : Const → Option D
  | .int i => some (.int i)
  | .float x => some (.flt x)
  | .str x => some (.str x)
  | .none => some .none
  | .bool b => some (.bool b)
  | _ => none

noncomputable def lstO : D → Option (List D)
  | .lst l => some l
  | _ => none
theorem lstO_some {d : D} {l : List D} (h : lstO d = some l) : d = .lst l := by
  cases d with
  | lst x => exact congrArg D.lst (Option.some.inj h)
  | _ => exact none_some h
noncomputable def fltO : D → Option UInt64
  | .flt x => some x
  | _ => none
theorem fltO_some {d : D} {x : UInt64} (h : fltO d = some x) : d = .flt x := by
  cases d with
  | flt y => exact congrArg D.flt (Option.some.inj h)
  | _ => exact none_some h
noncomputable def txtO : D → Option Str
  | .str x => some x
  | _ => none
theorem txtO_some {d : D} {x : Str} (h : txtO d = some x) : d = .str x := by
  cases d with
  | str y => exact congrArg D.str (Option.some.inj h)
  | _ => exact none_some h
noncomputable def get1 : List D → Option D
  | [] => none
  | a :: r => match r with
    | [] => some a
    | _ :: _ => none
theorem get1_some {l : List D} {a : D} (h : get1 l = some a) : l = [a] := by
  cases l with
  | nil => exact none_some h
  | cons b r =>
    cases r with
    | nil => obtain rfl := Option.some.inj h; rfl
    | cons _ _ => exact none_some h
noncomputable def get2 : List D → Option (D × D)
  | [] => none
  | a :: r => (get1 r).map fun b => (a, b)
theorem get2_some {l : List D} {q : D × D} (h : get2 l = some q) : l = [q.1, q.2] := by
  cases l with
  | nil => exact none_some h
  | cons b r =>
    obtain ⟨c, h1, rfl⟩ := map_some' h
    rw [get1_some h1]
noncomputable def get3 : List D → Option (D × D × D)
  | [] => none
  | a :: r => (get2 r).map fun b => (a, b)
theorem get3_some {l : List D} {q : D × D × D} (h : get3 l = some q) : l = [q.1, q.2.1, q.2.2] := by
  cases l with
  | nil => exact none_some h
  | cons b r =>
    obtain ⟨c, h1, rfl⟩ := map_some' h
    rw [get2_some h1]
noncomputable def flts3 (ds : List D) : Option (UInt64 × UInt64 × UInt64) := (get3 ds).bind fun q => (fltO q.1).bind fun a => (fltO q.2.1).bind fun b => (fltO q.2.2).map fun c => (a, b, c)
theorem flts3_some {l : List D} {q : UInt64 × UInt64 × UInt64} (h : flts3 l = some q) : l = [.flt q.1, .flt q.2.1, .flt q.2.2] := by
  obtain ⟨z, h0, h⟩ := bind_some' h
  obtain ⟨a, h1, h⟩ := bind_some' h
  obtain ⟨b, h2, h⟩ := bind_some' h
  obtain ⟨c, h3, rfl⟩ := map_some' h
  rw [get3_some h0, fltO_some h1, fltO_some h2, fltO_some h3]
noncomputable def lst1 (ds : List D) : Option (List D) := (get1 ds).bind lstO
theorem lst1_some {ds l : List D} (h : lst1 ds = some l) : ds = [.lst l] := by
  obtain ⟨a, h1, h⟩ := bind_some' h
  rw [get1_some h1, lstO_some h]
noncomputable def truncD (x : UInt64) : Option D := match Float64.decode x with
  | .fin sg m e => some (.int (Float64.truncOf sg m e))
  | _ => none

noncomputable def biD (id : String) (ds : List D) : Option D :=
  if id = "len" then (lst1 ds).bind fun l => if l.length ≤ 2 ^ 20 then some (.int l.length) else none
  else if id = "sum" then (lst1 ds).bind fun l => (intsD l).map fun ns => .int ns.sum
  else if id = "max" then (flts3 ds).map fun q => .flt (fltBest .gt q.1 q.2.1 q.2.2)
  else if id = "min" then (flts3 ds).map fun q => .flt (fltBest .lt q.1 q.2.1 q.2.2)
  else if id = "sorted" then (lst1 ds).bind fun l => (pairsD l).bind fun ps => if 2 ≤ l.length ∧ l.length < 64 then some (.lst (sortD l ps)) else none
  else none
noncomputable def tyD (T : String) (ds : List D) : Option D :=
  if T = "range" then (match get1 ds with
    | some a => (intD a).map fun n => .rng 0 n
    | none => (get2 ds).bind fun q => (intD q.1).bind fun a => (intD q.2).map fun b => .rng a b)
  else if T = "int" then ((get1 ds).bind fltO).bind truncD
  else none
noncomputable def methD (name : Str) (b : D) (ds : List D) : Option D :=
  match b with
  | .str x =>
    if name = Str.ofString "join" then (lst1 ds).bind fun l => (strsD l).bind fun ys => if (ys.map (·.length)).sum + ys.length * x.length ≤ 2 ^ 20 then some (.str (Txt.join x ys)) else none
    else if name = Str.ofString "split" then ((get1 ds).bind txtO).bind fun y => if (y.length == 0) = false ∧ x.length ≤ 2 ^ 20 ∧ (Builtin.Str.partsBetween x (Builtin.Str.occurrences x y 0 x.length (x.length + 1)) y.length).length ≤ 2 ^ 20 then some (.lst ((Txt.split x y).map D.str)) else none
    else if name = Str.ofString "count" then ((get1 ds).bind txtO).map fun y => .int (Txt.count x y)
    else none
  | .lst l => if name = Str.ofString "count" then ((get1 ds).bind intD).bind fun k => (intsD l).map fun ns => .int (ns.count k : Nat) else none
  | _ => none

noncomputable def trAll (f : PySem.Expr → Option Bool) (op : BoolOp) : List PySem.Expr → Option Bool
  | [] => some (op == .And)
  | x :: r => (f x).bind fun b => match op, b with
    | .And, false => some false
    | .Or, true => some true
    | _, _ => trAll f op r
noncomputable def allD (f : PySem.Expr → Option D) : List PySem.Expr → Option (List D)
  | [] => some []
  | e :: r => (f e).bind fun d => (allD f r).bind fun ds => some (d :: ds)
noncomputable def compD (test : D → Option Bool) (elt : D → Option D) : List D → Option (List D)
  | [] => some []
  | d :: r => (test d).bind fun b => match b with
    | true => (elt d).bind fun y => (compD test elt r).bind fun ys => some (y :: ys)
    | false => compD test elt r
/-- two clauses: the inner lists one behind the other -/
noncomputable def compD2 (inner : D → Option (List D)) : List D → Option (List D)
  | [] => some []
  | d :: r => (inner d).bind fun ys => (compD2 inner r).bind fun zs => some (ys ++ zs)
noncomputable def rngL (a b : Int) : List D := (List.range (b - a).toNat).map fun (i : Nat) => D.int (a + (i : Int))
noncomputable def itemsD : D → Option (List D)
  | .lst l => if l.length ≤ 2 ^ 20 then some l else none
  | .rng a b => if smallI a = true ∧ smallI b = true ∧ b - a ≤ 2 ^ 20 then some (rngL a b) else none
  | _ => none
noncomputable def enumL : Nat → List D → List D
  | _, [] => []
  | i, d :: r => D.tup [.int i, d] :: enumL (i + 1) r
noncomputable def isStar : PySem.Expr → Bool
  | .Starred _ _ => true
  | _ => false
noncomputable def weakE (own : List Str) : PySem.Expr → Bool
  | .Name x _ => own.contains x
  | _ => false
noncomputable def nameOk (x : Str) : Bool := !(x == Str.ofString "__debug__") && !(x == Str.ofString "__classdict__")
noncomputable def scopeOk (scope : Scope) (cn : List Str) : Bool :=
  decide (scope.kind = .function) && scope.names.all (fun y => nameOk y.1) && scope.names.all (fun y => decide (y.2 ≠ .cell)) &&
  scope.names.all (fun y => decide (y.2 = .local → scope.names.lookup y.1 = some .local)) &&
  scope.names.all (fun y => decide (y.2 = .free → cn.contains y.1 = true ∧ scope.names.lookup y.1 = some .free))
noncomputable def freeN (scope : Scope) : List Str := (scope.names.filter fun y => decide (y.2 = .free)).map (·.1)
noncomputable def seen (scope : Scope) (σ : Sg) : Sg := σ.filter fun p => decide (scope.names.lookup p.1 = some .free)
noncomputable def baseOk : PySem.Expr → Bool
  | .Constant .. | .Name .. | .Subscript .. => true
  | .Call _ (_ :: _) _ _ => true
  | _ => false
noncomputable def setE : PySem.Expr → Bool
  | .Set .. => true
  | _ => false
noncomputable def optD (f : PySem.Expr → Option D) : Option PySem.Expr → Option (Option Int)
  | none => some none
  | some e => (f e).bind fun d => (intD d).map some

noncomputable def fwD (σ : Sg) (f : PySem.Expr → Option D) : PySem.Expr → Option D
  | .Name x p => (match σ.lookup x with
    | some d => some d
    | none => f (.Name x p))
  | e => f e

noncomputable def nameE : PySem.Expr → Option (Str × Pos)
  | .Name x p => some (x, p)
  | _ => none
theorem nameE_some {e : PySem.Expr} {q : Str × Pos} (h : nameE e = some q) : e = .Name q.1 q.2 := by
  cases e with
  | Name x p => obtain rfl := Option.some.inj h; rfl
  | _ => exact none_some h
/-- the lone argument behind a star -/
noncomputable def starE : List PySem.Expr → Option (PySem.Expr × Pos)
  | [] => none
  | e :: r => match r with
    | [] => (match e with
      | .Starred x p => some (x, p)
      | _ => none)
    | _ :: _ => none
theorem starE_some {es : List PySem.Expr} {q : PySem.Expr × Pos} (h : starE es = some q) : es = [.Starred q.1 q.2] := by
  cases es with
  | nil => exact none_some h
  | cons e r =>
    cases r with
    | cons _ _ => exact none_some h
    | nil =>
      cases e with
      | Starred x p => obtain rfl := Option.some.inj h; rfl
      | _ => exact none_some h
noncomputable def sliceE : PySem.Expr → Option (Option PySem.Expr × Option PySem.Expr × Option PySem.Expr × Pos)
  | .Slice lo hi st p => some (lo, hi, st, p)
  | _ => none
theorem sliceE_some {e : PySem.Expr} {q : Option PySem.Expr × Option PySem.Expr × Option PySem.Expr × Pos} (h : sliceE e = some q) : e = .Slice q.1 q.2.1 q.2.2.1 q.2.2.2 := by
  cases e with
  | Slice lo hi st p => obtain rfl := Option.some.inj h; rfl
  | _ => exact none_some h
/-- a call of a name with one argument -/
noncomputable def callE : PySem.Expr → Option (Str × Pos × PySem.Expr × Pos)
  | .Call f es ks p => (nameE f).bind fun q => match es with
    | [] => none
    | e :: r => match r, ks with
      | [], [] => some (q.1, q.2, e, p)
      | _, _ => none
  | _ => none
theorem callE_some {e : PySem.Expr} {q : Str × Pos × PySem.Expr × Pos} (h : callE e = some q) : e = .Call (.Name q.1 q.2.1) [q.2.2.1] [] q.2.2.2 := by
  cases e with
  | Call f es ks p =>
    obtain ⟨z, h1, h⟩ := bind_some' h
    rw [nameE_some h1]
    cases es with
    | nil => exact none_some h
    | cons e r =>
      cases r with
      | cons _ _ => exact none_some h
      | nil =>
        cases ks with
        | cons _ _ => exact none_some h
        | nil => obtain rfl := Option.some.inj h; rfl
  | _ => exact none_some h
/-- a pair of names -/
noncomputable def pairE : PySem.Expr → Option (Str × Str)
  | .Tuple es _ _ => (match es with
    | [] => none
    | a :: r => match r with
      | [] => none
      | b :: r' => match r' with
        | [] => (nameE a).bind fun x => (nameE b).map fun y => (x.1, y.1)
        | _ :: _ => none)
  | _ => none
theorem pairE_some {e : PySem.Expr} {q : Str × Str} (h : pairE e = some q) : ∃ px py tt tp, e = .Tuple [.Name q.1 px, .Name q.2 py] tt tp := by
  cases e with
  | Tuple es tt tp =>
    cases es with
    | nil => exact none_some h
    | cons a r =>
      cases r with
      | nil => exact none_some h
      | cons b r =>
        cases r with
        | cons _ _ => exact none_some h
        | nil =>
          obtain ⟨x, h1, h⟩ := bind_some' h
          obtain ⟨y, h2, rfl⟩ := map_some' h
          rw [nameE_some h1, nameE_some h2]
          exact ⟨_, _, _, _, rfl⟩
  | _ => exact none_some h
noncomputable def gen1 (g : Comprehension) : Option (Str × Pos) := if g.is_async = 0 then nameE g.target else none
theorem gen1_some {g : Comprehension} {q : Str × Pos} (h : gen1 g = some q) : g = ⟨.Name q.1 q.2, g.iter, g.ifs, 0⟩ := by
  obtain ⟨h0, h⟩ := ite_some h
  obtain ⟨t, i, f, a⟩ := g
  rw [← nameE_some h]
  exact congrArg (Comprehension.mk t i f) h0
noncomputable def keepE : PySem.Expr → Bool
  | .Constant .. | .Subscript .. => true
  | _ => false
noncomputable def strO : D → Option D
  | .str x => some (.str x)
  | _ => none
theorem strO_some {d b : D} (h : strO d = some b) : d = b ∧ ∃ x, b = .str x := by
  cases d with
  | str x => obtain rfl := Option.some.inj h; exact ⟨rfl, x, rfl⟩
  | _ => exact none_some h
noncomputable def boolO : D → Option Bool
  | .bool b => some b
  | _ => none
theorem boolO_some {d : D} {b : Bool} (h : boolO d = some b) : d = .bool b := by
  cases d with
  | bool x => exact congrArg D.bool (Option.some.inj h)
  | _ => exact none_some h
noncomputable def negO : D → Option D
  | .int i => some (.int (-i))
  | _ => none
noncomputable def tupO : D → Option (List D)
  | .tup l => some l
  | _ => none
theorem tupO_some {d : D} {l : List D} (h : tupO d = some l) : d = .tup l := by
  cases d with
  | tup x => exact congrArg D.tup (Option.some.inj h)
  | _ => exact none_some h
noncomputable def valO : GV → Option D
  | .val d => some d
  | _ => none
theorem valO_some {g : GV} {d : D} (h : valO g = some d) : g = .val d := by
  cases g with
  | val x => exact congrArg GV.val (Option.some.inj h)
  | _ => exact none_some h
noncomputable def fnO : GV → Option (Addr × (List D → Option D))
  | .fn a F => some (a, F)
  | _ => none
theorem fnO_some {g : GV} {q : Addr × (List D → Option D)} (h : fnO g = some q) : g = .fn q.1 q.2 := by
  cases g with
  | fn a F => obtain rfl := Option.some.inj h; rfl
  | _ => exact none_some h
noncomputable def tyO : GV → Option String
  | .ty T => some T
  | _ => none
theorem tyO_some {g : GV} {T : String} (h : tyO g = some T) : g = .ty T := by
  cases g with
  | ty x => exact congrArg GV.ty (Option.some.inj h)
  | _ => exact none_some h
/-- a value called -/
noncomputable def gvD (weak : Bool) (ds : List D) : GV → Option D
  | .fn _ F => (F ds).bind fun d => if weak = true then (if d.flat = true then some d else none) else some d
  | .bi id => biD id ds
  | .ty T => tyD T ds
  | .val _ => none

/-- the two parts of a pair -/
noncomputable def pairO : D → Option (D × D)
  | .tup l => (match l with
    | [] => none
    | a :: r => match r with
      | [] => none
      | b :: r' => match r' with
        | [] => some (a, b)
        | _ :: _ => none)
  | _ => none

noncomputable def optE {α β : Type} (o : Option α) (f : α → β) (b : β) : β := match o with
  | some a => f a
  | none => b
theorem optE_cases {α β : Type} {o : Option α} {f : α → Option β} {b : Option β} {d : β} (h : optE o f b = some d) : (∃ a, o = some a ∧ f a = some d) ∨ (o = none ∧ b = some d) := by
  cases o with
  | some a => exact .inl ⟨a, rfl, h⟩
  | none => exact .inr ⟨rfl, h⟩

mutual
noncomputable def ev (Γ : List (Str × GV)) : Nat → List (Str × NameKind) → List Str → List Str → Sg → PySem.Expr → Option D
  | 0, _, _, _, _, _ => none
  | n + 1, sc, cn, own, σ, e =>
    match e with
    | .Constant c _ _ => constD c
    | .Name x _ => if own.contains x = true then none else (match σ.lookup x with
      | some d => some d
      | none => if sc.lookup x = some .globalImplicit then (Γ.lookup x).bind valO else none)
    | .BinOp l op r _ => (fwD σ (ev Γ n sc cn own σ) l).bind fun a => (fwD σ (ev Γ n sc cn own σ) r).bind fun b => binD op a b
    | .UnaryOp op x _ => if op = .USub then (ev Γ n sc cn own σ x).bind negO else none
    | .IfExp t b o _ => (tr Γ n sc cn own σ t).bind fun c => match c with
      | true => ev Γ n sc cn own σ b
      | false => ev Γ n sc cn own σ o
    | .Compare l ops rs _ => (match ops, rs with
      | [op], [r] => if setE r = true then none else (fwD σ (ev Γ n sc cn own σ) l).bind fun a => (fwD σ (ev Γ n sc cn own σ) r).bind fun b => (cmpD op a b).map D.bool
      | _, _ => none)
    | .List es _ => if es.length ≤ 2 ^ 20 then (allD (ev Γ n sc cn own σ) es).map D.lst else none
    | .Tuple es _ _ => if es.length ≤ 2 ^ 20 then (allD (ev Γ n sc cn own σ) es).map D.tup else none
    | .ListComp elt gens scope _ => (compE Γ n sc cn own σ elt gens scope).map D.lst
    | .Call f args ks pos => (match ks with
      | _ :: _ => none
      | [] => (match f with
        | .Name g _ =>
          if sc.lookup g = some .globalImplicit then
            (match starE args with
            | some q => (ev Γ n sc cn own σ q.1).bind fun v => (tupO v).bind fun ds => if ds.length ≤ 64 then ((Γ.lookup g).bind fnO).bind fun F => F.2 ds else none
            | none => (allD (fwD σ (ev Γ n sc cn own σ)) args).bind fun ds => (Γ.lookup g).bind (gvD (args.any (weakE own)) ds))
          else none
        | .Attribute o name ap =>
          if baseOk o = true ∧ (ap.endLine == pos.line) = true ∧ args.length < 20 then
            (if keepE o = true then ev Γ n sc cn own σ o else (fwD σ (ev Γ n sc cn own σ) o).bind strO).bind fun b => (allD (fwD σ (ev Γ n sc cn own σ)) args).bind fun ds => methD name b ds
          else none
        | _ => none))
    | .Subscript v i _ => (fwD σ (ev Γ n sc cn own σ) v).bind fun x => match sliceE i with
      | some q => (optD (ev Γ n sc cn own σ) q.1).bind fun a => (optD (ev Γ n sc cn own σ) q.2.1).bind fun b => (optD (ev Γ n sc cn own σ) q.2.2.1).bind fun c => sliceD x a b c
      | none => (ev Γ n sc cn own σ i).bind fun k => itemD x k
    | _ => none
noncomputable def tr (Γ : List (Str × GV)) : Nat → List (Str × NameKind) → List Str → List Str → Sg → PySem.Expr → Option Bool
  | 0, _, _, _, _, _ => none
  | n + 1, sc, cn, own, σ, e =>
    match e with
    | .UnaryOp op x _ => if op = .Not then (tr Γ n sc cn own σ x).map fun b => !b else none
    | .BoolOp op es _ => trAll (tr Γ n sc cn own σ) op es
    | .Compare l ops rs _ => (match ops, rs with
      | [op], [r] => if setE r = true then none else (fwD σ (ev Γ n sc cn own σ) l).bind fun a => (fwD σ (ev Γ n sc cn own σ) r).bind fun b => cmpD op a b
      | _, _ => none)
    | .Call g args ks p => (ev Γ n sc cn own σ (.Call g args ks p)).bind boolO
    | _ => none
noncomputable def compE (Γ : List (Str × GV)) : Nat → List (Str × NameKind) → List Str → List Str → Sg → PySem.Expr → List Comprehension → Scope → Option (List D)
  | 0, _, _, _, _, _, _, _ => none
  | n + 1, sc, cn, own, σ, elt, gens, scope =>
    match gens with
    | [] => none
    | g :: r => match r with
      | [] => optE (gen1 g) (fun x =>
          if scopeOk scope cn = true ∧ scope.names.lookup x.1 = some .local ∧ own.contains x.1 = false ∧ setE g.iter = false ∧ g.ifs.length ≤ 1 then
            (ev Γ n sc cn own σ g.iter).bind fun src => (itemsD src).bind fun l =>
              compD (fun d => trAll (tr Γ n scope.names (freeN scope) own ((x.1, d) :: seen scope σ)) .And g.ifs) (fun d => ev Γ n scope.names (freeN scope) own ((x.1, d) :: seen scope σ) elt) l
          else none) ((pairE g.target).bind fun p => (callE g.iter).bind fun q =>
          if scopeOk scope cn = true ∧ scope.names.lookup p.1 = some .local ∧ scope.names.lookup p.2 = some .local ∧ own.contains p.1 = false ∧ own.contains p.2 = false ∧ p.1 ≠ p.2 ∧ sc.lookup q.1 = some .globalImplicit ∧ g.ifs.isEmpty = true ∧ g.is_async = 0 ∧ (Γ.lookup q.1).bind tyO = some "enumerate" then
            (ev Γ n sc cn own σ q.2.2.1).bind fun v => (lstO v).bind fun l => if l.length ≤ 2 ^ 20 then compD (fun _ => some true) (fun d => (pairO d).bind fun z =>
              ev Γ n scope.names (freeN scope) own ((p.2, z.2) :: (p.1, z.1) :: seen scope σ) elt) (enumL 0 l) else none
          else none)
      | g' :: r' => match r' with
        | [] => (gen1 g).bind fun x => (gen1 g').bind fun y =>
          if scopeOk scope cn = true ∧ scope.names.lookup x.1 = some .local ∧ scope.names.lookup y.1 = some .local ∧ own.contains x.1 = false ∧ own.contains y.1 = false ∧ x.1 ≠ y.1 ∧ setE g.iter = false ∧ setE g'.iter = false ∧ g.ifs.isEmpty = true ∧ g'.ifs.isEmpty = true then
            (ev Γ n sc cn own σ g.iter).bind fun src => (itemsD src).bind fun l => if l.length ≤ 8 then
              compD2 (fun d => (ev Γ n scope.names (freeN scope) own ((x.1, d) :: seen scope σ) g'.iter).bind fun src' => (itemsD src').bind fun l' =>
                compD (fun _ => some true) (fun d' => ev Γ n scope.names (freeN scope) own ((y.1, d') :: (x.1, d) :: seen scope σ) elt) l') l else none
          else none
        | _ :: _ => none
end
end Mine
end

section
open PySem PySem.W PyProof.Rows
set_option Elab.async false
namespace Mine
set_option maxRecDepth 100000
set_option linter.unusedVariables false

/-- room around -/
structure AOk (k : Nat) (A : Around) : Prop where
  hd : A.handled = none
  dp : A.depth + k < recursionLimit
  un : A.units + 10 * k + 200 < cLine
theorem AOk.mono {k j : Nat} {A : Around} (h : AOk k A) (hj : j ≤ k) : AOk j A := ⟨h.hd, by have := h.dp; omega, by have := h.un; omega⟩
theorem AOk.deeper {k : Nat} {A : Around} {env : Env} (h : AOk (k + 1) A) : AOk k (A.deeper env) := by
  refine ⟨h.hd, ?_, ?_⟩
  · show A.depth + 1 + k < _; have := h.dp; omega
  · show A.units + 3 + 10 * k + 200 < _; have := h.un; omega

/-- what the heap holds of the text -/
structure Bs (mg mb : Str → Option Value) (K : List (Addr × Obj)) (h : Heap) : Prop where
  g : h.Ns mainGlobals mg
  b : h.Ns builtinsNs mb
  lim : h.NoLimit
  k : ∀ p ∈ K, h.get? p.1 = some p.2
theorem Bs.kp {mg mb : Str → Option Value} {K : List (Addr × Obj)} {h h' : Heap} (x : Bs mg mb K h) (k : Kp h h') : Bs mg mb K h' := ⟨x.g.keeps k, x.b.keeps k, x.lim.keeps k, fun p hp => k _ _ (x.k p hp)⟩

/-- a name of the frame reads v -/
noncomputable def Loc (env : Env) (h : Heap) (x : Str) (v : Value) : Prop :=
  (env.kindOf x = some .local ∧ ∃ m, h.Ns env.locals m ∧ m x = some v) ∨
  ((env.kindOf x = some .cell ∨ env.kindOf x = some .free) ∧ ∃ c, env.cells.lookup x = some c ∧ h.IsCell c (some v))
theorem Loc.kp {env : Env} {h h' : Heap} {x : Str} {v : Value} (l : Loc env h x v) (k : Kp h h') : Loc env h' x v := by
  rcases l with ⟨a, m, b, c⟩ | ⟨a, c, d, e⟩
  · exact .inl ⟨a, m, b.keeps k, c⟩
  · exact .inr ⟨a, c, d, e.keeps k⟩

noncomputable def RdO (own : List Str) (O : OSet) (h : Heap) (x : Str) (v : Value) (d : D) : Prop := if own.contains x = true then RdT O h v d else Rd O h v d
theorem RdO.t {own : List Str} {O : OSet} {h : Heap} {x : Str} {v : Value} {d : D} (r : RdO own O h x v d) : RdT O h v d := by
  unfold RdO at r; split at r
  · exact r
  · exact .of r
theorem RdO.kp {own : List Str} {O : OSet} {h h' : Heap} {x : Str} {v : Value} {d : D} (r : RdO own O h x v d) (k : Kp h h') : RdO own O h' x v d := by
  unfold RdO at r ⊢; split at r
  · rename_i c; rw [if_pos c]; exact RdT.kp r k
  · rename_i c; rw [if_neg c]; exact Rd.kp r k

structure EnvOK (sc : List (Str × NameKind)) (cn own : List Str) (O : OSet) (σ : Sg) (env : Env) (h : Heap) : Prop where
  kind : env.scope.kind = .function
  glb : env.globals = mainGlobals
  bl : env.builtins = builtinsNs
  nm : ∀ x k, env.kindOf x = some k → nameOk x = true
  sc : ∀ x k, sc.lookup x = some k → env.kindOf x = some k ∨ (k = .free ∧ env.kindOf x = some .cell)
  cn : ∀ x ∈ cn, (env.kindOf x = some .cell ∨ env.kindOf x = some .free) ∧ ∃ c, env.cells.lookup x = some c
  lo : ∀ x d, σ.lookup x = some d → ∃ v, Loc env h x v ∧ RdO own O h x v d
theorem EnvOK.kp {sc : List (Str × NameKind)} {cn own : List Str} {O : OSet} {σ : Sg} {env : Env} {h h' : Heap} (e : EnvOK sc cn own O σ env h) (k : Kp h h') : EnvOK sc cn own O σ env h' :=
  ⟨e.kind, e.glb, e.bl, e.nm, e.sc, e.cn, fun x d q => let ⟨v, a, b⟩ := e.lo x d q; ⟨v, a.kp k, b.kp k⟩⟩

/-- a function's promise: its value for data that it is handed -/
noncomputable def FnC (prog : Program) (w : World) (mg mb : Str → Option Value) (K : List (Addr × Obj)) (k : Nat) (a : Addr) (F : List D → Option D) : Prop :=
  ∀ (A : Around) (O : OSet) (s : Shared) (vs : List Value) (ds : List D) (d : D), AOk k A → Bs mg mb K s.heap → Alive O s.heap → RdAll O s.heap vs ds → F ds = some d → Gv (model prog w) A (call (.ref a) vs) O d s

/-- the table of global names is right -/
structure GOK (prog : Program) (w : World) (mg mb : Str → Option Value) (K : List (Addr × Obj)) (k : Nat) (Γ : List (Str × GV)) : Prop where
  fn : ∀ x a F, Γ.lookup x = some (.fn a F) → mg x = some (.ref a) ∧ (∃ o fd, (a, o) ∈ K ∧ o.data = .func fd) ∧ FnC prog w mg mb K k a F
  val : ∀ x d, Γ.lookup x = some (.val d) → ∃ v, mg x = some v ∧ d.flat = true ∧ ∀ O h, Rd O h v d
  bi : ∀ x id, Γ.lookup x = some (.bi id) → mg x = none ∧ mb x = some (.builtin id)
  ty : ∀ x T, Γ.lookup x = some (.ty T) → mg x = none ∧ mb x = some (.type T)

section
variable {prog : Program} {w : World} {mg mb : Str → Option Value} {K : List (Addr × Obj)} {A : Around} {E : Value → Shared → Prop} {O : OSet} {s : Shared} {env : Env} {sc : List (Str × NameKind)} {cn own : List Str} {σ : Sg}

theorem dbg_of {x : Str} (h : (x == ("__debug__" : Str)) = true) : x = Str.ofString "__debug__" := by simpa using h

theorem load_loc {x : Str} {v : Value} {Q : Value → Shared → Prop} (hk : env.scope.kind = .function) (l : Loc env s.heap x v) (hc : (x == Str.ofString "__classdict__") = false) (h : Q v s) : wpAny (model prog w) A (loadName env x) Q E s := by
  rcases l with ⟨a, m, b, c⟩ | ⟨a | a, c, d, e⟩
  · exact wpAny_loadName_local hk a b c h
  · exact wpAny_loadName_cell hk a d e h
  · exact wpAny_loadName_free hk a d e h hc
end
end Mine
end

section
open PySem PySem.W PyProof.Rows
set_option Elab.async false
namespace Mine
set_option maxRecDepth 100000
set_option linter.unusedVariables false

section
variable (prog : Program) (w : World) (mg mb : Str → Option Value) (K : List (Addr × Obj)) (k : Nat) (Γ : List (Str × GV))
/-- what is to be shown of a comprehension -/
noncomputable def CpS (n : Nat) : Prop := ∀ {sc cn own σ elt gens scope l}, compE Γ n sc cn own σ elt gens scope = some l → ∀ {A : Around} {O : OSet} {env : Env} {s : Shared}, AOk k A → Bs mg mb K s.heap → Alive O s.heap → EnvOK sc cn own O σ env s.heap →
  ∀ (pos p : Pos) (use : Option (Value → Sem Unit)) (Q : Value → Shared → Prop) (E : Value → Shared → Prop),
    (∀ dd C m s' ys c, Ks s s' → s.heap.get? C = none → C ≠ dd → s.heap.get? dd = none → s'.heap.Ns C m → s'.heap.get? dd = some (seqO "list" ys c) → RdAll (fun a => O a ∨ a = dd) s'.heap ys l → compPost (model prog w) A E use Q (.ref dd) C (.ok .next) s') →
    wpAny (model prog w) A (comprehension (.ListComp elt gens scope pos) scope env p (newList []) (firstAsync gens) (firstIter gens env) use) Q E s
structure SN (n : Nat) : Prop where
  ev : ∀ {sc cn own σ e d}, ev Γ n sc cn own σ e = some d → ∀ {A : Around} {O : OSet} {env : Env} {s : Shared}, AOk k A → Bs mg mb K s.heap → Alive O s.heap → EnvOK sc cn own O σ env s.heap → Gv (model prog w) A (eval e env) O d s
  tr : ∀ {sc cn own σ e b}, tr Γ n sc cn own σ e = some b → ∀ {A : Around} {O : OSet} {env : Env} {s : Shared}, AOk k A → Bs mg mb K s.heap → Alive O s.heap → EnvOK sc cn own O σ env s.heap → GvB (model prog w) A (isTrue e env (eval e env)) b s
  cp : CpS prog w mg mb K k Γ n
end

section
variable {prog : Program} {w : World} {mg mb : Str → Option Value} {K : List (Addr × Obj)} {k : Nat} {Γ : List (Str × GV)} {n : Nat} {A : Around} {O : OSet} {s : Shared} {env : Env} {sc : List (Str × NameKind)} {cn own : List Str} {σ : Sg} {e : PySem.Expr} {d : D}

theorem EnvOK.load {x : Str} {p : Pos} (X : EnvOK sc cn own O σ env s.heap) (h : σ.lookup x = some d) : ∃ v, RdO own O s.heap x v d ∧ ∀ (Q : Value → Shared → Prop) (E : Value → Shared → Prop), Q v s → wpAny (model prog w) A (eval (.Name x p) env) Q E s := by
  obtain ⟨v, l, r⟩ := X.lo x d h
  have hn : nameOk x = true := by
    rcases l with ⟨a, _⟩ | ⟨a | a, _⟩ <;> exact X.nm x _ a
  unfold nameOk at hn
  rw [Bool.and_eq_true, Bool.not_eq_true', Bool.not_eq_true'] at hn
  exact ⟨v, r, fun Q E hq => wpAny_Name (load_loc X.kind l hn.2 hq) hn.1⟩

theorem name_glob {x : Str} {p : Pos} {v : Value} {gv : GV} (B : Bs mg mb K s.heap) (X : EnvOK sc cn own O σ env s.heap) (hs : sc.lookup x = some .globalImplicit) (hv : mg x = some v) {Q : Value → Shared → Prop} {E : Value → Shared → Prop} (hq : Q v s) : wpAny (model prog w) A (eval (.Name x p) env) Q E s := by
  have hk : env.kindOf x = some .globalImplicit := by
    rcases X.sc x _ hs with h | ⟨h, _⟩
    · exact h
    · cases h
  have hn := X.nm x _ hk
  unfold nameOk at hn
  rw [Bool.and_eq_true, Bool.not_eq_true', Bool.not_eq_true'] at hn
  exact Calls.Name_function_global X.kind hk (Calls.loadGlobal_global (by rw [X.glb]; exact B.g) hv hq) hn.1
theorem name_bi {x : Str} {p : Pos} {v : Value} (B : Bs mg mb K s.heap) (X : EnvOK sc cn own O σ env s.heap) (hs : sc.lookup x = some .globalImplicit) (h0 : mg x = none) (hv : mb x = some v) {Q : Value → Shared → Prop} {E : Value → Shared → Prop} (hq : Q v s) : wpAny (model prog w) A (eval (.Name x p) env) Q E s := by
  have hk : env.kindOf x = some .globalImplicit := by
    rcases X.sc x _ hs with h | ⟨h, _⟩
    · exact h
    · cases h
  have hn := X.nm x _ hk
  unfold nameOk at hn
  rw [Bool.and_eq_true, Bool.not_eq_true', Bool.not_eq_true'] at hn
  exact Calls.Name_function_global X.kind hk (Calls.loadGlobal_builtin (by rw [X.glb]; exact B.g) h0 (by rw [X.bl]; exact B.b) hv hq) hn.1

theorem ev_name {x : Str} {p : Pos} (G : GOK prog w mg mb K k Γ) (h : ev Γ (n + 1) sc cn own σ (.Name x p) = some d) (B : Bs mg mb K s.heap) (X : EnvOK sc cn own O σ env s.heap) : Gv (model prog w) A (eval (.Name x p) env) O d s := by
  intro Q E hq
  obtain ⟨ho, h⟩ := ite_none h
  cases hl : σ.lookup x with
  | some d' =>
    rw [hl] at h
    obtain rfl := Option.some.inj h
    obtain ⟨v, r, go⟩ := X.load (prog := prog) (w := w) (A := A) (p := p) hl
    unfold RdO at r
    rw [if_neg ho] at r
    exact go Q E (hq v s (Ks.refl' s) r)
  | none =>
    rw [hl] at h
    obtain ⟨hs, h⟩ := ite_some h
    obtain ⟨gv, hg, h⟩ := bind_some' h
    rw [valO_some h] at hg
    obtain ⟨v, hv, hf, hr⟩ := G.val x _ hg
    exact name_glob (gv := .val d) B X hs hv (hq v s (Ks.refl' s) (hr O s.heap))

/-- a name of the frame, or what is no such name -/
theorem fwD_cases {σ : Sg} {f : PySem.Expr → Option D} (h : fwD σ f e = some d) : (∃ x p, e = .Name x p ∧ σ.lookup x = some d) ∨ f e = some d := by
  cases e with
  | Name x p =>
    cases hl : σ.lookup x with
    | some d' =>
      have h : (match σ.lookup x with | some d => some d | none => f (.Name x p)) = some d := h
      rw [hl] at h
      exact .inl ⟨x, p, rfl, hl.trans h⟩
    | none =>
      have h : (match σ.lookup x with | some d => some d | none => f (.Name x p)) = some d := h
      rw [hl] at h
      exact .inr h
  | _ => exact .inr h

theorem fw_sound (H : SN prog w mg mb K k Γ n) (h : fwD σ (ev Γ n sc cn own σ) e = some d) (a : AOk k A) (B : Bs mg mb K s.heap) (al : Alive O s.heap) (X : EnvOK sc cn own O σ env s.heap) : GvT (model prog w) A (eval e env) O d s := by
  rcases fwD_cases h with ⟨x, p, rfl, hl⟩ | h
  · intro Q E hq
    obtain ⟨v, r, go⟩ := X.load (prog := prog) (w := w) (A := A) (p := p) hl
    exact go Q E (hq v s (Ks.refl' s) r.t)
  · exact (H.ev h a B al X).toT

/-- the reading of an argument is the strong one unless it is a name of the frame's own list -/
theorem fw_strong (H : SN prog w mg mb K k Γ n) (h : fwD σ (ev Γ n sc cn own σ) e = some d) (hw : weakE own e = false) (a : AOk k A) (B : Bs mg mb K s.heap) (al : Alive O s.heap) (X : EnvOK sc cn own O σ env s.heap) : Gv (model prog w) A (eval e env) O d s := by
  rcases fwD_cases h with ⟨x, p, rfl, hl⟩ | h
  · intro Q E hq
    obtain ⟨v, r, go⟩ := X.load (prog := prog) (w := w) (A := A) (p := p) hl
    unfold RdO at r
    have hw' : own.contains x = false := hw
    rw [hw', if_neg Bool.false_ne_true] at r
    exact go Q E (hq v s (Ks.refl' s) r)
  · exact H.ev h a B al X

theorem ev_notStar {f : PySem.Expr} (h : ev Γ n sc cn own σ f = some d) : isStar f = false := by
  cases n with
  | zero => exact none_some h
  | succ n =>
    cases f with
    | Starred x p => exact none_some h
    | _ => rfl
theorem fw_notStar (h : fwD σ (ev Γ n sc cn own σ) e = some d) : isStar e = false := by
  rcases fwD_cases h with ⟨x, p, rfl, hl⟩ | h
  · rfl
  · exact ev_notStar h
theorem star_each {e : PySem.Expr} (h : isStar e = false) (rest : List PySem.Expr) : starEach (e :: rest) env = (false, eval e env) :: starEach rest env := by
  cases e with
  | Starred x p => exact absurd (show true = false from h) (by decide)
  | _ => rfl

theorem all_sound (H : SN prog w mg mb K k Γ n) (pos : Pos) : ∀ {es : List PySem.Expr} {ds : List D} {s : Shared}, allD (ev Γ n sc cn own σ) es = some ds → AOk k A → Bs mg mb K s.heap → Alive O s.heap → EnvOK sc cn own O σ env s.heap →
    ∀ (Q : List Value → Shared → Prop) (E : Value → Shared → Prop), (∀ vs s', Ks s s' → RdAll O s'.heap vs ds → Q vs s') → wpAny (model prog w) A (spliced (backTo pos (starEach es env))) Q E s
  | [], ds, s, h, a, B, al, X, Q, E, hq => by
    cases h
    exact wpAny_items_nil (hq [] s (Ks.refl' s) .nil)
  | e :: r, ds, s, h, a, B, al, X, Q, E, hq => by
    obtain ⟨d1, h1, h⟩ := bind_some' h
    obtain ⟨d2, h2, h⟩ := bind_some' h
    obtain rfl := Option.some.inj h
    refine wpAny_items_cons (H.ev h1 a B al X _ E fun v s1 k1 r1 => ?_) (star_each (ev_notStar h1) r)
    refine all_sound H pos h2 a (B.kp k1.kp) (al.kp k1.kp) (X.kp k1.kp) _ E fun vs s2 k2 r2 => ?_
    exact hq _ s2 (k1.tr k2) (.cons (r1.kp k2.kp) r2)

theorem args_sound (H : SN prog w mg mb K k Γ n) (pos : Pos) : ∀ {es : List PySem.Expr} {ds : List D} {s : Shared}, allD (fwD σ (ev Γ n sc cn own σ)) es = some ds → AOk k A → Bs mg mb K s.heap → Alive O s.heap → EnvOK sc cn own O σ env s.heap →
    ∀ (Q : List Value → Shared → Prop) (E : Value → Shared → Prop), (∀ vs s', Ks s s' → RdTs O s'.heap vs ds → (es.any (weakE own) = false → RdAll O s'.heap vs ds) → Q vs s') → wpAny (model prog w) A (spliced (backTo pos (starEach es env))) Q E s
  | [], ds, s, h, a, B, al, X, Q, E, hq => by
    cases h
    exact wpAny_items_nil (hq [] s (Ks.refl' s) .nil (fun _ => .nil))
  | e :: r, ds, s, h, a, B, al, X, Q, E, hq => by
    obtain ⟨d1, h1, h⟩ := bind_some' h
    obtain ⟨d2, h2, h⟩ := bind_some' h
    obtain rfl := Option.some.inj h
    cases hw : weakE own e with
    | true =>
      refine wpAny_items_cons (fw_sound H h1 a B al X _ E fun v s1 k1 r1 => ?_) (star_each (fw_notStar h1) r)
      refine args_sound H pos h2 a (B.kp k1.kp) (al.kp k1.kp) (X.kp k1.kp) _ E fun vs s2 k2 r2 r2' => ?_
      exact hq _ s2 (k1.tr k2) (.cons (r1.kp k2.kp) r2) (fun hn => by rw [List.any_cons, hw] at hn; cases hn)
    | false =>
      refine wpAny_items_cons (fw_strong H h1 hw a B al X _ E fun v s1 k1 r1 => ?_) (star_each (fw_notStar h1) r)
      refine args_sound H pos h2 a (B.kp k1.kp) (al.kp k1.kp) (X.kp k1.kp) _ E fun vs s2 k2 r2 r2' => ?_
      exact hq _ s2 (k1.tr k2) (.cons (.of (r1.kp k2.kp)) r2) (fun hn => .cons (r1.kp k2.kp) (r2' (by rw [List.any_cons, hw] at hn; exact hn)))

theorem allD_len {f : PySem.Expr → Option D} : ∀ {es : List PySem.Expr} {ds : List D}, allD f es = some ds → ds.length = es.length
  | [], _, h => by obtain rfl := Option.some.inj h; rfl
  | e :: r, ds, h => by
    obtain ⟨d1, h1, h⟩ := bind_some' h
    obtain ⟨d2, h2, h⟩ := bind_some' h
    obtain rfl := Option.some.inj h
    exact congrArg (· + 1) (allD_len h2)

theorem opt_sound (H : SN prog w mg mb K k Γ n) {x : Option PySem.Expr} {i : Option Int} (h : optD (ev Γ n sc cn own σ) x = some i) (a : AOk k A) (B : Bs mg mb K s.heap) (al : Alive O s.heap) (X : EnvOK sc cn own O σ env s.heap)
    {Q : Value → Shared → Prop} {E : Value → Shared → Prop} (hq : ∀ v s', Ks s s' → IsPart v i → Q v s') : wpAny (model prog w) A (evalPart x env) Q E s := by
  cases x with
  | none => cases h; rw [evalPart_none]; exact wpAny_pure (hq _ s (Ks.refl' s) .none)
  | some e =>
    obtain ⟨d1, h1, h⟩ := bind_some' h
    obtain ⟨j, h2, rfl⟩ := map_some' h
    rw [intD_some h2] at h1
    rw [evalPart_some]
    refine H.ev h1 a B al X Q E fun v s' k' r => hq v s' k' ?_
    cases r; exact .int _ _
end
end Mine
end

section
open PySem PySem.W PyProof.Rows
set_option Elab.async false
namespace Mine
set_option maxRecDepth 100000
set_option linter.unusedVariables false

section
variable {prog : Program} {w : World} {mg mb : Str → Option Value} {K : List (Addr × Obj)} {k : Nat} {Γ : List (Str × GV)} {n : Nat} {A : Around} {O : OSet} {s : Shared} {env : Env} {sc : List (Str × NameKind)} {cn own : List Str} {σ : Sg} {e : PySem.Expr} {d : D}

theorem allD_star {f : PySem.Expr → Option D} (hf : ∀ e d, f e = some d → isStar e = false) : ∀ {es : List PySem.Expr} {ds : List D} (pos : Pos) (env : Env), allD f es = some ds → (backTo pos (starEach es env)).any (·.1) = false ∧ (backTo pos (starEach es env)).all (fun x => !x.1) = true
  | [], _, _, _, _ => ⟨rfl, rfl⟩
  | e :: r, ds, pos, env, h => by
    obtain ⟨d1, h1, h⟩ := bind_some' h
    obtain ⟨d2, h2, h⟩ := bind_some' h
    have ih := allD_star hf pos env h2
    rw [star_each (hf e d1 h1)]
    constructor
    · show (false || (backTo pos (starEach r env)).any (·.1)) = false
      rw [ih.1]; rfl
    · show (true && (backTo pos (starEach r env)).all (fun x => !x.1)) = true
      rw [ih.2]; rfl

theorem evalArgs_sound (H : SN prog w mg mb K k Γ n) {f : Value} {pos : Pos} {es : List PySem.Expr} {ds : List D} (h : allD (fwD σ (ev Γ n sc cn own σ)) es = some ds) (a : AOk k A) (B : Bs mg mb K s.heap) (al : Alive O s.heap) (X : EnvOK sc cn own O σ env s.heap)
    {Q : Args → Shared → Prop} {E : Value → Shared → Prop} (hq : ∀ vs s', Ks s s' → RdTs O s'.heap vs ds → (es.any (weakE own) = false → RdAll O s'.heap vs ds) → Q ⟨vs, []⟩ s') : wpAny (model prog w) A (evalArgs f true (backTo pos (starEach es env)) []) Q E s := by
  cases es with
  | nil =>
    cases h
    exact evalArgs_nil3 (hq [] s (Ks.refl' s) .nil (fun _ => .nil))
  | cons e r =>
    obtain ⟨d1, h1, h'⟩ := bind_some' h
    have hs := args_sound H pos h a B al X (fun vs s' => Q ⟨vs, []⟩ s') E hq
    rw [star_each (fw_notStar h1)] at hs ⊢
    exact Calls.evalArgs_plain hs

theorem call_bi (H : SN prog w mg mb K k Γ n) {id : String} {first : List Value} {pos : Pos} {es : List PySem.Expr} {ds : List D} (h : allD (fwD σ (ev Γ n sc cn own σ)) es = some ds) (a : AOk k A) (B : Bs mg mb K s.heap) (al : Alive O s.heap) (X : EnvOK sc cn own O σ env s.heap)
    {Q : Value → Shared → Prop} {E : Value → Shared → Prop} (hq : ∀ vs s', Ks s s' → RdTs O s'.heap vs ds → wpAny (model prog w) A (call (.builtin id) (first ++ vs)) Q E s') : wpAny (model prog w) A (callWith pos (.builtin id) first (backTo pos (starEach es env)) []) Q E s :=
  Calls.callWith_builtin (allD_star (fun _ _ => fw_notStar) pos env h).1 (evalArgs_sound H h a B al X fun vs s' k1 r1 _ => hq vs s' k1 r1)
theorem call_ty (H : SN prog w mg mb K k Γ n) {T : String} {pos : Pos} {es : List PySem.Expr} {ds : List D} (h : allD (fwD σ (ev Γ n sc cn own σ)) es = some ds) (a : AOk k A) (B : Bs mg mb K s.heap) (al : Alive O s.heap) (X : EnvOK sc cn own O σ env s.heap)
    {Q : Value → Shared → Prop} {E : Value → Shared → Prop} (hq : ∀ vs s', Ks s s' → RdTs O s'.heap vs ds → wpAny (model prog w) A (call (.type T) vs) Q E s') : wpAny (model prog w) A (callWith pos (.type T) [] (backTo pos (starEach es env)) []) Q E s :=
  PySem.callWith_type (allD_star (fun _ _ => fw_notStar) pos env h).1 (evalArgs_sound H h a B al X fun vs s' k1 r1 _ => hq vs s' k1 r1)

theorem bi_sound {id : String} {vs : List Value} {ds : List D} (hA : A.handled = none) (al : Alive O s.heap) (h : biD id ds = some d) (r : RdTs O s.heap vs ds) : Gv (model prog w) A (call (.builtin id) vs) O d s := by
  rcases ite_or h with ⟨eT, h⟩ | h
  · subst eT
    obtain ⟨l, h1, h⟩ := bind_some' h
    obtain ⟨hl, h⟩ := ite_some h
    obtain rfl := Option.some.inj h
    rw [lst1_some h1] at r
    cases r with | cons r1 r => cases r; exact len_sound hl r1
  rcases ite_or h with ⟨eT, h⟩ | h
  · subst eT
    obtain ⟨l, h1, h⟩ := bind_some' h
    obtain ⟨ns, hn, rfl⟩ := map_some' h
    rw [lst1_some h1] at r
    cases r with | cons r1 r => cases r; exact sum_sound hA hn r1
  rcases ite_or h with ⟨eT, h⟩ | h
  · subst eT
    obtain ⟨q, h1, rfl⟩ := map_some' h
    rw [flts3_some h1] at r
    cases r with | cons r1 r => cases r with | cons r2 r => cases r with | cons r3 r => cases r; exact max_sound hA r1 r2 r3
  rcases ite_or h with ⟨eT, h⟩ | h
  · subst eT
    obtain ⟨q, h1, rfl⟩ := map_some' h
    rw [flts3_some h1] at r
    cases r with | cons r1 r => cases r with | cons r2 r => cases r with | cons r3 r => cases r; exact min_sound hA r1 r2 r3
  rcases ite_or h with ⟨eT, h⟩ | h
  · subst eT
    obtain ⟨l, h1, h⟩ := bind_some' h
    obtain ⟨ps, hp, h⟩ := bind_some' h
    obtain ⟨hc, h⟩ := ite_some h
    obtain rfl := Option.some.inj h
    rw [lst1_some h1] at r
    cases r with | cons r1 r => cases r; exact sorted_sound al hp hc.1 hc.2 r1
  · exact none_some h
theorem truncD_some {x : UInt64} (h : truncD x = some d) : ∃ sg m e, Float64.decode x = .fin sg m e ∧ d = .int (Float64.truncOf sg m e) := by
  have h : (match Float64.decode x with
    | .fin sg m e => some (D.int (Float64.truncOf sg m e))
    | _ => none) = some d := h
  cases hd : Float64.decode x with
  | fin sg m e => rw [hd] at h; exact ⟨sg, m, e, rfl, (Option.some.inj h).symm⟩
  | _ => rw [hd] at h; exact none_some h
theorem ty_sound {T : String} {vs : List Value} {ds : List D} (h : tyD T ds = some d) (r : RdTs O s.heap vs ds) : Gv (model prog w) A (call (.type T) vs) O d s := by
  rcases ite_or h with ⟨eT, h0⟩ | h0
  · subst eT
    clear h
    have h := h0
    cases h1 : get1 ds with
    | some x =>
      rw [h1] at h
      obtain ⟨i, h2, rfl⟩ := map_some' h
      rw [get1_some h1, intD_some h2] at r
      cases r with | cons r1 r => cases r; exact range1_sound r1
    | none =>
      rw [h1] at h
      obtain ⟨q, h2, h⟩ := bind_some' h
      obtain ⟨i, h3, h⟩ := bind_some' h
      obtain ⟨j, h4, rfl⟩ := map_some' h
      rw [get2_some h2, intD_some h3, intD_some h4] at r
      cases r with | cons r1 r => cases r with | cons r2 r => cases r; exact range2_sound r1 r2
  rcases ite_or h0 with ⟨eT, h⟩ | h
  · subst eT
    obtain ⟨x, h1, h⟩ := bind_some' h
    obtain ⟨z, h9, h1⟩ := bind_some' h1
    obtain ⟨sg, m, e, hd, rfl⟩ := truncD_some h
    rw [get1_some h9, fltO_some h1] at r
    cases r with | cons r1 r => cases r; exact int_sound hd r1
  · exact none_some h

theorem fn_frame {a : Addr} {o : Obj} {fd : FuncData} (hd : o.data = .func fd) (h : Heap) (hh : h.get? a = some o) : ∃ q, (q = Keeper.frame ∨ q = Keeper.machine ∨ q = Keeper.boundFrame) ∧ Looks (model prog w) h (keeperOf (.ref a)) q :=
  ⟨.frame, .inl rfl, (Looks.ld (part := none) hh).andThen (by rw [hd]; exact .now)⟩

theorem RdTs.drop {h : Heap} {vs : List Value} {ds : List D} (r : RdTs O h vs ds) : RdAll (fun _ => False) h vs ds := by
  induction r with
  | nil => exact .nil
  | cons x _ ih =>
    refine .cons ?_ ih
    cases x with
    | of x => exact x.mono fun _ q => q.elim
    | top e1 e2 e r => subst e1 e2; exact .lst (fun q => q) e (r.mono fun _ q => q.elim)
theorem Gv.flat {O O' : OSet} {t : Sem Value} (g : Gv (model prog w) A t O' d s) (hf : d.flat = true) : Gv (model prog w) A t O d s :=
  fun Q E hq => g Q E fun v s' k r => hq v s' k ((RdT.of r).flat hf)

theorem ev_call {g : Str} {gp pos : Pos} {args : List PySem.Expr} (H : SN prog w mg mb K k Γ n) (G : GOK prog w mg mb K k Γ) (h : ev Γ (n + 1) sc cn own σ (.Call (.Name g gp) args [] pos) = some d) (a : AOk k A) (B : Bs mg mb K s.heap) (al : Alive O s.heap) (X : EnvOK sc cn own O σ env s.heap) :
    Gv (model prog w) A (eval (.Call (.Name g gp) args [] pos) env) O d s := by
  intro Q E hq
  obtain ⟨hs, h⟩ := ite_some h
  cases hst : starE args with
  | some q =>
    rw [hst] at h
    obtain ⟨v0, hx, h⟩ := bind_some' h
    obtain ⟨ds, h1, h⟩ := bind_some' h
    rw [tupO_some h1] at hx
    obtain ⟨hlen, h⟩ := ite_some h
    obtain ⟨F, hg, h⟩ := bind_some' h
    obtain ⟨gv, hg, h2⟩ := bind_some' hg
    rw [fnO_some h2] at hg
    obtain ⟨hv, ⟨o, fd, hm, hd⟩, hF⟩ := G.fn g F.1 F.2 hg
    refine wpAny_Call_NameR (name_glob (gv := .fn F.1 F.2) B X hs hv ?_)
    rw [starE_some hst]
    show wpAny _ A (callWith pos (.ref F.1) [] (backTo pos [(true, eval q.1 env)]) []) Q E s
    refine ks_call (P := fun h => h.get? F.1 = some o) rfl (fn_frame hd) (ks_lone ?_)
    refine H.ev hx a B al X _ E fun v s1 k1 r1 => ?_
    obtain ⟨t, vs, m, rfl, e, r⟩ := (RdT.of r1).tup'
    have hT : s1.TypeIs (.ref t) "tuple" := ⟨_, e, rfl⟩
    unfold StarOf notIterableAtAll
    refine wpAny_bind (wpAny_specialOf hT PySem.F.slot_tuple_iter.lookup (wpAny_pure ⟨rfl, ?_⟩))
    refine wpAny_collect_seq t (.inr rfl) e rfl rfl (fun h' hk => ?_) ?_
    · have kk : Ks s { s1 with heap := h' } := k1.tr (Ks.mk' (tk := s1.toks) hk)
      refine ⟨(B.kp kk.kp).k _ hm, ?_⟩
      exact hF A O _ _ ds d a (B.kp kk.kp) (al.kp kk.kp) (r.kp hk) h Q E fun v s' k2 r2 => hq v s' (kk.tr k2) r2
    · show vs.toArray.size ≤ 2 ^ 24
      rw [List.size_toArray, r.length]; omega
  | none =>
    rw [hst] at h
    obtain ⟨ds, hds, h⟩ := bind_some' h
    obtain ⟨gv, hg, h⟩ := bind_some' h
    cases gv with
    | fn ad F =>
      obtain ⟨hv, ⟨o, fd, hm, hd⟩, hF⟩ := G.fn g ad F hg
      refine wpAny_Call_NameR (name_glob (gv := .fn ad F) B X hs hv ?_)
      obtain ⟨d', hFd, h⟩ := bind_some' h
      refine Calls.callWith_function (o := o) (fd := fd) (evalArgs_sound H hds a B al X fun vs s1 k1 r1 r1' => ⟨⟨(B.kp k1.kp).k _ hm, hd⟩, ?_⟩)
      show wpAny _ A (call (.ref ad) vs) Q E s1
      cases hw : args.any (weakE own) with
      | true =>
        rw [hw, if_pos rfl] at h
        obtain ⟨hf, h⟩ := ite_some h
        obtain rfl := Option.some.inj h
        exact Gv.flat (hF A (fun _ => False) s1 vs ds d' a (B.kp k1.kp) (fun _ q => q.elim) r1.drop hFd) hf Q E fun v s' k2 r2 => hq v s' (k1.tr k2) r2
      | false =>
        rw [hw, if_neg Bool.false_ne_true] at h
        obtain rfl := Option.some.inj h
        exact hF A O s1 vs ds d' a (B.kp k1.kp) (al.kp k1.kp) (r1' hw) hFd Q E fun v s' k2 r2 => hq v s' (k1.tr k2) r2
    | bi id =>
      obtain ⟨h0, hv⟩ := G.bi g id hg
      refine wpAny_Call_NameR (name_bi B X hs h0 hv ?_)
      exact call_bi H hds a B al X fun vs s1 k1 r1 => bi_sound a.hd (al.kp k1.kp) h r1 Q E fun v s' k2 r2 => hq v s' (k1.tr k2) r2
    | ty T =>
      obtain ⟨h0, hv⟩ := G.ty g T hg
      refine wpAny_Call_NameR (name_bi B X hs h0 hv ?_)
      exact call_ty H hds a B al X fun vs s1 k1 r1 => ty_sound h r1 Q E fun v s' k2 r2 => hq v s' (k1.tr k2) r2
    | val z => exact none_some h

theorem meth_sound {T : String} {name : Str} {id : String} {o : PySem.Expr} {ap pos : Pos} {args : List PySem.Expr} {ds : List D} {b : D} (H : SN prog w mg mb K k Γ n) (hb : baseOk o = true) (hp : (ap.endLine == pos.line) = true) (hl : args.length < 20)
    (hds : allD (fwD σ (ev Γ n sc cn own σ)) args = some ds) (pa : PlainAttrs T) (sl : Slot T name id) (ty : typeOf (.builtin id) = pure (.type "method_descriptor")) (a : AOk k A) (B : Bs mg mb K s.heap) (al : Alive O s.heap) (X : EnvOK sc cn own O σ env s.heap)
    (ho : GvT (model prog w) A (eval o env) O b s) (hT : ∀ (v : Value) (s' : Shared), RdT O s'.heap v b → s'.TypeIs v T ∧ (∀ c, v = .ref c → ∃ ob : Obj, s'.heap.get? c = some ob ∧ ob.dict = none))
    (hc : ∀ (v : Value) (vs : List Value) (s' : Shared), Alive O s'.heap → RdT O s'.heap v b → RdTs O s'.heap vs ds → Gv (model prog w) A (call (.builtin id) ([v] ++ vs)) O d s') :
    Gv (model prog w) A (eval (.Call (.Attribute o name ap) args [] pos) env) O d s := by
  intro Q E hq
  have hab : attributeBase o name env (eval o env) = eval o env := by
    unfold attributeBase
    cases o with
    | Call f as ks q =>
      cases as with
      | nil => exact absurd (show false = true from hb) (by decide)
      | cons x r => cases f <;> rfl
    | Constant _ _ _ => rfl
    | Name _ _ => rfl
    | Subscript _ _ _ => rfl
    | _ => exact absurd (show false = true from hb) (by decide)
  refine wpAny_Call_method hab ?_ hp pa sl ty (ho _ E fun v s1 k1 r1 => ?_)
  · rw [(allD_star (fun _ _ => fw_notStar) pos env hds).2]
    have : args.length + ([] : List Keyword).length + (if ([] : List Keyword).isEmpty = true then 0 else 1) < 30 := by simp; omega
    rw [decide_eq_true this]; rfl
  · obtain ⟨t1, t2⟩ := hT v s1 r1
    refine ⟨t1, t2, call_bi H hds a (B.kp k1.kp) (al.kp k1.kp) (X.kp k1.kp) fun vs s2 k2 r2 => ?_⟩
    exact hc v vs s2 (al.kp (k1.tr k2).kp) (r1.kp k2.kp) r2 Q E fun v' s' k3 r3 => hq v' s' ((k1.tr k2).tr k3) r3

theorem ev_meth {o : PySem.Expr} {name : Str} {ap pos : Pos} {args : List PySem.Expr} (H : SN prog w mg mb K k Γ n) (h : ev Γ (n + 1) sc cn own σ (.Call (.Attribute o name ap) args [] pos) = some d) (a : AOk k A) (B : Bs mg mb K s.heap) (al : Alive O s.heap) (X : EnvOK sc cn own O σ env s.heap) :
    Gv (model prog w) A (eval (.Call (.Attribute o name ap) args [] pos) env) O d s := by
  have key : ∃ b ds, baseOk o = true ∧ (ap.endLine == pos.line) = true ∧ args.length < 20 ∧ allD (fwD σ (ev Γ n sc cn own σ)) args = some ds ∧ methD name b ds = some d ∧ GvT (model prog w) A (eval o env) O b s := by
    obtain ⟨hc, h⟩ := ite_some h
    obtain ⟨b, hb, h⟩ := bind_some' h
    obtain ⟨ds, hds, h⟩ := bind_some' h
    refine ⟨b, ds, hc.1, hc.2.1, hc.2.2, hds, h, ?_⟩
    rcases ite_or hb with ⟨_, hb⟩ | hb
    · exact (H.ev hb a B al X).toT
    · obtain ⟨z, hz, hb⟩ := bind_some' hb
      rw [(strO_some hb).1] at hz
      exact fw_sound H hz a B al X
  obtain ⟨b, ds, h1, h2, h3, hds, hm, ho⟩ := key
  have strT : ∀ {x : Str} (v : Value) (s' : Shared), RdT O s'.heap v (.str x) → s'.TypeIs v "str" ∧ (∀ c, v = .ref c → ∃ ob, s'.heap.get? c = some ob ∧ ob.dict = none) := by
    intro x v s' r
    obtain ⟨t, rfl⟩ := r.str'
    exact ⟨typeIs_str _ _ _, fun c e => by cases e⟩
  cases b with
  | str x =>
    rcases ite_or hm with ⟨eT, hm⟩ | hm
    · subst eT
      obtain ⟨l, h4, hm⟩ := bind_some' hm
      obtain ⟨ys, hs, hm⟩ := bind_some' hm
      obtain ⟨hz, hm⟩ := ite_some hm
      obtain rfl := Option.some.inj hm
      rw [lst1_some h4] at hds
      refine meth_sound H h1 h2 h3 hds PySem.F.plainAttrs_str PySem.F.slot_str_join PySem.F.type_str_join a B al X ho strT fun v vs s' al' rv rs => ?_
      cases rs with | cons r1 rs => cases rs; exact join_sound hs hz rv r1
    rcases ite_or hm with ⟨eT, hm⟩ | hm
    · subst eT
      obtain ⟨y, h4, hm⟩ := bind_some' hm
      obtain ⟨z, h5, h4⟩ := bind_some' h4
      obtain ⟨hz, hm⟩ := ite_some hm
      obtain rfl := Option.some.inj hm
      rw [get1_some h5, txtO_some h4] at hds
      refine meth_sound H h1 h2 h3 hds PySem.F.plainAttrs_str PySem.F.slot_str_split PySem.F.type_str_split a B al X ho strT fun v vs s' al' rv rs => ?_
      cases rs with | cons r1 rs => cases rs; exact split_sound al' hz.1 hz.2.1 hz.2.2 rv r1
    rcases ite_or hm with ⟨eT, hm⟩ | hm
    · subst eT
      obtain ⟨y, h4, rfl⟩ := map_some' hm
      obtain ⟨z, h5, h4⟩ := bind_some' h4
      rw [get1_some h5, txtO_some h4] at hds
      refine meth_sound H h1 h2 h3 hds PySem.F.plainAttrs_str PySem.F.slot_str_count PySem.F.type_str_count a B al X ho strT fun v vs s' al' rv rs => ?_
      cases rs with | cons r1 rs => cases rs; exact scount_sound rv r1
    · exact none_some hm
  | lst l =>
    obtain ⟨rfl, hm⟩ := ite_some hm
    obtain ⟨i, h4, hm⟩ := bind_some' hm
    obtain ⟨z, h5, h4⟩ := bind_some' h4
    obtain ⟨ns, hi, rfl⟩ := map_some' hm
    rw [get1_some h5, intD_some h4] at hds
    refine meth_sound H h1 h2 h3 hds PySem.F.plainAttrs_list PySem.F.slot_list_count PySem.F.type_list_count a B al X ho (fun v s' r => ?_) fun v vs s' al' rv rs => ?_
    · obtain ⟨c, us, m, rfl, e, _⟩ := r.list
      exact ⟨⟨_, e, rfl⟩, fun c' e' => by cases e'; exact ⟨_, e, rfl⟩⟩
    · cases rs with | cons r1 rs => cases rs; exact lcount_sound hi rv r1
  | _ => exact none_some hm
end
end Mine
end

section
open PySem PySem.W PyProof.Rows
set_option Elab.async false
namespace Mine
set_option maxRecDepth 100000
set_option linter.unusedVariables false

section
variable {prog : Program} {w : World} {mg mb : Str → Option Value} {K : List (Addr × Obj)} {k : Nat} {Γ : List (Str × GV)} {n : Nat} {A : Around} {O : OSet} {s : Shared} {env : Env} {sc : List (Str × NameKind)} {cn own : List Str} {σ : Sg} {e : PySem.Expr} {d : D}

theorem ev_sub {v i : PySem.Expr} {p : Pos} (H : SN prog w mg mb K k Γ n) (h : ev Γ (n + 1) sc cn own σ (.Subscript v i p) = some d) (a : AOk k A) (B : Bs mg mb K s.heap) (al : Alive O s.heap) (X : EnvOK sc cn own O σ env s.heap) :
    Gv (model prog w) A (eval (.Subscript v i p) env) O d s := by
  intro Q E hq
  have plain : ∀ {x kk : D}, fwD σ (ev Γ n sc cn own σ) v = some x → ev Γ n sc cn own σ i = some kk → itemD x kk = some d → wpAny (model prog w) A (eval (.Subscript v i p) env) Q E s := by
    intro x kk h1 h2 h3
    refine Subscript_ (fw_sound H h1 a B al X _ E fun o s1 k1 r1 => ?_)
    refine H.ev h2 a (B.kp k1.kp) (al.kp k1.kp) (X.kp k1.kp) _ E fun j s2 k2 r2 => ?_
    exact item_sound h3 (r1.kp k2.kp) (.of r2) Q E fun z s3 k3 r3 => hq z s3 ((k1.tr k2).tr k3) r3
  obtain ⟨x, h1, h⟩ := bind_some' h
  cases hs : sliceE i with
  | some q =>
    rw [hs] at h
    obtain ⟨i1, h2, h⟩ := bind_some' h
    obtain ⟨i2, h3, h⟩ := bind_some' h
    obtain ⟨i3, h4, h⟩ := bind_some' h
    rw [sliceE_some hs]
    refine Subscript_ (fw_sound H h1 a B al X _ E fun o s1 k1 r1 => ?_)
    refine wpAny_Slice (opt_sound H h2 a (B.kp k1.kp) (al.kp k1.kp) (X.kp k1.kp) fun v1 s2 k2 p1 => ?_)
    have q2 := k1.tr k2
    refine opt_sound H h3 a (B.kp q2.kp) (al.kp q2.kp) (X.kp q2.kp) fun v2 s3 k3 p2 => ?_
    have q3 := q2.tr k3
    refine opt_sound H h4 a (B.kp q3.kp) (al.kp q3.kp) (X.kp q3.kp) fun v3 s4 k4 p3 => ?_
    have q4 := q3.tr k4
    have q5 : Ks s4 { s4 with heap := s4.heap.push { cls := .type "slice", data := .fields #[v1, v2, v3] } } := Ks.mk' (tk := s4.toks) (Kp.push _ _)
    refine slice_sound (al.kp (q4.tr q5).kp) h (r1.kp ((k2.tr k3).tr (k4.tr q5)).kp) (Heap.IsSliceOf.new ..) p1 p2 p3 Q E fun z s6 k6 r6 => hq z s6 ((q4.tr q5).tr k6) r6
  | none =>
    rw [hs] at h
    obtain ⟨kk, h2, h⟩ := bind_some' h
    exact plain h1 h2 h

theorem tests_sound (H : SN prog w mg mb K k Γ n) {op : BoolOp} : ∀ {es : List PySem.Expr} {b : Bool} {s : Shared}, trAll (tr Γ n sc cn own σ) op es = some b → AOk k A → Bs mg mb K s.heap → Alive O s.heap → EnvOK sc cn own O σ env s.heap → GvB (model prog w) A (allTrue op es env) b s
  | [], b, s, h, a, B, al, X => by
    intro Q E hq
    cases h
    cases op
    · exact wpAny_allTrue_And_nil (hq s (Ks.refl' s))
    · exact wpAny_allTrue_Or_nil (hq s (Ks.refl' s))
  | e :: r, b, s, h, a, B, al, X => by
    intro Q E hq
    obtain ⟨c, h1, h⟩ := bind_some' h
    cases op with
    | And =>
      refine wpAny_allTrue_And_cons (H.tr h1 a B al X _ E fun s1 k1 => ?_)
      cases c with
      | true =>
        rw [if_pos rfl]
        exact tests_sound H h a (B.kp k1.kp) (al.kp k1.kp) (X.kp k1.kp) Q E fun s2 k2 => hq s2 (k1.tr k2)
      | false =>
        rw [if_neg Bool.false_ne_true]
        obtain rfl := Option.some.inj h; exact hq s1 k1
    | Or =>
      refine wpAny_allTrue_Or_cons (H.tr h1 a B al X _ E fun s1 k1 => ?_)
      cases c with
      | true =>
        rw [if_pos rfl]
        obtain rfl := Option.some.inj h; exact hq s1 k1
      | false =>
        rw [if_neg Bool.false_ne_true]
        exact tests_sound H h a (B.kp k1.kp) (al.kp k1.kp) (X.kp k1.kp) Q E fun s2 k2 => hq s2 (k1.tr k2)

theorem marks_of {op : CmpOp} {r : PySem.Expr} (h : setE r = false) : behindInMarks op r = false := by
  cases r with
  | Set _ _ => exact absurd (show true = false from h) (by decide)
  | _ => rfl

theorem ev_step (H : SN prog w mg mb K k Γ n) (G : GOK prog w mg mb K k Γ) (h : ev Γ (n + 1) sc cn own σ e = some d) (a : AOk k A) (B : Bs mg mb K s.heap) (al : Alive O s.heap) (X : EnvOK sc cn own O σ env s.heap) : Gv (model prog w) A (eval e env) O d s := by
  cases e with
  | Constant c q p =>
    intro Q E hq
    have h : constD c = some d := h
    cases c <;> first | exact none_some h | skip
    · obtain rfl := Option.some.inj h; exact wpAny_Constant_none (hq _ s (Ks.refl' s) .none)
    · obtain rfl := Option.some.inj h; exact wpAny_Constant_bool (hq _ s (Ks.refl' s) (.bool _))
    · obtain rfl := Option.some.inj h; exact wpAny_Constant_int (hq _ _ (Ks.toks s _) (.int _ _))
    · obtain rfl := Option.some.inj h; exact wpAny_Constant_float (hq _ _ (Ks.toks s _) (.flt _ _))
    · obtain rfl := Option.some.inj h; exact wpAny_Constant_str (hq _ _ (Ks.toks s _) (.str _ _))
  | Name x p => exact ev_name G h B X
  | BinOp l op r p =>
    intro Q E hq
    obtain ⟨x, h1, h⟩ := bind_some' h
    obtain ⟨y, h2, h⟩ := bind_some' h
    refine wpAny_BinOp (fw_sound H h1 a B al X _ E fun v s1 k1 r1 => ?_)
    refine fw_sound H h2 a (B.kp k1.kp) (al.kp k1.kp) (X.kp k1.kp) _ E fun u s2 k2 r2 => ?_
    have q := k1.tr k2
    exact bin_sound a.hd (al.kp q.kp) h (r1.kp k2.kp) r2 Q E fun z s3 k3 r3 => hq z s3 (q.tr k3) r3
  | UnaryOp op x p =>
    intro Q E hq
    obtain ⟨rfl, h⟩ := ite_some h
    obtain ⟨z, hx, h⟩ := bind_some' h
    cases z with
    | int i =>
      obtain rfl := Option.some.inj h
      refine wpAny_UnaryOp (H.ev hx a B al X _ E fun v s1 k1 r1 => ?_)
      cases r1
      exact neg_int (hq _ _ (k1.tr (Ks.toks s1 _)) (.int _ _))
    | _ => exact none_some h
  | IfExp t b o p =>
    intro Q E hq
    obtain ⟨c, h1, h⟩ := bind_some' h
    refine wpAny_IfExp (H.tr h1 a B al X _ E fun s1 k1 => ?_)
    cases c with
    | true => rw [if_pos rfl]; exact H.ev h a (B.kp k1.kp) (al.kp k1.kp) (X.kp k1.kp) Q E fun z s2 k2 r2 => hq z s2 (k1.tr k2) r2
    | false => rw [if_neg Bool.false_ne_true]; exact H.ev h a (B.kp k1.kp) (al.kp k1.kp) (X.kp k1.kp) Q E fun z s2 k2 r2 => hq z s2 (k1.tr k2) r2
  | Compare l ops rs p =>
    intro Q E hq
    match ops, rs with
    | [op], [r] =>
      obtain ⟨hset, h⟩ := ite_none h
      obtain ⟨x, h1, h⟩ := bind_some' h
      obtain ⟨y, h2, h⟩ := bind_some' h
      obtain ⟨b, h3, rfl⟩ := map_some' h
      refine wpAny_Compare1 (fw_sound H h1 a B al X _ E fun v s1 k1 r1 => ?_) (marks_of (Bool.eq_false_iff.mpr hset))
      refine fw_sound H h2 a (B.kp k1.kp) (al.kp k1.kp) (X.kp k1.kp) _ E fun u s2 k2 r2 => ?_
      have hu := a.un
      exact cmp_sound (by omega) h3 (r1.kp k2.kp) r2 Q E fun z s3 k3 r3 => hq z s3 ((k1.tr k2).tr k3) r3
    | [], _ => exact none_some h
    | _ :: _ :: _, _ => exact none_some h
    | [_], [] => exact none_some h
    | [_], _ :: _ :: _ => exact none_some h
  | List es p =>
    intro Q E hq
    obtain ⟨hl, h⟩ := ite_some h
    obtain ⟨ds, h1, rfl⟩ := map_some' h
    refine wpAny_List (all_sound H p h1 a B al X _ E fun vs s1 k1 r1 => ⟨?_, ?_⟩)
    · rw [r1.length, allD_len h1]; exact Nat.le_trans hl (by decide)
    · exact hq _ _ (k1.tr (Ks.mk' (tk := s1.toks) (Kp.push _ _))) (rd_new_list (al.kp k1.kp) r1)
  | Tuple es q p =>
    intro Q E hq
    obtain ⟨hl, h⟩ := ite_some h
    obtain ⟨ds, h1, rfl⟩ := map_some' h
    refine wpAny_Tuple (all_sound H p h1 a B al X _ E fun vs s1 k1 r1 => ⟨?_, ?_⟩)
    · rw [r1.length, allD_len h1]; exact Nat.le_trans hl (by decide)
    · exact hq _ _ (k1.tr (Ks.mk' (tk := s1.toks) (Kp.push _ _))) (rd_new_tup r1)
  | ListComp elt gens scope p =>
    intro Q E hq
    obtain ⟨l, h1, rfl⟩ := map_some' h
    rw [eval_ListComp]
    refine H.cp h1 a B al X p _ none Q E fun dd C m s' ys c k1 hC hCd hdd hn hg r0 => ⟨m, hn, fun h' hs => ?_⟩
    have r : Rd O s'.heap (.ref dd) (.lst l) := .lst (fun q => by obtain ⟨o, e⟩ := al dd q; rw [hdd] at e; cases e) hg (r0.mono fun a q => .inl (.inl q))
    have kk : Ks s { s' with heap := h' } := by
      obtain ⟨h1, t1, rfl, kp⟩ := k1
      refine ⟨h', t1, rfl, fun b o e => ?_⟩
      exact (hs.2 b (by rintro rfl; rw [hC] at e; cases e)).trans (kp b o e)
    exact hq _ _ kk (r.chg (Chg.ns hn hs))
  | Call f args ks p =>
    cases ks with
    | cons _ _ => exact none_some h
    | nil =>
      cases f with
      | Name g gp => exact ev_call H G h a B al X
      | Attribute o name ap => exact ev_meth H h a B al X
      | _ => exact none_some h
  | Subscript v i p => exact ev_sub H h a B al X
  | _ => exact none_some h

theorem truthy_b {v : Value} {b : Bool} (r : Rd O s.heap v (.bool b)) {Q : Bool → Shared → Prop} {E : Value → Shared → Prop} (h : Q b s) : wpAny (model prog w) A (truthy v) Q E s := by
  cases r; exact wpAny_truthy_bool h

theorem tr_step {b : Bool} (H : SN prog w mg mb K k Γ n) (G : GOK prog w mg mb K k Γ) (h : tr Γ (n + 1) sc cn own σ e = some b) (a : AOk k A) (B : Bs mg mb K s.heap) (al : Alive O s.heap) (X : EnvOK sc cn own O σ env s.heap) : GvB (model prog w) A (isTrue e env (eval e env)) b s := by
  intro Q E hq
  cases e with
  | UnaryOp op x p =>
    obtain ⟨rfl, h⟩ := ite_some h
    obtain ⟨c, h1, rfl⟩ := map_some' h
    exact wpAny_isTrue_Not (H.tr h1 a B al X _ E fun s1 k1 => hq s1 k1)
  | BoolOp op es p =>
    exact wpAny_isTrue_BoolOp (tests_sound H h a B al X Q E hq)
  | Compare l ops rs p =>
    match ops, rs with
    | [op], [r] =>
      obtain ⟨hset, h⟩ := ite_none h
      obtain ⟨x, h1, h⟩ := bind_some' h
      obtain ⟨y, h2, h⟩ := bind_some' h
      refine wpAny_isTrue_Compare1 (fw_sound H h1 a B al X _ E fun v s1 k1 r1 => ?_) (marks_of (Bool.eq_false_iff.mpr hset))
      refine fw_sound H h2 a (B.kp k1.kp) (al.kp k1.kp) (X.kp k1.kp) _ E fun u s2 k2 r2 => ?_
      have hu := a.un
      exact cmp_sound (by omega) h (r1.kp k2.kp) r2 _ E fun z s3 k3 r3 => truthy_b r3 (hq s3 ((k1.tr k2).tr k3))
    | [], _ => exact none_some h
    | _ :: _ :: _, _ => exact none_some h
    | [_], [] => exact none_some h
    | [_], _ :: _ :: _ => exact none_some h
  | Call f args ks p =>
    obtain ⟨c, hc, h⟩ := bind_some' h
    rw [boolO_some h] at hc
    exact wpAny_isTrue_value (H.ev hc a B al X _ E fun v s1 k1 r1 => truthy_b r1 (hq s1 k1))
  | _ => exact none_some h
end
end Mine
end

section
open PySem PySem.W PyProof.Rows
set_option Elab.async false
namespace Mine
set_option maxRecDepth 100000
set_option linter.unusedVariables false

section
variable {env : Env}
/-- the cells that a comprehension is handed -/
noncomputable def clOf (env : Env) : List (Str × NameKind) → List (Str × Addr) → List (Str × Addr)
  | [], acc => acc
  | (n, k) :: r, acc => if k = .free then (match env.cells.lookup n with
    | some c => clOf env r ((n, c) :: acc)
    | none => clOf env r acc) else clOf env r acc

theorem closure_go (names : List (Str × NameKind)) (h : ∀ y ∈ names, y.2 = .free → ∃ c, env.cells.lookup y.1 = some c) : ∀ acc : List (Str × Addr), (forIn names acc fun (x : Str × NameKind) (r : List (Str × Addr)) => (if (x.2 == NameKind.free) = true then (do let a ← cellOf env x.1; pure (ForInStep.yield ((x.1, a) :: r))) else pure (ForInStep.yield r) : Sem (ForInStep (List (Str × Addr))))) = pure (clOf env names acc) := by
  induction names with
  | nil => intro acc; rfl
  | cons x r ih =>
    intro acc
    obtain ⟨n, k⟩ := x
    have ih' := ih fun y hy => h y (List.mem_cons_of_mem _ hy)
    rw [List.forIn_cons]
    by_cases hk : k = .free
    · subst hk
      obtain ⟨c, hc⟩ := h (n, .free) List.mem_cons_self rfl
      have e : cellOf env n = pure c := by unfold cellOf; rw [hc]
      simp only [beq_self_eq_true, if_true, clOf, hc]
      rw [e]
      exact ih' _
    · have hb : (k == NameKind.free) = false := by simpa using hk
      simp only [hb, Bool.false_eq_true, if_false, clOf, hk]
      exact ih' acc
theorem closure_eq {scope : Scope} (h : ∀ y ∈ scope.names, y.2 = .free → ∃ c, env.cells.lookup y.1 = some c) : closureFor scope env = pure (clOf env scope.names []) := by
  have := closure_go scope.names h []
  unfold closureFor
  show (do let cs ← forIn scope.names [] _; pure cs) = _
  simp only [bind_pure]
  exact this

theorem clOf_keep (names : List (Str × NameKind)) : ∀ (acc : List (Str × Addr)) (y : Str) (c : Addr), env.cells.lookup y = some c → acc.lookup y = some c → (clOf env names acc).lookup y = some c := by
  induction names with
  | nil => intro acc y c _ h; exact h
  | cons x r ih =>
    intro acc y c hc h
    obtain ⟨n, k⟩ := x
    unfold clOf
    split
    · split
      · rename_i c' hc'
        refine ih _ y c hc ?_
        rw [List.lookup_cons]
        cases hyn : y == n with
        | true =>
          have : y = n := by simpa using hyn
          subst this
          rw [hc] at hc'; cases hc'; rfl
        | false => exact h
      · exact ih _ y c hc h
    · exact ih _ y c hc h
theorem clOf_lookup (names : List (Str × NameKind)) : ∀ (acc : List (Str × Addr)) (y : Str) (c : Addr), (y, NameKind.free) ∈ names → env.cells.lookup y = some c → (clOf env names acc).lookup y = some c := by
  induction names with
  | nil => intro acc y c h; cases h
  | cons x r ih =>
    intro acc y c h hc
    obtain ⟨n, k⟩ := x
    rcases List.mem_cons.mp h with h | h
    · cases h
      unfold clOf
      rw [if_pos rfl, hc]
      exact clOf_keep r _ y c hc (by rw [List.lookup_cons]; simp)
    · unfold clOf
      split
      · split
        · exact ih _ y c h hc
        · exact ih _ y c h hc
      · exact ih _ y c h hc

theorem lookup_mem' {α : Type} {l : List (Str × α)} {x : Str} {v : α} (h : l.lookup x = some v) : (x, v) ∈ l := by
  induction l with
  | nil => simp at h
  | cons p l ih =>
    obtain ⟨n, k⟩ := p
    rw [List.lookup_cons] at h
    cases hx : x == n with
    | true =>
      rw [hx] at h
      have : x = n := by simpa using hx
      subst this; cases h; exact List.mem_cons_self
    | false => rw [hx] at h; exact List.mem_cons_of_mem _ (ih h)

theorem lookup_relabel {scope : Scope} {x : Str} : (relabel scope env).names.lookup x = (scope.names.lookup x).map fun k => if (k == NameKind.free && env.scope.kind == .function && env.kindOf x == some .cell) then NameKind.cell else k := by
  unfold relabel
  simp only
  induction scope.names with
  | nil => rfl
  | cons p l ih =>
    obtain ⟨n, k⟩ := p
    rw [List.map_cons]
    have : (if (k == NameKind.free && env.scope.kind == ScopeKind.function && env.kindOf n == some NameKind.cell) = true then (n, NameKind.cell) else (n, k)) = (n, if (k == NameKind.free && env.scope.kind == ScopeKind.function && env.kindOf n == some NameKind.cell) = true then NameKind.cell else k) := by
      split <;> rfl
    show List.lookup x ((if (k == NameKind.free && env.scope.kind == ScopeKind.function && env.kindOf n == some NameKind.cell) = true then (n, NameKind.cell) else (n, k)) :: _) = _
    rw [this, List.lookup_cons, List.lookup_cons]
    cases hx : x == n with
    | true =>
      have : x = n := by simpa using hx
      subst this; rfl
    | false => exact ih
end

structure ScOk (scope : Scope) (cn : List Str) : Prop where
  kind : scope.kind = .function
  nm : ∀ y ∈ scope.names, nameOk y.1 = true
  cell : ∀ y ∈ scope.names, y.2 ≠ .cell
  loc : ∀ y ∈ scope.names, y.2 = .local → scope.names.lookup y.1 = some .local
  free : ∀ y ∈ scope.names, y.2 = .free → y.1 ∈ cn
  fre : ∀ y ∈ scope.names, y.2 = .free → scope.names.lookup y.1 = some .free
theorem scopeOk_iff {scope : Scope} {cn : List Str} (h : scopeOk scope cn = true) : ScOk scope cn := by
  unfold scopeOk at h
  simp only [Bool.and_eq_true, decide_eq_true_iff, List.all_eq_true] at h
  obtain ⟨⟨⟨⟨h1, h2⟩, h3⟩, h4⟩, h5⟩ := h
  exact ⟨h1, h2, h3, h4, fun y hy hf => by have := (h5 y hy hf).1; simpa using this, fun y hy hf => (h5 y hy hf).2⟩

theorem mem_freeN {scope : Scope} {y : Str} : y ∈ freeN scope ↔ (y, NameKind.free) ∈ scope.names := by
  unfold freeN
  simp only [List.mem_map, List.mem_filter, decide_eq_true_iff]
  constructor
  · rintro ⟨⟨n, k⟩, ⟨h1, h2⟩, rfl⟩
    simp only at h2
    subst h2; exact h1
  · intro h; exact ⟨_, ⟨h, rfl⟩, rfl⟩

theorem seen_lookup {scope : Scope} {σ : Sg} {y : Str} {d : D} (h : (seen scope σ).lookup y = some d) : σ.lookup y = some d ∧ scope.names.lookup y = some .free := by
  unfold seen at h
  induction σ with
  | nil => simp at h
  | cons p l ih =>
    obtain ⟨n, v⟩ := p
    rw [List.filter_cons] at h
    split at h
    · rename_i hn
      rw [decide_eq_true_iff] at hn
      rw [List.lookup_cons] at h ⊢
      cases hx : y == n with
      | true =>
        rw [hx] at h
        have : y = n := by simpa using hx
        subst this; exact ⟨h, hn⟩
      | false => rw [hx] at h; exact ih h
    · rename_i hn
      have hi := ih h
      refine ⟨?_, hi.2⟩
      rw [List.lookup_cons]
      cases hx : y == n with
      | true =>
        have : y = n := by simpa using hx
        subst this
        rw [decide_eq_true_iff] at hn
        exact absurd hi.2 hn
      | false => exact hi.1

section
variable {O : OSet} {s : Shared} {env : Env} {sc : List (Str × NameKind)} {cn own : List Str} {σ : Sg}

theorem EnvOK.inner {scope : Scope} {h₁ h : Heap} {C dd : Addr} {m : Str → Option Value} (hs : ScOk scope cn) (X : EnvOK sc cn own O σ env h₁) (hD : h₁.get? dd = none) (kept : Kp h₁ h) (hn : h.Ns C m) {τ : Sg}
    (hτ : ∀ x d, τ.lookup x = some d → scope.names.lookup x = some .local ∧ own.contains x = false ∧ ∃ v, m x = some v ∧ Rd (fun a => O a ∨ a = dd) h v d) :
    EnvOK scope.names (freeN scope) own (fun a => O a ∨ a = dd) (τ ++ seen scope σ) (compEnvC scope (clOf env scope.names []) C env) h := by
  have kind : ∀ x, (compEnvC scope (clOf env scope.names []) C env).kindOf x = (scope.names.lookup x).map fun k => if (k == NameKind.free && env.scope.kind == .function && env.kindOf x == some .cell) then NameKind.cell else k := fun x => lookup_relabel
  have kfree : ∀ x, scope.names.lookup x = some .free → (compEnvC scope (clOf env scope.names []) C env).kindOf x = some .cell ∨ (compEnvC scope (clOf env scope.names []) C env).kindOf x = some .free := by
    intro x hx
    rw [kind, hx]
    simp only [Option.map_some]
    split
    · exact .inl rfl
    · exact .inr rfl
  refine ⟨by show (relabel scope env).kind = _; exact hs.kind, X.glb, X.bl, ?_, ?_, ?_, ?_⟩
  · intro x k hk
    rw [kind] at hk
    rw [Option.map_eq_some_iff] at hk
    obtain ⟨k0, h0, _⟩ := hk
    exact hs.nm _ (lookup_mem' h0)
  · intro x k hk
    rw [kind, hk]
    simp only [Option.map_some]
    by_cases hfr : k = .free
    · subst hfr
      split
      · exact .inr ⟨rfl, rfl⟩
      · exact .inl rfl
    · have : (k == NameKind.free) = false := by simpa using hfr
      simp [this]
  · intro x hx
    have hmem := mem_freeN.mp hx
    obtain ⟨hk, c, hc⟩ := X.cn x (hs.free _ hmem rfl)
    exact ⟨kfree x (hs.fre _ hmem rfl), c, clOf_lookup scope.names [] x c hmem hc⟩
  · intro x d hx
    rw [List.lookup_append] at hx
    cases ht : τ.lookup x with
    | some d' =>
      rw [ht] at hx
      cases hx
      obtain ⟨h1, h2, v, h3, h4⟩ := hτ x d ht
      refine ⟨v, .inl ⟨?_, m, hn, h3⟩, ?_⟩
      · rw [kind, h1]; rfl
      · unfold RdO; rw [h2]; exact h4
    | none =>
      rw [ht] at hx
      obtain ⟨h1, h2⟩ := seen_lookup hx
      obtain ⟨v, lo, r⟩ := X.lo x d h1
      have hmem := lookup_mem' h2
      obtain ⟨hk, c, hc⟩ := X.cn x (hs.free _ hmem rfl)
      have hcell : h₁.IsCell c (some v) := by
        rcases lo with ⟨hl, _⟩ | ⟨_, c', hc', hv⟩
        · rcases hk with hk | hk <;> rw [hl] at hk <;> cases hk
        · rw [hc] at hc'; cases hc'; exact hv
      refine ⟨v, .inr ⟨kfree x h2, c, clOf_lookup scope.names [] x c hmem hc, hcell.keeps kept⟩, ?_⟩
      have mono : ∀ a, (O a ∨ a = dd) → O a ∨ h₁.get? a = none := fun a q => q.elim .inl fun q => .inr (by rw [q]; exact hD)
      unfold RdO at r ⊢
      split
      · rename_i hw
        rw [if_pos hw] at r
        cases r with
        | of r => exact .of ((r.mono mono).kp kept)
        | top e1 e2 e r =>
          subst e1 e2
          exact .top rfl rfl (kept _ _ e) ((r.mono mono).kp kept)
      · rename_i hw
        rw [if_neg hw] at r
        exact (r.mono mono).kp kept
end
end Mine
end

section
open PySem PySem.W PyProof.Rows
set_option Elab.async false
namespace Mine
set_option maxRecDepth 100000
set_option linter.unusedVariables false

section
variable {prog : Program} {w : World} {mg mb : Str → Option Value} {K : List (Addr × Obj)} {k : Nat} {Γ : List (Str × GV)} {n : Nat} {A : Around} {O : OSet} {env : Env} {sc : List (Str × NameKind)} {cn own : List Str} {σ : Sg}

theorem tests1 (H : SN prog w mg mb K k Γ n) {O' : OSet} {env' : Env} {sc' : List (Str × NameKind)} {cn' : List Str} {σ' : Sg} {s : Shared} {ifs : List PySem.Expr} {b : Bool} (hl : ifs.length ≤ 1) (h : trAll (tr Γ n sc' cn' own σ') .And ifs = some b) (a : AOk k A) (B : Bs mg mb K s.heap) (al : Alive O' s.heap) (X : EnvOK sc' cn' own O' σ' env' s.heap)
    {Q : Bool → Shared → Prop} {E : Value → Shared → Prop} (hq : ∀ s', Ks s s' → Q b s') :
    wpAny (model prog w) A (forIn ifs true fun c r => if r = true then do let ok ← isTrue c env' (eval c env'); pure (ForInStep.yield ok) else pure (ForInStep.yield r)) Q E s := by
  match ifs, hl with
  | [], _ =>
    cases h
    exact wpAny_tests_nil (hq s (Ks.refl' s))
  | [c], _ =>
    obtain ⟨b1, h1, h⟩ := bind_some' h
    have : b1 = b := by cases b1 <;> cases h <;> rfl
    subst this
    exact wpAny_tests_one (H.tr h1 a B al X Q E hq)
  | _ :: _ :: _, hl => simp at hl

theorem folded_of {it : PySem.Expr} {env : Env} (h : setE it = false) (v : Value) : foldedSetIterable it env v = pure v := by
  cases it with
  | Set _ _ => exact absurd (show true = false from h) (by decide)
  | _ => rfl
theorem elimL {Q : Heap → Nat → (Str → Option Value) → List Value → Nat → Nat → List D → List D → Prop} {G : Prop} (h : ∃ h' tk m' ys c i es rest, Q h' tk m' ys c i es rest) (f : ∀ h' tk m' ys c i es rest, Q h' tk m' ys c i es rest → G) : G := by
  obtain ⟨h', tk, m', ys, c, i, es, rest, q⟩ := h
  exact f h' tk m' ys c i es rest q
theorem iterChg {O' : OSet} {h' h2 : Heap} {I : Addr} (hI : ∃ o fs, h'.get? I = some o ∧ o.data = .fields fs ∧ o.cls ≠ .type "range") (hk2 : ∀ b o, b ∉ [I] → h'.get? b = some o → h2.get? b = some o) : Chg O' h' h2 := by
  obtain ⟨oI, fs, hoI, hfs, hrI⟩ := hI
  intro b o e kk
  refine hk2 b o (fun hb => ?_) e
  rw [List.mem_singleton.mp hb, hoI] at e
  cases e
  rcases kk with ⟨_, _, q, _⟩ | ⟨_, _, q⟩
  · rw [hfs] at q; cases q
  · exact hrI q
theorem iterKp {h₁ h' h2 : Heap} {I : Addr} (hI : h₁.get? I = none) (hk : Kp h₁ h') (hk2 : ∀ b o, b ∉ [I] → h'.get? b = some o → h2.get? b = some o) : Kp h₁ h2 := by
  intro b o e
  refine hk2 b o (fun hb => ?_) (hk b o e)
  rw [List.mem_singleton.mp hb, hI] at e
  cases e
theorem compD_true {f : D → Option D} {d : D} {r res : List D} (h : compD (fun _ => some true) f (d :: r) = some res) : ∃ y ys, f d = some y ∧ compD (fun _ => some true) f r = some ys ∧ y :: ys = res := by
  obtain ⟨y, h1, h⟩ := bind_some' (show (f d).bind (fun y => (compD (fun _ => some true) f r).bind fun ys => some (y :: ys)) = some res from h)
  obtain ⟨ys, h2, h⟩ := bind_some' h
  exact ⟨y, ys, h1, h2, Option.some.inj h⟩
theorem drop_get {items : List D} {i : Nat} (h : i < items.length) : ∃ d, items[i]? = some d ∧ items.drop i = d :: items.drop (i + 1) :=
  ⟨items[i], List.getElem?_eq_getElem h, List.drop_eq_getElem_cons h⟩
theorem Alive.plus {h₁ h3 : Heap} {dd : Addr} {o : Obj} (al : Alive O h₁) (k : Kp h₁ h3) (e : h3.get? dd = some o) : Alive (fun a => O a ∨ a = dd) h3 := by
  rintro b (q | q)
  · obtain ⟨o, e⟩ := al b q; exact ⟨o, k b o e⟩
  · subst q; exact ⟨_, e⟩
theorem X_one {h₁ h3 : Heap} {scope : Scope} {x : Str} {C dd : Addr} {v : Value} {d : D} {m : Str → Option Value} (hs : ScOk scope cn) (X : EnvOK sc cn own O σ env h₁) (hD : h₁.get? dd = none) (kp : Kp h₁ h3) (hx : scope.names.lookup x = some .local) (hox : own.contains x = false) (hn : h3.Ns C m) (hm : m x = some v) (rv : Rd (fun a => O a ∨ a = dd) h3 v d) :
    EnvOK scope.names (freeN scope) own (fun a => O a ∨ a = dd) ((x, d) :: seen scope σ) (compEnvC scope (clOf env scope.names []) C env) h3 := by
  refine EnvOK.inner (τ := [(x, d)]) hs X hD kp (m := m) hn ?_
  intro y d' hy
  rw [List.lookup_cons] at hy
  cases hxy : y == x with
  | true =>
    rw [hxy] at hy; cases hy
    have : y = x := by simpa using hxy
    subst this
    exact ⟨hx, hox, v, hm, rv⟩
  | false => rw [hxy] at hy; cases hy
theorem X_two {h₁ h3 : Heap} {scope : Scope} {x y : Str} {C dd : Addr} {v vx : Value} {d dx : D} {m : Str → Option Value} (hs : ScOk scope cn) (X : EnvOK sc cn own O σ env h₁) (hD : h₁.get? dd = none) (kp : Kp h₁ h3) (hx : scope.names.lookup x = some .local) (hox : own.contains x = false) (hy : scope.names.lookup y = some .local) (hoy : own.contains y = false) (hn : h3.Ns C m) (hmy : m y = some v) (hmx : m x = some vx) (rv : Rd (fun a => O a ∨ a = dd) h3 v d) (rx : Rd (fun a => O a ∨ a = dd) h3 vx dx) :
    EnvOK scope.names (freeN scope) own (fun a => O a ∨ a = dd) ((y, d) :: (x, dx) :: seen scope σ) (compEnvC scope (clOf env scope.names []) C env) h3 := by
  refine EnvOK.inner (τ := [(y, d), (x, dx)]) hs X hD kp (m := m) hn ?_
  intro z d' hz
  rw [List.lookup_cons] at hz
  cases hzy : z == y with
  | true =>
    rw [hzy] at hz; cases hz
    have : z = y := by simpa using hzy
    subst this
    exact ⟨hy, hoy, v, hmy, rv⟩
  | false =>
    rw [hzy] at hz
    have hz : List.lookup z [(x, dx)] = some d' := hz
    rw [List.lookup_cons] at hz
    cases hzx : z == x with
    | true =>
      rw [hzx] at hz; cases hz
      have : z = x := by simpa using hzx
      subst this
      exact ⟨hx, hox, vx, hmx, rx⟩
    | false => rw [hzx] at hz; cases hz

/-- the loop of a comprehension of one clause over a name -/
theorem comp_loop (H : SN prog w mg mb K k Γ n) {h₁ : Heap} {s₄ : Shared} {scope : Scope} {x : Str} {px pos : Pos} {iter elt : PySem.Expr} {ifs : List PySem.Expr} {I C dd : Addr} {fp : List Addr} {P : Nat → Value → Prop} {St : Nat → Heap → Prop} {items res : List D} {m₀ : Str → Option Value} {R : Result → Shared → Prop}
    (hs : ScOk scope cn) (hx : scope.names.lookup x = some .local) (hox : own.contains x = false) (hif : ifs.length ≤ 1) (hlen : items.length ≤ 2 ^ 20)
    (W : Walks prog w A I fp [I] items.length P St) (hSt : ∀ i h, St i h → ∃ o fs, h.get? I = some o ∧ o.data = .fields fs ∧ o.cls ≠ .type "range")
    (a : AOk k A) (B : Bs mg mb K h₁) (al : Alive O h₁) (X : EnvOK sc cn own O σ env h₁) (hI : h₁.get? I = none) (hC : h₁.get? C = none) (hD : h₁.get? dd = none) (hCD : C ≠ dd) (hCI : C ≠ I) (hDI : dd ≠ I) (hCf : C ∉ fp) (hDf : dd ∉ fp)
    (hP : ∀ i v d, P i v → items[i]? = some d → Rd (fun a => O a ∨ a = dd) h₁ v d)
    (hres : compD (fun d => trAll (tr Γ n scope.names (freeN scope) own ((x, d) :: seen scope σ)) .And ifs) (fun d => ev Γ n scope.names (freeN scope) own ((x, d) :: seen scope σ) elt) items = some res)
    (hk : Kp h₁ s₄.heap) (hst : St 0 s₄.heap) (hn : s₄.heap.Ns C m₀) (hd : s₄.heap.get? dd = some (seqO "list" [] 0))
    (hR : ∀ h' tk m' ys c, Kp h₁ h' → h'.Ns C m' → h'.get? dd = some (seqO "list" ys c) → RdAll (fun a => O a ∨ a = dd) h' ys res → R (.ok .next) { s₄ with heap := h', toks := tk }) :
    codeAny (model prog w) A (.compLoop (.ListComp elt [⟨.Name x px, iter, ifs, 0⟩] scope pos) 0 (.ref I) (.ref dd) (compEnvC scope (clOf env scope.names []) C env)) R s₄ := by
  refine codeAny_compLoop_tests
    (fun j s' => ∃ h' tk m' ys c i es rest, s' = { s₄ with heap := h', toks := tk } ∧ i ≤ items.length ∧ j = items.length + 1 - i ∧ ys.length ≤ i ∧ St i h' ∧ Kp h₁ h' ∧ h'.Ns C m' ∧ h'.get? dd = some (seqO "list" ys c) ∧ RdAll (fun a => O a ∨ a = dd) h' ys es ∧
      compD (fun d => trAll (tr Γ n scope.names (freeN scope) own ((x, d) :: seen scope σ)) .And ifs) (fun d => ev Γ n scope.names (freeN scope) own ((x, d) :: seen scope σ) elt) (items.drop i) = some rest ∧ es ++ rest = res) ?_ (items.length + 1)
    ⟨s₄.heap, s₄.toks, m₀, [], 0, 0, [], res, rfl, Nat.zero_le _, rfl, Nat.le_refl _, hst, hk, hn, hd, .nil, hres, rfl⟩
  intro j s' hInv
  refine elimL hInv fun h' tk m' ys c i es rest q => ?_
  have e0 := q.1
  have hi := q.2.1
  have ej := q.2.2.1
  have hyl := q.2.2.2.1
  have hst' := q.2.2.2.2.1
  have hk' := q.2.2.2.2.2.1
  have hn' := q.2.2.2.2.2.2.1
  have hd' := q.2.2.2.2.2.2.2.1
  have hr' := q.2.2.2.2.2.2.2.2.1
  have hrest := q.2.2.2.2.2.2.2.2.2.1
  have he := q.2.2.2.2.2.2.2.2.2.2
  clear q hInv
  subst e0 ej
  by_cases hlt : i < items.length
  · refine W.item i _ _ _ hlt hst' fun v h2 tk2 hPv hst2 hk2 => ?_
    have chg2 : Chg (fun a => O a ∨ a = dd) h' h2 := iterChg (hSt _ _ hst') hk2
    have kp2 : Kp h₁ h2 := iterKp hI hk' hk2
    refine wpAny_assign_Name (wpAny_storeName_local (lookup_relabel_local hx) (hn'.at' fun o e => hk2 _ o (by simpa using hCI) e) (fun h3 hn3 hs3 => ?_) (by simp [compEnvC, relabel, hs.kind]))
    have hs3' : Heap.SameBut C h2 h3 := hs3
    have kp3 : Kp h₁ h3 := fun b o e => hs3'.extBut b o (by rintro rfl; rw [hC] at e; cases e) (kp2 b o e)
    have hnC2 : h2.Ns C m' := hn'.at' fun o e => hk2 _ o (by simpa using hCI) e
    have chg3 : Chg (fun a => O a ∨ a = dd) h' h3 := chg2.trans (Chg.ns hnC2 hs3')
    have hst3 : St (i + 1) h3 := W.frame _ _ _ hst2 fun b hb o e => hs3'.extBut b o (by rintro rfl; exact hCf hb) e
    have hd3 : h3.get? dd = some (seqO "list" ys c) := hs3'.extBut dd _ (Ne.symm hCD) (hk2 dd _ (by simpa using hDI) hd')
    have hr3 := hr'.chg chg3
    obtain ⟨d, hdi, hdrop⟩ := drop_get hlt
    have rv : Rd (fun a => O a ∨ a = dd) h3 v d := (hP i v d hPv hdi).kp kp3
    have al3 : Alive (fun a => O a ∨ a = dd) h3 := al.plus kp3 hd3
    have X3 : EnvOK scope.names (freeN scope) own (fun a => O a ∨ a = dd) ((x, d) :: seen scope σ) (compEnvC scope (clOf env scope.names []) C env) h3 := X_one hs X hD kp3 hx hox hn3 (if_pos rfl) rv
    rw [hdrop] at hrest
    obtain ⟨bt, ht, hrest⟩ := bind_some' hrest
    refine tests1 (s := { s₄ with heap := h3, toks := tk2 + 1 }) H hif ht a (B.kp kp3) al3 X3 fun s5 k5 => ?_
    cases bt with
    | false =>
      rw [if_neg Bool.false_ne_true]
      obtain ⟨h5, t5, rfl, kp5⟩ := k5
      refine ⟨items.length + 1 - (i + 1), by omega, h5, t5, _, ys, c, i + 1, es, rest, rfl, hlt, rfl, by omega, ?_, Kp.trans kp3 kp5, hn3.keeps kp5, kp5 _ _ hd3, hr3.kp kp5, hrest, he⟩
      exact W.frame _ _ _ hst3 fun b _ o e => kp5 b o e
    | true =>
      rw [if_pos rfl]
      obtain ⟨yd, hyd, hrest⟩ := bind_some' hrest
      obtain ⟨rest', hr1, hr2⟩ := bind_some' hrest
      cases hr2
      have kp5 := k5.kp
      refine H.ev hyd a (B.kp (kp3.trans kp5)) (al3.kp kp5) (X3.kp kp5) _ _ fun y s6 k6 r6 => ?_
      have k56 := k5.tr k6
      obtain ⟨h6, t6, rfl, kp6⟩ := k56
      have hd6 : h6.get? dd = some (seqO "list" ys c) := kp6 _ _ hd3
      refine wpAny_list_append_plain (s := { s₄ with heap := h6, toks := t6 }) (items := ys.toArray) ⟨c, hd6⟩ (fun h7 hl7 hs7 => ?_) ?_
      · obtain ⟨c7, hl7⟩ := hl7
        have hs7' : Heap.SameBut dd h6 h7 := hs7
        have kp7 : Kp h₁ h7 := fun b o e => hs7'.extBut b o (by rintro rfl; rw [hD] at e; cases e) (kp6 b o (kp3 b o e))
        have chg7 : Chg (fun a => O a ∨ a = dd) h6 h7 := Chg.hid hd6 (.inr rfl) hs7'
        refine ⟨items.length + 1 - (i + 1), by omega, h7, t6, _, ys ++ [y], c7, i + 1, es ++ [yd], rest', rfl, hlt, rfl, by rw [List.length_append, List.length_singleton]; omega, ?_, kp7, (hn3.keeps kp6).sameBut hs7' hCD, ?_, ?_, hr1, ?_⟩
        · exact W.frame _ _ _ hst3 fun b hb o e => hs7'.extBut b o (by rintro rfl; exact hDf hb) (kp6 b o e)
        · rw [hl7]; simp [seqO]
        · exact ((hr3.kp kp6).append (.one r6)).chg chg7
        · rw [List.append_assoc]; exact he
      · show ys.toArray.size ≤ 2 ^ 24
        rw [List.size_toArray]; omega
  · have hin : i = items.length := Nat.le_antisymm hi (Nat.not_lt.mp hlt)
    subst hin
    rw [List.drop_length] at hrest
    cases hrest
    rw [List.append_nil] at he
    subst he
    refine W.done _ _ _ hst' fun h2 tk2 hk2 => ?_
    have chg2 : Chg (fun a => O a ∨ a = dd) h' h2 := iterChg (hSt _ _ hst') hk2
    have kp2 : Kp h₁ h2 := iterKp hI hk' hk2
    exact hR h2 tk2 m' ys c kp2 (hn'.at' fun o e => hk2 _ o (by simpa using hCI) e) (hk2 dd _ (by simpa using hDI) hd') (hr'.chg chg2)
end
end Mine
end

section
open PySem PySem.W PyProof.Rows
set_option Elab.async false
namespace Mine
set_option maxRecDepth 100000
set_option linter.unusedVariables false

section
variable {prog : Program} {w : World} {mg mb : Str → Option Value} {K : List (Addr × Obj)} {k : Nat} {Γ : List (Str × GV)} {n : Nat} {A : Around} {O : OSet} {env : Env} {sc : List (Str × NameKind)} {cn own : List Str} {σ : Sg}

theorem none_of_le {h : Heap} {a : Addr} (ha : h.objs.size ≤ a) : h.get? a = none := by
  cases e : h.get? a with
  | none => rfl
  | some o => exact absurd (Heap.lt_size e) (Nat.not_lt.mpr ha)

/-- a comprehension's frame: the new list, the new names, the loop -/
theorem comp_frame {E : Value → Shared → Prop} {s₂ : Shared} {scope : Scope} {e : PySem.Expr} {it : Value} {Rr : Value → Addr → Result → Shared → Prop} (hs : ScOk scope cn)
    (loop : ∀ (C dd : Nat) (s₄ : Shared), dd = s₂.heap.objs.size → C = s₂.heap.objs.size + 1 → (∃ h tk, s₄ = { s₂ with heap := h, toks := tk }) → Kp s₂.heap s₄.heap → s₄.heap.Ns C (fun _ => none) → s₄.heap.get? dd = some (seqO "list" [] 0) →
      codeAny (model prog w) A (.compStart e 0 it (.ref dd) (compEnvC scope (clOf env scope.names []) C env)) (Rr (.ref dd) C) s₄) :
    wpAny (model prog w) A (newList []) (fun acc s₃ => wpAny (model prog w) A (newFunctionEnv scope env.globals (clOf env scope.names []) [] env.qual none .none (some env)) (fun cenv s₄ =>
      codeAny (model prog w) A (.compStart e 0 it acc { cenv with scope := relabel scope env }) (Rr acc cenv.locals) s₄) E s₃) E s₂ := by
  refine wpAny_newObj_type (wpAny_newFunctionEnv hs.cell (by intro y hy; simp at hy) (fun h₁ hns₁ hsb₁ => ?_) hs.kind)
  dsimp only at hns₁ hsb₁ ⊢
  generalize hH2 : s₂.heap.push { cls := .type "list", dict := none, data := .seq ([] : List Value).toArray } = H2 at hns₁ hsb₁ ⊢
  have hC : H2.objs.size = s₂.heap.objs.size + 1 := by rw [← hH2, Heap.size_push]
  have kp : Kp s₂.heap h₁ := fun b o e => hsb₁.extBut b o (by have := Heap.lt_size e; rw [hC]; exact Nat.ne_of_lt (Nat.lt_succ_of_lt this)) (Heap.get?_push_of_some _ (hH2 ▸ Heap.get?_push_of_some _ e))
  have hacc : h₁.get? s₂.heap.objs.size = some (seqO "list" [] 0) := hsb₁.extBut _ _ (by rw [hC]; exact Nat.ne_of_lt (Nat.lt_succ_self _)) (Heap.get?_push_of_some _ (hH2 ▸ Heap.get?_push_size _ rfl))
  exact loop H2.objs.size s₂.heap.objs.size _ rfl hC ⟨_, _, rfl⟩ kp hns₁ hacc

theorem cells_of {scope : Scope} {h : Heap} (hs : ScOk scope cn) (X : EnvOK sc cn own O σ env h) : closureFor scope env = pure (clOf env scope.names []) :=
  closure_eq fun y hy hf => (X.cn _ (hs.free y hy hf)).2

theorem fin_comp {E : Value → Shared → Prop} {Q : Value → Shared → Prop} {use : Option (Value → Sem Unit)} {s s₁ s₂ s₄ : Shared} {C dd : Nat} {l : List D} (k1 : Ks s s₁) (hs₂ : ∃ h tk, s₂ = { s₁ with heap := h, toks := tk }) (k2 : Kp s₁.heap s₂.heap) (al : Alive O s₁.heap) (hdd : dd = s₂.heap.objs.size) (hC : C = s₂.heap.objs.size + 1)
    (hs4 : ∃ h tk, s₄ = { s₂ with heap := h, toks := tk })
    (hq : ∀ dd C m s' ys c, Ks s s' → s.heap.get? C = none → C ≠ dd → s.heap.get? dd = none → s'.heap.Ns C m → s'.heap.get? dd = some (seqO "list" ys c) → RdAll (fun a => O a ∨ a = dd) s'.heap ys l → compPost (model prog w) A E use Q (.ref dd) C (.ok .next) s')
    {h' : Heap} {tk : Nat} {m' : Str → Option Value} {ys : List Value} {c : Nat} (kp : Kp s₁.heap h') (hn : h'.Ns C m') (hd : h'.get? dd = some (seqO "list" ys c)) (r : RdAll (fun a => O a ∨ a = dd) h' ys l) :
    compPost (model prog w) A E use Q (.ref dd) C (.ok .next) { s₄ with heap := h', toks := tk } := by
  obtain ⟨h4, t4, rfl⟩ := hs4
  obtain ⟨h2, t2, rfl⟩ := hs₂
  obtain ⟨h1, t1, rfl, kk1⟩ := k1
  refine hq dd C m' _ ys c ⟨h', tk, rfl, fun b o e => kp b o (kk1 b o e)⟩ ?_ ?_ ?_ hn hd r
  · cases q : s.heap.get? C with
    | none => rfl
    | some o => have := Heap.lt_size (k2 _ _ (kk1 _ _ q)); exact absurd this (Nat.not_lt.mpr (by rw [hC]; exact Nat.le_succ _))
  · rw [hC, hdd]; exact Nat.ne_of_gt (Nat.lt_succ_self _)
  · cases q : s.heap.get? dd with
    | none => rfl
    | some o => have := Heap.lt_size (k2 _ _ (kk1 _ _ q)); exact absurd this (Nat.not_lt.mpr (by rw [hdd]; exact Nat.le_refl _))

theorem rng_get {a b : Int} {i : Nat} {d : D} (h : (rngL a b)[i]? = some d) : d = .int (a + (i : Int)) := by
  unfold rngL at h
  rw [List.getElem?_map] at h
  rw [Option.map_eq_some_iff] at h
  obtain ⟨j, hj, rfl⟩ := h
  have : j = i := by
    rw [List.getElem?_range] at hj
    · exact (Option.some.inj hj).symm
    · have := List.getElem?_eq_some_iff.mp hj
      obtain ⟨hl, _⟩ := this
      simpa using hl
  subst this; rfl
theorem rngL_length (a b : Int) : (rngL a b).length = (b - a).toNat := by unfold rngL; simp

theorem small_rng {a b : Int} (ha : smallI a = true) (hb : smallI b = true) : Builtin.Range.small a b 1 = true := by
  have h1 := smallI_lt ha
  have h2 := smallI_lt hb
  exact small_one (by omega) (by omega) (by omega) (by omega)

theorem comp1_sound (H : SN prog w mg mb K k Γ n) {s : Shared} {scope : Scope} {x : Str} {px pos p : Pos} {iter elt : PySem.Expr} {ifs : List PySem.Expr} {l items : List D} {src : D}
    (hs : ScOk scope cn) (hx : scope.names.lookup x = some .local) (hox : own.contains x = false) (hif : ifs.length ≤ 1) (hse : setE iter = false)
    (hsrc : ev Γ n sc cn own σ iter = some src) (hit : itemsD src = some items)
    (hres : compD (fun d => trAll (tr Γ n scope.names (freeN scope) own ((x, d) :: seen scope σ)) .And ifs) (fun d => ev Γ n scope.names (freeN scope) own ((x, d) :: seen scope σ) elt) items = some l)
    (a : AOk k A) (B : Bs mg mb K s.heap) (al : Alive O s.heap) (X : EnvOK sc cn own O σ env s.heap)
    (use : Option (Value → Sem Unit)) (Q : Value → Shared → Prop) (E : Value → Shared → Prop)
    (hq : ∀ dd C m s' ys c, Ks s s' → s.heap.get? C = none → C ≠ dd → s.heap.get? dd = none → s'.heap.Ns C m → s'.heap.get? dd = some (seqO "list" ys c) → RdAll (fun a => O a ∨ a = dd) s'.heap ys l → compPost (model prog w) A E use Q (.ref dd) C (.ok .next) s') :
    wpAny (model prog w) A (comprehension (.ListComp elt [⟨.Name x px, iter, ifs, 0⟩] scope pos) scope env p (newList []) (firstAsync [⟨.Name x px, iter, ifs, 0⟩]) (firstIter [⟨.Name x px, iter, ifs, 0⟩] env) use) Q E s := by
  show wpAny _ A (comprehension _ scope env p (newList []) false (eval iter env) use) Q E s
  have hset : ∀ v, foldedSetIterable iter env v = pure v := folded_of hse
  refine wpAny_comprehension_free (use := use) rfl hset (cells_of hs X) hs.kind hs.loc (H.ev hsrc a B al X _ E fun xv s₁ k1 r1 => ?_)
  have B1 := B.kp k1.kp
  have al1 := al.kp k1.kp
  have X1 := X.kp k1.kp
  -- the rest, for any walker over the items
  have go : ∀ (I : Nat) (oI : Obj) (fp : List Addr) (P : Nat → Value → Prop) (St : Nat → Heap → Prop), I = s₁.heap.objs.size → oI.isFreed = false → Walks prog w A I fp [I] items.length P St → (∀ i h, St i h → ∃ o fs, h.get? I = some o ∧ o.data = .fields fs ∧ o.cls ≠ .type "range") →
      St 0 (s₁.heap.push oI) → (∀ b ∈ fp, b < (s₁.heap.push oI).objs.size) → (∀ i v d, P i v → items[i]? = some d → Rd O s₁.heap v d) →
      wpAny (model prog w) A (newList []) (fun acc s₃ => wpAny (model prog w) A (newFunctionEnv scope env.globals (clOf env scope.names []) [] env.qual none .none (some env)) (fun cenv s₄ =>
        codeAny (model prog w) A (.compStart (.ListComp elt [⟨.Name x px, iter, ifs, 0⟩] scope pos) 0 (.ref I) acc { cenv with scope := relabel scope env }) (compPost (model prog w) A E use Q acc cenv.locals) s₄) E s₃) E { s₁ with heap := s₁.heap.push oI } := by
    intro I oI fp P St hI hfr W hSt hst hfp hP
    have hsz : (s₁.heap.push oI).objs.size = s₁.heap.objs.size + 1 := Heap.size_push ..
    refine comp_frame hs fun C dd s₄ hdd hC hs4 kp4 hn4 hd4 => ?_
    have hdd' : dd = s₁.heap.objs.size + 1 := hdd.trans hsz
    have hC' : C = s₁.heap.objs.size + 2 := by rw [hC]; show (s₁.heap.push oI).objs.size + 1 = _; rw [hsz]
    have kpA : Kp s₁.heap s₄.heap := (Kp.push _ _).trans kp4
    have hst4 : St 0 s₄.heap := W.frame _ _ _ hst fun b _ o e => kp4 b o e
    have loop : codeAny (model prog w) A (.compLoop (.ListComp elt [⟨.Name x px, iter, ifs, 0⟩] scope pos) 0 (.ref I) (.ref dd) (compEnvC scope (clOf env scope.names []) C env)) (compPost (model prog w) A E use Q (.ref dd) C) s₄ := by
      refine comp_loop H hs hx hox hif ?_ W hSt a B1 al1 X1 (none_of_le (by omega)) (none_of_le (by omega)) (none_of_le (by omega)) (Nat.ne_of_gt (by omega)) (Nat.ne_of_gt (by omega)) (Nat.ne_of_gt (by omega)) (fun hm => absurd (hfp _ hm) (Nat.not_lt.mpr (by omega))) (fun hm => absurd (hfp _ hm) (Nat.not_lt.mpr (by omega))) ?_ hres kpA hst4 hn4 hd4 ?_
      · cases src <;> simp only [itemsD] at hit <;> try (cases hit; done)
        · split at hit
          · cases hit; assumption
          · cases hit
        · split at hit
          · rename_i hc; cases hit; rw [rngL_length]; have := hc.2.2; omega
          · cases hit
      · intro i v d h1 h2
        exact (hP i v d h1 h2).mono fun b q => q.elim .inl fun q => .inr (none_of_le (by rw [q]; omega))
      · intro h' tk m' ys c kp hn hd r
        exact fin_comp (s₂ := { s₁ with heap := s₁.heap.push oI }) k1 ⟨_, _, rfl⟩ (Kp.push _ _) al1 hdd hC hs4 hq kp hn hd r
    exact codeAny_compStart_list loop (W.self 0 _ _ _ hst4 loop)
  cases src <;> simp only [itemsD] at hit <;> try (cases hit; done)
  · rename_i l0
    split at hit
    · cases hit
      obtain ⟨ax, vs, nn, rfl, e, r⟩ := (RdT.of r1).list
      have hlt : ax < s₁.heap.objs.size := Heap.lt_size e
      refine wpAny_pyIter_list (isList_of e) ?_
      refine go s₁.heap.objs.size { cls := .type "list_iterator", data := .fields #[.ref ax, .int 0 0] } [s₁.heap.objs.size, ax] (fun i v => vs.toArray[i]? = some v) (fun i h => h.IsListIter s₁.heap.objs.size ax i ∧ h.IsList ax vs.toArray) rfl rfl ?_ ?_ ⟨⟨_, Heap.get?_push_size _ rfl, rfl, rfl⟩, (isList_of e).push _⟩ ?_ ?_
      · have := Walks.list (prog := prog) (w := w) (A := A) a.hd s₁.heap.objs.size ax (Nat.ne_of_lt hlt) vs.toArray
        have e0 : vs.toArray.size = items.length := by rw [List.size_toArray, r.length]
        rw [e0] at this
        exact this
      · intro i h st
        obtain ⟨o, ho, hc, hd⟩ := st.1
        exact ⟨o, _, ho, hd, by rw [hc]; decide⟩
      · intro b hb
        rw [Heap.size_push]
        rcases List.mem_cons.mp hb with rfl | hb
        · exact Nat.lt_succ_self _
        · rw [List.mem_singleton.mp hb]; exact Nat.lt_succ_of_lt hlt
      · intro i v d h1 h2
        obtain ⟨v', e1, r2⟩ := r.get h2
        have : vs[i]? = some v := by simpa using h1
        rw [this] at e1; cases e1; exact r2
    · cases hit
  · rename_i lo hi
    split at hit
    · rename_i hc
      cases hit
      obtain ⟨pr, t, u, z, rfl, hr⟩ := (RdT.of r1).rng'
      refine wpAny_pyIter_range hr (small_rng hc.1 hc.2.1) ?_
      refine go s₁.heap.objs.size { cls := .type "range_iterator", data := .fields #[rawInt lo, rawInt (Builtin.Range.rangeSize lo hi 1), rawInt 1] } [s₁.heap.objs.size] (fun i v => ∃ t, v = .int (lo + (i : Int)) t) (fun i h => IsRangeIter h s₁.heap.objs.size (lo + (i : Nat) * 1) (((rngL lo hi).length : Int) - (i : Nat)) 1) rfl rfl (LCg.range_walks a.hd lo _) ?_ ?_ ?_ ?_
      · intro i h st
        exact ⟨_, _, st, rfl, by simp⟩
      · show IsRangeIter _ _ _ _ _
        rw [rngL_length, rangeSize_one]
        have e1 : (if lo < hi then hi - lo else 0) = (((hi - lo).toNat : Nat) : Int) - ((0 : Nat) : Int) := by split <;> omega
        have e2 : lo + ((0 : Nat) : Int) * 1 = lo := by omega
        rw [e1, e2]
        exact Heap.get?_push_size _ rfl
      · intro b hb
        rw [List.mem_singleton.mp hb, Heap.size_push]
        exact Nat.lt_succ_self _
      · intro i v d h1 h2
        obtain ⟨t, rfl⟩ := h1
        rw [rng_get h2]; exact .int _ _
    · cases hit
end
end Mine
end

section
open PySem PySem.W PyProof.Rows
set_option Elab.async false
namespace Mine
set_option maxRecDepth 100000
set_option linter.unusedVariables false

theorem turn2_inner (elt t0 t1 i0 i1 : PySem.Expr) (scope : Scope) (pos : Pos) (it acc : Value) (env : Env) :
    compTurn (.ListComp elt [⟨t0, i0, [], 0⟩, ⟨t1, i1, [], 0⟩] scope pos) 1 it acc env = (standAt i1.pos >>= fun _ => pyNext it >>= fun r => match r with
      | none => pure (.done .next)
      | some v => letOwnedTupleGo t1 it v >>= fun _ => assign t1 env v >>= fun _ =>
        (eval elt env >>= fun x => call (.builtin "list.append") [acc, x] >>= fun _ => pure ()) >>= fun _ =>
          again (.compLoop (.ListComp elt [⟨t0, i0, [], 0⟩, ⟨t1, i1, [], 0⟩] scope pos) 1 it acc env)) := by rfl
theorem turn2_outer (elt t0 t1 i0 i1 : PySem.Expr) (scope : Scope) (pos : Pos) (it acc : Value) (env : Env) :
    compTurn (.ListComp elt [⟨t0, i0, [], 0⟩, ⟨t1, i1, [], 0⟩] scope pos) 0 it acc env = (standAt i0.pos >>= fun _ => pyNext it >>= fun r => match r with
      | none => pure (.done .next)
      | some v => letOwnedTupleGo t0 it v >>= fun _ => assign t0 env v >>= fun _ =>
        (eval i1 env >>= fun x => standAt i1.pos >>= fun _ => foldedSetIterable i1 env x >>= fun x => holding [x] (pyIter x) >>= fun it' => runOwn (.compStart (.ListComp elt [⟨t0, i0, [], 0⟩, ⟨t1, i1, [], 0⟩] scope pos) 1 it' acc env) env >>= fun _ =>
          again (.compLoop (.ListComp elt [⟨t0, i0, [], 0⟩, ⟨t1, i1, [], 0⟩] scope pos) 0 it acc env))) := by rfl

section
variable {prog : Program} {w : World} {mg mb : Str → Option Value} {K : List (Addr × Obj)} {k : Nat} {Γ : List (Str × GV)} {n : Nat} {A : Around} {O : OSet} {env : Env} {sc : List (Str × NameKind)} {cn own : List Str} {σ : Sg}

theorem start2 {elt t0 t1 i0 i1 : PySem.Expr} {scope : Scope} {pos : Pos} {it acc : Value} {env : Env} {R : Result → Shared → Prop} {s : Shared}
    (h0 : codeAny (model prog w) A (.compLoop (.ListComp elt [⟨t0, i0, [], 0⟩, ⟨t1, i1, [], 0⟩] scope pos) 1 it acc env) R s)
    (h : wpAny (model prog w) A (pyIter it) (fun it' s' => codeAny (model prog w) A (.compLoop (.ListComp elt [⟨t0, i0, [], 0⟩, ⟨t1, i1, [], 0⟩] scope pos) 1 it' acc env) R s')
      (notedBy (model prog w) A env fun x s' => R (.error x) s') s) :
    codeAny (model prog w) A (.compStart (.ListComp elt [⟨t0, i0, [], 0⟩, ⟨t1, i1, [], 0⟩] scope pos) 1 it acc env) R s := by
  refine codeAny_of_tree ?_
  show wpAny _ _ ((compStart (.ListComp elt [⟨t0, i0, [], 0⟩, ⟨t1, i1, [], 0⟩] scope pos) 1 it acc env).onRaise (fun x => do noteFrame x env; standAt theWindowsPlace)) _ _ s
  refine wpAny_notedAt ?_
  unfold compStart
  show wpAny _ _ (ask >>= _) _ _ s
  refine wpAny_bind (wpAny_askSetting (wpAny_ite ?_))
  split
  · first
      | exact wpAny_bind (wpAny_pure (wpAny_pure (And.intro rfl h0)))
      | exact wpAny_pure (And.intro rfl h0)
  · refine wpAny_bind (wpAny_rule ?_)
    show wpAny _ _ (standAt i1.pos >>= _) _ _ s
    exact wpAny_bind (wpAny_standAt (wpAny_bind (wpAny_mono h (fun it' s' h' => wpAny_pure (And.intro rfl h')) fun _ _ x => x)))

/-- kept but at two places -/
noncomputable def KpB (C dd : Addr) (g h : Heap) : Prop := ∀ b o, b ≠ C → b ≠ dd → g.get? b = some o → h.get? b = some o

/-- the inner loop of a comprehension of two clauses -/
theorem comp_inner (H : SN prog w mg mb K k Γ n) {h₁ g : Heap} {s₅ : Shared} {scope : Scope} {x y : Str} {px py pos : Pos} {iter iter' elt : PySem.Expr} {I C dd : Addr} {fp : List Addr} {P : Nat → Value → Prop} {St : Nat → Heap → Prop} {items res es₀ : List D} {m₀ : Str → Option Value} {ys₀ : List Value} {c₀ : Nat} {vx : Value} {dx : D} {R : Result → Shared → Prop}
    (hs : ScOk scope cn) (hx : scope.names.lookup x = some .local) (hox : own.contains x = false) (hy : scope.names.lookup y = some .local) (hoy : own.contains y = false) (hxy : x ≠ y) (hlen : items.length ≤ 2 ^ 20) (hy0 : ys₀.length + items.length ≤ 2 ^ 24)
    (W : Walks prog w A I fp [I] items.length P St) (hSt : ∀ i h, St i h → ∃ o fs, h.get? I = some o ∧ o.data = .fields fs ∧ o.cls ≠ .type "range")
    (a : AOk k A) (B : Bs mg mb K h₁) (al : Alive O h₁) (X : EnvOK sc cn own O σ env h₁) (hC : h₁.get? C = none) (hD : h₁.get? dd = none) (k1 : Kp h₁ g) (hI : g.get? I = none) (hCD : C ≠ dd) (hCI : C ≠ I) (hDI : dd ≠ I) (hCf : C ∉ fp) (hDf : dd ∉ fp)
    (rx : Rd (fun a => O a ∨ a = dd) g vx dx)
    (hP : ∀ i v d, P i v → items[i]? = some d → Rd (fun a => O a ∨ a = dd) g v d) (hgC : ∃ m, g.Ns C m) (hgd : ∃ ys c, g.get? dd = some (seqO "list" ys c))
    (hres : compD (fun _ => some true) (fun d' => ev Γ n scope.names (freeN scope) own ((y, d') :: (x, dx) :: seen scope σ) elt) items = some res)
    (hk : KpB C dd g s₅.heap) (hst : St 0 s₅.heap) (hn : s₅.heap.Ns C m₀) (hm : m₀ x = some vx) (hd : s₅.heap.get? dd = some (seqO "list" ys₀ c₀)) (hr : RdAll (fun a => O a ∨ a = dd) s₅.heap ys₀ es₀)
    (hR : ∀ h' tk m' ys c, KpB C dd g h' → h'.Ns C m' → m' x = some vx → h'.get? dd = some (seqO "list" ys c) → ys.length ≤ ys₀.length + items.length → RdAll (fun a => O a ∨ a = dd) h' ys (es₀ ++ res) → R (.ok .next) { s₅ with heap := h', toks := tk }) :
    codeAny (model prog w) A (.compLoop (.ListComp elt [⟨.Name x px, iter, [], 0⟩, ⟨.Name y py, iter', [], 0⟩] scope pos) 1 (.ref I) (.ref dd) (compEnvC scope (clOf env scope.names []) C env)) R s₅ := by
  refine codeAny_loop rfl
    (fun j s' => ∃ h' tk m' ys c i es rest, s' = { s₅ with heap := h', toks := tk } ∧ i ≤ items.length ∧ j = items.length + 1 - i ∧ ys.length ≤ ys₀.length + i ∧ St i h' ∧ KpB C dd g h' ∧ h'.Ns C m' ∧ m' x = some vx ∧ h'.get? dd = some (seqO "list" ys c) ∧ RdAll (fun a => O a ∨ a = dd) h' ys (es₀ ++ es) ∧
      compD (fun _ => some true) (fun d' => ev Γ n scope.names (freeN scope) own ((y, d') :: (x, dx) :: seen scope σ) elt) (items.drop i) = some rest ∧ es ++ rest = res) ?_ (items.length + 1)
    ⟨s₅.heap, s₅.toks, m₀, ys₀, c₀, 0, [], res, rfl, Nat.zero_le _, rfl, Nat.le_refl _, hst, hk, hn, hm, hd, by simpa using hr, hres, rfl⟩
  intro j s' hInv
  refine elimL hInv fun h' tk m' ys c i es rest q => ?_
  have e0 := q.1
  have hi := q.2.1
  have ej := q.2.2.1
  have hyl := q.2.2.2.1
  have hst' := q.2.2.2.2.1
  have hk' := q.2.2.2.2.2.1
  have hn' := q.2.2.2.2.2.2.1
  have hm' := q.2.2.2.2.2.2.2.1
  have hd' := q.2.2.2.2.2.2.2.2.1
  have hr' := q.2.2.2.2.2.2.2.2.2.1
  have hrest := q.2.2.2.2.2.2.2.2.2.2.1
  have he := q.2.2.2.2.2.2.2.2.2.2.2
  clear q hInv
  subst e0 ej
  show wpAny _ _ ((compTurn (.ListComp elt [⟨.Name x px, iter, [], 0⟩, ⟨.Name y py, iter', [], 0⟩] scope pos) 1 (.ref I) (.ref dd) (compEnvC scope (clOf env scope.names []) C env)).onRaise (fun x => do noteFrame x (compEnvC scope (clOf env scope.names []) C env); theTreesLotGoes x)) _ _ _
  refine wpAny_noted ?_
  rw [turn2_inner]
  refine wpAny_bind (wpAny_standAt (wpAny_bind ?_))
  show wpAny (model prog w) A (pyNext (.ref I)) _ _ _
  have chgN : ∀ h2 : Heap, (∀ b o, b ∉ [I] → h'.get? b = some o → h2.get? b = some o) → Chg (fun a => O a ∨ a = dd) h' h2 := fun h2 => iterChg (hSt _ _ hst')
  have kpN : ∀ h2 : Heap, (∀ b o, b ∉ [I] → h'.get? b = some o → h2.get? b = some o) → KpB C dd g h2 := by
    intro h2 hk2 b o h3 h4 e
    refine hk2 b o ?_ (hk' b o h3 h4 e)
    intro hb
    have hbI : b = I := by simpa using hb
    subst hbI
    rw [hI] at e; cases e
  by_cases hlt : i < items.length
  · refine W.item i _ _ _ hlt hst' fun v h2 tk2 hPv hst2 hk2 => ?_
    refine wpAny_bind (wpAny_pure ?_)
    refine wpAny_bind ?_
    have hnC2 : h2.Ns C m' := hn'.at' fun o e => hk2 _ o (by simpa using hCI) e
    refine wpAny_assign_Name (wpAny_storeName_local (lookup_relabel_local hy) hnC2 (fun h3 hn3 hs3 => ?_) (by simp [compEnvC, relabel, hs.kind]))
    have hs3' : Heap.SameBut C h2 h3 := hs3
    have kp3 : KpB C dd g h3 := fun b o q1 q2 e => hs3'.extBut b o q1 (kpN h2 hk2 b o q1 q2 e)
    have kpA : Kp h₁ h3 := fun b o e => kp3 b o (by rintro rfl; rw [hC] at e; cases e) (by rintro rfl; rw [hD] at e; cases e) (k1 b o e)
    have chg3 : Chg (fun a => O a ∨ a = dd) h' h3 := (chgN h2 hk2).trans (Chg.ns hnC2 hs3')
    have chgG : Chg (fun a => O a ∨ a = dd) g h3 := by
      obtain ⟨mg0, hgC⟩ := hgC
      obtain ⟨oC, esC, epC, hoC, hdC, _⟩ := hgC
      intro b o e kk
      refine kp3 b o ?_ ?_ e
      · rintro rfl; rw [hoC] at e; cases e
        rcases kk with ⟨_, _, q, _⟩ | ⟨_, q, _⟩ <;> rw [hdC] at q <;> cases q
      · rintro rfl
        obtain ⟨yg, cg, hgd⟩ := hgd
        rw [hgd] at e; cases e
        rcases kk with ⟨_, _, _, q⟩ | ⟨_, q, _⟩
        · exact q rfl (.inr rfl)
        · cases q
    have hst3 : St (i + 1) h3 := W.frame _ _ _ hst2 fun b hb o e => hs3'.extBut b o (by rintro rfl; exact hCf hb) e
    have hd3 : h3.get? dd = some (seqO "list" ys c) := hs3'.extBut dd _ (Ne.symm hCD) (hk2 dd _ (by simpa using hDI) hd')
    have hr3 := hr'.chg chg3
    obtain ⟨d, hdi, hdrop⟩ := drop_get hlt
    have rv : Rd (fun a => O a ∨ a = dd) h3 v d := (hP i v d hPv hdi).chg chgG
    have al3 : Alive (fun a => O a ∨ a = dd) h3 := al.plus kpA hd3
    have X3 : EnvOK scope.names (freeN scope) own (fun a => O a ∨ a = dd) ((y, d) :: (x, dx) :: seen scope σ) (compEnvC scope (clOf env scope.names []) C env) h3 := X_two hs X hD kpA hx hox hy hoy hn3 (if_pos rfl) ((if_neg hxy).trans hm') rv (rx.chg chgG)
    rw [hdrop] at hrest
    obtain ⟨yd, rest', hyd, hr1, hr2⟩ := compD_true hrest
    subst hr2
    refine wpAny_bind (wpAny_bind ?_)
    refine H.ev hyd (s := { s₅ with heap := h3, toks := tk2 + 1 }) a (B.kp kpA) al3 X3 _ _ fun yv s6 k6 r6 => ?_
    obtain ⟨h6, t6, rfl, kp6⟩ := k6
    have hd6 : h6.get? dd = some (seqO "list" ys c) := kp6 _ _ hd3
    refine wpAny_bind (wpAny_list_append_plain (s := { s₅ with heap := h6, toks := t6 }) (items := ys.toArray) ⟨c, hd6⟩ (fun h7 hl7 hs7 => ?_) ?_)
    · obtain ⟨c7, hl7⟩ := hl7
      have hs7' : Heap.SameBut dd h6 h7 := hs7
      have kp7 : KpB C dd g h7 := fun b o q1 q2 e => hs7'.extBut b o q2 (kp6 b o (kp3 b o q1 q2 e))
      have chg7 : Chg (fun a => O a ∨ a = dd) h6 h7 := Chg.hid hd6 (.inr rfl) hs7'
      refine wpAny_pure (wpAny_pure ⟨rfl, items.length + 1 - (i + 1), by omega, h7, t6, _, ys ++ [yv], c7, i + 1, es ++ [yd], rest', rfl, hlt, rfl, by rw [List.length_append, List.length_singleton]; omega, ?_, kp7, (hn3.keeps kp6).sameBut hs7' hCD, by simp only [if_neg hxy]; exact hm', ?_, ?_, hr1, ?_⟩)
      · exact W.frame _ _ _ hst3 fun b hb o e => hs7'.extBut b o (by rintro rfl; exact hDf hb) (kp6 b o e)
      · rw [hl7]; simp [seqO]
      · rw [← List.append_assoc]; exact ((hr3.kp kp6).append (.one r6)).chg chg7
      · rw [List.append_assoc]; exact he
    · show ys.toArray.size ≤ 2 ^ 24
      rw [List.size_toArray]; omega
  · have hin : i = items.length := Nat.le_antisymm hi (Nat.not_lt.mp hlt)
    subst hin
    rw [List.drop_length] at hrest
    cases hrest
    rw [List.append_nil] at he
    subst he
    refine W.done _ _ _ hst' fun h2 tk2 hk2 => ?_
    exact wpAny_pure (hR h2 tk2 m' ys c (kpN h2 hk2) (hn'.at' fun o e => hk2 _ o (by simpa using hCI) e) hm' (hk2 dd _ (by simpa using hDI) hd') hyl (hr'.chg (chgN h2 hk2)))
end
end Mine
end

section
open PySem PySem.W PyProof.Rows
set_option Elab.async false
namespace Mine
set_option maxRecDepth 100000
set_option linter.unusedVariables false
section
variable {prog : Program} {w : World} {mg mb : Str → Option Value} {K : List (Addr × Obj)} {k : Nat} {Γ : List (Str × GV)} {n : Nat} {A : Around} {O : OSet} {env : Env} {sc : List (Str × NameKind)} {cn own : List Str} {σ : Sg}

/-- the walker over a datum's items: how an iterator is made of it -/
theorem iter_any {O' : OSet} {s₁ : Shared} {xv : Value} {src : D} {items : List D} (hA : A.handled = none) (hit : itemsD src = some items) (r1 : Rd O' s₁.heap xv src) {Q : Value → Shared → Prop} {E : Value → Shared → Prop}
    (go : ∀ (oI : Obj) (fp : List Addr) (P : Nat → Value → Prop) (St : Nat → Heap → Prop), oI.isFreed = false → (∀ b ∈ fp, b = s₁.heap.objs.size ∨ (¬ O' b ∧ ∃ vs nn, s₁.heap.get? b = some (seqO "list" vs nn))) →
      Walks prog w A s₁.heap.objs.size fp [s₁.heap.objs.size] items.length P St → (∀ i h, St i h → ∃ o fs, h.get? s₁.heap.objs.size = some o ∧ o.data = .fields fs ∧ o.cls ≠ .type "range") →
      St 0 (s₁.heap.push oI) → items.length ≤ 2 ^ 20 → (∀ i v d, P i v → items[i]? = some d → Rd O' s₁.heap v d) → Q (.ref s₁.heap.objs.size) { s₁ with heap := s₁.heap.push oI }) :
    wpAny (model prog w) A (pyIter xv) Q E s₁ := by
  cases src <;> first | exact none_some hit | skip
  · obtain ⟨hl, hit⟩ := ite_some hit
    cases hit
    · cases r1 with
      | @lst ax vs nn _ hO e r =>
      have hlt : ax < s₁.heap.objs.size := Heap.lt_size e
      refine wpAny_pyIter_list (isList_of e) ?_
      refine go { cls := .type "list_iterator", data := .fields #[.ref ax, .int 0 0] } [s₁.heap.objs.size, ax] (fun i v => vs.toArray[i]? = some v) (fun i h => h.IsListIter s₁.heap.objs.size ax i ∧ h.IsList ax vs.toArray) rfl ?_ ?_ ?_ ⟨⟨_, Heap.get?_push_size _ rfl, rfl, rfl⟩, (isList_of e).push _⟩ hl ?_
      · intro b hb
        rcases List.mem_cons.mp hb with rfl | hb
        · exact .inl rfl
        · rw [List.mem_singleton.mp hb]; exact .inr ⟨hO, _, _, e⟩
      · have := Walks.list (prog := prog) (w := w) (A := A) hA s₁.heap.objs.size ax (Nat.ne_of_lt hlt) vs.toArray
        have e0 : vs.toArray.size = items.length := by rw [List.size_toArray, r.length]
        rw [e0] at this
        exact this
      · intro i h st
        obtain ⟨o, ho, hc, hd⟩ := st.1
        exact ⟨o, _, ho, hd, by rw [hc]; decide⟩
      · intro i v d h1 h2
        obtain ⟨v', e1, r2⟩ := r.get h2
        have : vs[i]? = some v := by simpa using h1
        rw [this] at e1; cases e1; exact r2
  · rename_i lo hi
    obtain ⟨hc, hit⟩ := ite_some hit
    cases hit
    · skip
      obtain ⟨pr, t, u, z, rfl, hr⟩ := (RdT.of r1).rng'
      refine wpAny_pyIter_range hr (small_rng hc.1 hc.2.1) ?_
      refine go { cls := .type "range_iterator", data := .fields #[rawInt lo, rawInt (Builtin.Range.rangeSize lo hi 1), rawInt 1] } [s₁.heap.objs.size] (fun i v => ∃ t, v = .int (lo + (i : Int)) t) (fun i h => IsRangeIter h s₁.heap.objs.size (lo + (i : Nat) * 1) (((rngL lo hi).length : Int) - (i : Nat)) 1) rfl ?_ (LCg.range_walks hA lo _) ?_ ?_ ?_ ?_
      · intro b hb
        exact .inl (List.mem_singleton.mp hb)
      · intro i h st
        exact ⟨_, _, st, rfl, by simp⟩
      · show IsRangeIter _ _ _ _ _
        rw [rngL_length, rangeSize_one]
        have e1 : (if lo < hi then hi - lo else 0) = (((hi - lo).toNat : Nat) : Int) - ((0 : Nat) : Int) := by split <;> omega
        have e2 : lo + ((0 : Nat) : Int) * 1 = lo := by omega
        rw [e1, e2]
        exact Heap.get?_push_size _ rfl
      · rw [rngL_length]; have := hc.2.2; omega
      · intro i v d h1 h2
        obtain ⟨t, rfl⟩ := h1
        rw [rng_get h2]; exact .int _ _

/-- the outer loop of a comprehension of two clauses -/
theorem comp_outer (H : SN prog w mg mb K k Γ n) {h₁ : Heap} {s₄ : Shared} {scope : Scope} {x y : Str} {px py pos : Pos} {iter iter' elt : PySem.Expr} {I C dd : Addr} {fp : List Addr} {P : Nat → Value → Prop} {St : Nat → Heap → Prop} {items res : List D} {m₀ : Str → Option Value} {R : Result → Shared → Prop}
    (hs : ScOk scope cn) (hx : scope.names.lookup x = some .local) (hox : own.contains x = false) (hy : scope.names.lookup y = some .local) (hoy : own.contains y = false) (hxy : x ≠ y) (hse : setE iter' = false) (hlen : items.length ≤ 8)
    (W : Walks prog w A I fp [I] items.length P St) (hSt : ∀ i h, St i h → ∃ o fs, h.get? I = some o ∧ o.data = .fields fs ∧ o.cls ≠ .type "range")
    (a : AOk k A) (B : Bs mg mb K h₁) (al : Alive O h₁) (X : EnvOK sc cn own O σ env h₁) (hI : h₁.get? I = none) (hC : h₁.get? C = none) (hD : h₁.get? dd = none) (hCD : C ≠ dd) (hCI : C ≠ I) (hDI : dd ≠ I) (hCf : C ∉ fp) (hDf : dd ∉ fp)
    (hP : ∀ i v d, P i v → items[i]? = some d → Rd (fun a => O a ∨ a = dd) h₁ v d)
    (hres : compD2 (fun d => (ev Γ n scope.names (freeN scope) own ((x, d) :: seen scope σ) iter').bind fun src' => (itemsD src').bind fun l' => compD (fun _ => some true) (fun d' => ev Γ n scope.names (freeN scope) own ((y, d') :: (x, d) :: seen scope σ) elt) l') items = some res)
    (hk : Kp h₁ s₄.heap) (hst : St 0 s₄.heap) (hn : s₄.heap.Ns C m₀) (hd : s₄.heap.get? dd = some (seqO "list" [] 0))
    (hR : ∀ h' tk m' ys c, Kp h₁ h' → h'.Ns C m' → h'.get? dd = some (seqO "list" ys c) → RdAll (fun a => O a ∨ a = dd) h' ys res → R (.ok .next) { s₄ with heap := h', toks := tk }) :
    codeAny (model prog w) A (.compLoop (.ListComp elt [⟨.Name x px, iter, [], 0⟩, ⟨.Name y py, iter', [], 0⟩] scope pos) 0 (.ref I) (.ref dd) (compEnvC scope (clOf env scope.names []) C env)) R s₄ := by
  refine codeAny_loop rfl
    (fun j s' => ∃ h' tk m' ys c i es rest, s' = { s₄ with heap := h', toks := tk } ∧ i ≤ items.length ∧ j = items.length + 1 - i ∧ ys.length ≤ i * 2 ^ 20 ∧ St i h' ∧ Kp h₁ h' ∧ h'.Ns C m' ∧ h'.get? dd = some (seqO "list" ys c) ∧ RdAll (fun a => O a ∨ a = dd) h' ys es ∧
      compD2 (fun d => (ev Γ n scope.names (freeN scope) own ((x, d) :: seen scope σ) iter').bind fun src' => (itemsD src').bind fun l' => compD (fun _ => some true) (fun d' => ev Γ n scope.names (freeN scope) own ((y, d') :: (x, d) :: seen scope σ) elt) l') (items.drop i) = some rest ∧ es ++ rest = res) ?_ (items.length + 1)
    ⟨s₄.heap, s₄.toks, m₀, [], 0, 0, [], res, rfl, Nat.zero_le _, rfl, Nat.le_refl _, hst, hk, hn, hd, .nil, hres, rfl⟩
  intro j s' hInv
  refine elimL hInv fun h' tk m' ys c i es rest q => ?_
  have e0 := q.1
  have hi := q.2.1
  have ej := q.2.2.1
  have hyl := q.2.2.2.1
  have hst' := q.2.2.2.2.1
  have hk' := q.2.2.2.2.2.1
  have hn' := q.2.2.2.2.2.2.1
  have hd' := q.2.2.2.2.2.2.2.1
  have hr' := q.2.2.2.2.2.2.2.2.1
  have hrest := q.2.2.2.2.2.2.2.2.2.1
  have he := q.2.2.2.2.2.2.2.2.2.2
  clear q hInv
  subst e0 ej
  show wpAny _ _ ((compTurn (.ListComp elt [⟨.Name x px, iter, [], 0⟩, ⟨.Name y py, iter', [], 0⟩] scope pos) 0 (.ref I) (.ref dd) (compEnvC scope (clOf env scope.names []) C env)).onRaise (fun x => do noteFrame x (compEnvC scope (clOf env scope.names []) C env); theTreesLotGoes x)) _ _ _
  refine wpAny_noted ?_
  rw [turn2_outer]
  refine wpAny_bind (wpAny_standAt (wpAny_bind ?_))
  show wpAny (model prog w) A (pyNext (.ref I)) _ _ _
  have chgN : ∀ h2 : Heap, (∀ b o, b ∉ [I] → h'.get? b = some o → h2.get? b = some o) → Chg (fun a => O a ∨ a = dd) h' h2 := fun h2 => iterChg (hSt _ _ hst')
  have kpN : ∀ h2 : Heap, (∀ b o, b ∉ [I] → h'.get? b = some o → h2.get? b = some o) → Kp h₁ h2 := fun h2 => iterKp hI hk'
  by_cases hlt : i < items.length
  · refine W.item i _ _ _ hlt hst' fun v h2 tk2 hPv hst2 hk2 => ?_
    refine wpAny_bind (wpAny_pure ?_)
    refine wpAny_bind ?_
    have hnC2 : h2.Ns C m' := hn'.at' fun o e => hk2 _ o (by simpa using hCI) e
    refine wpAny_assign_Name (wpAny_storeName_local (lookup_relabel_local hx) hnC2 (fun h3 hn3 hs3 => ?_) (by simp [compEnvC, relabel, hs.kind]))
    have hs3' : Heap.SameBut C h2 h3 := hs3
    have kp3 : Kp h₁ h3 := fun b o e => hs3'.extBut b o (by rintro rfl; rw [hC] at e; cases e) (kpN h2 hk2 b o e)
    have chg3 : Chg (fun a => O a ∨ a = dd) h' h3 := (chgN h2 hk2).trans (Chg.ns hnC2 hs3')
    have hst3 : St (i + 1) h3 := W.frame _ _ _ hst2 fun b hb o e => hs3'.extBut b o (by rintro rfl; exact hCf hb) e
    have hd3 : h3.get? dd = some (seqO "list" ys c) := hs3'.extBut dd _ (Ne.symm hCD) (hk2 dd _ (by simpa using hDI) hd')
    have hr3 := hr'.chg chg3
    obtain ⟨d, hdi, hdrop⟩ := drop_get hlt
    have rv : Rd (fun a => O a ∨ a = dd) h3 v d := (hP i v d hPv hdi).kp kp3
    have al3 : Alive (fun a => O a ∨ a = dd) h3 := al.plus kp3 hd3
    have X3 : EnvOK scope.names (freeN scope) own (fun a => O a ∨ a = dd) ((x, d) :: seen scope σ) (compEnvC scope (clOf env scope.names []) C env) h3 := X_one hs X hD kp3 hx hox hn3 (if_pos rfl) rv
    rw [hdrop] at hrest
    obtain ⟨in1, hin, hrest⟩ := bind_some' hrest
    obtain ⟨rest', hr1, hr2⟩ := bind_some' hrest
    cases hr2
    obtain ⟨src', hsrc, hin⟩ := bind_some' hin
    obtain ⟨l', hit, hin⟩ := bind_some' hin
    refine wpAny_bind ?_
    refine H.ev hsrc (s := { s₄ with heap := h3, toks := tk2 + 1 }) a (B.kp kp3) al3 X3 _ _ fun xv s6 k6 r6 => ?_
    have hset : ∀ v, foldedSetIterable iter' (compEnvC scope (clOf env scope.names []) C env) v = pure v := folded_of hse
    refine wpAny_bind (wpAny_standAt (wpAny_bind (wpAny_of_eq (hset xv) (wpAny_bind (wpAny_holding ?_)))))
    have kp6 := k6.kp
    refine iter_any a.hd hit r6 fun oI' fp' P' St' hfr hfp' W' hSt' hst0 hl' hP' => ?_
    refine wpAny_bind (wpAny_runOwn ?_)
    obtain ⟨h6, t6, rfl, kk6⟩ := k6
    simp only at hfp' W' hSt' hst0 hP' kp6 ⊢
    have hd6 : h6.get? dd = some (seqO "list" ys c) := kk6 _ _ hd3
    have hn6 : h6.Ns C _ := hn3.keeps kk6
    have hDlt : dd < h6.objs.size := Heap.lt_size hd6
    have hClt : C < h6.objs.size := hn6.lt
    have hCo := hn6
    obtain ⟨oC, esC, epC, hoC, hdC, _⟩ := hCo
    have hCf' : C ∉ fp' := by
      intro hm
      rcases hfp' _ hm with q | ⟨_, vs, nn, q⟩
      · exact Nat.lt_irrefl _ (by rw [q] at hClt; exact hClt)
      · rw [hoC] at q; cases q; cases hdC
    have hDf' : dd ∉ fp' := by
      intro hm
      rcases hfp' _ hm with q | ⟨q, _⟩
      · exact Nat.lt_irrefl _ (by rw [q] at hDlt; exact hDlt)
      · exact q (.inr rfl)
    have inner : codeAny (model prog w) A (.compLoop (.ListComp elt [⟨.Name x px, iter, [], 0⟩, ⟨.Name y py, iter', [], 0⟩] scope pos) 1 (.ref h6.objs.size) (.ref dd) (compEnvC scope (clOf env scope.names []) C env))
        (fun r s' => match r with
          | .ok f => wpAny (model prog w) A (again (.compLoop (.ListComp elt [⟨.Name x px, iter, [], 0⟩, ⟨.Name y py, iter', [], 0⟩] scope pos) 0 (.ref I) (.ref dd) (compEnvC scope (clOf env scope.names []) C env)))
            (fun fin s' => match fin with
              | .done f => R (.ok f) s'
              | .again c' => c' = .compLoop (.ListComp elt [⟨.Name x px, iter, [], 0⟩, ⟨.Name y py, iter', [], 0⟩] scope pos) 0 (.ref I) (.ref dd) (compEnvC scope (clOf env scope.names []) C env) ∧ ∃ m, m < items.length + 1 - i ∧ ∃ h' tk m' ys c i es rest, s' = { s₄ with heap := h', toks := tk } ∧ i ≤ items.length ∧ m = items.length + 1 - i ∧ ys.length ≤ i * 2 ^ 20 ∧ St i h' ∧ Kp h₁ h' ∧ h'.Ns C m' ∧ h'.get? dd = some (seqO "list" ys c) ∧ RdAll (fun a => O a ∨ a = dd) h' ys es ∧
                compD2 (fun d => (ev Γ n scope.names (freeN scope) own ((x, d) :: seen scope σ) iter').bind fun src' => (itemsD src').bind fun l' => compD (fun _ => some true) (fun d' => ev Γ n scope.names (freeN scope) own ((y, d') :: (x, d) :: seen scope σ) elt) l') (items.drop i) = some rest ∧ es ++ rest = res)
            (notedBy (model prog w) A (compEnvC scope (clOf env scope.names []) C env) fun e s' => R (.error e) s') s'
          | .error e => cameBackBy (model prog w) A (compEnvC scope (clOf env scope.names []) C env) (notedBy (model prog w) A (compEnvC scope (clOf env scope.names []) C env) fun e s' => R (.error e) s') e s')
        { s₄ with heap := h6.push oI', toks := t6 } := by
      refine comp_inner H (h₁ := h₁) (g := h6) (es₀ := es) (ys₀ := ys) (vx := v) (dx := d) hs hx hox hy hoy hxy hl' ?_ W' hSt' a B al X hC hD (Kp.trans kp3 kk6) (none_of_le (Nat.le_refl _)) hCD (Nat.ne_of_lt hClt) (Nat.ne_of_lt hDlt) hCf' hDf' (rv.kp kk6) hP' ⟨_, hn6⟩ ⟨_, _, hd6⟩ hin ?_ hst0 (hn6.push _) (by simp) (Heap.get?_push_of_some _ hd6) ((hr3.kp kk6).kp (Kp.push _ _)) ?_
      · have h1 : i * 2 ^ 20 ≤ 8 * 2 ^ 20 := Nat.mul_le_mul_right _ (by omega)
        omega
      · intro b o _ _ e; exact Heap.get?_push_of_some _ e
      · intro h7 tk7 m7 ys7 c7 kp7 hn7 hm7 hd7 hl7 hr7
        refine wpAny_pure ⟨rfl, items.length + 1 - (i + 1), by omega, h7, tk7, m7, ys7, c7, i + 1, es ++ in1, rest', rfl, hlt, rfl, ?_, ?_, ?_, hn7, hd7, hr7, hr1, ?_⟩
        · have : (i + 1) * 2 ^ 20 = i * 2 ^ 20 + 2 ^ 20 := by omega
          omega
        · exact W.frame _ _ _ hst3 fun b hb o e => kp7 b o (by rintro rfl; exact hCf hb) (by rintro rfl; exact hDf hb) (kk6 b o e)
        · intro b o e
          exact kp7 b o (by rintro rfl; rw [hC] at e; cases e) (by rintro rfl; rw [hD] at e; cases e) (kk6 b o (kp3 b o e))
        · rw [List.append_assoc]; exact he
    exact start2 inner (W'.self 0 _ _ _ hst0 inner)
  · have hin : i = items.length := Nat.le_antisymm hi (Nat.not_lt.mp hlt)
    subst hin
    rw [List.drop_length] at hrest
    cases hrest
    rw [List.append_nil] at he
    subst he
    refine W.done _ _ _ hst' fun h2 tk2 hk2 => ?_
    exact wpAny_pure (hR h2 tk2 m' ys c (kpN h2 hk2) (hn'.at' fun o e => hk2 _ o (by simpa using hCI) e) (hk2 dd _ (by simpa using hDI) hd') (hr'.chg (chgN h2 hk2)))
end
end Mine
end

section
open PySem PySem.W PyProof.Rows
set_option Elab.async false
namespace Mine
set_option maxRecDepth 100000
set_option linter.unusedVariables false
section
variable {prog : Program} {w : World} {mg mb : Str → Option Value} {K : List (Addr × Obj)} {k : Nat} {Γ : List (Str × GV)} {n : Nat} {A : Around} {O : OSet} {env : Env} {sc : List (Str × NameKind)} {cn own : List Str} {σ : Sg}

theorem comp2_sound (H : SN prog w mg mb K k Γ n) {s : Shared} {scope : Scope} {x y : Str} {px py pos p : Pos} {iter iter' elt : PySem.Expr} {l items : List D} {src : D}
    (hs : ScOk scope cn) (hx : scope.names.lookup x = some .local) (hox : own.contains x = false) (hy : scope.names.lookup y = some .local) (hoy : own.contains y = false) (hxy : x ≠ y) (hse : setE iter = false) (hse' : setE iter' = false) (hlen : items.length ≤ 8)
    (hsrc : ev Γ n sc cn own σ iter = some src) (hit : itemsD src = some items)
    (hres : compD2 (fun d => (ev Γ n scope.names (freeN scope) own ((x, d) :: seen scope σ) iter').bind fun src' => (itemsD src').bind fun l' => compD (fun _ => some true) (fun d' => ev Γ n scope.names (freeN scope) own ((y, d') :: (x, d) :: seen scope σ) elt) l') items = some l)
    (a : AOk k A) (B : Bs mg mb K s.heap) (al : Alive O s.heap) (X : EnvOK sc cn own O σ env s.heap)
    (use : Option (Value → Sem Unit)) (Q : Value → Shared → Prop) (E : Value → Shared → Prop)
    (hq : ∀ dd C m s' ys c, Ks s s' → s.heap.get? C = none → C ≠ dd → s.heap.get? dd = none → s'.heap.Ns C m → s'.heap.get? dd = some (seqO "list" ys c) → RdAll (fun a => O a ∨ a = dd) s'.heap ys l → compPost (model prog w) A E use Q (.ref dd) C (.ok .next) s') :
    wpAny (model prog w) A (comprehension (.ListComp elt [⟨.Name x px, iter, [], 0⟩, ⟨.Name y py, iter', [], 0⟩] scope pos) scope env p (newList []) (firstAsync [⟨.Name x px, iter, [], 0⟩, ⟨.Name y py, iter', [], 0⟩]) (firstIter [⟨.Name x px, iter, [], 0⟩, ⟨.Name y py, iter', [], 0⟩] env) use) Q E s := by
  show wpAny _ A (comprehension _ scope env p (newList []) false (eval iter env) use) Q E s
  have hset : ∀ v, foldedSetIterable iter env v = pure v := folded_of hse
  refine wpAny_comprehension_free (use := use) rfl hset (cells_of hs X) hs.kind hs.loc (H.ev hsrc a B al X _ E fun xv s₁ k1 r1 => ?_)
  have B1 := B.kp k1.kp
  have al1 := al.kp k1.kp
  have X1 := X.kp k1.kp
  refine iter_any a.hd hit r1 fun oI fp P St hfr hfp W hSt hst hl hP => ?_
  have hsz : (s₁.heap.push oI).objs.size = s₁.heap.objs.size + 1 := Heap.size_push ..
  have hfp' : ∀ b ∈ fp, b < (s₁.heap.push oI).objs.size := by
    intro b hb
    rcases hfp b hb with q | ⟨_, _, _, q⟩
    · rw [q, hsz]; exact Nat.lt_succ_self _
    · rw [hsz]; exact Nat.lt_succ_of_lt (Heap.lt_size q)
  refine comp_frame hs fun C dd s₄ hdd hC hs4 kp4 hn4 hd4 => ?_
  have hdd' : dd = s₁.heap.objs.size + 1 := hdd.trans hsz
  have hC' : C = s₁.heap.objs.size + 2 := by rw [hC]; show (s₁.heap.push oI).objs.size + 1 = _; rw [hsz]
  have kpA : Kp s₁.heap s₄.heap := (Kp.push _ _).trans kp4
  have hst4 : St 0 s₄.heap := W.frame _ _ _ hst fun b _ o e => kp4 b o e
  have loop : codeAny (model prog w) A (.compLoop (.ListComp elt [⟨.Name x px, iter, [], 0⟩, ⟨.Name y py, iter', [], 0⟩] scope pos) 0 (.ref s₁.heap.objs.size) (.ref dd) (compEnvC scope (clOf env scope.names []) C env)) (compPost (model prog w) A E use Q (.ref dd) C) s₄ := by
    refine comp_outer H hs hx hox hy hoy hxy hse' hlen W hSt a B1 al1 X1 (none_of_le (Nat.le_refl _)) (none_of_le (by omega)) (none_of_le (by omega)) (Nat.ne_of_gt (by omega)) (Nat.ne_of_gt (by omega)) (Nat.ne_of_gt (by omega)) (fun hm => absurd (hfp' _ hm) (Nat.not_lt.mpr (by omega))) (fun hm => absurd (hfp' _ hm) (Nat.not_lt.mpr (by omega))) ?_ hres kpA hst4 hn4 hd4 ?_
    · intro i v d h1 h2
      exact (hP i v d h1 h2).mono fun b q => q.elim .inl fun q => .inr (none_of_le (by rw [q]; omega))
    · intro h' tk m' ys c kp hn hd r
      exact fin_comp (s₂ := { s₁ with heap := s₁.heap.push oI }) k1 ⟨_, _, rfl⟩ (Kp.push _ _) al1 hdd hC hs4 hq kp hn hd r
  exact codeAny_compStart_list loop (W.self 0 _ _ _ hst4 loop)

theorem enumL_get : ∀ {l : List D} {j i : Nat} {p : D}, (enumL j l)[i]? = some p → ∃ d, l[i]? = some d ∧ p = .tup [.int ((j + i : Nat) : Int), d]
  | [], _, _, _, h => by simp [enumL] at h
  | d :: r, j, i, p, h => by
    cases i with
    | zero => simp [enumL] at h; exact ⟨d, rfl, by simp [← h]⟩
    | succ i =>
      simp only [enumL, List.getElem?_cons_succ] at h
      obtain ⟨d', h1, h2⟩ := enumL_get h
      exact ⟨d', by simpa using h1, by rw [h2]; congr 4; omega⟩
theorem enumL_length : ∀ (l : List D) (j : Nat), (enumL j l).length = l.length
  | [], _ => rfl
  | d :: r, j => by simp [enumL, enumL_length r]

/-- the loop of a comprehension over an enumerated list -/
theorem comp_enum (H : SN prog w mg mb K k Γ n) {h₁ : Heap} {s₄ : Shared} {scope : Scope} {x y : Str} {px py pos tp : Pos} {tt : Nat} {iter elt : PySem.Expr} {I it C dd ax : Addr} {items res : List D} {vs : List Value} {m₀ : Str → Option Value} {R : Result → Shared → Prop}
    (hs : ScOk scope cn) (hx : scope.names.lookup x = some .local) (hox : own.contains x = false) (hy : scope.names.lookup y = some .local) (hoy : own.contains y = false) (hxy : x ≠ y) (hlen : items.length ≤ 2 ^ 20)
    (a : AOk k A) (B : Bs mg mb K h₁) (al : Alive O h₁) (X : EnvOK sc cn own O σ env h₁) (hI : h₁.get? I = none) (hIt : h₁.get? it = none) (hC : h₁.get? C = none) (hD : h₁.get? dd = none) (hCD : C ≠ dd) (hCI : C ≠ I) (hDI : dd ≠ I) (hCt : C ≠ it) (hDt : dd ≠ it) (hIi : I ≠ it) {nn : Nat} (hax : h₁.get? ax = some (seqO "list" vs nn)) (hal : ax ≠ C ∧ ax ≠ dd ∧ ax ≠ I ∧ ax ≠ it)
    (hrd : RdAll (fun a => O a ∨ a = dd) h₁ vs items)
    (hres : compD (fun _ => some true) (fun d => (pairO d).bind fun z => ev Γ n scope.names (freeN scope) own ((y, z.2) :: (x, z.1) :: seen scope σ) elt) (enumL 0 items) = some res)
    (hk : Kp h₁ s₄.heap) (hst : (∃ old, IsEnum s₄.heap I it 0 old) ∧ s₄.heap.IsListIter it ax 0 ∧ s₄.heap.IsList ax vs.toArray) (hn : s₄.heap.Ns C m₀) (hd : s₄.heap.get? dd = some (seqO "list" [] 0))
    (hR : ∀ h' tk m' ys c, Kp h₁ h' → h'.Ns C m' → h'.get? dd = some (seqO "list" ys c) → RdAll (fun a => O a ∨ a = dd) h' ys res → R (.ok .next) { s₄ with heap := h', toks := tk }) :
    codeAny (model prog w) A (.compLoop (.ListComp elt [⟨.Tuple [.Name x px, .Name y py] tt tp, iter, [], 0⟩] scope pos) 0 (.ref I) (.ref dd) (compEnvC scope (clOf env scope.names []) C env)) R s₄ := by
  have W := WalksT.enumerate (prog := prog) (w := w) (A := A) a.hd I it ax hIi hal.2.2.1 hal.2.2.2 vs.toArray
  have hvl : vs.toArray.size = items.length := by rw [List.size_toArray, hrd.length]
  refine LCp.codeAny_compLoop_pair
    (fun j s' => ∃ h' tk m' ys c i es rest, s' = { s₄ with heap := h', toks := tk } ∧ i ≤ items.length ∧ j = items.length + 1 - i ∧ ys.length ≤ i ∧ ((∃ old, IsEnum h' I it i old) ∧ h'.IsListIter it ax i ∧ h'.IsList ax vs.toArray) ∧ Kp h₁ h' ∧ h'.Ns C m' ∧ h'.get? dd = some (seqO "list" ys c) ∧ RdAll (fun a => O a ∨ a = dd) h' ys es ∧
      compD (fun _ => some true) (fun d => (pairO d).bind fun z => ev Γ n scope.names (freeN scope) own ((y, z.2) :: (x, z.1) :: seen scope σ) elt) ((enumL 0 items).drop i) = some rest ∧ es ++ rest = res) ?_ (items.length + 1)
    ⟨s₄.heap, s₄.toks, m₀, [], 0, 0, [], res, rfl, Nat.zero_le _, rfl, Nat.le_refl _, hst, hk, hn, hd, .nil, hres, rfl⟩
  intro j s' hInv
  refine elimL hInv fun h' tk m' ys c i es rest q => ?_
  have e0 := q.1
  have hi := q.2.1
  have ej := q.2.2.1
  have hyl := q.2.2.2.1
  have hst' := q.2.2.2.2.1
  have hk' := q.2.2.2.2.2.1
  have hn' := q.2.2.2.2.2.2.1
  have hd' := q.2.2.2.2.2.2.2.1
  have hr' := q.2.2.2.2.2.2.2.2.1
  have hrest := q.2.2.2.2.2.2.2.2.2.1
  have he := q.2.2.2.2.2.2.2.2.2.2
  clear q hInv
  subst e0 ej
  have kpN : ∀ g h2 : Heap, Kp h₁ g → (∀ b o, b ∉ [I, it] → g.get? b = some o → h2.get? b = some o) → Kp h₁ h2 := by
    intro g h2 hg hk2 b o e
    refine hk2 b o ?_ (hg b o e)
    intro hb
    rcases List.mem_cons.mp hb with rfl | hb
    · rw [hI] at e; cases e
    · rw [List.mem_singleton.mp hb, hIt] at e; cases e
  have chgN : ∀ g h2 : Heap, (∃ o fs, g.get? I = some o ∧ o.data = .fields fs ∧ o.cls ≠ .type "range") → (∃ o fs, g.get? it = some o ∧ o.data = .fields fs ∧ o.cls ≠ .type "range") → (∀ b o, b ∉ [I, it] → g.get? b = some o → h2.get? b = some o) → Chg (fun a => O a ∨ a = dd) g h2 := by
    rintro g h2 ⟨o1, f1, e1, d1, c1⟩ ⟨o2, f2, e2, d2, c2⟩ hk2 b o e kk
    refine hk2 b o ?_ e
    intro hb
    rcases List.mem_cons.mp hb with hb | hb
    · subst hb
      rw [e1] at e; cases e
      rcases kk with ⟨_, _, q, _⟩ | ⟨_, _, q⟩
      · rw [d1] at q; cases q
      · exact c1 q
    · have hb := List.mem_singleton.mp hb
      subst hb
      rw [e2] at e; cases e
      rcases kk with ⟨_, _, q, _⟩ | ⟨_, _, q⟩
      · rw [d2] at q; cases q
      · exact c2 q
  have listIt : ∀ {g : Heap} {q : Nat}, g.IsListIter it ax q → ∃ o fs, g.get? it = some o ∧ o.data = .fields fs ∧ o.cls ≠ .type "range" := by
    rintro g q ⟨o, e, c, d⟩; exact ⟨o, _, e, d, by rw [c]; decide⟩
  have nI : C ∉ [I, it] := by simp [hCI, hCt]
  have nD : dd ∉ [I, it] := by simp [hDI, hDt]
  by_cases hlt : i < items.length
  · refine W.item i _ _ _ (by rw [hvl]; exact hlt) hst' fun T vals h2 tk2 hPt hTn hTup hMid hk2 => ?_
    obtain ⟨ti, z, hz, rfl⟩ := hPt
    have hz' : vs[i]? = some z := by simpa using hz
    refine W.go _ _ _ i T _ _ _ hMid fun h3 hst3 hk3 => ?_
    obtain ⟨⟨xo, hEO⟩, hLI2, _, hTI, hTit⟩ := hMid
    have chg12 : Chg (fun a => O a ∨ a = dd) h' h2 := chgN h' h2 (by obtain ⟨⟨old, q⟩, _⟩ := hst'; exact ⟨_, _, q, rfl, by simp⟩) (listIt hst'.2.1) hk2
    have chg23 : Chg (fun a => O a ∨ a = dd) h2 h3 := chgN h2 h3 ⟨_, _, hEO, rfl, by simp⟩ (listIt hLI2) hk3
    have kp3 : Kp h₁ h3 := kpN h2 h3 (kpN h' h2 hk' hk2) hk3
    have hT3 : h3.IsTuple T #[.int i ti, z] := hTup.at fun o e => hk3 T o (by simp [hTI, hTit]) e
    have hn3 : h3.Ns C m' := (hn'.at' fun o e => hk2 _ o nI e).at' fun o e => hk3 _ o nI e
    have hd3 : h3.get? dd = some (seqO "list" ys c) := hk3 dd _ nD (hk2 dd _ nD hd')
    have r3 := (hr'.chg chg12).chg chg23
    refine wpAny_assign_Tuple a.hd hT3 rfl rfl fun h4 hx4 => ?_
    have kq4 : Kp h3 h4 := fun b o e => hx4 b o (Nat.ne_of_lt (Heap.lt_size e)) e
    have hn4 := hn3.keeps kq4
    refine wpAny_assignInOrder_more (wpAny_assign_Name (wpAny_storeName_local (lookup_relabel_local hx) hn4 (fun h5 hn5 hs5 => ?_) (by simp [compEnvC, relabel, hs.kind])))
    have hs5' : Heap.SameBut C h4 h5 := hs5
    refine wpAny_assignInOrder_more (wpAny_assign_Name (wpAny_storeName_local (lookup_relabel_local hy) hn5 (fun h6 hn6 hs6 => ?_) (by simp [compEnvC, relabel, hs.kind])))
    have hs6' : Heap.SameBut C h5 h6 := hs6
    refine wpAny_pure ?_
    have hs46 : Heap.SameBut C h4 h6 := hs5'.trans hs6'
    have kp6 : Kp h₁ h6 := fun b o e => hs46.extBut b o (by rintro rfl; rw [hC] at e; cases e) (kq4 b o (kp3 b o e))
    have chg6 : Chg (fun a => O a ∨ a = dd) h3 h6 := (Kp.chg kq4).trans (Chg.ns hn4 hs46)
    have hd6 : h6.get? dd = some (seqO "list" ys c) := hs46.extBut dd _ (Ne.symm hCD) (kq4 _ _ hd3)
    have r6 := r3.chg chg6
    have hst6 : (∃ old, IsEnum h6 I it ((i + 1 : Nat) : Int) old) ∧ h6.IsListIter it ax (i + 1) ∧ h6.IsList ax vs.toArray := W.frame _ _ _ hst3 fun b hb o e => hs46.extBut b o (by
      rintro rfl
      simp only [List.mem_cons, List.not_mem_nil, or_false] at hb
      rcases hb with q | q | q
      · exact hCI q
      · exact hCt q
      · exact hal.1 q.symm) (kq4 b o e)
    obtain ⟨d, hdi, rz⟩ := hrd.get' hz'
    have rz6 : Rd (fun a => O a ∨ a = dd) h6 z d := rz.kp kp6
    have al6 : Alive (fun a => O a ∨ a = dd) h6 := al.plus kp6 hd6
    have X6 : EnvOK scope.names (freeN scope) own (fun a => O a ∨ a = dd) ((y, d) :: (x, .int ((i : Nat) : Int)) :: seen scope σ) (compEnvC scope (clOf env scope.names []) C env) h6 := X_two (v := z) (vx := .int i ti) hs X hD kp6 hx hox hy hoy hn6 (if_pos rfl) ((if_neg hxy).trans (if_pos rfl)) rz6 (.int _ _)
    obtain ⟨pd, hpd, hdrop⟩ := drop_get (items := enumL 0 items) (i := i) (by rw [enumL_length]; exact hlt)
    obtain ⟨d2, hd2, rfl⟩ := enumL_get hpd
    rw [hdi] at hd2; cases hd2
    rw [hdrop, Nat.zero_add] at hrest
    obtain ⟨yd, rest', hyd, hr1, hr2⟩ := compD_true hrest
    subst hr2
    refine H.ev hyd (s := { s₄ with heap := h6, toks := tk2 + 1 + 1 }) a (B.kp kp6) al6 X6 _ _ fun yv s8 k8 r8 => ?_
    obtain ⟨h8, t8, rfl, kp8⟩ := k8
    have hd8 : h8.get? dd = some (seqO "list" ys c) := kp8 _ _ hd6
    refine wpAny_list_append_plain (s := { s₄ with heap := h8, toks := t8 }) (items := ys.toArray) ⟨c, hd8⟩ (fun h7 hl7 hs7 => ?_) ?_
    · obtain ⟨c7, hl7⟩ := hl7
      have hs7' : Heap.SameBut dd h8 h7 := hs7
      have kp7 : Kp h₁ h7 := fun b o e => hs7'.extBut b o (by rintro rfl; rw [hD] at e; cases e) (kp8 b o (kp6 b o e))
      have chg7 : Chg (fun a => O a ∨ a = dd) h8 h7 := Chg.hid hd8 (.inr rfl) hs7'
      refine ⟨items.length + 1 - (i + 1), by omega, h7, t8, _, ys ++ [yv], c7, i + 1, es ++ [yd], rest', rfl, hlt, rfl, by rw [List.length_append, List.length_singleton]; omega, ?_, kp7, (hn6.keeps kp8).sameBut hs7' hCD, ?_, ?_, hr1, ?_⟩
      · exact W.frame _ _ _ hst6 fun b hb o e => hs7'.extBut b o (by
          rintro rfl
          simp only [List.mem_cons, List.not_mem_nil, or_false] at hb
          rcases hb with q | q | q
          · exact hDI q
          · exact hDt q
          · exact hal.2.1 q.symm) (kp8 b o e)
      · rw [hl7]; simp [seqO]
      · exact ((r6.kp kp8).append (.one r8)).chg chg7
      · rw [List.append_assoc]; exact he
    · show ys.toArray.size ≤ 2 ^ 24
      rw [List.size_toArray]; omega
  · have hin : i = items.length := Nat.le_antisymm hi (Nat.not_lt.mp hlt)
    subst hin
    rw [← enumL_length items 0, List.drop_length] at hrest
    cases hrest
    rw [List.append_nil] at he
    subst he
    have hst'' : (∃ old, IsEnum h' I it ((vs.toArray.size : Nat) : Int) old) ∧ h'.IsListIter it ax vs.toArray.size ∧ h'.IsList ax vs.toArray := by rw [hvl]; exact hst'
    refine W.done _ _ _ hst'' fun h2 tk2 hk2 => ?_
    have chg12 : Chg (fun a => O a ∨ a = dd) h' h2 := chgN h' h2 (by obtain ⟨⟨old, q⟩, _⟩ := hst'; exact ⟨_, _, q, rfl, by simp⟩) (listIt hst'.2.1) hk2
    exact hR h2 tk2 m' ys c (kpN h' h2 hk' hk2) (hn'.at' fun o e => hk2 _ o nI e) (hk2 dd _ nD hd') (hr'.chg chg12)
end
end Mine
end

section
open PySem PySem.W PyProof.Rows
set_option Elab.async false
namespace Mine
set_option maxRecDepth 100000
set_option linter.unusedVariables false
section
variable {prog : Program} {w : World} {mg mb : Str → Option Value} {K : List (Addr × Obj)} {k : Nat} {Γ : List (Str × GV)} {n : Nat} {A : Around} {O : OSet} {env : Env} {sc : List (Str × NameKind)} {cn own : List Str} {σ : Sg}

theorem comp3_sound (H : SN prog w mg mb K k Γ n) (G : GOK prog w mg mb K k Γ) {s : Shared} {scope : Scope} {x y g : Str} {px py pos p tp gp cp : Pos} {tt : Nat} {ls elt : PySem.Expr} {l items : List D}
    (hs : ScOk scope cn) (hx : scope.names.lookup x = some .local) (hox : own.contains x = false) (hy : scope.names.lookup y = some .local) (hoy : own.contains y = false) (hxy : x ≠ y) (hsg : sc.lookup g = some .globalImplicit) (hg : Γ.lookup g = some (.ty "enumerate")) (hlen : items.length ≤ 2 ^ 20)
    (hsrc : ev Γ n sc cn own σ ls = some (.lst items))
    (hres : compD (fun _ => some true) (fun d => (pairO d).bind fun z => ev Γ n scope.names (freeN scope) own ((y, z.2) :: (x, z.1) :: seen scope σ) elt) (enumL 0 items) = some l)
    (a : AOk k A) (B : Bs mg mb K s.heap) (al : Alive O s.heap) (X : EnvOK sc cn own O σ env s.heap)
    (use : Option (Value → Sem Unit)) (Q : Value → Shared → Prop) (E : Value → Shared → Prop)
    (hq : ∀ dd C m s' ys c, Ks s s' → s.heap.get? C = none → C ≠ dd → s.heap.get? dd = none → s'.heap.Ns C m → s'.heap.get? dd = some (seqO "list" ys c) → RdAll (fun a => O a ∨ a = dd) s'.heap ys l → compPost (model prog w) A E use Q (.ref dd) C (.ok .next) s') :
    wpAny (model prog w) A (comprehension (.ListComp elt [⟨.Tuple [.Name x px, .Name y py] tt tp, .Call (.Name g gp) [ls] [] cp, [], 0⟩] scope pos) scope env p (newList []) (firstAsync [⟨.Tuple [.Name x px, .Name y py] tt tp, .Call (.Name g gp) [ls] [] cp, [], 0⟩]) (firstIter [⟨.Tuple [.Name x px, .Name y py] tt tp, .Call (.Name g gp) [ls] [] cp, [], 0⟩] env) use) Q E s := by
  show wpAny _ A (comprehension _ scope env p (newList []) false (eval (.Call (.Name g gp) [ls] [] cp) env) use) Q E s
  refine wpAny_comprehension_free (use := use) rfl (fun _ => rfl) (cells_of hs X) hs.kind hs.loc ?_
  obtain ⟨h0, hv⟩ := G.ty g _ hg
  refine wpAny_Call_NameR (name_bi B X hsg h0 hv ?_)
  have hall : allD (ev Γ n sc cn own σ) [ls] = some [.lst items] := by simp [allD, hsrc]
  refine PySem.callWith_type (by rw [star_each (ev_notStar hsrc)]; rfl) ?_
  have spl := fun (Q' : List Value → Shared → Prop) (hq' : ∀ vs s', Ks s s' → RdAll O s'.heap vs [.lst items] → Q' vs s') => all_sound H cp hall a B al X Q' E hq'
  rw [star_each (ev_notStar hsrc)] at spl ⊢
  refine Calls.evalArgs_plain (spl _ fun vs1 s₁ k1 r1 => ?_)
  cases r1 with
  | cons r1 rn =>
  cases rn
  cases r1 with
  | @lst ax vs nn _ hOa e r =>
  show wpAny _ A (call (.type "enumerate") [.ref ax]) _ E s₁
  have B1 := B.kp k1.kp
  have al1 := al.kp k1.kp
  have X1 := X.kp k1.kp
  have hlt : ax < s₁.heap.objs.size := Heap.lt_size e
  refine call_enumerate_list (isList_of e) fun h2 hE hLI hsz2 kp2 => ?_
  refine wpAny_pyIter_enum hE ?_
  refine comp_frame (s₂ := { s₁ with heap := h2 }) hs fun C dd s₄ hdd hC hs4 kp4 hn4 hd4 => ?_
  have hdd' : dd = s₁.heap.objs.size + 2 := hdd.trans hsz2
  have hC' : C = s₁.heap.objs.size + 3 := by rw [hC]; show h2.objs.size + 1 = _; rw [hsz2]
  have kpA : Kp s₁.heap s₄.heap := Kp.trans kp2 kp4
  have st0 : (∃ old, IsEnum s₄.heap (s₁.heap.objs.size + 1) s₁.heap.objs.size ((0 : Nat) : Int) old) ∧ s₄.heap.IsListIter s₁.heap.objs.size ax 0 ∧ s₄.heap.IsList ax vs.toArray := ⟨⟨_, kp4 _ _ hE⟩, hLI.at fun o q => kp4 _ o q, (isList_of e).at fun o q => kpA _ o q⟩
  have loop : codeAny (model prog w) A (.compLoop (.ListComp elt [⟨.Tuple [.Name x px, .Name y py] tt tp, .Call (.Name g gp) [ls] [] cp, [], 0⟩] scope pos) 0 (.ref (s₁.heap.objs.size + 1)) (.ref dd) (compEnvC scope (clOf env scope.names []) C env)) (compPost (model prog w) A E use Q (.ref dd) C) s₄ := by
    refine comp_enum H (I := s₁.heap.objs.size + 1) (it := s₁.heap.objs.size) (ax := ax) (vs := vs) (items := items) hs hx hox hy hoy hxy hlen a B1 al1 X1 (none_of_le (Nat.le_succ _)) (none_of_le (Nat.le_refl _)) (none_of_le (by omega)) (none_of_le (by omega)) (Nat.ne_of_gt (by omega)) (Nat.ne_of_gt (by omega)) (Nat.ne_of_gt (by omega)) (Nat.ne_of_gt (by omega)) (Nat.ne_of_gt (by omega)) (Nat.ne_of_gt (by omega)) e ⟨Nat.ne_of_lt (Nat.lt_of_lt_of_le hlt (by omega)), Nat.ne_of_lt (Nat.lt_of_lt_of_le hlt (by omega)), Nat.ne_of_lt (Nat.lt_of_lt_of_le hlt (by omega)), Nat.ne_of_lt hlt⟩ ?_ hres kpA st0 hn4 hd4 ?_
    · exact r.mono fun b q => q.elim .inl fun q => .inr (none_of_le (by rw [q]; omega))
    · intro h' tk m' ys c kp hn hd r
      exact fin_comp (s₂ := { s₁ with heap := h2 }) k1 ⟨_, _, rfl⟩ kp2 al1 hdd hC hs4 hq kp hn hd r
  exact codeAny_compStart_list loop (wpAny_pyIter_enum (kp4 _ _ hE) loop)

theorem gen_eq {g : Comprehension} {t i : PySem.Expr} {f : List PySem.Expr} {a : Int} (h1 : g.target = t) (h2 : g.iter = i) (h3 : g.ifs = f) (h4 : g.is_async = a) : g = ⟨t, i, f, a⟩ := by
  obtain ⟨gt, gi, gf, ga⟩ := g
  have h1 : gt = t := h1
  have h2 : gi = i := h2
  have h3 : gf = f := h3
  have h4 : ga = a := h4
  rw [h1, h2, h3, h4]
theorem nil_of {l : List PySem.Expr} (e : l.isEmpty = true) : l = [] := by
  cases l with
  | nil => rfl
  | cons _ _ => exact absurd (show false = true from e) (by decide)
theorem cp_step (H : SN prog w mg mb K k Γ n) (G : GOK prog w mg mb K k Γ) : CpS prog w mg mb K k Γ (n + 1) := by
  intro sc cn own σ elt gens scope l h A O env s a B al X pos p use Q E hq
  cases gens with
  | nil => exact none_some h
  | cons g r =>
    cases r with
    | nil =>
      rcases optE_cases h with ⟨x, hg, h⟩ | ⟨hg, h⟩
      · obtain ⟨⟨c1, c2, c3, c4, c5⟩, h⟩ := ite_some h
        obtain ⟨src, h1, h⟩ := bind_some' h
        obtain ⟨items, h2, h⟩ := bind_some' h
        rw [gen1_some hg]
        exact comp1_sound H (scopeOk_iff c1) c2 c3 c5 c4 h1 h2 h a B al X use Q E hq
      · obtain ⟨pp, h1, h⟩ := bind_some' h
        obtain ⟨qq, h2, h⟩ := bind_some' h
        obtain ⟨cc, k1⟩ := ite_some h
        obtain ⟨v, h3, k2⟩ := bind_some' k1
        obtain ⟨items, h4, k3⟩ := bind_some' k2
        obtain ⟨hl, k4⟩ := ite_some k3
        rw [lstO_some h4] at h3
        obtain ⟨px, py, tt, tp, e1⟩ := pairE_some h1
        have e2 := callE_some h2
        have e3 := nil_of cc.2.2.2.2.2.2.2.1
        obtain ⟨gv, h5, h6⟩ := bind_some' cc.2.2.2.2.2.2.2.2.2
        rw [tyO_some h6] at h5
        have eg : g = ⟨.Tuple [.Name pp.1 px, .Name pp.2 py] tt tp, .Call (.Name qq.1 qq.2.1) [qq.2.2.1] [] qq.2.2.2, [], 0⟩ := gen_eq e1 e2 e3 cc.2.2.2.2.2.2.2.2.1
        rw [eg]
        exact comp3_sound H G (scopeOk_iff cc.1) cc.2.1 cc.2.2.2.1 cc.2.2.1 cc.2.2.2.2.1 cc.2.2.2.2.2.1 cc.2.2.2.2.2.2.1 h5 hl h3 k4 a B al X use Q E hq
    | cons g' r =>
      cases r with
      | cons _ _ => exact none_some h
      | nil =>
        obtain ⟨x, h1, h⟩ := bind_some' h
        obtain ⟨y, h2, h⟩ := bind_some' h
        obtain ⟨cc, h⟩ := ite_some h
        obtain ⟨src, h3, h⟩ := bind_some' h
        obtain ⟨items, h4, h⟩ := bind_some' h
        obtain ⟨hl, h⟩ := ite_some h
        rw [gen1_some h1, gen1_some h2, nil_of cc.2.2.2.2.2.2.2.2.1, nil_of cc.2.2.2.2.2.2.2.2.2]
        exact comp2_sound H (scopeOk_iff cc.1) cc.2.1 cc.2.2.2.1 cc.2.2.1 cc.2.2.2.2.1 cc.2.2.2.2.2.1 cc.2.2.2.2.2.2.1 cc.2.2.2.2.2.2.2.1 hl h3 h4 h a B al X use Q E hq

theorem sound (G : GOK prog w mg mb K k Γ) : ∀ n, SN prog w mg mb K k Γ n
  | 0 => ⟨fun h => none_some h, fun h => none_some h, fun h => none_some h⟩
  | n + 1 => ⟨fun h _ _ _ _ a B al X => ev_step (sound G n) G h a B al X, fun h _ _ _ _ a B al X => tr_step (sound G n) G h a B al X, cp_step (sound G n) G⟩
end
end Mine
end

section
open PySem PySem.W PyProof.Rows
set_option Elab.async false
namespace Mine
set_option maxRecDepth 100000
set_option linter.unusedVariables false

noncomputable def Hid (O : OSet) (ad : Str → Option Addr) : OSet := fun a => O a ∨ ∃ x, ad x = some a
noncomputable def Mut (env : Env) (ad : Str → Option Addr) : OSet := fun a => a = env.locals ∨ (∃ x, env.cells.lookup x = some a) ∨ ∃ x, ad x = some a
noncomputable def KpM (M : OSet) (h h' : Heap) : Prop := ∀ b o, ¬ M b → h.get? b = some o → h'.get? b = some o
theorem Kp.kpm {M : OSet} {h h' : Heap} (k : Kp h h') : KpM M h h' := fun b o _ e => k b o e

/-- a frame: its names read σ, its own lists lie at ad, the heap of the call is kept -/
structure FS (h₀ : Heap) (O : OSet) (sc : List (Str × NameKind)) (cn own : List Str) (σ : Sg) (env : Env) (h : Heap) (ad : Str → Option Addr) : Prop where
  kp : Kp h₀ h
  X : EnvOK sc cn own (Hid O ad) σ env h
  ns : ∃ m, h.Ns env.locals m
  lnew : h₀.get? env.locals = none
  cell : ∀ x c, env.cells.lookup x = some c → ∃ v, h.IsCell c v
  cnew : ∀ x c, env.cells.lookup x = some c → h₀.get? c = none
  cinj : ∀ x y c, env.cells.lookup x = some c → env.cells.lookup y = some c → x = y
  ow : ∀ x a, ad x = some a → own.contains x = true ∧ h₀.get? a = none ∧ ∃ vs n ds, σ.lookup x = some (.lst ds) ∧ Loc env h x (.ref a) ∧ h.get? a = some (seqO "list" vs n) ∧ RdAll (Hid O ad) h vs ds
  inj : ∀ x y a, ad x = some a → ad y = some a → x = y
  has : ∀ x d, own.contains x = true → σ.lookup x = some d → ∃ a, ad x = some a

section
variable {h₀ : Heap} {O : OSet} {sc : List (Str × NameKind)} {cn own : List Str} {σ : Sg} {env : Env} {h h' : Heap} {ad : Str → Option Addr}

theorem FS.new (F : FS h₀ O sc cn own σ env h ad) {a : Addr} (m : Mut env ad a) : h₀.get? a = none := by
  rcases m with rfl | ⟨x, e⟩ | ⟨x, e⟩
  · exact F.lnew
  · exact F.cnew x a e
  · exact (F.ow x a e).2.1
theorem FS.alive (F : FS h₀ O sc cn own σ env h ad) (al : Alive O h₀) : Alive (Hid O ad) h := by
  rintro a (q | ⟨x, q⟩)
  · obtain ⟨o, e⟩ := al a q; exact ⟨o, F.kp a o e⟩
  · obtain ⟨_, _, vs, n, ds, _, _, e, _⟩ := F.ow x a q; exact ⟨_, e⟩
theorem FS.mutAlive (F : FS h₀ O sc cn own σ env h ad) {a : Addr} (m : Mut env ad a) : ∃ o, h.get? a = some o := by
  rcases m with rfl | ⟨x, e⟩ | ⟨x, e⟩
  · obtain ⟨m, o, es, ep, e, _⟩ := F.ns; exact ⟨o, e⟩
  · obtain ⟨v, o, e', _⟩ := F.cell x a e; exact ⟨o, e'⟩
  · obtain ⟨_, _, vs, n, ds, _, _, e', _⟩ := F.ow x a e; exact ⟨_, e'⟩

theorem FS.grow (F : FS h₀ O sc cn own σ env h ad) (k : Kp h h') : FS h₀ O sc cn own σ env h' ad :=
  ⟨F.kp.trans k, F.X.kp k, let ⟨m, e⟩ := F.ns; ⟨m, e.keeps k⟩, F.lnew, fun x c e => let ⟨v, q⟩ := F.cell x c e; ⟨v, q.keeps k⟩, F.cnew, F.cinj,
    fun x a e => let ⟨p1, p2, vs, n, ds, p3, p4, p5, p6⟩ := F.ow x a e; ⟨p1, p2, vs, n, ds, p3, p4.kp k, k _ _ p5, p6.kp k⟩, F.inj, F.has⟩

theorem Loc.unique {x : Str} {v v' : Value} (hl : env.locals = env.locals) (a : Loc env h x v) (b : Loc env h x v') : v = v' := by
  rcases a with ⟨a1, m, a2, a3⟩ | ⟨a1, c, a2, a3⟩
  · rcases b with ⟨b1, m', b2, b3⟩ | ⟨b1, c', b2, b3⟩
    · obtain ⟨o, es, ep, e, d, _, f⟩ := a2
      obtain ⟨o', es', ep', e', d', _, f'⟩ := b2
      rw [e] at e'; cases e'
      rw [d] at d'; cases d'
      have := (f x).symm.trans (f' x)
      rw [a3, b3] at this; exact Option.some.inj this
    · rcases b1 with b1 | b1 <;> rw [a1] at b1 <;> cases b1
  · rcases b with ⟨b1, m', b2, b3⟩ | ⟨b1, c', b2, b3⟩
    · rcases a1 with a1 | a1 <;> rw [a1] at b1 <;> cases b1
    · rw [a2] at b2; cases b2
      obtain ⟨o, e, d⟩ := a3
      obtain ⟨o', e', d'⟩ := b3
      rw [e] at e'; cases e'
      rw [d] at d'; cases d'; rfl

theorem ns_data {a : Addr} {m : Str → Option Value} (n : h.Ns a m) : ∃ o es ep, h.get? a = some o ∧ o.data = .dict es ep := let ⟨o, es, ep, e, d, _⟩ := n; ⟨o, es, ep, e, d⟩

/-- the frame's places bear three kinds of objects: they lie apart -/
theorem FS.cl_ne (F : FS h₀ O sc cn own σ env h ad) {x : Str} {c : Addr} (e : env.cells.lookup x = some c) : c ≠ env.locals := by
  rintro rfl
  obtain ⟨v, o, e1, d1⟩ := F.cell x _ e
  obtain ⟨m, hn⟩ := F.ns
  obtain ⟨o', es, ep, e2, d2⟩ := ns_data hn
  rw [e1] at e2; cases e2; rw [d1] at d2; cases d2
theorem FS.al_ne (F : FS h₀ O sc cn own σ env h ad) {x : Str} {a : Addr} (e : ad x = some a) : a ≠ env.locals := by
  rintro rfl
  obtain ⟨_, _, vs, n, ds, _, _, e1, _⟩ := F.ow x _ e
  obtain ⟨m, hn⟩ := F.ns
  obtain ⟨o', es, ep, e2, d2⟩ := ns_data hn
  rw [e1] at e2; cases e2; cases d2
theorem FS.ac_ne (F : FS h₀ O sc cn own σ env h ad) {x y : Str} {a c : Addr} (e : ad x = some a) (ec : env.cells.lookup y = some c) : a ≠ c := by
  rintro rfl
  obtain ⟨_, _, vs, n, ds, _, _, e1, _⟩ := F.ow x _ e
  obtain ⟨v, o, e2, d2⟩ := F.cell y _ ec
  rw [e1] at e2; cases e2; cases d2

noncomputable def setS : Sg → Str → D → Sg
  | [], x, d => [(x, d)]
  | (y, e) :: r, x, d => if x = y then (x, d) :: r else (y, e) :: setS r x d
theorem setS_lookup (σ : Sg) (x : Str) (d : D) (y : Str) : (setS σ x d).lookup y = if y = x then some d else σ.lookup y := by
  induction σ with
  | nil =>
    simp only [setS, List.lookup_cons]
    by_cases h : y = x
    · subst h; simp
    · have : (y == x) = false := by simpa using h
      rw [this]; simp [h]
  | cons p r ih =>
    obtain ⟨z, e⟩ := p
    simp only [setS]
    split
    · rename_i hz; subst hz
      rw [List.lookup_cons, List.lookup_cons]
      by_cases h : y = x
      · subst h; simp
      · have : (y == x) = false := by simpa using h
        rw [this]; simp [h]
    · rename_i hz
      rw [List.lookup_cons, List.lookup_cons, ih]
      by_cases h : y = z
      · subst h
        have : y ≠ x := fun q => hz q.symm
        simp [this]
      · have : (y == z) = false := by simpa using h
        rw [this]

/-- a name of the frame is stored: what of the frame stays -/
structure Stored (env : Env) (h h' : Heap) (x : Str) (v : Value) (p : Addr) : Prop where
  at_ : p = env.locals ∨ env.cells.lookup x = some p
  same : Heap.SameBut p h h'
  loc : Loc env h' x v
  oth : ∀ y u, y ≠ x → Loc env h y u → Loc env h' y u
  ns : ∃ m, h'.Ns env.locals m
  cell : ∀ y c, env.cells.lookup y = some c → ∃ u, h'.IsCell c u
  chg : ∀ O : OSet, Chg O h h'

theorem store_any {M : Model} {A : Around} {E : Value → Shared → Prop} {s : Shared} {x : Str} {v : Value} {Q : Unit → Shared → Prop} (F : FS h₀ O sc cn own σ env s.heap ad) (hk : env.kindOf x = some .local ∨ (env.kindOf x = some .cell ∧ ∃ c, env.cells.lookup x = some c))
    (hq : ∀ h' tk p, Stored env s.heap h' x v p → Q () { s with heap := h', toks := tk }) : wpAny M A (storeName env x v) Q E s := by
  rcases hk with hk | ⟨hk, c, hc⟩
  · obtain ⟨m, hn⟩ := F.ns
    refine wpAny_storeName_local hk hn (fun h' hn' hs => ?_) (by rw [F.X.kind]; rfl)
    refine hq h' _ env.locals ⟨.inl rfl, hs, .inl ⟨hk, _, hn', by simp⟩, ?_, ⟨_, hn'⟩, ?_, fun O => Chg.ns hn hs⟩
    · rintro y u hy (⟨a1, m1, a2, a3⟩ | ⟨a1, c, a2, a3⟩)
      · refine .inl ⟨a1, _, hn', ?_⟩
        have : m1 y = m y := by
          obtain ⟨o, es, ep, e, d, _, f⟩ := a2
          obtain ⟨o', es', ep', e', d', _, f'⟩ := hn
          rw [e] at e'; cases e'
          rw [d] at d'; cases d'
          exact (f y).symm.trans (f' y)
        rw [if_neg hy, ← this]; exact a3
      · exact .inr ⟨a1, c, a2, a3.sameBut hs (F.cl_ne a2)⟩
    · intro y c e
      obtain ⟨u, q⟩ := F.cell y c e
      exact ⟨u, q.sameBut hs (F.cl_ne e)⟩
  · obtain ⟨v0, hv0⟩ := F.cell x c hc
    refine wpAny_storeName_cell F.X.kind hk hc hv0 fun h' hv' hs => ?_
    obtain ⟨m, hn⟩ := F.ns
    refine hq h' s.toks c ⟨.inr hc, hs, .inr ⟨.inl hk, c, hc, hv'⟩, ?_, ⟨m, hn.sameBut hs (Ne.symm (F.cl_ne hc))⟩, ?_, fun O => Chg.cell hv0 hs⟩
    · rintro y u hy (⟨a1, m1, a2, a3⟩ | ⟨a1, c', a2, a3⟩)
      · exact .inl ⟨a1, m1, a2.sameBut hs (Ne.symm (F.cl_ne hc)), a3⟩
      · refine .inr ⟨a1, c', a2, a3.sameBut hs ?_⟩
        rintro rfl
        exact hy (F.cinj _ _ _ a2 hc)
    · intro y c' e
      by_cases hcc : c' = c
      · subst hcc; exact ⟨_, hv'⟩
      · obtain ⟨u, q⟩ := F.cell y c' e
        exact ⟨u, q.sameBut hs hcc⟩

theorem Stored.mut {x : Str} {v : Value} {p : Addr} (S : Stored env h h' x v p) : Mut env ad p := by
  rcases S.at_ with q | q
  · exact .inl q
  · exact .inr (.inl ⟨x, q⟩)
theorem Stored.own_ne {x y : Str} {v : Value} {p a : Addr} (F : FS h₀ O sc cn own σ env h ad) (S : Stored env h h' x v p) (e : ad y = some a) : a ≠ p := by
  rcases S.at_ with q | q
  · rw [q]; exact F.al_ne e
  · exact F.ac_ne e q

/-- a plain name is stored -/
theorem FS.set (F : FS h₀ O sc cn own σ env h ad) {x : Str} {v : Value} {d : D} {p : Addr} (hx : own.contains x = false) (S : Stored env h h' x v p) (r : Rd (Hid O ad) h v d) : FS h₀ O sc cn own (setS σ x d) env h' ad := by
  have kp : Kp h₀ h' := fun b o e => S.same.extBut b o (by rintro rfl; rw [F.new S.mut] at e; cases e) (F.kp b o e)
  refine ⟨kp, ⟨F.X.kind, F.X.glb, F.X.bl, F.X.nm, F.X.sc, F.X.cn, ?_⟩, S.ns, F.lnew, S.cell, F.cnew, F.cinj, ?_, F.inj, ?_⟩
  · intro y d' hy
    rw [setS_lookup] at hy
    split at hy
    · rename_i hyx; subst hyx; cases hy
      exact ⟨v, S.loc, by unfold RdO; rw [hx]; exact r.chg (S.chg _)⟩
    · rename_i hyx
      obtain ⟨u, l, q⟩ := F.X.lo y d' hy
      refine ⟨u, S.oth y u hyx l, ?_⟩
      unfold RdO at q ⊢
      split
      · rename_i hw
        rw [if_pos hw] at q
        obtain ⟨a, ha⟩ := F.has y d' hw hy
        obtain ⟨_, _, vs, n, ds, p3, p4, p5, p6⟩ := F.ow y a ha
        rw [hy] at p3; cases p3
        have : u = .ref a := Loc.unique rfl l p4
        exact .top this rfl (S.same.extBut a _ (S.own_ne F ha) p5) (p6.chg (S.chg _))
      · rename_i hw
        rw [if_neg hw] at q
        exact q.chg (S.chg _)
  · intro y a ha
    obtain ⟨p1, p2, vs, n, ds, p3, p4, p5, p6⟩ := F.ow y a ha
    have hyx : y ≠ x := by rintro rfl; rw [hx] at p1; cases p1
    exact ⟨p1, p2, vs, n, ds, by rw [setS_lookup, if_neg hyx]; exact p3, S.oth y _ hyx p4, S.same.extBut a _ (S.own_ne F ha) p5, p6.chg (S.chg _)⟩
  · intro y d' hw hy
    rw [setS_lookup] at hy
    split at hy
    · rename_i hyx; subst hyx; rw [hx] at hw; cases hw
    · exact F.has y d' hw hy
end
end Mine
end

section
open PySem PySem.W PyProof.Rows
set_option Elab.async false
namespace Mine
set_option maxRecDepth 100000
set_option linter.unusedVariables false
section
variable {h₀ : Heap} {O : OSet} {sc : List (Str × NameKind)} {cn own : List Str} {σ : Sg} {env : Env} {h h' : Heap} {ad : Str → Option Addr}

theorem Loc.sameBut {x : Str} {v : Value} {p : Addr} (l : Loc env h x v) (hs : Heap.SameBut p h h') (hl : env.locals ≠ p) (hc : ∀ y c, env.cells.lookup y = some c → c ≠ p) : Loc env h' x v := by
  rcases l with ⟨a1, m, a2, a3⟩ | ⟨a1, c, a2, a3⟩
  · exact .inl ⟨a1, m, a2.sameBut hs hl, a3⟩
  · exact .inr ⟨a1, c, a2, a3.sameBut hs (hc _ _ a2)⟩

/-- a change at a namespace that is no part of the frame -/
theorem FS.but (F : FS h₀ O sc cn own σ env h ad) {C : Addr} {m : Str → Option Value} (hn : h.Ns C m) (h0 : h₀.get? C = none) (hl : env.locals ≠ C) (hs : Heap.SameBut C h h') : FS h₀ O sc cn own σ env h' ad := by
  have kp : Kp h₀ h' := fun b o e => hs.extBut b o (by rintro rfl; rw [h0] at e; cases e) (F.kp b o e)
  have hc : ∀ y c, env.cells.lookup y = some c → c ≠ C := by
    rintro y c e rfl
    obtain ⟨v, o, e1, d1⟩ := F.cell y _ e
    obtain ⟨o', es, ep, e2, d2⟩ := ns_data hn
    rw [e1] at e2; cases e2; rw [d1] at d2; cases d2
  have ha : ∀ y a, ad y = some a → a ≠ C := by
    rintro y a e rfl
    obtain ⟨_, _, vs, n, ds, _, _, e1, _⟩ := F.ow y _ e
    obtain ⟨o', es, ep, e2, d2⟩ := ns_data hn
    rw [e1] at e2; cases e2; cases d2
  have chg : ∀ O : OSet, Chg O h h' := fun O => Chg.ns hn hs
  refine ⟨kp, ⟨F.X.kind, F.X.glb, F.X.bl, F.X.nm, F.X.sc, F.X.cn, ?_⟩, let ⟨m, q⟩ := F.ns; ⟨m, q.sameBut hs hl⟩, F.lnew, fun y c e => let ⟨v, q⟩ := F.cell y c e; ⟨v, q.sameBut hs (hc y c e)⟩, F.cnew, F.cinj, ?_, F.inj, F.has⟩
  · intro y d hy
    obtain ⟨u, l, q⟩ := F.X.lo y d hy
    refine ⟨u, l.sameBut hs hl hc, ?_⟩
    unfold RdO at q ⊢
    split
    · rename_i hw
      rw [if_pos hw] at q
      obtain ⟨a, haa⟩ := F.has y d hw hy
      obtain ⟨_, _, vs, n, ds, p3, p4, p5, p6⟩ := F.ow y a haa
      rw [hy] at p3; cases p3
      have : u = .ref a := Loc.unique rfl l p4
      exact .top this rfl (hs.extBut a _ (ha y a haa) p5) (p6.chg (chg _))
    · rename_i hw
      rw [if_neg hw] at q
      exact q.chg (chg _)
  · intro y a haa
    obtain ⟨p1, p2, vs, n, ds, p3, p4, p5, p6⟩ := F.ow y a haa
    exact ⟨p1, p2, vs, n, ds, p3, p4.sameBut hs hl hc, hs.extBut a _ (ha y a haa) p5, p6.chg (chg _)⟩

/-- a list of the frame's own is changed -/
theorem FS.mutOwn (F : FS h₀ O sc cn own σ env h ad) {x : Str} {a : Addr} {vs : List Value} {n : Nat} {ds : List D} (hx : ad x = some a) (hs : Heap.SameBut a h h') (e : h'.get? a = some (seqO "list" vs n)) (r : RdAll (Hid O ad) h vs ds) : FS h₀ O sc cn own (setS σ x (.lst ds)) env h' ad := by
  obtain ⟨q1, q2, vs0, n0, ds0, q3, q4, q5, q6⟩ := F.ow x a hx
  have kp : Kp h₀ h' := fun b o e => hs.extBut b o (fun hb => by rw [hb, q2] at e; cases e) (F.kp b o e)
  have hl : env.locals ≠ a := Ne.symm (F.al_ne hx)
  have hc : ∀ y c, env.cells.lookup y = some c → c ≠ a := fun y c e => Ne.symm (F.ac_ne hx e)
  have chg : Chg (Hid O ad) h h' := Chg.hid q5 (.inr ⟨x, hx⟩) hs
  have hother : ∀ y b, y ≠ x → ad y = some b → b ≠ a := by
    intro y b hy e hb
    rw [hb] at e
    exact hy (F.inj _ _ _ e hx)
  refine ⟨kp, ⟨F.X.kind, F.X.glb, F.X.bl, F.X.nm, F.X.sc, F.X.cn, ?_⟩, let ⟨m, q⟩ := F.ns; ⟨m, q.sameBut hs hl⟩, F.lnew, fun y c e => let ⟨v, q⟩ := F.cell y c e; ⟨v, q.sameBut hs (hc y c e)⟩, F.cnew, F.cinj, ?_, F.inj, ?_⟩
  · intro y d hy
    rw [setS_lookup] at hy
    split at hy
    · rename_i hyx; subst hyx; cases hy
      refine ⟨.ref a, q4.sameBut hs hl hc, ?_⟩
      unfold RdO; rw [if_pos q1]
      exact .top rfl rfl e (r.chg chg)
    · rename_i hyx
      obtain ⟨u, l, q⟩ := F.X.lo y d hy
      refine ⟨u, l.sameBut hs hl hc, ?_⟩
      unfold RdO at q ⊢
      split
      · rename_i hw
        rw [if_pos hw] at q
        obtain ⟨b, hb⟩ := F.has y d hw hy
        obtain ⟨_, _, vs, n, ds, p3, p4, p5, p6⟩ := F.ow y b hb
        rw [hy] at p3; cases p3
        have : u = .ref b := Loc.unique rfl l p4
        exact .top this rfl (hs.extBut b _ (hother y b hyx hb) p5) (p6.chg chg)
      · rename_i hw
        rw [if_neg hw] at q
        exact q.chg chg
  · intro y b hb
    obtain ⟨p1, p2, vs', n', ds', p3, p4, p5, p6⟩ := F.ow y b hb
    by_cases hyx : y = x
    · subst hyx
      rw [hx] at hb; cases hb
      exact ⟨p1, p2, vs, n, ds, by rw [setS_lookup, if_pos rfl], p4.sameBut hs hl hc, e, r.chg chg⟩
    · exact ⟨p1, p2, vs', n', ds', by rw [setS_lookup, if_neg hyx]; exact p3, p4.sameBut hs hl hc, hs.extBut b _ (hother y b hyx hb) p5, p6.chg chg⟩
  · intro y d hw hy
    rw [setS_lookup] at hy
    split at hy
    · rename_i hyx; subst hyx; exact ⟨a, hx⟩
    · exact F.has y d hw hy

noncomputable def adSet (ad : Str → Option Addr) (x : Str) (a : Addr) : Str → Option Addr := fun y => if y = x then some a else ad y

theorem hid_adSet {x : Str} {a : Addr} (hx : ad x = none) (b : Addr) : Hid O (adSet ad x a) b ↔ (Hid O ad b ∨ b = a) := by
  unfold Hid adSet
  constructor
  · rintro (q | ⟨y, q⟩)
    · exact .inl (.inl q)
    · split at q
      · exact .inr (Option.some.inj q).symm
      · exact .inl (.inr ⟨y, q⟩)
  · rintro ((q | ⟨y, q⟩) | rfl)
    · exact .inl q
    · refine .inr ⟨y, ?_⟩
      rw [if_neg (by rintro rfl; rw [hx] at q; cases q)]; exact q
    · exact .inr ⟨x, if_pos rfl⟩

/-- a new list is stored under a name of the frame's own lists: g, the heap ahead of the list; h, behind it -/
theorem FS.setOwn {g : Heap} (F : FS h₀ O sc cn own σ env g ad) (hk : Kp g h) {x : Str} {a p : Addr} {vs : List Value} {n : Nat} {ds : List D} (hx : own.contains x = true) (hσ : σ.lookup x = none) (ha : g.get? a = none) (e : h.get? a = some (seqO "list" vs n))
    (r : RdAll (fun b => Hid O ad b ∨ b = a) h vs ds) (S : Stored env h h' x (.ref a) p) : FS h₀ O sc cn own (setS σ x (.lst ds)) env h' (adSet ad x a) := by
  have hax : ad x = none := by
    cases q : ad x with
    | none => rfl
    | some b => obtain ⟨_, _, _, _, _, p3, _⟩ := F.ow x b q; rw [hσ] at p3; cases p3
  have G := F.grow hk
  have kp : Kp h₀ h' := fun b o e => S.same.extBut b o (by rintro rfl; rw [G.new S.mut] at e; cases e) (G.kp b o e)
  have hidEq : (fun b => Hid O ad b ∨ b = a) = Hid O (adSet ad x a) := by
    funext b; exact propext (hid_adSet hax b).symm
  rw [hidEq] at r
  have mono : ∀ b, Hid O (adSet ad x a) b → Hid O ad b ∨ g.get? b = none := by
    intro b q
    rcases (hid_adSet hax b).mp q with q | rfl
    · exact .inl q
    · exact .inr ha
  have hap : a ≠ p := by
    rintro rfl
    rcases S.at_ with q | q
    · obtain ⟨m, hn⟩ := F.ns
      obtain ⟨o, es, ep, e1, _⟩ := ns_data hn
      rw [← q, ha] at e1; cases e1
    · obtain ⟨v, o, e1, _⟩ := F.cell x _ q
      rw [ha] at e1; cases e1
  have hne : ∀ y b, ad y = some b → b ≠ a := by
    rintro y b q rfl
    obtain ⟨_, _, vs, n, ds, _, _, e1, _⟩ := F.ow y b q
    rw [ha] at e1; cases e1
  have h0a : h₀.get? a = none := by
    cases q : h₀.get? a with
    | none => rfl
    | some o => rw [F.kp a o q] at ha; cases ha
  refine ⟨kp, ⟨F.X.kind, F.X.glb, F.X.bl, F.X.nm, F.X.sc, F.X.cn, ?_⟩, S.ns, F.lnew, S.cell, F.cnew, F.cinj, ?_, ?_, ?_⟩
  · intro y d hy
    rw [setS_lookup] at hy
    split at hy
    · rename_i hyx; subst hyx; cases hy
      refine ⟨_, S.loc, ?_⟩
      unfold RdO; rw [if_pos hx]
      exact .top rfl rfl (S.same.extBut a _ hap e) (r.chg (S.chg _))
    · rename_i hyx
      obtain ⟨u, l, q⟩ := F.X.lo y d hy
      refine ⟨u, S.oth y u hyx (l.kp hk), ?_⟩
      unfold RdO at q ⊢
      split
      · rename_i hw
        rw [if_pos hw] at q
        obtain ⟨b, hb⟩ := F.has y d hw hy
        obtain ⟨_, _, vs, n, ds, p3, p4, p5, p6⟩ := F.ow y b hb
        rw [hy] at p3; cases p3
        have : u = .ref b := Loc.unique rfl l p4
        exact .top this rfl (S.same.extBut b _ (S.own_ne G hb) (hk _ _ p5)) (((p6.mono mono).kp hk).chg (S.chg _))
      · rename_i hw
        rw [if_neg hw] at q
        exact ((q.mono mono).kp hk).chg (S.chg _)
  · intro y b hb
    unfold adSet at hb
    split at hb
    · rename_i hyx; subst hyx; cases hb
      exact ⟨hx, h0a, vs, n, ds, by rw [setS_lookup, if_pos rfl], S.loc, S.same.extBut a _ hap e, r.chg (S.chg _)⟩
    · rename_i hyx
      obtain ⟨p1, p2, vs', n', ds', p3, p4, p5, p6⟩ := F.ow y b hb
      exact ⟨p1, p2, vs', n', ds', by rw [setS_lookup, if_neg hyx]; exact p3, S.oth y _ hyx (p4.kp hk), S.same.extBut b _ (S.own_ne G hb) (hk _ _ p5), ((p6.mono mono).kp hk).chg (S.chg _)⟩
  · intro y z b hy hz
    unfold adSet at hy hz
    split at hy
    · rename_i q1
      split at hz
      · rename_i q2; rw [q1, q2]
      · cases hy; exact absurd rfl (hne z _ hz)
    · split at hz
      · cases hz; exact absurd rfl (hne y _ hy)
      · exact F.inj y z b hy hz
  · intro y d hw hy
    rw [setS_lookup] at hy
    unfold adSet
    split at hy
    · rename_i hyx; exact ⟨a, if_pos hyx⟩
    · rename_i hyx; rw [if_neg hyx]; exact F.has y d hw hy
end
end Mine
end

section
open PySem PySem.W PyProof.Rows
set_option Elab.async false
namespace Mine
set_option maxRecDepth 100000
set_option linter.unusedVariables false

inductive Fl where
  | next
  | brk
  | ret (d : D)

noncomputable def storeOk (sc : List (Str × NameKind)) (cn : List Str) (x : Str) : Bool := decide (sc.lookup x = some .local) || (decide (sc.lookup x = some .cell) && cn.contains x)

noncomputable def forD (x : Str) (body : Sg → Option (Fl × Sg)) : List D → Sg → Option (Fl × Sg)
  | [], σ => some (.next, σ)
  | d :: r, σ => (body (setS σ x d)).bind fun p => match p.1 with
    | .next => forD x body r p.2
    | .brk => some (.next, p.2)
    | .ret v => some (.ret v, p.2)

noncomputable def whileD (test : Sg → Option Bool) (body : Sg → Option (Fl × Sg)) : Nat → Sg → Option (Fl × Sg)
  | 0, _ => none
  | n + 1, σ => (test σ).bind fun b => match b with
    | false => some (.next, σ)
    | true => (body σ).bind fun p => match p.1 with
      | .next => whileD test body n p.2
      | .brk => some (.next, p.2)
      | .ret v => some (.ret v, p.2)

noncomputable def freshE : PySem.Expr → Bool
  | .List .. | .ListComp .. => true
  | _ => false

noncomputable def retD (own : List Str) (σ : Sg) (f : PySem.Expr → Option D) : PySem.Expr → Option D
  | .Name x p => if own.contains x then σ.lookup x else f (.Name x p)
  | e => f e

theorem retD_cases {own : List Str} {σ : Sg} {f : PySem.Expr → Option D} {e : PySem.Expr} {d : D} (h : retD own σ f e = some d) : (∃ x p, e = .Name x p ∧ own.contains x = true ∧ σ.lookup x = some d) ∨ f e = some d := by
  cases e with
  | Name x p =>
    rcases ite_or h with ⟨h1, h⟩ | h
    · exact .inl ⟨x, p, rfl, h1, h⟩
    · exact .inr h
  | _ => exact .inr h
noncomputable def name1 : List PySem.Expr → Option (Str × Pos)
  | [] => none
  | t :: r => match r with
    | [] => nameE t
    | _ :: _ => none
theorem name1_some {l : List PySem.Expr} {q : Str × Pos} (h : name1 l = some q) : l = [.Name q.1 q.2] := by
  cases l with
  | nil => exact none_some h
  | cons t r =>
    cases r with
    | nil => rw [nameE_some h]
    | cons _ _ => exact none_some h
noncomputable def attrE : PySem.Expr → Option (Str × Pos × Str × Pos)
  | .Attribute o m ap => (nameE o).map fun q => (q.1, q.2, m, ap)
  | _ => none
theorem attrE_some {e : PySem.Expr} {q : Str × Pos × Str × Pos} (h : attrE e = some q) : e = .Attribute (.Name q.1 q.2.1) q.2.2.1 q.2.2.2 := by
  cases e with
  | Attribute o m ap =>
    obtain ⟨z, h1, rfl⟩ := map_some' h
    rw [nameE_some h1]
  | _ => exact none_some h
noncomputable def lone (es : List PySem.Expr) (ks : List Keyword) : Option PySem.Expr := match es with
  | [] => none
  | e :: r => match r, ks with
    | [], [] => some e
    | _, _ => none
theorem lone_some {es : List PySem.Expr} {ks : List Keyword} {e : PySem.Expr} (h : lone es ks = some e) : es = [e] ∧ ks = [] := by
  cases es with
  | nil => exact none_some h
  | cons e r =>
    cases r with
    | cons _ _ => exact none_some h
    | nil =>
      cases ks with
      | cons _ _ => exact none_some h
      | nil => obtain rfl := Option.some.inj h; exact ⟨rfl, rfl⟩
/-- a method of a name, called with one argument -/
noncomputable def appE : PySem.Expr → Option ((Str × Pos × Str × Pos) × PySem.Expr × Pos)
  | .Call f es ks p => (attrE f).bind fun q => (lone es ks).map fun e => (q, e, p)
  | _ => none
theorem appE_some {e : PySem.Expr} {q : (Str × Pos × Str × Pos) × PySem.Expr × Pos} (h : appE e = some q) : e = .Call (.Attribute (.Name q.1.1 q.1.2.1) q.1.2.2.1 q.1.2.2.2) [q.2.1] [] q.2.2 := by
  cases e with
  | Call f es ks p =>
    obtain ⟨z, h1, h⟩ := bind_some' h
    obtain ⟨e, h2, rfl⟩ := map_some' h
    rw [attrE_some h1, (lone_some h2).1, (lone_some h2).2]
  | _ => exact none_some h
noncomputable def rngO : D → Option (Int × Int)
  | .rng a b => some (a, b)
  | _ => none
theorem rngO_some {d : D} {q : Int × Int} (h : rngO d = some q) : d = .rng q.1 q.2 := by
  cases d with
  | rng a b => obtain rfl := Option.some.inj h; rfl
  | _ => exact none_some h

mutual
noncomputable def ex (Γ : List (Str × GV)) : Nat → List (Str × NameKind) → List Str → List Str → Sg → Stmt → Option (Fl × Sg)
  | 0, _, _, _, _, _ => none
  | n + 1, sc, cn, own, σ, st =>
    match st with
    | .Assign ts v _ => (name1 ts).bind fun q =>
      if storeOk sc cn q.1 = true ∧ (own.contains q.1 = true → freshE v = true ∧ σ.lookup q.1 = none) then (ev Γ n sc cn own σ v).map fun d => (.next, setS σ q.1 d) else none
    | .AugAssign t op v _ => (nameE t).bind fun q =>
      if op = .Add ∧ storeOk sc cn q.1 = true ∧ own.contains q.1 = false then ((σ.lookup q.1).bind intD).bind fun i => ((ev Γ n sc cn own σ v).bind intD).map fun j => (.next, setS σ q.1 (.int (i + j))) else none
    | .Expr e _ => (appE e).bind fun q =>
      if own.contains q.1.1 = true ∧ (q.1.2.2.2.endLine == q.2.2.line) = true then ((σ.lookup q.1.1).bind lstO).bind fun l => (ev Γ n sc cn own σ q.2.1).bind fun d =>
        if q.1.2.2.1 = Str.ofString "append" then (if l.length ≤ 2 ^ 20 then some (.next, setS σ q.1.1 (.lst (l ++ [d]))) else none)
        else if q.1.2.2.1 = Str.ofString "extend" then (lstO d).bind fun l' => if l.length + l'.length ≤ 2 ^ 20 then some (.next, setS σ q.1.1 (.lst (l ++ l'))) else none
        else none
      else none
    | .If t b o _ => (tr Γ n sc cn own σ t).bind fun c => match c with
      | true => exs Γ n sc cn own σ b
      | false => exs Γ n sc cn own σ o
    | .While t b o _ => if o.isEmpty = true then whileD (fun τ => tr Γ n sc cn own τ t) (fun τ => exs Γ n sc cn own τ b) n σ else none
    | .For t it b o _ => (nameE t).bind fun q =>
      if o.isEmpty = true ∧ storeOk sc cn q.1 = true ∧ own.contains q.1 = false ∧ setE it = false then (ev Γ n sc cn own σ it).bind fun r => (rngO r).bind fun lh => (itemsD (.rng lh.1 lh.2)).bind fun l => forD q.1 (fun τ => exs Γ n sc cn own τ b) l σ else none
    | .Return e _ => e.bind fun e => (retD own σ (ev Γ n sc cn own σ) e).map fun d => (.ret d, σ)
    | .Break _ => some (.brk, σ)
    | _ => none
noncomputable def exs (Γ : List (Str × GV)) : Nat → List (Str × NameKind) → List Str → List Str → Sg → List Stmt → Option (Fl × Sg)
  | 0, _, _, _, _, _ => none
  | n + 1, sc, cn, own, σ, l =>
    match l with
    | [] => some (.next, σ)
    | st :: r => (ex Γ n sc cn own σ st).bind fun p => match p.1 with
      | .next => exs Γ n sc cn own p.2 r
      | .brk => some (.brk, p.2)
      | .ret d => some (.ret d, p.2)
end

/-- from s to s': what is kept -/
structure Inv (env : Env) (s : Shared) (ad : Str → Option Addr) (s' : Shared) (ad' : Str → Option Addr) : Prop where
  st : ∃ h' tk, s' = { s with heap := h', toks := tk }
  kpm : KpM (Mut env ad) s.heap s'.heap
  grow : ∀ x a, ad' x = some a → ad x = some a ∨ s.heap.get? a = none
  keep : ∀ x a, ad x = some a → ad' x = some a

section
variable {h₀ : Heap} {O : OSet} {sc : List (Str × NameKind)} {cn own : List Str} {σ σ' : Sg} {env : Env} {h h' : Heap} {ad ad' : Str → Option Addr} {s s' s₁ s₂ : Shared}

theorem Ks.inv (k : Ks s s') : Inv env s ad s' ad := by
  obtain ⟨h', tk, e, kp⟩ := k
  subst e
  exact ⟨⟨h', tk, rfl⟩, fun b o _ e => kp b o e, fun x a e => .inl e, fun x a e => e⟩

theorem Inv.alive (I : Inv env s ad s₁ ad') (F : FS h₀ O sc cn own σ env s₁.heap ad') {a : Addr} {o : Obj} (e : s.heap.get? a = some o) : ∃ o', s₁.heap.get? a = some o' := by
  by_cases hm : Mut env ad a
  · refine F.mutAlive ?_
    rcases hm with q | ⟨x, q⟩ | ⟨x, q⟩
    · exact .inl q
    · exact .inr (.inl ⟨x, q⟩)
    · exact .inr (.inr ⟨x, I.keep x a q⟩)
  · exact ⟨o, I.kpm a o hm e⟩
theorem Inv.notMut (I : Inv env s ad s₁ ad') {a : Addr} {o : Obj} (e : s.heap.get? a = some o) (hm : ¬ Mut env ad a) : ¬ Mut env ad' a := by
  rintro (q | q | ⟨x, q⟩)
  · exact hm (.inl q)
  · exact hm (.inr (.inl q))
  · rcases I.grow x a q with q | q
    · exact hm (.inr (.inr ⟨x, q⟩))
    · rw [e] at q; cases q
theorem Inv.trans {ad'' : Str → Option Addr} (I : Inv env s ad s₁ ad') (F : FS h₀ O sc cn own σ env s₁.heap ad') (J : Inv env s₁ ad' s₂ ad'') : Inv env s ad s₂ ad'' := by
  refine ⟨?_, ?_, ?_, fun x a e => J.keep x a (I.keep x a e)⟩
  · obtain ⟨h1, t1, rfl⟩ := I.st
    obtain ⟨h2, t2, rfl⟩ := J.st
    exact ⟨h2, t2, rfl⟩
  · intro b o hm e
    exact J.kpm b o (I.notMut e hm) (I.kpm b o hm e)
  · intro x a e
    rcases J.grow x a e with q | q
    · exact I.grow x a q
    · refine .inr ?_
      cases hs : s.heap.get? a with
      | none => rfl
      | some o => obtain ⟨o', e'⟩ := I.alive F hs; rw [q] at e'; cases e'

/-- a change at one place that is no part of the frame -/
theorem FS.ext (F : FS h₀ O sc cn own σ env h ad) {P : Addr} (hk : ∀ b o, b ≠ P → h.get? b = some o → h'.get? b = some o) (h0 : h₀.get? P = none) (hm : ¬ Mut env ad P) (chg : ∀ O : OSet, Chg O h h') : FS h₀ O sc cn own σ env h' ad := by
  have kp : Kp h₀ h' := fun b o e => hk b o (by rintro rfl; rw [h0] at e; cases e) (F.kp b o e)
  have hl : env.locals ≠ P := fun q => hm (.inl q.symm)
  have hc : ∀ y c, env.cells.lookup y = some c → c ≠ P := fun y c e q => hm (.inr (.inl ⟨y, q ▸ e⟩))
  have ha : ∀ y a, ad y = some a → a ≠ P := fun y a e q => hm (.inr (.inr ⟨y, q ▸ e⟩))
  have loc : ∀ {x v}, Loc env h x v → Loc env h' x v := by
    rintro x v (⟨a1, m, a2, a3⟩ | ⟨a1, c, a2, a3⟩)
    · exact .inl ⟨a1, m, a2.at' fun o e => hk _ o hl e, a3⟩
    · obtain ⟨o, e, d⟩ := a3
      exact .inr ⟨a1, c, a2, o, hk _ o (hc _ _ a2) e, d⟩
  refine ⟨kp, ⟨F.X.kind, F.X.glb, F.X.bl, F.X.nm, F.X.sc, F.X.cn, ?_⟩, let ⟨m, q⟩ := F.ns; ⟨m, q.at' fun o e => hk _ o hl e⟩, F.lnew, fun y c e => let ⟨v, o, q, d⟩ := F.cell y c e; ⟨v, o, hk _ o (hc y c e) q, d⟩, F.cnew, F.cinj, ?_, F.inj, F.has⟩
  · intro y d hy
    obtain ⟨u, l, q⟩ := F.X.lo y d hy
    refine ⟨u, loc l, ?_⟩
    unfold RdO at q ⊢
    split
    · rename_i hw
      rw [if_pos hw] at q
      obtain ⟨a, haa⟩ := F.has y d hw hy
      obtain ⟨_, _, vs, n, ds, p3, p4, p5, p6⟩ := F.ow y a haa
      rw [hy] at p3; cases p3
      have : u = .ref a := Loc.unique rfl l p4
      exact .top this rfl (hk a _ (ha y a haa) p5) (p6.chg (chg _))
    · rename_i hw
      rw [if_neg hw] at q
      exact q.chg (chg _)
  · intro y a haa
    obtain ⟨p1, p2, vs, n, ds, p3, p4, p5, p6⟩ := F.ow y a haa
    exact ⟨p1, p2, vs, n, ds, p3, loc p4, hk a _ (ha y a haa) p5, p6.chg (chg _)⟩

theorem store_kind {x : Str} (F : FS h₀ O sc cn own σ env h ad) (hx : storeOk sc cn x = true) : env.kindOf x = some .local ∨ (env.kindOf x = some .cell ∧ ∃ c, env.cells.lookup x = some c) := by
  unfold storeOk at hx
  rw [Bool.or_eq_true] at hx
  rcases hx with hx | hx
  · rcases F.X.sc x _ (of_decide_eq_true hx) with q | ⟨q, _⟩
    · exact .inl q
    · cases q
  · rw [Bool.and_eq_true] at hx
    have h1 := of_decide_eq_true hx.1
    obtain ⟨_, c, hc⟩ := F.X.cn x (by simpa using hx.2)
    rcases F.X.sc x _ h1 with q | ⟨q, _⟩
    · exact .inr ⟨q, c, hc⟩
    · cases q
end

/-- how a flow answers -/
noncomputable def FlOK (O : OSet) (h : Heap) : Fl → Flow → Prop
  | .next, f => f = .next
  | .brk, f => f = .brk
  | .ret d, f => ∃ v, f = .ret v ∧ Rd O h v d

section
variable (prog : Program) (w : World) (mg mb : Str → Option Value) (K : List (Addr × Obj)) (k : Nat) (Γ : List (Str × GV))
/-- a statement's (or block's) tree does as the evaluator says -/
noncomputable def Does (h₀ : Heap) (O : OSet) (sc : List (Str × NameKind)) (cn own : List Str) (env : Env) (A : Around) (t : Sem Flow) (s : Shared) (ad : Str → Option Addr) (fl : Fl) (σ' : Sg) : Prop :=
  ∀ (Q : Flow → Shared → Prop) (E : Value → Shared → Prop), (∀ f s' ad', Inv env s ad s' ad' → FS h₀ O sc cn own σ' env s'.heap ad' → FlOK O s'.heap fl f → Q f s') → wpAny (model prog w) A t Q E s
noncomputable def ExS (n : Nat) : Prop := ∀ {sc cn own σ st fl σ'}, ex Γ n sc cn own σ st = some (fl, σ') → ∀ {A : Around} {O : OSet} {env : Env} {s : Shared} {h₀ : Heap} {ad : Str → Option Addr}, AOk k A → Bs mg mb K h₀ → Alive O h₀ → FS h₀ O sc cn own σ env s.heap ad → Does prog w h₀ O sc cn own env A (exec st env) s ad fl σ'
noncomputable def ExsS (n : Nat) : Prop := ∀ {sc cn own σ st fl σ'}, exs Γ n sc cn own σ st = some (fl, σ') → ∀ {A : Around} {O : OSet} {env : Env} {s : Shared} {h₀ : Heap} {ad : Str → Option Addr}, AOk k A → Bs mg mb K h₀ → Alive O h₀ → FS h₀ O sc cn own σ env s.heap ad → Does prog w h₀ O sc cn own env A (execs st env) s ad fl σ'
end
end Mine
end

section
open PySem PySem.W PyProof.Rows
set_option Elab.async false
namespace Mine
set_option maxRecDepth 100000
set_option linter.unusedVariables false
section
variable {prog : Program} {w : World} {mg mb : Str → Option Value} {K : List (Addr × Obj)} {k : Nat} {Γ : List (Str × GV)} {n : Nat} {A : Around} {O : OSet} {env : Env} {sc : List (Str × NameKind)} {cn own : List Str} {σ σ' : Sg} {s : Shared} {h₀ : Heap} {ad : Str → Option Addr} {fl : Fl}

theorem Stored.inv {s : Shared} {h' : Heap} {tk : Nat} {x : Str} {v : Value} {p : Addr} (S : Stored env s.heap h' x v p) : Inv env s ad { s with heap := h', toks := tk } ad :=
  ⟨⟨h', tk, rfl⟩, fun b o hm e => S.same.extBut b o (by rintro rfl; exact hm S.mut) e, fun x a e => .inl e, fun x a e => e⟩

theorem store_does {M : Model} {E : Value → Shared → Prop} {x : Str} {v : Value} {d : D} (F : FS h₀ O sc cn own σ env s.heap ad) (hx : storeOk sc cn x = true) (ho : own.contains x = false) (r : Rd (Hid O ad) s.heap v d) {Q : Unit → Shared → Prop}
    (hq : ∀ s', Inv env s ad s' ad → FS h₀ O sc cn own (setS σ x d) env s'.heap ad → Q () s') : wpAny M A (storeName env x v) Q E s :=
  store_any F (store_kind F hx) fun h' tk p S => hq _ S.inv (F.set ho S r)

/-- a new list's making: its place was free -/
theorem fresh_sound (G : GOK prog w mg mb K k Γ) {v : PySem.Expr} {d : D} (hf : freshE v = true) (h : ev Γ n sc cn own σ v = some d) (a : AOk k A) (B : Bs mg mb K s.heap) (al : Alive O s.heap) (X : EnvOK sc cn own O σ env s.heap) :
    ∃ l, d = .lst l ∧ ∀ (Q : Value → Shared → Prop) (E : Value → Shared → Prop), (∀ a s' vs c, Ks s s' → s.heap.get? a = none → s'.heap.get? a = some (seqO "list" vs c) → RdAll (fun b => O b ∨ b = a) s'.heap vs l → Q (.ref a) s') → wpAny (model prog w) A (eval v env) Q E s := by
  cases n with
  | zero => exact none_some h
  | succ n =>
  have H := sound (prog := prog) (w := w) (mg := mg) (mb := mb) (K := K) (k := k) G n
  cases v with
  | List es p =>
    · obtain ⟨hl, h⟩ := ite_some h
      obtain ⟨ds, h1, rfl⟩ := map_some' h
      refine ⟨ds, rfl, fun Q E hq => ?_⟩
      refine wpAny_List (all_sound H p h1 a B al X _ E fun vs s1 k1 r1 => ⟨?_, ?_⟩)
      · rw [r1.length, allD_len h1]; exact Nat.le_trans hl (by decide)
      · have hN : s1.heap.get? s1.heap.objs.size = none := none_of_le (Nat.le_refl _)
        refine hq _ _ vs 0 (k1.tr (Ks.mk' (tk := s1.toks) (Kp.push _ _))) ?_ (Heap.get?_push_size _ rfl) ?_
        · cases e : s.heap.get? s1.heap.objs.size with
          | none => rfl
          | some o => rw [k1.kp _ _ e] at hN; cases hN
        · refine (r1.mono fun b q => ?_).kp (Kp.push _ _)
          rcases q with q | rfl
          · exact .inl q
          · exact .inr hN
  | ListComp elt gens scope p =>
    obtain ⟨l, h1, rfl⟩ := map_some' h
    refine ⟨l, rfl, fun Q E hq => ?_⟩
    rw [eval_ListComp]
    refine H.cp h1 a B al X p _ none Q E fun dd C m s' ys c k1 hC hCd hdd hn hg r0 => ⟨m, hn, fun h' hs => ?_⟩
    have kk : Ks s { s' with heap := h' } := by
      obtain ⟨h1, t1, rfl, kp⟩ := k1
      refine ⟨h', t1, rfl, fun b o e => ?_⟩
      exact (hs.2 b (by rintro rfl; rw [hC] at e; cases e)).trans (kp b o e)
    exact hq dd _ ys c kk hdd ((hs.2 dd (Ne.symm hCd)).trans hg) (r0.chg (Chg.ns hn hs))
  | _ => exact absurd (show false = true from hf) (by decide)

theorem swaps_cases {v : PySem.Expr} {d : D} {x : Str} {p : Pos} {line : Nat} (h : ev Γ n sc cn own σ v = some d) :
    swapsWith v (some (.Name x p)) line env = pure false ∨ ∃ elt gens scope pos, v = .ListComp elt gens scope pos ∧ swapsWith v (some (.Name x p)) line env = pure true := by
  cases n with
  | zero => exact none_some h
  | succ n =>
  cases v with
  | ListComp elt gens scope pos =>
    have e : swapsWith (.ListComp elt gens scope pos) (some (.Name x p)) line env = pure (env.blockKind == .function && env.kindOf x == some .local && p.line == (PySem.Expr.ListComp elt gens scope pos).pos.line && !(scope.names.any fun (n, k) => n == x && (k == .local || k == .cell))) := rfl
    rw [e]
    cases (env.blockKind == .function && env.kindOf x == some .local && p.line == (PySem.Expr.ListComp elt gens scope pos).pos.line && !(scope.names.any fun (n, k) => n == x && (k == .local || k == .cell))) with
    | false => exact .inl rfl
    | true => exact .inr ⟨_, _, _, _, rfl, rfl⟩
  | _ => first | exact .inl rfl | exact none_some h

theorem ex_assign (G : GOK prog w mg mb K k Γ) {x : Str} {px pos : Pos} {v : PySem.Expr} (h : ex Γ (n + 1) sc cn own σ (.Assign [.Name x px] v pos) = some (fl, σ')) (a : AOk k A) (B : Bs mg mb K h₀) (al : Alive O h₀) (F : FS h₀ O sc cn own σ env s.heap ad) :
    Does prog w h₀ O sc cn own env A (exec (.Assign [.Name x px] v pos) env) s ad fl σ' := by
  intro Q E hq
  obtain ⟨⟨hst, hown⟩, h⟩ := ite_some h
  obtain ⟨d, hev, he⟩ := map_some' h
  cases he
  have B' := B.kp F.kp
  have al' := F.alive al
  have X' := F.X
  cases ho : own.contains x with
  | false =>
    rcases swaps_cases (env := env) (x := x) (p := px) (line := pos.line) hev with hs | ⟨elt, gens, scope, cpos, rfl, hs⟩
    · refine wpAny_Assign_Name ((sound G n).ev hev a B' al' X' _ E fun z s1 k1 r1 => ?_) hs
      refine store_does (F.grow k1.kp) hst ho r1 fun s' I F' => ?_
      exact hq _ s' ad (Inv.trans k1.inv (F.grow k1.kp) I) F' rfl
    · rw [exec_Assign_Name_used _ _ _ _ hs]
      refine wpAny_bind (wpAny_standAt (wpAny_bind ?_))
      cases n with
      | zero => exact none_some hev
      | succ n =>
      obtain ⟨l, h1, rfl⟩ := map_some' hev
      show wpAny _ A (do let _ ← comprehension (.ListComp elt gens scope cpos) scope env _ (newList []) (firstAsync gens) (firstIter gens env) (some (assign (.Name x px) env))) _ _ s
      refine wpAny_bind ((sound G n).cp h1 a B' al' X' cpos _ (some (assign (.Name x px) env)) _ E fun dd C m s1 ys c k1 hC hCd hdd hn hg r0 => ?_)
      show wpAny _ A (assign (.Name x px) env (.ref dd)) _ _ _
      have hlC : env.locals ≠ C := by
        rintro rfl
        obtain ⟨m, q⟩ := F.ns
        obtain ⟨o, _, _, e, _⟩ := ns_data q
        rw [hC] at e; cases e
      have h0C : h₀.get? C = none := by
        cases e : h₀.get? C with
        | none => rfl
        | some o => rw [F.kp _ _ e] at hC; cases hC
      have r : Rd (Hid O ad) s1.heap (.ref dd) (.lst l) := .lst (fun q => by obtain ⟨o, e⟩ := al' dd q; rw [hdd] at e; cases e) hg (r0.mono fun a q => .inl (.inl q))
      refine wpAny_assign_Name (store_any (F.grow k1.kp) (store_kind F hst) fun h2 tk2 p S => ?_)
      have hpC : C ≠ p := by
        rintro rfl
        rcases S.at_ with q | q
        · exact hlC q.symm
        · obtain ⟨u, o, e, _⟩ := F.cell x _ q
          rw [hC] at e; cases e
      have hn2 : h2.Ns C m := hn.sameBut S.same hpC
      refine ⟨m, hn2, fun h3 hs3 => ?_⟩
      have F2 := (F.grow k1.kp).set ho S r
      have F3 := F2.but hn2 h0C hlC hs3
      refine wpAny_pure (wpAny_pure (hq _ _ ad ?_ F3 rfl))
      obtain ⟨h1', t1, rfl, kp⟩ := k1
      refine ⟨⟨h3, tk2, rfl⟩, fun b o hm e => ?_, fun x a e => .inl e, fun x a e => e⟩
      exact hs3.extBut b o (by rintro rfl; rw [hC] at e; cases e) (S.same.extBut b o (by rintro rfl; exact hm S.mut) (kp b o e))
  | true =>
    obtain ⟨hfr, hσ⟩ := hown ho
    obtain ⟨l, rfl, gen⟩ := fresh_sound G hfr hev a B' al' X'
    have fin : ∀ (b : Addr) (s1 : Shared) (vs : List Value) (c : Nat) (h2 : Heap) (tk2 : Nat) (p : Addr), Ks s s1 → s.heap.get? b = none → s1.heap.get? b = some (seqO "list" vs c) → RdAll (fun a => Hid O ad a ∨ a = b) s1.heap vs l → Stored env s1.heap h2 x (.ref b) p → FS h₀ O sc cn own (setS σ x (.lst l)) env h2 (adSet ad x b) ∧ Inv env s ad { s1 with heap := h2, toks := tk2 } (adSet ad x b) := by
      intro b s1 vs c h2 tk2 p k1 hb e r S
      refine ⟨F.setOwn k1.kp ho hσ hb e r S, ?_⟩
      obtain ⟨h1', t1, rfl, kp⟩ := k1
      refine ⟨⟨h2, tk2, rfl⟩, fun b' o hm e' => S.same.extBut b' o (by rintro rfl; exact hm S.mut) (kp b' o e'), ?_, ?_⟩
      · intro y c' q
        unfold adSet at q
        split at q
        · cases q; exact .inr hb
        · exact .inl q
      · intro y c' q
        unfold adSet
        rw [if_neg]
        · exact q
        · rintro rfl
          obtain ⟨_, _, _, _, _, p3, _⟩ := F.ow _ _ q
          rw [hσ] at p3; cases p3
    rcases swaps_cases (env := env) (x := x) (p := px) (line := pos.line) hev with hs | ⟨elt, gens, scope, cpos, rfl, hs⟩
    · refine wpAny_Assign_Name (gen _ E fun b s1 vs c k1 hb e r => ?_) hs
      refine store_any (F.grow k1.kp) (store_kind F hst) fun h2 tk2 p S => ?_
      obtain ⟨F2, I2⟩ := fin b s1 vs c h2 tk2 p k1 hb e r S
      exact hq _ _ _ I2 F2 rfl
    · rw [exec_Assign_Name_used _ _ _ _ hs]
      refine wpAny_bind (wpAny_standAt (wpAny_bind ?_))
      cases n with
      | zero => exact none_some hev
      | succ n =>
      obtain ⟨l', h1, hl⟩ := map_some' hev
      cases hl
      show wpAny _ A (do let _ ← comprehension (.ListComp elt gens scope cpos) scope env _ (newList []) (firstAsync gens) (firstIter gens env) (some (assign (.Name x px) env))) _ _ s
      refine wpAny_bind ((sound G n).cp h1 a B' al' X' cpos _ (some (assign (.Name x px) env)) _ E fun dd C m s1 ys c k1 hC hCd hdd hn hg r0 => ?_)
      show wpAny _ A (assign (.Name x px) env (.ref dd)) _ _ _
      have hlC : env.locals ≠ C := by
        rintro rfl
        obtain ⟨m, q⟩ := F.ns
        obtain ⟨o, _, _, e, _⟩ := ns_data q
        rw [hC] at e; cases e
      have h0C : h₀.get? C = none := by
        cases e : h₀.get? C with
        | none => rfl
        | some o => rw [F.kp _ _ e] at hC; cases hC
      refine wpAny_assign_Name (store_any (F.grow k1.kp) (store_kind F hst) fun h2 tk2 p S => ?_)
      have hpC : C ≠ p := by
        rintro rfl
        rcases S.at_ with q | q
        · exact hlC q.symm
        · obtain ⟨u, o, e, _⟩ := F.cell x _ q
          rw [hC] at e; cases e
      have hn2 : h2.Ns C m := hn.sameBut S.same hpC
      refine ⟨m, hn2, fun h3 hs3 => ?_⟩
      obtain ⟨F2, I2⟩ := fin dd s1 ys c h2 tk2 p k1 hdd hg r0 S
      have F3 := F2.but hn2 h0C hlC hs3
      refine wpAny_pure (wpAny_pure (hq _ _ (adSet ad x dd) ?_ F3 rfl))
      refine ⟨?_, fun b o hm e => ?_, I2.grow, I2.keep⟩
      · obtain ⟨h1', t1, rfl, kp⟩ := k1
        exact ⟨h3, tk2, rfl⟩
      · exact hs3.extBut b o (by rintro rfl; rw [hC] at e; cases e) (I2.kpm b o hm e)
end
end Mine
end

section
open PySem PySem.W PyProof.Rows
set_option Elab.async false
namespace Mine
set_option maxRecDepth 100000
set_option linter.unusedVariables false
section
variable {prog : Program} {w : World} {mg mb : Str → Option Value} {K : List (Addr × Obj)} {k : Nat} {Γ : List (Str × GV)} {n : Nat} {A : Around} {O : OSet} {env : Env} {sc : List (Str × NameKind)} {cn own : List Str} {σ σ' : Sg} {s : Shared} {h₀ : Heap} {ad : Str → Option Addr} {fl : Fl}

theorem ex_aug (G : GOK prog w mg mb K k Γ) {x : Str} {px pos : Pos} {op : Operator} {v : PySem.Expr} (h : ex Γ (n + 1) sc cn own σ (.AugAssign (.Name x px) op v pos) = some (fl, σ')) (a : AOk k A) (B : Bs mg mb K h₀) (al : Alive O h₀) (F : FS h₀ O sc cn own σ env s.heap ad) :
    Does prog w h₀ O sc cn own env A (exec (.AugAssign (.Name x px) op v pos) env) s ad fl σ' := by
  intro Q E hq
  obtain ⟨⟨eo, hst, ho⟩, h⟩ := ite_some h
  obtain ⟨i, hl, h⟩ := bind_some' h
  obtain ⟨j, hev, he⟩ := map_some' h
  obtain ⟨z1, hl, q1⟩ := bind_some' hl
  obtain ⟨z2, hev, q2⟩ := bind_some' hev
  rw [intD_some q1] at hl
  rw [intD_some q2] at hev
  cases he
  subst eo
  obtain ⟨z, l, r⟩ := F.X.lo x _ hl
  have hn : nameOk x = true := by
    rcases l with ⟨a, _⟩ | ⟨a | a, _⟩ <;> exact F.X.nm x _ a
  unfold nameOk at hn
  rw [Bool.and_eq_true, Bool.not_eq_true', Bool.not_eq_true'] at hn
  unfold RdO at r
  rw [ho, if_neg Bool.false_ne_true] at r
  cases r
  refine wpAny_AugAssign_Name (load_loc F.X.kind l hn.2 ?_)
  refine (sound G n).ev hev a (B.kp F.kp) (F.alive al) F.X _ E fun z s1 k1 r1 => ?_
  cases r1
  refine iadd_int ?_
  have k2 : Ks s { s1 with toks := s1.toks + 1 } := k1.tr (Ks.toks s1 _)
  refine store_does (F.grow k2.kp) hst ho (.int _ _) fun s' I F' => ?_
  exact hq _ s' ad (Inv.trans k2.inv (F.grow k2.kp) I) F' rfl

theorem ex_expr (G : GOK prog w mg mb K k Γ) {x m : Str} {px ap p pos : Pos} {e : PySem.Expr} (h : ex Γ (n + 1) sc cn own σ (.Expr (.Call (.Attribute (.Name x px) m ap) [e] [] p) pos) = some (fl, σ')) (a : AOk k A) (B : Bs mg mb K h₀) (al : Alive O h₀) (F : FS h₀ O sc cn own σ env s.heap ad) :
    Does prog w h₀ O sc cn own env A (exec (.Expr (.Call (.Attribute (.Name x px) m ap) [e] [] p) pos) env) s ad fl σ' := by
  intro Q E hq
  obtain ⟨⟨hown, hline⟩, h⟩ := ite_some h
  obtain ⟨l, hl, h⟩ := bind_some' h
  obtain ⟨d, hev, h⟩ := bind_some' h
  obtain ⟨z1, hl, q1⟩ := bind_some' hl
  rw [lstO_some q1] at hl
  clear q1
  have hi : interactive env = false := by unfold interactive; rw [F.X.kind]; rfl
  obtain ⟨b, hb⟩ := F.has x _ hown hl
  obtain ⟨_, hb0, vs, c, ds, p3, p4, p5, p6⟩ := F.ow x b hb
  rw [hl] at p3; cases p3
  have hn : nameOk x = true := by
    rcases p4 with ⟨a, _⟩ | ⟨a | a, _⟩ <;> exact F.X.nm x _ a
  unfold nameOk at hn
  rw [Bool.and_eq_true, Bool.not_eq_true', Bool.not_eq_true'] at hn
  have go : ∀ (Q : Value → Shared → Prop) (E : Value → Shared → Prop), Q (.ref b) s → wpAny (model prog w) A (eval (.Name x px) env) Q E s := fun Q E hq => wpAny_Name (load_loc F.X.kind p4 hn.2 hq) hn.1
  have hall : allD (ev Γ n sc cn own σ) [e] = some [d] := by
    show (ev Γ n sc cn own σ e).bind _ = _
    rw [hev]; rfl
  have hlen := p6.length
  rcases ite_or h with ⟨hm, h⟩ | h
  · have hm : m = Str.ofString "append" := hm
    obtain ⟨hlt, h⟩ := ite_some h
    cases h
    subst hm
    refine wpAny_Expr ?_ hi rfl
    refine wpAny_Call_method rfl (by rw [star_each (ev_notStar hev)]; rfl) hline PySem.F.plainAttrs_list PySem.F.slot_list_append PySem.F.type_list_append (go _ E ⟨⟨_, p5, rfl⟩, fun c' e' => by cases e'; exact ⟨_, p5, rfl⟩, ?_⟩)
    have spl := fun (Q' : List Value → Shared → Prop) (hq' : ∀ vs s', Ks s s' → RdAll (Hid O ad) s'.heap vs [d] → Q' vs s') => all_sound (sound G n) p hall a (B.kp F.kp) (F.alive al) F.X Q' E hq'
    rw [star_each (ev_notStar hev)] at spl ⊢
    refine Calls.callWith_builtin rfl (Calls.evalArgs_plain (spl _ fun vs1 s1 k1 r1 => ?_))
    cases r1 with
    | cons r1 rn =>
    cases rn
    rename_i v1
    show wpAny _ A (call (.builtin "list.append") [.ref b, v1]) _ E s1
    refine wpAny_list_append_plain ⟨c, k1.kp _ _ p5⟩ (fun h' hp hs => ?_) ?_
    · obtain ⟨c', e'⟩ := hp
      have F1 := F.grow k1.kp
      have F2 := F1.mutOwn (ds := l ++ [d]) (vs := vs ++ [v1]) (n := c') hb hs (by rw [e']; simp [seqO]) ((p6.kp k1.kp).append (.one r1))
      refine hq _ _ ad ?_ F2 rfl
      refine Inv.trans k1.inv F1 ⟨⟨h', s1.toks, rfl⟩, fun b' o hm e => hs.extBut b' o (by rintro rfl; exact hm (.inr (.inr ⟨x, hb⟩))) e, fun x a e => .inl e, fun x a e => e⟩
    · rw [List.size_toArray, hlen, sizeLine_eq]; omega
  · obtain ⟨hm, h⟩ := ite_some h
    have hm : m = Str.ofString "extend" := hm
    obtain ⟨l', q2, h⟩ := bind_some' h
    obtain ⟨hlt, h⟩ := ite_some h
    cases h
    subst hm
    rw [lstO_some q2] at hev hall
    refine wpAny_Expr ?_ hi rfl
    refine wpAny_Call_method rfl (by rw [star_each (ev_notStar hev)]; rfl) hline PySem.F.plainAttrs_list PySem.F.slot_list_extend PySem.F.type_list_extend (go _ E ⟨⟨_, p5, rfl⟩, fun c' e' => by cases e'; exact ⟨_, p5, rfl⟩, ?_⟩)
    have spl := fun (Q' : List Value → Shared → Prop) (hq' : ∀ vs s', Ks s s' → RdAll (Hid O ad) s'.heap vs [.lst l'] → Q' vs s') => all_sound (sound G n) p hall a (B.kp F.kp) (F.alive al) F.X Q' E hq'
    rw [star_each (ev_notStar hev)] at spl ⊢
    refine Calls.callWith_builtin rfl (Calls.evalArgs_plain (spl _ fun vs1 s1 k1 r1 => ?_))
    cases r1 with
    | cons r1 rn =>
    cases rn
    cases r1 with
    | @lst b2 vs2 c2 _ hO2 e2 r2 =>
    show wpAny _ A (call (.builtin "list.extend") [.ref b, .ref b2]) _ E s1
    have hlen2 := r2.length
    have q5 := k1.kp _ _ p5
    have hsz' : vs.toArray.size + vs2.toArray.size ≤ sizeLine := by rw [List.size_toArray, List.size_toArray, hlen, hlen2, sizeLine_eq]; omega
    refine call_meets PySem.F.slot_list_extend ⟨_, q5, rfl⟩ PySem.F.entry_list_extend (PySem.F.args_list_extend_2 _ _) (AutoSeq1.list_extend_list_list_0 b vs.toArray c b2 vs2.toArray c2 (extend_door hsz') (Nat.le_trans (Nat.le_add_right _ _) hsz')) ⟨q5, e2, ?_⟩
    have ho' : (s1.heap.update b (Obj.mapSeq fun x => x ++ vs2.toArray)).get? b = some (seqO "list" (vs ++ vs2) (if (vs.toArray ++ vs2.toArray).size == vs.toArray.size then c else c + 1)) := by
      rw [Heap.get?_update_self _ q5 (by show (Obj.mapSeq (fun x => x ++ vs2.toArray) { cls := .type "list", dict := none, data := .seq vs.toArray c, slots := #[] }).isFreed = false; rw [mapSeq_app]; rfl)]
      show some (Obj.mapSeq (fun x => x ++ vs2.toArray) { cls := .type "list", dict := none, data := .seq vs.toArray c, slots := #[] }) = _
      rw [mapSeq_app]; simp [seqO]
    have F1 := F.grow k1.kp
    have hs : Heap.SameBut b s1.heap (s1.heap.update b (Obj.mapSeq fun x => x ++ vs2.toArray)) := Heap.SameBut.update ..
    have F2 := F1.mutOwn (ds := l ++ l') (vs := vs ++ vs2) hb hs ho' ((p6.kp k1.kp).append r2)
    refine hq _ _ ad ?_ F2 rfl
    refine Inv.trans k1.inv F1 ⟨⟨_, s1.toks, rfl⟩, fun b' o hm e => hs.extBut b' o (by rintro rfl; exact hm (.inr (.inr ⟨x, hb⟩))) e, fun x a e => .inl e, fun x a e => e⟩
end
end Mine
end

section
open PySem PySem.W PyProof.Rows
set_option Elab.async false
namespace Mine
set_option maxRecDepth 100000
set_option linter.unusedVariables false
section
variable {prog : Program} {w : World} {mg mb : Str → Option Value} {K : List (Addr × Obj)} {k : Nat} {Γ : List (Str × GV)} {n : Nat} {A : Around} {O : OSet} {env : Env} {sc : List (Str × NameKind)} {cn own : List Str} {σ σ' : Sg} {s : Shared} {h₀ : Heap} {ad : Str → Option Addr} {fl : Fl}

theorem Inv.refl : Inv env s ad s ad := (Ks.refl' s).inv

theorem Inv.iter {s s' : Shared} {ad' : Str → Option Addr} {I : Addr} {h2 : Heap} {tk : Nat} (I' : Inv env s ad s' ad') (hIs : s.heap.get? I = none) (hk2 : ∀ b o, b ∉ [I] → s'.heap.get? b = some o → h2.get? b = some o) : Inv env s ad { s' with heap := h2, toks := tk } ad' := by
  obtain ⟨h', tk', rfl⟩ := I'.st
  exact ⟨⟨h2, tk, rfl⟩, fun b o hm e => hk2 b o (by rw [List.mem_singleton]; rintro rfl; rw [hIs] at e; cases e) (I'.kpm b o hm e), I'.grow, I'.keep⟩
theorem elim3 {α β γ : Type} {Q : α → β → γ → Prop} {G : Prop} (h : ∃ a b c, Q a b c) (f : ∀ a b c, Q a b c → G) : G := by
  obtain ⟨a, b, c, q⟩ := h
  exact f a b c q
theorem ex_if (G : GOK prog w mg mb K k Γ) (HS : ExsS prog w mg mb K k Γ n) {t : PySem.Expr} {b o : List Stmt} {pos : Pos} (h : ex Γ (n + 1) sc cn own σ (.If t b o pos) = some (fl, σ')) (a : AOk k A) (B : Bs mg mb K h₀) (al : Alive O h₀) (F : FS h₀ O sc cn own σ env s.heap ad) :
    Does prog w h₀ O sc cn own env A (exec (.If t b o pos) env) s ad fl σ' := by
  intro Q E hq
  obtain ⟨c, h1, h⟩ := bind_some' h
  refine wpAny_If ((sound G n).tr h1 a (B.kp F.kp) (F.alive al) F.X _ E fun s1 k1 => ?_)
  have F1 := F.grow k1.kp
  cases c with
  | true => rw [if_pos rfl]; exact HS h a B al F1 Q E fun f s' ad' I F' ok => hq f s' ad' (Inv.trans k1.inv F1 I) F' ok
  | false => rw [if_neg Bool.false_ne_true]; exact HS h a B al F1 Q E fun f s' ad' I F' ok => hq f s' ad' (Inv.trans k1.inv F1 I) F' ok

theorem ex_return (G : GOK prog w mg mb K k Γ) {e : PySem.Expr} {pos : Pos} (h : ex Γ (n + 1) sc cn own σ (.Return (some e) pos) = some (fl, σ')) (a : AOk k A) (B : Bs mg mb K h₀) (al : Alive O h₀) (F : FS h₀ O sc cn own σ env s.heap ad) :
    Does prog w h₀ O sc cn own env A (exec (.Return (some e) pos) env) s ad fl σ' := by
  intro Q E hq
  obtain ⟨d, hd, he⟩ := map_some' h
  cases he
  refine wpAny_Return_some ?_
  have mono : ∀ b, O b → Hid O ad b ∨ (s.heap.get? b = none) := fun b q => .inl (.inl q)
  have plain : ev Γ n sc cn own σ e = some d → wpAny (model prog w) A (eval e env) (fun v => Q (.ret v)) E s := fun hev =>
    (sound G n).ev hev a (B.kp F.kp) (F.alive al) F.X _ E fun z s1 k1 r1 => hq _ s1 ad k1.inv (F.grow k1.kp) ⟨z, rfl, r1.mono fun b q => .inl (.inl q)⟩
  rcases retD_cases hd with ⟨x, p, rfl, hown, hd⟩ | hd
  · obtain ⟨b, hb⟩ := F.has x _ hown hd
    obtain ⟨_, hb0, vs, c, ds, p3, p4, p5, p6⟩ := F.ow x b hb
    rw [hd] at p3; cases p3
    have hn : nameOk x = true := by
      rcases p4 with ⟨a, _⟩ | ⟨a | a, _⟩ <;> exact F.X.nm x _ a
    unfold nameOk at hn
    rw [Bool.and_eq_true, Bool.not_eq_true', Bool.not_eq_true'] at hn
    refine wpAny_Name (load_loc F.X.kind p4 hn.2 ?_) hn.1
    refine hq _ s ad Inv.refl F ⟨.ref b, rfl, .lst (fun q => ?_) p5 (p6.mono fun b q => .inl (.inl q))⟩
    obtain ⟨o, e⟩ := al b q; rw [hb0] at e; cases e
  · exact plain hd

theorem ex_while (G : GOK prog w mg mb K k Γ) (HS : ExsS prog w mg mb K k Γ n) {t : PySem.Expr} {b : List Stmt} {pos : Pos} (h : ex Γ (n + 1) sc cn own σ (.While t b [] pos) = some (fl, σ')) (a : AOk k A) (B : Bs mg mb K h₀) (al : Alive O h₀) (F : FS h₀ O sc cn own σ env s.heap ad) :
    Does prog w h₀ O sc cn own env A (exec (.While t b [] pos) env) s ad fl σ' := by
  intro Q E hq
  have h : whileD (fun τ => tr Γ n sc cn own τ t) (fun τ => exs Γ n sc cn own τ b) n σ = some (fl, σ') := h
  refine wpAny_While (codeAny_whileLoop (fun j s' => ∃ τ ad', whileD (fun τ => tr Γ n sc cn own τ t) (fun τ => exs Γ n sc cn own τ b) j τ = some (fl, σ') ∧ Inv env s ad s' ad' ∧ FS h₀ O sc cn own τ env s'.heap ad') ?_ n ⟨σ, ad, h, Inv.refl, F⟩)
  rintro j s' ⟨τ, ad', hw, I, F'⟩
  cases j with
  | zero => exact none_some hw
  | succ j =>
  obtain ⟨c, h1, hw⟩ := bind_some' hw
  refine (sound G n).tr h1 a (B.kp F'.kp) (F'.alive al) F'.X _ _ fun s1 k1 => ?_
  have F1 := F'.grow k1.kp
  have I1 := Inv.trans I F' k1.inv
  cases c with
  | false =>
    rw [if_neg Bool.false_ne_true]
    cases hw
    exact wpAny_execs_nil (hq _ s1 ad' I1 F1 rfl)
  | true =>
    rw [if_pos rfl]
    obtain ⟨⟨fl1, σ1⟩, h2, hw⟩ := bind_some' hw
    refine HS h2 a B al F1 _ _ fun f s2 ad2 I2 F2 ok => ?_
    have I3 := Inv.trans I1 F1 I2
    cases fl1 with
    | next =>
      have ok' : f = .next := ok
      subst ok'
      exact ⟨j, Nat.lt_succ_self j, σ1, ad2, hw, I3, F2⟩
    | brk =>
      have ok' : f = .brk := ok
      subst ok'
      cases hw
      exact hq _ s2 ad2 I3 F2 rfl
    | ret d =>
      obtain ⟨v, e, r⟩ := ok
      subst e
      cases hw
      exact hq _ s2 ad2 I3 F2 ⟨v, rfl, r⟩

theorem ex_for (G : GOK prog w mg mb K k Γ) (HS : ExsS prog w mg mb K k Γ n) {x : Str} {px : Pos} {it : PySem.Expr} {b : List Stmt} {pos : Pos} (h : ex Γ (n + 1) sc cn own σ (.For (.Name x px) it b [] pos) = some (fl, σ')) (a : AOk k A) (B : Bs mg mb K h₀) (al : Alive O h₀) (F : FS h₀ O sc cn own σ env s.heap ad) :
    Does prog w h₀ O sc cn own env A (exec (.For (.Name x px) it b [] pos) env) s ad fl σ' := by
  intro Q E hq
  obtain ⟨⟨_, hst, ho, hse⟩, h⟩ := ite_some h
  obtain ⟨rr, hev, h⟩ := bind_some' h
  obtain ⟨lh, q1, h⟩ := bind_some' h
  rw [rngO_some q1] at hev
  clear q1
  obtain ⟨lo, hi⟩ := lh
  obtain ⟨items, hit, h⟩ := bind_some' h
  obtain ⟨hc, hit⟩ := ite_some hit
  cases hit
  have hfs : ∀ x, foldedSetIterable it env x = pure x := folded_of hse
  refine wpAny_For ((sound G n).ev hev a (B.kp F.kp) (F.alive al) F.X _ E fun z s1 k1 r1 => ?_) hfs
  obtain ⟨pr, t, u, z', rfl, hr⟩ := (RdT.of r1).rng'
  have F1 := F.grow k1.kp
  refine wpAny_pyIter_range hr (small_rng hc.1 hc.2.1) ?_
  obtain ⟨I, hIe⟩ : ∃ I, s1.heap.objs.size = I := ⟨_, rfl⟩
  obtain ⟨hp, hpe⟩ : ∃ hp, s1.heap.push { cls := .type "range_iterator", data := .fields #[rawInt lo, rawInt (Builtin.Range.rangeSize lo hi 1), rawInt 1] } = hp := ⟨_, rfl⟩
  rw [hIe, hpe]
  have W := LCg.range_walks (prog := prog) (w := w) (A := A) (I := I) a.hd lo (rngL lo hi).length
  have hI1 : s1.heap.get? I = none := none_of_le (Nat.le_of_eq hIe)
  have hI0 : h₀.get? I = none := by
    cases e : h₀.get? I with
    | none => rfl
    | some o => rw [F1.kp _ _ e] at hI1; cases hI1
  have hIs : s.heap.get? I = none := by
    cases e : s.heap.get? I with
    | none => rfl
    | some o => rw [k1.kp _ _ e] at hI1; cases hI1
  have hM1 : ¬ Mut env ad I := fun q => by obtain ⟨o, e⟩ := F1.mutAlive q; rw [hI1] at e; cases e
  have hp0 : hp.get? I = some { cls := .type "range_iterator", data := .fields #[rawInt lo, rawInt (Builtin.Range.rangeSize lo hi 1), rawInt 1] } := by
    rw [← hpe, ← hIe]
    exact Heap.get?_push_size _ rfl
  have kpp : Kp s1.heap hp := hpe ▸ Kp.push s1.heap _
  have st0 : ∀ hh : Heap, hh.get? I = some { cls := .type "range_iterator", data := .fields #[rawInt lo, rawInt (Builtin.Range.rangeSize lo hi 1), rawInt 1] } → IsRangeIter hh I (lo + ((0 : Nat) : Int) * 1) (((rngL lo hi).length : Int) - ((0 : Nat) : Int)) 1 := by
    intro hh e
    show hh.get? I = _
    rw [rngL_length]
    rw [rangeSize_one] at e
    have e1 : (if lo < hi then hi - lo else 0) = (((hi - lo).toNat : Nat) : Int) - ((0 : Nat) : Int) := by split <;> omega
    have e2 : lo + ((0 : Nat) : Int) * 1 = lo := by omega
    rw [e1] at e
    rw [e2]
    exact e
  have k2 : Ks s { s1 with heap := hp } := k1.tr (Ks.mk' (tk := s1.toks) kpp)
  have hlenN : (rngL lo hi).length ≤ (rngL lo hi).length + 1 := Nat.le_succ _
  refine codeAny_forLoop (fun j s' => ∃ i τ ad', i ≤ (rngL lo hi).length ∧ j = (rngL lo hi).length + 1 - i ∧ forD x (fun τ => exs Γ n sc cn own τ b) ((rngL lo hi).drop i) τ = some (fl, σ') ∧ Inv env s ad s' ad' ∧ FS h₀ O sc cn own τ env s'.heap ad' ∧
    IsRangeIter s'.heap I (lo + ((i : Nat) : Int) * 1) (((rngL lo hi).length : Int) - ((i : Nat) : Int)) 1 ∧ ¬ Mut env ad' I) ?_ ((rngL lo hi).length + 1) ⟨0, σ, ad, Nat.zero_le _, rfl, h, k2.inv, F.grow k2.kp, st0 _ hp0, hM1⟩
  intro j s' hInv
  refine elim3 hInv fun i τ ad' q => ?_
  have hi' := q.1
  have ej := q.2.1
  have hrest := q.2.2.1
  have I' := q.2.2.2.1
  have F' := q.2.2.2.2.1
  have hst' := q.2.2.2.2.2.1
  have hM' := q.2.2.2.2.2.2
  clear q hInv
  subst ej
  have away : ∀ h2 : Heap, (∀ b o, b ∉ [I] → s'.heap.get? b = some o → h2.get? b = some o) → FS h₀ O sc cn own τ env h2 ad' := fun h2 hk2 =>
    F'.ext (P := I) (fun b o hb e => hk2 b o (fun q => hb (List.mem_singleton.mp q)) e) hI0 hM' fun O' => iterChg ⟨_, _, hst', rfl, by simp⟩ hk2
  have awayI : ∀ (h2 : Heap) (tk : Nat), (∀ b o, b ∉ [I] → s'.heap.get? b = some o → h2.get? b = some o) → Inv env s ad { s' with heap := h2, toks := tk } ad' := fun h2 tk => I'.iter hIs
  by_cases hlt : i < (rngL lo hi).length
  · refine W.item i s' _ _ hlt hst' fun v h2 tk2 hPv hst2 hk2 => ?_
    obtain ⟨t2, rfl⟩ := hPv
    have F2 := away h2 hk2
    have I2 := awayI h2 tk2 hk2
    show wpAny _ _ (assign (.Name x px) env (.int (lo + (i : Int)) t2)) _ _ _
    refine wpAny_assign_Name (store_does (s := { s' with heap := h2, toks := tk2 }) F2 hst ho (.int _ _) fun s3 I3 F3 => ?_)
    have hst3 := I3.kpm I _ hM' hst2
    have hdrop : (rngL lo hi).drop i = .int (lo + (i : Int)) :: (rngL lo hi).drop (i + 1) := by
      rw [List.drop_eq_getElem_cons hlt]
      congr 1
      have := rng_get (List.getElem?_eq_getElem hlt)
      exact this
    rw [hdrop] at hrest
    obtain ⟨⟨fl1, σ1⟩, h2', hrest⟩ := bind_some' hrest
    refine HS h2' a B al F3 _ _ fun f s4 ad4 I4 F4 ok => ?_
    have I5 := Inv.trans I2 F2 (Inv.trans I3 F3 I4)
    have hst4 := I4.kpm I _ hM' hst3
    cases fl1 with
    | next =>
      have ok' : f = .next := ok
      subst ok'
      exact ⟨(rngL lo hi).length + 1 - (i + 1), by omega, i + 1, σ1, ad4, hlt, rfl, hrest, I5, F4, hst4, I4.notMut hst3 hM'⟩
    | brk =>
      have ok' : f = .brk := ok
      subst ok'
      cases hrest
      exact hq _ s4 ad4 I5 F4 rfl
    | ret d =>
      obtain ⟨v, e, r⟩ := ok
      subst e
      cases hrest
      exact hq _ s4 ad4 I5 F4 ⟨v, rfl, r⟩
  · have hi2 : i = (rngL lo hi).length := by omega
    subst hi2
    refine W.done s' _ _ hst' fun h2 tk2 hk2 => ?_
    rw [List.drop_length] at hrest
    cases hrest
    exact wpAny_execs_nil (hq _ _ ad' (awayI h2 tk2 hk2) (away h2 hk2) rfl)
theorem soundS (G : GOK prog w mg mb K k Γ) : ∀ n, ExS prog w mg mb K k Γ n ∧ ExsS prog w mg mb K k Γ n
  | 0 => ⟨fun h => none_some h, fun h => none_some h⟩
  | n + 1 => by
    obtain ⟨H1, H2⟩ := soundS G n
    constructor
    · intro sc cn own σ st fl σ' h A O env s h₀ ad a B al F
      cases st with
      | Assign ts v p =>
        obtain ⟨q, h1, _⟩ := bind_some' h
        have e := name1_some h1
        subst e
        exact ex_assign G h a B al F
      | AugAssign t op v p =>
        obtain ⟨q, h1, _⟩ := bind_some' h
        have e := nameE_some h1
        subst e
        exact ex_aug G h a B al F
      | Expr e p =>
        obtain ⟨q, h1, _⟩ := bind_some' h
        have e := appE_some h1
        subst e
        exact ex_expr G h a B al F
      | If t b o p => exact ex_if G H2 h a B al F
      | While t b o p =>
        cases o with
        | nil => exact ex_while G H2 h a B al F
        | cons _ _ => exact none_some h
      | For t it b o p =>
        obtain ⟨q, h1, h2⟩ := bind_some' h
        obtain ⟨⟨c1, _⟩, _⟩ := ite_some h2
        have e := nameE_some h1
        subst e
        cases o with
        | nil => exact ex_for G H2 h a B al F
        | cons _ _ => exact absurd (show false = true from c1) (by decide)
      | Return e p =>
        cases e with
        | none => exact none_some h
        | some e => exact ex_return G h a B al F
      | Break p =>
        cases h
        exact fun Q E hq => wpAny_Break (hq _ s ad Inv.refl F rfl)
      | _ => exact none_some h
    · intro sc cn own σ st fl σ' h A O env s h₀ ad a B al F
      intro Q E hq
      cases st with
      | nil =>
        cases h
        exact wpAny_execs_nil (hq _ s ad Inv.refl F rfl)
      | cons st r =>
        obtain ⟨⟨fl1, σ1⟩, h1, h⟩ := bind_some' h
        refine wpAny_execs_cons (H1 h1 a B al F _ E fun f s1 ad1 I1 F1 ok => ?_)
        cases fl1 with
        | next =>
          have ok' : f = .next := ok
          subst ok'
          exact H2 h a B al F1 Q E fun f s2 ad2 I2 F2 ok2 => hq f s2 ad2 (Inv.trans I1 F1 I2) F2 ok2
        | brk =>
          have ok' : f = .brk := ok
          subst ok'
          cases h
          exact hq _ s1 ad1 I1 F1 rfl
        | ret d =>
          obtain ⟨v, e, r⟩ := ok
          subst e
          cases h
          exact hq _ s1 ad1 I1 F1 ⟨v, rfl, r⟩
end
end Mine
end

section
open PySem PySem.W PyProof.Rows
set_option Elab.async false
namespace Mine
set_option maxRecDepth 100000
set_option linter.unusedVariables false

noncomputable def cellN (scope : Scope) : List Str := (scope.names.filter fun y => decide (y.2 = .cell)).map (·.1)
/-- a def's value by the evaluator -/
noncomputable def fnD (Γ : List (Str × GV)) (n : Nat) (params : List Str) (scope : Scope) (own : List Str) (body : List Stmt) (ds : List D) : Option D :=
  if ds.length = params.length then (match exs Γ n scope.names (cellN scope) own (params.zip ds) body with
    | some (.ret d, _) => some d
    | some (.next, _) => some .none
    | _ => none) else none
noncomputable def defOk (scope : Scope) (params own : List Str) : Bool :=
  scope.names.all (fun y => nameOk y.1) && scope.names.all (fun y => decide (y.2 = .cell → scope.names.lookup y.1 = some .cell)) &&
  params.all (fun p => (decide (scope.names.lookup p = some .local) || decide (scope.names.lookup p = some .cell)) && !own.contains p) && decide params.Nodup

theorem cellsFrom_some (x : Str) : ∀ (names : List (Str × NameKind)) (n : Nat) (acc : List (Str × Addr)), ((acc.lookup x).isSome = true ∨ (x, NameKind.cell) ∈ names) → ((cellsFrom n names acc).lookup x).isSome = true
  | [], n, acc, h => by
    rcases h with h | h
    · exact h
    · cases h
  | (y, kd) :: r, n, acc, h => by
    unfold cellsFrom
    split
    · rename_i hk
      refine cellsFrom_some x r _ _ ?_
      rcases h with h | h
      · left
        rw [List.lookup_cons]
        split
        · rfl
        · exact h
      · rcases List.mem_cons.mp h with h | h
        · cases h; left; rw [List.lookup_cons]; simp
        · exact .inr h
    · rename_i hk
      refine cellsFrom_some x r _ _ ?_
      rcases h with h | h
      · exact .inl h
      · rcases List.mem_cons.mp h with h | h
        · cases h; simp at hk
        · exact .inr h

theorem bindL_off (kd : Str → Option NameKind) (x : Str) : ∀ (binds : List (Str × Value)) (m : Str → Option Value), (∀ p ∈ binds, p.1 ≠ x) → bindL kd binds m x = m x
  | [], m, _ => rfl
  | (y, v) :: r, m, h => by
    unfold bindL
    rw [bindL_off kd x r _ fun p hp => h p (List.mem_cons_of_mem _ hp)]
    split
    · exact if_neg (Ne.symm (h (y, v) List.mem_cons_self))
    · rfl
theorem bindC_off (kd : Str → Option NameKind) (x : Str) : ∀ (binds : List (Str × Value)) (m : Str → Option Value), (∀ p ∈ binds, p.1 ≠ x) → bindC kd binds m x = m x
  | [], m, _ => rfl
  | (y, v) :: r, m, h => by
    unfold bindC
    rw [bindC_off kd x r _ fun p hp => h p (List.mem_cons_of_mem _ hp)]
    split
    · rfl
    · exact if_neg (Ne.symm (h (y, v) List.mem_cons_self))
theorem bind_on (kd : Str → Option NameKind) (x : Str) (v : Value) : ∀ (binds : List (Str × Value)) (m cm : Str → Option Value), (binds.map (·.1)).Nodup → binds.lookup x = some v →
    (kd x = some .local → bindL kd binds m x = some v) ∧ (kd x ≠ some .local → bindC kd binds cm x = some v)
  | [], m, cm, _, h => by simp at h
  | (y, u) :: r, m, cm, hn, h => by
    rw [List.map_cons, List.nodup_cons] at hn
    rw [List.lookup_cons] at h
    cases hxy : x == y with
    | true =>
      rw [hxy] at h; cases h
      have : x = y := by simpa using hxy
      subst this
      have off : ∀ p ∈ r, p.1 ≠ x := fun p hp e => hn.1 (List.mem_map.mpr ⟨p, hp, e⟩)
      constructor
      · intro hk; unfold bindL; rw [bindL_off kd x r _ off, if_pos hk]; simp
      · intro hk; unfold bindC; rw [bindC_off kd x r _ off, if_neg hk]; simp
    | false =>
      rw [hxy] at h
      unfold bindL bindC
      exact bind_on kd x v r _ _ hn.2 h

theorem zip_rd {O : OSet} {h : Heap} : ∀ {ps : List Str} {vs : List Value} {ds : List D} {x : Str} {d : D}, RdAll O h vs ds → (ps.zip ds).lookup x = some d → ∃ v, (ps.zip vs).lookup x = some v ∧ Rd O h v d
  | [], _, _, x, d, r, q => by simp at q
  | p :: ps, vs, ds, x, d, r, q => by
    cases r with
    | nil => simp at q
    | cons r1 r =>
      rw [List.zip_cons_cons, List.lookup_cons] at q
      rw [List.zip_cons_cons, List.lookup_cons]
      cases hx : x == p with
      | true => rw [hx] at q; cases q; exact ⟨_, rfl, r1⟩
      | false => rw [hx] at q; exact zip_rd r q
theorem zip_mem {α : Type} : ∀ {ps : List Str} {vs : List α} {x : Str} {v : α}, (ps.zip vs).lookup x = some v → x ∈ ps := by
  intro ps vs x v h
  exact (List.of_mem_zip (lookup_mem' h)).1

section
variable {prog : Program} {w : World} {mg mb : Str → Option Value} {K : List (Addr × Obj)} {k : Nat} {Γ : List (Str × GV)} {n : Nat} {A : Around} {O : OSet}

theorem hid_none : Hid O (fun _ => none) = O := by
  funext a
  refine propext (Iff.intro (fun q => ?_) (fun q => Or.inl q))
  rcases q with q | ⟨x, e⟩
  · exact q
  · cases e

theorem FnC.mono {a : Addr} {F : List D → Option D} {j : Nat} (h : FnC prog w mg mb K k a F) (hj : k ≤ j) : FnC prog w mg mb K j a F :=
  fun A O s vs ds d ha B al r e => h A O s vs ds d (ha.mono hj) B al r e

theorem fn_sound (G : GOK prog w mg mb K k Γ) {a : Addr} {o : Obj} {fd : FuncData} {body : List Stmt} {params own : List Str} {n : Nat} (hm : (a, o) ∈ K) (hd : o.data = .func fd) (hbody : fd.body = .stmts body)
    (hcode : ∃ c oc vs t, fd.code = .ref c ∧ (c, oc) ∈ K ∧ oc.data = .fields vs ∧ vs[1]? = some (.str fd.qualname t)) (hclo : fd.closure = []) (hgl : fd.globals = mainGlobals) (hbl : fd.builtins = builtinsNs)
    (hbind : ∀ vals : List Value, vals.length = params.length → bindArgs fd ⟨vals, []⟩ = pure (params.zip vals)) (hco : fd.scope.isCoroutine = false) (hgen : fd.scope.isGenerator = false) (hk : fd.scope.kind = .function)
    (hok : defOk fd.scope params own = true) : FnC prog w mg mb K (k + 1) a (fnD Γ n params fd.scope own body) := by
  intro A O s vs ds d ha B al r hF Q E hq
  unfold fnD at hF
  split at hF
  · rename_i hlen
    unfold defOk at hok
    simp only [Bool.and_eq_true, List.all_eq_true, decide_eq_true_eq, Bool.or_eq_true, Bool.not_eq_true'] at hok
    obtain ⟨⟨⟨ok1, ok2⟩, ok3⟩, ok4⟩ := hok
    have hvl : vs.length = params.length := by rw [r.length, hlen]
    obtain ⟨c, oc, fs, t, hc1, hc2, hc3, hc4⟩ := hcode
    have hmz : ∀ x ∈ params.zip vs, x.1 ∈ params := fun x hx => (List.of_mem_zip (a := x.1) (b := x.2) hx).1
    have cellLk : ∀ x m, fd.scope.names.lookup x = some .cell → ((cellsFrom m fd.scope.names []).lookup x).isSome = true := fun x m e => cellsFrom_some x _ _ _ (.inr (lookup_mem' e))
    refine wpAny_call (codeAny_call_cells (by have := ha.dp; omega) (B.k _ hm) hd B.lim ⟨c, oc, fs, t, hc1, B.k _ hc2, hc3, hc4⟩ hbody (hbind vs hvl) hclo (fun x hx => ?_) (fun s1 X => ?_) hco hgen hk)
    · rcases (ok3 x.1 (hmz x hx)).1 with q | q
      · exact .inl q
      · exact .inr ⟨q, cellLk _ _ q⟩
    · have kp : Kp s.heap s1.heap := X.toInCall.keep
      have nodupZ : ((params.zip vs).map (·.1)).Nodup := by
        rw [List.map_fst_zip]
        · exact ok4
        · omega
      have F0 : FS s.heap O fd.scope.names (cellN fd.scope) own (params.zip ds) (callEnvC fd s.heap.objs.size a) s1.heap (fun _ => none) := by
        refine ⟨kp, ⟨hk, hgl, hbl, ?_, ?_, ?_, ?_⟩, ⟨_, X.toInCall.ns⟩, none_of_le X.toInCall.fresh, ?_, ?_, ?_, ?_, ?_, ?_⟩
        · intro x kd e
          exact ok1 _ (lookup_mem' e)
        · intro x kd e; exact .inl e
        · intro x hx
          unfold cellN at hx
          obtain ⟨y, hy, rfl⟩ := List.mem_map.mp hx
          obtain ⟨hy1, hy2⟩ := List.mem_filter.mp hy
          have e := ok2 y hy1 (of_decide_eq_true hy2)
          exact ⟨.inl e, Option.isSome_iff_exists.mp (cellLk _ _ e)⟩
        · intro x d' hx
          obtain ⟨v, hv, rv⟩ := zip_rd r hx
          have hxp := zip_mem hx
          obtain ⟨q1, q2⟩ := bind_on (callEnvC fd s.heap.objs.size a).kindOf x v (params.zip vs) (fun _ => none) (fun _ => none) nodupZ hv
          refine ⟨v, ?_, ?_⟩
          · rcases (ok3 x hxp).1 with q | q
            · exact .inl ⟨q, _, X.toInCall.ns, q1 q⟩
            · obtain ⟨c, hc⟩ := Option.isSome_iff_exists.mp (cellLk x (s.heap.objs.size + 1) q)
              have hnl : (callEnvC fd s.heap.objs.size a).kindOf x ≠ some .local := by
                show fd.scope.names.lookup x ≠ _
                rw [q]; decide
              exact .inr ⟨.inl q, c, hc, (q2 hnl) ▸ X.cell x c hc⟩
          · unfold RdO
            rw [(ok3 x hxp).2]
            simp only [Bool.false_eq_true, if_false]
            rw [hid_none]; exact rv.kp kp
        · intro x c e
          exact ⟨_, X.cell x c e⟩
        · intro x c e
          refine none_of_le ?_
          exact Nat.le_of_lt (Nat.lt_of_le_of_lt X.toInCall.fresh (X.above x c (mem_of_lookup e)))
        · intro x y c e e'
          exact name_of_addr X.apart (mem_of_lookup e) (mem_of_lookup e')
        · intro x a e; cases e
        · intro x y a e; cases e
        · intro x d' hx e
          rw [(ok3 x (zip_mem e)).2] at hx; cases hx
      have fin : ∀ {fl σ'}, exs Γ n fd.scope.names (cellN fd.scope) own (params.zip ds) body = some (fl, σ') → (∀ f s', Ks s s' → FlOK O s'.heap fl f → Q (match f with | .ret v => v | _ => .none) s') → wpAny (model prog w) (A.deeper (callEnvC fd s.heap.objs.size a)) (execs body (callEnvC fd s.heap.objs.size a)) (fun f s' => Q (match f with | .ret v => v | _ => .none) s')
          (fun e s' => wpAny (model prog w) (A.deeper (callEnvC fd s.heap.objs.size a)) (leaving (callEnvC fd s.heap.objs.size a) e) (fun _ s'' => E e s'') (fun e' s'' => E e' s'') s') s1 := by
        intro fl σ' he hQ
        refine (soundS G n).2 he ha.deeper B al F0 _ _ fun f s' ad' I F' ok => hQ f s' ?_ ok
        obtain ⟨h1, t1, e1⟩ := X.toInCall.same
        obtain ⟨h2, t2, e2⟩ := I.st
        refine ⟨s'.heap, s'.toks, ?_, F'.kp⟩
        rw [e2, e1]
      split at hF
      · rename_i d' σ' he
        cases hF
        refine fin he fun f s' ks ok => ?_
        obtain ⟨v, rfl, rv⟩ := ok
        exact hq v s' ks rv
      · rename_i σ' he
        cases hF
        refine fin he fun f s' ks ok => ?_
        have : f = .next := ok
        subst this
        exact hq _ s' ks .none
      · cases hF
  · cases hF
end
end Mine
end

section
open PySem PySem.W PyProof.Rows
set_option Elab.async false
namespace Mine
set_option maxRecDepth 100000
set_option linter.unusedVariables false

theorem plainAttrs_pat : PlainAttrs "re.Pattern" :=
  ⟨⟨"object.__getattribute__", by rw [typeLookup_type, builtinLookup_eq_fast]; kernel_rfl, by decide +kernel⟩, by rw [typeLookup_type, builtinLookup_eq_fast]; kernel_rfl⟩
theorem slot_pat_sub : Slot "re.Pattern" "sub" "re.Pattern.sub" :=
  .of (owner := "re.Pattern") (n := "sub") (by rw [typeLookup_type, builtinLookup_eq_fast]; kernel_rfl) (by decide +kernel) (by decide +kernel) (by decide +kernel)
    (by first | exact .inl (by decide +kernel) | exact .inr (by decide +kernel)) (by rw [isSubtype_type]; kernel_rfl)
theorem type_pat_sub : typeOf (.builtin "re.Pattern.sub") = pure (.type "method_descriptor") := by show builtinType _ = _; rw [builtinType_eq_fast]; kernel_rfl
theorem entry_pat_sub : entryFor table "re.Pattern.sub" = some Builtin.«re.Pattern.sub» := entryFor_of_tree (by kernel_rfl)
theorem entry_pat_loop : entryFor table "re.Pattern.sub.loop" = some Builtin.«re.Pattern.sub.loop» := entryFor_of_tree (by kernel_rfl)
theorem owner_pat : Manifest.owners.lookup (String.ofList ['n', 'r', 'e', 't', 't', 'a', 'P', '.', 'e', 'r'].reverse) = some Manifest.sig_re_Pattern := by kernel_rfl
theorem args_pat_sub (a b c : Value) : argsOk "re.Pattern.sub" ⟨[a, b, c], []⟩ := by
  unfold argsOk; rw [signature?_of (id := "re.Pattern.sub") (n := ['b', 'u', 's']) (o := ['n', 'r', 'e', 't', 't', 'a', 'P', '.', 'e', 'r']) (by kernel_rfl) owner_pat]; kernel_rfl
theorem plain_pat_sub : plainId "re.Pattern.sub" = true := by decide +kernel
theorem plain_pat_loop : plainId "re.Pattern.sub.loop" = true := by decide +kernel
end Mine
end

section
open PySem PySem.W PyProof.Rows
open PySem.Sre
set_option Elab.async false
namespace Mine
set_option maxRecDepth 100000
set_option linter.unusedVariables false

noncomputable def its : Nat → M → M
  | 0, m => m
  | n + 1, m => its n m.step
theorem its_done {m : M} (h : m.outcome.isSome = true) : ∀ n, its n m = m
  | 0 => rfl
  | n + 1 => by
    unfold its
    have : m.step = m := by unfold M.step; rw [if_pos h]
    rw [this]; exact its_done h n
theorem runFor_its : ∀ (n : Nat) (m : M), m.runFor n = its n m
  | 0, m => rfl
  | n + 1, m => by
    unfold M.runFor its
    split
    · rename_i h
      have : m.step = m := by unfold M.step; rw [if_pos h]
      rw [this, its_done h]
    · exact runFor_its n m.step
theorem its_add : ∀ (a b : Nat) (m : M), its (a + b) m = its b (its a m)
  | 0, b, m => by rw [Nat.zero_add]; rfl
  | a + 1, b, m => by
    have : a + 1 + b = (a + b) + 1 := by omega
    rw [this]
    show its (a + b) m.step = its b (its a m.step)
    exact its_add a b m.step

/-- within n steps a machine is met of which P holds -/
noncomputable def Go (n : Nat) (m : M) (P : M → Prop) : Prop := ∃ k, k ≤ n ∧ P (its k m)
theorem Go.here {n : Nat} {m : M} {P : M → Prop} (h : P m) : Go n m P := ⟨0, Nat.zero_le _, h⟩
theorem Go.step {n : Nat} {m : M} {P : M → Prop} (h : Go n m.step P) : Go (n + 1) m P := by
  obtain ⟨k, hk, p⟩ := h
  exact ⟨k + 1, by omega, p⟩
theorem Go.mono {n j : Nat} {m : M} {P : M → Prop} (h : Go n m P) (hn : n ≤ j) : Go j m P := by
  obtain ⟨k, hk, p⟩ := h
  exact ⟨k, by omega, p⟩
theorem Go.of {n : Nat} {m m' : M} {P : M → Prop} (e : m.step = m') (h : Go n m' P) : Go (n + 1) m P := Go.step (e ▸ h)

section
variable {m : M} {c : Nat}
theorem step_lit_ok (ho : m.outcome = none) (ha : m.answer = none) (hp : m.pc < m.code.size) (hw : m.code.getD (m.pc + 0) 0 = 16) (hc : m.code.getD (m.pc + 1) 0 = c) (hl : m.pos < m.lim) (ht : m.text.getD m.pos 0 = c) :
    ∃ sn, m.step = { m with seen := sn, pc := m.pc + 2, pos := m.pos + 1 } := by
  refine ⟨m.seen.add 16, ?_⟩
  have hw' : m.code.getD m.pc 0 = 16 := hw
  have e1 : ops[16]? = some .LITERAL := rfl
  unfold M.step
  rw [ho, ha]
  simp only [Option.isSome_none, Bool.false_eq_true, if_false, hp, if_true]
  unfold M.exec
  simp only [M.word, hw, e1]
  rw [if_neg (by omega)]
  have e2 : accepts m.code m.pc (m.text.getD m.pos 0) (m.seen.add 16) = .ok (true, m.seen.add 16) := by
    unfold accepts
    simp only [hw', e1, hc, ht]
    simp
  have e3 : itemWidth m.code m.pc = 2 := by
    unfold itemWidth
    simp only [hw', e1]
  simp only [e2, e3, ho, ha]
theorem step_lit_no (ho : m.outcome = none) (ha : m.answer = none) (hp : m.pc < m.code.size) (hw : m.code.getD (m.pc + 0) 0 = 16) (hc : m.code.getD (m.pc + 1) 0 = c) (hl : m.lim ≤ m.pos ∨ m.text.getD m.pos 0 ≠ c) :
    ∃ sn, m.step = { m with seen := sn, answer := some false } := by
  refine ⟨m.seen.add 16, ?_⟩
  have hw' : m.code.getD m.pc 0 = 16 := hw
  have e1 : ops[16]? = some .LITERAL := rfl
  unfold M.step
  rw [ho, ha]
  simp only [Option.isSome_none, Bool.false_eq_true, if_false, hp, if_true]
  unfold M.exec
  simp only [M.word, hw, e1]
  by_cases h : m.pos ≥ m.lim
  · rw [if_pos h]; simp only [M.say, ho]
  · rw [if_neg h]
    have hne : m.text.getD m.pos 0 ≠ c := by
      rcases hl with q | q
      · exact absurd q h
      · exact q
    have e2 : accepts m.code m.pc (m.text.getD m.pos 0) (m.seen.add 16) = .ok (false, m.seen.add 16) := by
      unfold accepts
      simp only [hw', e1, hc]
      simpa using hne
    simp only [e2, M.say, ho]
theorem step_jump (ho : m.outcome = none) (ha : m.answer = none) (hp : m.pc < m.code.size) (hw : m.code.getD (m.pc + 0) 0 = 15) (hc : m.code.getD (m.pc + 1) 0 = c) :
    ∃ sn, m.step = { m with seen := sn, pc := m.pc + 1 + c } := by
  refine ⟨m.seen.add 15, ?_⟩
  have e1 : ops[15]? = some .JUMP := rfl
  unfold M.step
  rw [ho, ha]
  simp only [Option.isSome_none, Bool.false_eq_true, if_false, hp, if_true]
  unfold M.exec
  simp only [M.word, hw, e1, hc, ho, ha]
theorem step_success (ho : m.outcome = none) (ha : m.answer = none) (hp : m.pc < m.code.size) (hw : m.code.getD (m.pc + 0) 0 = 1) (hwt : m.wholeText = false) (hm : m.mustAdvance = false) :
    ∃ sn, m.step = { m with seen := sn, handed := m.pos, answer := some true } := by
  refine ⟨m.seen.add 1, ?_⟩
  have e1 : ops[1]? = some .SUCCESS := rfl
  unfold M.step
  rw [ho, ha]
  simp only [Option.isSome_none, Bool.false_eq_true, if_false, hp, if_true]
  unfold M.exec
  simp only [M.word, hw, e1, hwt, hm, Bool.false_and, Bool.or_self, Bool.and_false, Bool.false_eq_true, if_false, M.say, ho]
theorem step_at (ho : m.outcome = none) (ha : m.answer = none) (hp : m.pc < m.code.size) (hw : m.code.getD (m.pc + 0) 0 = 6) (hc : m.code.getD (m.pc + 1) 0 = 1) :
    ∃ sn, m.step = if (m.pos == 0 || m.text.getD (m.pos - 1) 0 == 10) = true then { m with seen := sn, pc := m.pc + 2 } else { m with seen := sn, answer := some false } := by
  refine ⟨(m.seen.add 6).add (43 + 1), ?_⟩
  have e1 : ops[6]? = some .AT := rfl
  unfold M.step
  rw [ho, ha]
  simp only [Option.isSome_none, Bool.false_eq_true, if_false, hp, if_true]
  unfold M.exec
  simp only [M.word, hw, e1, hc]
  have e : ∀ m : M, m.isAt 1 = .ok (m.pos == 0 || m.text.getD (m.pos - 1) 0 == 10) := fun _ => rfl
  simp only [e, M.say, ho, ha]
theorem step_end {b : Bool} (ho : m.outcome = none) (ha : m.answer = some b) (hf : m.frames = []) : m.step = { m with outcome := some (if b then .matched else .failed) } := by
  unfold M.step
  rw [ho, ha, hf]
  rfl
theorem step_resume {b : Bool} {f : Sre.Frame} {rest : List Sre.Frame} (ho : m.outcome = none) (ha : m.answer = some b) (hf : m.frames = f :: rest) :
    m.step = M.resume { m with answer := none, frames := rest, weight := m.weight - (1 + f.kept.marks.size), pc := f.pc, pos := f.pos, outermost := f.outermost } f b := by
  unfold M.step
  rw [ho, ha, hf]
  rfl
end
end Mine
end

section
open PySem PySem.W PyProof.Rows
open PySem.Sre
set_option Elab.async false
namespace Mine
set_option maxRecDepth 100000
set_option linter.unusedVariables false

noncomputable def code1 : Array Nat := #[14, 4, 0, 1, 1, 6, 1, 16, 46, 1]
noncomputable def code2 : Array Nat := #[14, 9, 4, 1, 2, 16, 10, 16, 13, 0, 7, 7, 16, 13, 16, 10, 15, 18, 5, 16, 10, 15, 13, 11, 16, 13, 5, 5, 0, 16, 10, 1, 15, 2, 0, 1]

/-- a machine that begins at s -/
noncomputable def T (code : Array Nat) (pc : Nat) (text : Array Nat) (lim s : Nat) (first : Bool) (sn : Sre.Seen) : M :=
  { code := code, text := text, lim := lim, start := s, lastStart := lim, pc := pc, pos := s, handed := s, outermost := first, marks := #[], frames := [{ wait := .nextStart, pc := pc, pos := s, outermost := first }], weight := 1, seen := sn }

noncomputable def Won (s e : Nat) (m : M) : Prop := m.outcome = some .matched ∧ m.start = s ∧ m.handed = e
noncomputable def Lost (m : M) : Prop := m.outcome = some .failed

noncomputable def hit1 (text : Array Nat) (lim s : Nat) : Prop := (s = 0 ∨ text.getD (s - 1) 0 = 10) ∧ s < lim ∧ text.getD s 0 = 46

section
variable {text : Array Nat} {lim s : Nat} {first : Bool} {sn : Sre.Seen}

theorem turn1_yes (h : hit1 text lim s) : Go 6 (T code1 5 text lim s first sn) (Won s (s + 1)) := by
  obtain ⟨h1, h2, h3⟩ := h
  obtain ⟨s1, e1⟩ := step_at (m := T code1 5 text lim s first sn) rfl rfl (of_decide_eq_true rfl) rfl rfl
  rw [if_pos (by show (s == 0 || text.getD (s - 1) 0 == 10) = true; simpa using h1)] at e1
  refine Go.of e1 ?_
  obtain ⟨s2, e2⟩ := step_lit_ok (m := { T code1 5 text lim s first sn with seen := s1, pc := (T code1 5 text lim s first sn).pc + 2 }) (c := 46) rfl rfl (of_decide_eq_true rfl) rfl rfl h2 h3
  refine Go.of e2 ?_
  obtain ⟨s3, e3⟩ := step_success (m := { T code1 5 text lim s first sn with seen := s2, pc := 9, pos := s + 1 }) rfl rfl (of_decide_eq_true rfl) rfl rfl rfl
  refine Go.of e3 ?_
  refine Go.of (step_resume (b := true) rfl rfl rfl) ?_
  refine Go.of (step_end (b := true) rfl rfl rfl) ?_
  exact Go.here ⟨rfl, rfl, rfl⟩

theorem fail1 (h : ¬ hit1 text lim s) {n : Nat} {P : M → Prop} (go : ∀ (sn : Sre.Seen) (pc pos : Nat), Go n { T code1 5 text lim s first sn with pc := pc, pos := pos, answer := some false } P) : Go (n + 2) (T code1 5 text lim s first sn) P := by
  obtain ⟨s1, e1⟩ := step_at (m := T code1 5 text lim s first sn) rfl rfl (of_decide_eq_true rfl) rfl rfl
  by_cases h1 : (s == 0 || text.getD (s - 1) 0 == 10) = true
  · rw [if_pos (by exact h1)] at e1
    refine Go.of e1 ?_
    have h2 : lim ≤ s ∨ text.getD s 0 ≠ 46 := by
      by_cases q : lim ≤ s
      · exact .inl q
      · refine .inr fun q' => h ⟨by simpa using h1, by omega, q'⟩
    obtain ⟨s2, e2⟩ := step_lit_no (m := { T code1 5 text lim s first sn with seen := s1, pc := (T code1 5 text lim s first sn).pc + 2 }) (c := 46) rfl rfl (of_decide_eq_true rfl) rfl rfl h2
    refine Go.of e2 ?_
    exact go s2 7 s
  · rw [if_neg (by exact h1)] at e1
    refine (Go.of e1 ?_ : Go (n + 1) _ P).mono (by omega)
    exact go s1 5 s

theorem turn1_no (h : ¬ hit1 text lim s) (hs : s < lim) {n : Nat} {P : M → Prop} (go : ∀ sn, Go n (T code1 5 text lim (s + 1) false sn) P) : Go (n + 3) (T code1 5 text lim s first sn) P := by
  refine fail1 (n := n + 1) h fun sn pc pos => ?_
  refine Go.of (step_resume (b := false) rfl rfl rfl) ?_
  have e : M.resume { ({ T code1 5 text lim s first sn with pc := pc, pos := pos, answer := some false } : M) with answer := none, frames := [], weight := 1 - (1 + (#[] : Array (Option Nat)).size), pc := 5, pos := s, outermost := first } { wait := .nextStart, pc := 5, pos := s, outermost := first } false = T code1 5 text lim (s + 1) false sn := by
    unfold M.resume
    simp only [Bool.false_eq_true, if_false]
    rw [if_pos (by exact hs)]
    rfl
  exact e ▸ go sn
theorem turn1_end (h : ¬ hit1 text lim s) (hs : s = lim) : Go 5 (T code1 5 text lim s first sn) Lost := by
  refine fail1 (n := 3) h fun sn pc pos => ?_
  refine Go.of (step_resume (b := false) rfl rfl rfl) ?_
  have e : M.resume { ({ T code1 5 text lim s first sn with pc := pc, pos := pos, answer := some false } : M) with answer := none, frames := [], weight := 1 - (1 + (#[] : Array (Option Nat)).size), pc := 5, pos := s, outermost := first } { wait := .nextStart, pc := 5, pos := s, outermost := first } false = { T code1 5 text lim s first sn with answer := some false, frames := [], weight := 0 } := by
    unfold M.resume
    simp only [Bool.false_eq_true, if_false]
    rw [if_neg (by show ¬ s < lim; omega)]
    rfl
  refine e ▸ ?_
  refine Go.of (step_end (b := false) rfl rfl rfl) ?_
  exact Go.here rfl

theorem found1 {s' : Nat} : ∀ (j : Nat) {s : Nat} {first : Bool} {sn : Sre.Seen}, s + j = s' → hit1 text lim s' → (∀ i, s ≤ i → i < s' → ¬ hit1 text lim i) → Go (3 * j + 6) (T code1 5 text lim s first sn) (Won s' (s' + 1))
  | 0, s, first, sn, e, h, hn => by
    have : s = s' := by omega
    subst this
    exact turn1_yes h
  | j + 1, s, first, sn, e, h, hn => by
    have h3 := h.2.1
    have := turn1_no (sn := sn) (first := first) (hn s (Nat.le_refl _) (by omega)) (by omega) fun sn => found1 j (s := s + 1) (first := false) (sn := sn) (by omega) h fun i hi => hn i (by omega)
    exact this.mono (by omega)
theorem none1 : ∀ (j : Nat) {s : Nat} {first : Bool} {sn : Sre.Seen}, s + j = lim → (∀ i, s ≤ i → ¬ hit1 text lim i) → Go (3 * j + 5) (T code1 5 text lim s first sn) Lost
  | 0, s, first, sn, e, hn => turn1_end (hn s (Nat.le_refl _)) (by omega)
  | j + 1, s, first, sn, e, hn => by
    have := turn1_no (sn := sn) (first := first) (hn s (Nat.le_refl _)) (by omega) fun sn => none1 j (s := s + 1) (first := false) (sn := sn) (by omega) fun i hi => hn i (by omega)
    exact this.mono (by omega)

theorem search1 (text : Array Nat) (start lim : Nat) (h : start < lim) : forSearch code1 text 0 start lim false = T code1 5 text lim start true (({} : Sre.Seen).add 14) := by
  unfold forSearch
  have h1 : (decide (start > lim) || decide (lim - start < (header code1).1)) = false := by
    have e : (header code1).1 = 1 := rfl
    rw [e, Bool.or_eq_false_iff]
    exact ⟨by simp; omega, by simp; omega⟩
  simp only [h1, Bool.false_eq_true, if_false]
  rfl
theorem search1_end (text : Array Nat) (start lim : Nat) (h : lim ≤ start) : Go 1 (forSearch code1 text 0 start lim false) Lost := by
  have e : forSearch code1 text 0 start lim false = (M.say { code := code1, text := text, lim := lim, start := start, pc := 5, pos := start, handed := start, marks := #[], seen := ({} : Sre.Seen).add 14 } false) := by
    unfold forSearch
    have h1 : (decide (start > lim) || decide (lim - start < (header code1).1)) = true := by
      have e : (header code1).1 = 1 := rfl
      rw [e, Bool.or_eq_true]
      exact .inr (by simp; omega)
    simp only [h1, if_true]
    rfl
  rw [e]
  exact Go.of (step_end (b := false) rfl rfl rfl) (Go.here rfl)
end
end Mine
end

section
open PySem PySem.W PyProof.Rows
open PySem.Sre
set_option Elab.async false
namespace Mine
set_option maxRecDepth 100000
set_option linter.unusedVariables false

section
variable {text : Array Nat} {lim s : Nat} {first : Bool} {sn : Sre.Seen}

/-- an alternative at alt is tried: the machine stands at pc, pos -/
noncomputable def Bm (text : Array Nat) (lim s : Nat) (first : Bool) (alt pc pos : Nat) (sn : Sre.Seen) : M :=
  { code := code2, text := text, lim := lim, start := s, lastStart := lim, pc := pc, pos := pos, handed := s, outermost := first, marks := #[],
    frames := [{ wait := .nextBranch, pc := alt, pos := s, outermost := first, kept := { lastmark := -1, lastindex := -1, whole := false, marks := #[] } }, { wait := .nextStart, pc := 10, pos := s, outermost := first }], weight := 2, seen := sn }

theorem b_enter : (T code2 10 text lim s first sn).step = Bm text lim s first 11 12 s (sn.add 7) := rfl
theorem b_next1 {pc pos : Nat} : ({ Bm text lim s first 11 pc pos sn with answer := some false } : M).step = Bm text lim s first 18 19 s sn := rfl
theorem b_next2 {pc pos : Nat} : ({ Bm text lim s first 18 pc pos sn with answer := some false } : M).step = Bm text lim s first 23 24 s sn := rfl
theorem b_won {alt pos : Nat} : Go 3 ({ Bm text lim s first alt 35 pos sn with handed := pos, answer := some true } : M) (Won s pos) := by
  refine Go.of (step_resume (b := true) rfl rfl rfl) ?_
  refine Go.of (step_resume (b := true) rfl rfl rfl) ?_
  refine Go.of (step_end (b := true) rfl rfl rfl) ?_
  exact Go.here ⟨rfl, rfl, rfl⟩
theorem b_fin {alt pos : Nat} : Go 4 (Bm text lim s first alt 35 pos sn) (Won s pos) := by
  obtain ⟨s3, e3⟩ := step_success (m := Bm text lim s first alt 35 pos sn) rfl rfl (of_decide_eq_true rfl) rfl rfl rfl
  exact Go.of e3 (b_won (text := text) (lim := lim) (s := s) (first := first) (alt := alt) (pos := pos) (sn := s3))

theorem turn2_crlf (h0 : s < lim) (h1 : text.getD s 0 = 13) (h2 : s + 1 < lim) (h3 : text.getD (s + 1) 0 = 10) : Go 20 (T code2 10 text lim s first sn) (Won s (s + 2)) := by
  refine Go.of b_enter ?_
  obtain ⟨s2, e2⟩ := step_lit_ok (m := Bm text lim s first 11 12 s (sn.add 7)) (c := 13) rfl rfl (of_decide_eq_true rfl) rfl rfl h0 h1
  refine Go.of (m' := Bm text lim s first 11 14 (s + 1) s2) e2 ?_
  obtain ⟨s3, e3⟩ := step_lit_ok (m := Bm text lim s first 11 14 (s + 1) s2) (c := 10) rfl rfl (of_decide_eq_true rfl) rfl rfl h2 h3
  refine Go.of (m' := Bm text lim s first 11 16 (s + 2) s3) e3 ?_
  obtain ⟨s4, e4⟩ := step_jump (m := Bm text lim s first 11 16 (s + 2) s3) (c := 18) rfl rfl (of_decide_eq_true rfl) rfl rfl
  refine Go.of (m' := Bm text lim s first 11 35 (s + 2) s4) e4 ?_
  exact b_fin.mono (by omega)

theorem turn2_lf (h0 : s < lim) (h1 : text.getD s 0 = 10) : Go 20 (T code2 10 text lim s first sn) (Won s (s + 1)) := by
  refine Go.of b_enter ?_
  obtain ⟨s2, e2⟩ := step_lit_no (m := Bm text lim s first 11 12 s (sn.add 7)) (c := 13) rfl rfl (of_decide_eq_true rfl) rfl rfl (.inr (by show text.getD s 0 ≠ 13; rw [h1]; decide))
  refine Go.of (m' := { Bm text lim s first 11 12 s s2 with answer := some false }) e2 ?_
  refine Go.of b_next1 ?_
  obtain ⟨s3, e3⟩ := step_lit_ok (m := Bm text lim s first 18 19 s s2) (c := 10) rfl rfl (of_decide_eq_true rfl) rfl rfl h0 h1
  refine Go.of (m' := Bm text lim s first 18 21 (s + 1) s3) e3 ?_
  obtain ⟨s4, e4⟩ := step_jump (m := Bm text lim s first 18 21 (s + 1) s3) (c := 13) rfl rfl (of_decide_eq_true rfl) rfl rfl
  refine Go.of (m' := Bm text lim s first 18 35 (s + 1) s4) e4 ?_
  exact b_fin.mono (by omega)

/-- within the look ahead -/
noncomputable def Lm (text : Array Nat) (lim s : Nat) (first : Bool) (sn : Sre.Seen) : M :=
  { code := code2, text := text, lim := lim, start := s, lastStart := lim, pc := 29, pos := s + 1, handed := s + 1, outermost := false, marks := #[],
    frames := [{ wait := .lookNot, pc := 26, pos := s + 1, outermost := first, kept := { lastmark := -1, lastindex := -1, whole := false, marks := #[] } }, { wait := .nextBranch, pc := 23, pos := s, outermost := first, kept := { lastmark := -1, lastindex := -1, whole := false, marks := #[] } }, { wait := .nextStart, pc := 10, pos := s, outermost := first }], weight := 3, seen := sn }
theorem l_enter : (Bm text lim s first 23 26 (s + 1) sn).step = Lm text lim s first (sn.add 5) := by
  have e1 : ops[5]? = some .ASSERT_NOT := rfl
  unfold M.step
  have h1 : (Bm text lim s first 23 26 (s + 1) sn).outcome = none := rfl
  have h2 : (Bm text lim s first 23 26 (s + 1) sn).answer = none := rfl
  rw [h1, h2]
  simp only [Option.isSome_none, Bool.false_eq_true, if_false]
  rw [if_pos (of_decide_eq_true rfl)]
  have hw : (Bm text lim s first 23 26 (s + 1) sn).word 0 = 5 := rfl
  unfold M.exec
  simp only [hw, e1]
  rw [if_neg (by show ¬ s + 1 < 0; omega)]
  rfl
theorem l_leave : ({ Lm text lim s first sn with answer := some false } : M).step = { Bm text lim s first 23 32 (s + 1) sn with handed := s + 1 } := rfl

theorem turn2_cr (h0 : s < lim) (h1 : text.getD s 0 = 13) (h2 : lim ≤ s + 1 ∨ text.getD (s + 1) 0 ≠ 10) : Go 20 (T code2 10 text lim s first sn) (Won s (s + 1)) := by
  refine Go.of b_enter ?_
  obtain ⟨s2, e2⟩ := step_lit_ok (m := Bm text lim s first 11 12 s (sn.add 7)) (c := 13) rfl rfl (of_decide_eq_true rfl) rfl rfl h0 h1
  refine Go.of (m' := Bm text lim s first 11 14 (s + 1) s2) e2 ?_
  obtain ⟨s3, e3⟩ := step_lit_no (m := Bm text lim s first 11 14 (s + 1) s2) (c := 10) rfl rfl (of_decide_eq_true rfl) rfl rfl h2
  refine Go.of (m' := { Bm text lim s first 11 14 (s + 1) s3 with answer := some false }) e3 ?_
  refine Go.of b_next1 ?_
  obtain ⟨s4, e4⟩ := step_lit_no (m := Bm text lim s first 18 19 s s3) (c := 10) rfl rfl (of_decide_eq_true rfl) rfl rfl (.inr (by show text.getD s 0 ≠ 10; rw [h1]; decide))
  refine Go.of (m' := { Bm text lim s first 18 19 s s4 with answer := some false }) e4 ?_
  refine Go.of b_next2 ?_
  obtain ⟨s5, e5⟩ := step_lit_ok (m := Bm text lim s first 23 24 s s4) (c := 13) rfl rfl (of_decide_eq_true rfl) rfl rfl h0 h1
  refine Go.of (m' := Bm text lim s first 23 26 (s + 1) s5) e5 ?_
  refine Go.of l_enter ?_
  obtain ⟨s6, e6⟩ := step_lit_no (m := Lm text lim s first (s5.add 5)) (c := 10) rfl rfl (of_decide_eq_true rfl) rfl rfl h2
  refine Go.of (m' := { Lm text lim s first s6 with answer := some false }) e6 ?_
  refine Go.of l_leave ?_
  obtain ⟨s7, e7⟩ := step_jump (m := { Bm text lim s first 23 32 (s + 1) s6 with handed := s + 1 }) (c := 2) rfl rfl (of_decide_eq_true rfl) rfl rfl
  refine Go.of (m' := { Bm text lim s first 23 35 (s + 1) s7 with handed := s + 1 }) e7 ?_
  obtain ⟨s8, e8⟩ := step_success (m := { Bm text lim s first 23 35 (s + 1) s7 with handed := s + 1 }) rfl rfl (of_decide_eq_true rfl) rfl rfl rfl
  refine Go.of e8 ?_
  exact (b_won (text := text) (lim := lim) (s := s) (first := first) (alt := 23) (pos := s + 1) (sn := s8)).mono (by omega)

theorem set2 (c : Nat) (sn : Sre.Seen) : ∃ sn', inSet code2 c code2.size 5 true sn = .ok (c == 10 || c == 13, sn') := by
  have e1 : inSet code2 c code2.size 5 true sn = (if (c == 10) = true then .ok (true, sn.add 16) else inSet code2 c 35 7 true (sn.add 16)) := rfl
  have e2 : inSet code2 c 35 7 true (sn.add 16) = (if (c == 13) = true then .ok (true, (sn.add 16).add 16) else inSet code2 c 34 9 true ((sn.add 16).add 16)) := rfl
  rw [e1]
  cases h1 : (c == 10) with
  | true => exact ⟨_, rfl⟩
  | false =>
    rw [if_neg Bool.false_ne_true, e2]
    cases h2 : (c == 13) with
    | true => exact ⟨_, rfl⟩
    | false => exact ⟨_, rfl⟩

theorem adm_found {m : M} (hc : m.code = code2) {s' : Nat} : ∀ (j fuel s : Nat) (sn : Sre.Seen), s + j = s' → j < fuel → s' < m.lim → (m.text.getD s' 0 = 10 ∨ m.text.getD s' 0 = 13) → (∀ i, s ≤ i → i < s' → m.text.getD i 0 ≠ 10 ∧ m.text.getD i 0 ≠ 13) → ∃ sn', M.admitted m fuel s sn = .ok (some s', sn')
  | j, 0, s, sn, e, hf, hl, h, hn => by omega
  | 0, fuel + 1, s, sn, e, hf, hl, h, hn => by
    have : s = s' := by omega
    subst this
    unfold M.admitted
    rw [if_neg (by omega), hc]
    obtain ⟨sn', es⟩ := set2 (m.text.getD s 0) sn
    rw [es]
    have : (m.text.getD s 0 == 10 || m.text.getD s 0 == 13) = true := by rw [Bool.or_eq_true]; simpa using h
    rw [this]; exact ⟨_, rfl⟩
  | j + 1, fuel + 1, s, sn, e, hf, hl, h, hn => by
    unfold M.admitted
    rw [if_neg (by omega), hc]
    obtain ⟨sn', es⟩ := set2 (m.text.getD s 0) sn
    rw [es]
    obtain ⟨n1, n2⟩ := hn s (Nat.le_refl _) (by omega)
    have : (m.text.getD s 0 == 10 || m.text.getD s 0 == 13) = false := by rw [Bool.or_eq_false_iff]; exact ⟨by simpa using n1, by simpa using n2⟩
    rw [this]
    exact adm_found hc j fuel (s + 1) sn' (by omega) (by omega) hl h fun i hi => hn i (by omega)
theorem adm_none {m : M} (hc : m.code = code2) : ∀ (fuel s : Nat) (sn : Sre.Seen), (∀ i, s ≤ i → i < m.lim → m.text.getD i 0 ≠ 10 ∧ m.text.getD i 0 ≠ 13) → ∃ sn', M.admitted m fuel s sn = .ok (none, sn')
  | 0, s, sn, hn => ⟨sn, rfl⟩
  | fuel + 1, s, sn, hn => by
    unfold M.admitted
    by_cases hl : s ≥ m.lim
    · rw [if_pos hl]; exact ⟨_, rfl⟩
    · rw [if_neg hl, hc]
      obtain ⟨sn', es⟩ := set2 (m.text.getD s 0) sn
      rw [es]
      obtain ⟨n1, n2⟩ := hn s (Nat.le_refl _) (by omega)
      have : (m.text.getD s 0 == 10 || m.text.getD s 0 == 13) = false := by rw [Bool.or_eq_false_iff]; exact ⟨by simpa using n1, by simpa using n2⟩
      rw [this]
      exact adm_none hc fuel (s + 1) sn' fun i hi => hn i (by omega)

/-- the machine ahead of the first attempt -/
noncomputable def P2 (text : Array Nat) (lim start : Nat) : M := { code := code2, text := text, lim := lim, start := start, lastStart := lim, pc := 10, pos := start, handed := start, marks := #[], seen := ({} : Sre.Seen).add 14 }
theorem search2 (text : Array Nat) (start lim : Nat) (h : start < lim) : forSearch code2 text 0 start lim false = (P2 text lim start).attemptFrom start true := by
  unfold forSearch
  have h1 : (decide (start > lim) || decide (lim - start < (header code2).1)) = false := by
    have e : (header code2).1 = 1 := rfl
    rw [e, Bool.or_eq_false_iff]
    exact ⟨by simp; omega, by simp; omega⟩
  simp only [h1, Bool.false_eq_true, if_false]
  rfl
theorem found2 {start s' e : Nat} (h : start ≤ s') (hl : s' < lim) (hc : text.getD s' 0 = 10 ∨ text.getD s' 0 = 13) (hn : ∀ i, start ≤ i → i < s' → text.getD i 0 ≠ 10 ∧ text.getD i 0 ≠ 13)
    (go : ∀ sn, Go 20 (T code2 10 text lim s' true sn) (Won s' e)) : Go 20 (forSearch code2 text 0 start lim false) (Won s' e) := by
  rw [search2 _ _ _ (by omega)]
  obtain ⟨sn', es⟩ := adm_found (m := P2 text lim start) rfl (s' := s') (s' - start) (lim + 1 - start) start (P2 text lim start).seen (by omega) (by omega) hl hc hn
  have : (P2 text lim start).attemptFrom start true = T code2 10 text lim s' true sn' := by
    unfold M.attemptFrom
    rw [if_neg (by intro q; cases q)]
    have es' : M.admitted (P2 text lim start) ((P2 text lim start).lim + 1 - start) start (P2 text lim start).seen = .ok (some s', sn') := es
    rw [es']
    rfl
  rw [this]
  exact go sn'
theorem none2 {start : Nat} (hn : ∀ i, start ≤ i → i < lim → text.getD i 0 ≠ 10 ∧ text.getD i 0 ≠ 13) : Go 1 (forSearch code2 text 0 start lim false) Lost := by
  by_cases h : start < lim
  · rw [search2 _ _ _ h]
    obtain ⟨sn', es⟩ := adm_none (m := P2 text lim start) rfl (lim + 1 - start) start (P2 text lim start).seen hn
    have : (P2 text lim start).attemptFrom start true = { P2 text lim start with seen := sn', answer := some false } := by
      unfold M.attemptFrom
      rw [if_neg (by intro q; cases q)]
      have es' : M.admitted (P2 text lim start) ((P2 text lim start).lim + 1 - start) start (P2 text lim start).seen = .ok (none, sn') := es
      rw [es']
      rfl
    rw [this]
    exact Go.of (step_end (b := false) rfl rfl rfl) (Go.here rfl)
  · have e : forSearch code2 text 0 start lim false = (M.say { code := code2, text := text, lim := lim, start := start, pc := 10, pos := start, handed := start, marks := #[], seen := ({} : Sre.Seen).add 14 } false) := by
      unfold forSearch
      have h1 : (decide (start > lim) || decide (lim - start < (header code2).1)) = true := by
        have e : (header code2).1 = 1 := rfl
        rw [e, Bool.or_eq_true]
        exact .inr (by simp; omega)
      simp only [h1, if_true]
      rfl
    rw [e]
    exact Go.of (step_end (b := false) rfl rfl rfl) (Go.here rfl)
end
end Mine
end

section
open PySem PySem.W PyProof.Rows
open PySem.Sre PySem.Builtin PySem.Builtin.Re
set_option Elab.async false
namespace Mine
set_option maxRecDepth 100000
set_option linter.unusedVariables false

section
variable {Mo : Model} {A : Around} {E : Value → Shared → Prop} {s : Shared}

theorem its_stop {m : Sre.M} {k j : Nat} (hk : (its k m).outcome.isSome = true) (hj : (its j m).outcome.isSome = true) : its k m = its j m := by
  by_cases h : k ≤ j
  · have : j = k + (j - k) := by omega
    rw [this, its_add, its_done hk]
  · have : k = j + (k - j) := by omega
    rw [this, its_add, its_done hj]

theorem drive_go : ∀ (turns : Nat) {m : Sre.M} {k : Nat} {Q : Sre.M → Shared → Prop}, (its k m).outcome.isSome = true → k < 4 * turns + 1 → 0 < turns → Q (its k m) s → wpAny Mo A (reDrive turns m) Q E s
  | 0, m, k, Q, h, hk, ht, hq => absurd ht (Nat.lt_irrefl 0)
  | turns + 1, m, k, Q, h, hk, ht, hq => by
    unfold reDrive
    have e : m.runFor reTurnSteps = its 4 m := runFor_its 4 m
    simp only [e]
    by_cases h4 : (its 4 m).outcome.isSome = true
    · rw [if_pos h4]
      refine wpAny_pure ?_
      rw [its_stop h4 h]; exact hq
    · rw [if_neg h4]
      have hk4 : 4 < k := by
        refine Nat.lt_of_not_le fun q => h4 ?_
        have : 4 = k + (4 - k) := by omega
        rw [this, its_add, its_done h]; exact h
      have e2 : its k m = its (k - 4) (its 4 m) := by rw [← its_add]; congr 1; omega
      refine wpAny_bind (wpAny_rule ?_)
      exact drive_go turns (k := k - 4) (by rw [← e2]; exact h) (by omega) (by omega) (by rw [← e2]; exact hq)

theorem forIn_quiet {α : Type} {f : α → PUnit → Sem (ForInStep PUnit)} : ∀ (l : List α), (∀ x (Q : ForInStep PUnit → Shared → Prop) (s : Shared), Q (.yield ⟨⟩) s → wpAny Mo A (f x ⟨⟩) Q E s) → ∀ {Q : PUnit → Shared → Prop} {s : Shared}, Q ⟨⟩ s → wpAny Mo A (forIn l ⟨⟩ f) Q E s
  | [], hf, Q, s, h => by rw [List.forIn_nil]; exact wpAny_pure h
  | x :: l, hf, Q, s, h => by
    rw [List.forIn_cons]
    exact wpAny_bind (hf x _ s (forIn_quiet l hf h))

theorem run_end {m : Sre.M} {N : Nat} {P : Sre.M → Prop} {Q : Option Sre.M → Shared → Prop} (hg : Go N m P) (hN : N ≤ 2 ^ 64) (ho : ∀ m', P m' → (m'.outcome = some .matched ∧ Q (some m') s) ∨ (m'.outcome = some .failed ∧ Q none s)) : wpAny Mo A (reRunToEnd m) Q E s := by
  obtain ⟨k, hk, p⟩ := hg
  unfold reRunToEnd
  have hs : (its k m).outcome.isSome = true := by rcases ho _ p with ⟨e, _⟩ | ⟨e, _⟩ <;> rw [e] <;> rfl
  refine wpAny_bind (drive_go (2 ^ 64) hs (by omega) (by decide) ?_)
  refine wpAny_bind (forIn_quiet _ (fun i Q' s' h => ?_) ?_)
  · split
    · exact wpAny_bind (wpAny_rule (wpAny_pure h))
    · exact wpAny_pure h
  · rcases ho _ p with ⟨e, q⟩ | ⟨e, q⟩
    · rw [e]; exact wpAny_pure q
    · rw [e]; exact wpAny_pure q

/-- a pattern object for the code -/
structure IsPat (h : Heap) (pa : Addr) (code : Array Nat) : Prop where
  ex : ∃ px t1 fl t2 ca oc items n, h.get? pa = some { cls := .type "re.Pattern", data := .fields #[.str px t1, .int fl t2, .int 0 0, .none, .none, .ref ca, .int 0 0] } ∧ h.get? ca = some oc ∧ oc.data = .seq items n ∧ (items.map reRawOf).map (·.toNat) = code
theorem IsPat.kp {h h' : Heap} {pa : Addr} {code : Array Nat} (x : IsPat h pa code) (k : Kp h h') : IsPat h' pa code :=
  let ⟨px, t1, fl, t2, ca, oc, items, n, a, b, c, d⟩ := x.ex; ⟨px, t1, fl, t2, ca, oc, items, n, k _ _ a, k _ _ b, c, d⟩

theorem text_of {x : Str} {t : Tok} {Q : Array Nat × Nat → Shared → Prop} (hq : Q (x.cps, 0) s) : wpAny Mo A (reTextOf (.str x t)) Q E s := by
  unfold reTextOf
  exact wpAny_bind (wpAny_of_eq (show asStr? (.str x t) = pure (some x) from rfl) (wpAny_pure hq))

noncomputable def tgt (pa : Addr) (x : Str) (t : Tok) (code : Array Nat) : ReTarget := { pattern := .ref pa, string := .str x t, code := code, text := x.cps, kind := 0, groups := 0, pos := 0, lim := x.cps.size }
theorem whole_target {pa : Addr} {x : Str} {t : Tok} {code : Array Nat} {Q : ReTarget → Shared → Prop} (P : IsPat s.heap pa code) (hq : Q (tgt pa x t code) s) : wpAny Mo A (reWholeTarget (.ref pa) (.str x t)) Q E s := by
  obtain ⟨px, t1, fl, t2, ca, oc, items, n, h1, h2, h3, h4⟩ := P.ex
  unfold reWholeTarget
  refine wpAny_bind (wpAny_fieldsOf h1 rfl ?_)
  refine wpAny_bind (text_of ?_)
  refine wpAny_bind (wpAny_pure ?_)
  show wpAny _ _ (reRawItems (.ref ca) >>= _) _ _ _
  refine wpAny_bind ?_
  unfold reRawItems
  refine wpAny_bind (wpAny_seqItems h2 h3 (wpAny_pure (wpAny_pure ?_)))
  have e : ((some items).getD #[]).map reRawOf = items.map reRawOf := rfl
  rw [e, h4]
  exact hq
end
end Mine
end

section
open PySem PySem.W PyProof.Rows
open PySem.Sre PySem.Builtin PySem.Builtin.Re
set_option Elab.async false
namespace Mine
set_option maxRecDepth 100000
set_option linter.unusedVariables false

/-- the pieces of a substitution from done on -/
noncomputable def subP (text : Array Nat) (rp : Str) (nx : Nat → Option (Nat × Nat)) : Nat → Nat → List Str
  | 0, _ => []
  | f + 1, done => match nx done with
    | some (a, e) => (if done < a then [⟨text.extract done a⟩] else []) ++ (rp :: subP text rp nx f e)
    | none => if done < text.size then [⟨text.extract done text.size⟩] else []

/-- nx tells where the next match lies -/
structure Nxt (code text : Array Nat) (nx : Nat → Option (Nat × Nat)) : Prop where
  yes : ∀ st a e, st ≤ text.size → nx st = some (a, e) → st ≤ a ∧ a < e ∧ e ≤ text.size ∧ Go (2 ^ 60) (forSearch code text 0 st text.size false) (Won a e)
  no : ∀ st, st ≤ text.size → nx st = none → Go (2 ^ 60) (forSearch code text 0 st text.size false) Lost

theorem strValues_append (a : List (Str × Tok)) (x : Str) (t : Tok) : strValues (a ++ [(x, t)]) = strValues a ++ [.str x t] := by
  unfold strValues; simp
theorem strValues_length (a : List (Str × Tok)) : (strValues a).length = a.length := by unfold strValues; simp

theorem strsD_strs (l : List Str) : strsD (l.map D.str) = some l := by
  induction l with
  | nil => rfl
  | cons x l ih => simp [strsD, ih]

section
variable {prog : Program} {w : World} {A : Around} {R : Result → Shared → Prop}

noncomputable def KpL (l : Addr) (s s' : Shared) : Prop := ∃ h' tk, s' = { s with heap := h', toks := tk } ∧ ∀ b o, b ≠ l → s.heap.get? b = some o → h'.get? b = some o
theorem KpL.refl (l : Addr) (s : Shared) : KpL l s s := ⟨s.heap, s.toks, rfl, fun _ _ _ e => e⟩
theorem KpL.trans {l : Addr} {a b c : Shared} (x : KpL l a b) (y : KpL l b c) : KpL l a c := by
  obtain ⟨h, t, rfl, k⟩ := x
  obtain ⟨h', t', rfl, k'⟩ := y
  exact ⟨h', t', rfl, fun b o n e => k' b o n (k b o n e)⟩
theorem KpL.tok (l : Addr) (s : Shared) (t : Nat) : KpL l s { s with toks := t } := ⟨s.heap, t, rfl, fun _ _ _ e => e⟩

/-- a text is pushed -/
theorem push_str {E : Value → Shared → Prop} {s : Shared} {l : Addr} {acc : List (Str × Tok)} {c : Nat} {x : Str} {t : Tok} (hl : s.heap.get? l = some (seqO "list" (strValues acc) c)) (hsz : acc.length ≤ 2 ^ 23) {Q : Unit → Shared → Prop}
    (hq : ∀ s', KpL l s s' → s'.heap.get? l = some (seqO "list" (strValues (acc ++ [(x, t)])) (c + 1)) → Q () s') : wpAny (model prog w) A (updateSeq l (·.push (.str x t))) Q E s := by
  refine wpAny_updateSeq hl rfl (hq _ ⟨_, s.toks, rfl, fun b o n e => ?_⟩ ?_) ?_ ?_
  · exact (Heap.get?_update_other _ _ (Ne.symm n)).trans e
  · show (s.heap.update l (Obj.mapSeq fun x_1 => x_1.push (.str x t))).get? l = _
    have e1 : Obj.mapSeq (fun x_1 => x_1.push (Value.str x t)) (seqO "list" (strValues acc) c) = seqO "list" (strValues (acc ++ [(x, t)])) (c + 1) := by
      unfold seqO
      rw [Obj.mapSeq_push_plain, strValues_append]
      simp
    rw [Heap.get?_update_self _ hl (by rw [e1]; rfl), e1]
  · rw [List.size_toArray, strValues_length, sizeLine_eq]; omega
  · rw [Array.size_push, List.size_toArray, strValues_length, sizeLine_eq]; omega

theorem KpL.base {s s' : Shared} {l : Addr} {g : Heap} (k : KpL l s s') (hg : Kp g s.heap) (hl : g.get? l = none) : Kp g s'.heap := by
  obtain ⟨h', tk, rfl, kp⟩ := k
  exact fun b o e => kp b o (fun q => by rw [q, hl] at e; cases e) (hg b o e)

theorem slice_go {E : Value → Shared → Prop} {s : Shared} {text : Array Nat} {b e : Nat} {Q : Value → Shared → Prop} (hsz : text.size ≤ 2 ^ 20) (hq : Q (.str ⟨text.extract b e⟩ s.toks) { s with toks := s.toks + 1 }) : wpAny (model prog w) A (reSlice text 0 b e) Q E s := by
  unfold reSlice
  rw [if_pos (by rfl)]
  refine wpAny_mkStr hq ?_
  show (text.extract b e).size ≤ sizeLine
  rw [Array.size_extract, sizeLine_eq]; omega

theorem loop_sound {g : Heap} {pa l : Addr} {x rp : Str} {t tr : Tok} {code : Array Nat} {nx : Nat → Option (Nat × Nat)} (N : Nxt code x.cps nx) (hsz : x.cps.size ≤ 2 ^ 20) (P : IsPat g pa code) (hgl : g.get? l = none) :
    ∀ (fuel done n : Nat) (s : Shared) (acc : List (Str × Tok)) (c : Nat), x.cps.size - done < fuel → done ≤ x.cps.size → acc.length ≤ 2 * done → Kp g s.heap →
      s.heap.get? l = some (seqO "list" (strValues acc) c) →
      ((acc.map (·.1) ++ subP x.cps rp nx fuel done).map (·.length)).sum ≤ 2 ^ 20 →
      (∀ s' t', KpL l s s' → R (.ok (.ret (.str (Txt.join ⟨#[]⟩ (acc.map (·.1) ++ subP x.cps rp nx fuel done)) t'))) s') →
      codeAny (model prog w) A (.builtin "re.Pattern.sub.loop" ⟨[.ref pa, .str x t, .str rp tr, rawInt 0, rawInt 0, rawInt n, rawInt done, rawInt done, .bool false, .ref l, .bool false], []⟩) R s := by
  intro fuel
  induction fuel with
  | zero => intro done n s acc c h; omega
  | succ fuel ih =>
    intro done n s acc c hf hd hacc hg hl hsum hR
    refine codeAny_builtin entry_pat_loop ?_
    rw [Around.under_plainId plain_pat_loop _]
    unfold Builtin.«re.Pattern.sub.loop»
    refine wpAny_bind (whole_target (P.kp hg) ?_)
    refine wpAny_bind (wpAny_pure ?_)
    have ex0 : x.cps.extract 0 0 = #[] := by simp
    cases hx : nx done with
    | some ae =>
      obtain ⟨a, e⟩ := ae
      obtain ⟨n1, n2, n3, n4⟩ := N.yes done a e hd hx
      have hsub : subP x.cps rp nx (fuel + 1) done = (if done < a then [⟨x.cps.extract done a⟩] else []) ++ (rp :: subP x.cps rp nx fuel e) := by
        show (match nx done with | some (a, e) => _ | none => _) = _
        rw [hx]
      rw [hsub] at hsum hR
      refine wpAny_bind (run_end n4 (by decide) fun m hm => .inl ⟨hm.1, ?_⟩)
      obtain ⟨_, hm1, hm2⟩ := hm
      simp only [hm1, hm2]
      have tail : ∀ (s1 : Shared) (acc1 : List (Str × Tok)) (c1 : Nat), KpL l s s1 → s1.heap.get? l = some (seqO "list" (strValues acc1) c1) → acc1.length ≤ 2 * done + 1 → acc1.map (·.1) = acc.map (·.1) ++ (if done < a then [⟨x.cps.extract done a⟩] else []) →
          wpAny (model prog w) A.in1 (do
            let item ← pure (Value.str rp tr)
            if (item != Value.none) = true then do
              updateSeq l fun x => x.push item
              again (Code.builtin "re.Pattern.sub.loop" ⟨[Value.ref pa, Value.str x t, Value.str rp tr, rawInt 0, rawInt 0, rawInt ((n : Int) + 1), rawInt (e : Int), rawInt (e : Int), Value.bool (e == a), Value.ref l, Value.bool false], []⟩)
            else again (Code.builtin "re.Pattern.sub.loop" ⟨[Value.ref pa, Value.str x t, Value.str rp tr, rawInt 0, rawInt 0, rawInt ((n : Int) + 1), rawInt (e : Int), rawInt (e : Int), Value.bool (e == a), Value.ref l, Value.bool false], []⟩))
          (fun fin s' => match fin with | .done f => R (.ok f) s' | .again c' => c'.quiet = true ∧ codeAny (model prog w) A c' R s') (fun e s' => R (.error e) s') s1 := by
        intro s1 acc1 c1 k1 hl1 hlen1 hmap
        refine wpAny_bind (wpAny_pure ?_)
        rw [if_pos (by rfl)]
        refine wpAny_bind (push_str hl1 (by omega) fun s2 k2 hl2 => ?_)
        have hne : (e == a) = false := by simp; omega
        rw [hne]
        refine wpAny_pure ⟨plainId_quiet plain_pat_loop _, ?_⟩
        have hl' : (acc1 ++ [(rp, tr)]).map (·.1) ++ subP x.cps rp nx fuel e = acc.map (·.1) ++ ((if done < a then [⟨x.cps.extract done a⟩] else []) ++ (rp :: subP x.cps rp nx fuel e)) := by
          rw [List.map_append, hmap]; simp
        refine ih e (n + 1) s2 (acc1 ++ [(rp, tr)]) (c1 + 1) (by omega) n3 (by rw [List.length_append]; simp; omega) ((k1.trans k2).base hg hgl) hl2 ?_ ?_
        · rw [hl']; exact hsum
        · rw [hl']; exact fun s' t' k3 => hR s' t' ((k1.trans k2).trans k3)
      by_cases hda : done < a
      · rw [if_pos (by exact hda)]
        refine wpAny_bind (slice_go hsz ?_)
        refine wpAny_bind (push_str (s := { s with toks := s.toks + 1 }) hl (by omega) fun s1 k1 hl1 => ?_)
        refine tail s1 _ _ ((KpL.tok l s _).trans k1) hl1 (by rw [List.length_append]; simp; omega) ?_
        rw [List.map_append, if_pos hda]; rfl
      · rw [if_neg (by exact hda)]
        exact tail s acc c (KpL.refl l s) hl (by omega) (by rw [if_neg hda]; simp)
    | none =>
      have hsub : subP x.cps rp nx (fuel + 1) done = if done < x.cps.size then [⟨x.cps.extract done x.cps.size⟩] else [] := by
        show (match nx done with | some (a, e) => _ | none => _) = _
        rw [hx]
      rw [hsub] at hsum hR
      refine wpAny_bind (run_end (N.no done hd hx) (by decide) fun m hm => .inr ⟨hm, ?_⟩)
      simp only
      have tail : ∀ (s1 : Shared) (acc1 : List (Str × Tok)) (c1 : Nat), KpL l s s1 → s1.heap.get? l = some (seqO "list" (strValues acc1) c1) → acc1.length ≤ 2 * done + 1 → acc1.map (·.1) = acc.map (·.1) ++ (if done < x.cps.size then [⟨x.cps.extract done x.cps.size⟩] else []) →
          wpAny (model prog w) A.in1 (do
            let joiner ← reSlice x.cps 0 0 0
            let it ← seqItems? (Value.ref l)
            if (it.getD #[]).isEmpty = true then do
              let text ← pure joiner
              if false = true then do
                let p ← holding [text] do
                  let i ← mkInt (n : Int)
                  newTuple [text, i]
                ret p
              else ret text
            else do
              let text ← call (Value.builtin (if ((0 : Nat) == 0) = true then "str.join" else "bytes.join")) [joiner, Value.ref l]
              if false = true then do
                let p ← holding [text] do
                  let i ← mkInt (n : Int)
                  newTuple [text, i]
                ret p
              else ret text)
          (fun fin s' => match fin with | .done f => R (.ok f) s' | .again c' => c'.quiet = true ∧ codeAny (model prog w) A c' R s') (fun e s' => R (.error e) s') s1 := by
        intro s1 acc1 c1 k1 hl1 hlen1 hmap
        refine wpAny_bind (slice_go hsz ?_)
        refine wpAny_bind (wpAny_seqItems (s := { s1 with toks := s1.toks + 1 }) hl1 rfl ?_)
        rw [ex0]
        cases hacc1 : acc1 with
        | nil =>
          rw [if_pos (by rfl)]
          refine wpAny_bind (wpAny_pure ?_)
          rw [if_neg (by decide)]
          rw [hacc1] at hmap
          refine wpAny_pure ?_
          have := hR { s1 with toks := s1.toks + 1 } s1.toks (k1.trans (KpL.tok l s1 _))
          rw [← hmap] at this
          exact this
        | cons p r =>
          rw [if_neg (by unfold strValues; simp)]
          have hs2 : (((acc1.map (·.1)).map (·.length)).sum + (acc1.map (·.1)).length * (⟨#[]⟩ : Str).length ≤ 2 ^ 20) := by
            have : (⟨#[]⟩ : Str).length = 0 := rfl
            rw [this, hmap]; simpa using hsum
          refine wpAny_bind (join_sound (O := fun _ => False) (s := { s1 with toks := s1.toks + 1 }) (strsD_strs (acc1.map (·.1))) hs2 (.of (.str _ _)) (.of (.lst (fun q => q) hl1 (strVals_rd _ _ acc1))) _ _ fun v s2 k2 r2 => ?_)
          cases r2
          rw [if_neg (by decide)]
          refine wpAny_pure ?_
          rw [hmap]
          refine hR s2 _ (k1.trans ((KpL.tok l s1 (s1.toks + 1)).trans ?_))
          obtain ⟨h2, tk2, rfl, kp2⟩ := k2
          exact ⟨h2, tk2, rfl, fun b o _ e => kp2 b o e⟩
      by_cases hda : done < x.cps.size
      · rw [if_pos (by exact hda)]
        refine wpAny_bind (slice_go hsz ?_)
        refine wpAny_bind (push_str (s := { s with toks := s.toks + 1 }) hl (by omega) fun s1 k1 hl1 => ?_)
        refine tail s1 _ _ ((KpL.tok l s _).trans k1) hl1 (by rw [List.length_append]; simp; omega) ?_
        rw [List.map_append, if_pos hda]; rfl
      · rw [if_neg (by exact hda)]
        exact tail s acc c (KpL.refl l s) hl (by omega) (by rw [if_neg hda]; simp)
end
end Mine
end

section
open PySem PySem.W PyProof.Rows
open PySem.Sre PySem.Builtin PySem.Builtin.Re
set_option Elab.async false
namespace Mine
set_option maxRecDepth 100000
set_option linter.unusedVariables false

theorem str_no_call : typeLookup (.type "str") "__call__" = pure none := by rw [typeLookup_type, builtinLookup_eq_fast]; kernel_rfl

section
variable {prog : Program} {w : World} {A : Around} {O : OSet} {s : Shared}
theorem named_sub (r x : Value) : reNamed "re.Pattern.sub" "sub" ["repl", "string", "count"] 2 [r, x] [] = pure [some r, some x, none] := rfl

theorem sub_sound {pa : Addr} {x rp : Str} {t tr : Tok} {code : Array Nat} {nx : Nat → Option (Nat × Nat)} (N : Nxt code x.cps nx) (hsz : x.cps.size ≤ 2 ^ 20) (P : IsPat s.heap pa code) (hrp : rp.cps.contains 92 = false)
    (hsum : ((subP x.cps rp nx (x.cps.size + 1) 0).map (·.length)).sum ≤ 2 ^ 20) :
    Gv (model prog w) A (call (.builtin "re.Pattern.sub") [.ref pa, .str rp tr, .str x t]) O (.str (Txt.join ⟨#[]⟩ (subP x.cps rp nx (x.cps.size + 1) 0))) s := by
  intro Q E hq
  have hT : s.TypeIs (.ref pa) "re.Pattern" := by
    obtain ⟨px, t1, fl, t2, ca, oc, items, n, h1, _⟩ := P.ex
    exact ⟨_, h1, rfl⟩
  refine wpAny_call (codeAny_call_builtin plain_pat_sub entry_pat_sub (slot_pat_sub.check _ _ _ _ _ _ _ _ hT (args_pat_sub _ _ _) ?_))
  show wpAny _ A.in1 (reSubstitute "re.Pattern.sub" "sub" false ⟨[.ref pa, .str rp tr, .str x t], []⟩) _ _ s
  unfold reSubstitute
  simp only
  rw [named_sub]
  refine wpAny_bind (wpAny_pure ?_)
  refine wpAny_bind (wpAny_pure ?_)
  refine wpAny_bind (wpAny_specialOf_val rfl str_no_call ?_)
  simp only [Option.isSome_none, Bool.false_eq_true, if_false]
  refine wpAny_bind (wpAny_of_eq (show asStr? (.str rp tr) = pure (some rp) from rfl) ?_)
  simp only
  refine wpAny_bind (wpAny_pure ?_)
  rw [if_pos (by rw [hrp]; rfl)]
  refine wpAny_bind (wpAny_pure ?_)
  refine wpAny_bind (wpAny_holding (whole_target P ?_))
  rw [if_neg (by intro q; cases q)]
  refine wpAny_bind (wpAny_newList ?_ (Nat.zero_le _))
  refine wpAny_pure ⟨plainId_quiet plain_pat_loop _, ?_⟩
  have hgl : s.heap.get? s.heap.objs.size = none := none_of_le (Nat.le_refl _)
  refine loop_sound (g := s.heap) (l := s.heap.objs.size) N hsz P hgl (x.cps.size + 1) 0 0 _ [] 0 (by omega) (Nat.zero_le _) (Nat.zero_le _) (Kp.push _ _) (Heap.get?_push_size _ rfl) hsum fun s' t' k => ?_
  refine hq _ s' ?_ (.str _ _)
  obtain ⟨h', tk, rfl, kp⟩ := k
  refine ⟨h', tk, rfl, fun b o e => kp b o (fun q => ?_) (Kp.push _ _ b o e)⟩
  rw [q, hgl] at e; cases e
end
end Mine
end

section
open PySem PySem.W PyProof.Rows
open PySem.Sre PySem.Builtin PySem.Builtin.Re
set_option Elab.async false
namespace Mine
set_option maxRecDepth 100000
set_option linter.unusedVariables false

theorem join0 (parts : List Str) : (Txt.join ⟨#[]⟩ parts).cps.toList = parts.flatMap (fun p => p.cps.toList) := by
  show (PySem.Builtin.Str.glued ⟨#[]⟩ parts).cps.toList = _
  unfold PySem.Builtin.Str.glued
  have fold : ∀ (l : List Str) (acc : Array Nat), (l.foldl (fun acc p => acc ++ (⟨#[]⟩ : Str).cps ++ p.cps) acc).toList = acc.toList ++ l.flatMap (fun p => p.cps.toList) := by
    intro l
    induction l with
    | nil => intro acc; simp
    | cons x l ih => intro acc; rw [List.foldl_cons, ih]; simp
  cases parts with
  | nil => rfl
  | cons x l => show (l.foldl _ x.cps).toList = _; rw [fold]; simp

noncomputable def nrmB : Bool → List Nat → List Nat
  | _, [] => []
  | b, c :: r => if c = 13 then 13 :: 10 :: nrmB true r else if c = 10 then (if b then nrmB false r else 13 :: 10 :: nrmB false r) else c :: nrmB false r
noncomputable abbrev nrm (l : List Nat) : List Nat := nrmB false l
noncomputable def dbl : Bool → List Nat → List Nat
  | _, [] => []
  | b, c :: r => if (b && c == 46) = true then 46 :: 46 :: dbl false r else c :: dbl (c == 10) r

noncomputable def fnd2 : List Nat → Nat → Option (Nat × Nat)
  | [], _ => none
  | c :: r, p => if c = 13 then (match r with
      | 10 :: _ => some (p, p + 2)
      | _ => some (p, p + 1)) else if c = 10 then some (p, p + 1) else fnd2 r (p + 1)
noncomputable def fnd1 : Bool → List Nat → Nat → Option (Nat × Nat)
  | _, [], _ => none
  | b, c :: r, p => if (b && c == 46) = true then some (p, p + 1) else fnd1 (c == 10) r (p + 1)
noncomputable def bol (l : List Nat) (p : Nat) : Bool := p == 0 || l.getD (p - 1) 0 == 10

theorem getD_arr (l : List Nat) (i : Nat) : l.toArray.getD i 0 = l.getD i 0 := by
  simp [Array.getD_eq_getD_getElem?, List.getD_eq_getElem?_getD]

theorem drop_split {l : List Nat} {p : Nat} (h : p < l.length) : l.drop p = l.getD p 0 :: l.drop (p + 1) := by
  rw [List.drop_eq_getElem_cons h]
  congr 1
  simp [List.getD_eq_getElem?_getD, h]

theorem one1 (l : List Nat) : ∀ (k p : Nat), l.length - p = k → p ≤ l.length →
    match fnd1 (bol l p) (l.drop p) p with
    | some (a, e) => p ≤ a ∧ e = a + 1 ∧ hit1 l.toArray l.length a ∧ (∀ i, p ≤ i → i < a → ¬ hit1 l.toArray l.length i) ∧ dbl (bol l p) (l.drop p) = (l.drop p).take (a - p) ++ 46 :: 46 :: dbl (bol l e) (l.drop e)
    | none => (∀ i, p ≤ i → ¬ hit1 l.toArray l.length i) ∧ dbl (bol l p) (l.drop p) = l.drop p
  | 0, p, hk, hp => by
    have : p = l.length := by omega
    subst this
    rw [List.drop_length]
    simp only [fnd1]
    refine ⟨fun i hi h => ?_, rfl⟩
    have := h.2.1; omega
  | k + 1, p, hk, hp => by
    have hlt : p < l.length := by omega
    have ih := one1 l k (p + 1) (by omega) hlt
    have hb : bol l (p + 1) = (l.getD p 0 == 10) := by unfold bol; simp
    rw [hb] at ih
    rw [drop_split hlt]
    have hh : hit1 l.toArray l.length p ↔ (bol l p && l.getD p 0 == 46) = true := by
      unfold hit1 bol
      rw [getD_arr, getD_arr, Bool.and_eq_true, Bool.or_eq_true]
      simp only [beq_iff_eq]
      constructor
      · rintro ⟨a, b, c⟩; exact ⟨a, c⟩
      · rintro ⟨a, c⟩; exact ⟨a, hlt, c⟩
    by_cases hc : (bol l p && l.getD p 0 == 46) = true
    · simp only [fnd1, dbl]
      rw [if_pos hc, if_pos hc]
      refine ⟨Nat.le_refl _, rfl, hh.mpr hc, fun i h1 h2 => by omega, ?_⟩
      rw [Nat.sub_self, List.take_zero, List.nil_append]
      have : bol l (p + 1) = false := by
        rw [hb]
        rw [Bool.and_eq_true] at hc
        have := hc.2
        simp only [beq_iff_eq] at this
        rw [this]; rfl
      rw [this]
    · simp only [fnd1, dbl]
      rw [if_neg hc, if_neg hc]
      cases hf : fnd1 (l.getD p 0 == 10) (l.drop (p + 1)) (p + 1) with
      | some ae =>
        obtain ⟨a, e⟩ := ae
        rw [hf] at ih
        obtain ⟨i1, i2, i3, i4, i5⟩ := ih
        refine ⟨by omega, i2, i3, fun i h1 h2 => ?_, ?_⟩
        · by_cases hip : i = p
          · subst hip; exact fun q => hc (hh.mp q)
          · exact i4 i (by omega) h2
        · have e1 : a - p = (a - (p + 1)) + 1 := by omega
          rw [e1, List.take_succ_cons, i5]; rfl
      | none =>
        rw [hf] at ih
        obtain ⟨i1, i2⟩ := ih
        refine ⟨fun i h1 => ?_, ?_⟩
        · by_cases hip : i = p
          · subst hip; exact fun q => hc (hh.mp q)
          · exact i1 i (by omega)
        · rw [i2]

theorem fnd2_cr {r : List Nat} {p : Nat} (h : r.head? ≠ some 10) : fnd2 (13 :: r) p = some (p, p + 1) := by
  simp only [fnd2, if_true]
  split
  · rename_i r'; exact absurd rfl h
  · rfl
theorem fnd2_crlf {r : List Nat} {p : Nat} : fnd2 (13 :: 10 :: r) p = some (p, p + 2) := rfl
theorem nrmB_head {r : List Nat} (h : r.head? ≠ some 10) : nrmB true r = nrmB false r := by
  cases r with
  | nil => rfl
  | cons c r =>
    have : c ≠ 10 := fun q => h (by rw [q]; rfl)
    simp only [nrmB, if_neg this]

theorem two2 (l : List Nat) : ∀ (k p : Nat), l.length - p = k → p ≤ l.length →
    match fnd2 (l.drop p) p with
    | some (a, e) => p ≤ a ∧ a < e ∧ e ≤ l.length ∧ (l.getD a 0 = 10 ∨ l.getD a 0 = 13) ∧ (∀ i, p ≤ i → i < a → l.getD i 0 ≠ 10 ∧ l.getD i 0 ≠ 13) ∧ nrm (l.drop p) = (l.drop p).take (a - p) ++ 13 :: 10 :: nrm (l.drop e) ∧
        ((l.getD a 0 = 13 ∧ a + 1 < l.length ∧ l.getD (a + 1) 0 = 10 ∧ e = a + 2) ∨ (l.getD a 0 = 10 ∧ e = a + 1) ∨ (l.getD a 0 = 13 ∧ (l.length ≤ a + 1 ∨ l.getD (a + 1) 0 ≠ 10) ∧ e = a + 1))
    | none => (∀ i, p ≤ i → i < l.length → l.getD i 0 ≠ 10 ∧ l.getD i 0 ≠ 13) ∧ nrm (l.drop p) = l.drop p
  | 0, p, hk, hp => by
    have : p = l.length := by omega
    subst this
    rw [List.drop_length]
    simp only [fnd2]
    refine ⟨fun i hi h => ?_, rfl⟩
    omega
  | k + 1, p, hk, hp => by
    have hlt : p < l.length := by omega
    have ih := two2 l k (p + 1) (by omega) hlt
    rw [drop_split hlt]
    by_cases h13 : l.getD p 0 = 13
    · have hnr : nrm (l.getD p 0 :: l.drop (p + 1)) = 13 :: 10 :: nrmB true (l.drop (p + 1)) := by
        show nrmB false _ = _
        rw [nrmB, if_pos h13]
      by_cases hn : p + 1 < l.length ∧ l.getD (p + 1) 0 = 10
      · have e2 : l.drop (p + 1) = 10 :: l.drop (p + 2) := by rw [drop_split hn.1, hn.2]
        have e3 : nrmB true (l.drop (p + 1)) = nrm (l.drop (p + 2)) := by rw [e2]; rfl
        have hf : fnd2 (l.getD p 0 :: l.drop (p + 1)) p = some (p, p + 2) := by rw [e2, h13]; rfl
        rw [hf]
        refine ⟨Nat.le_refl _, by omega, by omega, .inr h13, fun i h1 h2 => by omega, ?_, .inl ⟨h13, hn.1, hn.2, rfl⟩⟩
        rw [hnr, e3, Nat.sub_self, List.take_zero, List.nil_append]
      · have hno : l.length ≤ p + 1 ∨ l.getD (p + 1) 0 ≠ 10 := by
          by_cases q : l.length ≤ p + 1
          · exact .inl q
          · exact .inr fun q' => hn ⟨by omega, q'⟩
        have hh : (l.drop (p + 1)).head? ≠ some 10 := by
          by_cases q2 : l.length ≤ p + 1
          · rw [List.drop_eq_nil_of_le q2]; simp
          · rw [drop_split (by omega : p + 1 < l.length)]
            intro q
            exact hno.resolve_left q2 (Option.some.inj q)
        have key : fnd2 (l.getD p 0 :: l.drop (p + 1)) p = some (p, p + 1) ∧ nrmB true (l.drop (p + 1)) = nrm (l.drop (p + 1)) := ⟨by rw [h13]; exact fnd2_cr hh, nrmB_head hh⟩
        rw [key.1]
        refine ⟨Nat.le_refl _, by omega, by omega, .inr h13, fun i h1 h2 => by omega, ?_, .inr (.inr ⟨h13, hno, rfl⟩)⟩
        rw [hnr, key.2, Nat.sub_self, List.take_zero, List.nil_append]
    · by_cases h10 : l.getD p 0 = 10
      · have hf : fnd2 (l.getD p 0 :: l.drop (p + 1)) p = some (p, p + 1) := by rw [h10]; rfl
        have hnr : nrm (l.getD p 0 :: l.drop (p + 1)) = 13 :: 10 :: nrm (l.drop (p + 1)) := by rw [h10]; rfl
        rw [hf]
        refine ⟨Nat.le_refl _, by omega, by omega, .inl h10, fun i h1 h2 => by omega, ?_, .inr (.inl ⟨h10, rfl⟩)⟩
        rw [hnr, Nat.sub_self, List.take_zero, List.nil_append]
      · have hf0 : fnd2 (l.getD p 0 :: l.drop (p + 1)) p = fnd2 (l.drop (p + 1)) (p + 1) := by
          have gen : ∀ (c : Nat) (r : List Nat) (q : Nat), c ≠ 13 → c ≠ 10 → fnd2 (c :: r) q = fnd2 r (q + 1) := by
            intro c r q h1 h2
            show (if c = 13 then _ else if c = 10 then _ else fnd2 r (q + 1)) = _
            rw [if_neg h1, if_neg h2]
          exact gen _ _ _ h13 h10
        have hnr : nrm (l.getD p 0 :: l.drop (p + 1)) = l.getD p 0 :: nrm (l.drop (p + 1)) := by
          show nrmB false _ = _
          rw [nrmB, if_neg h13, if_neg h10]
        rw [hf0, hnr]
        cases hf : fnd2 (l.drop (p + 1)) (p + 1) with
        | some ae =>
          obtain ⟨a, e⟩ := ae
          rw [hf] at ih
          obtain ⟨i1, i2, i3, i4, i5, i6, i7⟩ := ih
          refine ⟨by omega, i2, i3, i4, fun i h1 h2 => ?_, ?_, i7⟩
          · by_cases hip : i = p
            · subst hip; exact ⟨h10, h13⟩
            · exact i5 i (by omega) h2
          · have e1 : a - p = (a - (p + 1)) + 1 := by omega
            rw [e1, List.take_succ_cons, i6]; rfl
        | none =>
          rw [hf] at ih
          obtain ⟨i1, i2⟩ := ih
          refine ⟨fun i h1 h2 => ?_, ?_⟩
          · by_cases hip : i = p
            · subst hip; exact ⟨h10, h13⟩
            · exact i1 i (by omega) h2
          · rw [i2]

noncomputable def nx1 (l : List Nat) (st : Nat) : Option (Nat × Nat) := fnd1 (bol l st) (l.drop st) st
noncomputable def nx2 (l : List Nat) (st : Nat) : Option (Nat × Nat) := fnd2 (l.drop st) st

theorem nxt1 (l : List Nat) (hl : l.length ≤ 2 ^ 20) : Nxt code1 l.toArray (nx1 l) := by
  have hs : l.toArray.size = l.length := List.size_toArray ..
  constructor
  · intro st a e hst hx
    rw [hs] at hst ⊢
    have h := one1 l _ st rfl hst
    unfold nx1 at hx
    rw [hx] at h
    obtain ⟨h1, h2, h3, h4, _⟩ := h
    subst h2
    have ha := h3.2.1
    refine ⟨h1, by omega, by omega, ?_⟩
    rw [search1 _ _ _ (by omega)]
    exact (found1 (a - st) (by omega) h3 h4).mono (by omega)
  · intro st hst hx
    rw [hs] at hst ⊢
    have h := one1 l _ st rfl hst
    unfold nx1 at hx
    rw [hx] at h
    by_cases he : st = l.length
    · exact (search1_end _ _ _ (by omega)).mono (by omega)
    · rw [search1 _ _ _ (by omega)]
      exact (none1 (l.length - st) (by omega) h.1).mono (by omega)
theorem nxt2 (l : List Nat) (hl : l.length ≤ 2 ^ 20) : Nxt code2 l.toArray (nx2 l) := by
  have hs : l.toArray.size = l.length := List.size_toArray ..
  constructor
  · intro st a e hst hx
    rw [hs] at hst ⊢
    have h := two2 l _ st rfl hst
    unfold nx2 at hx
    rw [hx] at h
    obtain ⟨h1, h2, h3, h4, h5, _, h7⟩ := h
    refine ⟨h1, h2, h3, ?_⟩
    refine (found2 (e := e) h1 (by omega) (by rw [getD_arr]; exact h4) (fun i p q => by rw [getD_arr]; exact h5 i p q) fun sn => ?_).mono (by omega)
    rcases h7 with ⟨q1, q2, q3, rfl⟩ | ⟨q1, rfl⟩ | ⟨q1, q2, rfl⟩
    · exact turn2_crlf (by omega) (by rw [getD_arr]; exact q1) q2 (by rw [getD_arr]; exact q3)
    · exact turn2_lf (by omega) (by rw [getD_arr]; exact q1)
    · exact turn2_cr (by omega) (by rw [getD_arr]; exact q1) (by rw [getD_arr]; exact q2)
  · intro st hst hx
    rw [hs] at hst ⊢
    have h := two2 l _ st rfl hst
    unfold nx2 at hx
    rw [hx] at h
    exact (none2 (fun i p q => by rw [getD_arr]; exact h.1 i p q)).mono (by omega)

theorem extract_list (l : List Nat) (a b : Nat) : (l.toArray.extract a b).toList = (l.drop a).take (b - a) := by
  simp

theorem parts1 (l : List Nat) (rp : Str) (hr : rp.cps.toList = [46, 46]) : ∀ (f p : Nat), l.length - p < f → p ≤ l.length → (subP l.toArray rp (nx1 l) f p).flatMap (fun q => q.cps.toList) = dbl (bol l p) (l.drop p)
  | 0, p, h, _ => absurd h (Nat.not_lt_zero _)
  | f + 1, p, h, hp => by
    have hs : l.toArray.size = l.length := List.size_toArray ..
    have o := one1 l _ p rfl hp
    have hd : subP l.toArray rp (nx1 l) (f + 1) p = match nx1 l p with
        | some (a, e) => (if p < a then [⟨l.toArray.extract p a⟩] else []) ++ (rp :: subP l.toArray rp (nx1 l) f e)
        | none => if p < l.toArray.size then [⟨l.toArray.extract p l.toArray.size⟩] else [] := rfl
    rw [hd]
    cases hx : nx1 l p with
    | some ae =>
      obtain ⟨a, e⟩ := ae
      have hx' : fnd1 (bol l p) (l.drop p) p = some (a, e) := hx
      rw [hx'] at o
      obtain ⟨h1, h2, h3, h4, h5⟩ := o
      subst h2
      have ha := h3.2.1
      simp only
      rw [h5, List.flatMap_append, List.flatMap_cons, parts1 l rp hr f (a + 1) (by omega) (by omega), hr]
      congr 1
      by_cases q : p < a
      · rw [if_pos q]; simp [extract_list]
      · rw [if_neg q]
        have : a - p = 0 := Nat.sub_eq_zero_of_le (Nat.not_lt.mp q)
        rw [this]; simp
    | none =>
      have hx' : fnd1 (bol l p) (l.drop p) p = none := hx
      rw [hx'] at o
      simp only
      rw [o.2, hs]
      by_cases q : p < l.length
      · rw [if_pos q]
        have : (l.drop p).take (l.length - p) = l.drop p := List.take_of_length_le (by rw [List.length_drop]; omega)
        simp only [List.flatMap_cons, List.flatMap_nil, List.append_nil, extract_list, this]
      · rw [if_neg q]
        have : l.drop p = [] := List.drop_eq_nil_of_le (Nat.not_lt.mp q)
        rw [this]; rfl
theorem parts2 (l : List Nat) (rp : Str) (hr : rp.cps.toList = [13, 10]) : ∀ (f p : Nat), l.length - p < f → p ≤ l.length → (subP l.toArray rp (nx2 l) f p).flatMap (fun q => q.cps.toList) = nrm (l.drop p)
  | 0, p, h, _ => absurd h (Nat.not_lt_zero _)
  | f + 1, p, h, hp => by
    have hs : l.toArray.size = l.length := List.size_toArray ..
    have o := two2 l _ p rfl hp
    have hd : subP l.toArray rp (nx2 l) (f + 1) p = match nx2 l p with
        | some (a, e) => (if p < a then [⟨l.toArray.extract p a⟩] else []) ++ (rp :: subP l.toArray rp (nx2 l) f e)
        | none => if p < l.toArray.size then [⟨l.toArray.extract p l.toArray.size⟩] else [] := rfl
    rw [hd]
    cases hx : nx2 l p with
    | some ae =>
      obtain ⟨a, e⟩ := ae
      have hx' : fnd2 (l.drop p) p = some (a, e) := hx
      rw [hx'] at o
      obtain ⟨h1, h2, h3, h4, h5, h6, h7⟩ := o
      simp only
      have q1 : l.length - e < f := by clear h4 h5 h7; omega
      rw [h6, List.flatMap_append, List.flatMap_cons, parts2 l rp hr f e q1 h3, hr]
      congr 1
      by_cases q : p < a
      · rw [if_pos q]; simp [extract_list]
      · rw [if_neg q]
        have : a - p = 0 := Nat.sub_eq_zero_of_le (Nat.not_lt.mp q)
        rw [this]; simp
    | none =>
      have hx' : fnd2 (l.drop p) p = none := hx
      rw [hx'] at o
      simp only
      rw [o.2, hs]
      by_cases q : p < l.length
      · rw [if_pos q]
        have : (l.drop p).take (l.length - p) = l.drop p := List.take_of_length_le (by rw [List.length_drop]; omega)
        simp only [List.flatMap_cons, List.flatMap_nil, List.append_nil, extract_list, this]
      · rw [if_neg q]
        have : l.drop p = [] := List.drop_eq_nil_of_le (Nat.not_lt.mp q)
        rw [this]; rfl

theorem nrm_length : ∀ (b : Bool) (l : List Nat), (nrmB b l).length ≤ 2 * l.length
  | _, [] => by simp [nrmB]
  | b, c :: r => by
    have h1 := nrm_length true r
    have h2 := nrm_length false r
    simp only [nrmB]
    split
    · simp only [List.length_cons]; omega
    · split
      · split
        · simp only [List.length_cons]; omega
        · simp only [List.length_cons]; omega
      · simp only [List.length_cons]; omega
theorem dbl_length : ∀ (b : Bool) (l : List Nat), (dbl b l).length ≤ 2 * l.length
  | _, [] => by simp [dbl]
  | b, c :: r => by
    simp only [dbl]
    split
    · have := dbl_length false r
      simp only [List.length_cons]; omega
    · have := dbl_length (c == 10) r
      simp only [List.length_cons]; omega
end Mine
end

section
open PySem PySem.W PyProof.Rows
set_option Elab.async false
namespace Mine
set_option maxRecDepth 100000
set_option linter.unusedVariables false
section
variable {prog : Program} {w : World} {mg mb : Str → Option Value} {K : List (Addr × Obj)} {k : Nat} {A : Around} {O : OSet}

theorem fn_enter {a : Addr} {o : Obj} {fd : FuncData} {body : List Stmt} {params own : List Str} (hm : (a, o) ∈ K) (hd : o.data = .func fd) (hbody : fd.body = .stmts body)
    (hcode : ∃ c oc vs t, fd.code = .ref c ∧ (c, oc) ∈ K ∧ oc.data = .fields vs ∧ vs[1]? = some (.str fd.qualname t)) (hclo : fd.closure = []) (hgl : fd.globals = mainGlobals) (hbl : fd.builtins = builtinsNs)
    (hbind : ∀ vals : List Value, vals.length = params.length → bindArgs fd ⟨vals, []⟩ = pure (params.zip vals)) (hco : fd.scope.isCoroutine = false) (hgen : fd.scope.isGenerator = false) (hk : fd.scope.kind = .function)
    (hok : defOk fd.scope params own = true) {s : Shared} {vs : List Value} {ds : List D} (ha : A.depth < recursionLimit) (B : Bs mg mb K s.heap) (al : Alive O s.heap) (r : RdAll O s.heap vs ds) (hlen : ds.length = params.length) {Q : Value → Shared → Prop} {E : Value → Shared → Prop}
    (go : ∀ s1, Ks s s1 → FS s.heap O fd.scope.names (cellN fd.scope) own (params.zip ds) (callEnvC fd s.heap.objs.size a) s1.heap (fun _ => none) → ∀ E', wpAny (model prog w) (A.deeper (callEnvC fd s.heap.objs.size a)) (execs body (callEnvC fd s.heap.objs.size a)) (fun f s' => Q (match f with | .ret v => v | _ => .none) s') E' s1) : wpAny (model prog w) A (call (.ref a) vs) Q E s := by
  · skip
    unfold defOk at hok
    simp only [Bool.and_eq_true, List.all_eq_true, decide_eq_true_eq, Bool.or_eq_true, Bool.not_eq_true'] at hok
    obtain ⟨⟨⟨ok1, ok2⟩, ok3⟩, ok4⟩ := hok
    have hvl : vs.length = params.length := by rw [r.length, hlen]
    obtain ⟨c, oc, fs, t, hc1, hc2, hc3, hc4⟩ := hcode
    have hmz : ∀ x ∈ params.zip vs, x.1 ∈ params := fun x hx => (List.of_mem_zip (a := x.1) (b := x.2) hx).1
    have cellLk : ∀ x m, fd.scope.names.lookup x = some .cell → ((cellsFrom m fd.scope.names []).lookup x).isSome = true := fun x m e => cellsFrom_some x _ _ _ (.inr (lookup_mem' e))
    refine wpAny_call (codeAny_call_cells ha (B.k _ hm) hd B.lim ⟨c, oc, fs, t, hc1, B.k _ hc2, hc3, hc4⟩ hbody (hbind vs hvl) hclo (fun x hx => ?_) (fun s1 X => ?_) hco hgen hk)
    · rcases (ok3 x.1 (hmz x hx)).1 with q | q
      · exact .inl q
      · exact .inr ⟨q, cellLk _ _ q⟩
    · have kp : Kp s.heap s1.heap := X.toInCall.keep
      have nodupZ : ((params.zip vs).map (·.1)).Nodup := by
        rw [List.map_fst_zip]
        · exact ok4
        · omega
      have F0 : FS s.heap O fd.scope.names (cellN fd.scope) own (params.zip ds) (callEnvC fd s.heap.objs.size a) s1.heap (fun _ => none) := by
        refine ⟨kp, ⟨hk, hgl, hbl, ?_, ?_, ?_, ?_⟩, ⟨_, X.toInCall.ns⟩, none_of_le X.toInCall.fresh, ?_, ?_, ?_, ?_, ?_, ?_⟩
        · intro x kd e
          exact ok1 _ (lookup_mem' e)
        · intro x kd e; exact .inl e
        · intro x hx
          unfold cellN at hx
          obtain ⟨y, hy, rfl⟩ := List.mem_map.mp hx
          obtain ⟨hy1, hy2⟩ := List.mem_filter.mp hy
          have e := ok2 y hy1 (of_decide_eq_true hy2)
          exact ⟨.inl e, Option.isSome_iff_exists.mp (cellLk _ _ e)⟩
        · intro x d' hx
          obtain ⟨v, hv, rv⟩ := zip_rd r hx
          have hxp := zip_mem hx
          obtain ⟨q1, q2⟩ := bind_on (callEnvC fd s.heap.objs.size a).kindOf x v (params.zip vs) (fun _ => none) (fun _ => none) nodupZ hv
          refine ⟨v, ?_, ?_⟩
          · rcases (ok3 x hxp).1 with q | q
            · exact .inl ⟨q, _, X.toInCall.ns, q1 q⟩
            · obtain ⟨c, hc⟩ := Option.isSome_iff_exists.mp (cellLk x (s.heap.objs.size + 1) q)
              have hnl : (callEnvC fd s.heap.objs.size a).kindOf x ≠ some .local := by
                show fd.scope.names.lookup x ≠ _
                rw [q]; decide
              exact .inr ⟨.inl q, c, hc, (q2 hnl) ▸ X.cell x c hc⟩
          · unfold RdO
            rw [(ok3 x hxp).2]
            simp only [Bool.false_eq_true, if_false]
            rw [hid_none]; exact rv.kp kp
        · intro x c e
          exact ⟨_, X.cell x c e⟩
        · intro x c e
          refine none_of_le ?_
          exact Nat.le_of_lt (Nat.lt_of_le_of_lt X.toInCall.fresh (X.above x c (mem_of_lookup e)))
        · intro x y c e e'
          exact name_of_addr X.apart (mem_of_lookup e) (mem_of_lookup e')
        · intro x a e; cases e
        · intro x y a e; cases e
        · intro x d' hx e
          rw [(ok3 x (zip_mem e)).2] at hx; cases hx
      obtain ⟨h1, t1, e1⟩ := X.toInCall.same
      refine go s1 ⟨s1.heap, s1.toks, by rw [e1], kp⟩ F0 _
end

noncomputable def quoteD : List D → Option D
  | [.str x] => if x.cps.size ≤ 2 ^ 16 then some (.str ⟨(dbl true (nrm x.cps.toList)).toArray⟩) else none
  | _ => none

theorem sum_len (parts : List Str) : (parts.map (·.length)).sum = (parts.flatMap (fun q => q.cps.toList)).length := by
  induction parts with
  | nil => rfl
  | cons x l ih =>
    rw [List.map_cons, List.sum_cons, List.flatMap_cons, List.length_append, ih]
    have : x.length = x.cps.toList.length := by show x.cps.size = _; simp
    rw [this]

section
variable {prog : Program} {w : World} {A : Around} {O : OSet} {s : Shared}
theorem sub2_sound {pa : Addr} {x rp : Str} {t tr : Tok} (hsz : x.cps.size ≤ 2 ^ 18) (P : IsPat s.heap pa code2) (hr : rp.cps.toList = [13, 10]) :
    Gv (model prog w) A (call (.builtin "re.Pattern.sub") [.ref pa, .str rp tr, .str x t]) O (.str ⟨(nrm x.cps.toList).toArray⟩) s := by
  have hx : x.cps.toList.toArray = x.cps := by simp
  have hl : x.cps.toList.length = x.cps.size := by simp
  have e : (subP x.cps rp (nx2 x.cps.toList) (x.cps.size + 1) 0).flatMap (fun q => q.cps.toList) = nrm x.cps.toList := by
    have := parts2 x.cps.toList rp hr (x.cps.size + 1) 0 (by omega) (Nat.zero_le _)
    rw [hx] at this
    exact this
  have N := nxt2 x.cps.toList (by omega)
  rw [hx] at N
  have hn : (nrm x.cps.toList).length ≤ _ := nrm_length false x.cps.toList
  have h92 : rp.cps.contains 92 = false := by
    have : rp.cps = #[13, 10] := by rw [← Array.toArray_toList (xs := rp.cps), hr]
    rw [this]; simp
  have := sub_sound (prog := prog) (w := w) (A := A) (O := O) (t := t) (tr := tr) N (by omega) P h92 (by rw [sum_len, e]; omega)
  have e2 : Txt.join ⟨#[]⟩ (subP x.cps rp (nx2 x.cps.toList) (x.cps.size + 1) 0) = ⟨(nrm x.cps.toList).toArray⟩ := by
    have := join0 (subP x.cps rp (nx2 x.cps.toList) (x.cps.size + 1) 0)
    rw [e] at this
    rw [← this]
  rw [e2] at this
  exact this
theorem sub1_sound {pa : Addr} {x rp : Str} {t tr : Tok} (hsz : x.cps.size ≤ 2 ^ 18) (P : IsPat s.heap pa code1) (hr : rp.cps.toList = [46, 46]) :
    Gv (model prog w) A (call (.builtin "re.Pattern.sub") [.ref pa, .str rp tr, .str x t]) O (.str ⟨(dbl true x.cps.toList).toArray⟩) s := by
  have hx : x.cps.toList.toArray = x.cps := by simp
  have hl : x.cps.toList.length = x.cps.size := by simp
  have e : (subP x.cps rp (nx1 x.cps.toList) (x.cps.size + 1) 0).flatMap (fun q => q.cps.toList) = dbl true x.cps.toList := by
    have := parts1 x.cps.toList rp hr (x.cps.size + 1) 0 (by omega) (Nat.zero_le _)
    rw [hx] at this
    exact this
  have N := nxt1 x.cps.toList (by omega)
  rw [hx] at N
  have hn := dbl_length true x.cps.toList
  have h92 : rp.cps.contains 92 = false := by
    have : rp.cps = #[46, 46] := by rw [← Array.toArray_toList (xs := rp.cps), hr]
    rw [this]; simp
  have := sub_sound (prog := prog) (w := w) (A := A) (O := O) (t := t) (tr := tr) N (by omega) P h92 (by rw [sum_len, e]; omega)
  have e2 : Txt.join ⟨#[]⟩ (subP x.cps rp (nx1 x.cps.toList) (x.cps.size + 1) 0) = ⟨(dbl true x.cps.toList).toArray⟩ := by
    have := join0 (subP x.cps rp (nx1 x.cps.toList) (x.cps.size + 1) 0)
    rw [e] at this
    rw [← this]
  rw [e2] at this
  exact this
end

section
variable {prog : Program} {w : World} {mg mb : Str → Option Value} {K : List (Addr × Obj)}
theorem args2 {A : Around} {s : Shared} {env : Env} {f : Value} {pos : Pos} {e1 e2 : PySem.Expr} {Q : Args → Shared → Prop} {E : Value → Shared → Prop} (h1 : isStar e1 = false) (h2 : isStar e2 = false)
    (h : wpAny (model prog w) A (eval e1 env) (fun v1 s1 => wpAny (model prog w) A (eval e2 env) (fun v2 s2 => Q ⟨[v1, v2], []⟩ s2) E s1) E s) : wpAny (model prog w) A (evalArgs f true (backTo pos (starEach [e1, e2] env)) []) Q E s := by
  have hs : wpAny (model prog w) A (spliced (backTo pos (starEach [e1, e2] env))) (fun vs s' => Q ⟨vs, []⟩ s') E s := by
    refine wpAny_items_cons (wpAny_mono h (fun v1 s1 q => ?_) fun _ _ x => x) (star_each h1 _)
    refine wpAny_items_cons (wpAny_mono q (fun v2 s2 q => ?_) fun _ _ x => x) (star_each h2 _)
    exact wpAny_items_nil q
  rw [star_each h1] at hs ⊢
  exact Calls.evalArgs_plain hs
theorem quote_sound {a pa1 pa2 : Addr} {o : Obj} {fd : FuncData} {crlf dots : Str} {tc : Tok} {p1 p2 p3 p4 p5 p6 p7 p8 p9 q1 : Pos} {kk : Nat} (hm : (a, o) ∈ K) (hd : o.data = .func fd)
    (hbody : fd.body = .stmts [.Return (some (.Call (.Attribute (.Name (Str.ofString "_twin_re_1") p1) (Str.ofString "sub") p2) [.Constant (.str dots) kk p3, .Call (.Attribute (.Name (Str.ofString "_twin_re_2") p4) (Str.ofString "sub") p5) [.Name (Str.ofString "CRLF") p6, .Name (Str.ofString "data") p7] [] p8] [] p9)) q1])
    (hcode : ∃ c oc vs t, fd.code = .ref c ∧ (c, oc) ∈ K ∧ oc.data = .fields vs ∧ vs[1]? = some (.str fd.qualname t)) (hclo : fd.closure = []) (hgl : fd.globals = mainGlobals) (hbl : fd.builtins = builtinsNs)
    (hbind : ∀ vals : List Value, vals.length = [Str.ofString "data"].length → bindArgs fd ⟨vals, []⟩ = pure ([(Str.ofString "data")].zip vals)) (hco : fd.scope.isCoroutine = false) (hgen : fd.scope.isGenerator = false) (hk : fd.scope.kind = .function)
    (hok : defOk fd.scope [(Str.ofString "data")] [] = true)
    (hl1 : (p2.endLine == p9.line) = true) (hl2 : (p5.endLine == p8.line) = true)
    (hn1 : fd.scope.names.lookup (Str.ofString "_twin_re_1") = some .globalImplicit) (hn2 : fd.scope.names.lookup (Str.ofString "_twin_re_2") = some .globalImplicit) (hn3 : fd.scope.names.lookup (Str.ofString "CRLF") = some .globalImplicit)
    (hg1 : mg (Str.ofString "_twin_re_1") = some (.ref pa1)) (hg2 : mg (Str.ofString "_twin_re_2") = some (.ref pa2)) (hg3 : mg (Str.ofString "CRLF") = some (.str crlf tc))
    (hP1 : ∀ h, Bs mg mb K h → IsPat h pa1 code1) (hP2 : ∀ h, Bs mg mb K h → IsPat h pa2 code2) (hc : crlf.cps.toList = [13, 10]) (hdots : dots.cps.toList = [46, 46]) : FnC prog w mg mb K 1 a quoteD := by
  intro A O s vs ds d ha B al r hF Q E hq
  unfold quoteD at hF
  split at hF
  · rename_i x
    split at hF
    · rename_i hsz
      cases hF
      refine fn_enter (own := []) (params := [Str.ofString "data"]) hm hd hbody hcode hclo hgl hbl hbind hco hgen hk hok (by have := ha.dp; omega) B al r rfl fun s1 k1 F E' => ?_
      have pat : ∀ {h : Heap} {pa : Addr} {code : Array Nat}, IsPat h pa code → ∃ ob : Obj, h.get? pa = some ob ∧ ob.cls = .type "re.Pattern" ∧ ob.dict = none := by
        intro h pa code P
        obtain ⟨px, t1, fl, t2, ca, oc, items, n, h1, _⟩ := P.ex
        exact ⟨_, h1, rfl, rfl⟩
      have B1 := B.kp k1.kp
      obtain ⟨o1, g1, c1, d1⟩ := pat (hP1 _ B1)
      obtain ⟨o2, g2, c2, d2⟩ := pat (hP2 _ B1)
      refine wpAny_execs_cons (wpAny_Return_some ?_)
      refine wpAny_Call_method rfl rfl hl1 plainAttrs_pat slot_pat_sub type_pat_sub (name_glob (gv := .val .none) B1 F.X hn1 hg1 ⟨⟨o1, g1, c1⟩, fun c e => by cases e; exact ⟨o1, g1, d1⟩, ?_⟩)
      refine Calls.callWith_builtin rfl (args2 rfl rfl ?_)
      refine wpAny_Constant_str ?_
      have ks2 : Ks s1 { s1 with toks := s1.toks + 1 } := Ks.toks s1 _
      have B2 := B1.kp ks2.kp
      refine wpAny_Call_method rfl rfl hl2 plainAttrs_pat slot_pat_sub type_pat_sub (name_glob (s := { s1 with toks := s1.toks + 1 }) (gv := .val .none) B2 F.X hn2 hg2 ⟨⟨o2, g2, c2⟩, fun c e => by cases e; exact ⟨o2, g2, d2⟩, ?_⟩)
      refine Calls.callWith_builtin rfl (args2 rfl rfl ?_)
      refine name_glob (s := { s1 with toks := s1.toks + 1 }) (gv := .val .none) B2 F.X hn3 hg3 ?_
      obtain ⟨v, rv, go⟩ := EnvOK.load (s := { s1 with toks := s1.toks + 1 }) (prog := prog) (w := w) (A := A.deeper (callEnvC fd s.heap.objs.size a)) (p := p7) (x := Str.ofString "data") (d := .str x) F.X rfl
      refine go _ _ ?_
      obtain ⟨t, rfl⟩ := rv.t.str'
      show wpAny _ _ (call (.builtin "re.Pattern.sub") [.ref pa2, .str crlf tc, .str x t]) _ _ _
      refine sub2_sound (O := O) (by omega) (hP2 _ B2) hc _ _ fun z s3 k3 r3 => ?_
      cases r3
      show wpAny _ _ (call (.builtin "re.Pattern.sub") [.ref pa1, .str dots s1.toks, .str ⟨(nrm x.cps.toList).toArray⟩ _]) _ _ _
      have hn : (nrm x.cps.toList).length ≤ _ := nrm_length false x.cps.toList
      have hlx : x.cps.toList.length = x.cps.size := by simp
      refine sub1_sound (O := O) ?_ (hP1 _ (B2.kp k3.kp)) hdots _ _ fun z s4 k4 r4 => ?_
      · show (nrm x.cps.toList).toArray.size ≤ _
        rw [List.size_toArray]; omega
      · exact hq _ s4 (k1.tr (ks2.tr (k3.tr k4))) r4
    · cases hF
  · cases hF
end
end Mine
end

section
open PySem PySem.W PyProof.Rows
set_option Elab.async false
namespace Mine
set_option maxRecDepth 100000
set_option maxHeartbeats 8000000
open_top hd for PySem.Challenge.rw_pg0097_01
end Mine
end

section
open PySem PySem.W PyProof.Rows
set_option Elab.async false
namespace Mine
set_option maxRecDepth 100000
set_option maxHeartbeats 4000000

noncomputable def fdAt (l : List (Addr × Obj)) (a : Nat) : FuncData :=
  match l.find? (fun p => p.1 == a) with
  | some p => (match p.2.data with
    | .func fd => fd
    | _ => default)
  | none => default
noncomputable def bodyS (fd : FuncData) : List Stmt := match fd.body with
  | .stmts b => b
  | _ => []
noncomputable def fd_rgb2hls : { fd : FuncData // ∀ P, fd = fdAt (hd.heap_39 P) 38 } := by
  refine ⟨?_, ?_⟩
  rotate_left
  · intro P
    conv => rhs; whnf
noncomputable def fd_hls2rgb : { fd : FuncData // ∀ P, fd = fdAt (hd.heap_39 P) 45 } := by
  refine ⟨?_, ?_⟩
  rotate_left
  · intro P
    conv => rhs; whnf
noncomputable def fd_v : { fd : FuncData // ∀ P, fd = fdAt (hd.heap_39 P) 52 } := by
  refine ⟨?_, ?_⟩
  rotate_left
  · intro P
    conv => rhs; whnf
noncomputable def fd_rgb2hsv : { fd : FuncData // ∀ P, fd = fdAt (hd.heap_39 P) 59 } := by
  refine ⟨?_, ?_⟩
  rotate_left
  · intro P
    conv => rhs; whnf
noncomputable def fd_hsv2rgb : { fd : FuncData // ∀ P, fd = fdAt (hd.heap_39 P) 66 } := by
  refine ⟨?_, ?_⟩
  rotate_left
  · intro P
    conv => rhs; whnf
noncomputable def fd_quote : { fd : FuncData // ∀ P, fd = fdAt (hd.heap_39 P) 83 } := by
  refine ⟨?_, ?_⟩
  rotate_left
  · intro P
    conv => rhs; whnf
noncomputable def fd_ways : { fd : FuncData // ∀ P, fd = fdAt (hd.heap_39 P) 88 } := by
  refine ⟨?_, ?_⟩
  rotate_left
  · intro P
    conv => rhs; whnf
noncomputable def fd_far : { fd : FuncData // ∀ P, fd = fdAt (hd.heap_39 P) 93 } := by
  refine ⟨?_, ?_⟩
  rotate_left
  · intro P
    conv => rhs; whnf
noncomputable def fd_row : { fd : FuncData // ∀ P, fd = fdAt (hd.heap_39 P) 100 } := by
  refine ⟨?_, ?_⟩
  rotate_left
  · intro P
    conv => rhs; whnf
noncomputable def fd_sent : { fd : FuncData // ∀ P, fd = fdAt (hd.heap_39 P) 105 } := by
  refine ⟨?_, ?_⟩
  rotate_left
  · intro P
    conv => rhs; whnf
noncomputable def fd_way : { fd : FuncData // ∀ P, fd = fdAt (hd.heap_39 P) 112 } := by
  refine ⟨?_, ?_⟩
  rotate_left
  · intro P
    conv => rhs; whnf
noncomputable def fd_steady : { fd : FuncData // ∀ P, fd = fdAt (hd.heap_39 P) 117 } := by
  refine ⟨?_, ?_⟩
  rotate_left
  · intro P
    conv => rhs; whnf
noncomputable def fd_law : { fd : FuncData // ∀ P, fd = fdAt (hd.heap_39 P) 122 } := by
  refine ⟨?_, ?_⟩
  rotate_left
  · intro P
    conv => rhs; whnf
end Mine
end

section
open PySem PySem.W PyProof.Rows
set_option Elab.async false
namespace Mine
set_option maxRecDepth 100000
set_option maxHeartbeats 4000000
set_option linter.unusedVariables false

noncomputable abbrev S (x : String) : Str := Str.ofString x
noncomputable def pn (fd : FuncData) : List Str := fd.params.args.map (·.arg)
noncomputable def mkF (Γ : List (Str × GV)) (fd : FuncData) (own : List Str) : List D → Option D := fnD Γ 60 (pn fd) fd.scope own (bodyS fd)
noncomputable def G1 : List (Str × GV) := [(S "max", .bi "max"), (S "min", .bi "min"), (S "len", .bi "len"), (S "sum", .bi "sum"), (S "sorted", .bi "sorted"), (S "int", .ty "int"), (S "range", .ty "range"), (S "enumerate", .ty "enumerate"),
  (S "ONE_THIRD", .val (.flt 4599676419421066581)), (S "ONE_SIXTH", .val (.flt 4595172819793696085)), (S "TWO_THIRD", .val (.flt 4604180019048437077))]
noncomputable def G2 : List (Str × GV) := G1 ++ [(S "_v", .fn 52 (mkF G1 fd_v.1 [])), (S "rgb_to_hls", .fn 38 (mkF G1 fd_rgb2hls.1 [])), (S "rgb_to_hsv", .fn 59 (mkF G1 fd_rgb2hsv.1 [])), (S "hsv_to_rgb", .fn 66 (mkF G1 fd_hsv2rgb.1 [])), (S "_law_row", .fn 100 (mkF G1 fd_row.1 [])), (S "quotedata", .fn 83 quoteD), (S "_law_ways", .fn 88 (mkF G1 fd_ways.1 [S "kept", S "ways"])), (S "_law_farthest", .fn 93 (mkF G1 fd_far.1 [])), (S "_law_steady", .fn 117 (mkF G1 fd_steady.1 []))]
noncomputable def G3 : List (Str × GV) := G2 ++ [(S "hls_to_rgb", .fn 45 (mkF G2 fd_hls2rgb.1 [])), (S "_law_sent", .fn 105 (mkF G2 fd_sent.1 []))]
noncomputable def G4 : List (Str × GV) := G3 ++ [(S "_law_way", .fn 112 (mkF G3 fd_way.1 []))]
noncomputable def lawF : List D → Option D := mkF G4 fd_law.1 [S "walk", S "begins", S "rounds"]

noncomputable def EntOK (prog : Program) (w : World) (mg mb : Str → Option Value) (K : List (Addr × Obj)) (k : Nat) (x : Str) : GV → Prop
  | .fn a F => mg x = some (.ref a) ∧ (∃ o fd, (a, o) ∈ K ∧ o.data = .func fd) ∧ FnC prog w mg mb K k a F
  | .val d => ∃ v, mg x = some v ∧ d.flat = true ∧ ∀ O h, Rd O h v d
  | .bi id => mg x = none ∧ mb x = some (.builtin id)
  | .ty T => mg x = none ∧ mb x = some (.type T)

section
variable {prog : Program} {w : World} {mg mb : Str → Option Value} {K : List (Addr × Obj)} {k j : Nat} {Γ Γ' : List (Str × GV)}
theorem GOK.of (h : ∀ p ∈ Γ, EntOK prog w mg mb K k p.1 p.2) : GOK prog w mg mb K k Γ :=
  ⟨fun x a F e => h _ (lookup_mem' e), fun x d e => h _ (lookup_mem' e), fun x i e => h _ (lookup_mem' e), fun x T e => h _ (lookup_mem' e)⟩
theorem EntOK.mono {x : Str} {gv : GV} (h : EntOK prog w mg mb K k x gv) (hj : k ≤ j) : EntOK prog w mg mb K j x gv := by
  cases gv with
  | fn a F => exact ⟨h.1, h.2.1, h.2.2.mono hj⟩
  | _ => exact h
end

/-- what the head gives -/
structure Hd (P : Params) (mg mb : Str → Option Value) (h : Heap) : Prop where
  X : (hd.heap_39 P).In h
  g : h.Ns mainGlobals mg
  b : h.Ns builtinsNs mb
  lim : h.NoLimit
  bb : ∀ x : Str, x ≠ "__name__" → mb x = bootBuiltins x
section
variable {prog : Program} {w : World} {P : Params} {mg mb : Str → Option Value} {h : Heap}
theorem lookup_of_nodup {α β : Type} [BEq α] [LawfulBEq α] : ∀ {l : List (α × β)}, (l.map (·.1)).Nodup → ∀ p ∈ l, l.lookup p.1 = some p.2
  | [], _, p, hp => by cases hp
  | (a, b) :: l, hn, p, hp => by
    rw [List.map_cons, List.nodup_cons] at hn
    rw [List.lookup_cons]
    rcases List.mem_cons.mp hp with rfl | hp
    · simp
    · have : (p.1 == a) = false := by
        simp only [beq_eq_false_iff_ne]
        intro e
        exact hn.1 (List.mem_map.mpr ⟨p, hp, e⟩)
      rw [this]
      exact lookup_of_nodup hn.2 p hp
theorem Hd.bs (H : Hd P mg mb h) : Bs mg mb (hd.heap_39 P) h :=
  ⟨H.g, H.b, H.lim, fun p hp => H.X p.1 p.2 (lookup_of_nodup (of_decide_eq_true (by rfl)) p hp)⟩
end
end Mine
end

section
open PySem PySem.W PyProof.Rows
set_option Elab.async false
namespace Mine
set_option maxRecDepth 100000
set_option maxHeartbeats 4000000
set_option linter.unusedVariables false

noncomputable def codeOk (l : List (Addr × Obj)) (fd : FuncData) : Bool :=
  match fd.code with
  | .ref c => (match l.find? (fun p => p.1 == c) with
    | some p => (match p.2.data with
      | .fields vs => (match (vs[1]? : Option Value) with
        | some (Value.str q _) => q == fd.qualname
        | _ => false)
      | _ => false)
    | none => false)
  | _ => false
theorem code_of {l : List (Addr × Obj)} {fd : FuncData} (h : codeOk l fd = true) : ∃ c oc vs t, fd.code = .ref c ∧ (c, oc) ∈ l ∧ oc.data = .fields vs ∧ vs[1]? = some (.str fd.qualname t) := by
  unfold codeOk at h
  split at h
  · rename_i c hc
    split at h
    · rename_i p hp
      split at h
      · rename_i vs hv
        split at h
        · rename_i q t hq
          have hq' : q = fd.qualname := by simpa using h
          have hpc : p.1 = c := by simpa using List.find?_some hp
          refine ⟨c, p.2, vs, t, hc, ?_, hv, by rw [hq, hq']⟩
          rw [← hpc]; exact List.mem_of_find?_eq_some hp
        · cases h
      · cases h
    · cases h
  · cases h
section
variable {prog : Program} {w : World} {P : Params} {mg mb : Str → Option Value} {h : Heap}
theorem mem_v : ∃ o, (52, o) ∈ hd.heap_39 P ∧ o.data = .func fd_v.1 := ⟨_, List.mem_of_find?_eq_some (p := fun p => p.1 == 52) (by rfl), by rfl⟩
theorem mem_rgb2hls : ∃ o, (38, o) ∈ hd.heap_39 P ∧ o.data = .func fd_rgb2hls.1 := ⟨_, List.mem_of_find?_eq_some (p := fun p => p.1 == 38) (by rfl), by rfl⟩
theorem mem_rgb2hsv : ∃ o, (59, o) ∈ hd.heap_39 P ∧ o.data = .func fd_rgb2hsv.1 := ⟨_, List.mem_of_find?_eq_some (p := fun p => p.1 == 59) (by rfl), by rfl⟩
theorem mem_hsv2rgb : ∃ o, (66, o) ∈ hd.heap_39 P ∧ o.data = .func fd_hsv2rgb.1 := ⟨_, List.mem_of_find?_eq_some (p := fun p => p.1 == 66) (by rfl), by rfl⟩
theorem mem_row : ∃ o, (100, o) ∈ hd.heap_39 P ∧ o.data = .func fd_row.1 := ⟨_, List.mem_of_find?_eq_some (p := fun p => p.1 == 100) (by rfl), by rfl⟩
theorem mem_ways : ∃ o, (88, o) ∈ hd.heap_39 P ∧ o.data = .func fd_ways.1 := ⟨_, List.mem_of_find?_eq_some (p := fun p => p.1 == 88) (by rfl), by rfl⟩
theorem mem_far : ∃ o, (93, o) ∈ hd.heap_39 P ∧ o.data = .func fd_far.1 := ⟨_, List.mem_of_find?_eq_some (p := fun p => p.1 == 93) (by rfl), by rfl⟩
theorem mem_steady : ∃ o, (117, o) ∈ hd.heap_39 P ∧ o.data = .func fd_steady.1 := ⟨_, List.mem_of_find?_eq_some (p := fun p => p.1 == 117) (by rfl), by rfl⟩
theorem mem_hls2rgb : ∃ o, (45, o) ∈ hd.heap_39 P ∧ o.data = .func fd_hls2rgb.1 := ⟨_, List.mem_of_find?_eq_some (p := fun p => p.1 == 45) (by rfl), by rfl⟩
theorem mem_sent : ∃ o, (105, o) ∈ hd.heap_39 P ∧ o.data = .func fd_sent.1 := ⟨_, List.mem_of_find?_eq_some (p := fun p => p.1 == 105) (by rfl), by rfl⟩
theorem mem_way : ∃ o, (112, o) ∈ hd.heap_39 P ∧ o.data = .func fd_way.1 := ⟨_, List.mem_of_find?_eq_some (p := fun p => p.1 == 112) (by rfl), by rfl⟩
theorem mem_law : ∃ o, (122, o) ∈ hd.heap_39 P ∧ o.data = .func fd_law.1 := ⟨_, List.mem_of_find?_eq_some (p := fun p => p.1 == 122) (by rfl), by rfl⟩
end
section
variable {prog : Program} {w : World} {P : Params} {mg mb : Str → Option Value} {h : Heap} {Γ : List (Str × GV)} {k : Nat}
theorem bind_v : ∀ vals : List Value, vals.length = (pn fd_v.1).length → bindArgs fd_v.1 ⟨vals, []⟩ = pure ((pn fd_v.1).zip vals)
  | [], h => by cases h
  | [_], h => by cases h
  | [_, _], h => by cases h
  | [v0, v1, v2], _ => rfl
  | _ :: _ :: _ :: _ :: _ , h => by simp [pn, fd_v] at h
theorem fnc_v (G : GOK prog w mg mb (hd.heap_39 P) k Γ) : FnC prog w mg mb (hd.heap_39 P) (k + 1) 52 (mkF Γ fd_v.1 []) := by
  obtain ⟨o, hm, hd'⟩ := mem_v (P := P)
  exact fn_sound G hm hd' rfl (code_of (by kernel_rfl)) rfl rfl rfl bind_v rfl rfl rfl (by decide +kernel)
theorem bind_rgb2hls : ∀ vals : List Value, vals.length = (pn fd_rgb2hls.1).length → bindArgs fd_rgb2hls.1 ⟨vals, []⟩ = pure ((pn fd_rgb2hls.1).zip vals)
  | [], h => by cases h
  | [_], h => by cases h
  | [_, _], h => by cases h
  | [v0, v1, v2], _ => rfl
  | _ :: _ :: _ :: _ :: _ , h => by simp [pn, fd_rgb2hls] at h
theorem fnc_rgb2hls (G : GOK prog w mg mb (hd.heap_39 P) k Γ) : FnC prog w mg mb (hd.heap_39 P) (k + 1) 38 (mkF Γ fd_rgb2hls.1 []) := by
  obtain ⟨o, hm, hd'⟩ := mem_rgb2hls (P := P)
  exact fn_sound G hm hd' rfl (code_of (by kernel_rfl)) rfl rfl rfl bind_rgb2hls rfl rfl rfl (by decide +kernel)
theorem bind_rgb2hsv : ∀ vals : List Value, vals.length = (pn fd_rgb2hsv.1).length → bindArgs fd_rgb2hsv.1 ⟨vals, []⟩ = pure ((pn fd_rgb2hsv.1).zip vals)
  | [], h => by cases h
  | [_], h => by cases h
  | [_, _], h => by cases h
  | [v0, v1, v2], _ => rfl
  | _ :: _ :: _ :: _ :: _ , h => by simp [pn, fd_rgb2hsv] at h
theorem fnc_rgb2hsv (G : GOK prog w mg mb (hd.heap_39 P) k Γ) : FnC prog w mg mb (hd.heap_39 P) (k + 1) 59 (mkF Γ fd_rgb2hsv.1 []) := by
  obtain ⟨o, hm, hd'⟩ := mem_rgb2hsv (P := P)
  exact fn_sound G hm hd' rfl (code_of (by kernel_rfl)) rfl rfl rfl bind_rgb2hsv rfl rfl rfl (by decide +kernel)
theorem bind_hsv2rgb : ∀ vals : List Value, vals.length = (pn fd_hsv2rgb.1).length → bindArgs fd_hsv2rgb.1 ⟨vals, []⟩ = pure ((pn fd_hsv2rgb.1).zip vals)
  | [], h => by cases h
  | [_], h => by cases h
  | [_, _], h => by cases h
  | [v0, v1, v2], _ => rfl
  | _ :: _ :: _ :: _ :: _ , h => by simp [pn, fd_hsv2rgb] at h
theorem fnc_hsv2rgb (G : GOK prog w mg mb (hd.heap_39 P) k Γ) : FnC prog w mg mb (hd.heap_39 P) (k + 1) 66 (mkF Γ fd_hsv2rgb.1 []) := by
  obtain ⟨o, hm, hd'⟩ := mem_hsv2rgb (P := P)
  exact fn_sound G hm hd' rfl (code_of (by kernel_rfl)) rfl rfl rfl bind_hsv2rgb rfl rfl rfl (by decide +kernel)
theorem bind_row : ∀ vals : List Value, vals.length = (pn fd_row.1).length → bindArgs fd_row.1 ⟨vals, []⟩ = pure ((pn fd_row.1).zip vals)
  | [], h => by cases h
  | [_], h => by cases h
  | [_, _], h => by cases h
  | [v0, v1, v2], _ => rfl
  | _ :: _ :: _ :: _ :: _ , h => by simp [pn, fd_row] at h
theorem fnc_row (G : GOK prog w mg mb (hd.heap_39 P) k Γ) : FnC prog w mg mb (hd.heap_39 P) (k + 1) 100 (mkF Γ fd_row.1 []) := by
  obtain ⟨o, hm, hd'⟩ := mem_row (P := P)
  exact fn_sound G hm hd' rfl (code_of (by kernel_rfl)) rfl rfl rfl bind_row rfl rfl rfl (by decide +kernel)
theorem bind_ways : ∀ vals : List Value, vals.length = (pn fd_ways.1).length → bindArgs fd_ways.1 ⟨vals, []⟩ = pure ((pn fd_ways.1).zip vals)
  | [], h => by cases h
  | [v0], _ => rfl
  | _ :: _ :: _ , h => by simp [pn, fd_ways] at h
theorem fnc_ways (G : GOK prog w mg mb (hd.heap_39 P) k Γ) : FnC prog w mg mb (hd.heap_39 P) (k + 1) 88 (mkF Γ fd_ways.1 [S "kept", S "ways"]) := by
  obtain ⟨o, hm, hd'⟩ := mem_ways (P := P)
  exact fn_sound G hm hd' rfl (code_of (by kernel_rfl)) rfl rfl rfl bind_ways rfl rfl rfl (by decide +kernel)
theorem bind_far : ∀ vals : List Value, vals.length = (pn fd_far.1).length → bindArgs fd_far.1 ⟨vals, []⟩ = pure ((pn fd_far.1).zip vals)
  | [], h => by cases h
  | [_], h => by cases h
  | [v0, v1], _ => rfl
  | _ :: _ :: _ :: _ , h => by simp [pn, fd_far] at h
theorem fnc_far (G : GOK prog w mg mb (hd.heap_39 P) k Γ) : FnC prog w mg mb (hd.heap_39 P) (k + 1) 93 (mkF Γ fd_far.1 []) := by
  obtain ⟨o, hm, hd'⟩ := mem_far (P := P)
  exact fn_sound G hm hd' rfl (code_of (by kernel_rfl)) rfl rfl rfl bind_far rfl rfl rfl (by decide +kernel)
theorem bind_steady : ∀ vals : List Value, vals.length = (pn fd_steady.1).length → bindArgs fd_steady.1 ⟨vals, []⟩ = pure ((pn fd_steady.1).zip vals)
  | [], h => by cases h
  | [_], h => by cases h
  | [_, _], h => by cases h
  | [v0, v1, v2], _ => rfl
  | _ :: _ :: _ :: _ :: _ , h => by simp [pn, fd_steady] at h
theorem fnc_steady (G : GOK prog w mg mb (hd.heap_39 P) k Γ) : FnC prog w mg mb (hd.heap_39 P) (k + 1) 117 (mkF Γ fd_steady.1 []) := by
  obtain ⟨o, hm, hd'⟩ := mem_steady (P := P)
  exact fn_sound G hm hd' rfl (code_of (by kernel_rfl)) rfl rfl rfl bind_steady rfl rfl rfl (by decide +kernel)
theorem bind_hls2rgb : ∀ vals : List Value, vals.length = (pn fd_hls2rgb.1).length → bindArgs fd_hls2rgb.1 ⟨vals, []⟩ = pure ((pn fd_hls2rgb.1).zip vals)
  | [], h => by cases h
  | [_], h => by cases h
  | [_, _], h => by cases h
  | [v0, v1, v2], _ => rfl
  | _ :: _ :: _ :: _ :: _ , h => by simp [pn, fd_hls2rgb] at h
theorem fnc_hls2rgb (G : GOK prog w mg mb (hd.heap_39 P) k Γ) : FnC prog w mg mb (hd.heap_39 P) (k + 1) 45 (mkF Γ fd_hls2rgb.1 []) := by
  obtain ⟨o, hm, hd'⟩ := mem_hls2rgb (P := P)
  exact fn_sound G hm hd' rfl (code_of (by kernel_rfl)) rfl rfl rfl bind_hls2rgb rfl rfl rfl (by decide +kernel)
theorem bind_sent : ∀ vals : List Value, vals.length = (pn fd_sent.1).length → bindArgs fd_sent.1 ⟨vals, []⟩ = pure ((pn fd_sent.1).zip vals)
  | [], h => by cases h
  | [_], h => by cases h
  | [_, _], h => by cases h
  | [v0, v1, v2], _ => rfl
  | _ :: _ :: _ :: _ :: _ , h => by simp [pn, fd_sent] at h
theorem fnc_sent (G : GOK prog w mg mb (hd.heap_39 P) k Γ) : FnC prog w mg mb (hd.heap_39 P) (k + 1) 105 (mkF Γ fd_sent.1 []) := by
  obtain ⟨o, hm, hd'⟩ := mem_sent (P := P)
  exact fn_sound G hm hd' rfl (code_of (by kernel_rfl)) rfl rfl rfl bind_sent rfl rfl rfl (by decide +kernel)
theorem bind_way : ∀ vals : List Value, vals.length = (pn fd_way.1).length → bindArgs fd_way.1 ⟨vals, []⟩ = pure ((pn fd_way.1).zip vals)
  | [], h => by cases h
  | [_], h => by cases h
  | [_, _], h => by cases h
  | [_, _, _], h => by cases h
  | [v0, v1, v2, v3], _ => rfl
  | _ :: _ :: _ :: _ :: _ :: _ , h => by simp [pn, fd_way] at h
theorem fnc_way (G : GOK prog w mg mb (hd.heap_39 P) k Γ) : FnC prog w mg mb (hd.heap_39 P) (k + 1) 112 (mkF Γ fd_way.1 []) := by
  obtain ⟨o, hm, hd'⟩ := mem_way (P := P)
  exact fn_sound G hm hd' rfl (code_of (by kernel_rfl)) rfl rfl rfl bind_way rfl rfl rfl (by decide +kernel)
theorem bind_law : ∀ vals : List Value, vals.length = (pn fd_law.1).length → bindArgs fd_law.1 ⟨vals, []⟩ = pure ((pn fd_law.1).zip vals)
  | [], h => by cases h
  | [v0], _ => rfl
  | _ :: _ :: _ , h => by simp [pn, fd_law] at h
theorem fnc_law (G : GOK prog w mg mb (hd.heap_39 P) k Γ) : FnC prog w mg mb (hd.heap_39 P) (k + 1) 122 (mkF Γ fd_law.1 [S "walk", S "begins", S "rounds"]) := by
  obtain ⟨o, hm, hd'⟩ := mem_law (P := P)
  exact fn_sound G hm hd' rfl (code_of (by kernel_rfl)) rfl rfl rfl bind_law rfl rfl rfl (by decide +kernel)
end
end Mine
end

section
open PySem PySem.W PyProof.Rows
set_option Elab.async false
namespace Mine
set_option maxRecDepth 100000
set_option maxHeartbeats 4000000
set_option linter.unusedVariables false
section
variable {prog : Program} {w : World} {P : Params} {mg mb : Str → Option Value} {h : Heap}

theorem Hd.val (H : Hd P mg mb h) {x : Str} {v : Value} (e : nsIn (hd.heap_39 P) mainGlobals x = some (some v)) : mg x = some v := mg_of H.X H.g e
theorem Hd.bi (H : Hd P mg mb h) {x : Str} {v : Value} (e : nsIn (hd.heap_39 P) mainGlobals x = some none) (hv : bootBuiltins x = some v) (hn : x ≠ Str.ofString "__name__") : mg x = none ∧ mb x = some v := ⟨mg_none_of H.X H.g e, (H.bb x hn).trans hv⟩

theorem fnc_quote (H : Hd P mg mb h) : FnC prog w mg mb (hd.heap_39 P) 1 83 quoteD := by
  obtain ⟨o, hm, hd'⟩ : ∃ o, (83, o) ∈ hd.heap_39 P ∧ o.data = .func fd_quote.1 := ⟨_, List.mem_of_find?_eq_some (p := fun p => p.1 == 83) (by rfl), by rfl⟩
  have b : ∀ vals : List Value, vals.length = [Str.ofString "data"].length → bindArgs fd_quote.1 ⟨vals, []⟩ = pure ([Str.ofString "data"].zip vals)
    | [], h => by cases h
    | [v], _ => rfl
    | _ :: _ :: _, h => by simp at h
  have pat : ∀ (pa ca : Nat) (px : Str) (t1 : Tok) (fl : Int) (t2 : Tok) (oc : Obj) (items : Array Value) (n : Nat) (code : Array Nat), (pa, ({ cls := .type "re.Pattern", data := .fields #[.str px t1, .int fl t2, .int 0 0, .none, .none, .ref ca, .int 0 0] } : Obj)) ∈ hd.heap_39 P → (ca, oc) ∈ hd.heap_39 P → oc.data = .seq items n → (items.map PySem.Builtin.Re.reRawOf).map (·.toNat) = code → ∀ hh, Bs mg mb (hd.heap_39 P) hh → IsPat hh pa code :=
    fun pa ca px t1 fl t2 oc items n code h1 h2 h3 h4 hh B => ⟨px, t1, fl, t2, ca, oc, items, n, B.k _ h1, B.k _ h2, h3, h4⟩
  obtain ⟨tc, hcr⟩ : ∃ tc, nsIn (hd.heap_39 P) mainGlobals (Str.ofString "CRLF") = some (some (.str (Str.ofString "\r\n") tc)) := ⟨_, by rfl⟩
  refine quote_sound hm hd' rfl (code_of (by kernel_rfl)) rfl rfl rfl b rfl rfl rfl (by decide +kernel) rfl rfl (by kernel_rfl) (by kernel_rfl) (by kernel_rfl) (H.val (by kernel_rfl)) (H.val (by kernel_rfl)) (H.val hcr) (pat 71 70 _ _ _ _ _ _ _ _ (List.mem_of_find?_eq_some (p := fun p => p.1 == 71) (by rfl)) (List.mem_of_find?_eq_some (p := fun p => p.1 == 70) (by rfl)) rfl (by decide +kernel)) (pat 76 75 _ _ _ _ _ _ _ _ (List.mem_of_find?_eq_some (p := fun p => p.1 == 76) (by rfl)) (List.mem_of_find?_eq_some (p := fun p => p.1 == 75) (by rfl)) rfl (by decide +kernel)) ?_ ?_
  · rfl
  · rfl

theorem ent1 (H : Hd P mg mb h) : ∀ p ∈ G1, EntOK prog w mg mb (hd.heap_39 P) 0 p.1 p.2 := by
  intro p hp
  unfold G1 at hp
  rcases List.mem_cons.mp hp with rfl | hp
  · exact H.bi (by kernel_rfl) (by kernel_rfl) (by decide +kernel)
  rcases List.mem_cons.mp hp with rfl | hp
  · exact H.bi (by kernel_rfl) (by kernel_rfl) (by decide +kernel)
  rcases List.mem_cons.mp hp with rfl | hp
  · exact H.bi (by kernel_rfl) (by kernel_rfl) (by decide +kernel)
  rcases List.mem_cons.mp hp with rfl | hp
  · exact H.bi (by kernel_rfl) (by kernel_rfl) (by decide +kernel)
  rcases List.mem_cons.mp hp with rfl | hp
  · exact H.bi (by kernel_rfl) (by kernel_rfl) (by decide +kernel)
  rcases List.mem_cons.mp hp with rfl | hp
  · exact H.bi (by kernel_rfl) (by kernel_rfl) (by decide +kernel)
  rcases List.mem_cons.mp hp with rfl | hp
  · exact H.bi (by kernel_rfl) (by kernel_rfl) (by decide +kernel)
  rcases List.mem_cons.mp hp with rfl | hp
  · exact H.bi (by kernel_rfl) (by kernel_rfl) (by decide +kernel)
  rcases List.mem_cons.mp hp with rfl | hp
  · exact ⟨_, H.val (by rfl), rfl, fun O h => .flt _ _⟩
  rcases List.mem_cons.mp hp with rfl | hp
  · exact ⟨_, H.val (by rfl), rfl, fun O h => .flt _ _⟩
  rcases List.mem_cons.mp hp with rfl | hp
  · exact ⟨_, H.val (by rfl), rfl, fun O h => .flt _ _⟩
  cases hp
theorem ent2 (H : Hd P mg mb h) : ∀ p ∈ G2, EntOK prog w mg mb (hd.heap_39 P) 1 p.1 p.2 := by
  have g1 := GOK.of (ent1 (prog := prog) (w := w) H)
  intro p hp
  unfold G2 at hp
  rcases List.mem_append.mp hp with hp | hp
  · exact (ent1 H p hp).mono (by omega)
  rcases List.mem_cons.mp hp with rfl | hp
  · exact ⟨H.val (by kernel_rfl), (let ⟨o, a, b⟩ := mem_v (P := P); ⟨o, _, a, b⟩), fnc_v g1⟩
  rcases List.mem_cons.mp hp with rfl | hp
  · exact ⟨H.val (by kernel_rfl), (let ⟨o, a, b⟩ := mem_rgb2hls (P := P); ⟨o, _, a, b⟩), fnc_rgb2hls g1⟩
  rcases List.mem_cons.mp hp with rfl | hp
  · exact ⟨H.val (by kernel_rfl), (let ⟨o, a, b⟩ := mem_rgb2hsv (P := P); ⟨o, _, a, b⟩), fnc_rgb2hsv g1⟩
  rcases List.mem_cons.mp hp with rfl | hp
  · exact ⟨H.val (by kernel_rfl), (let ⟨o, a, b⟩ := mem_hsv2rgb (P := P); ⟨o, _, a, b⟩), fnc_hsv2rgb g1⟩
  rcases List.mem_cons.mp hp with rfl | hp
  · exact ⟨H.val (by kernel_rfl), (let ⟨o, a, b⟩ := mem_row (P := P); ⟨o, _, a, b⟩), fnc_row g1⟩
  rcases List.mem_cons.mp hp with rfl | hp
  · exact ⟨H.val (by kernel_rfl), ⟨_, fd_quote.1, List.mem_of_find?_eq_some (p := fun p => p.1 == 83) (by rfl), by rfl⟩, fnc_quote H⟩
  rcases List.mem_cons.mp hp with rfl | hp
  · exact ⟨H.val (by kernel_rfl), (let ⟨o, a, b⟩ := mem_ways (P := P); ⟨o, _, a, b⟩), fnc_ways g1⟩
  rcases List.mem_cons.mp hp with rfl | hp
  · exact ⟨H.val (by kernel_rfl), (let ⟨o, a, b⟩ := mem_far (P := P); ⟨o, _, a, b⟩), fnc_far g1⟩
  rcases List.mem_cons.mp hp with rfl | hp
  · exact ⟨H.val (by kernel_rfl), (let ⟨o, a, b⟩ := mem_steady (P := P); ⟨o, _, a, b⟩), fnc_steady g1⟩
  cases hp
theorem ent3 (H : Hd P mg mb h) : ∀ p ∈ G3, EntOK prog w mg mb (hd.heap_39 P) 2 p.1 p.2 := by
  have g2 := GOK.of (ent2 (prog := prog) (w := w) H)
  intro p hp
  unfold G3 at hp
  rcases List.mem_append.mp hp with hp | hp
  · exact (ent2 H p hp).mono (by omega)
  rcases List.mem_cons.mp hp with rfl | hp
  · exact ⟨H.val (by kernel_rfl), (let ⟨o, a, b⟩ := mem_hls2rgb (P := P); ⟨o, _, a, b⟩), fnc_hls2rgb g2⟩
  rcases List.mem_cons.mp hp with rfl | hp
  · exact ⟨H.val (by kernel_rfl), (let ⟨o, a, b⟩ := mem_sent (P := P); ⟨o, _, a, b⟩), fnc_sent g2⟩
  cases hp
theorem ent4 (H : Hd P mg mb h) : ∀ p ∈ G4, EntOK prog w mg mb (hd.heap_39 P) 3 p.1 p.2 := by
  have g3 := GOK.of (ent3 (prog := prog) (w := w) H)
  intro p hp
  unfold G4 at hp
  rcases List.mem_append.mp hp with hp | hp
  · exact (ent3 H p hp).mono (by omega)
  rcases List.mem_cons.mp hp with rfl | hp
  · exact ⟨H.val (by kernel_rfl), (let ⟨o, a, b⟩ := mem_way (P := P); ⟨o, _, a, b⟩), fnc_way g3⟩
  cases hp
theorem law_fnc (H : Hd P mg mb h) : FnC prog w mg mb (hd.heap_39 P) 4 122 lawF := fnc_law (GOK.of (ent4 H))
end
end Mine
end

section
open PySem PySem.W PyProof.Rows
set_option Elab.async false
set_option maxRecDepth 100000
set_option maxHeartbeats 8000000
set_option linter.unusedVariables false
theorem Mine.well_ints {P : Params} {h : Heap} : ∀ {ns : List Int} {vs : List Value} {ds : List WData}, ds = ns.map WData.int → WellAll P h vs ds → Mine.RdAll (fun _ => False) h vs (ns.map Mine.D.int)
  | [], vs, ds, e, w => by subst e; cases w; exact .nil
  | n :: ns, vs, ds, e, w => by
    subst e
    rw [List.map_cons] at w
    cases w with
    | cons a b =>
      cases a
      exact .cons (.int _ _) (Mine.well_ints rfl b)
theorem Mine.ofPy_ints (ns : List Int) : ofPy (.list (ns.map PyData.int)) = .list (ns.map WData.int) := by
  rw [ofPy, ofPys_eq, List.map_map]
  congr 1
theorem Mine.joined (HL : ∀ ns : List Int, ns.length ≤ 63 → Mine.lawF [.lst (ns.map Mine.D.int)] = some (.bool true)) : PySem.Challenge.rw_pg0097_01.Holds := Mine.hd (by
  k_fill
  intro w s₀ s₁ mg mb G Y fa o pm cd doc dV kV ho hd hcd hD hmg hg args vals as hpre hlay hrd hwl hlo
  have KX := kIn_of Y
  clear ho hd hcd hD Y
  wrow_args hpre hlay hrd hwl hlo
  rename_i ns _ _ _ _ _ _ _ aL vs _ hL _ w1 _ hI _ hlen _
  have H : Mine.Hd w.params mg mb s₁.heap := ⟨KX, G.T.g, G.T.b, G.T.nolimit, G.T.builtins⟩
  have hfa : fa = 122 := by
    have e := H.val (x := Str.ofString "law") (v := .ref 122) (by kernel_rfl)
    have e2 : mg (Str.ofString "law") = some (.ref fa) := hmg
    rw [e] at e2
    cases e2; rfl
  subst hfa
  rw [Mine.ofPy_ints] at w1
  cases w1 with
  | @list _ vs' _ e wa =>
  refine Mine.law_fnc H callerA (fun _ => False) s₁ [.ref aL] [.lst (ns.map Mine.D.int)] (.bool true) ?_ H.bs (fun _ q => q.elim) (.cons (.lst (fun q => q) e (Mine.well_ints rfl wa)) .nil) (HL ns (by omega)) _ _ fun v s' ks r => ?_
  · exact ⟨rfl, by decide, by decide⟩
  · cases r
    obtain ⟨h', tk, rfl, kp⟩ := ks
    refine ⟨.inl ⟨_, _, [], rfl, fun _ => rfl, ReadsW.bool true, ?_, fun _ => ⟨List.nodup_nil, fun _ hm => (nomatch hm)⟩⟩, OldK.of_keep kp, rfl, AllBare.of_eq hg⟩
    first | rfl | wrow_post)
end

section
set_option Elab.async false
namespace Mine
set_option maxRecDepth 100000
set_option linter.unusedVariables false

theorem lt4 {p : Nat} (h : p < 4) : p = 0 ∨ p = 1 ∨ p = 2 ∨ p = 3 := (by decide : ∀ p, p < 4 → p = 0 ∨ p = 1 ∨ p = 2 ∨ p = 3) p h
theorem lt3 {p : Nat} (h : p < 3) : p = 0 ∨ p = 1 ∨ p = 2 := (by decide : ∀ p, p < 3 → p = 0 ∨ p = 1 ∨ p = 2) p h
theorem lt6 {p : Nat} (h : p < 6) : p = 0 ∨ p = 1 ∨ p = 2 ∨ p = 3 ∨ p = 4 ∨ p = 5 := (by decide : ∀ p, p < 6 → p = 0 ∨ p = 1 ∨ p = 2 ∨ p = 3 ∨ p = 4 ∨ p = 5) p h
theorem mod3 (t : Nat) : t % 3 = 0 ∨ t % 3 = 1 ∨ t % 3 = 2 := lt3 (Nat.mod_lt t (by decide))
/-- how many j < m are so -/
noncomputable def cntN (P : Nat → Bool) : Nat → Nat
  | 0 => 0
  | m + 1 => cntN P m + if P m then 1 else 0
theorem cntN_pos {P : Nat → Bool} : ∀ {m : Nat}, 1 ≤ cntN P m → ∃ j, j < m ∧ P j = true
  | 0, h => by simp [cntN] at h
  | m + 1, h => by
    by_cases q : P m = true
    · exact ⟨m, Nat.lt_succ_self m, q⟩
    · simp only [cntN, if_neg q] at h
      obtain ⟨j, h1, h2⟩ := cntN_pos (m := m) (by omega)
      exact ⟨j, by omega, h2⟩
theorem cntN_of {P : Nat → Bool} : ∀ {m j : Nat}, j < m → P j = true → 1 ≤ cntN P m
  | m + 1, j, h, q => by
    simp only [cntN]
    by_cases e : j = m
    · subst e; rw [if_pos q]; omega
    · have := cntN_of (P := P) (m := m) (j := j) (by omega) q
      omega
theorem cntN_one {P : Nat → Bool} : ∀ {m : Nat}, (∀ i j, i < m → j < m → P i = true → P j = true → i = j) → cntN P m ≤ 1
  | 0, h => by simp [cntN]
  | m + 1, h => by
    simp only [cntN]
    by_cases q : P m = true
    · rw [if_pos q]
      have : cntN P m = 0 := by
        refine Nat.eq_zero_of_not_pos fun p => ?_
        obtain ⟨j, h1, h2⟩ := cntN_pos p
        have := h j m (by omega) (by omega) h2 q
        omega
      omega
    · rw [if_neg q]
      have := cntN_one (P := P) (m := m) fun i j a b => h i j (by omega) (by omega)
      omega
theorem cntN_zero {P : Nat → Bool} {m : Nat} (h : ∀ j, j < m → P j = false) : cntN P m = 0 := by
  refine Nat.eq_zero_of_not_pos fun p => ?_
  obtain ⟨j, h1, h2⟩ := cntN_pos p
  rw [h j h1] at h2; cases h2
theorem cntN_le {P : Nat → Bool} : ∀ (m : Nat), cntN P m ≤ m
  | 0 => Nat.le_refl _
  | m + 1 => by
    have := cntN_le (P := P) m
    simp only [cntN]; split <;> omega
theorem cntN_congr {P Q : Nat → Bool} : ∀ {m : Nat}, (∀ j, j < m → P j = Q j) → cntN P m = cntN Q m
  | 0, _ => rfl
  | m + 1, h => by
    simp only [cntN]
    rw [cntN_congr fun j hj => h j (by omega), h m (Nat.lt_succ_self m)]

/-- four places and ways between them -/
structure Gr (nb : Nat → List Nat) : Prop where
  lt : ∀ p q, q ∈ nb p → p < 4 ∧ q < 4
  nodup : ∀ p, (nb p).Nodup
  symm : ∀ p q, q ∈ nb p → p ∈ nb q
  pos : ∀ p, p < 4 → 0 < (nb p).length
  irr : ∀ p, p ∉ nb p

section
variable {nb : Nat → List Nat} {f x : Nat → Nat} {s : Nat}
/-- leaves of p among the steps b .. b + k - 1 -/
noncomputable def Wc (x : Nat → Nat) (b k p : Nat) : Nat := cntN (fun j => x (b + j) == p) k
noncomputable def Ic (x : Nat → Nat) (b k p : Nat) : Nat := cntN (fun j => x (b + j + 1) == p) k
noncomputable def Uc (x : Nat → Nat) (b k p q : Nat) : Nat := cntN (fun j => x (b + j) == p && x (b + j + 1) == q) k

/-- a rotor walk -/
structure Wk (nb : Nat → List Nat) (f : Nat → Nat) (s : Nat) (x : Nat → Nat) : Prop where
  zero : x 0 = s
  step : ∀ t, x (t + 1) = (nb (x t)).getD ((f (x t) + Wc x 0 t (x t) + 1) % (nb (x t)).length) 0
  st : s < 4

theorem Wc_add (x : Nat → Nat) (a b p : Nat) : ∀ k, Wc x a (b + k) p = Wc x a b p + Wc x (a + b) k p
  | 0 => by simp [Wc, cntN]
  | k + 1 => by
    have ih := Wc_add x a b p k
    have e1 : Wc x a (b + (k + 1)) p = Wc x a (b + k) p + if (x (a + (b + k)) == p) = true then 1 else 0 := rfl
    have e2 : Wc x (a + b) (k + 1) p = Wc x (a + b) k p + if (x (a + b + k) == p) = true then 1 else 0 := rfl
    have e3 : a + (b + k) = a + b + k := by omega
    rw [e1, e2, ih, e3]
    omega

theorem Wk.in4 (G : Gr nb) (X : Wk nb f s x) : ∀ t, x t < 4
  | 0 => by rw [X.zero]; exact X.st
  | t + 1 => by
    have h := X.in4 G t
    rw [X.step]
    have hl := Nat.mod_lt (f (x t) + Wc x 0 t (x t) + 1) (G.pos _ h)
    rw [List.getD_eq_getElem?_getD, List.getElem?_eq_getElem hl]
    exact (G.lt (x t) _ (List.getElem_mem hl)).2
theorem Wk.nxt (G : Gr nb) (X : Wk nb f s x) (t : Nat) : x (t + 1) ∈ nb (x t) := by
  rw [X.step]
  have hl := Nat.mod_lt (f (x t) + Wc x 0 t (x t) + 1) (G.pos _ (X.in4 G t))
  rw [List.getD_eq_getElem?_getD, List.getElem?_eq_getElem hl]
  exact List.getElem_mem hl

/-- the rotor at p: which ways are gone in a window -/
theorem rotor (G : Gr nb) (X : Wk nb f s x) (b p q : Nat) : ∀ k, Uc x b k p q = cntN (fun j => (nb p).getD ((f p + Wc x 0 b p + 1 + j) % (nb p).length) 0 == q) (Wc x b k p)
  | 0 => rfl
  | k + 1 => by
    have ih := rotor G X b p q k
    have e1 : Uc x b (k + 1) p q = Uc x b k p q + if (x (b + k) == p && x (b + k + 1) == q) = true then 1 else 0 := rfl
    have e2 : Wc x b (k + 1) p = Wc x b k p + if (x (b + k) == p) = true then 1 else 0 := rfl
    rw [e1, e2, ih]
    by_cases h : x (b + k) = p
    · have h' : (x (b + k) == p) = true := by simpa using h
      rw [if_pos h']
      simp only [cntN]
      have e3 : x (b + k + 1) = (nb p).getD ((f p + Wc x 0 b p + 1 + Wc x b k p) % (nb p).length) 0 := by
        rw [X.step, h, Wc_add x 0 b p k, Nat.zero_add]
        congr 2
        omega
      rw [e3, h', Bool.true_and]
    · have h' : (x (b + k) == p) = false := by simpa using h
      rw [h', Bool.false_and]
      simp

theorem idx_inj {l : List Nat} (hn : l.Nodup) {i j q : Nat} (hi : i < l.length) (hj : j < l.length) (h1 : l.getD i 0 = q) (h2 : l.getD j 0 = q) : i = j := by
  refine (List.getElem?_inj hi hn).mp ?_
  rw [List.getD_eq_getElem?_getD, List.getElem?_eq_getElem hi] at h1
  rw [List.getD_eq_getElem?_getD, List.getElem?_eq_getElem hj] at h2
  rw [List.getElem?_eq_getElem hi, List.getElem?_eq_getElem hj]
  simp only [Option.getD_some] at h1 h2
  rw [h1, h2]
theorem mod_inj {c d i j : Nat} (hi : i < d) (hj : j < d) (h : (c + i) % d = (c + j) % d) : i = j := by
  by_cases hij : i ≤ j
  · have := Nat.sub_mod_eq_zero_of_mod_eq h.symm
    have e : c + j - (c + i) = j - i := by omega
    rw [e, Nat.mod_eq_of_lt (by omega)] at this
    omega
  · have := Nat.sub_mod_eq_zero_of_mod_eq h
    have e : c + i - (c + j) = i - j := by omega
    rw [e, Nat.mod_eq_of_lt (by omega)] at this
    omega
theorem mod_surj {c d k : Nat} (hk : k < d) : ∃ j, j < d ∧ (c + j) % d = k := by
  refine ⟨(k + (d - c % d)) % d, Nat.mod_lt _ (by omega), ?_⟩
  have hc := Nat.mod_lt c (by omega : 0 < d)
  rw [Nat.add_mod, Nat.mod_mod, ← Nat.add_mod]
  have e : c + (k + (d - c % d)) = k + d * (c / d + 1) := by
    have := Nat.div_add_mod c d
    rw [Nat.mul_add, Nat.mul_one]
    omega
  rw [e, Nat.add_mul_mod_self_left, Nat.mod_eq_of_lt hk]

theorem U_one (G : Gr nb) (X : Wk nb f s x) {b k p q : Nat} (hp : p < 4) (h : Wc x b k p ≤ (nb p).length) : Uc x b k p q ≤ 1 := by
  rw [rotor G X]
  refine cntN_one fun i j hi hj h1 h2 => ?_
  simp only [beq_iff_eq] at h1 h2
  have hd := G.pos p hp
  exact mod_inj (by omega) (by omega) (idx_inj (G.nodup p) (Nat.mod_lt _ hd) (Nat.mod_lt _ hd) h1 h2)
theorem U_full (G : Gr nb) (X : Wk nb f s x) {b k p q : Nat} (hq : q ∈ nb p) (h : (nb p).length ≤ Wc x b k p) : 1 ≤ Uc x b k p q := by
  rw [rotor G X]
  obtain ⟨i, hi, e⟩ := List.getElem_of_mem hq
  obtain ⟨j, hj, ej⟩ := mod_surj (c := f p + Wc x 0 b p + 1) hi
  refine cntN_of (j := j) (by omega) ?_
  simp only [beq_iff_eq]
  rw [ej, List.getD_eq_getElem?_getD, List.getElem?_eq_getElem hi]
  exact e
theorem U_none (G : Gr nb) (X : Wk nb f s x) {b k p q : Nat} (h : q ∉ nb p) : Uc x b k p q = 0 := by
  refine cntN_zero fun j hj => ?_
  rw [Bool.and_eq_false_iff]
  by_cases e : x (b + j) = p
  · right
    simp only [beq_eq_false_iff_ne]
    intro e2
    have := X.nxt G (b + j)
    rw [e, e2] at this
    exact h this
  · left; simpa using e

/-- entries and leaves of a window -/
theorem flow (x : Nat → Nat) (b p : Nat) : ∀ k, Ic x b k p + (if x b = p then 1 else 0) = Wc x b k p + if x (b + k) = p then 1 else 0
  | 0 => by simp [Ic, Wc, cntN]
  | k + 1 => by
    have ih := flow x b p k
    have e1 : Ic x b (k + 1) p = Ic x b k p + if (x (b + k + 1) == p) = true then 1 else 0 := rfl
    have e2 : Wc x b (k + 1) p = Wc x b k p + if (x (b + k) == p) = true then 1 else 0 := rfl
    rw [e1, e2, ← Nat.add_assoc]
    simp only [beq_iff_eq]
    omega
theorem I_sum (G : Gr nb) (X : Wk nb f s x) (b q : Nat) : ∀ k, Ic x b k q = Uc x b k 0 q + Uc x b k 1 q + Uc x b k 2 q + Uc x b k 3 q
  | 0 => rfl
  | k + 1 => by
    have ih := I_sum G X b q k
    have e1 : Ic x b (k + 1) q = Ic x b k q + if (x (b + k + 1) == q) = true then 1 else 0 := rfl
    have e2 : ∀ p, Uc x b (k + 1) p q = Uc x b k p q + if (x (b + k) == p && x (b + k + 1) == q) = true then 1 else 0 := fun p => rfl
    rw [e1, e2, e2, e2, e2, ih]
    have h := X.in4 G (b + k)
    have hc := lt4 h
    rcases hc with e | e | e | e <;> rw [e] <;> simp <;> omega
theorem W_sum (G : Gr nb) (X : Wk nb f s x) (b : Nat) : ∀ k, Wc x b k 0 + Wc x b k 1 + Wc x b k 2 + Wc x b k 3 = k
  | 0 => rfl
  | k + 1 => by
    have ih := W_sum G X b k
    have e2 : ∀ p, Wc x b (k + 1) p = Wc x b k p + if (x (b + k) == p) = true then 1 else 0 := fun p => rfl
    rw [e2, e2, e2, e2]
    have h := X.in4 G (b + k)
    have hc := lt4 h
    rcases hc with e | e | e | e <;> rw [e] <;> simp <;> omega

/-- a list's length by its members -/
noncomputable def has (nb : Nat → List Nat) (q p : Nat) : Nat := if p ∈ nb q then 1 else 0
theorem len_sum4 : ∀ {l : List Nat}, l.Nodup → (∀ p ∈ l, p < 4) → l.length = (if 0 ∈ l then 1 else 0) + (if 1 ∈ l then 1 else 0) + (if 2 ∈ l then 1 else 0) + (if 3 ∈ l then 1 else 0)
  | [], _, _ => by simp
  | a :: l, hn, h4 => by
    rw [List.nodup_cons] at hn
    have ih := len_sum4 hn.2 fun p hp => h4 p (List.mem_cons_of_mem _ hp)
    have ha := h4 a List.mem_cons_self
    have hc := lt4 (p := a) ha
    rcases hc with e | e | e | e <;> subst e <;> have hna := hn.1 <;> simp [hna] at ih ⊢ <;> omega
theorem d_sum (G : Gr nb) (q : Nat) : (nb q).length = has nb q 0 + has nb q 1 + has nb q 2 + has nb q 3 :=
  len_sum4 (G.nodup q) fun p hp => (G.lt q p hp).2

theorem U_has (G : Gr nb) (X : Wk nb f s x) {b k p q : Nat} (hp : p < 4) (h : Wc x b k p ≤ (nb p).length) : Uc x b k p q ≤ has nb q p := by
  unfold has
  by_cases e : p ∈ nb q
  · rw [if_pos e]; exact U_one G X hp h
  · rw [if_neg e, U_none G X fun h => e (G.symm p q h)]
    exact Nat.le_refl _

/-- the round that begins at b is at its end behind k steps -/
noncomputable def fin (nb : Nat → List Nat) (x : Nat → Nat) (s b k : Nat) : Prop := x (b + k) = s ∧ Wc x b k s = (nb s).length

/-- (A) no place is left more often than it has ways while the round lasts -/
theorem roundA (G : Gr nb) (X : Wk nb f s x) {b : Nat} (hb : x b = s) : ∀ k, (∀ j, 0 < j → j < k → ¬ fin nb x s b j) → ∀ v, v < 4 → Wc x b k v ≤ (nb v).length
  | 0, _, v, hv => by simp [Wc, cntN]
  | k + 1, h, v, hv => by
    have ih := roundA G X hb k fun j h1 h2 => h j h1 (by omega)
    have e2 : Wc x b (k + 1) v = Wc x b k v + if (x (b + k) == v) = true then 1 else 0 := rfl
    rw [e2]
    by_cases hx : x (b + k) = v
    · have hx' : (x (b + k) == v) = true := by simpa using hx
      rw [if_pos hx']
      refine Nat.lt_of_le_of_ne (ih v hv) fun heq => ?_
      by_cases hvs : v = s
      · subst hvs
        have hk : 0 < k := by
          refine Nat.pos_of_ne_zero fun e => ?_
          subst e
          have := G.pos v hv
          have e0 : Wc x b 0 v = 0 := rfl
          omega
        exact h k hk (Nat.lt_succ_self k) ⟨hx, heq⟩
      · have fl := flow x b v k
        rw [if_neg (by rw [hb]; exact fun e => hvs e.symm), if_pos hx] at fl
        have is := I_sum G X b v k
        have ds := d_sum G v
        have u0 := U_has G X (q := v) (b := b) (k := k) (p := 0) (by omega) (ih 0 (by omega))
        have u1 := U_has G X (q := v) (b := b) (k := k) (p := 1) (by omega) (ih 1 (by omega))
        have u2 := U_has G X (q := v) (b := b) (k := k) (p := 2) (by omega) (ih 2 (by omega))
        have u3 := U_has G X (q := v) (b := b) (k := k) (p := 3) (by omega) (ih 3 (by omega))
        omega
    · have hx' : (x (b + k) == v) = false := by simpa using hx
      rw [hx']; exact ih v hv

noncomputable def dsum (nb : Nat → List Nat) : Nat := (nb 0).length + (nb 1).length + (nb 2).length + (nb 3).length
/-- a round lasts no longer than there are ways there and back -/
theorem roundLen (G : Gr nb) (X : Wk nb f s x) {b k : Nat} (hb : x b = s) (h : ∀ j, 0 < j → j < k → ¬ fin nb x s b j) : k ≤ dsum nb := by
  have w := W_sum G X b k
  have a0 := roundA G X hb k h 0 (by omega)
  have a1 := roundA G X hb k h 1 (by omega)
  have a2 := roundA G X hb k h 2 (by omega)
  have a3 := roundA G X hb k h 3 (by omega)
  unfold dsum; omega

/-- a whole round: from b, k steps -/
structure Rnd (nb : Nat → List Nat) (x : Nat → Nat) (s b k : Nat) : Prop where
  beg : x b = s
  pos : 0 < k
  fin : fin nb x s b k
  not : ∀ j, 0 < j → j < k → ¬ Mine.fin nb x s b j

theorem Rnd.le (G : Gr nb) (X : Wk nb f s x) {b k : Nat} (R : Rnd nb x s b k) {v : Nat} (hv : v < 4) : Wc x b k v ≤ (nb v).length := roundA G X R.beg k R.not v hv
theorem Rnd.closed {b k : Nat} (R : Rnd nb x s b k) (v : Nat) : Ic x b k v = Wc x b k v := by
  have fl := flow x b v k
  rw [R.beg, R.fin.1] at fl
  omega
/-- a place that is left by all its ways is met by all its ways -/
theorem Rnd.allIn (G : Gr nb) (X : Wk nb f s x) {b k : Nat} (R : Rnd nb x s b k) {u p : Nat} (hu : Wc x b k u = (nb u).length) (hp : p ∈ nb u) : 1 ≤ Uc x b k p u := by
  have is := I_sum G X b u k
  have cl := R.closed u
  have ds := d_sum G u
  have u0 := U_has G X (q := u) (b := b) (k := k) (p := 0) (by omega) (R.le G X (by omega))
  have u1 := U_has G X (q := u) (b := b) (k := k) (p := 1) (by omega) (R.le G X (by omega))
  have u2 := U_has G X (q := u) (b := b) (k := k) (p := 2) (by omega) (R.le G X (by omega))
  have u3 := U_has G X (q := u) (b := b) (k := k) (p := 3) (by omega) (R.le G X (by omega))
  have h1 : has nb u p = 1 := if_pos hp
  have h4 := (G.lt u p hp).2
  have hc := lt4 (p := p) h4
  rcases hc with e | e | e | e <;> subst e <;> omega

/-- (B) a place that is left in a round is left by each of its ways in the next one -/
theorem roundB (G : Gr nb) (X : Wk nb f s x) {b k k' : Nat} (R : Rnd nb x s b k) (R' : Rnd nb x s (b + k) k') : ∀ (m i : Nat), i + m + 1 = k → (∀ j, i < j → j < k → x (b + j) ≠ x (b + i)) → Wc x (b + k) k' (x (b + i)) = (nb (x (b + i))).length := by
  intro m
  induction m using Nat.strongRecOn with
  | _ m ih =>
    intro i him hlast
    have hv := X.in4 G (b + i)
    -- the place to which the last way leads is left by all its ways
    have hu : Wc x (b + k) k' (x (b + i + 1)) = (nb (x (b + i + 1))).length := by
      by_cases hm : m = 0
      · have e : b + i + 1 = b + k := by omega
        rw [e, R'.beg]; exact R'.fin.2
      · -- the last time at which that place is left
        have ex : ∀ (n : Nat) (i' : Nat), i' + n + 1 = k → x (b + i') = x (b + i + 1) → i < i' → ∃ i'', i < i'' ∧ i'' < k ∧ x (b + i'') = x (b + i + 1) ∧ ∀ j, i'' < j → j < k → x (b + j) ≠ x (b + i'') := by
          intro n
          induction n using Nat.strongRecOn with
          | _ n ihn =>
            intro i' h1 h2 h3
            by_cases q : ∃ j, i' < j ∧ j < k ∧ x (b + j) = x (b + i')
            · obtain ⟨j, j1, j2, j3⟩ := q
              exact ihn (k - 1 - j) (by omega) j (by omega) (by rw [j3, h2]) (by omega)
            · exact ⟨i', h3, by omega, h2, fun j j1 j2 j3 => q ⟨j, j1, j2, j3⟩⟩
        obtain ⟨i'', q1, q2, q3, q4⟩ := ex (k - 1 - (i + 1)) (i + 1) (by omega) (by rw [Nat.add_assoc]) (by omega)
        have := ih (k - 1 - i'') (by omega) i'' (by omega) q4
        rw [q3] at this
        exact this
    have hmem : x (b + i) ∈ nb (x (b + i + 1)) := G.symm _ _ (X.nxt G (b + i))
    have hU := R'.allIn G X hu hmem
    rw [rotor G X] at hU
    obtain ⟨j, hj, ej⟩ := cntN_pos hU
    simp only [beq_iff_eq] at ej
    have hd := G.pos _ hv
    -- the way gone at b + i is the one ahead of the rotor of the next round
    have e1 : x (b + i + 1) = (nb (x (b + i))).getD ((f (x (b + i)) + Wc x 0 (b + i) (x (b + i)) + 1) % (nb (x (b + i))).length) 0 := X.step (b + i)
    have e2 : Wc x 0 (b + k) (x (b + i)) = Wc x 0 (b + i) (x (b + i)) + 1 := by
      have ee : b + k = (b + i) + (m + 1) := by omega
      rw [ee, Wc_add x 0 (b + i) _ (m + 1), Nat.zero_add]
      congr 1
      have e3 : m + 1 = 1 + m := by omega
      rw [e3, Wc_add x (b + i) 1 _ m]
      have e4 : Wc x (b + i) 1 (x (b + i)) = 1 := by simp [Wc, cntN]
      have e5 : Wc x (b + i + 1) m (x (b + i)) = 0 := by
        refine cntN_zero fun j hj => ?_
        simp only [beq_eq_false_iff_ne]
        have := hlast (i + 1 + j) (by omega) (by omega)
        have e6 : b + i + 1 + j = b + (i + 1 + j) := by omega
        rw [e6]; exact this
      rw [e4, e5]
    have hidx := idx_inj (G.nodup _) (Nat.mod_lt _ hd) (Nat.mod_lt _ hd) ej e1.symm
    rw [e2] at hidx
    have hle := R'.le G X hv
    refine Nat.le_antisymm hle ?_
    -- j is at least d - 1
    refine Nat.le_of_not_lt fun hlt => ?_
    have h7 := Nat.sub_mod_eq_zero_of_mod_eq hidx
    have e8 : f (x (b + i)) + (Wc x 0 (b + i) (x (b + i)) + 1) + 1 + j - (f (x (b + i)) + Wc x 0 (b + i) (x (b + i)) + 1) = j + 1 := by omega
    rw [e8, Nat.mod_eq_of_lt (by omega)] at h7
    omega
end
end Mine
end

section
open PySem PySem.W PyProof.Rows
set_option Elab.async false
namespace Mine
set_option maxRecDepth 100000
set_option maxHeartbeats 1000000
set_option linter.unusedVariables false

noncomputable abbrev dN (n : Nat) : D := .int (n : Int)
noncomputable def nI (l : List Nat) : D := .lst (l.map dN)
noncomputable def pD (p : Nat × Nat) : D := .tup [dN p.1, dN p.2]
noncomputable def pI (l : List (Nat × Nat)) : D := .lst (l.map pD)

section
variable {Γ : List (Str × GV)} {n : Nat} {sc : List (Str × NameKind)} {cn own : List Str} {σ σ' : Sg}
theorem exs_next {st : Stmt} {r : List Stmt} (h : ex Γ n sc cn own σ st = some (.next, σ')) : exs Γ (n + 1) sc cn own σ (st :: r) = exs Γ n sc cn own σ' r := by
  show (ex Γ n sc cn own σ st).bind _ = _
  rw [h]; rfl
theorem exs_ret {st : Stmt} {r : List Stmt} {d : D} (h : ex Γ n sc cn own σ st = some (.ret d, σ')) : exs Γ (n + 1) sc cn own σ (st :: r) = some (.ret d, σ') := by
  show (ex Γ n sc cn own σ st).bind _ = _
  rw [h]; rfl
theorem exs_brk {st : Stmt} {r : List Stmt} (h : ex Γ n sc cn own σ st = some (.brk, σ')) : exs Γ (n + 1) sc cn own σ (st :: r) = some (.brk, σ') := by
  show (ex Γ n sc cn own σ st).bind _ = _
  rw [h]; rfl
theorem exs_end : exs Γ (n + 1) sc cn own σ [] = some (.next, σ) := rfl
theorem ex_asg {x : Str} {px pos : Pos} {v : PySem.Expr} {d : D} (hc : storeOk sc cn x = true ∧ (own.contains x = true → freshE v = true ∧ σ.lookup x = none)) (hv : ev Γ n sc cn own σ v = some d) : ex Γ (n + 1) sc cn own σ (.Assign [.Name x px] v pos) = some (.next, setS σ x d) := by
  show (if storeOk sc cn x = true ∧ (own.contains x = true → freshE v = true ∧ σ.lookup x = none) then (ev Γ n sc cn own σ v).map fun d => (Fl.next, setS σ x d) else none) = _
  rw [if_pos hc, hv]; rfl
theorem ex_ret' {e : PySem.Expr} {pos : Pos} {d : D} (hv : retD own σ (ev Γ n sc cn own σ) e = some d) : ex Γ (n + 1) sc cn own σ (.Return (some e) pos) = some (.ret d, σ) := by
  show (retD own σ (ev Γ n sc cn own σ) e).map _ = _
  rw [hv]; rfl
theorem ex_ift {t : PySem.Expr} {b o : List Stmt} {pos : Pos} {r : Option (Fl × Sg)} (ht : tr Γ n sc cn own σ t = some true) (hb : exs Γ n sc cn own σ b = r) : ex Γ (n + 1) sc cn own σ (.If t b o pos) = r := by
  show (tr Γ n sc cn own σ t).bind _ = _
  rw [ht]; exact hb
theorem ex_iff {t : PySem.Expr} {b o : List Stmt} {pos : Pos} {r : Option (Fl × Sg)} (ht : tr Γ n sc cn own σ t = some false) (hb : exs Γ n sc cn own σ o = r) : ex Γ (n + 1) sc cn own σ (.If t b o pos) = r := by
  show (tr Γ n sc cn own σ t).bind _ = _
  rw [ht]; exact hb

theorem compD_map {test : D → Option Bool} {elt : D → Option D} {α : Type} {g : α → D} {t : α → Bool} {e : α → D} : ∀ (l : List α), (∀ a ∈ l, test (g a) = some (t a)) → (∀ a ∈ l, t a = true → elt (g a) = some (e a)) → compD test elt (l.map g) = some ((l.filter t).map e)
  | [], _, _ => rfl
  | a :: l, h1, h2 => by
    have ih := compD_map l (fun b hb => h1 b (List.mem_cons_of_mem _ hb)) fun b hb => h2 b (List.mem_cons_of_mem _ hb)
    show (test (g a)).bind _ = _
    rw [h1 a List.mem_cons_self]
    cases ht : t a with
    | true =>
      show (elt (g a)).bind _ = _
      rw [h2 a List.mem_cons_self ht, List.filter_cons_of_pos ht]
      show (compD test elt (l.map g)).bind _ = _
      rw [ih]; rfl
    | false =>
      rw [List.filter_cons_of_neg (by rw [ht]; exact Bool.false_ne_true)]
      exact ih
theorem rngL_nat (n : Nat) : rngL 0 (n : Int) = (List.range n).map dN := by
  unfold rngL
  have : ((n : Int) - 0).toNat = n := by omega
  rw [this]
  congr 1
  funext i
  show D.int (0 + (i : Int)) = D.int (i : Int)
  rw [Int.zero_add]
end

theorem oks_ints : ∀ (l : List Nat), D.oks 8 (l.map dN) = true
  | [] => rfl
  | a :: l => oks_ints l
theorem any_ints (q : Nat) : ∀ (l : List Nat), ((l.map dN).any fun z => D.eqb z (dN q)) = decide (q ∈ l)
  | [] => rfl
  | a :: l => by
    rw [List.map_cons, List.any_cons, any_ints q l]
    have : D.eqb (dN a) (dN q) = decide (q = a) := by
      show ((a : Int) == q) = _
      by_cases h : q = a
      · subst h; simp
      · have : (a : Int) ≠ q := by omega
        simp [h, this]
    rw [this]
    simp [Bool.decide_or]
theorem cmp_in (q : Nat) (l : List Nat) : cmpD .In (dN q) (nI l) = some (decide (q ∈ l)) := by
  show (if (D.ok 8 (dN q) && D.oks 8 (l.map dN)) = true then some ((l.map dN).any fun z => D.eqb z (dN q)) else none) = _
  rw [oks_ints, any_ints]; rfl
theorem cmp_notin (q : Nat) (l : List Nat) : cmpD .NotIn (dN q) (nI l) = some (!decide (q ∈ l)) := by
  show (if (D.ok 8 (dN q) && D.oks 8 (l.map dN)) = true then some (!(l.map dN).any fun z => D.eqb z (dN q)) else none) = _
  rw [oks_ints, any_ints]; rfl
theorem eqb_pD (p q : Nat × Nat) : D.eqb (pD p) (pD q) = decide (q = p) := by
  obtain ⟨a, b⟩ := p
  obtain ⟨c, d⟩ := q
  show (((a : Int) == c) && (((b : Int) == d) && true)) = _
  rw [Bool.and_true]
  by_cases h1 : c = a
  · subst h1
    by_cases h2 : d = b
    · subst h2; simp
    · have : (b : Int) ≠ d := by omega
      simp [this, h2]
  · have : (a : Int) ≠ c := by omega
    simp [this, h1]
theorem oks_pairs : ∀ (l : List (Nat × Nat)), D.oks 7 (l.map pD) = true ∧ D.oks 8 (l.map pD) = true
  | [] => ⟨rfl, rfl⟩
  | a :: l => by
    obtain ⟨h1, h2⟩ := oks_pairs l
    exact ⟨h1, h2⟩
theorem any_pairs (q : Nat × Nat) : ∀ (l : List (Nat × Nat)), ((l.map pD).any fun z => D.eqb z (pD q)) = decide (q ∈ l)
  | [] => rfl
  | a :: l => by
    rw [List.map_cons, List.any_cons, any_pairs q l, eqb_pD]
    simp [Bool.decide_or]
theorem cmp_inP (q : Nat × Nat) (l : List (Nat × Nat)) : cmpD .In (pD q) (pI l) = some (decide (q ∈ l)) := by
  show (if (D.ok 8 (pD q) && D.oks 8 (l.map pD)) = true then some ((l.map pD).any fun z => D.eqb z (pD q)) else none) = _
  rw [(oks_pairs l).2, any_pairs]; rfl
theorem cmp_notinP (q : Nat × Nat) (l : List (Nat × Nat)) : cmpD .NotIn (pD q) (pI l) = some (!decide (q ∈ l)) := by
  show (if (D.ok 8 (pD q) && D.oks 8 (l.map pD)) = true then some (!(l.map pD).any fun z => D.eqb z (pD q)) else none) = _
  rw [(oks_pairs l).2, any_pairs]; rfl
theorem eqbs_ints : ∀ (a b : List Nat), D.eqbs (a.map dN) (b.map dN) = decide (a = b)
  | [], [] => rfl
  | [], _ :: _ => rfl
  | _ :: _, [] => rfl
  | x :: a, y :: b => by
    show (((x : Int) == y) && D.eqbs (a.map dN) (b.map dN)) = _
    rw [eqbs_ints a b]
    by_cases h : x = y
    · subst h; simp
    · have : (x : Int) ≠ y := by omega
      simp [this, h]
theorem eqbs_pairs : ∀ (a b : List (Nat × Nat)), D.eqbs (a.map pD) (b.map pD) = decide (a = b)
  | [], [] => rfl
  | [], _ :: _ => rfl
  | _ :: _, [] => rfl
  | x :: a, y :: b => by
    rw [List.map_cons, List.map_cons]
    have : D.eqbs (pD x :: a.map pD) (pD y :: b.map pD) = (D.eqb (pD x) (pD y) && D.eqbs (a.map pD) (b.map pD)) := rfl
    rw [this, eqbs_pairs a b, eqb_pD]
    by_cases h : y = x
    · subst h; simp
    · have : x ≠ y := fun e => h e.symm
      simp [this, h]
theorem cmp_neI (a b : List Nat) : cmpD .NotEq (nI a) (nI b) = some (!decide (a = b)) := by
  show (if (D.oks 7 (a.map dN) && D.oks 7 (b.map dN)) = true then some (!D.eqbs (a.map dN) (b.map dN)) else none) = _
  have h7 : ∀ l : List Nat, D.oks 7 (l.map dN) = true := by
    intro l
    induction l with
    | nil => rfl
    | cons x l ih => exact ih
  rw [h7, h7, eqbs_ints]; rfl
theorem cmp_eqI (a b : List Nat) : cmpD .Eq (nI a) (nI b) = some (decide (a = b)) := by
  show (if (D.oks 7 (a.map dN) && D.oks 7 (b.map dN)) = true then some (D.eqbs (a.map dN) (b.map dN)) else none) = _
  have h7 : ∀ l : List Nat, D.oks 7 (l.map dN) = true := by
    intro l
    induction l with
    | nil => rfl
    | cons x l ih => exact ih
  rw [h7, h7, eqbs_ints]; rfl
theorem cmp_neP (a b : List (Nat × Nat)) : cmpD .NotEq (pI a) (pI b) = some (!decide (a = b)) := by
  show (if (D.oks 7 (a.map pD) && D.oks 7 (b.map pD)) = true then some (!D.eqbs (a.map pD) (b.map pD)) else none) = _
  rw [(oks_pairs a).1, (oks_pairs b).1, eqbs_pairs]; rfl
theorem cmp_eqN (a b : Nat) : cmpD .Eq (dN a) (dN b) = some (decide (a = b)) := by
  show some ((a : Int) == b) = _
  congr 1
  by_cases h : a = b
  · subst h; simp
  · have : (a : Int) ≠ b := by omega
    simp [this, h]
theorem cmp_ltN (a b : Nat) : cmpD .Lt (dN a) (dN b) = some (decide (a < b)) := by
  show some (decide ((a : Int) < b)) = _
  congr 1
  simp
theorem len_lst (l : List D) (h : l.length ≤ 2 ^ 20) : biD "len" [.lst l] = some (dN l.length) := by
  show (if l.length ≤ 2 ^ 20 then some (D.int l.length) else none) = _
  rw [if_pos h]
theorem idx_nat {α : Type} (l : List α) {k : Nat} (hk : k < l.length) (hs : k < 2 ^ 62) : idxD l (k : Int) = l[k]? := by
  unfold idxD
  have h1 : smallI (k : Int) = true := by unfold smallI; simp; exact hs
  rw [if_pos h1]
  have h2 : seqIndex? (k : Int) l.length = some k := by
    unfold seqIndex?
    simp
    omega
  rw [h2]; rfl
end Mine
end

section
open PySem PySem.W PyProof.Rows
set_option Elab.async false
namespace Mine
set_option maxRecDepth 100000
set_option maxHeartbeats 1000000
set_option linter.unusedVariables false
section
variable {Γ : List (Str × GV)} {n : Nat} {sc : List (Str × NameKind)} {cn own : List Str} {σ σ' : Sg} {d a b : D}
theorem allD1 {f : PySem.Expr → Option D} {e1 : PySem.Expr} (h1 : f e1 = some a) : allD f [e1] = some [a] := by
  show (f e1).bind _ = _
  rw [h1]; rfl
theorem allDc {f : PySem.Expr → Option D} {e1 : PySem.Expr} {es : List PySem.Expr} {l : List D} (h1 : f e1 = some a) (h2 : allD f es = some l) : allD f (e1 :: es) = some (a :: l) := by
  show (f e1).bind _ = _
  rw [h1]
  show (allD f es).bind _ = _
  rw [h2]; rfl
theorem allD2 {f : PySem.Expr → Option D} {e1 e2 : PySem.Expr} (h1 : f e1 = some a) (h2 : f e2 = some b) : allD f [e1, e2] = some [a, b] := allDc h1 (allD1 h2)
theorem ev_bin {l r : PySem.Expr} {op : Operator} {p : Pos} (hl : fwD σ (ev Γ n sc cn own σ) l = some a) (hr : fwD σ (ev Γ n sc cn own σ) r = some b) (h : binD op a b = some d) : ev Γ (n + 1) sc cn own σ (.BinOp l op r p) = some d := by
  show (fwD σ (ev Γ n sc cn own σ) l).bind (fun a => (fwD σ (ev Γ n sc cn own σ) r).bind fun b => binD op a b) = _
  rw [hl, hr]; exact h
theorem ev_cmp {l r : PySem.Expr} {op : CmpOp} {p : Pos} {c : Bool} (hs : setE r = false) (hl : fwD σ (ev Γ n sc cn own σ) l = some a) (hr : fwD σ (ev Γ n sc cn own σ) r = some b) (h : cmpD op a b = some c) : ev Γ (n + 1) sc cn own σ (.Compare l [op] [r] p) = some (.bool c) := by
  show (if setE r = true then none else (fwD σ (ev Γ n sc cn own σ) l).bind (fun a => (fwD σ (ev Γ n sc cn own σ) r).bind fun b => (cmpD op a b).map D.bool)) = _
  rw [hs, if_neg Bool.false_ne_true, hl, hr]
  show (cmpD op a b).map D.bool = _
  rw [h]; rfl
theorem tr_cmp {l r : PySem.Expr} {op : CmpOp} {p : Pos} {c : Bool} (hs : setE r = false) (hl : fwD σ (ev Γ n sc cn own σ) l = some a) (hr : fwD σ (ev Γ n sc cn own σ) r = some b) (h : cmpD op a b = some c) : tr Γ (n + 1) sc cn own σ (.Compare l [op] [r] p) = some c := by
  show (if setE r = true then none else (fwD σ (ev Γ n sc cn own σ) l).bind (fun a => (fwD σ (ev Γ n sc cn own σ) r).bind fun b => cmpD op a b)) = _
  rw [hs, if_neg Bool.false_ne_true, hl, hr]; exact h
theorem tr_and2 {x y : PySem.Expr} {p : Pos} {u v : Bool} (h1 : tr Γ n sc cn own σ x = some u) (h2 : u = true → tr Γ n sc cn own σ y = some v) : tr Γ (n + 1) sc cn own σ (.BoolOp .And [x, y] p) = some (u && v) := by
  show (tr Γ n sc cn own σ x).bind _ = _
  rw [h1]
  cases u with
  | false => rfl
  | true =>
    show (tr Γ n sc cn own σ y).bind _ = _
    rw [h2 rfl]
    cases v <;> rfl
theorem tr_or2 {x y : PySem.Expr} {p : Pos} {u v : Bool} (h1 : tr Γ n sc cn own σ x = some u) (h2 : u = false → tr Γ n sc cn own σ y = some v) : tr Γ (n + 1) sc cn own σ (.BoolOp .Or [x, y] p) = some (u || v) := by
  show (tr Γ n sc cn own σ x).bind _ = _
  rw [h1]
  cases u with
  | true => rfl
  | false =>
    show (tr Γ n sc cn own σ y).bind _ = _
    rw [h2 rfl]
    cases v <;> rfl
theorem tr_not {x : PySem.Expr} {p : Pos} {u : Bool} (h1 : tr Γ n sc cn own σ x = some u) : tr Γ (n + 1) sc cn own σ (.UnaryOp .Not x p) = some (!u) := by
  show (tr Γ n sc cn own σ x).map _ = _
  rw [h1]; rfl
theorem trAll_one {f : PySem.Expr → Option Bool} {c : PySem.Expr} {u : Bool} (h : f c = some u) : trAll f .And [c] = some u := by
  show (f c).bind _ = _
  rw [h]
  cases u <;> rfl
theorem trAll_nil {f : PySem.Expr → Option Bool} : trAll f .And [] = some true := rfl
theorem ev_comp {elt iter : PySem.Expr} {ifs : List PySem.Expr} {x : Str} {px pos : Pos} {scope : Scope} {src : D} {l res : List D}
    (hc : scopeOk scope cn = true ∧ scope.names.lookup x = some .local ∧ own.contains x = false ∧ setE iter = false ∧ ifs.length ≤ 1) (hs : ev Γ n sc cn own σ iter = some src) (hi : itemsD src = some l)
    (hres : compD (fun d => trAll (tr Γ n scope.names (freeN scope) own ((x, d) :: seen scope σ)) .And ifs) (fun d => ev Γ n scope.names (freeN scope) own ((x, d) :: seen scope σ) elt) l = some res) :
    ev Γ (n + 2) sc cn own σ (.ListComp elt [⟨.Name x px, iter, ifs, 0⟩] scope pos) = some (.lst res) := by
  show Option.map D.lst (if scopeOk scope cn = true ∧ scope.names.lookup x = some .local ∧ own.contains x = false ∧ setE iter = false ∧ ifs.length ≤ 1 then
            (ev Γ n sc cn own σ iter).bind fun src => (itemsD src).bind fun l =>
              compD (fun d => trAll (tr Γ n scope.names (freeN scope) own ((x, d) :: seen scope σ)) .And ifs) (fun d => ev Γ n scope.names (freeN scope) own ((x, d) :: seen scope σ) elt) l
          else none) = _
  rw [if_pos hc, hs]
  show Option.map D.lst ((itemsD src).bind _) = _
  rw [hi]
  show Option.map D.lst (compD _ _ l) = _
  rw [hres]; rfl
theorem fw_comp {elt iter : PySem.Expr} {ifs : List PySem.Expr} {x : Str} {px pos : Pos} {scope : Scope} {src : D} {l res : List D}
    (hc : scopeOk scope cn = true ∧ scope.names.lookup x = some .local ∧ own.contains x = false ∧ setE iter = false ∧ ifs.length ≤ 1) (hs : ev Γ n sc cn own σ iter = some src) (hi : itemsD src = some l)
    (hres : compD (fun d => trAll (tr Γ n scope.names (freeN scope) own ((x, d) :: seen scope σ)) .And ifs) (fun d => ev Γ n scope.names (freeN scope) own ((x, d) :: seen scope σ) elt) l = some res) :
    fwD σ (ev Γ (n + 2) sc cn own σ) (.ListComp elt [⟨.Name x px, iter, ifs, 0⟩] scope pos) = some (.lst res) := ev_comp (pos := pos) (px := px) hc hs hi hres
theorem ex_whl {t : PySem.Expr} {bd : List Stmt} {pos : Pos} {r : Option (Fl × Sg)} (h : whileD (fun τ => tr Γ n sc cn own τ t) (fun τ => exs Γ n sc cn own τ bd) n σ = r) : ex Γ (n + 1) sc cn own σ (.While t bd [] pos) = r := h
theorem ex_forr {x : Str} {px pos : Pos} {it : PySem.Expr} {bd : List Stmt} {lo hi : Int} {l : List D} {r : Option (Fl × Sg)} (hc : storeOk sc cn x = true ∧ own.contains x = false ∧ setE it = false) (hv : ev Γ n sc cn own σ it = some (.rng lo hi)) (hl : itemsD (.rng lo hi) = some l) (h : forD x (fun τ => exs Γ n sc cn own τ bd) l σ = r) : ex Γ (n + 1) sc cn own σ (.For (.Name x px) it bd [] pos) = r := by
  show (if ([] : List Stmt).isEmpty = true ∧ storeOk sc cn x = true ∧ own.contains x = false ∧ setE it = false then (ev Γ n sc cn own σ it).bind fun r => (rngO r).bind fun lh => (itemsD (.rng lh.1 lh.2)).bind fun l => forD x (fun τ => exs Γ n sc cn own τ bd) l σ else none) = _
  rw [if_pos ⟨rfl, hc⟩, hv]
  show (itemsD (.rng lo hi)).bind _ = _
  rw [hl]; exact h
theorem ex_aug' {x : Str} {px pos : Pos} {v : PySem.Expr} {i j : Int} (hc : storeOk sc cn x = true ∧ own.contains x = false) (h1 : σ.lookup x = some (.int i)) (h2 : ev Γ n sc cn own σ v = some (.int j)) : ex Γ (n + 1) sc cn own σ (.AugAssign (.Name x px) .Add v pos) = some (.next, setS σ x (.int (i + j))) := by
  show (if Operator.Add = .Add ∧ storeOk sc cn x = true ∧ own.contains x = false then ((σ.lookup x).bind intD).bind (fun i => ((ev Γ n sc cn own σ v).bind intD).map fun j => (Fl.next, setS σ x (.int (i + j)))) else none) = _
  rw [if_pos ⟨rfl, hc⟩, h1, h2]; rfl
theorem ex_app {x : Str} {px ap p pos : Pos} {e : PySem.Expr} {l : List D} (hc : own.contains x = true ∧ (ap.endLine == p.line) = true) (h1 : σ.lookup x = some (.lst l)) (h2 : ev Γ n sc cn own σ e = some d) (hl : l.length ≤ 2 ^ 20) : ex Γ (n + 1) sc cn own σ (.Expr (.Call (.Attribute (.Name x px) (Str.ofString "append") ap) [e] [] p) pos) = some (.next, setS σ x (.lst (l ++ [d]))) := by
  show (if own.contains x = true ∧ (ap.endLine == p.line) = true then ((σ.lookup x).bind lstO).bind (fun l => (ev Γ n sc cn own σ e).bind fun d => if Str.ofString "append" = Str.ofString "append" then (if l.length ≤ 2 ^ 20 then some (Fl.next, setS σ x (.lst (l ++ [d]))) else none) else if Str.ofString "append" = Str.ofString "extend" then (lstO d).bind (fun l' => if l.length + l'.length ≤ 2 ^ 20 then some (Fl.next, setS σ x (.lst (l ++ l'))) else none) else none) else none) = _
  rw [if_pos hc, h1, h2]
  show (if Str.ofString "append" = Str.ofString "append" then (if l.length ≤ 2 ^ 20 then some (Fl.next, setS σ x (.lst (l ++ [d]))) else none) else if Str.ofString "append" = Str.ofString "extend" then (lstO d).bind (fun l' => if l.length + l'.length ≤ 2 ^ 20 then some (Fl.next, setS σ x (.lst (l ++ l'))) else none) else none) = _
  rw [if_pos rfl, if_pos hl]
theorem ex_ext {x : Str} {px ap p pos : Pos} {e : PySem.Expr} {l l' : List D} (hc : own.contains x = true ∧ (ap.endLine == p.line) = true) (h1 : σ.lookup x = some (.lst l)) (h2 : ev Γ n sc cn own σ e = some (.lst l')) (hl : l.length + l'.length ≤ 2 ^ 20) : ex Γ (n + 1) sc cn own σ (.Expr (.Call (.Attribute (.Name x px) (Str.ofString "extend") ap) [e] [] p) pos) = some (.next, setS σ x (.lst (l ++ l'))) := by
  show (if own.contains x = true ∧ (ap.endLine == p.line) = true then ((σ.lookup x).bind lstO).bind (fun l => (ev Γ n sc cn own σ e).bind fun d => if Str.ofString "extend" = Str.ofString "append" then (if l.length ≤ 2 ^ 20 then some (Fl.next, setS σ x (.lst (l ++ [d]))) else none) else if Str.ofString "extend" = Str.ofString "extend" then (lstO d).bind fun l' => if l.length + l'.length ≤ 2 ^ 20 then some (Fl.next, setS σ x (.lst (l ++ l'))) else none else none) else none) = _
  rw [if_pos hc, h1, h2]
  have : ¬ (Str.ofString "extend" = Str.ofString "append") := by decide +kernel
  show (if Str.ofString "extend" = Str.ofString "append" then (if l.length ≤ 2 ^ 20 then some (Fl.next, setS σ x (.lst (l ++ [D.lst l']))) else none) else if Str.ofString "extend" = Str.ofString "extend" then (if l.length + l'.length ≤ 2 ^ 20 then some (Fl.next, setS σ x (.lst (l ++ l'))) else none) else none) = _
  rw [if_neg this, if_pos rfl, if_pos hl]
theorem whileD_iter {test : Sg → Option Bool} {body : Sg → Option (Fl × Sg)} (σs : Nat → Sg) (F : Nat) (h1 : ∀ i, i < F → test (σs i) = some true) (h2 : test (σs F) = some false) (h3 : ∀ i, i < F → body (σs i) = some (.next, σs (i + 1))) : ∀ (j fuel i : Nat), i + j = F → j < fuel → whileD test body fuel (σs i) = some (.next, σs F)
  | _, 0, _, _, h => absurd h (Nat.not_lt_zero _)
  | 0, fuel + 1, i, e, h => by
    have : i = F := by omega
    subst this
    show (test (σs i)).bind _ = _
    rw [h2]; rfl
  | j + 1, fuel + 1, i, e, h => by
    show (test (σs i)).bind _ = _
    rw [h1 i (by omega)]
    show (body (σs i)).bind _ = _
    rw [h3 i (by omega)]
    exact whileD_iter σs F h1 h2 h3 j fuel (i + 1) (by omega) (by omega)
theorem fnD_ret {params : List Str} {scope : Scope} {body : List Stmt} {ds : List D} (hl : ds.length = params.length) (h : exs Γ n scope.names (cellN scope) own (params.zip ds) body = some (.ret d, σ')) : fnD Γ n params scope own body ds = some d := by
  unfold fnD
  rw [if_pos hl, h]
end
end Mine
end

section
open PySem PySem.W PyProof.Rows
set_option Elab.async false
namespace Mine
set_option maxRecDepth 100000
set_option maxHeartbeats 1000000
set_option linter.unusedVariables false

noncomputable def wD (ways : List (List Nat)) : D := .lst (ways.map nI)
noncomputable def nbW (ways : List (List Nat)) (p : Nat) : List Nat := ways.getD p []
noncomputable def metStep (ways : List (List Nat)) (met : List Nat) : List Nat := met ++ (List.range 4).filter fun q => !decide (q ∈ met) && !decide ((nbW ways q).filter (fun p => decide (p ∈ met)) = [])
noncomputable def mets (ways : List (List Nat)) (s : Nat) : Nat → List Nat
  | 0 => [s]
  | n + 1 => metStep ways (mets ways s n)
theorem metStep_len (ways : List (List Nat)) (met : List Nat) : (metStep ways met).length ≤ met.length + 4 := by
  unfold metStep
  rw [List.length_append]
  have := List.length_filter_le (fun q => !decide (q ∈ met) && !decide ((nbW ways q).filter (fun p => decide (p ∈ met)) = [])) (List.range 4)
  rw [List.length_range] at this
  omega

theorem wD_item {ways : List (List Nat)} {q : Nat} (hq : q < ways.length) (h4 : ways.length ≤ 4) : itemD (wD ways) (dN q) = some (nI (nbW ways q)) := by
  show idxD (ways.map nI) (q : Int) = _
  rw [idx_nat _ (by rw [List.length_map]; exact hq) (by omega), List.getElem?_map]
  unfold nbW
  rw [List.getD_eq_getElem?_getD, List.getElem?_eq_getElem hq]
  rfl

noncomputable def sFar (ways : List (List Nat)) (s i : Nat) : Sg := [(S "ways", wD ways), (S "start", dN s), (S "met", nI (mets ways s i)), (S "steps", dN i)]

theorem far_val {ways : List (List Nat)} {s F : Nat} (hw : ways.length = 4) (hd : ∀ q, (nbW ways q).length ≤ 4) (h1 : ∀ n, n < F → (mets ways s n).length < 4) (h2 : 4 ≤ (mets ways s F).length) (hF : F ≤ 10) (h3 : (mets ways s F).length ≤ 8) : mkF G1 fd_far.1 [] [wD ways, dN s] = some (dN F) := by
  refine fnD_ret (σ' := sFar ways s F) (by rfl) ?_
  refine (exs_next (ex_asg (d := nI [s]) ⟨by rfl, fun h => by cases h⟩ (by rfl))).trans ?_
  refine (exs_next (ex_asg (d := dN 0) ⟨by rfl, fun h => by cases h⟩ (by rfl))).trans ?_
  refine (exs_next (σ' := sFar ways s F) (ex_whl ?_)).trans ?_
  · refine whileD_iter (sFar ways s) F (fun i hi => ?_) ?_ (fun i hi => ?_) F _ 0 (by omega) (by omega)
    · show (biD "len" [nI (mets ways s i)]).bind (fun a => cmpD .Lt a (.int 4)) = some true
      have := h1 i hi
      unfold nI
      rw [len_lst _ (by rw [List.length_map]; omega), List.length_map]
      show cmpD .Lt (dN _) (dN 4) = _
      rw [cmp_ltN, decide_eq_true this]
    · show (biD "len" [nI (mets ways s F)]).bind (fun a => cmpD .Lt a (.int 4)) = some false
      unfold nI
      rw [len_lst _ (by rw [List.length_map]; omega), List.length_map]
      show cmpD .Lt (dN _) (dN 4) = _
      rw [cmp_ltN, decide_eq_false (by omega)]
    · have hm := h1 i hi
      refine (exs_next (σ' := setS (sFar ways s i) (S "met") (nI (mets ways s (i + 1)))) (ex_asg ⟨by rfl, fun h => by cases h⟩ ?_)).trans ?_
      · refine ev_bin (a := nI (mets ways s i)) (b := .lst (((List.range 4).filter fun q => !decide (q ∈ mets ways s i) && !decide ((nbW ways q).filter (fun p => decide (p ∈ mets ways s i)) = [])).map dN)) (by rfl) ?_ ?_
        · refine fw_comp (src := .rng 0 4) (l := (List.range 4).map dN) ⟨by decide +kernel, by rfl, by rfl, by rfl, by decide⟩ (by rfl) (by rfl) ?_
          refine compD_map (List.range 4) (fun q hq => ?_) (fun q hq ht => by rfl)
          have hq4 : q < 4 := List.mem_range.mp hq
          refine trAll_one (tr_and2 ?_ fun _ => ?_)
          · exact tr_cmp (a := dN q) (b := nI (mets ways s i)) (by rfl) (by rfl) (by rfl) (cmp_notin _ _)
          · refine tr_cmp (a := nI ((nbW ways q).filter fun p => decide (p ∈ mets ways s i))) (b := nI []) (by rfl) ?_ (by rfl) (cmp_neI _ _)
            refine fw_comp (src := nI (nbW ways q)) (l := (nbW ways q).map dN) ⟨by decide +kernel, by rfl, by rfl, by rfl, by decide⟩ ?_ ?_ ?_
            · show itemD (wD ways) (dN q) = _
              exact wD_item (by omega) (by omega)
            · show (if ((nbW ways q).map dN).length ≤ 2 ^ 20 then some ((nbW ways q).map dN) else none) = _
              have := hd q
              rw [if_pos (by rw [List.length_map]; omega)]
            · refine compD_map (t := fun p => decide (p ∈ mets ways s i)) (nbW ways q) (fun p hp => ?_) (fun p hp ht => ?_)
              · exact trAll_one (tr_cmp (a := dN p) (b := nI (mets ways s i)) (by rfl) (by rfl) (by rfl) (cmp_in _ _))
              · rfl
        · show (if ((mets ways s i).map dN).length + (((List.range 4).filter _).map dN).length ≤ 2 ^ 20 then some (D.lst (_ ++ _)) else none) = _
          rw [if_pos]
          · show some (D.lst _) = some (nI (metStep ways (mets ways s i)))
            unfold nI metStep
            rw [List.map_append]
          · rw [List.length_map, List.length_map]
            have := List.length_filter_le (fun q => !decide (q ∈ mets ways s i) && !decide ((nbW ways q).filter (fun p => decide (p ∈ mets ways s i)) = [])) (List.range 4)
            rw [List.length_range] at this
            omega
      · refine (exs_next (ex_aug' (i := i) (j := 1) ⟨by rfl, by rfl⟩ (by rfl) (by rfl))).trans ?_
        exact exs_end
  · exact exs_ret (ex_ret' (by rfl))
end Mine
end

section
open PySem PySem.W PyProof.Rows
open PySem.Builtin.Str
set_option Elab.async false
namespace Mine
set_option maxRecDepth 100000
set_option maxHeartbeats 1000000
set_option linter.unusedVariables false

noncomputable def hitS (x y : Str) (i : Nat) : Bool := decide (i + y.length ≤ x.length) && subAt x y i

theorem occ_go (x y : Str) (hov : ∀ i j, hitS x y i = true → i < j → j < i + y.length → hitS x y j = false) : ∀ (l : List Nat) (st : Array Nat × Nat) (o : Nat), l = List.range' o l.length → st.1.size ≤ o → o + l.length ≤ x.length + 1 → (∀ i, o ≤ i → i < st.2 → hitS x y i = false) →
    (forIn l st (StrLaws.occBody x y x.length (x.length + 1))).run.fst.toList = st.1.toList ++ l.filter (hitS x y)
  | [], st, o, _, _, _, _ => by simp
  | i :: l, st, o, hl, hs, ho, hf => by
    rw [List.length_cons, List.range'_succ] at hl
    obtain ⟨rfl, hl'⟩ := List.cons.inj hl
    obtain ⟨arr, free⟩ := st
    rw [List.length_cons] at ho
    rw [List.forIn_cons]
    unfold StrLaws.occBody
    by_cases hh : hitS x y i = true
    · have hfree : free ≤ i := Nat.le_of_not_lt fun q => by rw [hf i (Nat.le_refl _) q] at hh; cases hh
      have hcond : ((arr.size < x.length + 1 ∧ free ≤ i) ∧ i + y.length ≤ x.length) ∧ subAt x y i = true := by
        unfold hitS at hh
        rw [Bool.and_eq_true] at hh
        have h1 : arr.size ≤ i := hs
        exact ⟨⟨⟨by omega, hfree⟩, of_decide_eq_true hh.1⟩, hh.2⟩
      rw [if_pos hcond]
      have ih := occ_go x y hov l (arr.push i, i + y.length) (i + 1) hl' (by simp; exact hs) (by omega) (fun j h1 h2 => hov i j hh (by omega) h2)
      rw [List.filter_cons_of_pos hh]
      refine Eq.trans ih ?_
      simp
    · have hcond : ¬ (((arr.size < x.length + 1 ∧ free ≤ i) ∧ i + y.length ≤ x.length) ∧ subAt x y i = true) := by
        rintro ⟨⟨_, h1⟩, h2⟩
        refine hh ?_
        unfold hitS
        rw [h2, decide_eq_true h1]; rfl
      rw [if_neg hcond]
      have ih := occ_go x y hov l (arr, free) (i + 1) hl' (by have : arr.size ≤ i := hs; show arr.size ≤ i + 1; omega) (by omega) (fun j h1 h2 => hf j (by omega) h2)
      rw [List.filter_cons_of_neg hh]
      exact ih
theorem occ_filter (x y : Str) (hov : ∀ i j, hitS x y i = true → i < j → j < i + y.length → hitS x y j = false) : occurrences x y 0 x.length (x.length + 1) = (List.range' 0 (x.length + 1)).filter (hitS x y) := by
  rw [StrLaws.occ_eq]
  have := occ_go x y hov (List.range' 0 (x.length + 1 - 0)) (#[], 0) 0 (by rw [List.length_range']) (Nat.le_refl _) (by rw [List.length_range']; omega) (fun i _ h => absurd h (Nat.not_lt_zero _))
  rw [this]
  simp

/-- a text of code points -/
noncomputable abbrev tx (l : List Nat) : Str := ⟨l.toArray⟩
theorem tx_length (l : List Nat) : (tx l).length = l.length := by show l.toArray.size = _; simp

theorem sub_one {l : List Nat} {c i : Nat} (hi : i < l.length) : subAt (tx l) (tx [c]) i = decide (l.getD i 0 = c) := by
  unfold subAt
  have h1 : (tx [c]).length = 1 := rfl
  rw [h1]
  have e : (tx l).cps.extract i (i + 1) = #[l.getD i 0] := by
    apply Array.ext'
    show (l.toArray.extract i (i + 1)).toList = [l.getD i 0]
    rw [show (l.toArray.extract i (i + 1)).toList = (l.drop i).take (i + 1 - i) by simp]
    have : i + 1 - i = 1 := by omega
    rw [this, drop_split hi]; rfl
  rw [e]
  by_cases h : l.getD i 0 = c
  · rw [h]; simp
  · rw [decide_eq_false h]
    simp only [beq_eq_false_iff_ne]
    intro q
    have q' := congrArg Array.toList q
    simp only [List.cons.injEq, and_true] at q'
    exact h q'
theorem sub_two {l : List Nat} {c d i : Nat} (hi : i + 1 < l.length) : subAt (tx l) (tx [c, d]) i = decide (l.getD i 0 = c ∧ l.getD (i + 1) 0 = d) := by
  unfold subAt
  have h1 : (tx [c, d]).length = 2 := rfl
  rw [h1]
  have e : (tx l).cps.extract i (i + 2) = #[l.getD i 0, l.getD (i + 1) 0] := by
    apply Array.ext'
    show (l.toArray.extract i (i + 2)).toList = [l.getD i 0, l.getD (i + 1) 0]
    rw [show (l.toArray.extract i (i + 2)).toList = (l.drop i).take (i + 2 - i) by simp]
    have : i + 2 - i = 2 := by omega
    rw [this, drop_split (by omega : i < l.length), drop_split hi]; rfl
  rw [e]
  by_cases h : l.getD i 0 = c ∧ l.getD (i + 1) 0 = d
  · rw [h.1, h.2]; simp
  · rw [decide_eq_false h]
    simp only [beq_eq_false_iff_ne]
    intro q
    have q' := congrArg Array.toList q
    simp only [List.cons.injEq, and_true] at q'
    exact h q'

theorem filter_getD {P : Nat → Bool} : ∀ (l : List Nat) (o : Nat) (Q : Nat → Bool), (∀ j, j < l.length → Q (o + j) = P (l.getD j 0)) → ((List.range' o l.length).filter Q).length = l.countP P
  | [], o, Q, _ => rfl
  | a :: l, o, Q, h => by
    rw [List.length_cons, List.range'_succ]
    have h0 : Q o = P a := h 0 (by simp)
    have ih := filter_getD l (o + 1) Q fun j hj => by
      have := h (j + 1) (by rw [List.length_cons]; omega)
      have e : o + 1 + j = o + (j + 1) := by omega
      rw [e, this]; rfl
    rw [List.countP_cons]
    by_cases hp : P a = true
    · rw [List.filter_cons_of_pos (by rw [h0]; exact hp), List.length_cons, ih, if_pos hp]
    · rw [List.filter_cons_of_neg (by rw [h0]; exact hp), ih, if_neg hp]; rfl

theorem count_one (l : List Nat) (c : Nat) : Txt.count (tx l) (tx [c]) = ((l.countP (fun z => decide (z = c)) : Nat) : Int) := by
  unfold Txt.count
  rw [occ_filter]
  · congr 1
    rw [tx_length]
    have e : List.range' 0 (l.length + 1) = List.range' 0 l.length ++ [l.length] := by rw [List.range'_concat]; simp
    rw [e, List.filter_append, List.length_append]
    have h0 : hitS (tx l) (tx [c]) l.length = false := by
      unfold hitS
      rw [show (tx [c]).length = 1 from rfl, tx_length, decide_eq_false (by omega)]; rfl
    rw [List.filter_cons_of_neg (by rw [h0]; decide), List.filter_nil, List.length_nil, Nat.add_zero]
    refine filter_getD l 0 _ fun j hj => ?_
    rw [Nat.zero_add]
    unfold hitS
    rw [show (tx [c]).length = 1 from rfl, tx_length, decide_eq_true (by omega), Bool.true_and, sub_one hj]
  · intro i j _ h1 h2
    rw [show (tx [c]).length = 1 from rfl] at h2
    omega
end Mine
end

section
open PySem PySem.W PyProof.Rows
open PySem.Builtin.Str
set_option Elab.async false
namespace Mine
set_option maxRecDepth 100000
set_option maxHeartbeats 1000000
set_option linter.unusedVariables false

noncomputable def txt (rs : List (List Nat)) : List Nat := rs.flatMap fun r => r ++ [13, 10]
noncomputable def cuts : Nat → List (List Nat) → List Nat
  | _, [] => []
  | o, r :: rs => (o + r.length) :: cuts (o + r.length + 2) rs

theorem getD_drop' (l : List Nat) (o j : Nat) : l.getD (o + j) 0 = (l.drop o).getD j 0 := by
  rw [List.getD_eq_getElem?_getD, List.getD_eq_getElem?_getD, List.getElem?_drop]
theorem getD_left {a b : List Nat} {j : Nat} (h : j < a.length) : (a ++ b).getD j 0 = a.getD j 0 := by
  rw [List.getD_eq_getElem?_getD, List.getD_eq_getElem?_getD, List.getElem?_append_left h]
theorem getD_right {a b : List Nat} (j : Nat) : (a ++ b).getD (a.length + j) 0 = b.getD j 0 := by
  rw [List.getD_eq_getElem?_getD, List.getD_eq_getElem?_getD, List.getElem?_append_right (by omega)]
  congr 2
  omega
theorem mem_getD {a : List Nat} {j : Nat} (h : j < a.length) : a.getD j 0 ∈ a := by
  rw [List.getD_eq_getElem?_getD, List.getElem?_eq_getElem h]
  exact List.getElem_mem h

theorem hit_two {l : List Nat} {i : Nat} : hitS (tx l) (tx [13, 10]) i = (decide (i + 2 ≤ l.length) && decide (l.getD i 0 = 13 ∧ l.getD (i + 1) 0 = 10)) := by
  unfold hitS
  rw [show (tx [13, 10]).length = 2 from rfl, tx_length]
  by_cases h : i + 2 ≤ l.length
  · rw [sub_two (by omega)]
  · rw [decide_eq_false h]; rfl

theorem hit_no {l : List Nat} {i : Nat} (h : l.getD i 0 ≠ 13) : hitS (tx l) (tx [13, 10]) i = false := by
  have hd : decide (l.getD i 0 = 13 ∧ l.getD (i + 1) 0 = 10) = false := decide_eq_false fun q => h q.1
  rw [hit_two, hd, Bool.and_false]
theorem hits_cuts (l : List Nat) : ∀ (rs : List (List Nat)) (o : Nat), (∀ r ∈ rs, 13 ∉ r) → l.drop o = txt rs → o + (txt rs).length = l.length → (List.range' o ((txt rs).length + 1)).filter (hitS (tx l) (tx [13, 10])) = cuts o rs
  | [], o, _, hd, hl => by
    show (List.range' o 1).filter _ = []
    rw [show List.range' o 1 = [o] from rfl]
    have : hitS (tx l) (tx [13, 10]) o = false := by
      rw [hit_two, decide_eq_false (by rw [← hl]; simp [txt])]; rfl
    rw [List.filter_cons_of_neg (by rw [this]; decide)]; rfl
  | r :: rs, o, hr, hd, hl => by
    have et : txt (r :: rs) = r ++ (13 :: 10 :: txt rs) := by simp [txt]
    have elen : (txt (r :: rs)).length = r.length + (2 + (txt rs).length) := by rw [et, List.length_append, List.length_cons, List.length_cons]; omega
    have ih := hits_cuts l rs (o + r.length + 2) (fun r' h => hr r' (List.mem_cons_of_mem _ h)) (by
      have : l.drop (o + r.length + 2) = (l.drop o).drop (r.length + 2) := by rw [List.drop_drop]; congr 1
      rw [this, hd, et, ← List.drop_drop, List.drop_left]; rfl) (by rw [elen] at hl; omega)
    rw [elen]
    have e1 : List.range' o (r.length + (2 + (txt rs).length) + 1) = List.range' o r.length ++ ((o + r.length) :: (o + r.length + 1) :: List.range' (o + r.length + 2) ((txt rs).length + 1)) := by
      have : r.length + (2 + (txt rs).length) + 1 = r.length + (((txt rs).length + 1) + 1 + 1) := by omega
      rw [this, ← List.range'_append_1, List.range'_succ, List.range'_succ]
    rw [e1, List.filter_append]
    have g : ∀ j, l.getD (o + j) 0 = (r ++ (13 :: 10 :: txt rs)).getD j 0 := fun j => by rw [getD_drop', hd, et]
    have n0 : (List.range' o r.length).filter (hitS (tx l) (tx [13, 10])) = [] := by
      rw [List.filter_eq_nil_iff]
      intro i hi
      rw [List.mem_range'_1] at hi
      have e : l.getD i 0 = r.getD (i - o) 0 := by
        have := g (i - o)
        have e2 : o + (i - o) = i := by omega
        rw [e2] at this
        rw [this, getD_left (by omega)]
      have hne : l.getD i 0 ≠ 13 := by
        rw [e]
        intro q
        exact hr r List.mem_cons_self (q ▸ mem_getD (by omega))
      rw [hit_no hne]; decide
    have g1 : l.getD (o + r.length) 0 = 13 := by have := g (r.length + 0); rw [getD_right] at this; exact this
    have g2 : l.getD (o + r.length + 1) 0 = 10 := by have := g (r.length + 1); rw [getD_right] at this; exact this
    have h1 : hitS (tx l) (tx [13, 10]) (o + r.length) = true := by
      rw [hit_two, decide_eq_true (by rw [elen] at hl; omega), decide_eq_true ⟨g1, g2⟩]; rfl
    have h2 : hitS (tx l) (tx [13, 10]) (o + r.length + 1) = false := hit_no (by rw [g2]; decide)
    rw [n0, List.nil_append, List.filter_cons_of_pos h1, List.filter_cons_of_neg (by rw [h2]; decide), ih]
    rfl

theorem parts_cuts (l : List Nat) : ∀ (rs : List (List Nat)) (o : Nat), l.drop o = txt rs → o + (txt rs).length = l.length → ((o :: (cuts o rs).map (· + 2)).zip (cuts o rs ++ [l.length])).map (fun (p : Nat × Nat) => strSub (tx l) p.1 p.2) = rs.map tx ++ [tx []]
  | [], o, hd, hl => by
    have e : o = l.length := by rw [← hl]; simp [txt]
    simp only [cuts, List.map_nil, List.nil_append, List.zip_cons_cons, List.zip_nil_left, List.map_cons]
    rw [e]
    unfold strSub
    simp
  | r :: rs, o, hd, hl => by
    have et : txt (r :: rs) = r ++ (13 :: 10 :: txt rs) := by simp [txt]
    have elen : (txt (r :: rs)).length = r.length + (2 + (txt rs).length) := by rw [et, List.length_append, List.length_cons, List.length_cons]; omega
    have ih := parts_cuts l rs (o + r.length + 2) (by
      have : l.drop (o + r.length + 2) = (l.drop o).drop (r.length + 2) := by rw [List.drop_drop]; congr 1
      rw [this, hd, et, ← List.drop_drop, List.drop_left]; rfl) (by rw [elen] at hl; omega)
    simp only [cuts, List.map_cons, List.cons_append, List.zip_cons_cons]
    rw [ih]
    congr 1
    unfold strSub
    have e2 : (l.toArray.extract o (o + r.length)).toList = r := by
      rw [show (l.toArray.extract o (o + r.length)).toList = (l.drop o).take (o + r.length - o) by simp]
      have : o + r.length - o = r.length := by omega
      rw [this, hd, et, List.take_left]
    show (⟨l.toArray.extract o (o + r.length)⟩ : Str) = ⟨r.toArray⟩
    congr 1
    apply Array.ext'
    rw [e2]

theorem strKind_pos (x : Str) : 1 ≤ Builtin.Str.strKind x := by
  unfold Builtin.Str.strKind
  split
  · exact Nat.le_refl _
  · split <;> omega
theorem split_rows {rs : List (List Nat)} (hne : rs ≠ []) (hr : ∀ r ∈ rs, 13 ∉ r) : Txt.split (tx (txt rs)) (tx [13, 10]) = rs.map tx ++ [tx []] := by
  have hocc : occurrences (tx (txt rs)) (tx [13, 10]) 0 (tx (txt rs)).length ((tx (txt rs)).length + 1) = cuts 0 rs := by
    rw [occ_filter]
    · rw [tx_length]
      exact hits_cuts (txt rs) rs 0 hr rfl (Nat.zero_add _)
    · intro i j hi h1 h2
      rw [show (tx [13, 10]).length = 2 from rfl] at h2
      have : j = i + 1 := by omega
      subst this
      rw [hit_two, Bool.and_eq_true] at hi
      have hq := of_decide_eq_true hi.2
      exact hit_no (by rw [hq.2]; decide)
  unfold Txt.split
  obtain ⟨r, rs', rfl⟩ : ∃ r rs', rs = r :: rs' := by
    cases rs with
    | nil => exact absurd rfl hne
    | cons r rs' => exact ⟨r, rs', rfl⟩
  have hk : Builtin.Str.strKind (tx [13, 10]) = 1 := by decide +kernel
  rw [if_neg, hocc, if_neg]
  · unfold partsBetween
    rw [show (tx [13, 10]).length = 2 from rfl, tx_length]
    exact parts_cuts (txt (r :: rs')) (r :: rs') 0 rfl (Nat.zero_add _)
  · simp [cuts]
  · rw [hk, tx_length, show (tx [13, 10]).length = 2 from rfl]
    have h1 := strKind_pos (tx (txt (r :: rs')))
    have h2 : 2 ≤ (txt (r :: rs')).length := by simp [txt]; omega
    simp
    omega
end Mine
end

section
open PySem PySem.W PyProof.Rows
set_option Elab.async false
namespace Mine
set_option maxRecDepth 100000
set_option maxHeartbeats 1000000
set_option linter.unusedVariables false

noncomputable def rowL (p k here : Nat) : List Nat := if p = here then List.replicate k 46 ++ [97 + p] else (97 + p) :: List.replicate k 46
noncomputable def sepL (i : Nat) : List Nat := if i % 3 = 0 then [10] else if i % 3 = 1 then [13] else [13, 10]

theorem fold_rep (c : Nat) : ∀ (k : Nat) (acc : Array Nat), ((List.replicate k #[c]).foldl (· ++ ·) acc).toList = acc.toList ++ List.replicate k c
  | 0, acc => by simp
  | k + 1, acc => by rw [List.replicate_succ, List.foldl_cons, fold_rep c k]; simp [List.replicate_succ]
theorem mul_dot (k : Nat) : Txt.mul (tx [46]) (k : Int) = tx (List.replicate k 46) := by
  unfold Txt.mul
  by_cases h0 : k = 0
  · subst h0; rfl
  · rw [if_neg (by omega)]
    by_cases h1 : k = 1
    · subst h1; rfl
    · have hb : ((k : Int) == 1 || (tx [46]).length == 0) = false := by
        have : ((k : Int) == 1) = false := by simp; omega
        rw [this]; rfl
      rw [hb]
      simp only [Bool.false_eq_true, if_false, Int.toNat_natCast]
      show (⟨_⟩ : Str) = ⟨_⟩
      congr 1
      apply Array.ext'
      show ((List.replicate k #[46]).foldl (· ++ ·) #[]).toList = _
      rw [fold_rep]; simp

theorem tx_append (a b : List Nat) : tx a ++ tx b = tx (a ++ b) := by
  show (⟨a.toArray ++ b.toArray⟩ : Str) = ⟨(a ++ b).toArray⟩
  congr 1
  simp
theorem add_tx (a b : List Nat) (h : a.length + b.length ≤ 2 ^ 20) : binD .Add (.str (tx a)) (.str (tx b)) = some (.str (tx (a ++ b))) := by
  show (if (tx a).length + (tx b).length ≤ 2 ^ 20 then some (D.str (tx a ++ tx b)) else none) = _
  rw [tx_length, tx_length, if_pos h, tx_append]
theorem mul_tx (k : Nat) (h : k ≤ 4096) : binD .Mult (.str (tx [46])) (dN k) = some (.str (tx (List.replicate k 46))) := by
  show (if (tx [46]).length ≤ 4 ∧ (0 : Int) ≤ k ∧ (k : Int) ≤ 4096 then some (D.str (Txt.mul (tx [46]) k)) else none) = _
  rw [if_pos ⟨by decide, by omega, by omega⟩, mul_dot]
theorem S_dot : S "." = tx [46] := by decide +kernel
theorem abcd_item {p : Nat} (hp : p < 4) : itemD (.str (S "abcd")) (dN p) = some (.str (tx [97 + p])) := by
  have hc := lt4 (p := p) hp
  rcases hc with e | e | e | e <;> subst e <;> rfl

noncomputable def sRow (p k here : Nat) : Sg := [(S "p", dN p), (S "dots", dN k), (S "here", dN here)]
theorem ev_ifT {Γ : List (Str × GV)} {n : Nat} {sc : List (Str × NameKind)} {cn own : List Str} {σ : Sg} {t b o : PySem.Expr} {pos : Pos} {d : D} (ht : tr Γ n sc cn own σ t = some true) (hb : ev Γ n sc cn own σ b = some d) : ev Γ (n + 1) sc cn own σ (.IfExp t b o pos) = some d := by
  show (tr Γ n sc cn own σ t).bind _ = _
  rw [ht]; exact hb
theorem ev_ifF {Γ : List (Str × GV)} {n : Nat} {sc : List (Str × NameKind)} {cn own : List Str} {σ : Sg} {t b o : PySem.Expr} {pos : Pos} {d : D} (ht : tr Γ n sc cn own σ t = some false) (hb : ev Γ n sc cn own σ o = some d) : ev Γ (n + 1) sc cn own σ (.IfExp t b o pos) = some d := by
  show (tr Γ n sc cn own σ t).bind _ = _
  rw [ht]; exact hb

theorem ex_ret2 {Γ : List (Str × GV)} {n : Nat} {sc : List (Str × NameKind)} {cn own : List Str} {σ : Sg} {e : PySem.Expr} {pos : Pos} {d : D} (hn : ∀ f : PySem.Expr → Option D, retD own σ f e = f e) (hv : ev Γ n sc cn own σ e = some d) : ex Γ (n + 1) sc cn own σ (.Return (some e) pos) = some (.ret d, σ) := ex_ret' (by rw [hn]; exact hv)
theorem row_val {p k here : Nat} (hp : p < 4) (hk : k ≤ 4096) : mkF G1 fd_row.1 [] [dN p, dN k, dN here] = some (.str (tx (rowL p k here))) := by
  have hm : binD .Mult (.str (S ".")) (dN k) = some (.str (tx (List.replicate k 46))) := by rw [S_dot]; exact mul_tx k hk
  refine fnD_ret (σ' := sRow p k here) (by rfl) ?_
  refine exs_ret (ex_ret2 (fun _ => rfl) ?_)
  by_cases h : p = here
  · refine ev_ifT ?_ ?_
    · exact tr_cmp (a := dN p) (b := dN here) (by rfl) (by rfl) (by rfl) (by rw [cmp_eqN, decide_eq_true h])
    · refine ev_bin (a := .str (tx (List.replicate k 46))) (b := .str (tx [97 + p])) ?_ ?_ ?_
      · exact hm
      · exact abcd_item hp
      · unfold rowL
        rw [if_pos h]
        exact add_tx _ _ (by simp; omega)
  · refine ev_ifF ?_ ?_
    · exact tr_cmp (a := dN p) (b := dN here) (by rfl) (by rfl) (by rfl) (by rw [cmp_eqN, decide_eq_false h])
    · refine ev_bin (a := .str (tx [97 + p])) (b := .str (tx (List.replicate k 46))) ?_ ?_ ?_
      · exact abcd_item hp
      · exact hm
      · unfold rowL
        rw [if_neg h]
        exact add_tx _ _ (by simp; omega)

/-- no return, no feed -/
noncomputable def cl (r : List Nat) : Prop := ∀ c ∈ r, c ≠ 10 ∧ c ≠ 13
theorem nrm_cl : ∀ (r : List Nat) (b : Bool) (rest : List Nat), cl r → r ≠ [] → nrmB b (r ++ rest) = r ++ nrmB false rest
  | [], _, _, _, h => absurd rfl h
  | c :: r, b, rest, hc, _ => by
    obtain ⟨h1, h2⟩ := hc c List.mem_cons_self
    show nrmB b (c :: (r ++ rest)) = _
    rw [nrmB, if_neg h2, if_neg h1]
    cases r with
    | nil => rfl
    | cons d r =>
      rw [nrm_cl (d :: r) false rest (fun z hz => hc z (List.mem_cons_of_mem _ hz)) (by simp)]; rfl
theorem nrm_rows : ∀ (rs : List (List Nat × Nat)), (∀ r ∈ rs, cl r.1 ∧ r.1 ≠ []) → nrmB false (rs.flatMap fun r => r.1 ++ sepL r.2) = txt (rs.map (·.1))
  | [], _ => rfl
  | (r, i) :: rs, h => by
    have h0 := h (r, i) List.mem_cons_self
    have ih := nrm_rows rs fun z hz => h z (List.mem_cons_of_mem _ hz)
    have hh : (rs.flatMap fun r => r.1 ++ sepL r.2).head? ≠ some 10 := by
      cases rs with
      | nil => simp
      | cons z zs =>
        obtain ⟨hz1, hz2⟩ := h z (List.mem_cons_of_mem _ List.mem_cons_self)
        obtain ⟨zr, zi⟩ := z
        cases zr with
        | nil => exact absurd rfl hz2
        | cons c zr =>
          show (c :: _).head? ≠ _
          intro q
          exact (hz1 c List.mem_cons_self).1 (Option.some.inj q)
    rw [List.flatMap_cons, List.append_assoc, nrm_cl _ _ _ h0.1 h0.2, List.map_cons]
    show _ = (r ++ [13, 10]) ++ txt (rs.map (·.1))
    rw [List.append_assoc, ← ih]
    congr 1
    unfold sepL
    split
    · rfl
    · split
      · show 13 :: 10 :: nrmB true (rs.flatMap fun r => r.1 ++ sepL r.2) = _
        rw [nrmB_head hh]; rfl
      · rfl
noncomputable def up (r : List Nat) : List Nat := if r.head? = some 46 then 46 :: r else r
theorem dbl_false : ∀ (r rest : List Nat), cl r → dbl false (r ++ 13 :: 10 :: rest) = r ++ 13 :: 10 :: dbl true rest
  | [], rest, _ => rfl
  | c :: r, rest, h => by
    have h1 := (h c List.mem_cons_self).1
    show dbl false (c :: (r ++ 13 :: 10 :: rest)) = _
    rw [dbl, if_neg (by simp)]
    have : (c == 10) = false := by simpa using h1
    rw [this, dbl_false r rest fun z hz => h z (List.mem_cons_of_mem _ hz)]; rfl
theorem dbl_rows : ∀ (rs : List (List Nat)), (∀ r ∈ rs, cl r) → dbl true (txt rs) = txt (rs.map up)
  | [], _ => rfl
  | r :: rs, h => by
    have h0 := h r List.mem_cons_self
    have ih := dbl_rows rs fun z hz => h z (List.mem_cons_of_mem _ hz)
    have et : ∀ (r : List Nat) (rs : List (List Nat)), txt (r :: rs) = r ++ (13 :: 10 :: txt rs) := by intro r rs; simp [txt]
    rw [List.map_cons, et, et, ← ih]
    cases r with
    | nil => rfl
    | cons c r =>
      have h1 := (h0 c List.mem_cons_self).1
      have hr : cl r := fun z hz => h0 z (List.mem_cons_of_mem _ hz)
      show dbl true (c :: (r ++ 13 :: 10 :: txt rs)) = _
      rw [dbl]
      by_cases hc : c = 46
      · subst hc
        rw [if_pos (by rfl), dbl_false r _ hr]
        unfold up
        rw [if_pos (by rfl)]; rfl
      · rw [if_neg (by simpa using hc)]
        have : (c == 10) = false := by simpa using h1
        rw [this, dbl_false r _ hr]
        unfold up
        rw [if_neg (by intro q; exact hc (Option.some.inj q))]; rfl
theorem row_cl {p k here : Nat} (hp : p < 4) : cl (rowL p k here) ∧ rowL p k here ≠ [] := by
  unfold rowL
  split
  · refine ⟨fun c hc => ?_, by simp⟩
    rcases List.mem_append.mp hc with h | h
    · have := (List.mem_replicate.mp h).2; omega
    · have := List.mem_singleton.mp h; omega
  · refine ⟨fun c hc => ?_, by simp⟩
    rcases List.mem_cons.mp hc with h | h
    · omega
    · have := (List.mem_replicate.mp h).2; omega
theorem row_up {p k here : Nat} (hp : p < 4) (hk : 1 ≤ k) : up (rowL p k here) = rowL p (if p = here then k + 1 else k) here := by
  unfold up rowL
  by_cases h : p = here
  · simp only [if_pos h]
    obtain ⟨k', rfl⟩ : ∃ k', k = k' + 1 := ⟨k - 1, by omega⟩
    rw [List.replicate_succ]
    simp [List.replicate_succ]
  · simp only [if_neg h]
    rw [if_neg]
    intro q
    have : 97 + p = 46 := Option.some.inj q
    omega
theorem row_count {p k here : Nat} (hp : p < 4) : (rowL p k here).countP (fun z => decide (z = 46)) = k := by
  unfold rowL
  have h97 : (97 + p = 46) = False := by simp; omega
  have hr : (List.replicate k 46).countP (fun z => decide (z = 46)) = k := by
    rw [List.countP_replicate]; simp
  split
  · rw [List.countP_append, hr]; simp [h97]
  · rw [List.countP_cons, hr]; simp [h97]
theorem row_len (p k here : Nat) : (rowL p k here).length = k + 1 := by
  unfold rowL
  split <;> simp
end Mine
end

section
open PySem PySem.W PyProof.Rows
set_option Elab.async false
namespace Mine
set_option maxRecDepth 100000
set_option maxHeartbeats 1000000
set_option linter.unusedVariables false
section
variable {Γ : List (Str × GV)} {n : Nat} {sc : List (Str × NameKind)} {cn own : List Str} {σ σ' : Sg} {d a b : D}
theorem ev_methK {c : Const} {k : Nat} {p1 ap pos : Pos} {name : Str} {e : PySem.Expr} (hl : (ap.endLine == pos.line) = true) (hc : ev Γ n sc cn own σ (.Constant c k p1) = some b) (he : fwD σ (ev Γ n sc cn own σ) e = some a) (hm : methD name b [a] = some d) : ev Γ (n + 1) sc cn own σ (.Call (.Attribute (.Constant c k p1) name ap) [e] [] pos) = some d := by
  show (if baseOk (.Constant c k p1) = true ∧ (ap.endLine == pos.line) = true ∧ [e].length < 20 then (ev Γ n sc cn own σ (.Constant c k p1)).bind (fun b => (allD (fwD σ (ev Γ n sc cn own σ)) [e]).bind fun ds => methD name b ds) else none) = _
  rw [if_pos ⟨rfl, hl, by simp⟩, hc]
  show (allD (fwD σ (ev Γ n sc cn own σ)) [e]).bind _ = _
  rw [allD1 he]
  exact hm
theorem ev_methC {f : PySem.Expr} {as : List PySem.Expr} {a0 : PySem.Expr} {ks : List Keyword} {p1 ap pos : Pos} {name : Str} {e : PySem.Expr} {x : Str} (hl : (ap.endLine == pos.line) = true) (hc : ev Γ n sc cn own σ (.Call f (a0 :: as) ks p1) = some (.str x)) (he : fwD σ (ev Γ n sc cn own σ) e = some a) (hm : methD name (.str x) [a] = some d) : ev Γ (n + 1) sc cn own σ (.Call (.Attribute (.Call f (a0 :: as) ks p1) name ap) [e] [] pos) = some d := by
  show (if baseOk (.Call f (a0 :: as) ks p1) = true ∧ (ap.endLine == pos.line) = true ∧ [e].length < 20 then ((ev Γ n sc cn own σ (.Call f (a0 :: as) ks p1)).bind strO).bind (fun b => (allD (fwD σ (ev Γ n sc cn own σ)) [e]).bind fun ds => methD name b ds) else none) = _
  rw [if_pos ⟨rfl, hl, by simp⟩, hc]
  show (allD (fwD σ (ev Γ n sc cn own σ)) [e]).bind _ = _
  rw [allD1 he]
  exact hm
end

noncomputable def d4 (a b c e : Nat) : List Nat := [a, b, c, e]
noncomputable def inc (here p k : Nat) : Nat := if p = here then k + 1 else k

theorem join_tx (l : List (List Nat)) (h : (l.map List.length).sum ≤ 2 ^ 20) : methD (S "join") (.str (S "")) [.lst (l.map fun r => D.str (tx r))] = some (.str (tx (l.flatMap id))) := by
  have hs : strsD (l.map fun r => D.str (tx r)) = some (l.map tx) := by
    rw [show (l.map fun r => D.str (tx r)) = (l.map tx).map D.str by rw [List.map_map]; rfl]
    exact strsD_strs _
  show (strsD (l.map fun r => D.str (tx r))).bind (fun ys => if (ys.map Str.length).sum + ys.length * (S "").length ≤ 2 ^ 20 then some (D.str (Txt.join (S "") ys)) else none) = _
  rw [hs]
  show (if ((l.map tx).map Str.length).sum + (l.map tx).length * (S "").length ≤ 2 ^ 20 then some (D.str (Txt.join (S "") (l.map tx))) else none) = _
  have h0 : (S "").length = 0 := by decide +kernel
  have h1 : S "" = ⟨#[]⟩ := by decide +kernel
  have h2 : ((l.map tx).map Str.length) = l.map List.length := by
    rw [List.map_map]
    congr 1
  rw [if_pos (by rw [h0, h2]; omega), h1]
  congr 2
  have := join0 (l.map tx)
  have e : (l.map tx).flatMap (fun p => p.cps.toList) = l.flatMap id := by
    rw [List.flatMap_map]
    rfl
  rw [e] at this
  rw [← this]

theorem sep_item (i : Nat) : itemD (.lst [.str (S "\n"), .str (S "\r"), .str (S "\r\n")]) (.int ((i : Int).fmod 3)) = some (.str (tx (sepL i))) := by
  have h : (i : Int).fmod 3 = ((i % 3 : Nat) : Int) := by rw [Int.fmod_eq_emod_of_nonneg _ (by decide)]; omega
  rw [h]
  unfold sepL
  have hc := mod3 i
  rcases hc with e | e | e <;> rw [e] <;> rfl

noncomputable def rs0 (a b c e here : Nat) : List (List Nat) := [rowL 0 a here, rowL 1 b here, rowL 2 c here, rowL 3 e here]
noncomputable def raw (a b c e here t : Nat) : List (List Nat) := [rowL 0 a here ++ sepL (0 + t), rowL 1 b here ++ sepL (1 + t), rowL 2 c here ++ sepL (2 + t), rowL 3 e here ++ sepL (3 + t)]
theorem sep_len (i : Nat) : (sepL i).length ≤ 2 := by
  unfold sepL
  split
  · decide
  · split <;> decide
theorem raw_len {a b c e here t : Nat} (ha : a ≤ 100) (hb : b ≤ 100) (hc : c ≤ 100) (he : e ≤ 100) : ((raw a b c e here t).map List.length).sum ≤ 420 := by
  have h0 := sep_len (0 + t)
  have h1 := sep_len (1 + t)
  have h2 := sep_len (2 + t)
  have h3 := sep_len (3 + t)
  simp only [raw, List.map_cons, List.map_nil, List.sum_cons, List.sum_nil, List.length_append, row_len]
  omega
theorem raw_quote {a b c e here t : Nat} (ha : 1 ≤ a ∧ a ≤ 100) (hb : 1 ≤ b ∧ b ≤ 100) (hc : 1 ≤ c ∧ c ≤ 100) (he : 1 ≤ e ∧ e ≤ 100) : quoteD [.str (tx ((raw a b c e here t).flatMap id))] = some (.str (tx (txt (rs0 (inc here 0 a) (inc here 1 b) (inc here 2 c) (inc here 3 e) here)))) := by
  have hl : ((raw a b c e here t).flatMap id).length = ((raw a b c e here t).map List.length).sum := by
    rw [List.length_flatMap]; rfl
  have hs := raw_len (here := here) (t := t) ha.2 hb.2 hc.2 he.2
  show (if (tx ((raw a b c e here t).flatMap id)).cps.size ≤ 2 ^ 16 then some (D.str ⟨(dbl true (nrm (tx ((raw a b c e here t).flatMap id)).cps.toList)).toArray⟩) else none) = _
  have hsz : (tx ((raw a b c e here t).flatMap id)).cps.size ≤ 2 ^ 16 := by
    show ((raw a b c e here t).flatMap id).toArray.size ≤ _
    rw [List.size_toArray, hl]; omega
  rw [if_pos hsz]
  have e1 : nrm (tx ((raw a b c e here t).flatMap id)).cps.toList = txt (rs0 a b c e here) := by
    have := nrm_rows [(rowL 0 a here, 0 + t), (rowL 1 b here, 1 + t), (rowL 2 c here, 2 + t), (rowL 3 e here, 3 + t)] (by
      intro r hr
      simp only [List.mem_cons, List.not_mem_nil, or_false] at hr
      rcases hr with rfl | rfl | rfl | rfl <;> exact row_cl (by omega))
    exact this
  rw [e1, dbl_rows]
  · simp only [rs0, List.map_cons, List.map_nil]
    rw [row_up (by omega) ha.1, row_up (by omega) hb.1, row_up (by omega) hc.1, row_up (by omega) he.1]
    rfl
  · intro r hr
    simp only [rs0, List.mem_cons, List.not_mem_nil, or_false] at hr
    rcases hr with rfl | rfl | rfl | rfl <;> exact (row_cl (by omega)).1
end Mine
end

section
open PySem PySem.W PyProof.Rows
set_option Elab.async false
namespace Mine
set_option maxRecDepth 100000
set_option maxHeartbeats 2000000
set_option linter.unusedVariables false

noncomputable def rowsD (a b c e here : Nat) : D := .lst [.str (tx (rowL 0 a here)), .str (tx (rowL 1 b here)), .str (tx (rowL 2 c here)), .str (tx (rowL 3 e here)), .str (tx [])]
noncomputable def sSent (a b c e here t : Nat) : Sg := [(S "dots", nI [a, b, c, e]), (S "here", dN here), (S "t", dN t), (S "text", .str (tx ((raw a b c e here t).flatMap id))), (S "rows", rowsD (inc here 0 a) (inc here 1 b) (inc here 2 c) (inc here 3 e) here), (S "heard", nI [inc here 0 a, inc here 1 b, inc here 2 c, inc here 3 e])]

theorem strOk_row {p k here : Nat} (hp : p < 4) : PyData.strOk (tx (rowL p k here)) = true := by
  unfold PyData.strOk
  rw [Array.all_eq_true']
  intro c hc
  have hc' : c ∈ rowL p k here := by simpa using hc
  simp only [decide_eq_true_eq]
  unfold rowL at hc'
  split at hc'
  · rcases List.mem_append.mp hc' with h | h
    · have := (List.mem_replicate.mp h).2; omega
    · have := List.mem_singleton.mp h; omega
  · rcases List.mem_cons.mp hc' with h | h
    · omega
    · have := (List.mem_replicate.mp h).2; omega
theorem rows_ne (a b c e here : Nat) : cmpD .NotEq (rowsD a b c e here) (rowsD a b c e here) = some false := by
  have ok : D.ok 8 (rowsD a b c e here) = true := by
    show (PyData.strOk _ && (PyData.strOk _ && (PyData.strOk _ && (PyData.strOk _ && (PyData.strOk _ && true))))) = true
    rw [strOk_row (by omega), strOk_row (by omega), strOk_row (by omega), strOk_row (by omega), show PyData.strOk (tx []) = true by decide +kernel]; rfl
  show (if (D.ok 8 (rowsD a b c e here) && D.ok 8 (rowsD a b c e here)) = true then some (!D.eqb (rowsD a b c e here) (rowsD a b c e here)) else none) = _
  rw [ok]
  have : D.eqb (rowsD a b c e here) (rowsD a b c e here) = true := by
    show ((_ == _) && ((_ == _) && ((_ == _) && ((_ == _) && ((_ == _) && true))))) = true
    simp
  rw [this]; rfl

theorem fw_bin {Γ : List (Str × GV)} {n : Nat} {sc : List (Str × NameKind)} {cn own : List Str} {σ : Sg} {d a b : D} {l r : PySem.Expr} {op : Operator} {p : Pos} (hl : fwD σ (ev Γ n sc cn own σ) l = some a) (hr : fwD σ (ev Γ n sc cn own σ) r = some b) (h : binD op a b = some d) : fwD σ (ev Γ (n + 1) sc cn own σ) (.BinOp l op r p) = some d := ev_bin (p := p) hl hr h
theorem parts_rows {rs : List (List Nat)} (hr : ∀ r ∈ rs, 13 ∉ r) : Builtin.Str.partsBetween (tx (txt rs)) (Builtin.Str.occurrences (tx (txt rs)) (tx [13, 10]) 0 (tx (txt rs)).length ((tx (txt rs)).length + 1)) (tx [13, 10]).length = rs.map tx ++ [tx []] := by
  have hocc : Builtin.Str.occurrences (tx (txt rs)) (tx [13, 10]) 0 (tx (txt rs)).length ((tx (txt rs)).length + 1) = cuts 0 rs := by
    rw [occ_filter]
    · rw [tx_length]
      exact hits_cuts (txt rs) rs 0 hr rfl (Nat.zero_add _)
    · intro i j hi h1 h2
      rw [show (tx [13, 10]).length = 2 from rfl] at h2
      have : j = i + 1 := by omega
      subst this
      rw [hit_two, Bool.and_eq_true] at hi
      have hq := of_decide_eq_true hi.2
      exact hit_no (by rw [hq.2]; decide)
  rw [hocc]
  unfold Builtin.Str.partsBetween
  rw [show (tx [13, 10]).length = 2 from rfl, tx_length]
  exact parts_cuts (txt rs) rs 0 rfl (Nat.zero_add _)
theorem split_meth {rs : List (List Nat)} (hne : rs ≠ []) (hr : ∀ r ∈ rs, 13 ∉ r) (h1 : (txt rs).length ≤ 2 ^ 20) (h2 : rs.length ≤ 100) : methD (S "split") (.str (tx (txt rs))) [.str (S "\r\n")] = some (.lst ((rs.map tx ++ [tx []]).map D.str)) := by
  have hs : S "\r\n" = tx [13, 10] := by decide +kernel
  rw [hs]
  show (if ((tx [13, 10]).length == 0) = false ∧ (tx (txt rs)).length ≤ 2 ^ 20 ∧ (Builtin.Str.partsBetween (tx (txt rs)) (Builtin.Str.occurrences (tx (txt rs)) (tx [13, 10]) 0 (tx (txt rs)).length ((tx (txt rs)).length + 1)) (tx [13, 10]).length).length ≤ 2 ^ 20 then some (D.lst ((Txt.split (tx (txt rs)) (tx [13, 10])).map D.str)) else none) = _
  rw [if_pos, split_rows hne hr]
  refine ⟨by decide, by rw [tx_length]; exact h1, ?_⟩
  rw [parts_rows hr]
  simp
  omega
theorem count_row {p k here : Nat} (hp : p < 4) : methD (S "count") (.str (tx (rowL p k here))) [.str (S ".")] = some (dN k) := by
  show some (D.int (Txt.count (tx (rowL p k here)) (S "."))) = _
  rw [S_dot, count_one, row_count hp]
theorem sent_val {a b c e here t : Nat} (ha : 1 ≤ a ∧ a ≤ 100) (hb : 1 ≤ b ∧ b ≤ 100) (hc : 1 ≤ c ∧ c ≤ 100) (he : 1 ≤ e ∧ e ≤ 100) (ht : t ≤ 2 ^ 20) : mkF G2 fd_sent.1 [] [nI [a, b, c, e], dN here, dN t] = some (nI [inc here 0 a, inc here 1 b, inc here 2 c, inc here 3 e]) := by
  have hrow : ∀ (p k : Nat), p < 4 → k ≤ 100 → mkF G1 fd_row.1 [] [dN p, dN k, dN here] = some (.str (tx (rowL p k here))) := fun p k h1 h2 => row_val h1 (by omega)
  have incle : ∀ p k, k ≤ 100 → inc here p k ≤ 4096 := by intro p k h; unfold inc; split <;> omega
  have hrow' : ∀ (p k : Nat), p < 4 → k ≤ 100 → mkF G1 fd_row.1 [] [dN p, dN (inc here p k), dN here] = some (.str (tx (rowL p (inc here p k) here))) := fun p k h1 h2 => row_val h1 (incle p k h2)
  refine fnD_ret (σ' := sSent a b c e here t) (by rfl) ?_
  refine (exs_next (ex_asg (d := .str (tx ((raw a b c e here t).flatMap id))) ⟨by rfl, fun h => by cases h⟩ ?_)).trans ?_
  · refine ev_methK (b := .str (S "")) (a := .lst ((raw a b c e here t).map fun r => D.str (tx r))) (by rfl) (by rfl) ?_ (join_tx _ (Nat.le_trans (raw_len ha.2 hb.2 hc.2 he.2) (by decide)))
    refine fw_comp (src := .rng 0 4) (l := (List.range 4).map dN) ⟨by decide +kernel, by rfl, by rfl, by rfl, by decide⟩ (by rfl) (by rfl) ?_
    have key : ∀ (p k : Nat), p < 4 → k ≤ 100 → binD .Add (.str (tx (rowL p k here))) (.str (tx (sepL (p + t)))) = some (.str (tx (rowL p k here ++ sepL (p + t)))) := by
      intro p k h1 h2
      refine add_tx _ _ ?_
      rw [row_len]
      have := sep_len (p + t)
      omega
    refine (compD_map (t := fun _ => true) (e := fun p => D.str (tx ((raw a b c e here t).getD p []))) (List.range 4) (fun p hp => by rfl) (fun p hp _ => ?_)).trans (by rfl)
    have hp4 : p < 4 := List.mem_range.mp hp
    have hcs := lt4 (p := p) hp4
    rcases hcs with q | q | q | q <;> subst q
    · refine ev_bin (a := .str (tx (rowL 0 a here))) (b := .str (tx (sepL (0 + t)))) ?_ ?_ (key 0 a (by omega) ha.2)
      · exact (show _ = (mkF G1 fd_row.1 [] [dN 0, dN a, dN here]).bind some from rfl).trans (by rw [hrow 0 a (by omega) ha.2]; rfl)
      · exact sep_item (0 + t)
    · refine ev_bin (a := .str (tx (rowL 1 b here))) (b := .str (tx (sepL (1 + t)))) ?_ ?_ (key 1 b (by omega) hb.2)
      · exact (show _ = (mkF G1 fd_row.1 [] [dN 1, dN b, dN here]).bind some from rfl).trans (by rw [hrow 1 b (by omega) hb.2]; rfl)
      · exact sep_item (1 + t)
    · refine ev_bin (a := .str (tx (rowL 2 c here))) (b := .str (tx (sepL (2 + t)))) ?_ ?_ (key 2 c (by omega) hc.2)
      · exact (show _ = (mkF G1 fd_row.1 [] [dN 2, dN c, dN here]).bind some from rfl).trans (by rw [hrow 2 c (by omega) hc.2]; rfl)
      · exact sep_item (2 + t)
    · refine ev_bin (a := .str (tx (rowL 3 e here))) (b := .str (tx (sepL (3 + t)))) ?_ ?_ (key 3 e (by omega) he.2)
      · exact (show _ = (mkF G1 fd_row.1 [] [dN 3, dN e, dN here]).bind some from rfl).trans (by rw [hrow 3 e (by omega) he.2]; rfl)
      · exact sep_item (3 + t)
  have hi : ∀ p k, k ≤ 100 → inc here p k ≤ 101 := by intro p k h; unfold inc; split <;> omega
  have hrs : ∀ r ∈ rs0 (inc here 0 a) (inc here 1 b) (inc here 2 c) (inc here 3 e) here, 13 ∉ r := by
    intro r hr q
    simp only [rs0, List.mem_cons, List.not_mem_nil, or_false] at hr
    rcases hr with rfl | rfl | rfl | rfl
    · exact ((row_cl (by omega)).1 13 q).2 rfl
    · exact ((row_cl (by omega)).1 13 q).2 rfl
    · exact ((row_cl (by omega)).1 13 q).2 rfl
    · exact ((row_cl (by omega)).1 13 q).2 rfl
  refine (exs_next (ex_asg (d := rowsD (inc here 0 a) (inc here 1 b) (inc here 2 c) (inc here 3 e) here) ⟨by rfl, fun h => by cases h⟩ ?_)).trans ?_
  · refine ev_methC (x := tx (txt (rs0 (inc here 0 a) (inc here 1 b) (inc here 2 c) (inc here 3 e) here))) (a := .str (S "\r\n")) (by rfl) ?_ (by rfl) ?_
    · exact (show _ = (quoteD [.str (tx ((raw a b c e here t).flatMap id))]).bind some from rfl).trans (by rw [raw_quote ha hb hc he]; rfl)
    · refine split_meth (by simp [rs0]) hrs ?_ (by simp [rs0])
      have h0 := hi 0 a ha.2
      have h1 := hi 1 b hb.2
      have h2 := hi 2 c hc.2
      have h3 := hi 3 e he.2
      simp only [rs0, txt, List.flatMap_cons, List.flatMap_nil, List.length_append, row_len, List.length_cons, List.length_nil]
      omega
  refine (exs_next (ex_asg (d := nI [inc here 0 a, inc here 1 b, inc here 2 c, inc here 3 e]) ⟨by rfl, fun h => by cases h⟩ ?_)).trans ?_
  · refine ev_comp (src := .lst [.str (tx (rowL 0 (inc here 0 a) here)), .str (tx (rowL 1 (inc here 1 b) here)), .str (tx (rowL 2 (inc here 2 c) here)), .str (tx (rowL 3 (inc here 3 e) here))]) (l := [(0, inc here 0 a), (1, inc here 1 b), (2, inc here 2 c), (3, inc here 3 e)].map fun q => D.str (tx (rowL q.1 q.2 here))) ⟨by decide +kernel, by rfl, by rfl, by rfl, by decide⟩ (by rfl) (by rfl) ?_
    refine (compD_map (t := fun _ => true) (e := fun q => dN q.2) [(0, inc here 0 a), (1, inc here 1 b), (2, inc here 2 c), (3, inc here 3 e)] (fun q hq => by rfl) (fun q hq _ => ?_)).trans (by rfl)
    have hq4 : q.1 < 4 := by
      simp only [List.mem_cons, List.not_mem_nil, or_false] at hq
      rcases hq with rfl | rfl | rfl | rfl <;> exact of_decide_eq_true rfl
    exact count_row hq4
  refine (exs_next (σ' := sSent a b c e here t) (ex_iff ?_ exs_end)).trans ?_
  · refine tr_cmp (a := rowsD (inc here 0 a) (inc here 1 b) (inc here 2 c) (inc here 3 e) here) (b := rowsD (inc here 0 a) (inc here 1 b) (inc here 2 c) (inc here 3 e) here) (by rfl) (by rfl) ?_ (rows_ne _ _ _ _ _)
    refine fw_bin (a := .lst [.str (tx (rowL 0 (inc here 0 a) here)), .str (tx (rowL 1 (inc here 1 b) here)), .str (tx (rowL 2 (inc here 2 c) here)), .str (tx (rowL 3 (inc here 3 e) here))]) (b := .lst [.str (S "")]) ?_ (by rfl) ?_
    · refine fw_comp (src := .rng 0 4) (l := (List.range 4).map dN) ⟨by decide +kernel, by rfl, by rfl, by rfl, by decide⟩ (by rfl) (by rfl) ?_
      refine (compD_map (t := fun _ => true) (e := fun p => D.str (tx ((rs0 (inc here 0 a) (inc here 1 b) (inc here 2 c) (inc here 3 e) here).getD p []))) (List.range 4) (fun p hp => by rfl) (fun p hp _ => ?_)).trans (by rfl)
      have hp4 : p < 4 := List.mem_range.mp hp
      have hcs := lt4 (p := p) hp4
      rcases hcs with q | q | q | q <;> subst q
      · exact (show _ = (mkF G1 fd_row.1 [] [dN 0, dN (inc here 0 a), dN here]).bind some from rfl).trans (by rw [hrow' 0 a (by omega) ha.2]; rfl)
      · exact (show _ = (mkF G1 fd_row.1 [] [dN 1, dN (inc here 1 b), dN here]).bind some from rfl).trans (by rw [hrow' 1 b (by omega) hb.2]; rfl)
      · exact (show _ = (mkF G1 fd_row.1 [] [dN 2, dN (inc here 2 c), dN here]).bind some from rfl).trans (by rw [hrow' 2 c (by omega) hc.2]; rfl)
      · exact (show _ = (mkF G1 fd_row.1 [] [dN 3, dN (inc here 3 e), dN here]).bind some from rfl).trans (by rw [hrow' 3 e (by omega) he.2]; rfl)
    · have h1 : S "" = tx [] := by decide +kernel
      rw [h1]; rfl
  exact exs_ret (ex_ret' (by rfl))
end Mine
end

section
set_option Elab.async false
namespace Mine
set_option maxRecDepth 100000
set_option linter.unusedVariables false
section
variable {nb : Nat → List Nat} {f x : Nat → Nat} {s : Nat}

theorem last_exit {P : Nat → Prop} (k : Nat) : ∀ (n i : Nat), i + n + 1 = k → P i → ∃ i', i' < k ∧ P i' ∧ ∀ j, i' < j → j < k → ¬ P j := by
  intro n
  induction n using Nat.strongRecOn with
  | _ n ih =>
    intro i h1 h2
    by_cases q : ∃ j, i < j ∧ j < k ∧ P j
    · obtain ⟨j, j1, j2, j3⟩ := q
      exact ih (k - 1 - j) (by omega) j (by omega) j3
    · exact ⟨i, by omega, h2, fun j j1 j2 j3 => q ⟨j, j1, j2, j3⟩⟩

theorem leftFull (G : Gr nb) (X : Wk nb f s x) {b k k' v : Nat} (R : Rnd nb x s b k) (R' : Rnd nb x s (b + k) k') (hv : 1 ≤ Wc x b k v) : Wc x (b + k) k' v = (nb v).length := by
  obtain ⟨j, hj, e⟩ := cntN_pos hv
  have e' : x (b + j) = v := by simpa using e
  obtain ⟨i, hi, hp, hl⟩ := last_exit (P := fun i => x (b + i) = v) k (k - 1 - j) j (by omega) e'
  have := roundB G X R R' (k - 1 - i) i (by omega) fun j h1 h2 => by rw [hp]; exact hl j h1 h2
  rw [hp] at this
  exact this
theorem nextIn (G : Gr nb) (X : Wk nb f s x) {b k v u : Nat} (R : Rnd nb x s b k) (hv : Wc x b k v = (nb v).length) (hu : u ∈ nb v) : 1 ≤ Wc x b k u := by
  have h1 := U_full G X (b := b) (k := k) hu (by omega)
  have h2 := I_sum G X b u k
  have h3 := R.closed u
  have h4 := (G.lt v u hu).1
  have hc := lt4 (p := v) h4
  rcases hc with e | e | e | e <;> subst e <;> omega

/-- rounds in a row: the n-th begins at b n and lasts k n steps -/
structure Rounds (nb : Nat → List Nat) (x : Nat → Nat) (s N : Nat) (b k : Nat → Nat) : Prop where
  zero : b 0 = 0
  next : ∀ n, n < N → b (n + 1) = b n + k n
  rnd : ∀ n, n < N → Rnd nb x s (b n) (k n)

theorem Rounds.full (G : Gr nb) (X : Wk nb f s x) {N : Nat} {b k : Nat → Nat} (R : Rounds nb x s N b k) {n v : Nat} (hn : n + 1 < N) (hv : 1 ≤ Wc x (b n) (k n) v) : Wc x (b (n + 1)) (k (n + 1)) v = (nb v).length := by
  have r1 := R.rnd n (by omega)
  have r2 := R.rnd (n + 1) hn
  rw [R.next n (by omega)] at r2 ⊢
  exact leftFull G X r1 r2 hv

end
theorem mets_full {ways : List (List Nat)} {f x : Nat → Nat} {s : Nat} (G : Gr (nbW ways)) (X : Wk (nbW ways) f s x) {N : Nat} {b k : Nat → Nat} (R : Rounds (nbW ways) x s N b k) : ∀ n, n < N → ∀ v ∈ mets ways s n, Wc x (b n) (k n) v = (nbW ways v).length
  | 0, hn, v, hv => by
    have : v = s := by simpa [mets] using hv
    rw [this]; exact (R.rnd 0 hn).fin.2
  | n + 1, hn, v, hv => by
    have ih := mets_full G X R n (by omega)
    have hp : ∀ v, v ∈ mets ways s n → v < 4 → Wc x (b (n + 1)) (k (n + 1)) v = (nbW ways v).length := by
      intro v h h4
      refine R.full G X hn ?_
      rw [ih v h]; exact G.pos v h4
    rcases List.mem_append.mp hv with h | h
    · by_cases h4 : v < 4
      · exact hp v h h4
      · have : Wc x (b (n + 1)) (k (n + 1)) v = 0 := by
          refine cntN_zero fun j hj => ?_
          have := X.in4 G (b (n + 1) + j)
          simp only [beq_eq_false_iff_ne]; omega
        rw [this]
        have : nbW ways v = [] := by
          cases e : nbW ways v with
          | nil => rfl
          | cons a l => exact absurd (G.lt v a (by rw [e]; exact List.mem_cons_self)).1 h4
        rw [this]; rfl
    · obtain ⟨h1, h2⟩ := List.mem_filter.mp h
      rw [Bool.and_eq_true] at h2
      have h3 : (nbW ways v).filter (fun p => decide (p ∈ mets ways s n)) ≠ [] := by simpa using h2.2
      obtain ⟨p, hp'⟩ := List.exists_mem_of_ne_nil _ h3
      obtain ⟨q1, q2⟩ := List.mem_filter.mp hp'
      have q3 : p ∈ mets ways s n := of_decide_eq_true q2
      exact R.full G X hn (nextIn G X (R.rnd n (by omega)) (ih p q3) (G.symm v p q1))
section
variable {nb : Nat → List Nat} {f x : Nat → Nat} {s : Nat}
/-- a full round, and then all goes on as before -/
theorem repeats (G : Gr nb) (X : Wk nb f s x) {b k : Nat} (R : Rnd nb x s b k) (hf : ∀ v, v < 4 → Wc x b k v = (nb v).length) : ∀ j, x (b + k + j) = x (b + j) ∧ ∀ v, v < 4 → Wc x 0 (b + k + j) v = Wc x 0 (b + j) v + (nb v).length
  | 0 => by
    refine ⟨R.fin.1.trans R.beg.symm, fun v hv => ?_⟩
    have := Wc_add x 0 b v k
    rw [Nat.zero_add, hf v hv] at this
    exact this
  | j + 1 => by
    obtain ⟨h1, h2⟩ := repeats G X R hf j
    have e1 : x (b + k + j + 1) = x (b + j + 1) := by
      rw [X.step, X.step, h1, h2 _ (X.in4 G _)]
      congr 1
      have e : f (x (b + j)) + (Wc x 0 (b + j) (x (b + j)) + (nb (x (b + j))).length) + 1 = (f (x (b + j)) + Wc x 0 (b + j) (x (b + j)) + 1) + (nb (x (b + j))).length := by omega
      rw [e, Nat.add_mod_right]
    refine ⟨e1, fun v hv => ?_⟩
    have e3 : Wc x 0 (b + k + (j + 1)) v = Wc x 0 (b + k + j) v + if (x (0 + (b + k + j)) == v) = true then 1 else 0 := rfl
    have e4 : Wc x 0 (b + (j + 1)) v = Wc x 0 (b + j) v + if (x (0 + (b + j)) == v) = true then 1 else 0 := rfl
    rw [e3, e4, Nat.zero_add, Nat.zero_add, h1, h2 v hv]
    omega
theorem sameNext (G : Gr nb) (X : Wk nb f s x) {b k k' : Nat} (R : Rnd nb x s b k) (R' : Rnd nb x s (b + k) k') (hf : ∀ v, v < 4 → Wc x b k v = (nb v).length) : k' = k := by
  have hx : ∀ j, x (b + k + j) = x (b + j) := fun j => (repeats G X R hf j).1
  have hw : ∀ j v, Wc x (b + k) j v = Wc x b j v := fun j v => cntN_congr fun i _ => by rw [hx]
  have hfin : ∀ j, fin nb x s (b + k) j ↔ fin nb x s b j := fun j => by unfold fin; rw [hx, hw]
  rcases Nat.lt_trichotomy k' k with h | h | h
  · exact absurd ((hfin k').mp R'.fin) (R.not k' R'.pos h)
  · exact h
  · exact absurd ((hfin k).mpr R.fin) (R'.not k R.pos h)
end
end Mine
end

section
open PySem PySem.W PyProof.Rows
set_option Elab.async false
namespace Mine
set_option maxRecDepth 100000
set_option maxHeartbeats 2000000
set_option linter.unusedVariables false

noncomputable def hueD (d s c : Nat) : Option D := ((binD .Div (dN s) (.flt 0x4030000000000000)).bind fun b => binD .Add (dN d) b).bind fun a => binD .Div a (dN c)
noncomputable def starF (F : List D → Option D) (o : Option D) : Option D := o.bind fun v => (tupO v).bind fun ds => if ds.length ≤ 64 then F ds else none
noncomputable def toldD (r : Nat) (hv : D) : Option D :=
  if r = 0 then starF (mkF G1 fd_rgb2hls.1 []) ((mkF G1 fd_hsv2rgb.1 [] [hv, .flt 0x3fe0000000000000, .flt 0x3fe8000000000000]).bind some)
  else if r = 1 then starF (mkF G1 fd_rgb2hsv.1 []) (((binD .Sub hv (.int 9)).bind fun h => some [h, .flt 0x3fd0000000000000, .flt 0x3fe0000000000000]).bind fun ds => (mkF G2 fd_hls2rgb.1 [] ds).bind some)
  else starF (mkF G1 fd_rgb2hls.1 []) ((mkF G2 fd_hls2rgb.1 [] [hv, .flt 0x3fe4000000000000, .flt 0x3fe0000000000000]).bind some)
noncomputable def out1 (t0 : D) (c : Nat) : Option D := ((binD .Mult t0 (dN c)).bind fun v => some [v]).bind fun ds => tyD "int" ds
noncomputable def out2 (t1 : D) : Option D := (((binD .Mult (.int 16) t1).bind fun v => binD .Add v (.flt 0x3fe0000000000000)).bind fun v => some [v]).bind fun ds => tyD "int" ds

theorem all3 {f : PySem.Expr → Option D} {e1 e2 e3 : PySem.Expr} {a b c : D} (h1 : f e1 = some a) (h2 : f e2 = some b) (h3 : f e3 = some c) : allD f [e1, e2, e3] = some [a, b, c] := by
  exact allDc h1 (allD2 h2 h3)
theorem ev_list {Γ : List (Str × GV)} {n : Nat} {sc : List (Str × NameKind)} {cn own : List Str} {σ : Sg} {es : List PySem.Expr} {p : Pos} {l : List D} (hl : es.length ≤ 2 ^ 20) (h : allD (ev Γ n sc cn own σ) es = some l) : ev Γ (n + 1) sc cn own σ (.List es p) = some (.lst l) := by
  show (if es.length ≤ 2 ^ 20 then (allD (ev Γ n sc cn own σ) es).map D.lst else none) = _
  rw [if_pos hl, h]; rfl
theorem way_go {d s c t r : Nat} {hv t0 t1 t2 a b e : D} (hr : t % 3 = r) (hh : hueD d s c = some hv) (ht : toldD r hv = some (.tup [t0, t1, t2])) (h1 : out1 t0 c = some a) (h2 : out2 t1 = some b) (h3 : out2 t2 = some e) : mkF G3 fd_way.1 [] [dN d, dN s, dN c, dN t] = some (.lst [a, b, e]) := by
  have hm : binD .Mod (dN t) (.int 3) = some (dN r) := by
    show (if (3 : Int) ≠ 0 then some (D.int ((t : Int).fmod 3)) else none) = _
    rw [if_pos (by decide), Int.fmod_eq_emod_of_nonneg _ (by decide)]
    congr 2
    omega
  have hr3 : r < 3 := by omega
  refine fnD_ret (σ' := [(S "dots", dN d), (S "shift", dN s), (S "count", dN c), (S "t", dN t), (S "hue", hv), (S "told", .tup [t0, t1, t2])]) (by rfl) ?_
  refine (exs_next (ex_asg (d := hv) ⟨by rfl, fun h => by cases h⟩ ?_)).trans ?_
  · exact hh
  refine (exs_next (σ' := [(S "dots", dN d), (S "shift", dN s), (S "count", dN c), (S "t", dN t), (S "hue", hv), (S "told", .tup [t0, t1, t2])]) ?_).trans ?_
  · have test : ∀ (k : Nat) (σ : Sg), cmpD .Eq (dN r) (dN k) = some (decide (r = k)) := fun k _ => cmp_eqN r k
    by_cases h0 : r = 0
    · subst h0
      refine ex_ift (tr_cmp (a := dN 0) (b := dN 0) (by rfl) hm (by rfl) (by rw [cmp_eqN]; rfl)) ?_
      refine (exs_next (ex_asg (d := .tup [t0, t1, t2]) ⟨by rfl, fun h => by cases h⟩ ?_)).trans exs_end
      exact ht
    · refine ex_iff (tr_cmp (a := dN r) (b := dN 0) (by rfl) hm (by rfl) (by rw [cmp_eqN, decide_eq_false h0])) ?_
      refine (exs_next (σ' := [(S "dots", dN d), (S "shift", dN s), (S "count", dN c), (S "t", dN t), (S "hue", hv), (S "told", .tup [t0, t1, t2])]) ?_).trans exs_end
      by_cases h1' : r = 1
      · subst h1'
        refine ex_ift (tr_cmp (a := dN 1) (b := dN 1) (by rfl) hm (by rfl) (by rw [cmp_eqN]; rfl)) ?_
        refine (exs_next (ex_asg (d := .tup [t0, t1, t2]) ⟨by rfl, fun h => by cases h⟩ ?_)).trans exs_end
        exact ht
      · have h2' : r = 2 := by omega
        subst h2'
        refine ex_iff (tr_cmp (a := dN 2) (b := dN 1) (by rfl) hm (by rfl) (by rw [cmp_eqN]; rfl)) ?_
        refine (exs_next (ex_asg (d := .tup [t0, t1, t2]) ⟨by rfl, fun h => by cases h⟩ ?_)).trans exs_end
        exact ht
  · refine exs_ret (ex_ret2 (fun _ => rfl) ?_)
    refine ev_list (by decide) (all3 ?_ ?_ ?_)
    · exact h1
    · exact h2
    · exact h3
end Mine
end

section
open PySem PySem.W PyProof.Rows
set_option Elab.async false
namespace Mine
set_option maxRecDepth 100000
set_option maxHeartbeats 2000000
set_option linter.unusedVariables false

/-! the colour roads on plain words, no evaluator in sight -/
noncomputable def eqF (a b : UInt64) : Bool := Float64.cmp a b == some Ordering.eq
noncomputable def ltF (a b : UInt64) : Bool := Float64.cmp a b == some Ordering.lt
noncomputable def leF (a b : UInt64) : Bool := Float64.cmp a b == some Ordering.lt || Float64.cmp a b == some Ordering.eq
noncomputable def divF (a b : UInt64) : Option UInt64 := if Float64.isZero b = true then none else some (Float64.div a b)
theorem divF_val {a b c : UInt64} (h : divF a b = some c) : binD .Div (.flt a) (.flt b) = some (.flt c) := by
  obtain ⟨h1, h2⟩ := ite_none h
  show (if Float64.isZero b = true then none else some (D.flt (Float64.div a b))) = _
  rw [if_neg h1, Option.some.inj h2]
theorem modF_val (a : UInt64) : binD .Mod (.flt a) (.flt 0x3ff0000000000000) = some (.flt (Float64.divmod a 0x3ff0000000000000).2) := by
  show (if Float64.isZero 0x3ff0000000000000 = true then none else some _) = _
  rw [if_neg (by decide +kernel)]
noncomputable abbrev q1 : UInt64 := 0x3ff0000000000000
noncomputable abbrev q2 : UInt64 := 0x4000000000000000
noncomputable abbrev q4 : UInt64 := 0x4010000000000000
noncomputable abbrev q6 : UInt64 := 0x4018000000000000
noncomputable abbrev qh : UInt64 := 0x3fe0000000000000
noncomputable def hueF (r g b mx rc gc bc : UInt64) : UInt64 :=
  if eqF r mx = true then Float64.sub bc gc else if eqF g mx = true then Float64.sub (Float64.add q2 rc) bc else Float64.sub (Float64.add q4 gc) rc
noncomputable def hlsF (r g b : UInt64) : Option (UInt64 × UInt64 × UInt64) :=
  if eqF (fltBest .lt r g b) (fltBest .gt r g b) = true then none else
  (divF (Float64.add (fltBest .gt r g b) (fltBest .lt r g b)) q2).bind fun l =>
  (if leF l qh = true then divF (Float64.sub (fltBest .gt r g b) (fltBest .lt r g b)) (Float64.add (fltBest .gt r g b) (fltBest .lt r g b)) else divF (Float64.sub (fltBest .gt r g b) (fltBest .lt r g b)) (Float64.sub (Float64.sub q2 (fltBest .gt r g b)) (fltBest .lt r g b))).bind fun s =>
  (divF (Float64.sub (fltBest .gt r g b) r) (Float64.sub (fltBest .gt r g b) (fltBest .lt r g b))).bind fun rc =>
  (divF (Float64.sub (fltBest .gt r g b) g) (Float64.sub (fltBest .gt r g b) (fltBest .lt r g b))).bind fun gc =>
  (divF (Float64.sub (fltBest .gt r g b) b) (Float64.sub (fltBest .gt r g b) (fltBest .lt r g b))).bind fun bc =>
  (divF (hueF r g b (fltBest .gt r g b) rc gc bc) q6).bind fun h => some ((Float64.divmod h q1).2, l, s)
theorem ex_bin {Γ : List (Str × GV)} {n : Nat} {sc : List (Str × NameKind)} {cn own : List Str} {σ : Sg} {d a b : D} {l r : PySem.Expr} {op : Operator} {p : Pos} (hl : fwD σ (ev Γ n sc cn own σ) l = some a) (hr : fwD σ (ev Γ n sc cn own σ) r = some b) (h : binD op a b = some d) : ev Γ (n + 1) sc cn own σ (.BinOp l op r p) = some d := ev_bin (p := p) hl hr h
theorem hlsF_val {r g b h l s : UInt64} (e : hlsF r g b = some (h, l, s)) : mkF G1 fd_rgb2hls.1 [] [.flt r, .flt g, .flt b] = some (.tup [.flt h, .flt l, .flt s]) := by
  obtain ⟨hne, e1⟩ := ite_none e
  obtain ⟨l', hl, e2⟩ := bind_some' e1
  obtain ⟨s', hs, e3⟩ := bind_some' e2
  obtain ⟨rc, hrc, e4⟩ := bind_some' e3
  obtain ⟨gc, hgc, e5⟩ := bind_some' e4
  obtain ⟨bc, hbc, e6⟩ := bind_some' e5
  obtain ⟨h6, hh, e7⟩ := bind_some' e6
  clear e e1 e2 e3 e4 e5 e6
  cases e7
  generalize hmx : fltBest .gt r g b = mx at *
  generalize hmn : fltBest .lt r g b = mn at *
  generalize hH : hueF r g b mx rc gc bc = H at *
  refine fnD_ret (σ' := [(S "r", .flt r), (S "g", .flt g), (S "b", .flt b), (S "maxc", .flt mx), (S "minc", .flt mn), (S "sumc", .flt (Float64.add mx mn)), (S "rangec", .flt (Float64.sub mx mn)), (S "l", .flt l), (S "s", .flt s), (S "rc", .flt rc), (S "gc", .flt gc), (S "bc", .flt bc), (S "h", .flt (Float64.divmod h6 q1).2)]) (by rfl) ?_
  refine (exs_next (ex_asg (d := .flt mx) ⟨by rfl, fun h => by cases h⟩ (by rw [← hmx]; rfl))).trans ?_
  refine (exs_next (ex_asg (d := .flt mn) ⟨by rfl, fun h => by cases h⟩ (by rw [← hmn]; rfl))).trans ?_
  refine (exs_next (ex_asg (d := .flt (Float64.add mx mn)) ⟨by rfl, fun h => by cases h⟩ (by rfl))).trans ?_
  refine (exs_next (ex_asg (d := .flt (Float64.sub mx mn)) ⟨by rfl, fun h => by cases h⟩ (by rfl))).trans ?_
  refine (exs_next (ex_asg (d := .flt l) ⟨by rfl, fun h => by cases h⟩ (ev_bin (a := .flt (Float64.add mx mn)) (b := .flt q2) (by rfl) (by rfl) (divF_val hl)))).trans ?_
  refine (exs_next (ex_iff (tr_cmp (a := .flt mn) (b := .flt mx) (c := false) (by rfl) (by rfl) (by rfl) (by exact congrArg some (Bool.eq_false_iff.mpr hne))) exs_end)).trans ?_
  refine (exs_next (σ' := [(S "r", .flt r), (S "g", .flt g), (S "b", .flt b), (S "maxc", .flt mx), (S "minc", .flt mn), (S "sumc", .flt (Float64.add mx mn)), (S "rangec", .flt (Float64.sub mx mn)), (S "l", .flt l), (S "s", .flt s)]) ?_).trans ?_
  · by_cases q : leF l qh = true
    · rw [if_pos q] at hs
      refine ex_ift (tr_cmp (a := .flt l) (b := .flt qh) (c := true) (by rfl) (by rfl) (by rfl) (by exact congrArg some q)) ?_
      exact (exs_next (ex_asg (d := .flt s) ⟨by rfl, fun h => by cases h⟩ (ev_bin (a := .flt (Float64.sub mx mn)) (b := .flt (Float64.add mx mn)) (by rfl) (by rfl) (divF_val hs)))).trans exs_end
    · rw [if_neg q] at hs
      refine ex_iff (tr_cmp (a := .flt l) (b := .flt qh) (c := false) (by rfl) (by rfl) (by rfl) (by exact congrArg some (Bool.eq_false_iff.mpr q))) ?_
      exact (exs_next (ex_asg (d := .flt s) ⟨by rfl, fun h => by cases h⟩ (ev_bin (a := .flt (Float64.sub mx mn)) (b := .flt (Float64.sub (Float64.sub q2 mx) mn)) (by rfl) (by rfl) (divF_val hs)))).trans exs_end
  refine (exs_next (ex_asg (d := .flt rc) ⟨by rfl, fun h => by cases h⟩ (ev_bin (a := .flt (Float64.sub mx r)) (b := .flt (Float64.sub mx mn)) (by rfl) (by rfl) (divF_val hrc)))).trans ?_
  refine (exs_next (ex_asg (d := .flt gc) ⟨by rfl, fun h => by cases h⟩ (ev_bin (a := .flt (Float64.sub mx g)) (b := .flt (Float64.sub mx mn)) (by rfl) (by rfl) (divF_val hgc)))).trans ?_
  refine (exs_next (ex_asg (d := .flt bc) ⟨by rfl, fun h => by cases h⟩ (ev_bin (a := .flt (Float64.sub mx b)) (b := .flt (Float64.sub mx mn)) (by rfl) (by rfl) (divF_val hbc)))).trans ?_
  refine (exs_next (σ' := [(S "r", .flt r), (S "g", .flt g), (S "b", .flt b), (S "maxc", .flt mx), (S "minc", .flt mn), (S "sumc", .flt (Float64.add mx mn)), (S "rangec", .flt (Float64.sub mx mn)), (S "l", .flt l), (S "s", .flt s), (S "rc", .flt rc), (S "gc", .flt gc), (S "bc", .flt bc), (S "h", .flt H)]) ?_).trans ?_
  · unfold hueF at hH
    by_cases q : eqF r mx = true
    · rw [if_pos q] at hH
      subst hH
      refine ex_ift (tr_cmp (a := .flt r) (b := .flt mx) (c := true) (by rfl) (by rfl) (by rfl) (by exact congrArg some q)) ?_
      exact (exs_next (ex_asg (d := .flt (Float64.sub bc gc)) ⟨by rfl, fun h => by cases h⟩ (by rfl))).trans exs_end
    · rw [if_neg q] at hH
      refine ex_iff (tr_cmp (a := .flt r) (b := .flt mx) (c := false) (by rfl) (by rfl) (by rfl) (by exact congrArg some (Bool.eq_false_iff.mpr q))) ?_
      refine (exs_next ?_).trans exs_end
      by_cases q' : eqF g mx = true
      · rw [if_pos q'] at hH
        subst hH
        refine ex_ift (tr_cmp (a := .flt g) (b := .flt mx) (c := true) (by rfl) (by rfl) (by rfl) (by exact congrArg some q')) ?_
        exact (exs_next (ex_asg (d := .flt (Float64.sub (Float64.add q2 rc) bc)) ⟨by rfl, fun h => by cases h⟩ (by rfl))).trans exs_end
      · rw [if_neg q'] at hH
        subst hH
        refine ex_iff (tr_cmp (a := .flt g) (b := .flt mx) (c := false) (by rfl) (by rfl) (by rfl) (by exact congrArg some (Bool.eq_false_iff.mpr q'))) ?_
        exact (exs_next (ex_asg (d := .flt (Float64.sub (Float64.add q4 gc) rc)) ⟨by rfl, fun h => by cases h⟩ (by rfl))).trans exs_end
  refine (exs_next (ex_asg (d := .flt (Float64.divmod h6 q1).2) ⟨by rfl, fun h => by cases h⟩ (ev_bin (a := .flt h6) (b := .flt q1) (fw_bin (a := .flt H) (b := .flt q6) (by rfl) (by rfl) (divF_val hh)) (by rfl) (modF_val _)))).trans ?_
  exact exs_ret (ex_ret2 (fun _ => rfl) (by rfl))
end Mine
end

section
open PySem PySem.W PyProof.Rows
set_option Elab.async false
namespace Mine
set_option maxRecDepth 100000
set_option maxHeartbeats 2000000
set_option linter.unusedVariables false

noncomputable def hsvF (r g b : UInt64) : Option (UInt64 × UInt64 × UInt64) :=
  if eqF (fltBest .lt r g b) (fltBest .gt r g b) = true then none else
  (divF (Float64.sub (fltBest .gt r g b) (fltBest .lt r g b)) (fltBest .gt r g b)).bind fun s =>
  (divF (Float64.sub (fltBest .gt r g b) r) (Float64.sub (fltBest .gt r g b) (fltBest .lt r g b))).bind fun rc =>
  (divF (Float64.sub (fltBest .gt r g b) g) (Float64.sub (fltBest .gt r g b) (fltBest .lt r g b))).bind fun gc =>
  (divF (Float64.sub (fltBest .gt r g b) b) (Float64.sub (fltBest .gt r g b) (fltBest .lt r g b))).bind fun bc =>
  (divF (hueF r g b (fltBest .gt r g b) rc gc bc) q6).bind fun h => some ((Float64.divmod h q1).2, s, fltBest .gt r g b)
theorem hsvF_val {r g b h s v : UInt64} (e : hsvF r g b = some (h, s, v)) : mkF G1 fd_rgb2hsv.1 [] [.flt r, .flt g, .flt b] = some (.tup [.flt h, .flt s, .flt v]) := by
  obtain ⟨hne, e1⟩ := ite_none e
  obtain ⟨s', hs, e3⟩ := bind_some' e1
  obtain ⟨rc, hrc, e4⟩ := bind_some' e3
  obtain ⟨gc, hgc, e5⟩ := bind_some' e4
  obtain ⟨bc, hbc, e6⟩ := bind_some' e5
  obtain ⟨h6, hh, e7⟩ := bind_some' e6
  clear e e1 e3 e4 e5 e6
  cases e7
  generalize hmx : fltBest .gt r g b = mx at *
  generalize hmn : fltBest .lt r g b = mn at *
  generalize hH : hueF r g b mx rc gc bc = H at *
  refine fnD_ret (σ' := [(S "r", .flt r), (S "g", .flt g), (S "b", .flt b), (S "maxc", .flt mx), (S "minc", .flt mn), (S "rangec", .flt (Float64.sub mx mn)), (S "v", .flt mx), (S "s", .flt s), (S "rc", .flt rc), (S "gc", .flt gc), (S "bc", .flt bc), (S "h", .flt (Float64.divmod h6 q1).2)]) (by rfl) ?_
  refine (exs_next (ex_asg (d := .flt mx) ⟨by rfl, fun h => by cases h⟩ (by rw [← hmx]; rfl))).trans ?_
  refine (exs_next (ex_asg (d := .flt mn) ⟨by rfl, fun h => by cases h⟩ (by rw [← hmn]; rfl))).trans ?_
  refine (exs_next (ex_asg (d := .flt (Float64.sub mx mn)) ⟨by rfl, fun h => by cases h⟩ (by rfl))).trans ?_
  refine (exs_next (ex_asg (d := .flt mx) ⟨by rfl, fun h => by cases h⟩ (by rfl))).trans ?_
  refine (exs_next (ex_iff (tr_cmp (a := .flt mn) (b := .flt mx) (c := false) (by rfl) (by rfl) (by rfl) (by exact congrArg some (Bool.eq_false_iff.mpr hne))) exs_end)).trans ?_
  refine (exs_next (ex_asg (d := .flt s) ⟨by rfl, fun h => by cases h⟩ (ev_bin (a := .flt (Float64.sub mx mn)) (b := .flt mx) (by rfl) (by rfl) (divF_val hs)))).trans ?_
  refine (exs_next (ex_asg (d := .flt rc) ⟨by rfl, fun h => by cases h⟩ (ev_bin (a := .flt (Float64.sub mx r)) (b := .flt (Float64.sub mx mn)) (by rfl) (by rfl) (divF_val hrc)))).trans ?_
  refine (exs_next (ex_asg (d := .flt gc) ⟨by rfl, fun h => by cases h⟩ (ev_bin (a := .flt (Float64.sub mx g)) (b := .flt (Float64.sub mx mn)) (by rfl) (by rfl) (divF_val hgc)))).trans ?_
  refine (exs_next (ex_asg (d := .flt bc) ⟨by rfl, fun h => by cases h⟩ (ev_bin (a := .flt (Float64.sub mx b)) (b := .flt (Float64.sub mx mn)) (by rfl) (by rfl) (divF_val hbc)))).trans ?_
  refine (exs_next (σ' := [(S "r", .flt r), (S "g", .flt g), (S "b", .flt b), (S "maxc", .flt mx), (S "minc", .flt mn), (S "rangec", .flt (Float64.sub mx mn)), (S "v", .flt mx), (S "s", .flt s), (S "rc", .flt rc), (S "gc", .flt gc), (S "bc", .flt bc), (S "h", .flt H)]) ?_).trans ?_
  · unfold hueF at hH
    by_cases q : eqF r mx = true
    · rw [if_pos q] at hH
      subst hH
      refine ex_ift (tr_cmp (a := .flt r) (b := .flt mx) (c := true) (by rfl) (by rfl) (by rfl) (by exact congrArg some q)) ?_
      exact (exs_next (ex_asg (d := .flt (Float64.sub bc gc)) ⟨by rfl, fun h => by cases h⟩ (by rfl))).trans exs_end
    · rw [if_neg q] at hH
      refine ex_iff (tr_cmp (a := .flt r) (b := .flt mx) (c := false) (by rfl) (by rfl) (by rfl) (by exact congrArg some (Bool.eq_false_iff.mpr q))) ?_
      refine (exs_next ?_).trans exs_end
      by_cases q' : eqF g mx = true
      · rw [if_pos q'] at hH
        subst hH
        refine ex_ift (tr_cmp (a := .flt g) (b := .flt mx) (c := true) (by rfl) (by rfl) (by rfl) (by exact congrArg some q')) ?_
        exact (exs_next (ex_asg (d := .flt (Float64.sub (Float64.add q2 rc) bc)) ⟨by rfl, fun h => by cases h⟩ (by rfl))).trans exs_end
      · rw [if_neg q'] at hH
        subst hH
        refine ex_iff (tr_cmp (a := .flt g) (b := .flt mx) (c := false) (by rfl) (by rfl) (by rfl) (by exact congrArg some (Bool.eq_false_iff.mpr q'))) ?_
        exact (exs_next (ex_asg (d := .flt (Float64.sub (Float64.add q4 gc) rc)) ⟨by rfl, fun h => by cases h⟩ (by rfl))).trans exs_end
  refine (exs_next (ex_asg (d := .flt (Float64.divmod h6 q1).2) ⟨by rfl, fun h => by cases h⟩ (ev_bin (a := .flt h6) (b := .flt q1) (fw_bin (a := .flt H) (b := .flt q6) (by rfl) (by rfl) (divF_val hh)) (by rfl) (modF_val _)))).trans ?_
  exact exs_ret (ex_ret2 (fun _ => rfl) (by rfl))

noncomputable abbrev k13 : UInt64 := 4599676419421066581
noncomputable abbrev k16 : UInt64 := 4595172819793696085
noncomputable abbrev k23 : UInt64 := 4604180019048437077
noncomputable def vF (m1 m2 hue : UInt64) : UInt64 :=
  if ltF (Float64.divmod hue q1).2 k16 = true then Float64.add m1 (Float64.mul (Float64.mul (Float64.sub m2 m1) (Float64.divmod hue q1).2) q6)
  else if ltF (Float64.divmod hue q1).2 qh = true then m2
  else if ltF (Float64.divmod hue q1).2 k23 = true then Float64.add m1 (Float64.mul (Float64.mul (Float64.sub m2 m1) (Float64.sub k23 (Float64.divmod hue q1).2)) q6)
  else m1
theorem vF_val (m1 m2 hue : UInt64) : mkF G1 fd_v.1 [] [.flt m1, .flt m2, .flt hue] = some (.flt (vF m1 m2 hue)) := by
  refine fnD_ret (σ' := [(S "m1", .flt m1), (S "m2", .flt m2), (S "hue", .flt (Float64.divmod hue q1).2)]) (by rfl) ?_
  refine (exs_next (ex_asg (d := .flt (Float64.divmod hue q1).2) ⟨by rfl, fun h => by cases h⟩ (ev_bin (a := .flt hue) (b := .flt q1) (by rfl) (by rfl) (modF_val _)))).trans ?_
  unfold vF
  generalize (Float64.divmod hue q1).2 = u
  by_cases h1 : ltF u k16 = true
  · rw [if_pos h1]
    refine exs_ret (ex_ift (tr_cmp (a := .flt u) (b := .flt k16) (c := true) (by rfl) (by rfl) (by rfl) (by exact congrArg some h1)) ?_)
    exact exs_ret (ex_ret2 (fun _ => rfl) (by rfl))
  · rw [if_neg h1]
    refine (exs_next (ex_iff (tr_cmp (a := .flt u) (b := .flt k16) (c := false) (by rfl) (by rfl) (by rfl) (by exact congrArg some (Bool.eq_false_iff.mpr h1))) exs_end)).trans ?_
    by_cases h2 : ltF u qh = true
    · rw [if_pos h2]
      refine exs_ret (ex_ift (tr_cmp (a := .flt u) (b := .flt qh) (c := true) (by rfl) (by rfl) (by rfl) (by exact congrArg some h2)) ?_)
      exact exs_ret (ex_ret2 (fun _ => rfl) (by rfl))
    · rw [if_neg h2]
      refine (exs_next (ex_iff (tr_cmp (a := .flt u) (b := .flt qh) (c := false) (by rfl) (by rfl) (by rfl) (by exact congrArg some (Bool.eq_false_iff.mpr h2))) exs_end)).trans ?_
      by_cases h3 : ltF u k23 = true
      · rw [if_pos h3]
        refine exs_ret (ex_ift (tr_cmp (a := .flt u) (b := .flt k23) (c := true) (by rfl) (by rfl) (by rfl) (by exact congrArg some h3)) ?_)
        exact exs_ret (ex_ret2 (fun _ => rfl) (by rfl))
      · rw [if_neg h3]
        refine (exs_next (ex_iff (tr_cmp (a := .flt u) (b := .flt k23) (c := false) (by rfl) (by rfl) (by rfl) (by exact congrArg some (Bool.eq_false_iff.mpr h3))) exs_end)).trans ?_
        exact exs_ret (ex_ret2 (fun _ => rfl) (by rfl))

/-- saturation not zero -/
noncomputable def m2F (l s : UInt64) : UInt64 := if leF l qh = true then Float64.mul l (Float64.add q1 s) else Float64.sub (Float64.add l s) (Float64.mul l s)
noncomputable def m1F (l s : UInt64) : UInt64 := Float64.sub (Float64.mul q2 l) (m2F l s)
noncomputable def toRgbF (h l s : UInt64) : Option (UInt64 × UInt64 × UInt64) :=
  if eqF s 0 = true then none else some (vF (m1F l s) (m2F l s) (Float64.add h k13), vF (m1F l s) (m2F l s) h, vF (m1F l s) (m2F l s) (Float64.sub h k13))
theorem toRgbF_val {h l s r g b : UInt64} (e : toRgbF h l s = some (r, g, b)) : mkF G2 fd_hls2rgb.1 [] [.flt h, .flt l, .flt s] = some (.tup [.flt r, .flt g, .flt b]) := by
  obtain ⟨hz, e⟩ := ite_none e
  have e := (Option.some.inj e).symm
  cases e
  refine fnD_ret (σ' := [(S "h", .flt h), (S "l", .flt l), (S "s", .flt s), (S "m2", .flt (m2F l s)), (S "m1", .flt (m1F l s))]) (by rfl) ?_
  refine (exs_next (ex_iff (tr_cmp (a := .flt s) (b := .flt 0) (c := false) (by rfl) (by rfl) (by rfl) (by exact congrArg some (Bool.eq_false_iff.mpr hz))) exs_end)).trans ?_
  refine (exs_next (σ' := [(S "h", .flt h), (S "l", .flt l), (S "s", .flt s), (S "m2", .flt (m2F l s))]) ?_).trans ?_
  · by_cases q : leF l qh = true
    · refine ex_ift (tr_cmp (a := .flt l) (b := .flt qh) (c := true) (by rfl) (by rfl) (by rfl) (by exact congrArg some q)) ?_
      refine (exs_next (ex_asg (d := .flt (m2F l s)) ⟨by rfl, fun h => by cases h⟩ ?_)).trans exs_end
      unfold m2F
      rw [if_pos q]; rfl
    · refine ex_iff (tr_cmp (a := .flt l) (b := .flt qh) (c := false) (by rfl) (by rfl) (by rfl) (by exact congrArg some (Bool.eq_false_iff.mpr q))) ?_
      refine (exs_next (ex_asg (d := .flt (m2F l s)) ⟨by rfl, fun h => by cases h⟩ ?_)).trans exs_end
      unfold m2F
      rw [if_neg q]; rfl
  refine (exs_next (ex_asg (d := .flt (m1F l s)) ⟨by rfl, fun h => by cases h⟩ (by rfl))).trans ?_
  refine exs_ret (ex_ret2 (fun _ => rfl) ?_)
  refine (show _ = (if 3 ≤ 2 ^ 20 then (allD (ev G2 _ _ _ _ _) [_, _, _]).map D.tup else none) from rfl).trans ?_
  rw [if_pos (by decide), allDc ?_ (allD2 ?_ ?_)]
  · rfl
  · exact (show _ = (mkF G1 fd_v.1 [] [.flt (m1F l s), .flt (m2F l s), .flt (Float64.add h k13)]).bind some from rfl).trans (by rw [vF_val]; rfl)
  · exact (show _ = (mkF G1 fd_v.1 [] [.flt (m1F l s), .flt (m2F l s), .flt h]).bind some from rfl).trans (by rw [vF_val]; rfl)
  · exact (show _ = (mkF G1 fd_v.1 [] [.flt (m1F l s), .flt (m2F l s), .flt (Float64.sub h k13)]).bind some from rfl).trans (by rw [vF_val]; rfl)
end Mine
end

section
open PySem PySem.W PyProof.Rows
set_option Elab.async false
namespace Mine
set_option maxRecDepth 100000
set_option maxHeartbeats 2000000
set_option linter.unusedVariables false

noncomputable def trF (x : UInt64) : Option Int := match Float64.decode x with
  | .fin sg m e => some (Float64.truncOf sg m e)
  | _ => none
theorem trF_val {x : UInt64} {i : Int} (h : trF x = some i) : truncD x = some (.int i) := by
  have h : (match Float64.decode x with
    | .fin sg m e => some (Float64.truncOf sg m e)
    | _ => none) = some i := h
  show (match Float64.decode x with
    | .fin sg m e => some (D.int (Float64.truncOf sg m e))
    | _ => none) = _
  cases hd : Float64.decode x with
  | fin sg m e => rw [hd] at h; exact congrArg (fun z => some (D.int z)) (Option.some.inj h)
  | _ => rw [hd] at h; exact none_some h
noncomputable def pickF (k : Int) (v p q t : UInt64) : Option (UInt64 × UInt64 × UInt64) :=
  if (k == 0) = true then some (v, t, p) else if (k == 1) = true then some (q, v, p) else if (k == 2) = true then some (p, v, t) else if (k == 3) = true then some (p, q, v) else if (k == 4) = true then some (t, p, v) else if (k == 5) = true then some (v, p, q) else none
noncomputable def fromF (h s v : UInt64) : Option (UInt64 × UInt64 × UInt64) :=
  if eqF s 0 = true then none else
  (trF (Float64.mul h q6)).bind fun i => if smallI i = true then
    pickF (i.fmod 6) v (Float64.mul v (Float64.sub q1 s)) (Float64.mul v (Float64.sub q1 (Float64.mul s (Float64.sub (Float64.mul h q6) (Float64.ofInt i))))) (Float64.mul v (Float64.sub q1 (Float64.mul s (Float64.sub q1 (Float64.sub (Float64.mul h q6) (Float64.ofInt i)))))) else none
theorem fromF_val {h s v r g b : UInt64} (e : fromF h s v = some (r, g, b)) : mkF G1 fd_hsv2rgb.1 [] [.flt h, .flt s, .flt v] = some (.tup [.flt r, .flt g, .flt b]) := by
  obtain ⟨hz, e1⟩ := ite_none e
  obtain ⟨i, hi, e2⟩ := bind_some' e1
  obtain ⟨hsm, e3⟩ := ite_some e2
  clear e e1 e2
  generalize hf : Float64.sub (Float64.mul h q6) (Float64.ofInt i) = f at *
  generalize hp : Float64.mul v (Float64.sub q1 s) = p at *
  generalize hq : Float64.mul v (Float64.sub q1 (Float64.mul s f)) = q at *
  generalize ht : Float64.mul v (Float64.sub q1 (Float64.mul s (Float64.sub q1 f))) = t at *
  generalize hk : i.fmod 6 = k at *
  have hsub : binD .Sub (.flt (Float64.mul h q6)) (.int i) = some (.flt f) := by
    show (if smallI i = true then some (D.flt (Float64.sub (Float64.mul h q6) (Float64.ofInt i))) else none) = _
    rw [if_pos hsm, hf]
  have hmod : binD .Mod (.int i) (.int 6) = some (.int k) := by
    show (if (6 : Int) ≠ 0 then some (D.int (i.fmod 6)) else none) = _
    rw [if_pos (by decide), hk]
  have hint : tyD "int" [.flt (Float64.mul h q6)] = some (.int i) := trF_val hi
  have hp0 := hp
  have hq0 := hq
  have ht0 := ht
  clear hi hf hp hq ht hk
  refine fnD_ret (σ' := [(S "h", .flt h), (S "s", .flt s), (S "v", .flt v), (S "i", .int k), (S "f", .flt f), (S "p", .flt p), (S "q", .flt q), (S "t", .flt t)]) (by rfl) ?_
  refine (exs_next (ex_iff (tr_cmp (a := .flt s) (b := .flt 0) (c := false) (by rfl) (by rfl) (by rfl) (by exact congrArg some (Bool.eq_false_iff.mpr hz))) exs_end)).trans ?_
  refine (exs_next (ex_asg (d := .int i) ⟨by rfl, fun h => by cases h⟩ ?_)).trans ?_
  · exact (show _ = tyD "int" [.flt (Float64.mul h q6)] from rfl).trans hint
  refine (exs_next (ex_asg (d := .flt f) ⟨by rfl, fun h => by cases h⟩ (ev_bin (a := .flt (Float64.mul h q6)) (b := .int i) (by rfl) (by rfl) hsub))).trans ?_
  refine (exs_next (ex_asg (d := .flt p) ⟨by rfl, fun h => by cases h⟩ (by rw [← hp0]; rfl))).trans ?_
  refine (exs_next (ex_asg (d := .flt q) ⟨by rfl, fun h => by cases h⟩ (by rw [← hq0]; rfl))).trans ?_
  refine (exs_next (ex_asg (d := .flt t) ⟨by rfl, fun h => by cases h⟩ (by rw [← ht0]; rfl))).trans ?_
  refine (exs_next (ex_asg (d := .int k) ⟨by rfl, fun h => by cases h⟩ (ev_bin (a := .int i) (b := .int 6) (by rfl) (by rfl) hmod))).trans ?_
  unfold pickF at e3
  by_cases k0 : (k == 0) = true
  · rw [if_pos k0] at e3
    cases e3
    exact exs_ret (ex_ift (tr_cmp (a := .int k) (b := .int 0) (c := true) (by rfl) (by rfl) (by rfl) (by exact congrArg some k0)) (exs_ret (ex_ret2 (fun _ => rfl) (by rfl))))
  rw [if_neg k0] at e3
  refine (exs_next (ex_iff (tr_cmp (a := .int k) (b := .int 0) (c := false) (by rfl) (by rfl) (by rfl) (by exact congrArg some (Bool.eq_false_iff.mpr k0))) exs_end)).trans ?_
  by_cases k1 : (k == 1) = true
  · rw [if_pos k1] at e3
    cases e3
    exact exs_ret (ex_ift (tr_cmp (a := .int k) (b := .int 1) (c := true) (by rfl) (by rfl) (by rfl) (by exact congrArg some k1)) (exs_ret (ex_ret2 (fun _ => rfl) (by rfl))))
  rw [if_neg k1] at e3
  refine (exs_next (ex_iff (tr_cmp (a := .int k) (b := .int 1) (c := false) (by rfl) (by rfl) (by rfl) (by exact congrArg some (Bool.eq_false_iff.mpr k1))) exs_end)).trans ?_
  by_cases k2 : (k == 2) = true
  · rw [if_pos k2] at e3
    cases e3
    exact exs_ret (ex_ift (tr_cmp (a := .int k) (b := .int 2) (c := true) (by rfl) (by rfl) (by rfl) (by exact congrArg some k2)) (exs_ret (ex_ret2 (fun _ => rfl) (by rfl))))
  rw [if_neg k2] at e3
  refine (exs_next (ex_iff (tr_cmp (a := .int k) (b := .int 2) (c := false) (by rfl) (by rfl) (by rfl) (by exact congrArg some (Bool.eq_false_iff.mpr k2))) exs_end)).trans ?_
  by_cases k3 : (k == 3) = true
  · rw [if_pos k3] at e3
    cases e3
    exact exs_ret (ex_ift (tr_cmp (a := .int k) (b := .int 3) (c := true) (by rfl) (by rfl) (by rfl) (by exact congrArg some k3)) (exs_ret (ex_ret2 (fun _ => rfl) (by rfl))))
  rw [if_neg k3] at e3
  refine (exs_next (ex_iff (tr_cmp (a := .int k) (b := .int 3) (c := false) (by rfl) (by rfl) (by rfl) (by exact congrArg some (Bool.eq_false_iff.mpr k3))) exs_end)).trans ?_
  by_cases k4 : (k == 4) = true
  · rw [if_pos k4] at e3
    cases e3
    exact exs_ret (ex_ift (tr_cmp (a := .int k) (b := .int 4) (c := true) (by rfl) (by rfl) (by rfl) (by exact congrArg some k4)) (exs_ret (ex_ret2 (fun _ => rfl) (by rfl))))
  rw [if_neg k4] at e3
  refine (exs_next (ex_iff (tr_cmp (a := .int k) (b := .int 4) (c := false) (by rfl) (by rfl) (by rfl) (by exact congrArg some (Bool.eq_false_iff.mpr k4))) exs_end)).trans ?_
  by_cases k5 : (k == 5) = true
  · rw [if_pos k5] at e3
    cases e3
    exact exs_ret (ex_ift (tr_cmp (a := .int k) (b := .int 5) (c := true) (by rfl) (by rfl) (by rfl) (by exact congrArg some k5)) (exs_ret (ex_ret2 (fun _ => rfl) (by rfl))))
  rw [if_neg k5] at e3
  exact none_some e3

noncomputable def toldF (r : Nat) (hv : UInt64) : Option (UInt64 × UInt64 × UInt64) :=
  if r = 0 then (fromF hv 0x3fe0000000000000 0x3fe8000000000000).bind fun q => hlsF q.1 q.2.1 q.2.2
  else if r = 1 then (toRgbF (Float64.sub hv (Float64.ofInt 9)) 0x3fd0000000000000 0x3fe0000000000000).bind fun q => hsvF q.1 q.2.1 q.2.2
  else (toRgbF hv 0x3fe4000000000000 0x3fe0000000000000).bind fun q => hlsF q.1 q.2.1 q.2.2
theorem toldF_val {r : Nat} {hv : UInt64} {q : UInt64 × UInt64 × UInt64} (h : toldF r hv = some q) : toldD r (.flt hv) = some (.tup [.flt q.1, .flt q.2.1, .flt q.2.2]) := by
  unfold toldF at h
  unfold toldD
  by_cases h0 : r = 0
  · rw [if_pos h0] at h ⊢
    obtain ⟨z, h1, h2⟩ := bind_some' h
    rw [fromF_val h1]
    exact hlsF_val h2
  · rw [if_neg h0] at h ⊢
    by_cases h1 : r = 1
    · rw [if_pos h1] at h ⊢
      obtain ⟨z, h2, h3⟩ := bind_some' h
      have e : ((binD .Sub (.flt hv) (.int 9)).bind fun h => some [h, D.flt 0x3fd0000000000000, D.flt 0x3fe0000000000000]) = some [.flt (Float64.sub hv (Float64.ofInt 9)), .flt 0x3fd0000000000000, .flt 0x3fe0000000000000] := rfl
      rw [e]
      show starF _ ((mkF G2 fd_hls2rgb.1 [] [.flt (Float64.sub hv (Float64.ofInt 9)), .flt 0x3fd0000000000000, .flt 0x3fe0000000000000]).bind some) = _
      rw [toRgbF_val h2]
      exact hsvF_val h3
    · rw [if_neg h1] at h ⊢
      obtain ⟨z, h2, h3⟩ := bind_some' h
      rw [toRgbF_val h2]
      exact hlsF_val h3
noncomputable def hueW (d s c : Nat) : Option UInt64 := (divF (Float64.ofInt s) 0x4030000000000000).bind fun b => if smallI (d : Int) = true ∧ smallI (c : Int) = true ∧ smallI (s : Int) = true ∧ (c : Int) ≠ 0 then some (Float64.div (Float64.add (Float64.ofInt d) b) (Float64.ofInt c)) else none
theorem hueW_val {d s c : Nat} {h : UInt64} (e : hueW d s c = some h) : hueD d s c = some (.flt h) := by
  obtain ⟨b, h1, h2⟩ := bind_some' e
  obtain ⟨⟨c1, c2, c3, c4⟩, h3⟩ := ite_some h2
  obtain ⟨h4, h5⟩ := ite_none h1
  have e1 : binD .Div (dN s) (.flt 0x4030000000000000) = some (.flt b) := by
    show (if smallI (s : Int) = true ∧ ¬ Float64.isZero 0x4030000000000000 = true then some (D.flt (Float64.div (Float64.ofInt s) 0x4030000000000000)) else none) = _
    rw [if_pos ⟨c3, h4⟩, Option.some.inj h5]
  have e2 : binD .Add (dN d) (.flt b) = some (.flt (Float64.add (Float64.ofInt d) b)) := by
    show (if smallI (d : Int) = true then some (D.flt (Float64.add (Float64.ofInt d) b)) else none) = _
    rw [if_pos c1]
  unfold hueD
  rw [e1]
  show (binD .Add (dN d) (.flt b)).bind _ = _
  rw [e2]
  show (if smallI (c : Int) = true ∧ (c : Int) ≠ 0 then some (D.flt (Float64.div (Float64.add (Float64.ofInt d) b) (Float64.ofInt c))) else none) = _
  rw [if_pos ⟨c2, c4⟩]
  exact congrArg (fun z => some (D.flt z)) (Option.some.inj h3)
noncomputable def out1W (t : UInt64) (c : Nat) : Option Int := if smallI (c : Int) = true then trF (Float64.mul t (Float64.ofInt c)) else none
theorem out1W_val {t : UInt64} {c : Nat} {i : Int} (e : out1W t c = some i) : out1 (.flt t) c = some (.int i) := by
  obtain ⟨c1, h⟩ := ite_some e
  have e1 : binD .Mult (.flt t) (dN c) = some (.flt (Float64.mul t (Float64.ofInt c))) := by
    show (if smallI (c : Int) = true then some (D.flt (Float64.mul t (Float64.ofInt c))) else none) = _
    rw [if_pos c1]
  unfold out1
  rw [e1]
  exact trF_val h
noncomputable def out2W (t : UInt64) : Option Int := trF (Float64.add (Float64.mul (Float64.ofInt 16) t) 0x3fe0000000000000)
theorem out2W_val {t : UInt64} {i : Int} (e : out2W t = some i) : out2 (.flt t) = some (.int i) := trF_val e
end Mine
end

section
open PySem PySem.W PyProof.Rows
set_option Elab.async false
namespace Mine
set_option maxRecDepth 100000
set_option linter.unusedVariables false
theorem odd8 {s : Nat} (hs : s % 2 = 1) (h16 : s < 16) : s = 1 ∨ s = 3 ∨ s = 5 ∨ s = 7 ∨ s = 9 ∨ s = 11 ∨ s = 13 ∨ s = 15 :=
  (by decide : ∀ s, s < 16 → s % 2 = 1 → s = 1 ∨ s = 3 ∨ s = 5 ∨ s = 7 ∨ s = 9 ∨ s = 11 ∨ s = 13 ∨ s = 15) s h16 hs
noncomputable def isI (o : Option Int) (x : Nat) : Bool := match o with
  | some a => a == (x : Int)
  | none => false
theorem isI_eq {o : Option Int} {x : Nat} (h : isI o x = true) : o = some (x : Int) := by
  cases o with
  | none => cases h
  | some a => exact congrArg some (eq_of_beq (show (a == (x : Int)) = true from h))
noncomputable def wayB (d s c r x y : Nat) : Bool := match (hueW d s c).bind (toldF r) with
  | some q => isI (out1W q.1 c) (d % c) && isI (out2W q.2.1) x && isI (out2W q.2.2) y
  | none => false
theorem wayB_val {d s c t r x y : Nat} (hr : t % 3 = r) (h : wayB d s c r x y = true) : mkF G3 fd_way.1 [] [dN d, dN s, dN c, dN t] = some (nI [d % c, x, y]) := by
  have h : (match (hueW d s c).bind (toldF r) with
    | some q => isI (out1W q.1 c) (d % c) && isI (out2W q.2.1) x && isI (out2W q.2.2) y
    | none => false) = true := h
  cases hq : (hueW d s c).bind (toldF r) with
  | none => rw [hq] at h; cases h
  | some q =>
    rw [hq] at h
    obtain ⟨hv, hh, h1⟩ := bind_some' hq
    have h := Bool.and_eq_true_iff.mp h
    have h' := Bool.and_eq_true_iff.mp h.1
    exact way_go hr (hueW_val hh) (toldF_val h1) (out1W_val (isI_eq h'.1)) (out2W_val (isI_eq h'.2)) (out2W_val (isI_eq h.2))
theorem w_1_0_1 : ((List.range 9).all fun d => wayB (d + 1) 1 1 0 9 7) = true := by decide +kernel
theorem w_1_0_3 : ((List.range 9).all fun d => wayB (d + 1) 3 1 0 9 7) = true := by decide +kernel
theorem w_1_0_5 : ((List.range 9).all fun d => wayB (d + 1) 5 1 0 9 7) = true := by decide +kernel
theorem w_1_0_7 : ((List.range 9).all fun d => wayB (d + 1) 7 1 0 9 7) = true := by decide +kernel
theorem w_1_0_9 : ((List.range 9).all fun d => wayB (d + 1) 9 1 0 9 7) = true := by decide +kernel
theorem w_1_0_11 : ((List.range 9).all fun d => wayB (d + 1) 11 1 0 9 7) = true := by decide +kernel
theorem w_1_0_13 : ((List.range 9).all fun d => wayB (d + 1) 13 1 0 9 7) = true := by decide +kernel
theorem w_1_0_15 : ((List.range 9).all fun d => wayB (d + 1) 15 1 0 9 7) = true := by decide +kernel
theorem w_1_1_1 : ((List.range 9).all fun d => wayB (d + 1) 1 1 1 11 6) = true := by decide +kernel
theorem w_1_1_3 : ((List.range 9).all fun d => wayB (d + 1) 3 1 1 11 6) = true := by decide +kernel
theorem w_1_1_5 : ((List.range 9).all fun d => wayB (d + 1) 5 1 1 11 6) = true := by decide +kernel
theorem w_1_1_7 : ((List.range 9).all fun d => wayB (d + 1) 7 1 1 11 6) = true := by decide +kernel
theorem w_1_1_9 : ((List.range 9).all fun d => wayB (d + 1) 9 1 1 11 6) = true := by decide +kernel
theorem w_1_1_11 : ((List.range 9).all fun d => wayB (d + 1) 11 1 1 11 6) = true := by decide +kernel
theorem w_1_1_13 : ((List.range 9).all fun d => wayB (d + 1) 13 1 1 11 6) = true := by decide +kernel
theorem w_1_1_15 : ((List.range 9).all fun d => wayB (d + 1) 15 1 1 11 6) = true := by decide +kernel
theorem w_1_2_1 : ((List.range 9).all fun d => wayB (d + 1) 1 1 2 10 8) = true := by decide +kernel
theorem w_1_2_3 : ((List.range 9).all fun d => wayB (d + 1) 3 1 2 10 8) = true := by decide +kernel
theorem w_1_2_5 : ((List.range 9).all fun d => wayB (d + 1) 5 1 2 10 8) = true := by decide +kernel
theorem w_1_2_7 : ((List.range 9).all fun d => wayB (d + 1) 7 1 2 10 8) = true := by decide +kernel
theorem w_1_2_9 : ((List.range 9).all fun d => wayB (d + 1) 9 1 2 10 8) = true := by decide +kernel
theorem w_1_2_11 : ((List.range 9).all fun d => wayB (d + 1) 11 1 2 10 8) = true := by decide +kernel
theorem w_1_2_13 : ((List.range 9).all fun d => wayB (d + 1) 13 1 2 10 8) = true := by decide +kernel
theorem w_1_2_15 : ((List.range 9).all fun d => wayB (d + 1) 15 1 2 10 8) = true := by decide +kernel
theorem w_2_0_1 : ((List.range 14).all fun d => wayB (d + 1) 1 2 0 9 7) = true := by decide +kernel
theorem w_2_0_3 : ((List.range 14).all fun d => wayB (d + 1) 3 2 0 9 7) = true := by decide +kernel
theorem w_2_0_5 : ((List.range 14).all fun d => wayB (d + 1) 5 2 0 9 7) = true := by decide +kernel
theorem w_2_0_7 : ((List.range 14).all fun d => wayB (d + 1) 7 2 0 9 7) = true := by decide +kernel
theorem w_2_0_9 : ((List.range 14).all fun d => wayB (d + 1) 9 2 0 9 7) = true := by decide +kernel
theorem w_2_0_11 : ((List.range 14).all fun d => wayB (d + 1) 11 2 0 9 7) = true := by decide +kernel
theorem w_2_0_13 : ((List.range 14).all fun d => wayB (d + 1) 13 2 0 9 7) = true := by decide +kernel
theorem w_2_0_15 : ((List.range 14).all fun d => wayB (d + 1) 15 2 0 9 7) = true := by decide +kernel
theorem w_2_1_1 : ((List.range 14).all fun d => wayB (d + 1) 1 2 1 11 6) = true := by decide +kernel
theorem w_2_1_3 : ((List.range 14).all fun d => wayB (d + 1) 3 2 1 11 6) = true := by decide +kernel
theorem w_2_1_5 : ((List.range 14).all fun d => wayB (d + 1) 5 2 1 11 6) = true := by decide +kernel
theorem w_2_1_7 : ((List.range 14).all fun d => wayB (d + 1) 7 2 1 11 6) = true := by decide +kernel
theorem w_2_1_9 : ((List.range 14).all fun d => wayB (d + 1) 9 2 1 11 6) = true := by decide +kernel
theorem w_2_1_11 : ((List.range 14).all fun d => wayB (d + 1) 11 2 1 11 6) = true := by decide +kernel
theorem w_2_1_13 : ((List.range 14).all fun d => wayB (d + 1) 13 2 1 11 6) = true := by decide +kernel
theorem w_2_1_15 : ((List.range 14).all fun d => wayB (d + 1) 15 2 1 11 6) = true := by decide +kernel
theorem w_2_2_1 : ((List.range 14).all fun d => wayB (d + 1) 1 2 2 10 8) = true := by decide +kernel
theorem w_2_2_3 : ((List.range 14).all fun d => wayB (d + 1) 3 2 2 10 8) = true := by decide +kernel
theorem w_2_2_5 : ((List.range 14).all fun d => wayB (d + 1) 5 2 2 10 8) = true := by decide +kernel
theorem w_2_2_7 : ((List.range 14).all fun d => wayB (d + 1) 7 2 2 10 8) = true := by decide +kernel
theorem w_2_2_9 : ((List.range 14).all fun d => wayB (d + 1) 9 2 2 10 8) = true := by decide +kernel
theorem w_2_2_11 : ((List.range 14).all fun d => wayB (d + 1) 11 2 2 10 8) = true := by decide +kernel
theorem w_2_2_13 : ((List.range 14).all fun d => wayB (d + 1) 13 2 2 10 8) = true := by decide +kernel
theorem w_2_2_15 : ((List.range 14).all fun d => wayB (d + 1) 15 2 2 10 8) = true := by decide +kernel
theorem w_3_0_1 : ((List.range 19).all fun d => wayB (d + 1) 1 3 0 9 7) = true := by decide +kernel
theorem w_3_0_3 : ((List.range 19).all fun d => wayB (d + 1) 3 3 0 9 7) = true := by decide +kernel
theorem w_3_0_5 : ((List.range 19).all fun d => wayB (d + 1) 5 3 0 9 7) = true := by decide +kernel
theorem w_3_0_7 : ((List.range 19).all fun d => wayB (d + 1) 7 3 0 9 7) = true := by decide +kernel
theorem w_3_0_9 : ((List.range 19).all fun d => wayB (d + 1) 9 3 0 9 7) = true := by decide +kernel
theorem w_3_0_11 : ((List.range 19).all fun d => wayB (d + 1) 11 3 0 9 7) = true := by decide +kernel
theorem w_3_0_13 : ((List.range 19).all fun d => wayB (d + 1) 13 3 0 9 7) = true := by decide +kernel
theorem w_3_0_15 : ((List.range 19).all fun d => wayB (d + 1) 15 3 0 9 7) = true := by decide +kernel
theorem w_3_1_1 : ((List.range 19).all fun d => wayB (d + 1) 1 3 1 11 6) = true := by decide +kernel
theorem w_3_1_3 : ((List.range 19).all fun d => wayB (d + 1) 3 3 1 11 6) = true := by decide +kernel
theorem w_3_1_5 : ((List.range 19).all fun d => wayB (d + 1) 5 3 1 11 6) = true := by decide +kernel
theorem w_3_1_7 : ((List.range 19).all fun d => wayB (d + 1) 7 3 1 11 6) = true := by decide +kernel
theorem w_3_1_9 : ((List.range 19).all fun d => wayB (d + 1) 9 3 1 11 6) = true := by decide +kernel
theorem w_3_1_11 : ((List.range 19).all fun d => wayB (d + 1) 11 3 1 11 6) = true := by decide +kernel
theorem w_3_1_13 : ((List.range 19).all fun d => wayB (d + 1) 13 3 1 11 6) = true := by decide +kernel
theorem w_3_1_15 : ((List.range 19).all fun d => wayB (d + 1) 15 3 1 11 6) = true := by decide +kernel
theorem w_3_2_1 : ((List.range 19).all fun d => wayB (d + 1) 1 3 2 10 8) = true := by decide +kernel
theorem w_3_2_3 : ((List.range 19).all fun d => wayB (d + 1) 3 3 2 10 8) = true := by decide +kernel
theorem w_3_2_5 : ((List.range 19).all fun d => wayB (d + 1) 5 3 2 10 8) = true := by decide +kernel
theorem w_3_2_7 : ((List.range 19).all fun d => wayB (d + 1) 7 3 2 10 8) = true := by decide +kernel
theorem w_3_2_9 : ((List.range 19).all fun d => wayB (d + 1) 9 3 2 10 8) = true := by decide +kernel
theorem w_3_2_11 : ((List.range 19).all fun d => wayB (d + 1) 11 3 2 10 8) = true := by decide +kernel
theorem w_3_2_13 : ((List.range 19).all fun d => wayB (d + 1) 13 3 2 10 8) = true := by decide +kernel
theorem w_3_2_15 : ((List.range 19).all fun d => wayB (d + 1) 15 3 2 10 8) = true := by decide +kernel
theorem all_at {P : Nat → Bool} {n d : Nat} (h : ((List.range n).all fun d => P (d + 1)) = true) (hd : 1 ≤ d) (hn : d ≤ n) : P d = true := by
  have := List.all_eq_true.mp h (d - 1) (List.mem_range.mpr (by omega))
  rwa [show d - 1 + 1 = d by omega] at this
theorem wc_1_0 {d s : Nat} (hd : 1 ≤ d) (hn : d ≤ 9) (hs : s % 2 = 1) (h16 : s < 16) : wayB d s 1 0 9 7 = true := by
  have hc := odd8 hs h16
  rcases hc with q | q | q | q | q | q | q | q <;> subst q
  · exact all_at (P := fun d => wayB d 1 1 0 9 7) w_1_0_1 hd hn
  · exact all_at (P := fun d => wayB d 3 1 0 9 7) w_1_0_3 hd hn
  · exact all_at (P := fun d => wayB d 5 1 0 9 7) w_1_0_5 hd hn
  · exact all_at (P := fun d => wayB d 7 1 0 9 7) w_1_0_7 hd hn
  · exact all_at (P := fun d => wayB d 9 1 0 9 7) w_1_0_9 hd hn
  · exact all_at (P := fun d => wayB d 11 1 0 9 7) w_1_0_11 hd hn
  · exact all_at (P := fun d => wayB d 13 1 0 9 7) w_1_0_13 hd hn
  · exact all_at (P := fun d => wayB d 15 1 0 9 7) w_1_0_15 hd hn
theorem wc_1_1 {d s : Nat} (hd : 1 ≤ d) (hn : d ≤ 9) (hs : s % 2 = 1) (h16 : s < 16) : wayB d s 1 1 11 6 = true := by
  have hc := odd8 hs h16
  rcases hc with q | q | q | q | q | q | q | q <;> subst q
  · exact all_at (P := fun d => wayB d 1 1 1 11 6) w_1_1_1 hd hn
  · exact all_at (P := fun d => wayB d 3 1 1 11 6) w_1_1_3 hd hn
  · exact all_at (P := fun d => wayB d 5 1 1 11 6) w_1_1_5 hd hn
  · exact all_at (P := fun d => wayB d 7 1 1 11 6) w_1_1_7 hd hn
  · exact all_at (P := fun d => wayB d 9 1 1 11 6) w_1_1_9 hd hn
  · exact all_at (P := fun d => wayB d 11 1 1 11 6) w_1_1_11 hd hn
  · exact all_at (P := fun d => wayB d 13 1 1 11 6) w_1_1_13 hd hn
  · exact all_at (P := fun d => wayB d 15 1 1 11 6) w_1_1_15 hd hn
theorem wc_1_2 {d s : Nat} (hd : 1 ≤ d) (hn : d ≤ 9) (hs : s % 2 = 1) (h16 : s < 16) : wayB d s 1 2 10 8 = true := by
  have hc := odd8 hs h16
  rcases hc with q | q | q | q | q | q | q | q <;> subst q
  · exact all_at (P := fun d => wayB d 1 1 2 10 8) w_1_2_1 hd hn
  · exact all_at (P := fun d => wayB d 3 1 2 10 8) w_1_2_3 hd hn
  · exact all_at (P := fun d => wayB d 5 1 2 10 8) w_1_2_5 hd hn
  · exact all_at (P := fun d => wayB d 7 1 2 10 8) w_1_2_7 hd hn
  · exact all_at (P := fun d => wayB d 9 1 2 10 8) w_1_2_9 hd hn
  · exact all_at (P := fun d => wayB d 11 1 2 10 8) w_1_2_11 hd hn
  · exact all_at (P := fun d => wayB d 13 1 2 10 8) w_1_2_13 hd hn
  · exact all_at (P := fun d => wayB d 15 1 2 10 8) w_1_2_15 hd hn
theorem wc_2_0 {d s : Nat} (hd : 1 ≤ d) (hn : d ≤ 14) (hs : s % 2 = 1) (h16 : s < 16) : wayB d s 2 0 9 7 = true := by
  have hc := odd8 hs h16
  rcases hc with q | q | q | q | q | q | q | q <;> subst q
  · exact all_at (P := fun d => wayB d 1 2 0 9 7) w_2_0_1 hd hn
  · exact all_at (P := fun d => wayB d 3 2 0 9 7) w_2_0_3 hd hn
  · exact all_at (P := fun d => wayB d 5 2 0 9 7) w_2_0_5 hd hn
  · exact all_at (P := fun d => wayB d 7 2 0 9 7) w_2_0_7 hd hn
  · exact all_at (P := fun d => wayB d 9 2 0 9 7) w_2_0_9 hd hn
  · exact all_at (P := fun d => wayB d 11 2 0 9 7) w_2_0_11 hd hn
  · exact all_at (P := fun d => wayB d 13 2 0 9 7) w_2_0_13 hd hn
  · exact all_at (P := fun d => wayB d 15 2 0 9 7) w_2_0_15 hd hn
theorem wc_2_1 {d s : Nat} (hd : 1 ≤ d) (hn : d ≤ 14) (hs : s % 2 = 1) (h16 : s < 16) : wayB d s 2 1 11 6 = true := by
  have hc := odd8 hs h16
  rcases hc with q | q | q | q | q | q | q | q <;> subst q
  · exact all_at (P := fun d => wayB d 1 2 1 11 6) w_2_1_1 hd hn
  · exact all_at (P := fun d => wayB d 3 2 1 11 6) w_2_1_3 hd hn
  · exact all_at (P := fun d => wayB d 5 2 1 11 6) w_2_1_5 hd hn
  · exact all_at (P := fun d => wayB d 7 2 1 11 6) w_2_1_7 hd hn
  · exact all_at (P := fun d => wayB d 9 2 1 11 6) w_2_1_9 hd hn
  · exact all_at (P := fun d => wayB d 11 2 1 11 6) w_2_1_11 hd hn
  · exact all_at (P := fun d => wayB d 13 2 1 11 6) w_2_1_13 hd hn
  · exact all_at (P := fun d => wayB d 15 2 1 11 6) w_2_1_15 hd hn
theorem wc_2_2 {d s : Nat} (hd : 1 ≤ d) (hn : d ≤ 14) (hs : s % 2 = 1) (h16 : s < 16) : wayB d s 2 2 10 8 = true := by
  have hc := odd8 hs h16
  rcases hc with q | q | q | q | q | q | q | q <;> subst q
  · exact all_at (P := fun d => wayB d 1 2 2 10 8) w_2_2_1 hd hn
  · exact all_at (P := fun d => wayB d 3 2 2 10 8) w_2_2_3 hd hn
  · exact all_at (P := fun d => wayB d 5 2 2 10 8) w_2_2_5 hd hn
  · exact all_at (P := fun d => wayB d 7 2 2 10 8) w_2_2_7 hd hn
  · exact all_at (P := fun d => wayB d 9 2 2 10 8) w_2_2_9 hd hn
  · exact all_at (P := fun d => wayB d 11 2 2 10 8) w_2_2_11 hd hn
  · exact all_at (P := fun d => wayB d 13 2 2 10 8) w_2_2_13 hd hn
  · exact all_at (P := fun d => wayB d 15 2 2 10 8) w_2_2_15 hd hn
theorem wc_3_0 {d s : Nat} (hd : 1 ≤ d) (hn : d ≤ 19) (hs : s % 2 = 1) (h16 : s < 16) : wayB d s 3 0 9 7 = true := by
  have hc := odd8 hs h16
  rcases hc with q | q | q | q | q | q | q | q <;> subst q
  · exact all_at (P := fun d => wayB d 1 3 0 9 7) w_3_0_1 hd hn
  · exact all_at (P := fun d => wayB d 3 3 0 9 7) w_3_0_3 hd hn
  · exact all_at (P := fun d => wayB d 5 3 0 9 7) w_3_0_5 hd hn
  · exact all_at (P := fun d => wayB d 7 3 0 9 7) w_3_0_7 hd hn
  · exact all_at (P := fun d => wayB d 9 3 0 9 7) w_3_0_9 hd hn
  · exact all_at (P := fun d => wayB d 11 3 0 9 7) w_3_0_11 hd hn
  · exact all_at (P := fun d => wayB d 13 3 0 9 7) w_3_0_13 hd hn
  · exact all_at (P := fun d => wayB d 15 3 0 9 7) w_3_0_15 hd hn
theorem wc_3_1 {d s : Nat} (hd : 1 ≤ d) (hn : d ≤ 19) (hs : s % 2 = 1) (h16 : s < 16) : wayB d s 3 1 11 6 = true := by
  have hc := odd8 hs h16
  rcases hc with q | q | q | q | q | q | q | q <;> subst q
  · exact all_at (P := fun d => wayB d 1 3 1 11 6) w_3_1_1 hd hn
  · exact all_at (P := fun d => wayB d 3 3 1 11 6) w_3_1_3 hd hn
  · exact all_at (P := fun d => wayB d 5 3 1 11 6) w_3_1_5 hd hn
  · exact all_at (P := fun d => wayB d 7 3 1 11 6) w_3_1_7 hd hn
  · exact all_at (P := fun d => wayB d 9 3 1 11 6) w_3_1_9 hd hn
  · exact all_at (P := fun d => wayB d 11 3 1 11 6) w_3_1_11 hd hn
  · exact all_at (P := fun d => wayB d 13 3 1 11 6) w_3_1_13 hd hn
  · exact all_at (P := fun d => wayB d 15 3 1 11 6) w_3_1_15 hd hn
theorem wc_3_2 {d s : Nat} (hd : 1 ≤ d) (hn : d ≤ 19) (hs : s % 2 = 1) (h16 : s < 16) : wayB d s 3 2 10 8 = true := by
  have hc := odd8 hs h16
  rcases hc with q | q | q | q | q | q | q | q <;> subst q
  · exact all_at (P := fun d => wayB d 1 3 2 10 8) w_3_2_1 hd hn
  · exact all_at (P := fun d => wayB d 3 3 2 10 8) w_3_2_3 hd hn
  · exact all_at (P := fun d => wayB d 5 3 2 10 8) w_3_2_5 hd hn
  · exact all_at (P := fun d => wayB d 7 3 2 10 8) w_3_2_7 hd hn
  · exact all_at (P := fun d => wayB d 9 3 2 10 8) w_3_2_9 hd hn
  · exact all_at (P := fun d => wayB d 11 3 2 10 8) w_3_2_11 hd hn
  · exact all_at (P := fun d => wayB d 13 3 2 10 8) w_3_2_13 hd hn
  · exact all_at (P := fun d => wayB d 15 3 2 10 8) w_3_2_15 hd hn
noncomputable def wx (r : Nat) : Nat := if r = 0 then 9 else if r = 1 then 11 else 10
noncomputable def wy (r : Nat) : Nat := if r = 0 then 7 else if r = 1 then 6 else 8
theorem way_val {d s c t : Nat} (hd : 1 ≤ d) (hn : d ≤ 4 + 5 * c) (hs : s % 2 = 1) (h16 : s < 16) (hc1 : 1 ≤ c) (hc3 : c ≤ 3) : mkF G3 fd_way.1 [] [dN d, dN s, dN c, dN t] = some (nI [d % c, wx (t % 3), wy (t % 3)]) := by
  have hr := mod3 t
  have hc : c = 1 ∨ c = 2 ∨ c = 3 := by omega
  rcases hc with e | e | e <;> subst e
  · rcases hr with e | e | e
    · rw [e]; exact wayB_val e (wc_1_0 hd hn hs h16)
    · rw [e]; exact wayB_val e (wc_1_1 hd hn hs h16)
    · rw [e]; exact wayB_val e (wc_1_2 hd hn hs h16)
  · rcases hr with e | e | e
    · rw [e]; exact wayB_val e (wc_2_0 hd hn hs h16)
    · rw [e]; exact wayB_val e (wc_2_1 hd hn hs h16)
    · rw [e]; exact wayB_val e (wc_2_2 hd hn hs h16)
  · rcases hr with e | e | e
    · rw [e]; exact wayB_val e (wc_3_0 hd hn hs h16)
    · rw [e]; exact wayB_val e (wc_3_1 hd hn hs h16)
    · rw [e]; exact wayB_val e (wc_3_2 hd hn hs h16)
end Mine
end

section
open PySem PySem.W PyProof.Rows
set_option Elab.async false
namespace Mine
set_option maxRecDepth 100000
set_option maxHeartbeats 2000000
set_option linter.unusedVariables false

theorem forD_iter {x : Str} {body : Sg → Option (Fl × Sg)} {g : Nat → D} (σs : Nat → Sg) : ∀ (n i : Nat), (∀ j, i ≤ j → j < i + n → body (setS (σs j) x (g j)) = some (.next, σs (j + 1))) → forD x body ((List.range' i n).map g) (σs i) = some (.next, σs (i + n))
  | 0, i, _ => rfl
  | n + 1, i, h => by
    rw [List.range'_succ, List.map_cons]
    show (body (setS (σs i) x (g i))).bind _ = _
    rw [h i (Nat.le_refl _) (by omega)]
    have := forD_iter σs n (i + 1) fun j h1 h2 => h j (by omega) (by omega)
    show forD x body ((List.range' (i + 1) n).map g) (σs (i + 1)) = _
    rw [this]
    have e : i + 1 + n = i + (n + 1) := by omega
    rw [e]

theorem pow_N (a b : Nat) (ha : a < 2 ^ 62) (hb : b ≤ 64) : binD .Pow (dN a) (dN b) = some (dN (a ^ b)) := by
  show (if (0 : Int) ≤ b ∧ (b : Int) ≤ 64 ∧ smallI (a : Int) = true then some (D.int ((a : Int) ^ (b : Int).toNat)) else none) = _
  rw [if_pos ⟨by omega, by omega, by unfold smallI; simp; exact ha⟩]
  simp
theorem div_N (a b : Nat) (hb : 0 < b) (h : b < 2 ^ 62) : binD .FloorDiv (dN a) (dN b) = some (dN (a / b)) := by
  show (if (b : Int) ≠ 0 ∧ smallI (b : Int) = true then some (D.int ((a : Int).fdiv b)) else none) = _
  rw [if_pos ⟨by omega, by unfold smallI; simp; exact h⟩]
  rw [Int.fdiv_eq_ediv_of_nonneg _ (by omega)]
  simp
theorem mod_N (a b : Nat) (hb : 0 < b) : binD .Mod (dN a) (dN b) = some (dN (a % b)) := by
  show (if (b : Int) ≠ 0 then some (D.int ((a : Int).fmod b)) else none) = _
  rw [if_pos (by omega), Int.fmod_eq_emod_of_nonneg _ (by omega)]
  simp

noncomputable def pairsL : List (Nat × Nat) := [(0, 1), (0, 2), (0, 3), (1, 2), (1, 3), (2, 3)]
noncomputable def bit (f b : Nat) : Bool := decide (f / 2 ^ b % 2 = 1)
noncomputable def keptL (f0 f1 : Nat) : List (Nat × Nat) := ((List.range 6).filter (bit f0)).map (fun b => pairsL.getD b (0, 0)) ++ [(0, 1), (f1 % 2, 2), (f1 / 2 % 3, 3)]
noncomputable def nearL (kept : List (Nat × Nat)) (p : Nat) : List Nat := (List.range 4).filter fun q => decide ((p, q) ∈ kept) || decide ((q, p) ∈ kept)
noncomputable def wayL (f0 f1 f2 p : Nat) : List Nat := if bit f2 p then (nearL (keptL f0 f1) p).reverse else nearL (keptL f0 f1) p
noncomputable def waysL (f0 f1 f2 : Nat) : List (List Nat) := (List.range 4).map (wayL f0 f1 f2)

theorem bit_tr {Γ : List (Str × GV)} {n : Nat} (f b : Nat) (hb : b ≤ 6) : ((binD .Pow (dN 2) (dN b)).bind fun y => (binD .FloorDiv (dN f) y)).bind (fun z => binD .Mod z (.int 2)) = some (dN (f / 2 ^ b % 2)) := by
  rw [pow_N 2 b (by decide) (by omega)]
  have h1 : 0 < 2 ^ b := Nat.pow_pos (by decide)
  have h2 : 2 ^ b ≤ 2 ^ 6 := Nat.pow_le_pow_right (by decide) hb
  show (binD .FloorDiv (dN f) (dN (2 ^ b))).bind _ = _
  rw [div_N _ _ h1 (by omega)]
  exact mod_N _ 2 (by decide)

noncomputable def figD (f0 f1 f2 f3 f4 : Nat) : D := nI [f0, f1, f2, f3, f4]
noncomputable def sWays (f0 f1 f2 f3 f4 i : Nat) : Sg := [(S "figures", figD f0 f1 f2 f3 f4), (S "pairs", pI pairsL), (S "kept", pI (keptL f0 f1)), (S "ways", .lst (((List.range i).map (wayL f0 f1 f2)).map nI))] ++ (if i = 0 then [] else [(S "p", dN (i - 1)), (S "near", nI (nearL (keptL f0 f1) (i - 1)))])

theorem nI_rev (l : List Nat) (h : l.length ≤ 4) : sliceD (nI l) none none (some (-1)) = some (nI l.reverse) := by
  match l, h with
  | [], _ => rfl
  | [a], _ => kernel_rfl
  | [a, b], _ => kernel_rfl
  | [a, b, c], _ => kernel_rfl
  | [a, b, c, d], _ => kernel_rfl
  | _ :: _ :: _ :: _ :: _ :: _, h => simp at h

theorem ways_val {f0 f1 f2 f3 f4 : Nat} (h0 : f0 < 4096) (h1 : f1 < 4096) (h2 : f2 < 4096) : mkF G1 fd_ways.1 [S "kept", S "ways"] [figD f0 f1 f2 f3 f4] = some (wD (waysL f0 f1 f2)) := by
  have nlen : ∀ p, (nearL (keptL f0 f1) p).length ≤ 4 := fun p => by
    unfold nearL
    have := List.length_filter_le (fun q => decide ((p, q) ∈ keptL f0 f1) || decide ((q, p) ∈ keptL f0 f1)) (List.range 4)
    rwa [List.length_range] at this
  refine fnD_ret (σ' := sWays f0 f1 f2 f3 f4 4) (by rfl) ?_
  refine (exs_next (ex_asg (d := pI pairsL) ⟨by rfl, fun h => by cases h⟩ (by rfl))).trans ?_
  refine (exs_next (ex_asg (d := pI (((List.range 6).filter (bit f0)).map (fun b => pairsL.getD b (0, 0)))) ⟨by rfl, fun _ => ⟨by rfl, by rfl⟩⟩ ?_)).trans ?_
  · refine ev_comp (src := .rng 0 6) (l := (List.range 6).map dN) ⟨by decide +kernel, by rfl, by rfl, by rfl, by decide⟩ (by rfl) (by rfl) ?_
    refine (compD_map (t := bit f0) (e := fun b => pD (pairsL.getD b (0, 0))) (List.range 6) (fun b hb => ?_) (fun b hb _ => ?_)).trans ?_
    · have hb6 : b < 6 := List.mem_range.mp hb
      refine trAll_one (tr_cmp (a := dN (f0 / 2 ^ b % 2)) (b := dN 1) (by rfl) ?_ (by rfl) (cmp_eqN _ _))
      exact bit_tr (Γ := G1) (n := 0) f0 b (by omega)
    · have hb6 : b < 6 := List.mem_range.mp hb
      have hcs := lt6 hb6
      rcases hcs with q | q | q | q | q | q <;> subst q <;> rfl
    · show some _ = some _
      congr 1
      rw [List.map_map]; rfl
  have klen : (((List.range 6).filter (bit f0)).map (fun b => pairsL.getD b (0, 0))).length ≤ 6 := by
    rw [List.length_map]
    have := List.length_filter_le (bit f0) (List.range 6)
    rwa [List.length_range] at this
  refine (exs_next (σ' := [(S "figures", figD f0 f1 f2 f3 f4), (S "pairs", pI pairsL), (S "kept", pI (keptL f0 f1))]) ?_).trans ?_
  · refine (ex_ext (l := (((List.range 6).filter (bit f0)).map (fun b => pairsL.getD b (0, 0))).map pD) (l' := [pD (0, 1), pD (f1 % 2, 2), pD (f1 / 2 % 3, 3)]) ⟨by rfl, by rfl⟩ (by rfl) ?_ ?_).trans ?_
    · refine ev_list (by decide) (all3 (by rfl) ?_ ?_)
      · show some (D.tup [.int ((f1 : Int).fmod 2), .int 2]) = _
        rw [Int.fmod_eq_emod_of_nonneg _ (by decide)]
        show some (D.tup [.int ((f1 : Int) % 2), .int 2]) = some (D.tup [.int ((f1 % 2 : Nat) : Int), .int 2])
        congr 4
      · show some (D.tup [.int (((f1 : Int).fdiv 2).fmod 3), .int 3]) = _
        rw [Int.fmod_eq_emod_of_nonneg _ (by decide), Int.fdiv_eq_ediv_of_nonneg _ (by decide)]
        show some (D.tup [.int ((f1 : Int) / 2 % 3), .int 3]) = some (D.tup [.int ((f1 / 2 % 3 : Nat) : Int), .int 3])
        congr 4
    · rw [List.length_map]
      show _ + 3 ≤ _
      omega
    · unfold keptL pI
      rw [List.map_append]; rfl
  refine (exs_next (σ' := sWays f0 f1 f2 f3 f4 0) (ex_asg (d := .lst []) ⟨by rfl, fun _ => ⟨by rfl, by rfl⟩⟩ (by rfl))).trans ?_
  refine (exs_next (σ' := sWays f0 f1 f2 f3 f4 4) (ex_forr (lo := 0) (hi := 4) (l := (List.range' 0 4).map dN) ⟨by rfl, by rfl, by rfl⟩ (by rfl) (by rfl) ?_)).trans ?_
  · refine forD_iter (sWays f0 f1 f2 f3 f4) 4 0 fun p h1 h2 => ?_
    have hp : p < 4 := by omega
    have hcs := lt4 (p := p) hp
    rcases hcs with q | q | q | q <;> subst q
    · refine (exs_next (ex_asg (d := nI (nearL (keptL f0 f1) 0)) ⟨by rfl, fun h => absurd h (by decide +kernel)⟩ ?_)).trans ?_
      · refine ev_comp (src := .rng 0 4) (l := (List.range 4).map dN) ⟨by decide +kernel, by rfl, by rfl, by rfl, by decide⟩ (by rfl) (by rfl) ?_
        refine compD_map (t := fun q => decide ((0, q) ∈ keptL f0 f1) || decide ((q, 0) ∈ keptL f0 f1)) (List.range 4) (fun q hq => ?_) (fun q hq _ => by rfl)
        exact trAll_one (tr_or2 (tr_cmp (a := pD (0, q)) (b := pI (keptL f0 f1)) (by rfl) (by rfl) (by rfl) (cmp_inP _ _)) fun _ => tr_cmp (a := pD (q, 0)) (b := pI (keptL f0 f1)) (by rfl) (by rfl) (by rfl) (cmp_inP _ _))
      · refine (exs_next (ex_app (d := nI (wayL f0 f1 f2 0)) (l := ((List.range 0).map (wayL f0 f1 f2)).map nI) ⟨by rfl, by rfl⟩ (by rfl) ?_ (by simp))).trans ?_
        · have hb := bit_tr (Γ := G1) (n := 0) f2 0 (by omega)
          unfold wayL
          by_cases hbit : bit f2 0 = true
          · rw [if_pos hbit]
            refine ev_ifT ?_ ?_
            · exact tr_cmp (a := dN (f2 / 2 ^ 0 % 2)) (b := dN 1) (by rfl) hb (by rfl) (by rw [cmp_eqN]; exact congrArg some hbit)
            · exact nI_rev _ (nlen _)
          · rw [if_neg hbit]
            refine ev_ifF ?_ ?_
            · exact tr_cmp (a := dN (f2 / 2 ^ 0 % 2)) (b := dN 1) (by rfl) hb (by rfl) (by rw [cmp_eqN]; exact congrArg some (Bool.eq_false_iff.mpr hbit))
            · rfl
        · exact exs_end
    · refine (exs_next (ex_asg (d := nI (nearL (keptL f0 f1) 1)) ⟨by rfl, fun h => absurd h (by decide +kernel)⟩ ?_)).trans ?_
      · refine ev_comp (src := .rng 0 4) (l := (List.range 4).map dN) ⟨by decide +kernel, by rfl, by rfl, by rfl, by decide⟩ (by rfl) (by rfl) ?_
        refine compD_map (t := fun q => decide ((1, q) ∈ keptL f0 f1) || decide ((q, 1) ∈ keptL f0 f1)) (List.range 4) (fun q hq => ?_) (fun q hq _ => by rfl)
        exact trAll_one (tr_or2 (tr_cmp (a := pD (1, q)) (b := pI (keptL f0 f1)) (by rfl) (by rfl) (by rfl) (cmp_inP _ _)) fun _ => tr_cmp (a := pD (q, 1)) (b := pI (keptL f0 f1)) (by rfl) (by rfl) (by rfl) (cmp_inP _ _))
      · refine (exs_next (ex_app (d := nI (wayL f0 f1 f2 1)) (l := ((List.range 1).map (wayL f0 f1 f2)).map nI) ⟨by rfl, by rfl⟩ (by rfl) ?_ (by simp))).trans ?_
        · have hb := bit_tr (Γ := G1) (n := 0) f2 1 (by omega)
          unfold wayL
          by_cases hbit : bit f2 1 = true
          · rw [if_pos hbit]
            refine ev_ifT ?_ ?_
            · exact tr_cmp (a := dN (f2 / 2 ^ 1 % 2)) (b := dN 1) (by rfl) hb (by rfl) (by rw [cmp_eqN]; exact congrArg some hbit)
            · exact nI_rev _ (nlen _)
          · rw [if_neg hbit]
            refine ev_ifF ?_ ?_
            · exact tr_cmp (a := dN (f2 / 2 ^ 1 % 2)) (b := dN 1) (by rfl) hb (by rfl) (by rw [cmp_eqN]; exact congrArg some (Bool.eq_false_iff.mpr hbit))
            · rfl
        · exact exs_end
    · refine (exs_next (ex_asg (d := nI (nearL (keptL f0 f1) 2)) ⟨by rfl, fun h => absurd h (by decide +kernel)⟩ ?_)).trans ?_
      · refine ev_comp (src := .rng 0 4) (l := (List.range 4).map dN) ⟨by decide +kernel, by rfl, by rfl, by rfl, by decide⟩ (by rfl) (by rfl) ?_
        refine compD_map (t := fun q => decide ((2, q) ∈ keptL f0 f1) || decide ((q, 2) ∈ keptL f0 f1)) (List.range 4) (fun q hq => ?_) (fun q hq _ => by rfl)
        exact trAll_one (tr_or2 (tr_cmp (a := pD (2, q)) (b := pI (keptL f0 f1)) (by rfl) (by rfl) (by rfl) (cmp_inP _ _)) fun _ => tr_cmp (a := pD (q, 2)) (b := pI (keptL f0 f1)) (by rfl) (by rfl) (by rfl) (cmp_inP _ _))
      · refine (exs_next (ex_app (d := nI (wayL f0 f1 f2 2)) (l := ((List.range 2).map (wayL f0 f1 f2)).map nI) ⟨by rfl, by rfl⟩ (by rfl) ?_ (by simp))).trans ?_
        · have hb := bit_tr (Γ := G1) (n := 0) f2 2 (by omega)
          unfold wayL
          by_cases hbit : bit f2 2 = true
          · rw [if_pos hbit]
            refine ev_ifT ?_ ?_
            · exact tr_cmp (a := dN (f2 / 2 ^ 2 % 2)) (b := dN 1) (by rfl) hb (by rfl) (by rw [cmp_eqN]; exact congrArg some hbit)
            · exact nI_rev _ (nlen _)
          · rw [if_neg hbit]
            refine ev_ifF ?_ ?_
            · exact tr_cmp (a := dN (f2 / 2 ^ 2 % 2)) (b := dN 1) (by rfl) hb (by rfl) (by rw [cmp_eqN]; exact congrArg some (Bool.eq_false_iff.mpr hbit))
            · rfl
        · exact exs_end
    · refine (exs_next (ex_asg (d := nI (nearL (keptL f0 f1) 3)) ⟨by rfl, fun h => absurd h (by decide +kernel)⟩ ?_)).trans ?_
      · refine ev_comp (src := .rng 0 4) (l := (List.range 4).map dN) ⟨by decide +kernel, by rfl, by rfl, by rfl, by decide⟩ (by rfl) (by rfl) ?_
        refine compD_map (t := fun q => decide ((3, q) ∈ keptL f0 f1) || decide ((q, 3) ∈ keptL f0 f1)) (List.range 4) (fun q hq => ?_) (fun q hq _ => by rfl)
        exact trAll_one (tr_or2 (tr_cmp (a := pD (3, q)) (b := pI (keptL f0 f1)) (by rfl) (by rfl) (by rfl) (cmp_inP _ _)) fun _ => tr_cmp (a := pD (q, 3)) (b := pI (keptL f0 f1)) (by rfl) (by rfl) (by rfl) (cmp_inP _ _))
      · refine (exs_next (ex_app (d := nI (wayL f0 f1 f2 3)) (l := ((List.range 3).map (wayL f0 f1 f2)).map nI) ⟨by rfl, by rfl⟩ (by rfl) ?_ (by simp))).trans ?_
        · have hb := bit_tr (Γ := G1) (n := 0) f2 3 (by omega)
          unfold wayL
          by_cases hbit : bit f2 3 = true
          · rw [if_pos hbit]
            refine ev_ifT ?_ ?_
            · exact tr_cmp (a := dN (f2 / 2 ^ 3 % 2)) (b := dN 1) (by rfl) hb (by rfl) (by rw [cmp_eqN]; exact congrArg some hbit)
            · exact nI_rev _ (nlen _)
          · rw [if_neg hbit]
            refine ev_ifF ?_ ?_
            · exact tr_cmp (a := dN (f2 / 2 ^ 3 % 2)) (b := dN 1) (by rfl) hb (by rfl) (by rw [cmp_eqN]; exact congrArg some (Bool.eq_false_iff.mpr hbit))
            · rfl
        · exact exs_end
  · exact exs_ret (ex_ret' (by rfl))
end Mine
end

section
open PySem PySem.W PyProof.Rows
set_option Elab.async false
namespace Mine
set_option maxRecDepth 100000
set_option maxHeartbeats 2000000
set_option linter.unusedVariables false

theorem kept_lt {f0 f1 a b : Nat} (h : (a, b) ∈ keptL f0 f1) : a < b ∧ b < 4 := by
  unfold keptL at h
  rcases List.mem_append.mp h with h | h
  · obtain ⟨i, hi, e⟩ := List.mem_map.mp h
    have hi6 := List.mem_range.mp (List.mem_filter.mp hi).1
    have hc := lt6 hi6
    rcases hc with q | q | q | q | q | q <;> subst q <;> (injection e with e1 e2; subst e1; subst e2; decide)
  · simp only [List.mem_cons, List.not_mem_nil, or_false, Prod.mk.injEq] at h
    omega
theorem nbW_ways {f0 f1 f2 p : Nat} (hp : p < 4) : nbW (waysL f0 f1 f2) p = wayL f0 f1 f2 p := by
  have hc := lt4 (p := p) hp
  rcases hc with q | q | q | q <;> subst q <;> rfl
theorem nbW_big {f0 f1 f2 p : Nat} (hp : ¬ p < 4) : nbW (waysL f0 f1 f2) p = [] := by
  unfold nbW
  rw [List.getD_eq_getElem?_getD, List.getElem?_eq_none]
  · rfl
  · show ((List.range 4).map _).length ≤ p
    rw [List.length_map, List.length_range]; omega
theorem mem_wayL {f0 f1 f2 p q : Nat} : q ∈ wayL f0 f1 f2 p ↔ q < 4 ∧ ((p, q) ∈ keptL f0 f1 ∨ (q, p) ∈ keptL f0 f1) := by
  have hn : q ∈ nearL (keptL f0 f1) p ↔ q < 4 ∧ ((p, q) ∈ keptL f0 f1 ∨ (q, p) ∈ keptL f0 f1) := by
    unfold nearL
    rw [List.mem_filter, List.mem_range, Bool.or_eq_true, decide_eq_true_eq, decide_eq_true_eq]
  unfold wayL
  split
  · rw [List.mem_reverse]; exact hn
  · exact hn
theorem ways_gr (f0 f1 f2 : Nat) : Gr (nbW (waysL f0 f1 f2)) := by
  have mem : ∀ p q, q ∈ nbW (waysL f0 f1 f2) p ↔ p < 4 ∧ q < 4 ∧ ((p, q) ∈ keptL f0 f1 ∨ (q, p) ∈ keptL f0 f1) := by
    intro p q
    by_cases hp : p < 4
    · rw [nbW_ways hp, mem_wayL]; simp [hp]
    · rw [nbW_big hp]; simp [hp]
  refine ⟨fun p q h => ⟨((mem p q).mp h).1, ((mem p q).mp h).2.1⟩, fun p => ?_, fun p q h => ?_, fun p hp => ?_, fun p h => ?_⟩
  · by_cases hp : p < 4
    · rw [nbW_ways hp]
      have hn : (nearL (keptL f0 f1) p).Nodup := List.nodup_range.filter _
      unfold wayL
      split
      · exact (List.reverse_perm _).nodup_iff.mpr hn
      · exact hn
    · rw [nbW_big hp]; exact List.nodup_nil
  · obtain ⟨h1, h2, h3⟩ := (mem p q).mp h
    exact (mem q p).mpr ⟨h2, h1, h3.symm⟩
  · refine List.length_pos_of_mem (a := if p = 0 then 1 else if p = 1 then 0 else if p = 2 then f1 % 2 else f1 / 2 % 3) ?_
    have k1 : (0, 1) ∈ keptL f0 f1 := List.mem_append.mpr (.inr (by simp))
    have k2 : (f1 % 2, 2) ∈ keptL f0 f1 := List.mem_append.mpr (.inr (by simp))
    have k3 : (f1 / 2 % 3, 3) ∈ keptL f0 f1 := List.mem_append.mpr (.inr (by simp))
    rw [mem]
    have hc := lt4 (p := p) hp
    rcases hc with q | q | q | q <;> subst q
    · exact ⟨by omega, by show 1 < 4; omega, .inl k1⟩
    · exact ⟨by omega, by show 0 < 4; omega, .inr k1⟩
    · exact ⟨by omega, by show f1 % 2 < 4; omega, .inr k2⟩
    · exact ⟨by omega, by show f1 / 2 % 3 < 4; omega, .inr k3⟩
  · obtain ⟨_, _, h3⟩ := (mem p p).mp h
    have := kept_lt (h3.elim id id)
    omega
end Mine
end

section
open PySem PySem.W PyProof.Rows
set_option Elab.async false
namespace Mine
set_option maxRecDepth 100000
set_option maxHeartbeats 2000000
set_option linter.unusedVariables false

/-- members of the growing list stay, and none is twice -/
theorem mets_ok {ways : List (List Nat)} {s : Nat} (hs : s < 4) : ∀ n, (mets ways s n).Nodup ∧ (∀ v ∈ mets ways s n, v < 4) ∧ s ∈ mets ways s n
  | 0 => ⟨by simp [mets], fun v hv => by simp [mets] at hv; omega, by simp [mets]⟩
  | n + 1 => by
    obtain ⟨h1, h2, h3⟩ := mets_ok hs n
    refine ⟨?_, ?_, ?_⟩
    · show (metStep ways (mets ways s n)).Nodup
      unfold metStep
      rw [List.nodup_append]
      refine ⟨h1, List.nodup_range.filter _, ?_⟩
      intro a ha b hb e
      subst e
      have := (List.mem_filter.mp hb).2
      rw [Bool.and_eq_true] at this
      have h : a ∉ mets ways s n := by simpa using this.1
      exact h ha
    · intro v hv
      rcases List.mem_append.mp hv with h | h
      · exact h2 v h
      · exact List.mem_range.mp (List.mem_filter.mp h).1
    · exact List.mem_append.mpr (.inl h3)
theorem mets_len {ways : List (List Nat)} {s : Nat} (hs : s < 4) (n : Nat) : (mets ways s n).length ≤ 4 := by
  obtain ⟨h1, h2, h3⟩ := mets_ok (ways := ways) hs n
  rw [len_sum4 h1 h2]
  repeat' split
  all_goals omega
theorem mets_all {ways : List (List Nat)} {s n : Nat} (hs : s < 4) (h : 4 ≤ (mets ways s n).length) : ∀ v, v < 4 → v ∈ mets ways s n := by
  obtain ⟨h1, h2, h3⟩ := mets_ok (ways := ways) hs n
  rw [len_sum4 h1 h2] at h
  intro v hv
  have hc := lt4 (p := v) hv
  refine Classical.byContradiction fun hn => ?_
  rcases hc with q | q | q | q <;> subst q <;> rw [if_neg hn] at h
  all_goals
    revert h
    repeat' split
    all_goals omega

theorem mets_grow {f0 f1 f2 s n : Nat} (hs : s < 4) (h : (mets (waysL f0 f1 f2) s n).length < 4) : (mets (waysL f0 f1 f2) s n).length + 1 ≤ (mets (waysL f0 f1 f2) s (n + 1)).length := by
  obtain ⟨h1, h2, h3⟩ := mets_ok (ways := waysL f0 f1 f2) hs n
  have G := ways_gr f0 f1 f2
  refine Nat.lt_of_not_le fun hle => ?_
  -- no new place
  have hnil : ∀ q, q < 4 → q ∉ mets (waysL f0 f1 f2) s n → ∀ p, p ∈ nbW (waysL f0 f1 f2) q → p ∉ mets (waysL f0 f1 f2) s n := by
    intro q hq hnq p hp hpm
    have hmem : q ∈ (List.range 4).filter fun q => !decide (q ∈ mets (waysL f0 f1 f2) s n) && !decide ((nbW (waysL f0 f1 f2) q).filter (fun p => decide (p ∈ mets (waysL f0 f1 f2) s n)) = []) := by
      rw [List.mem_filter]
      refine ⟨List.mem_range.mpr hq, ?_⟩
      have hne : (nbW (waysL f0 f1 f2) q).filter (fun p => decide (p ∈ mets (waysL f0 f1 f2) s n)) ≠ [] := List.ne_nil_of_mem (List.mem_filter.mpr ⟨hp, decide_eq_true hpm⟩)
      rw [decide_eq_false hnq, decide_eq_false hne]; rfl
    have hlen : (mets (waysL f0 f1 f2) s (n + 1)).length = (mets (waysL f0 f1 f2) s n).length + ((List.range 4).filter fun q => !decide (q ∈ mets (waysL f0 f1 f2) s n) && !decide ((nbW (waysL f0 f1 f2) q).filter (fun p => decide (p ∈ mets (waysL f0 f1 f2) s n)) = [])).length := by
      show (metStep _ _).length = _
      unfold metStep
      rw [List.length_append]
    have := List.length_pos_of_mem hmem
    omega
  have edge : ∀ p q, p < 4 → q < 4 → p ∈ nbW (waysL f0 f1 f2) q → (p ∈ mets (waysL f0 f1 f2) s n ↔ q ∈ mets (waysL f0 f1 f2) s n) := by
    intro p q hp hq hpq
    constructor
    · intro hm
      exact Classical.byContradiction fun hn => hnil q hq hn p hpq hm
    · intro hm
      exact Classical.byContradiction fun hn => hnil p hp hn q (G.symm q p hpq) hm
  have mem : ∀ p q, p < 4 → q < 4 → (p, q) ∈ keptL f0 f1 → q ∈ nbW (waysL f0 f1 f2) p := by
    intro p q hp hq hk
    rw [nbW_ways hp, mem_wayL]
    exact ⟨hq, .inl hk⟩
  have k1 : (0, 1) ∈ keptL f0 f1 := List.mem_append.mpr (.inr (by simp))
  have k2 : (f1 % 2, 2) ∈ keptL f0 f1 := List.mem_append.mpr (.inr (by simp))
  have k3 : (f1 / 2 % 3, 3) ∈ keptL f0 f1 := List.mem_append.mpr (.inr (by simp))
  have e1 := edge 1 0 (by omega) (by omega) (mem 0 1 (by omega) (by omega) k1)
  have e2 := edge 2 (f1 % 2) (by omega) (by omega) (mem _ _ (by omega) (by omega) k2)
  have e3 := edge 3 (f1 / 2 % 3) (by omega) (by omega) (mem _ _ (by omega) (by omega) k3)
  have a2 : f1 % 2 = 0 ∨ f1 % 2 = 1 := by omega
  have a3 : f1 / 2 % 3 = 0 ∨ f1 / 2 % 3 = 1 ∨ f1 / 2 % 3 = 2 := by omega
  have all0 : ∀ v, v < 4 → (v ∈ mets (waysL f0 f1 f2) s n ↔ 0 ∈ mets (waysL f0 f1 f2) s n) := by
    have v2 : 2 ∈ mets (waysL f0 f1 f2) s n ↔ 0 ∈ mets (waysL f0 f1 f2) s n := by
      rcases a2 with q | q <;> rw [q] at e2
      · exact e2
      · exact e2.trans e1
    have v3 : 3 ∈ mets (waysL f0 f1 f2) s n ↔ 0 ∈ mets (waysL f0 f1 f2) s n := by
      rcases a3 with q | q | q <;> rw [q] at e3
      · exact e3
      · exact e3.trans e1
      · exact e3.trans v2
    intro v hv
    have hc := lt4 (p := v) hv
    rcases hc with q | q | q | q <;> subst q
    · exact Iff.rfl
    · exact e1
    · exact v2
    · exact v3
  have h0 := (all0 s hs).mp h3
  rw [len_sum4 h1 h2, if_pos h0, if_pos ((all0 1 (by omega)).mpr h0), if_pos ((all0 2 (by omega)).mpr h0), if_pos ((all0 3 (by omega)).mpr h0)] at h
  omega
theorem mets_end {f0 f1 f2 s : Nat} (hs : s < 4) : ∃ F, F ≤ 3 ∧ (∀ n, n < F → (mets (waysL f0 f1 f2) s n).length < 4) ∧ 4 ≤ (mets (waysL f0 f1 f2) s F).length := by
  have l0 : (mets (waysL f0 f1 f2) s 0).length = 1 := rfl
  by_cases h1 : 4 ≤ (mets (waysL f0 f1 f2) s 1).length
  · exact ⟨1, by omega, fun n hn => by have : n = 0 := by omega
                                       subst this; omega, h1⟩
  · by_cases h2 : 4 ≤ (mets (waysL f0 f1 f2) s 2).length
    · refine ⟨2, by omega, fun n hn => ?_, h2⟩
      have hc : n = 0 ∨ n = 1 := by omega
      rcases hc with q | q <;> subst q <;> omega
    · refine ⟨3, by omega, fun n hn => ?_, ?_⟩
      · have hc : n = 0 ∨ n = 1 ∨ n = 2 := by omega
        rcases hc with q | q | q <;> subst q <;> omega
      · have g0 : (mets (waysL f0 f1 f2) s 0).length + 1 ≤ (mets (waysL f0 f1 f2) s 1).length := mets_grow hs (by omega)
        have g1 : (mets (waysL f0 f1 f2) s 1).length + 1 ≤ (mets (waysL f0 f1 f2) s 2).length := mets_grow hs (by omega)
        have g2 : (mets (waysL f0 f1 f2) s 2).length + 1 ≤ (mets (waysL f0 f1 f2) s 3).length := mets_grow hs (by omega)
        omega
end Mine
end

section
set_option Elab.async false
namespace Mine
set_option maxRecDepth 100000
set_option linter.unusedVariables false

/-- the walk itself: where it stands, and how often each place was left -/
noncomputable def runW (nb : Nat → List Nat) (f : Nat → Nat) (s : Nat) : Nat → Nat × (Nat → Nat)
  | 0 => (s, fun _ => 0)
  | t + 1 => ((nb (runW nb f s t).1).getD ((f (runW nb f s t).1 + (runW nb f s t).2 (runW nb f s t).1 + 1) % (nb (runW nb f s t).1).length) 0, fun q => (runW nb f s t).2 q + if ((runW nb f s t).1 == q) = true then 1 else 0)
noncomputable def xW (nb : Nat → List Nat) (f : Nat → Nat) (s : Nat) (t : Nat) : Nat := (runW nb f s t).1
section
variable {nb : Nat → List Nat} {f x : Nat → Nat} {s : Nat}
theorem runW_cnt : ∀ t q, (runW nb f s t).2 q = Wc (xW nb f s) 0 t q
  | 0, q => rfl
  | t + 1, q => by
    have e2 : Wc (xW nb f s) 0 (t + 1) q = Wc (xW nb f s) 0 t q + if (xW nb f s (0 + t) == q) = true then 1 else 0 := rfl
    rw [e2, Nat.zero_add, ← runW_cnt t q]; rfl
theorem xW_wk (hs : s < 4) : Wk nb f s (xW nb f s) := by
  refine ⟨rfl, fun t => ?_, hs⟩
  have e : xW nb f s (t + 1) = (nb (xW nb f s t)).getD ((f (xW nb f s t) + (runW nb f s t).2 (xW nb f s t) + 1) % (nb (xW nb f s t)).length) 0 := rfl
  rw [e, runW_cnt]

theorem least {P : Nat → Prop} : ∀ n, P n → ∃ k, k ≤ n ∧ P k ∧ ∀ j, j < k → ¬ P j := by
  intro n
  induction n using Nat.strongRecOn with
  | _ n ih =>
    intro h
    by_cases q : ∃ j, j < n ∧ P j
    · obtain ⟨j, h1, h2⟩ := q
      obtain ⟨k, k1, k2, k3⟩ := ih j h1 h2
      exact ⟨k, by omega, k2, k3⟩
    · exact ⟨n, Nat.le_refl n, h, fun j h1 h2 => q ⟨j, h1, h2⟩⟩

theorem rnd_ex (G : Gr nb) (X : Wk nb f s x) {b : Nat} (hb : x b = s) : ∃ k, k ≤ dsum nb ∧ Rnd nb x s b k := by
  have h : ∃ j, 0 < j ∧ j ≤ dsum nb ∧ fin nb x s b j := by
    refine Classical.byContradiction fun hn => ?_
    have := roundLen G X (k := dsum nb + 1) hb fun j h1 h2 h3 => hn ⟨j, h1, by omega, h3⟩
    omega
  obtain ⟨j, h1, h2, h3⟩ := h
  obtain ⟨k, k1, k2, k3⟩ := least (P := fun k => 0 < k ∧ fin nb x s b k) j ⟨h1, h3⟩
  exact ⟨k, by omega, hb, k2.1, k2.2, fun i i1 i2 i3 => k3 i i2 ⟨i1, i3⟩⟩

open Classical in
noncomputable def kW (nb : Nat → List Nat) (x : Nat → Nat) (s b : Nat) : Nat := if h : ∃ k, k ≤ dsum nb ∧ Rnd nb x s b k then Classical.choose h else 0
noncomputable def bW (nb : Nat → List Nat) (x : Nat → Nat) (s : Nat) : Nat → Nat
  | 0 => 0
  | n + 1 => bW nb x s n + kW nb x s (bW nb x s n)
theorem kW_ok (G : Gr nb) (X : Wk nb f s x) {b : Nat} (hb : x b = s) : kW nb x s b ≤ dsum nb ∧ Rnd nb x s b (kW nb x s b) := by
  have h := rnd_ex G X hb
  unfold kW
  rw [dif_pos h]
  exact Classical.choose_spec h
theorem bW_ok (G : Gr nb) (X : Wk nb f s x) : ∀ n, x (bW nb x s n) = s
  | 0 => X.zero
  | n + 1 => (kW_ok G X (bW_ok G X n)).2.fin.1
theorem bW_le (G : Gr nb) (X : Wk nb f s x) : ∀ n, bW nb x s n ≤ n * dsum nb
  | 0 => Nat.zero_le _
  | n + 1 => by
    have h1 := bW_le G X n
    have h2 := (kW_ok G X (bW_ok G X n)).1
    rw [Nat.add_mul, Nat.one_mul]
    exact Nat.add_le_add h1 h2
theorem bW_lt (G : Gr nb) (X : Wk nb f s x) (n : Nat) : bW nb x s n < bW nb x s (n + 1) := by
  have h2 := (kW_ok G X (bW_ok G X n)).2.pos
  show _ < _ + _
  omega
theorem bW_mono (G : Gr nb) (X : Wk nb f s x) {m : Nat} : ∀ n, m ≤ n → bW nb x s m ≤ bW nb x s n
  | 0, h => by have : m = 0 := by omega
               subst this; exact Nat.le_refl _
  | n + 1, h => by
    by_cases e : m = n + 1
    · subst e; exact Nat.le_refl _
    · have := bW_mono G X n (m := m) (by omega)
      have := bW_lt G X n
      omega

/-- how many rounds are whole ahead of step t -/
noncomputable def mW (nb : Nat → List Nat) (x : Nat → Nat) (s : Nat) : Nat → Nat
  | 0 => 0
  | t + 1 => if t + 1 = bW nb x s (mW nb x s t + 1) then mW nb x s t + 1 else mW nb x s t
theorem mW_ok (G : Gr nb) (X : Wk nb f s x) : ∀ t, bW nb x s (mW nb x s t) ≤ t ∧ t < bW nb x s (mW nb x s t + 1)
  | 0 => ⟨Nat.le_refl _, bW_lt G X 0⟩
  | t + 1 => by
    obtain ⟨h1, h2⟩ := mW_ok G X t
    by_cases e : t + 1 = bW nb x s (mW nb x s t + 1)
    · have em : mW nb x s (t + 1) = mW nb x s t + 1 := if_pos e
      rw [em]
      have := bW_lt G X (mW nb x s t + 1)
      omega
    · have em : mW nb x s (t + 1) = mW nb x s t := if_neg e
      rw [em]; omega
theorem mW_fin (G : Gr nb) (X : Wk nb f s x) (t : Nat) : t + 1 = bW nb x s (mW nb x s t + 1) ↔ fin nb x s (bW nb x s (mW nb x s t)) (t + 1 - bW nb x s (mW nb x s t)) := by
  obtain ⟨h1, h2⟩ := mW_ok G X t
  have R := (kW_ok G X (bW_ok G X (mW nb x s t))).2
  have e : bW nb x s (mW nb x s t + 1) = bW nb x s (mW nb x s t) + kW nb x s (bW nb x s (mW nb x s t)) := rfl
  rw [e] at h2 ⊢
  constructor
  · intro h
    have : t + 1 - bW nb x s (mW nb x s t) = kW nb x s (bW nb x s (mW nb x s t)) := by omega
    rw [this]; exact R.fin
  · intro h
    refine Classical.byContradiction fun hn => ?_
    exact R.not _ (by omega) (by omega) h
theorem mW_lt (G : Gr nb) (X : Wk nb f s x) {t N : Nat} (h : t < bW nb x s N) : mW nb x s t < N := by
  refine Nat.lt_of_not_le fun hn => ?_
  have h1 := bW_mono G X _ hn
  have h2 := (mW_ok G X t).1
  omega
theorem mW_at (G : Gr nb) (X : Wk nb f s x) (N : Nat) : mW nb x s (bW nb x s N) = N := by
  obtain ⟨h1, h2⟩ := mW_ok G X (bW nb x s N)
  rcases Nat.lt_trichotomy (mW nb x s (bW nb x s N)) N with h | h | h
  · have := bW_mono G X N (m := mW nb x s (bW nb x s N) + 1) (by omega)
    omega
  · exact h
  · have := bW_mono G X _ (m := N + 1) h
    have := bW_lt G X N
    omega
end
end Mine
end

section
set_option Elab.async false
namespace Mine
set_option maxRecDepth 100000
set_option linter.unusedVariables false

theorem cntN_inj {P : Nat → Bool} : ∀ {m : Nat}, cntN P m ≤ 1 → ∀ {i j : Nat}, i < j → j < m → P i = true → P j = true → False
  | 0, _, i, j, _, h, _, _ => absurd h (Nat.not_lt_zero _)
  | m + 1, h, i, j, hij, hj, h1, h2 => by
    simp only [cntN] at h
    by_cases e : j = m
    · subst e
      rw [if_pos h2] at h
      have := cntN_of (P := P) (m := j) hij h1
      omega
    · exact cntN_inj (m := m) (by omega) hij (by omega) h1 h2
theorem cntN_mono {P : Nat → Bool} (m : Nat) : ∀ n, cntN P m ≤ cntN P (m + n)
  | 0 => Nat.le_refl _
  | n + 1 => by
    have := cntN_mono (P := P) m n
    show _ ≤ cntN P (m + n) + _
    omega

noncomputable def rndL (x : Nat → Nat) (b k : Nat) : List (Nat × Nat) := (List.range' b k).map fun i => (x i, x (i + 1))
section
variable {nb : Nat → List Nat} {f x : Nat → Nat} {s : Nat}
theorem rndL_of {b k p q : Nat} (h : 1 ≤ Uc x b k p q) : (p, q) ∈ rndL x b k := by
  obtain ⟨j, hj, e⟩ := cntN_pos h
  rw [Bool.and_eq_true, beq_iff_eq, beq_iff_eq] at e
  refine List.mem_map.mpr ⟨b + j, List.mem_range'_1.mpr (by omega), ?_⟩
  rw [e.1, e.2]
theorem rndL_fst {b k p : Nat} (h : p ∈ (rndL x b k).map (·.1)) : 1 ≤ Wc x b k p := by
  obtain ⟨⟨p', q⟩, h1, h2⟩ := List.mem_map.mp h
  obtain ⟨i, hi, e⟩ := List.mem_map.mp h1
  have hi' := List.mem_range'_1.mp hi
  cases e
  refine cntN_of (j := i - b) (by omega) ?_
  have : b + (i - b) = i := by omega
  rw [this, beq_iff_eq]; exact h2
theorem rndL_nodup {b k : Nat} (h : ∀ p q, Uc x b k p q ≤ 1) : (rndL x b k).Nodup := by
  unfold rndL List.Nodup
  rw [List.pairwise_map]
  refine (List.pairwise_lt_range' (s := b) (n := k)).imp_of_mem fun {i j} hi hj hij e => ?_
  have hi' := List.mem_range'_1.mp hi
  have hj' := List.mem_range'_1.mp hj
  refine cntN_inj (h (x i) (x (i + 1))) (i := i - b) (j := j - b) (by omega) (by omega) ?_ ?_
  · have : b + (i - b) = i := by omega
    rw [this]; simp
  · have : b + (j - b) = j := by omega
    rw [this, Bool.and_eq_true, beq_iff_eq, beq_iff_eq]
    exact ⟨(congrArg Prod.fst e).symm, (congrArg Prod.snd e).symm⟩
theorem rndL_len (b k : Nat) : (rndL x b k).length = k := by unfold rndL; simp

theorem deg3 (G : Gr nb) (p : Nat) : (nb p).length ≤ 3 := by
  have h := d_sum G p
  have h1 := fun q => (show has nb p q ≤ 1 by unfold has; split <;> omega)
  have h0 : has nb p p = 0 := if_neg (G.irr p)
  by_cases h4 : p < 4
  · have a0 := h1 0
    have a1 := h1 1
    have a2 := h1 2
    have a3 := h1 3
    have hc := lt4 (p := p) h4
    rcases hc with e | e | e | e <;> subst e <;> omega
  · have : nb p = [] := by
      cases e : nb p with
      | nil => rfl
      | cons a l => exact absurd (G.lt p a (by rw [e]; exact List.mem_cons_self)).1 h4
    rw [this]; exact Nat.zero_le _
theorem dsum12 (G : Gr nb) : dsum nb ≤ 12 := by
  have a0 := deg3 G 0
  have a1 := deg3 G 1
  have a2 := deg3 G 2
  have a3 := deg3 G 3
  unfold dsum; omega

theorem rounds_of (G : Gr nb) (X : Wk nb f s x) (N : Nat) : Rounds nb x s N (bW nb x s) (fun n => kW nb x s (bW nb x s n)) :=
  ⟨rfl, fun _ _ => rfl, fun n _ => (kW_ok G X (bW_ok G X n)).2⟩

noncomputable def rW (nb : Nat → List Nat) (x : Nat → Nat) (s n : Nat) : List (Nat × Nat) := rndL x (bW nb x s n) (kW nb x s (bW nb x s n))
noncomputable def rsL (nb : Nat → List Nat) (x : Nat → Nat) (s N : Nat) : List (List (Nat × Nat)) := (List.range N).map (rW nb x s)
theorem rsL_len (N : Nat) : (rsL nb x s N).length = N := by unfold rsL; simp
theorem rsL_get {N n : Nat} (h : n < N) : (rsL nb x s N).getD n [] = rW nb x s n := by
  unfold rsL
  rw [List.getD_eq_getElem?_getD, List.getElem?_map, List.getElem?_range h]; rfl
theorem k_two (G : Gr nb) (X : Wk nb f s x) (n : Nat) : 2 ≤ kW nb x s (bW nb x s n) := by
  have R := (kW_ok G X (bW_ok G X n)).2
  have hp := R.pos
  refine Nat.lt_of_le_of_ne hp fun e => ?_
  have h1 := R.fin.1
  rw [← e] at h1
  have h2 := X.nxt G (bW nb x s n)
  have h3 : x (bW nb x s n + 1) = s := h1
  rw [h3, R.beg] at h2
  exact G.irr s h2
/-- leaves up to the n-th round's begin -/
theorem leaves_le (G : Gr nb) (X : Wk nb f s x) {p : Nat} (hp : p < 4) : ∀ n, Wc x 0 (bW nb x s n) p ≤ n * (nb p).length
  | 0 => Nat.zero_le _
  | n + 1 => by
    have h1 := leaves_le G X hp n
    have h2 := (kW_ok G X (bW_ok G X n)).2.le G X hp
    have h3 : Wc x 0 (bW nb x s (n + 1)) p = Wc x 0 (bW nb x s n) p + Wc x (0 + bW nb x s n) (kW nb x s (bW nb x s n)) p := Wc_add x 0 (bW nb x s n) p _
    rw [Nat.zero_add] at h3
    rw [h3, Nat.add_mul, Nat.one_mul]
    exact Nat.add_le_add h1 h2
theorem leaves_at (G : Gr nb) (X : Wk nb f s x) {p t N : Nat} (hp : p < 4) (ht : t ≤ bW nb x s N) : Wc x 0 t p ≤ N * (nb p).length := by
  have h1 := leaves_le G X hp N
  have h2 : Wc x 0 t p ≤ Wc x 0 (t + (bW nb x s N - t)) p := cntN_mono t _
  have e : t + (bW nb x s N - t) = bW nb x s N := by omega
  rw [e] at h2
  omega

theorem rs_two (G : Gr nb) (X : Wk nb f s x) {N n : Nat} (hn : n < (rsL nb x s N).length) : 2 ≤ ((rsL nb x s N).getD n []).length ∧ ((rsL nb x s N).getD n []).length < 64 ∧ ((rsL nb x s N).getD n []).Nodup := by
  rw [rsL_len] at hn
  have hk := kW_ok G X (bW_ok G X n)
  have h12 := dsum12 G
  rw [rsL_get hn]
  unfold rW
  rw [rndL_len]
  refine ⟨k_two G X n, by omega, rndL_nodup fun p q => ?_⟩
  by_cases hp : p < 4
  · exact U_one G X hp (hk.2.le G X hp)
  · refine Nat.le_trans (Nat.le_of_eq (cntN_zero fun j hj => ?_)) (Nat.zero_le _)
    have := X.in4 G (bW nb x s n + j)
    rw [Bool.and_eq_false_iff]
    left
    simp only [beq_eq_false_iff_ne]; omega
theorem rs_first (G : Gr nb) (X : Wk nb f s x) {N : Nat} (h0 : 0 < N) : (((rsL nb x s N).getD 0 []).getD 0 (0, 0)).1 = s := by
  rw [rsL_get h0]
  have := k_two G X 0
  unfold rW rndL
  rw [List.getD_eq_getElem?_getD, List.getElem?_map, List.getElem?_range' (by omega)]
  exact X.zero
theorem rs_next (G : Gr nb) (X : Wk nb f s x) {N n p q : Nat} (hn : n + 1 < N) (hp : p < 4) (hq : q ∈ nb p) (h : p ∈ ((rsL nb x s N).getD n []).map (·.1)) : (p, q) ∈ (rsL nb x s N).getD (n + 1) [] := by
  rw [rsL_get (by omega)] at h
  rw [rsL_get hn]
  have := (rounds_of G X N).full G X hn (rndL_fst h)
  exact rndL_of (U_full G X hq (by rw [this]; exact Nat.le_refl _))
theorem rs_zero (G : Gr nb) (X : Wk nb f s x) {N q : Nat} (hn : 0 < N) (hq : q ∈ nb s) : (s, q) ∈ (rsL nb x s N).getD 0 [] := by
  rw [rsL_get hn]
  have := (kW_ok G X (bW_ok G X 0)).2.fin.2
  exact rndL_of (U_full G X hq (by rw [this]; exact Nat.le_refl _))
end
theorem rs_rep {ways : List (List Nat)} {f x : Nat → Nat} {s : Nat} (G : Gr (nbW ways)) (X : Wk (nbW ways) f s x) {F N : Nat} (hF : 4 ≤ (mets ways s F).length) (h1 : F + 1 < N) : (rsL (nbW ways) x s N).getD (F + 1) [] = (rsL (nbW ways) x s N).getD F [] := by
  have R := rounds_of G X N
  have hf : ∀ v, v < 4 → Wc x (bW (nbW ways) x s F) (kW (nbW ways) x s (bW (nbW ways) x s F)) v = (nbW ways v).length := fun v hv => mets_full G X R F (by omega) v (mets_all X.st hF v hv)
  have r1 := R.rnd F (by omega)
  have r2 := R.rnd (F + 1) h1
  rw [R.next F (by omega)] at r2
  have hk := sameNext G X r1 r2 hf
  rw [rsL_get h1, rsL_get (by omega)]
  unfold rW
  have hb : bW (nbW ways) x s (F + 1) = bW (nbW ways) x s F + kW (nbW ways) x s (bW (nbW ways) x s F) := rfl
  have hk' : kW (nbW ways) x s (bW (nbW ways) x s (F + 1)) = kW (nbW ways) x s (bW (nbW ways) x s F) := hk
  rw [hk', hb]
  generalize kW (nbW ways) x s (bW (nbW ways) x s F) = k at r1 hf
  generalize bW (nbW ways) x s F = b at r1 hf
  unfold rndL
  rw [show b + k = k + b by omega, ← List.map_add_range', List.map_map]
  refine List.map_congr_left fun i hi => ?_
  have hi' := List.mem_range'_1.mp hi
  have e1 := (repeats G X r1 hf (i - b)).1
  have e2 := (repeats G X r1 hf (i - b + 1)).1
  have d1 : b + k + (i - b) = k + i := by omega
  have d2 : b + (i - b) = i := by omega
  have d3 : b + k + (i - b + 1) = k + i + 1 := by omega
  have d4 : b + (i - b + 1) = i + 1 := by omega
  rw [d1, d2] at e1
  rw [d3, d4] at e2
  show (x (k + i), x (k + i + 1)) = _
  rw [e1, e2]
end Mine
end

section
open PySem PySem.W PyProof.Rows
set_option Elab.async false
namespace Mine
set_option maxRecDepth 100000
set_option maxHeartbeats 2000000
set_option linter.unusedVariables false

section
variable {Γ : List (Str × GV)} {n : Nat} {sc : List (Str × NameKind)} {cn own : List Str} {σ σ' : Sg} {d a b : D}
theorem ev_gv {g : Str} {gp p : Pos} {args : List PySem.Expr} {ds : List D} {gv : GV} (hns : starE args = none) (hsc : sc.lookup g = some .globalImplicit) (hg : Γ.lookup g = some gv) (hds : allD (fwD σ (ev Γ n sc cn own σ)) args = some ds) (h : gvD (args.any (weakE own)) ds gv = some d) :
    ev Γ (n + 1) sc cn own σ (.Call (.Name g gp) args [] p) = some d := by
  show (if sc.lookup g = some .globalImplicit then (match starE args with
            | some q => _
            | none => (allD (fwD σ (ev Γ n sc cn own σ)) args).bind fun ds => (Γ.lookup g).bind (gvD (args.any (weakE own)) ds)) else none) = _
  rw [if_pos hsc, hns, hds, hg]
  exact h
theorem ev_bi {g : Str} {gp p : Pos} {args : List PySem.Expr} {ds : List D} {id : String} (hns : starE args = none) (hsc : sc.lookup g = some .globalImplicit) (hg : Γ.lookup g = some (.bi id)) (hds : allD (fwD σ (ev Γ n sc cn own σ)) args = some ds) (h : biD id ds = some d) :
    ev Γ (n + 1) sc cn own σ (.Call (.Name g gp) args [] p) = some d := ev_gv (gp := gp) (p := p) hns hsc hg hds h
theorem ev_ty {g : Str} {gp p : Pos} {args : List PySem.Expr} {ds : List D} {T : String} (hns : starE args = none) (hsc : sc.lookup g = some .globalImplicit) (hg : Γ.lookup g = some (.ty T)) (hds : allD (fwD σ (ev Γ n sc cn own σ)) args = some ds) (h : tyD T ds = some d) :
    ev Γ (n + 1) sc cn own σ (.Call (.Name g gp) args [] p) = some d := ev_gv (gp := gp) (p := p) hns hsc hg hds h
theorem ev_fn {g : Str} {gp p : Pos} {args : List PySem.Expr} {ds : List D} {fa : Addr} {F : List D → Option D} (hns : starE args = none) (hsc : sc.lookup g = some .globalImplicit) (hg : Γ.lookup g = some (.fn fa F)) (hw : args.any (weakE own) = false ∨ d.flat = true) (hds : allD (fwD σ (ev Γ n sc cn own σ)) args = some ds) (h : F ds = some d) :
    ev Γ (n + 1) sc cn own σ (.Call (.Name g gp) args [] p) = some d := by
  refine ev_gv (gp := gp) (p := p) hns hsc hg hds ?_
  show (F ds).bind _ = _
  rw [h]
  show (if args.any (weakE own) = true then (if d.flat = true then some d else none) else some d) = _
  rcases hw with hw | hw
  · rw [hw, if_neg Bool.false_ne_true]
  · rw [if_pos hw]
    cases args.any (weakE own) <;> rfl
theorem fw_name {x : Str} {p : Pos} (h : σ.lookup x = some d) : fwD σ (ev Γ n sc cn own σ) (.Name x p) = some d := by
  show (match σ.lookup x with | some d => some d | none => ev Γ n sc cn own σ (.Name x p)) = _
  rw [h]
theorem ev_comp2 {elt iter iter' : PySem.Expr} {x y : Str} {px py pos : Pos} {scope : Scope} {src : D} {l res : List D}
    (hc : scopeOk scope cn = true ∧ scope.names.lookup x = some .local ∧ scope.names.lookup y = some .local ∧ own.contains x = false ∧ own.contains y = false ∧ x ≠ y ∧ setE iter = false ∧ setE iter' = false) (hs : ev Γ n sc cn own σ iter = some src) (hi : itemsD src = some l) (hl : l.length ≤ 8)
    (hres : compD2 (fun d => (ev Γ n scope.names (freeN scope) own ((x, d) :: seen scope σ) iter').bind fun src' => (itemsD src').bind fun l' => compD (fun _ => some true) (fun d' => ev Γ n scope.names (freeN scope) own ((y, d') :: (x, d) :: seen scope σ) elt) l') l = some res) :
    ev Γ (n + 2) sc cn own σ (.ListComp elt [⟨.Name x px, iter, [], 0⟩, ⟨.Name y py, iter', [], 0⟩] scope pos) = some (.lst res) := by
  show Option.map D.lst (if scopeOk scope cn = true ∧ scope.names.lookup x = some .local ∧ scope.names.lookup y = some .local ∧ own.contains x = false ∧ own.contains y = false ∧ x ≠ y ∧ setE iter = false ∧ setE iter' = false ∧ ([] : List PySem.Expr).isEmpty = true ∧ ([] : List PySem.Expr).isEmpty = true then
            (ev Γ n sc cn own σ iter).bind fun src => (itemsD src).bind fun l => if l.length ≤ 8 then
              compD2 (fun d => (ev Γ n scope.names (freeN scope) own ((x, d) :: seen scope σ) iter').bind fun src' => (itemsD src').bind fun l' =>
                compD (fun _ => some true) (fun d' => ev Γ n scope.names (freeN scope) own ((y, d') :: (x, d) :: seen scope σ) elt) l') l else none
          else none) = _
  obtain ⟨c1, c2, c3, c4, c5, c6, c7, c8⟩ := hc
  rw [if_pos ⟨c1, c2, c3, c4, c5, c6, c7, c8, rfl, rfl⟩, hs]
  show Option.map D.lst ((itemsD src).bind _) = _
  rw [hi]
  show Option.map D.lst (if l.length ≤ 8 then compD2 _ l else none) = _
  rw [if_pos hl, hres]
  rfl
theorem compD2_map {inner : D → Option (List D)} {α : Type} {g : α → D} {r : α → List D} : ∀ (l : List α), (∀ a ∈ l, inner (g a) = some (r a)) → compD2 inner (l.map g) = some (l.flatMap r)
  | [], _ => rfl
  | a :: l, h => by
    show (inner (g a)).bind _ = _
    rw [h a List.mem_cons_self]
    show (compD2 inner (l.map g)).bind _ = _
    rw [compD2_map l fun b hb => h b (List.mem_cons_of_mem _ hb)]
    rfl
end

theorem cmp_gtN (a b : Nat) : cmpD .Gt (dN a) (dN b) = some (decide (b < a)) := by
  show some (decide ((b : Int) < a)) = _
  congr 1
  simp
theorem cmp_eqP (a b : Nat × Nat) : cmpD .Eq (pD a) (pD b) = some (decide (b = a)) := by
  show (if (D.ok 8 (pD a) && D.ok 8 (pD b)) = true then some (D.eqb (pD a) (pD b)) else none) = _
  rw [eqb_pD]; rfl
theorem cmp_inT (q p : Nat) : cmpD .In (dN q) (.tup [dN p]) = some (decide (q = p)) := by
  show some ([dN p].any fun z => D.eqb z (dN q)) = _
  have := any_ints q [p]
  rw [show ([p].map dN) = [dN p] from rfl] at this
  rw [this]; simp
theorem items_lst {l : List D} (h : l.length ≤ 2 ^ 20) : itemsD (.lst l) = some l := by
  show (if l.length ≤ 2 ^ 20 then some l else none) = _
  rw [if_pos h]
theorem rngL_from (a n : Nat) : rngL (a : Int) ((a + n : Nat) : Int) = (List.range' a n).map dN := by
  unfold rngL
  have : (((a + n : Nat) : Int) - (a : Int)).toNat = n := by omega
  rw [this]
  apply List.ext_getElem
  · simp
  · intro i h1 h2
    simp
theorem items_rng {a b : Nat} (h : b ≤ 2 ^ 20) (hab : a ≤ b) : itemsD (.rng (a : Int) (b : Int)) = some ((List.range' a (b - a)).map dN) := by
  have e : b = a + (b - a) := by omega
  show (if smallI (a : Int) = true ∧ smallI (b : Int) = true ∧ (b : Int) - a ≤ 2 ^ 20 then some (rngL (a : Int) (b : Int)) else none) = _
  rw [if_pos]
  · conv => lhs; rw [e, rngL_from]
  · refine ⟨?_, ?_, by omega⟩
    · unfold smallI; simp; omega
    · unfold smallI; simp; omega

theorem pairs_pD : ∀ l : List (Nat × Nat), pairsD (l.map pD) = some (l.map fun p => ((p.1 : Int), (p.2 : Int)))
  | [] => rfl
  | p :: l => by
    rw [List.map_cons, List.map_cons]
    show (pairsD (l.map pD)).map _ = _
    rw [pairs_pD l]; rfl
theorem sorted_val {l : List (Nat × Nat)} (h2 : 2 ≤ l.length) (h64 : l.length < 64) : ∃ g : List (Nat × Nat), g.Perm l ∧ biD "sorted" [pI l] = some (pI g) := by
  have hp := sortIx_perm (ps := l.map fun p => ((p.1 : Int), (p.2 : Int))) (by rw [List.length_map]; omega)
  rw [List.length_map] at hp
  refine ⟨(sortIx (l.map fun p => ((p.1 : Int), (p.2 : Int)))).map fun i => l.getD i (0, 0), ?_, ?_⟩
  · have h1 := hp.map fun i => l.getD i (0, 0)
    rw [getD_range_map] at h1
    exact h1
  · show (pairsD (l.map pD)).bind (fun ps => if 2 ≤ (l.map pD).length ∧ (l.map pD).length < 64 then some (D.lst (sortD (l.map pD) ps)) else none) = _
    rw [pairs_pD]
    show (if 2 ≤ (l.map pD).length ∧ (l.map pD).length < 64 then some (D.lst (sortD (l.map pD) _)) else none) = _
    rw [if_pos (by rw [List.length_map]; exact ⟨h2, h64⟩)]
    unfold sortD pI
    rw [List.map_map]
    congr 2
    refine List.map_congr_left fun i hi => ?_
    have hi' : i < l.length := List.mem_range.mp (hp.mem_iff.mp hi)
    simp [List.getD_eq_getElem?_getD, hi']

noncomputable def rD (rs : List (List (Nat × Nat))) : D := .lst (rs.map pI)
theorem rD_item {rs : List (List (Nat × Nat))} {i : Nat} (h : i < rs.length) (h64 : rs.length ≤ 64) : itemD (rD rs) (dN i) = some (pI (rs.getD i [])) := by
  show idxD (rs.map pI) (i : Int) = _
  rw [idx_nat _ (by rw [List.length_map]; exact h) (by omega), List.getElem?_map, List.getD_eq_getElem?_getD, List.getElem?_eq_getElem h]
  rfl
theorem pI_item {l : List (Nat × Nat)} {i : Nat} (h : i < l.length) (h64 : l.length ≤ 64) : itemD (pI l) (dN i) = some (pD (l.getD i (0, 0))) := by
  show idxD (l.map pD) (i : Int) = _
  rw [idx_nat _ (by rw [List.length_map]; exact h) (by omega), List.getElem?_map, List.getD_eq_getElem?_getD, List.getElem?_eq_getElem h]
  rfl
noncomputable def eachL (ways : List (List Nat)) : List (Nat × Nat) := (List.range 4).flatMap fun p => (nbW ways p).map fun q => (p, q)
theorem eachL_mem {ways : List (List Nat)} {p q : Nat} : (p, q) ∈ eachL ways ↔ p < 4 ∧ q ∈ nbW ways p := by
  unfold eachL
  rw [List.mem_flatMap]
  constructor
  · rintro ⟨a, h1, h2⟩
    obtain ⟨c, h3, h4⟩ := List.mem_map.mp h2
    cases h4
    exact ⟨List.mem_range.mp h1, h3⟩
  · rintro ⟨h1, h2⟩
    exact ⟨p, List.mem_range.mpr h1, List.mem_map.mpr ⟨q, h2, rfl⟩⟩
theorem eachL_len {ways : List (List Nat)} (hd : ∀ q, (nbW ways q).length ≤ 4) : (eachL ways).length ≤ 16 := by
  have h0 := hd 0
  have h1 := hd 1
  have h2 := hd 2
  have h3 := hd 3
  show ((List.range 4).flatMap _).length ≤ 16
  rw [show List.range 4 = [0, 1, 2, 3] from rfl]
  simp only [List.flatMap_cons, List.flatMap_nil, List.length_append, List.length_map, List.length_nil]
  omega
theorem nodup_adj {g : List (Nat × Nat)} (hn : g.Nodup) {i : Nat} (h1 : 1 ≤ i) (h2 : i < g.length) : g.getD i (0, 0) ≠ g.getD (i - 1) (0, 0) := by
  rw [List.getD_eq_getElem?_getD, List.getD_eq_getElem?_getD, List.getElem?_eq_getElem h2, List.getElem?_eq_getElem (by omega : i - 1 < g.length)]
  intro e
  have e' : g[i] = g[i - 1] := e
  have := (List.getElem_inj hn).mp e'
  omega
end Mine
end

section
open PySem PySem.W PyProof.Rows
set_option Elab.async false
namespace Mine
set_option maxRecDepth 100000
set_option maxHeartbeats 4000000
set_option linter.unusedVariables false

noncomputable def aheadL (rs : List (List (Nat × Nat))) (s i : Nat) : List Nat := if i = 0 then [s] else (rs.getD (i - 1) []).map (·.1)
noncomputable def aheadD (rs : List (List (Nat × Nat))) (s i : Nat) : D := if i = 0 then .tup [dN s] else nI ((rs.getD (i - 1) []).map (·.1))
theorem cmp_ahead (rs : List (List (Nat × Nat))) (s i p : Nat) : cmpD .In (dN p) (aheadD rs s i) = some (decide (p ∈ aheadL rs s i)) := by
  unfold aheadD aheadL
  split
  · rw [cmp_inT]; simp
  · exact cmp_in _ _
noncomputable def sSt (rs : List (List (Nat × Nat))) (ways : List (List Nat)) (F s : Nat) (g : Nat → List (Nat × Nat)) (i : Nat) : Sg :=
  [(S "rounds", rD rs), (S "ways", wD ways), (S "farthest", dN F), (S "each", pI (eachL ways))] ++ (if i = 0 then [] else [(S "n", dN (i - 1)), (S "gone", pI (g (i - 1))), (S "ahead", aheadD rs s (i - 1))])

section
variable {Γ : List (Str × GV)} {n : Nat} {sc : List (Str × NameKind)} {cn own : List Str} {σ σ' : Sg} {d a b : D}
theorem ev_item {v i : PySem.Expr} {p : Pos} (hns : sliceE i = none) (hv : fwD σ (ev Γ n sc cn own σ) v = some a) (hi : ev Γ n sc cn own σ i = some b) (h : itemD a b = some d) : ev Γ (n + 1) sc cn own σ (.Subscript v i p) = some d := by
  show (fwD σ (ev Γ n sc cn own σ) v).bind (fun x => match sliceE i with
      | some q => (optD (ev Γ n sc cn own σ) q.1).bind fun a => (optD (ev Γ n sc cn own σ) q.2.1).bind fun b => (optD (ev Γ n sc cn own σ) q.2.2.1).bind fun c => sliceD x a b c
      | none => (ev Γ n sc cn own σ i).bind fun k => itemD x k) = _
  rw [hv, hns]
  show (ev Γ n sc cn own σ i).bind _ = _
  rw [hi]
  exact h
theorem fw_item {v i : PySem.Expr} {p : Pos} (hns : sliceE i = none) (hv : fwD σ (ev Γ n sc cn own σ) v = some a) (hi : ev Γ n sc cn own σ i = some b) (h : itemD a b = some d) : fwD σ (ev Γ (n + 1) sc cn own σ) (.Subscript v i p) = some d := ev_item (p := p) hns hv hi h
theorem ev_slice {v : PySem.Expr} {lo hi st : Option PySem.Expr} {p q : Pos} {x y z : Option Int} (hv : fwD σ (ev Γ n sc cn own σ) v = some a) (h1 : optD (ev Γ n sc cn own σ) lo = some x) (h2 : optD (ev Γ n sc cn own σ) hi = some y) (h3 : optD (ev Γ n sc cn own σ) st = some z) (h : sliceD a x y z = some d) : ev Γ (n + 1) sc cn own σ (.Subscript v (.Slice lo hi st q) p) = some d := by
  show (fwD σ (ev Γ n sc cn own σ) v).bind (fun x => (optD (ev Γ n sc cn own σ) lo).bind fun a => (optD (ev Γ n sc cn own σ) hi).bind fun b => (optD (ev Γ n sc cn own σ) st).bind fun c => sliceD x a b c) = _
  rw [hv, h1, h2, h3]
  exact h
end

theorem steady_val {rs : List (List (Nat × Nat))} {ways : List (List Nat)} {F s : Nat} (hw : ways.length = 4) (hd : ∀ q, (nbW ways q).length ≤ 4) (hlen : rs.length ≤ 64) (h0 : 0 < rs.length)
    (h2 : ∀ n, n < rs.length → 2 ≤ (rs.getD n []).length ∧ (rs.getD n []).length < 64 ∧ (rs.getD n []).Nodup)
    (hs : ((rs.getD 0 []).getD 0 (0, 0)).1 = s)
    (ha : ∀ n, n < rs.length → ∀ p q, p < 4 → q ∈ nbW ways p → p ∈ aheadL rs s n → (p, q) ∈ rs.getD n [])
    (hrep : ∀ n, n < rs.length → F < n → rs.getD n [] = rs.getD (n - 1) []) : mkF G1 fd_steady.1 [] [rD rs, wD ways, dN F] = some (.bool true) := by
  have hsort : ∀ n, ∃ g : List (Nat × Nat), n < rs.length → g.Perm (rs.getD n []) ∧ biD "sorted" [pI (rs.getD n [])] = some (pI g) := by
    intro n
    by_cases hn : n < rs.length
    · obtain ⟨g, h⟩ := sorted_val (h2 n hn).1 (h2 n hn).2.1
      exact ⟨g, fun _ => h⟩
    · exact ⟨[], fun h => absurd h hn⟩
  obtain ⟨g, hg⟩ := Classical.axiomOfChoice hsort
  have hel := eachL_len hd
  refine fnD_ret (σ' := sSt rs ways F s g rs.length) (by rfl) ?_
  refine (exs_next (σ' := sSt rs ways F s g 0) (ex_asg (d := pI (eachL ways)) ⟨by rfl, fun h => by cases h⟩ ?_)).trans ?_
  · refine ev_comp2 (src := .rng 0 4) (l := (List.range 4).map dN) ⟨by decide +kernel, by rfl, by rfl, by rfl, by rfl, by decide +kernel, by rfl, by rfl⟩ (by rfl) (by rfl) (by decide) ?_
    refine (compD2_map (r := fun p => ((nbW ways p).map fun q => (p, q)).map pD) (List.range 4) fun p hp => ?_).trans ?_
    · have hp4 := List.mem_range.mp hp
      refine (show _ = ((itemD (wD ways) (dN p)).bind fun src' => (itemsD src').bind fun l' => compD (fun _ => some true) _ l') from rfl).trans ?_
      rw [wD_item (by omega) (by omega)]
      show (itemsD (nI (nbW ways p))).bind _ = _
      unfold nI
      rw [items_lst (by rw [List.length_map]; exact Nat.le_trans (hd p) (by decide))]
      refine (compD_map (t := fun _ => true) (e := fun q => pD (p, q)) (nbW ways p) (fun q hq => rfl) (fun q hq _ => by rfl)).trans ?_
      rw [List.filter_eq_self.mpr fun _ _ => rfl, List.map_map]; rfl
    · unfold eachL
      rw [List.map_flatMap]
  refine (exs_next (σ' := sSt rs ways F s g rs.length) (ex_forr (lo := 0) (hi := (rs.length : Int)) (l := (List.range' 0 rs.length).map dN) ⟨by rfl, by rfl, by rfl⟩ ?_ ?_ ?_)).trans ?_
  · refine ev_ty (T := "range") (ds := [dN rs.length]) (by rfl) (by rfl) (by rfl) (allD1 ?_) rfl
    refine (show _ = biD "len" [rD rs] from rfl).trans ?_
    unfold rD
    rw [len_lst _ (by rw [List.length_map]; omega), List.length_map]
  · have := items_rng (a := 0) (b := rs.length) (by omega) (Nat.zero_le _)
    exact this
  · refine (forD_iter (g := dN) (sSt rs ways F s g) rs.length 0 fun i _ hi => ?_).trans (by rw [Nat.zero_add])
    rw [Nat.zero_add] at hi
    obtain ⟨hg1, hg2⟩ := hg i hi
    obtain ⟨n1, n2, n3⟩ := h2 i hi
    have glen : (g i).length = (rs.getD i []).length := hg1.length_eq
    have gnd : (g i).Nodup := hg1.nodup_iff.mpr n3
    have hitem : itemD (rD rs) (dN i) = some (pI (rs.getD i [])) := rD_item hi hlen
    have hf1 : (List.range' 1 ((g i).length - 1)).filter (fun j => decide ((g i).getD j (0, 0) = (g i).getD (j - 1) (0, 0))) = [] := by
      rw [List.filter_eq_nil_iff]
      intro j hj
      have hj' := List.mem_range'_1.mp hj
      rw [decide_eq_false (nodup_adj gnd hj'.1 (by omega))]
      exact fun h => by cases h
    have hf2 : (eachL ways).filter (fun e => decide (e.1 ∈ aheadL rs s i) && !decide (e ∈ g i)) = [] := by
      rw [List.filter_eq_nil_iff]
      rintro ⟨p, q⟩ he
      obtain ⟨e1, e2⟩ := eachL_mem.mp he
      by_cases hp : p ∈ aheadL rs s i
      · have := hg1.mem_iff.mpr (ha i hi p q e1 e2 hp)
        rw [decide_eq_true this]; simp
      · rw [decide_eq_false hp]; exact fun h => by cases h
    have len1 : biD "len" [pI (g i)] = some (dN (g i).length) := by
      unfold pI
      rw [len_lst _ (by rw [List.length_map]; omega), List.length_map]
    have ht3 : ∀ u : Bool, u = decide (F < i) → ∀ (v : Bool), (u = true → v = false) → (u && v) = false := by
      intro u _ v h; cases u with
      | false => rfl
      | true => rw [h rfl]; rfl
    have idx1 : ∀ j ∈ List.range' 1 ((g i).length - 1), (binD .Sub (dN j) (.int 1)).bind (fun k => itemD (pI (g i)) k) = some (pD ((g i).getD (j - 1) (0, 0))) := by
      intro j hj
      have hj' := List.mem_range'_1.mp hj
      show itemD (pI (g i)) (.int ((j : Int) - 1)) = _
      have e : ((j : Int) - 1) = ((j - 1 : Nat) : Int) := by omega
      rw [e]
      exact pI_item (by omega) (by omega)
    have idx2 : ∀ j ∈ List.range' 1 ((g i).length - 1), itemD (pI (g i)) (dN j) = some (pD ((g i).getD j (0, 0))) := by
      intro j hj
      have hj' := List.mem_range'_1.mp hj
      exact pI_item (by omega) (by omega)
    have itg : itemsD (.rng ((1 : Nat) : Int) ((g i).length : Int)) = some ((List.range' 1 ((g i).length - 1)).map dN) := items_rng (by omega) (by omega)
    rcases i with _ | i
    · refine (exs_next (ex_asg (d := pI (g 0)) ⟨by rfl, fun h => by cases h⟩ ?_)).trans ?_
      · exact ev_bi (id := "sorted") (ds := [pI (rs.getD 0 [])]) (by rfl) (by rfl) (by rfl) (allD1 hitem) hg2
      refine (exs_next (ex_iff ?_ exs_end)).trans ?_
      · refine tr_cmp (a := nI []) (b := nI []) (c := false) (by rfl) ?_ (by rfl) (by rw [cmp_neI]; rfl)
        refine fw_comp (src := .rng ((1 : Nat) : Int) ((g 0).length : Int)) ⟨by decide +kernel, by rfl, by rfl, by rfl, by decide⟩ ?_ itg ?_
        · exact ev_ty (T := "range") (ds := [dN 1, dN (g 0).length]) (by rfl) (by rfl) (by rfl) (allD2 (by rfl) len1) rfl
        · refine (compD_map (t := fun j => decide ((g 0).getD j (0, 0) = (g 0).getD (j - 1) (0, 0))) (e := dN) _ (fun j hj => ?_) (fun j hj _ => by rfl)).trans (by rw [hf1])
          exact trAll_one (tr_cmp (a := pD ((g 0).getD (j - 1) (0, 0))) (b := pD ((g 0).getD j (0, 0))) (by rfl) (idx1 j hj) (idx2 j hj) (cmp_eqP _ _))
      refine (exs_next (ex_asg (d := aheadD rs s 0) ⟨by rfl, fun h => by cases h⟩ ?_)).trans ?_
      · refine ev_ifF (tr_cmp (a := dN 0) (b := dN 0) (by rfl) (by rfl) (by rfl) (by rw [cmp_gtN]; rfl)) ?_
        refine ev_slice (a := pD ((rs.getD 0 []).getD 0 (0, 0))) (x := none) (y := some 1) (z := none) ?_ (by rfl) (by rfl) (by rfl) ?_
        · refine fw_item (a := pI (rs.getD 0 [])) (b := dN 0) (by rfl) ?_ (by rfl) (pI_item (by omega) (by omega))
          exact fw_item (a := rD rs) (b := dN 0) (by rfl) (by rfl) (by rfl) hitem
        · rw [← hs]; rfl
      refine (exs_next (ex_iff ?_ exs_end)).trans ?_
      · refine tr_cmp (a := nI []) (b := nI []) (c := false) (by rfl) ?_ (by rfl) (by rw [cmp_neI]; rfl)
        refine fw_comp (src := pI (eachL ways)) ⟨by decide +kernel, by rfl, by rfl, by rfl, by decide⟩ (by rfl) (items_lst (by rw [List.length_map]; omega)) ?_
        refine (compD_map (t := fun e => decide (e.1 ∈ aheadL rs s 0) && !decide (e ∈ g 0)) (e := pD) _ (fun e he => ?_) (fun e he _ => by rfl)).trans (by rw [hf2]; rfl)
        refine trAll_one (tr_and2 (tr_cmp (a := dN e.1) (b := aheadD rs s 0) (by rfl) (by rfl) (by rfl) (cmp_ahead _ _ _ _)) fun _ => ?_)
        exact tr_cmp (a := pD e) (b := pI (g 0)) (by rfl) (by rfl) (by rfl) (cmp_notinP _ _)
      refine (exs_next (ex_iff ?_ exs_end)).trans exs_end
      refine (tr_and2 (u := false) (v := false) ?_ fun h => by cases h)
      exact tr_cmp (a := dN 0) (b := dN F) (by rfl) (by rfl) (by rfl) (by rw [cmp_gtN, decide_eq_false (Nat.not_lt_zero _)])
    · have hitem' : itemD (rD rs) (dN i) = some (pI (rs.getD i [])) := rD_item (by omega) hlen
      obtain ⟨m1, m2, m3⟩ := h2 i (by omega)
      have hsub : some (D.int (((i + 1 : Nat) : Int) - 1)) = some (dN i) := by
        show some (D.int _) = some (D.int _)
        congr 2
        omega
      refine (exs_next (ex_asg (d := pI (g (i + 1))) ⟨by rfl, fun h => by cases h⟩ ?_)).trans ?_
      · exact ev_bi (id := "sorted") (ds := [pI (rs.getD (i + 1) [])]) (by rfl) (by rfl) (by rfl) (allD1 hitem) hg2
      refine (exs_next (ex_iff ?_ exs_end)).trans ?_
      · refine tr_cmp (a := nI []) (b := nI []) (c := false) (by rfl) ?_ (by rfl) (by rw [cmp_neI]; rfl)
        refine fw_comp (src := .rng ((1 : Nat) : Int) ((g (i + 1)).length : Int)) ⟨by decide +kernel, by rfl, by rfl, by rfl, by decide⟩ ?_ itg ?_
        · exact ev_ty (T := "range") (ds := [dN 1, dN (g (i + 1)).length]) (by rfl) (by rfl) (by rfl) (allD2 (by rfl) len1) rfl
        · refine (compD_map (t := fun j => decide ((g (i + 1)).getD j (0, 0) = (g (i + 1)).getD (j - 1) (0, 0))) (e := dN) _ (fun j hj => ?_) (fun j hj _ => by rfl)).trans (by rw [hf1])
          exact trAll_one (tr_cmp (a := pD ((g (i + 1)).getD (j - 1) (0, 0))) (b := pD ((g (i + 1)).getD j (0, 0))) (by rfl) (idx1 j hj) (idx2 j hj) (cmp_eqP _ _))
      refine (exs_next (ex_asg (d := aheadD rs s (i + 1)) ⟨by rfl, fun h => by cases h⟩ ?_)).trans ?_
      · refine ev_ifT (tr_cmp (a := dN (i + 1)) (b := dN 0) (by rfl) (by rfl) (by rfl) (by rw [cmp_gtN, decide_eq_true (Nat.succ_pos i)])) ?_
        refine ev_comp (src := pI (rs.getD i [])) ⟨by decide +kernel, by rfl, by rfl, by rfl, by decide⟩ (ev_item (a := rD rs) (b := dN i) (by rfl) (by rfl) hsub hitem') (items_lst (by rw [List.length_map]; omega)) ?_
        refine (compD_map (t := fun _ => true) (e := fun e => dN e.1) _ (fun e he => by rfl) (fun e he _ => by rfl)).trans ?_
        rw [List.filter_eq_self.mpr fun _ _ => rfl]
        show some ((rs.getD i []).map _) = some (((rs.getD i []).map (·.1)).map dN)
        rw [List.map_map]; rfl
      refine (exs_next (ex_iff ?_ exs_end)).trans ?_
      · refine tr_cmp (a := nI []) (b := nI []) (c := false) (by rfl) ?_ (by rfl) (by rw [cmp_neI]; rfl)
        refine fw_comp (src := pI (eachL ways)) ⟨by decide +kernel, by rfl, by rfl, by rfl, by decide⟩ (by rfl) (items_lst (by rw [List.length_map]; omega)) ?_
        refine (compD_map (t := fun e => decide (e.1 ∈ aheadL rs s (i + 1)) && !decide (e ∈ g (i + 1))) (e := pD) _ (fun e he => ?_) (fun e he _ => by rfl)).trans (by rw [hf2]; rfl)
        refine trAll_one (tr_and2 (tr_cmp (a := dN e.1) (b := aheadD rs s (i + 1)) (by rfl) (by rfl) (by rfl) (cmp_ahead _ _ _ _)) fun _ => ?_)
        exact tr_cmp (a := pD e) (b := pI (g (i + 1))) (by rfl) (by rfl) (by rfl) (cmp_notinP _ _)
      refine (exs_next (ex_iff ?_ exs_end)).trans exs_end
      refine (tr_and2 (u := decide (F < i + 1)) (v := false) ?_ fun h => ?_).trans (by rw [Bool.and_false])
      · exact tr_cmp (a := dN (i + 1)) (b := dN F) (by rfl) (by rfl) (by rfl) (cmp_gtN _ _)
      · have hr : rs.getD (i + 1) [] = rs.getD i [] := hrep (i + 1) hi (of_decide_eq_true h)
        refine tr_cmp (a := pI (rs.getD (i + 1) [])) (b := pI (rs.getD i [])) (by rfl) ?_ ?_ (by rw [cmp_neP, decide_eq_true hr]; rfl)
        · exact fw_item (a := rD rs) (b := dN (i + 1)) (by rfl) (by rfl) (by rfl) hitem
        · exact fw_item (a := rD rs) (b := dN i) (by rfl) (by rfl) hsub hitem'
  · exact exs_ret (ex_ret' (by rfl))
end Mine
end

section
open PySem PySem.W PyProof.Rows
set_option Elab.async false
namespace Mine
set_option maxRecDepth 100000
set_option maxHeartbeats 4000000
set_option linter.unusedVariables false

theorem pickD_map {α β : Type} (f : α → β) (l : List α) (lo hi st : Option Int) : pickD (l.map f) lo hi st = (pickD l lo hi st).map f := by
  unfold pickD
  rw [List.length_map, List.map_filterMap]
  congr 1
  funext i
  exact List.getElem?_map
theorem pickD_run {α : Type} (l : List α) (lo hi : Option Int) : pickD l lo hi none = (l.drop (kms_lo lo l.length)).take (kms_hi hi l.length - kms_lo lo l.length) := by
  unfold pickD
  rw [kms_bounds]
  show (sliceRange _ _ 1).filterMap _ = _
  rw [sliceRange_one]
  have := pick_run l.toArray (kms_lo lo l.length) (kms_hi hi l.length - kms_lo lo l.length)
  simpa using this
theorem pickD_nat {α : Type} (l : List α) {a b : Nat} (h : b ≤ l.length) (hab : a ≤ b) : pickD l (some (a : Int)) (some (b : Int)) none = (l.drop a).take (b - a) := by
  rw [pickD_run]
  have e1 : kms_lo (some (a : Int)) l.length = a := by
    simp only [kms_lo]
    rw [if_neg (by omega)]; omega
  have e2 : kms_hi (some (b : Int)) l.length = b := by
    simp only [kms_hi]
    rw [if_neg (by omega)]; omega
  rw [e1, e2]
theorem pickD_init {α : Type} (l : List α) : pickD l none (some (-1)) none = l.take (l.length - 1) := by
  rw [pickD_run]
  show (l.drop 0).take (l.length - 1 - 0) = _
  rw [List.drop_zero, Nat.sub_zero]
theorem slice_lst {l : List D} {lo hi st : Option Int} (h : l.length ≤ 2 ^ 20) (h0 : st ≠ some 0) : sliceD (.lst l) lo hi st = some (.lst (pickD l lo hi st)) := by
  show (if l.length ≤ 2 ^ 20 ∧ st ≠ some 0 then some (D.lst (pickD l lo hi st)) else none) = _
  rw [if_pos ⟨h, h0⟩]
theorem intsD_int : ∀ l : List Int, intsD (l.map D.int) = some l
  | [] => rfl
  | a :: l => by
    rw [List.map_cons]
    show (intsD (l.map D.int)).map _ = _
    rw [intsD_int l]; rfl
theorem nI_int (l : List Nat) : nI l = .lst ((l.map fun a : Nat => (a : Int)).map D.int) := by
  unfold nI
  rw [List.map_map]; rfl
theorem sum_int (l : List Int) : biD "sum" [.lst (l.map D.int)] = some (.int l.sum) := by
  show (intsD (l.map D.int)).map _ = _
  rw [intsD_int]; rfl
theorem sum_nat (l : List Nat) : biD "sum" [nI l] = some (dN l.sum) := by
  rw [nI_int, sum_int]
  congr 2
  induction l with
  | nil => rfl
  | cons a l ih => rw [List.map_cons, List.sum_cons, List.sum_cons, ih]; omega
theorem count_nat (l : List Nat) (k : Nat) : methD (S "count") (nI l) [dN k] = some (dN (l.count k)) := by
  rw [nI_int]
  show (intsD ((l.map fun a : Nat => (a : Int)).map D.int)).map _ = _
  rw [intsD_int]
  show some (D.int _) = some (D.int _)
  congr 3
  induction l with
  | nil => rfl
  | cons a l ih =>
    rw [List.map_cons, List.count_cons, List.count_cons, ih]
    congr 1
    by_cases h : a = k
    · subst h; simp
    · have : (a : Int) ≠ k := by omega
      simp [h, this]

noncomputable def figN (ns : List Int) (c k : Nat) : Nat := (((k : Int) + (pickD ns (some (c : Int)) none (some 5)).sum).fmod 4096).toNat
theorem figN_lt (ns : List Int) (c k : Nat) : figN ns c k < 4096 := by
  unfold figN
  rw [Int.fmod_eq_emod_of_nonneg _ (by decide)]
  omega
theorem figN_eq (ns : List Int) (c k : Nat) : binD .Mod (.int ((k : Int) + (pickD ns (some (c : Int)) none (some 5)).sum)) (.int 4096) = some (dN (figN ns c k)) := by
  show (if (4096 : Int) ≠ 0 then some (D.int _) else none) = _
  rw [if_pos (by decide)]
  unfold figN
  rw [Int.fmod_eq_emod_of_nonneg _ (by decide)]
  congr 2
  omega

section
variable {Γ : List (Str × GV)} {n : Nat} {sc : List (Str × NameKind)} {cn own : List Str} {σ σ' : Sg} {d a b : D}
theorem ev_enum {elt ls : PySem.Expr} {x y g : Str} {px py tp gp cp pos : Pos} {tt : Nat} {scope : Scope} {l res : List D}
    (hc : scopeOk scope cn = true ∧ scope.names.lookup x = some .local ∧ scope.names.lookup y = some .local ∧ own.contains x = false ∧ own.contains y = false ∧ x ≠ y ∧ sc.lookup g = some .globalImplicit) (hg : Γ.lookup g = some (.ty "enumerate"))
    (hs : ev Γ n sc cn own σ ls = some (.lst l)) (hl : l.length ≤ 2 ^ 20)
    (hres : compD (fun _ => some true) (fun d => (pairO d).bind fun z => ev Γ n scope.names (freeN scope) own ((y, z.2) :: (x, z.1) :: seen scope σ) elt) (enumL 0 l) = some res) :
    ev Γ (n + 2) sc cn own σ (.ListComp elt [⟨.Tuple [.Name x px, .Name y py] tt tp, .Call (.Name g gp) [ls] [] cp, [], 0⟩] scope pos) = some (.lst res) := by
  show Option.map D.lst (if scopeOk scope cn = true ∧ scope.names.lookup x = some .local ∧ scope.names.lookup y = some .local ∧ own.contains x = false ∧ own.contains y = false ∧ x ≠ y ∧ sc.lookup g = some .globalImplicit ∧ ([] : List PySem.Expr).isEmpty = true ∧ (0 : Int) = 0 ∧ (Γ.lookup g).bind tyO = some "enumerate" then
            (ev Γ n sc cn own σ ls).bind fun v => (lstO v).bind fun l => if l.length ≤ 2 ^ 20 then compD (fun _ => some true) (fun d => (pairO d).bind fun z =>
              ev Γ n scope.names (freeN scope) own ((y, z.2) :: (x, z.1) :: seen scope σ) elt) (enumL 0 l) else none
          else none) = _
  obtain ⟨c1, c2, c3, c4, c5, c6, c7⟩ := hc
  rw [if_pos ⟨c1, c2, c3, c4, c5, c6, c7, rfl, rfl, by rw [hg]; rfl⟩, hs]
  show Option.map D.lst (if l.length ≤ 2 ^ 20 then _ else none) = _
  rw [if_pos hl, hres]
  rfl
end
end Mine
end

section
open PySem PySem.W PyProof.Rows
set_option Elab.async false
namespace Mine
set_option maxRecDepth 100000
set_option maxHeartbeats 4000000
set_option linter.unusedVariables false
section
variable {Γ : List (Str × GV)} {n : Nat} {sc : List (Str × NameKind)} {cn own : List Str} {σ σ' : Sg} {d a b c : D}
theorem ev_methS {v i : PySem.Expr} {p1 ap pos : Pos} {name : Str} {e : PySem.Expr} (hl : (ap.endLine == pos.line) = true) (hc : ev Γ n sc cn own σ (.Subscript v i p1) = some b) (he : fwD σ (ev Γ n sc cn own σ) e = some a) (hm : methD name b [a] = some d) : ev Γ (n + 1) sc cn own σ (.Call (.Attribute (.Subscript v i p1) name ap) [e] [] pos) = some d := by
  show (if baseOk (.Subscript v i p1) = true ∧ (ap.endLine == pos.line) = true ∧ [e].length < 20 then (ev Γ n sc cn own σ (.Subscript v i p1)).bind (fun b => (allD (fwD σ (ev Γ n sc cn own σ)) [e]).bind fun ds => methD name b ds) else none) = _
  rw [if_pos ⟨rfl, hl, by simp⟩, hc]
  show (allD (fwD σ (ev Γ n sc cn own σ)) [e]).bind _ = _
  rw [allD1 he]
  exact hm
theorem ev_tup2 {e1 e2 : PySem.Expr} {k : Nat} {p : Pos} (h1 : ev Γ n sc cn own σ e1 = some a) (h2 : ev Γ n sc cn own σ e2 = some b) : ev Γ (n + 1) sc cn own σ (.Tuple [e1, e2] k p) = some (.tup [a, b]) := by
  show (if [e1, e2].length ≤ 2 ^ 20 then (allD (ev Γ n sc cn own σ) [e1, e2]).map D.tup else none) = _
  rw [if_pos (by simp), allD2 h1 h2]; rfl
theorem optD_some {f : PySem.Expr → Option D} {e : PySem.Expr} {i : Int} (h : f e = some (.int i)) : optD f (some e) = some (some i) := by
  show (f e).bind _ = _
  rw [h]; rfl
theorem ex_brk {p : Pos} : ex Γ (n + 1) sc cn own σ (.Break p) = some (.brk, σ) := rfl
theorem tr_call {g : PySem.Expr} {args : List PySem.Expr} {ks : List Keyword} {p : Pos} {u : Bool} (h : ev Γ n sc cn own σ (.Call g args ks p) = some (.bool u)) : tr Γ (n + 1) sc cn own σ (.Call g args ks p) = some u := by
  show (ev Γ n sc cn own σ (.Call g args ks p)).bind boolO = _
  rw [h]; rfl
theorem allD4 {f : PySem.Expr → Option D} {e1 e2 e3 e4 : PySem.Expr} {e : D} (h1 : f e1 = some a) (h2 : f e2 = some b) (h3 : f e3 = some c) (h4 : f e4 = some e) : allD f [e1, e2, e3, e4] = some [a, b, c, e] := by
  exact allDc h1 (allDc h2 (allD2 h3 h4))
theorem fw_bi {g : Str} {gp p : Pos} {args : List PySem.Expr} {ds : List D} {id : String} (hns : starE args = none) (hsc : sc.lookup g = some .globalImplicit) (hg : Γ.lookup g = some (.bi id)) (hds : allD (fwD σ (ev Γ n sc cn own σ)) args = some ds) (h : biD id ds = some d) :
    fwD σ (ev Γ (n + 1) sc cn own σ) (.Call (.Name g gp) args [] p) = some d := ev_bi (gp := gp) (p := p) hns hsc hg hds h
theorem fw_methS {v i : PySem.Expr} {p1 ap pos : Pos} {name : Str} {e : PySem.Expr} (hl : (ap.endLine == pos.line) = true) (hc : ev Γ n sc cn own σ (.Subscript v i p1) = some b) (he : fwD σ (ev Γ n sc cn own σ) e = some a) (hm : methD name b [a] = some d) : fwD σ (ev Γ (n + 1) sc cn own σ) (.Call (.Attribute (.Subscript v i p1) name ap) [e] [] pos) = some d := ev_methS (p1 := p1) hl hc he hm
theorem fw_slice {v : PySem.Expr} {lo hi st : Option PySem.Expr} {p q : Pos} {x y z : Option Int} (hv : fwD σ (ev Γ n sc cn own σ) v = some a) (h1 : optD (ev Γ n sc cn own σ) lo = some x) (h2 : optD (ev Γ n sc cn own σ) hi = some y) (h3 : optD (ev Γ n sc cn own σ) st = some z) (h : sliceD a x y z = some d) : fwD σ (ev Γ (n + 1) sc cn own σ) (.Subscript v (.Slice lo hi st q) p) = some d := ev_slice (p := p) (q := q) hv h1 h2 h3 h
end

theorem forD_brk {x : Str} {body : Sg → Option (Fl × Sg)} {g : Nat → D} {τ : Sg} (σs : Nat → Sg) {T : Nat} : ∀ (n i : Nat), i ≤ T → T < i + n → (∀ j, i ≤ j → j < T → body (setS (σs j) x (g j)) = some (.next, σs (j + 1))) → body (setS (σs T) x (g T)) = some (.brk, τ) → forD x body ((List.range' i n).map g) (σs i) = some (.next, τ)
  | 0, i, h1, h2, _, _ => by omega
  | n + 1, i, h1, h2, h3, h4 => by
    rw [List.range'_succ, List.map_cons]
    by_cases e : i = T
    · subst e
      show (body (setS (σs i) x (g i))).bind _ = _
      rw [h4]; rfl
    · show (body (setS (σs i) x (g i))).bind _ = _
      rw [h3 i (Nat.le_refl _) (by omega)]
      exact forD_brk σs n (i + 1) (by omega) (by omega) (fun j a b => h3 j (by omega) b) h4

theorem nI_item {l : List Nat} {i : Nat} (h : i < l.length) (h64 : l.length ≤ 200) : itemD (nI l) (dN i) = some (dN (l.getD i 0)) := by
  show idxD (l.map dN) (i : Int) = _
  rw [idx_nat _ (by rw [List.length_map]; exact h) (by omega), List.getElem?_map, List.getD_eq_getElem?_getD, List.getElem?_eq_getElem h]
  rfl
theorem nI_run {x : Nat → Nat} {i n : Nat} (h : i < n) (h64 : n ≤ 200) : itemD (nI ((List.range n).map x)) (dN i) = some (dN (x i)) := by
  rw [nI_item (by simpa using h) (by simpa using h64), List.getD_eq_getElem?_getD, List.getElem?_map, List.getElem?_range h]
  rfl
theorem nI_last {x : Nat → Nat} {m : Nat} (h64 : m ≤ 200) : itemD (nI ((List.range (m + 1)).map x)) (.int (-1)) = some (dN (x m)) := by
  show idxD (((List.range (m + 1)).map x).map dN) (-1) = _
  unfold idxD
  rw [if_pos (by decide +kernel)]
  have e : seqIndex? (-1) (((List.range (m + 1)).map x).map dN).length = some m := by
    rw [List.length_map, List.length_map, List.length_range]
    unfold seqIndex?
    have h1 : (-1 : Int) + ((m + 1 : Nat) : Int) = (m : Int) := by omega
    simp only [show (-1 : Int) < 0 by decide, if_true, h1]
    rw [if_pos (by simp; omega)]
    simp
  rw [e, Option.bind_some, List.getElem?_map, List.getElem?_map, List.getElem?_range (by omega)]
  rfl
theorem run_drop (x : Nat → Nat) (a n : Nat) : ((List.range n).map x).drop a = (List.range' a (n - a)).map x := by
  rw [← List.map_drop, List.range_eq_range', List.drop_range']
  simp
theorem run_count (x : Nat → Nat) (b k p : Nat) : ((List.range' b k).map x).count p = Wc x b k p := by
  induction k with
  | zero => rfl
  | succ k ih =>
    rw [List.range'_1_concat, List.map_append, List.count_append, ih]
    show _ + [x (b + k)].count p = Wc x b k p + if (x (b + k) == p) = true then 1 else 0
    rw [List.count_singleton]

noncomputable def dotL (g x : Nat → Nat) (t : Nat) : List Nat := [g 0 + Wc x 0 t 0, g 1 + Wc x 0 t 1, g 2 + Wc x 0 t 2, g 3 + Wc x 0 t 3]
theorem dot_step (g x : Nat → Nat) (t : Nat) : [inc (x t) 0 (g 0 + Wc x 0 t 0), inc (x t) 1 (g 1 + Wc x 0 t 1), inc (x t) 2 (g 2 + Wc x 0 t 2), inc (x t) 3 (g 3 + Wc x 0 t 3)] = dotL g x (t + 1) := by
  have h : ∀ p, inc (x t) p (g p + Wc x 0 t p) = g p + Wc x 0 (t + 1) p := by
    intro p
    have e2 : Wc x 0 (t + 1) p = Wc x 0 t p + if (x (0 + t) == p) = true then 1 else 0 := rfl
    rw [e2, Nat.zero_add]
    unfold inc
    by_cases e : p = x t
    · subst e; simp; omega
    · have : (x t == p) = false := by simpa using fun h => e h.symm
      rw [if_neg e, this]; simp
  rw [h, h, h, h]; rfl
theorem four_item (g : Nat → Nat) {p : Nat} (hp : p < 4) : itemD (nI [g 0, g 1, g 2, g 3]) (dN p) = some (dN (g p)) := by
  rw [nI_item hp (by simp)]
  have hc := lt4 (p := p) hp
  rcases hc with e | e | e | e <;> subst e <;> rfl
noncomputable def colD (r : Nat) : D := nI [wx r, wy r]
theorem col_item (t : Nat) : itemD (.lst [nI [9, 7], nI [11, 6], nI [10, 8]]) (.int ((t : Int).fmod 3)) = some (nI [wx (t % 3), wy (t % 3)]) := by
  rw [Int.fmod_eq_emod_of_nonneg _ (by decide)]
  have e : (t : Int) % 3 = ((t % 3 : Nat) : Int) := by omega
  rw [e]
  have hr := mod3 t
  rcases hr with e | e | e <;> rw [e] <;> rfl

theorem add_N (a b : Nat) : binD .Add (dN a) (dN b) = some (dN (a + b)) := by
  show some (D.int _) = some (D.int _)
  congr 2
theorem mul_N {a : Nat} (b : Nat) (h : a < 2 ^ 60) : binD .Mult (dN a) (dN b) = some (dN (a * b)) := by
  show (if smallI (a : Int) = true then some (D.int _) else none) = _
  rw [if_pos (by unfold smallI; simp; omega)]
  congr 2

/-- law's variables ahead of step t: m rounds whole -/
noncomputable def sL (sd : D) (fg : List Nat) (F s : Nat) (ways : List (List Nat)) (g sh x b : Nat → Nat) (R : Nat → List (Nat × Nat)) (td tw m : Nat) (tl : Sg) : Sg :=
  [(S "script", sd), (S "figures", nI fg), (S "ways", wD ways), (S "first", nI [g 0, g 1, g 2, g 3]), (S "start", dN s), (S "shifts", nI [sh 0, sh 1, sh 2, sh 3]), (S "farthest", dN F), (S "dots", nI (dotL g x td)),
   (S "walk", nI ((List.range (tw + 1)).map x)), (S "begins", nI ((List.range (m + 1)).map b)), (S "rounds", rD ((List.range m).map R))] ++ tl
noncomputable def toldL (ways : List (List Nat)) (g x : Nat → Nat) (t : Nat) : List Nat := [(g (x t) + Wc x 0 (t + 1) (x t)) % (nbW ways (x t)).length, wx (t % 3), wy (t % 3)]
noncomputable def tlL (ways : List (List Nat)) (g x : Nat → Nat) (t : Nat) : Sg := if t = 0 then [] else [(S "t", dN (t - 1)), (S "here", dN (x (t - 1))), (S "told", nI (toldL ways g x (t - 1)))]
end Mine
end

section
open PySem PySem.W PyProof.Rows
set_option Elab.async false
namespace Mine
set_option maxRecDepth 100000
set_option maxHeartbeats 4000000
set_option linter.unusedVariables false

noncomputable def forB : List Stmt → List Stmt
  | [] => []
  | .For _ _ b _ _ :: _ => b
  | _ :: r => forB r

theorem body_val {sd : D} {fg : List Nat} {F s : Nat} {ways : List (List Nat)} {g sh x b m : Nat → Nat} {R : Nat → List (Nat × Nat)} (G : Gr (nbW ways)) (X : Wk (nbW ways) g s x) (hw4 : ways.length = 4)
    (hg : ∀ p, 1 ≤ g p ∧ g p ≤ 4) (hsh : ∀ p, sh p % 2 = 1 ∧ sh p < 16) (t : Nat) (ht : t ≤ 60) (hlv : Wc x 0 (t + 1) (x t) ≤ 5 * (nbW ways (x t)).length)
    (hb1 : b (m t) ≤ t) (hm60 : m t ≤ 60) (hfin : t + 1 = b (m t + 1) ↔ fin (nbW ways) x s (b (m t)) (t + 1 - b (m t))) (hstep : m (t + 1) = if t + 1 = b (m t + 1) then m t + 1 else m t)
    (hR : t + 1 = b (m t + 1) → R (m t) = rndL x (b (m t)) (t + 1 - b (m t))) :
    exs G4 48 fd_law.1.scope.names (cellN fd_law.1.scope) [S "walk", S "begins", S "rounds"] (setS (sL sd fg F s ways g sh x b R t t (m t) (tlL ways g x t)) (S "t") (dN t)) (forB (bodyS fd_law.1)) =
      some (if m (t + 1) = F + 2 then .brk else .next, sL sd fg F s ways g sh x b R (t + 1) (t + 1) (m (t + 1)) (tlL ways g x (t + 1))) := by
  have h4 : x t < 4 := X.in4 G t
  have hs4 : s < 4 := X.st
  have hc1 : 1 ≤ (nbW ways (x t)).length := G.pos _ h4
  have hc3 : (nbW ways (x t)).length ≤ 3 := deg3 G _
  have hle : ∀ p, Wc x 0 t p ≤ t := fun p => cntN_le t
  have hsent : mkF G2 fd_sent.1 [] [nI (dotL g x t), dN (x t), dN t] = some (nI (dotL g x (t + 1))) := by
    have h := sent_val (a := g 0 + Wc x 0 t 0) (b := g 1 + Wc x 0 t 1) (c := g 2 + Wc x 0 t 2) (e := g 3 + Wc x 0 t 3) (here := x t) (t := t) ⟨by have := hg 0; omega, by have := hg 0; have := hle 0; omega⟩ ⟨by have := hg 1; omega, by have := hg 1; have := hle 1; omega⟩ ⟨by have := hg 2; omega, by have := hg 2; have := hle 2; omega⟩ ⟨by have := hg 3; omega, by have := hg 3; have := hle 3; omega⟩ (by omega)
    rw [dot_step] at h
    exact h
  have hway : mkF G3 fd_way.1 [] [dN (g (x t) + Wc x 0 (t + 1) (x t)), dN (sh (x t)), dN (nbW ways (x t)).length, dN t] = some (nI (toldL ways g x t)) :=
    way_val (by have := (hg (x t)).1; omega) (by have := (hg (x t)).2; omega) (hsh _).1 (hsh _).2 hc1 hc3
  have hdoti : itemD (nI (dotL g x (t + 1))) (dN (x t)) = some (dN (g (x t) + Wc x 0 (t + 1) (x t))) := four_item (fun p => g p + Wc x 0 (t + 1) p) h4
  have hshi : itemD (nI [sh 0, sh 1, sh 2, sh 3]) (dN (x t)) = some (dN (sh (x t))) := four_item sh h4
  have hwi : itemD (wD ways) (dN (x t)) = some (nI (nbW ways (x t))) := wD_item (by omega) (by omega)
  have hws : itemD (wD ways) (dN s) = some (nI (nbW ways s)) := wD_item (by omega) (by omega)
  have hlenN : ∀ l : List Nat, l.length ≤ 200 → biD "len" [nI l] = some (dN l.length) := by
    intro l h
    unfold nI
    rw [len_lst _ (by rw [List.length_map]; omega), List.length_map]
  have hwl : biD "len" [nI (nbW ways (x t))] = some (dN (nbW ways (x t)).length) := hlenN _ (by omega)
  have hsl : biD "len" [nI (nbW ways s)] = some (dN (nbW ways s).length) := hlenN _ (by have := deg3 G s; omega)
  have hWs : Wc x 0 (t + 1) (x t) = Wc x 0 t (x t) + 1 := by
    have e2 : Wc x 0 (t + 1) (x t) = Wc x 0 t (x t) + if (x (0 + t) == x t) = true then 1 else 0 := rfl
    rw [e2, Nat.zero_add]; simp
  have hnext : itemD (nI (nbW ways (x t))) (dN ((g (x t) + Wc x 0 (t + 1) (x t)) % (nbW ways (x t)).length)) = some (dN (x (t + 1))) := by
    rw [nI_item (Nat.mod_lt _ hc1) (by omega), X.step t, hWs]; rfl
  have hslice : sliceD (nI (toldL ways g x t)) (some 1) none none = some (nI [wx (t % 3), wy (t % 3)]) := by
    unfold nI
    rw [slice_lst (by unfold toldL; simp) (by decide), pickD_map, pickD_run]
    rfl
  have hwalk : D.lst (((List.range (t + 1)).map x).map dN ++ [dN (x (t + 1))]) = nI ((List.range (t + 1 + 1)).map x) := by
    unfold nI
    rw [List.range_succ (n := t + 1), List.map_append, List.map_append]; rfl
  have hcut : sliceD (nI ((List.range (t + 1 + 1)).map x)) (some (b (m t) : Int)) (some ((t + 1 : Nat) : Int)) none = some (nI ((List.range' (b (m t)) (t + 1 - b (m t))).map x)) := by
    unfold nI
    rw [slice_lst (by rw [List.length_map, List.length_map, List.length_range]; omega) (by decide), pickD_map, pickD_nat _ (by rw [List.length_map, List.length_range]; omega) (by omega), run_drop]
    congr 3
    rw [← List.map_take, List.take_range'_of_length_ge (by omega)]
  have hcount : methD (S "count") (nI ((List.range' (b (m t)) (t + 1 - b (m t))).map x)) [dN s] = some (dN (Wc x (b (m t)) (t + 1 - b (m t)) s)) := by
    rw [count_nat, run_count]
  have hround : D.lst (((List.range (m t)).map R).map pI ++ [pI (R (m t))]) = rD ((List.range (m t + 1)).map R) := by
    unfold rD
    rw [List.range_succ (n := m t), List.map_append, List.map_append]; rfl
  have hbeg : t + 1 = b (m t + 1) → D.lst (((List.range (m t + 1)).map b).map dN ++ [dN (t + 1)]) = nI ((List.range (m t + 1 + 1)).map b) := by
    intro e
    unfold nI
    rw [List.range_succ (n := m t + 1), List.map_append, List.map_append, e]; rfl
  have hrl : biD "len" [rD ((List.range (m (t + 1))).map R)] = some (dN (m (t + 1))) := by
    unfold rD
    have : m (t + 1) ≤ 61 := by rw [hstep]; split <;> omega
    rw [len_lst _ (by rw [List.length_map, List.length_map, List.length_range]; omega), List.length_map, List.length_map, List.length_range]
  have hitm : itemsD (.rng ((b (m t) : Nat) : Int) ((t + 1 : Nat) : Int)) = some ((List.range' (b (m t)) (t + 1 - b (m t))).map dN) := items_rng (by omega) (by omega)
  have hfin' : fin (nbW ways) x s (b (m t)) (t + 1 - b (m t)) ↔ (decide (x (t + 1) = s) && decide (Wc x (b (m t)) (t + 1 - b (m t)) s = (nbW ways s).length)) = true := by
    unfold fin
    rw [show b (m t) + (t + 1 - b (m t)) = t + 1 by omega, Bool.and_eq_true, decide_eq_true_eq, decide_eq_true_eq]
  have rest : exs G4 44 fd_law.1.scope.names (cellN fd_law.1.scope) [S "walk", S "begins", S "rounds"] (sL sd fg F s ways g sh x b R (t + 1) t (m t) (tlL ways g x (t + 1))) ((forB (bodyS fd_law.1)).drop 4) =
      some (if m (t + 1) = F + 2 then .brk else .next, sL sd fg F s ways g sh x b R (t + 1) (t + 1) (m (t + 1)) (tlL ways g x (t + 1))) := by
    refine (exs_next (ex_iff ?_ exs_end)).trans ?_
    · refine tr_cmp (a := nI [wx (t % 3), wy (t % 3)]) (b := nI [wx (t % 3), wy (t % 3)]) (by rfl) ?_ ?_ (by rw [cmp_neI, decide_eq_true rfl]; rfl)
      · exact fw_slice (a := nI (toldL ways g x t)) (x := some 1) (y := none) (z := none) (by rfl) (by rfl) (by rfl) (by rfl) hslice
      · exact fw_item (a := .lst [nI [9, 7], nI [11, 6], nI [10, 8]]) (by rfl) (by rfl) (by rfl) (col_item t)
    refine (exs_next (σ' := sL sd fg F s ways g sh x b R (t + 1) (t + 1) (m t) (tlL ways g x (t + 1))) ((ex_app (d := dN (x (t + 1))) (l := ((List.range (t + 1)).map x).map dN) ⟨by rfl, by rfl⟩ (by rfl) ?_ ?_).trans ?_)).trans ?_
    · refine ev_item (a := nI (nbW ways (x t))) (b := dN ((g (x t) + Wc x 0 (t + 1) (x t)) % (nbW ways (x t)).length)) (by rfl) ?_ (by rfl) hnext
      exact fw_item (a := wD ways) (b := dN (x t)) (by rfl) (by rfl) (by rfl) hwi
    · rw [List.length_map, List.length_map, List.length_range]; omega
    · rw [hwalk]; rfl
    refine (exs_next (σ' := sL sd fg F s ways g sh x b R (t + 1) (t + 1) (m (t + 1)) (tlL ways g x (t + 1))) ?_).trans ?_
    · by_cases e : t + 1 = b (m t + 1)
      · have hm1 : m (t + 1) = m t + 1 := by rw [hstep, if_pos e]
        rw [hm1]
        refine ex_ift (?tr) ?_
        case tr =>
          refine (tr_and2 (u := decide (x (t + 1) = s)) (v := decide (Wc x (b (m t)) (t + 1 - b (m t)) s = (nbW ways s).length)) ?_ fun _ => ?_).trans (congrArg some (hfin'.mp (hfin.mp e)))
          · exact tr_cmp (a := dN (x (t + 1))) (b := dN s) (by rfl) (fw_item (a := nI ((List.range (t + 1 + 1)).map x)) (b := dN (t + 1)) (by rfl) (by rfl) (ev_bin (a := dN t) (b := dN 1) (by rfl) (by rfl) (add_N _ _)) (nI_run (by omega) (by omega))) (by rfl) (cmp_eqN _ _)
          · refine tr_cmp (a := dN (Wc x (b (m t)) (t + 1 - b (m t)) s)) (b := dN (nbW ways s).length) (by rfl) ?_ ?_ (cmp_eqN _ _)
            · refine fw_methS (b := nI ((List.range' (b (m t)) (t + 1 - b (m t))).map x)) (a := dN s) (by rfl) ?_ (by rfl) hcount
              refine ev_slice (a := nI ((List.range (t + 1 + 1)).map x)) (x := some (b (m t) : Int)) (y := some ((t + 1 : Nat) : Int)) (z := none) (by rfl) (optD_some ?_) (optD_some ?_) (by rfl) hcut
              · exact ev_item (a := nI ((List.range (m t + 1)).map b)) (b := .int (-1)) (by rfl) (by rfl) (by rfl) (nI_last (by omega))
              · exact ev_bin (a := dN t) (b := dN 1) (by rfl) (by rfl) (add_N _ _)
            · refine fw_bi (id := "len") (ds := [nI (nbW ways s)]) (by rfl) (by rfl) (by rfl) (allD1 ?_) hsl
              exact fw_item (a := wD ways) (b := dN s) (by rfl) (by rfl) (by rfl) hws
        refine (exs_next (σ' := setS (sL sd fg F s ways g sh x b R (t + 1) (t + 1) (m t) (tlL ways g x (t + 1))) (S "rounds") (rD ((List.range (m t + 1)).map R))) ((ex_app (d := pI (R (m t))) (l := ((List.range (m t)).map R).map pI) ⟨by rfl, by rfl⟩ (by rfl) ?_ ?_).trans ?_)).trans ?_
        · rw [hR e]
          refine ev_comp (src := .rng ((b (m t) : Nat) : Int) ((t + 1 : Nat) : Int)) ⟨by decide +kernel, by rfl, by rfl, by rfl, by decide⟩ ?_ hitm ?_
          · refine ev_ty (T := "range") (ds := [dN (b (m t)), dN (t + 1)]) (by rfl) (by rfl) (by rfl) (allD2 ?_ ?_) rfl
            · exact fw_item (a := nI ((List.range (m t + 1)).map b)) (b := .int (-1)) (by rfl) (by rfl) (by rfl) (nI_last (by omega))
            · exact fw_bin (a := dN t) (b := dN 1) (by rfl) (by rfl) (add_N _ _)
          · refine (compD_map (t := fun _ => true) (e := fun i => pD (x i, x (i + 1))) (List.range' (b (m t)) (t + 1 - b (m t))) (fun i hi => by rfl) (fun i hi _ => ?_)).trans ?_
            · have hi' := List.mem_range'_1.mp hi
              refine ev_tup2 (a := dN (x i)) (b := dN (x (i + 1))) ?_ ?_
              · exact ev_item (a := nI ((List.range (t + 1 + 1)).map x)) (b := dN i) (by rfl) (by rfl) (by rfl) (nI_run (by omega) (by omega))
              · exact ev_item (a := nI ((List.range (t + 1 + 1)).map x)) (b := dN (i + 1)) (by rfl) (by rfl) (ev_bin (a := dN i) (b := dN 1) (by rfl) (by rfl) (add_N _ _)) (nI_run (by omega) (by omega))
            · rw [List.filter_eq_self.mpr fun _ _ => rfl]
              unfold rndL
              rw [List.map_map]; rfl
        · rw [List.length_map, List.length_map, List.length_range]; omega
        · rw [hround]
        refine (exs_next (σ' := sL sd fg F s ways g sh x b R (t + 1) (t + 1) (m t + 1) (tlL ways g x (t + 1))) ((ex_app (d := dN (t + 1)) (l := ((List.range (m t + 1)).map b).map dN) ⟨by rfl, by rfl⟩ (by rfl) ?_ ?_).trans ?_)).trans exs_end
        · exact ev_bin (a := dN t) (b := dN 1) (by rfl) (by rfl) (add_N _ _)
        · rw [List.length_map, List.length_map, List.length_range]; omega
        · rw [hbeg e]; rfl
      · have hm1 : m (t + 1) = m t := by rw [hstep, if_neg e]
        rw [hm1]
        have hnf : (decide (x (t + 1) = s) && decide (Wc x (b (m t)) (t + 1 - b (m t)) s = (nbW ways s).length)) = false := by
          rw [← Bool.not_eq_true]
          exact fun h => e (hfin.mpr (hfin'.mpr h))
        refine ex_iff (?tr) exs_end
        case tr =>
          refine (tr_and2 (u := decide (x (t + 1) = s)) (v := decide (Wc x (b (m t)) (t + 1 - b (m t)) s = (nbW ways s).length)) ?_ fun _ => ?_).trans (congrArg some hnf)
          · exact tr_cmp (a := dN (x (t + 1))) (b := dN s) (by rfl) (fw_item (a := nI ((List.range (t + 1 + 1)).map x)) (b := dN (t + 1)) (by rfl) (by rfl) (ev_bin (a := dN t) (b := dN 1) (by rfl) (by rfl) (add_N _ _)) (nI_run (by omega) (by omega))) (by rfl) (cmp_eqN _ _)
          · refine tr_cmp (a := dN (Wc x (b (m t)) (t + 1 - b (m t)) s)) (b := dN (nbW ways s).length) (by rfl) ?_ ?_ (cmp_eqN _ _)
            · refine fw_methS (b := nI ((List.range' (b (m t)) (t + 1 - b (m t))).map x)) (a := dN s) (by rfl) ?_ (by rfl) hcount
              refine ev_slice (a := nI ((List.range (t + 1 + 1)).map x)) (x := some (b (m t) : Int)) (y := some ((t + 1 : Nat) : Int)) (z := none) (by rfl) (optD_some ?_) (optD_some ?_) (by rfl) hcut
              · exact ev_item (a := nI ((List.range (m t + 1)).map b)) (b := .int (-1)) (by rfl) (by rfl) (by rfl) (nI_last (by omega))
              · exact ev_bin (a := dN t) (b := dN 1) (by rfl) (by rfl) (add_N _ _)
            · refine fw_bi (id := "len") (ds := [nI (nbW ways s)]) (by rfl) (by rfl) (by rfl) (allD1 ?_) hsl
              exact fw_item (a := wD ways) (b := dN s) (by rfl) (by rfl) (by rfl) hws
    have hlast : ∀ c, c = decide (m (t + 1) = F + 2) → cmpD .Eq (dN (m (t + 1))) (dN (F + 2)) = some c := fun c hc => by rw [hc]; exact cmp_eqN _ _
    by_cases hE : m (t + 1) = F + 2
    · rw [if_pos hE]
      refine exs_brk (ex_ift (tr_cmp (a := dN (m (t + 1))) (b := dN (F + 2)) (by rfl) ?_ ?_ (hlast true (by rw [decide_eq_true hE]))) (exs_brk ex_brk))
      · exact fw_bi (id := "len") (ds := [rD ((List.range (m (t + 1))).map R)]) (by rfl) (by rfl) (by rfl) (allD1 (by rfl)) hrl
      · exact fw_bin (a := dN F) (b := dN 2) (by rfl) (by rfl) (add_N _ _)
    · rw [if_neg hE]
      refine (exs_next (ex_iff (tr_cmp (a := dN (m (t + 1))) (b := dN (F + 2)) (by rfl) ?_ ?_ (hlast false (by rw [decide_eq_false hE]))) exs_end)).trans exs_end
      · exact fw_bi (id := "len") (ds := [rD ((List.range (m (t + 1))).map R)]) (by rfl) (by rfl) (by rfl) (allD1 (by rfl)) hrl
      · exact fw_bin (a := dN F) (b := dN 2) (by rfl) (by rfl) (add_N _ _)
  rcases t with _ | t
  · refine (exs_next (ex_asg (d := dN (x 0)) ⟨by rfl, fun h => absurd h (by decide +kernel)⟩ ?_)).trans ?_
    · exact ev_item (a := nI ((List.range (0 + 1)).map x)) (b := dN 0) (by rfl) (by rfl) (by rfl) (nI_run (by omega) (by omega))
    refine (exs_next (ex_asg (d := nI (dotL g x (0 + 1))) ⟨by rfl, fun h => absurd h (by decide +kernel)⟩ ?_)).trans ?_
    · exact ev_fn (fa := 105) (ds := [nI (dotL g x 0), dN (x 0), dN 0]) (by rfl) (by rfl) (by rfl) (.inl (by rfl)) (by rfl) hsent
    refine (exs_next (ex_iff ?_ exs_end)).trans ?_
    · exact tr_cmp (a := nI (dotL g x (0 + 1))) (b := nI []) (by rfl) (by rfl) (by rfl) (by rw [cmp_eqI]; rfl)
    refine (exs_next (ex_asg (d := nI (toldL ways g x 0)) ⟨by rfl, fun h => absurd h (by decide +kernel)⟩ ?_)).trans ?_
    · refine ev_fn (fa := 112) (ds := [dN (g (x 0) + Wc x 0 (0 + 1) (x 0)), dN (sh (x 0)), dN (nbW ways (x 0)).length, dN 0]) (by rfl) (by rfl) (by rfl) (.inl (by rfl)) (allD4 ?_ ?_ ?_ (by rfl)) hway
      · exact fw_item (a := nI (dotL g x (0 + 1))) (b := dN (x 0)) (by rfl) (by rfl) (by rfl) hdoti
      · exact fw_item (a := nI [sh 0, sh 1, sh 2, sh 3]) (b := dN (x 0)) (by rfl) (by rfl) (by rfl) hshi
      · refine fw_bi (id := "len") (ds := [nI (nbW ways (x 0))]) (by rfl) (by rfl) (by rfl) (allD1 ?_) hwl
        exact fw_item (a := wD ways) (b := dN (x 0)) (by rfl) (by rfl) (by rfl) hwi
    exact rest
  · refine (exs_next (ex_asg (d := dN (x (t + 1))) ⟨by rfl, fun h => absurd h (by decide +kernel)⟩ ?_)).trans ?_
    · exact ev_item (a := nI ((List.range ((t + 1) + 1)).map x)) (b := dN (t + 1)) (by rfl) (by rfl) (by rfl) (nI_run (by omega) (by omega))
    refine (exs_next (ex_asg (d := nI (dotL g x ((t + 1) + 1))) ⟨by rfl, fun h => absurd h (by decide +kernel)⟩ ?_)).trans ?_
    · exact ev_fn (fa := 105) (ds := [nI (dotL g x (t + 1)), dN (x (t + 1)), dN (t + 1)]) (by rfl) (by rfl) (by rfl) (.inl (by rfl)) (by rfl) hsent
    refine (exs_next (ex_iff ?_ exs_end)).trans ?_
    · exact tr_cmp (a := nI (dotL g x ((t + 1) + 1))) (b := nI []) (by rfl) (by rfl) (by rfl) (by rw [cmp_eqI]; rfl)
    refine (exs_next (ex_asg (d := nI (toldL ways g x (t + 1))) ⟨by rfl, fun h => absurd h (by decide +kernel)⟩ ?_)).trans ?_
    · refine ev_fn (fa := 112) (ds := [dN (g (x (t + 1)) + Wc x 0 ((t + 1) + 1) (x (t + 1))), dN (sh (x (t + 1))), dN (nbW ways (x (t + 1))).length, dN (t + 1)]) (by rfl) (by rfl) (by rfl) (.inl (by rfl)) (allD4 ?_ ?_ ?_ (by rfl)) hway
      · exact fw_item (a := nI (dotL g x ((t + 1) + 1))) (b := dN (x (t + 1))) (by rfl) (by rfl) (by rfl) hdoti
      · exact fw_item (a := nI [sh 0, sh 1, sh 2, sh 3]) (b := dN (x (t + 1))) (by rfl) (by rfl) (by rfl) hshi
      · refine fw_bi (id := "len") (ds := [nI (nbW ways (x (t + 1)))]) (by rfl) (by rfl) (by rfl) (allD1 ?_) hwl
        exact fw_item (a := wD ways) (b := dN (x (t + 1))) (by rfl) (by rfl) (by rfl) hwi
    exact rest
end Mine
end

section
open PySem PySem.W PyProof.Rows
set_option Elab.async false
namespace Mine
set_option maxRecDepth 100000
set_option maxHeartbeats 4000000
set_option linter.unusedVariables false

theorem forD_brk' {x : Str} {body : Sg → Option (Fl × Sg)} {g : Nat → D} (σs : Nat → Sg) {T n : Nat} (hT : T < n) (hb : ∀ j, j ≤ T → body (setS (σs j) x (g j)) = some (if j = T then .brk else .next, σs (j + 1))) : forD x body ((List.range' 0 n).map g) (σs 0) = some (.next, σs (T + 1)) := by
  refine forD_brk σs (T := T) n 0 (Nat.zero_le _) (by omega) (fun j _ h => ?_) ?_
  · rw [hb j (by omega), if_neg (by omega)]
  · rw [hb T (Nat.le_refl _), if_pos rfl]
theorem ways_len (f0 f1 f2 : Nat) : (waysL f0 f1 f2).length = 4 := by
  unfold waysL; simp
theorem ways_sum (f0 f1 f2 : Nat) : ((waysL f0 f1 f2).map List.length).sum = dsum (nbW (waysL f0 f1 f2)) := by
  unfold dsum
  rw [nbW_ways (by omega), nbW_ways (by omega), nbW_ways (by omega), nbW_ways (by omega)]
  unfold waysL
  rw [show List.range 4 = [0, 1, 2, 3] from rfl]
  simp only [List.map_cons, List.map_nil, List.sum_cons, List.sum_nil]
  omega
noncomputable def gF (f3 p : Nat) : Nat := 1 + f3 / 4 ^ p % 4
noncomputable def shF (f4 p : Nat) : Nat := 1 + 2 * (f4 / (p + 1) % 8)

theorem law_val {ns : List Int} (hlen : ns.length ≤ 63) : lawF [.lst (ns.map D.int)] = some (.bool true) := by
  have hfig : ∃ f0 f1 f2 f3 f4 : Nat, f0 = figN ns 0 8 ∧ f1 = figN ns 1 4 ∧ f2 = figN ns 2 4 ∧ f3 = figN ns 3 23 ∧ f4 = figN ns 4 43 := ⟨_, _, _, _, _, rfl, rfl, rfl, rfl, rfl⟩
  obtain ⟨f0, f1, f2, f3, f4, e0, e1, e2, e3, e4⟩ := hfig
  have l0 : f0 < 4096 := by rw [e0]; exact figN_lt _ _ _
  have l1 : f1 < 4096 := by rw [e1]; exact figN_lt _ _ _
  have l2 : f2 < 4096 := by rw [e2]; exact figN_lt _ _ _
  have hs : f4 % 4 < 4 := Nat.mod_lt _ (by decide)
  obtain ⟨F, hF3, hF1, hF2⟩ := mets_end (f0 := f0) (f1 := f1) (f2 := f2) hs
  have G := ways_gr f0 f1 f2
  have X : Wk (nbW (waysL f0 f1 f2)) (gF f3) (f4 % 4) (xW (nbW (waysL f0 f1 f2)) (gF f3) (f4 % 4)) := xW_wk hs
  generalize hx : xW (nbW (waysL f0 f1 f2)) (gF f3) (f4 % 4) = x at X
  generalize hsd : D.lst (ns.map D.int) = sd
  have hw4 := ways_len f0 f1 f2
  have hd4 : ∀ q, (nbW (waysL f0 f1 f2) q).length ≤ 4 := fun q => Nat.le_trans (deg3 G q) (by decide)
  have hws := ways_val (f3 := f3) (f4 := f4) l0 l1 l2
  have hfar := far_val (ways := waysL f0 f1 f2) (s := f4 % 4) hw4 hd4 hF1 hF2 (by omega) (Nat.le_trans (mets_len hs _) (by decide))
  have hsum := ways_sum f0 f1 f2
  have h12 := dsum12 G
  have hb := bW_le G X (F + 2)
  have hb0 : bW (nbW (waysL f0 f1 f2)) x (f4 % 4) 0 = 0 := rfl
  have hbpos : bW (nbW (waysL f0 f1 f2)) x (f4 % 4) (F + 1) < bW (nbW (waysL f0 f1 f2)) x (f4 % 4) (F + 2) := bW_lt G X (F + 1)
  generalize hW : waysL f0 f1 f2 = ways at *
  generalize hS : f4 % 4 = s at *
  have hT : ∃ T, bW (nbW ways) x s (F + 2) = T + 1 := ⟨bW (nbW ways) x s (F + 2) - 1, by omega⟩
  obtain ⟨T, hT⟩ := hT
  show mkF G4 fd_law.1 [S "walk", S "begins", S "rounds"] [sd] = _
  refine fnD_ret (σ' := sL sd [f0, f1, f2, f3, f4] F s ways (gF f3) (shF f4) x (bW (nbW ways) x s) (rW (nbW ways) x s) (T + 1) (T + 1) (F + 2) (tlL ways (gF f3) x (T + 1))) (by rfl) ?_
  refine (exs_next (ex_asg (d := nI [f0, f1, f2, f3, f4]) ⟨by rfl, fun h => absurd h (by decide +kernel)⟩ ?_)).trans ?_
  · refine ev_enum (l := [dN 8, dN 4, dN 4, dN 23, dN 43]) ⟨by decide +kernel, by rfl, by rfl, by rfl, by rfl, by decide +kernel, by rfl⟩ (by rfl) (by rfl) (by decide) ?_
    show compD _ _ ([(0, 8), (1, 4), (2, 4), (3, 23), (4, 43)].map fun p : Nat × Nat => D.tup [dN p.1, dN p.2]) = _
    refine (compD_map (α := Nat × Nat) (g := fun p => D.tup [dN p.1, dN p.2]) (t := fun _ => true) (e := fun p => dN (figN ns p.1 p.2)) [(0, 8), (1, 4), (2, 4), (3, 23), (4, 43)] (fun p hp => by rfl) (fun p hp _ => ?_)).trans ?_
    · show ev G4 _ _ _ _ _ _ = _
      refine ev_bin (a := .int ((p.2 : Int) + (pickD ns (some (p.1 : Int)) none (some 5)).sum)) (b := .int 4096) ?_ (by rfl) (figN_eq _ _ _)
      refine fw_bin (a := dN p.2) (b := .int ((pickD ns (some (p.1 : Int)) none (some 5)).sum)) (by rfl) ?_ rfl
      refine fw_bi (id := "sum") (ds := [.lst ((pickD ns (some (p.1 : Int)) none (some 5)).map D.int)]) (by rfl) (by rfl) (by rfl) (allD1 ?_) (sum_int _)
      refine fw_slice (a := sd) (x := some (p.1 : Int)) (y := none) (z := some 5) (by rfl) (by rfl) (by rfl) (by rfl) ?_
      rw [← hsd, slice_lst (by rw [List.length_map]; exact Nat.le_trans hlen (by decide)) (by decide), pickD_map]
    · rw [e0, e1, e2, e3, e4]; rfl
  refine (exs_next (ex_asg (d := wD ways) ⟨by rfl, fun h => absurd h (by decide +kernel)⟩ ?_)).trans ?_
  · exact ev_fn (fa := 88) (ds := [figD f0 f1 f2 f3 f4]) (by rfl) (by rfl) (by rfl) (.inl (by rfl)) (by rfl) hws
  refine (exs_next (ex_asg (d := nI [gF f3 0, gF f3 1, gF f3 2, gF f3 3]) ⟨by rfl, fun h => absurd h (by decide +kernel)⟩ ?_)).trans ?_
  · refine ev_comp (src := .rng 0 4) (l := (List.range 4).map dN) ⟨by decide +kernel, by rfl, by rfl, by rfl, by decide⟩ (by rfl) (by rfl) ?_
    refine (compD_map (t := fun _ => true) (e := fun p => dN (gF f3 p)) (List.range 4) (fun p hp => by rfl) (fun p hp _ => ?_)).trans (by rfl)
    have hp4 : p < 4 := List.mem_range.mp hp
    have h1 : 0 < 4 ^ p := Nat.pow_pos (by decide)
    have h2 : 4 ^ p ≤ 4 ^ 4 := Nat.pow_le_pow_right (by decide) (by omega)
    refine ev_bin (a := dN 1) (b := dN (f3 / 4 ^ p % 4)) (by rfl) ?_ (add_N _ _)
    refine fw_bin (a := dN (f3 / 4 ^ p)) (b := dN 4) ?_ (by rfl) (mod_N _ _ (by decide))
    refine fw_bin (a := dN f3) (b := dN (4 ^ p)) (by rfl) ?_ (div_N _ _ h1 (by omega))
    exact fw_bin (a := dN 4) (b := dN p) (by rfl) (by rfl) (pow_N _ _ (by decide) (by omega))
  refine (exs_next (ex_asg (d := dN s) ⟨by rfl, fun h => absurd h (by decide +kernel)⟩ ?_)).trans ?_
  · rw [← hS]
    exact ev_bin (a := dN f4) (b := dN 4) (by rfl) (by rfl) (mod_N _ _ (by decide))
  refine (exs_next (ex_asg (d := nI [shF f4 0, shF f4 1, shF f4 2, shF f4 3]) ⟨by rfl, fun h => absurd h (by decide +kernel)⟩ ?_)).trans ?_
  · refine ev_comp (src := .rng 0 4) (l := (List.range 4).map dN) ⟨by decide +kernel, by rfl, by rfl, by rfl, by decide⟩ (by rfl) (by rfl) ?_
    refine (compD_map (t := fun _ => true) (e := fun p => dN (shF f4 p)) (List.range 4) (fun p hp => by rfl) (fun p hp _ => ?_)).trans (by rfl)
    have hp4 : p < 4 := List.mem_range.mp hp
    refine ev_bin (a := dN 1) (b := dN (2 * (f4 / (p + 1) % 8))) (by rfl) ?_ (add_N _ _)
    refine fw_bin (a := dN 2) (b := dN (f4 / (p + 1) % 8)) (by rfl) ?_ (mul_N _ (by decide))
    refine fw_bin (a := dN (f4 / (p + 1))) (b := dN 8) ?_ (by rfl) (mod_N _ _ (by decide))
    refine fw_bin (a := dN f4) (b := dN (p + 1)) (by rfl) ?_ (div_N _ _ (by omega) (by omega))
    exact fw_bin (a := dN p) (b := dN 1) (by rfl) (by rfl) (add_N _ _)
  refine (exs_next (ex_asg (d := dN F) ⟨by rfl, fun h => absurd h (by decide +kernel)⟩ ?_)).trans ?_
  · exact ev_fn (fa := 93) (ds := [wD ways, dN s]) (by rfl) (by rfl) (by rfl) (.inl (by rfl)) (by rfl) hfar
  refine (exs_next (ex_asg (d := nI (dotL (gF f3) x 0)) ⟨by rfl, fun h => absurd h (by decide +kernel)⟩ (by rfl))).trans ?_
  refine (exs_next (ex_asg (d := nI [x 0]) ⟨by rfl, fun _ => ⟨by rfl, by rfl⟩⟩ (by rw [X.zero]; rfl))).trans ?_
  refine (exs_next (ex_asg (d := nI [0]) ⟨by rfl, fun _ => ⟨by rfl, by rfl⟩⟩ (by rfl))).trans ?_
  refine (exs_next (σ' := sL sd [f0, f1, f2, f3, f4] F s ways (gF f3) (shF f4) x (bW (nbW ways) x s) (rW (nbW ways) x s) 0 0 0 []) (ex_asg (d := .lst []) ⟨by rfl, fun _ => ⟨by rfl, by rfl⟩⟩ (by rfl))).trans ?_
  -- the loop
  have hN : T < dsum (nbW ways) * (F + 2) := by rw [Nat.mul_comm]; omega
  have h60 : T + 1 ≤ 60 := by
    have : (F + 2) * dsum (nbW ways) ≤ 5 * 12 := Nat.mul_le_mul (by omega) h12
    omega
  have hmT : mW (nbW ways) x s (T + 1) = F + 2 := by rw [← hT]; exact mW_at G X _
  have hg : ∀ p, 1 ≤ gF f3 p ∧ gF f3 p ≤ 4 := fun p => by unfold gF; omega
  have hsh : ∀ p, shF f4 p % 2 = 1 ∧ shF f4 p < 16 := fun p => by unfold shF; omega
  have hF64 : F + 2 ≤ 64 := Nat.le_trans (Nat.add_le_add_right hF3 2) (by decide)
  have hF0 : 0 < F + 2 := Nat.succ_pos _
  have hF1' : F + 1 < F + 2 := Nat.lt_succ_self _
  refine (exs_next (σ' := sL sd [f0, f1, f2, f3, f4] F s ways (gF f3) (shF f4) x (bW (nbW ways) x s) (rW (nbW ways) x s) (T + 1) (T + 1) (F + 2) (tlL ways (gF f3) x (T + 1))) (ex_forr (lo := 0) (hi := ((dsum (nbW ways) * (F + 2) : Nat) : Int)) (l := (List.range' 0 (dsum (nbW ways) * (F + 2))).map dN) ⟨by rfl, by rfl, by rfl⟩ ?_ ?_ ?_)).trans ?_
  · refine ev_ty (T := "range") (ds := [dN (dsum (nbW ways) * (F + 2))]) (by rfl) (by rfl) (by rfl) (allD1 ?_) rfl
    refine fw_bin (a := dN (dsum (nbW ways))) (b := dN (F + 2)) ?_ (fw_bin (a := dN F) (b := dN 2) (by rfl) (by rfl) (add_N _ _)) (mul_N _ (by omega))
    refine fw_bi (id := "sum") (ds := [nI (ways.map List.length)]) (by rfl) (by rfl) (by rfl) (allD1 ?_) (by rw [sum_nat, hsum])
    refine fw_comp (src := wD ways) (l := ways.map nI) ⟨by decide +kernel, by rfl, by rfl, by rfl, by decide⟩ (by rfl) (items_lst (by rw [List.length_map]; omega)) ?_
    refine (compD_map (t := fun _ => true) (e := fun l => dN l.length) ways (fun l hl => by rfl) (fun l hl _ => ?_)).trans ?_
    · refine ev_bi (id := "len") (ds := [nI l]) (by rfl) (by rfl) (by rfl) (allD1 (by rfl)) ?_
      unfold nI
      rw [len_lst _ ?_, List.length_map]
      rw [List.length_map]
      have : ∃ p, nbW ways p = l := by
        obtain ⟨i, hi, e⟩ := List.getElem_of_mem hl
        exact ⟨i, by unfold nbW; rw [List.getD_eq_getElem?_getD, List.getElem?_eq_getElem hi]; exact e⟩
      obtain ⟨p, e⟩ := this
      rw [← e]
      exact Nat.le_trans (hd4 p) (by decide)
    · rw [List.filter_eq_self.mpr fun _ _ => rfl, List.map_map]; rfl
  · exact items_rng (a := 0) (by have : dsum (nbW ways) * (F + 2) ≤ 12 * 5 := Nat.mul_le_mul h12 (by omega)
                                 omega) (Nat.zero_le _)
  · have key : forD (S "t") (fun τ => exs G4 48 fd_law.1.scope.names (cellN fd_law.1.scope) [S "walk", S "begins", S "rounds"] τ (forB (bodyS fd_law.1))) ((List.range' 0 (dsum (nbW ways) * (F + 2))).map dN) (sL sd [f0, f1, f2, f3, f4] F s ways (gF f3) (shF f4) x (bW (nbW ways) x s) (rW (nbW ways) x s) 0 0 0 []) = some (.next, sL sd [f0, f1, f2, f3, f4] F s ways (gF f3) (shF f4) x (bW (nbW ways) x s) (rW (nbW ways) x s) (T + 1) (T + 1) (mW (nbW ways) x s (T + 1)) (tlL ways (gF f3) x (T + 1))) := by
      refine forD_brk' (fun t => sL sd [f0, f1, f2, f3, f4] F s ways (gF f3) (shF f4) x (bW (nbW ways) x s) (rW (nbW ways) x s) t t (mW (nbW ways) x s t) (tlL ways (gF f3) x t)) hN fun t ht => ?_
      have hm := mW_ok G X t
      have hlt : mW (nbW ways) x s t < F + 2 := mW_lt G X (by omega)
      refine (body_val (m := mW (nbW ways) x s) (b := bW (nbW ways) x s) (R := rW (nbW ways) x s) G X hw4 hg hsh t (by omega) ?_ hm.1 (by omega) (mW_fin G X t) rfl ?_).trans ?_
      · refine Nat.le_trans (leaves_at G X (N := F + 2) (X.in4 G t) (by omega)) (Nat.mul_le_mul_right _ (by omega))
      · intro e
        have e' : bW (nbW ways) x s (mW (nbW ways) x s t + 1) = bW (nbW ways) x s (mW (nbW ways) x s t) + kW (nbW ways) x s (bW (nbW ways) x s (mW (nbW ways) x s t)) := rfl
        unfold rW
        congr 1
        omega
      · have hiff : mW (nbW ways) x s (t + 1) = F + 2 ↔ t = T := by
          constructor
          · intro h
            have := (mW_ok G X (t + 1)).1
            rw [h] at this
            omega
          · intro h; rw [h]; exact hmT
        by_cases h : t = T
        · rw [if_pos h, if_pos (hiff.mpr h)]
        · rw [if_neg h, if_neg fun q => h (hiff.mp q)]
    rw [hmT] at key
    exact key
  -- behind the loop
  have hst : mkF G1 fd_steady.1 [] [rD ((List.range (F + 2)).map (rW (nbW ways) x s)), wD ways, dN F] = some (.bool true) := by
    refine steady_val (rs := rsL (nbW ways) x s (F + 2)) (s := s) hw4 hd4 (by rw [rsL_len]; exact hF64) (by rw [rsL_len]; exact hF0) (fun n hn => rs_two G X hn) (rs_first G X hF0) (fun n hn p q hp hq hm => ?_) (fun n hn hFn => ?_)
    · rw [rsL_len] at hn
      rcases n with _ | n
      · have : p = s := by simpa [aheadL] using hm
        subst this
        exact rs_zero G X hF0 hq
      · exact rs_next G X hn hp hq hm
    · rw [rsL_len] at hn
      have : n = F + 1 := by omega
      subst this
      exact rs_rep G X hF2 hF1'
  refine (exs_next (ex_iff ?_ exs_end)).trans ?_
  · refine tr_or2 (u := false) (v := false) ?_ fun _ => ?_
    · refine tr_cmp (a := dN (F + 2)) (b := dN (F + 2)) (by rfl) ?_ (fw_bin (a := dN F) (b := dN 2) (by rfl) (by rfl) (add_N _ _)) (by rw [cmp_ltN, decide_eq_false (Nat.lt_irrefl _)])
      refine fw_bi (id := "len") (ds := [rD ((List.range (F + 2)).map (rW (nbW ways) x s))]) (by rfl) (by rfl) (by rfl) (allD1 (by rfl)) ?_
      unfold rD
      rw [len_lst _ (by rw [List.length_map, List.length_map, List.length_range]; exact Nat.le_trans hF64 (by decide)), List.length_map, List.length_map, List.length_range]
    · refine tr_not (u := true) (tr_call ?_)
      exact ev_fn (fa := 117) (ds := [rD ((List.range (F + 2)).map (rW (nbW ways) x s)), wD ways, dN F]) (by rfl) (by rfl) (by rfl) (.inr rfl) (by rfl) hst
  refine exs_ret (ex_ret2 (fun _ => rfl) ?_)
  refine ev_cmp (a := nI (dotL (gF f3) x (T + 1))) (b := nI (dotL (gF f3) x (T + 1))) (by rfl) (by rfl) ?_ (by rw [cmp_eqI, decide_eq_true rfl])
  refine fw_comp (src := .rng 0 4) (l := (List.range 4).map dN) ⟨by decide +kernel, by rfl, by rfl, by rfl, by decide⟩ (by rfl) (by rfl) ?_
  refine (compD_map (t := fun _ => true) (e := fun p => dN (gF f3 p + Wc x 0 (T + 1) p)) (List.range 4) (fun p hp => by rfl) (fun p hp _ => ?_)).trans (by rfl)
  have hp4 : p < 4 := List.mem_range.mp hp
  refine ev_bin (a := dN (gF f3 p)) (b := dN (Wc x 0 (T + 1) p)) ?_ ?_ (add_N _ _)
  · exact fw_item (a := nI [gF f3 0, gF f3 1, gF f3 2, gF f3 3]) (b := dN p) (by rfl) (by rfl) (by rfl) (four_item (gF f3) hp4)
  · refine fw_methS (b := nI ((List.range' 0 (T + 1)).map x)) (a := dN p) (by rfl) ?_ (by rfl) (by rw [count_nat, run_count])
    refine ev_slice (a := nI ((List.range (T + 1 + 1)).map x)) (x := none) (y := some (-1)) (z := none) (by rfl) (by rfl) (by rfl) (by rfl) ?_
    unfold nI
    rw [slice_lst (by rw [List.length_map, List.length_map, List.length_range]; omega) (by decide), pickD_map, pickD_init]
    congr 3
    rw [← List.map_take, List.length_map, List.length_range, List.range_eq_range', List.take_range'_of_length_ge (by omega)]
    rfl
end Mine
end

theorem PySem.Challenge.cw_pg0097_01_holds : PySem.Challenge.rw_pg0097_01.Holds := by
  exact Mine.joined fun ns h => Mine.law_val h
