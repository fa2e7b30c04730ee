import PyProof.Rows.All
import Wide.All
import OpenK.AllK
import Wide.FinOn
import PySem.Challenge.RW_sc0025_01
set_option Elab.async false
section
open PySem PySem.W PyProof.Rows
set_option Elab.async false
set_option maxRecDepth 100000
set_option maxHeartbeats 8000000
namespace Mine
open_top hd for PySem.Challenge.rw_sc0025_01
end Mine
end

section
open PySem PySem.W PyProof.Rows
set_option Elab.async false
set_option maxRecDepth 100000
namespace Mine

/-- plain data that a value may stand for -/
inductive D where
  | none | bool (b : Bool) | int (i : Int) | str (s : Str) | list (xs : List D) | ilist (xs : List D) | val (v : Value) | entry (ua rl : List D)

abbrev Get := Addr → Option Obj

mutual
inductive Rep (X : List Addr) (h : Heap) : Value → D → Prop
  | none : Rep X h .none .none
  | bool (b : Bool) : Rep X h (.bool b) (.bool b)
  | int (i : Int) (t : Tok) : Rep X h (.int i t) (.int i)
  | str (s : Str) (t : Tok) : Rep X h (.str s t) (.str s)
  | val (v : Value) : Rep X h v (.val v)
  | list {a : Addr} {items : List Value} {ds : List D} (hx : a ∉ X) (hp : h.IsList a items.toArray) (hr : Reps X h items ds) (hpl : h.PlainList a items.toArray) : Rep X h (.ref a) (.list ds)
  | ilist {a : Addr} {items : List Value} {ds : List D} (hx : a ∉ X) (hp : h.IsList a items.toArray) (hr : Reps X h items ds) : Rep X h (.ref a) (.ilist ds)
  | entry {x dx : Addr} {m : Str → Option Value} {u r : Addr} {us rs : List Value} {ua rl : List D} (hx : x ∉ X) (hdx : dx ∉ X) (hux : u ∉ X) (hrx : r ∉ X)
      (ho : h.get? x = some (instObj 76 dx)) (hd : h.Ns dx m) (l1 : m "useragents" = some (.ref u)) (l2 : m "rulelines" = some (.ref r)) (l3 : m "delay" = some .none) (l4 : m "req_rate" = some .none) (l5 : m "applies_to" = none)
      (hu : h.PlainList u us.toArray) (hr : h.PlainList r rs.toArray) (ru : Reps X h us ua) (rr : Reps X h rs rl) : Rep X h (.ref x) (.entry ua rl)
inductive Reps (X : List Addr) (h : Heap) : List Value → List D → Prop
  | nil : Reps X h [] []
  | cons {v d vs ds} (hv : Rep X h v d) (hs : Reps X h vs ds) : Reps X h (v :: vs) (d :: ds)
end

mutual
theorem Rep.up {X : List Addr} {h h' : Heap} {v : Value} {d : D} (r : Rep X h v d) (k : ∀ b o, b ∉ X → h.get? b = some o → h'.get? b = some o) : Rep X h' v d := by
  cases r with
  | none => exact .none
  | bool b => exact .bool b
  | int i t => exact .int i t
  | str s t => exact .str s t
  | val v => exact .val v
  | list hx hp hr hpl => exact .list hx (hp.at fun o e => k _ o hx e) (hr.up k) (hpl.at fun o e => k _ o hx e)
  | ilist hx hp hr => exact .ilist hx (hp.at fun o e => k _ o hx e) (hr.up k)
  | entry hx hdx hux hrx ho hd l1 l2 l3 l4 l5 hu hr ru rr =>
    exact .entry hx hdx hux hrx (k _ _ hx ho) (hd.at' fun o e => k _ o hdx e) l1 l2 l3 l4 l5 (hu.at fun o e => k _ o hux e) (hr.at fun o e => k _ o hrx e) (ru.up k) (rr.up k)
theorem Reps.up {X : List Addr} {h h' : Heap} {vs : List Value} {ds : List D} (r : Reps X h vs ds) (k : ∀ b o, b ∉ X → h.get? b = some o → h'.get? b = some o) : Reps X h' vs ds := by
  cases r with
  | nil => exact .nil
  | cons hv hs => exact .cons (hv.up k) (hs.up k)
end

/-- what a call's evaluation may change: nothing that stood -/
structure Kp (s s' : Shared) : Prop where
  ex : Keeps s s'
theorem Kp.refl (s : Shared) : Kp s s := ⟨s.heap, s.toks, rfl, fun _ _ e => e⟩
theorem Kp.tr {s s' s'' : Shared} (a : Kp s s') (b : Kp s' s'') : Kp s s'' := by
  obtain ⟨h, t, rfl, k⟩ := a
  obtain ⟨h', t', rfl, k'⟩ := b
  exact ⟨h', t', rfl, fun b o e => k' b o (k b o e)⟩
theorem Kp.get {s s' : Shared} (a : Kp s s') : ∀ b o, s.heap.get? b = some o → s'.heap.get? b = some o := by
  obtain ⟨h, t, rfl, k⟩ := a; exact k
theorem Kp.toks (s : Shared) (t : Nat) : Kp s { s with toks := t } := ⟨s.heap, t, rfl, fun _ _ e => e⟩
theorem Kp.mk' {s : Shared} {h : Heap} {t : Nat} (k : ∀ b o, s.heap.get? b = some o → h.get? b = some o) : Kp s { s with heap := h, toks := t } := ⟨h, t, rfl, k⟩
theorem Rep.keeps {X : List Addr} {s s' : Shared} {v : Value} {d : D} (r : Rep X s.heap v d) (k : Kp s s') : Rep X s'.heap v d := r.up fun b o _ e => k.get b o e
theorem Reps.keeps {X : List Addr} {s s' : Shared} {v : List Value} {d : List D} (r : Reps X s.heap v d) (k : Kp s s') : Reps X s'.heap v d := r.up fun b o _ e => k.get b o e

abbrev Rho := Str → Option (NameKind × D)

structure Room (A : Around) (n : Nat) : Prop where
  handled : A.handled = none
  depth : A.depth + n ≤ 900
  units : A.units + 10 * n ≤ 9000

structure Cx where
  prog : Program
  w : World
  A : Around
  n : Nat
  h₀ : Heap
  X : List Addr
  env : Env
  ρ : Rho

abbrev Cx.M (c : Cx) : Model := model c.prog c.w

def Over (h₀ : Heap) (s : Shared) : Prop := ∀ b o, h₀.get? b = some o → s.heap.get? b = some o
theorem Over.keeps {h₀ : Heap} {s s' : Shared} (x : Over h₀ s) (k : Kp s s') : Over h₀ s' := fun b o e => k.get b o (x b o e)

def GlobalIs (prog : Program) (w : World) (h₀ : Heap) (x : Str) (v : Value) : Prop :=
  ∀ (A : Around) (env : Env) (s : Shared) (Q : Value → Shared → Prop) (E : Value → Shared → Prop), env.globals = mainGlobals → env.builtins = builtinsNs → Over h₀ s → Q v s → wpAny (model prog w) A (loadGlobal env x) Q E s

def Holds (c : Cx) (s : Shared) (x : Str) (k : NameKind) (d : D) : Prop :=
  ∃ v, Rep c.X s.heap v d ∧ c.env.kindOf x = some k ∧
    ((k = .local ∧ ∃ m, s.heap.Ns c.env.locals m ∧ m x = some v) ∨
     (k = .cell ∧ ∃ a, c.env.cells.lookup x = some a ∧ s.heap.IsCell a (some v)) ∨
     (k = .globalImplicit ∧ d = .val v ∧ GlobalIs c.prog c.w c.h₀ x v))

structure Cx.ok (c : Cx) (s : Shared) : Prop where
  over : Over c.h₀ s
  live : ∀ x ∈ c.X, (s.heap.get? x).isSome = true
  kind : c.env.scope.kind = .function
  glob : c.env.globals = mainGlobals
  blt : c.env.builtins = builtinsNs
  room : Room c.A c.n
  names : ∀ x k d, c.ρ x = some (k, d) → Holds c s x k d

theorem Holds.keeps {c : Cx} {s s' : Shared} {x : Str} {k : NameKind} {d : D} (H : Holds c s x k d) (K : Kp s s') : Holds c s' x k d := by
  obtain ⟨v, r, hk, h⟩ := H
  refine ⟨v, r.keeps K, hk, ?_⟩
  rcases h with ⟨e, m, hn, hm⟩ | ⟨e, a, ha, hc⟩ | h
  · exact .inl ⟨e, m, hn.keeps K.get, hm⟩
  · exact .inr (.inl ⟨e, a, ha, hc.keeps K.get⟩)
  · exact .inr (.inr h)
theorem Cx.ok.keeps {c : Cx} {s s' : Shared} (o : c.ok s) (K : Kp s s') : c.ok s' :=
  ⟨o.over.keeps K, fun x hx => by obtain ⟨q, hq⟩ := Option.isSome_iff_exists.mp (o.live x hx); rw [K.get _ _ hq]; rfl, o.kind, o.glob, o.blt, o.room, fun x k d h => (o.names x k d h).keeps K⟩

/-- an expression gives the datum d, and nothing that stood is changed -/
def Gives (c : Cx) (s : Shared) (t : Sem Value) (d : D) : Prop := ∀ E, wpAny c.M c.A t (fun v s' => Rep c.X s'.heap v d ∧ Kp s s') E s
def Ev (c : Cx) (e : Expr) (d : D) : Prop := ∀ s, c.ok s → Gives c s (eval e c.env) d
/-- a test gives the bool b -/
def EvT (c : Cx) (e : Expr) (b : Bool) : Prop := ∀ s, c.ok s → ∀ E, wpAny c.M c.A (isTrue e c.env (eval e c.env)) (fun r s' => r = b ∧ Kp s s') E s

theorem Ev.as {c : Cx} {e : Expr} {d d' : D} (h : Ev c e d) (q : d = d') : Ev c e d' := q ▸ h
theorem EvT.as {c : Cx} {e : Expr} {b b' : Bool} (h : EvT c e b) (q : b = b') : EvT c e b' := q ▸ h

section
variable {c : Cx}

theorem Ev.name {x : Str} {pos : Pos} {k : NameKind} {d : D} (hx : c.ρ x = some (k, d)) (hd : (x == ("__debug__" : Str)) = false := by decide +kernel) : Ev c (.Name x pos) d := fun s o E => by
  obtain ⟨v, r, hk, h⟩ := o.names x k d hx
  rcases h with ⟨rfl, m, hn, hm⟩ | ⟨rfl, a, ha, hc⟩ | ⟨rfl, rfl, g⟩
  · exact wpAny_Name (wpAny_loadName_local o.kind hk hn hm ⟨r, .refl s⟩) hd
  · exact wpAny_Name (wpAny_loadName_cell o.kind hk ha hc ⟨r, .refl s⟩) hd
  · exact Calls.Name_function_global o.kind hk (g _ _ _ _ _ o.glob o.blt o.over ⟨r, .refl s⟩) hd

theorem Ev.cint {i : Int} {k : Nat} {pos : Pos} : Ev c (.Constant (.int i) k pos) (.int i) := fun s _ E => wpAny_Constant_int ⟨.int _ _, .toks s _⟩
theorem Ev.cnone {k : Nat} {pos : Pos} : Ev c (.Constant .none k pos) .none := fun s _ E => fun _ _ _ => ⟨.none, .refl s⟩
theorem Ev.cbool {b : Bool} {k : Nat} {pos : Pos} : Ev c (.Constant (.bool b) k pos) (.bool b) := fun s _ E => fun _ _ _ => ⟨.bool b, .refl s⟩

/-- an operation on two values -/
def Op2 (c : Cx) (f : Value → Value → Sem Value) (d1 d2 d : D) : Prop := ∀ s v1 v2, c.ok s → Rep c.X s.heap v1 d1 → Rep c.X s.heap v2 d2 → Gives c s (f v1 v2) d

theorem Ev.binop {l r : Expr} {op : Operator} {pos : Pos} {d1 d2 d : D} (h1 : Ev c l d1) (h2 : Ev c r d2) (h : Op2 c (binaryOp op) d1 d2 d) : Ev c (.BinOp l op r pos) d := fun s o E =>
  wpAny_BinOp (wpAny_mono (h1 s o E) (fun v1 s1 ⟨r1, k1⟩ => wpAny_mono (h2 s1 (o.keeps k1) E) (fun v2 s2 ⟨r2, k2⟩ =>
    wpAny_mono (h s2 v1 v2 ((o.keeps k1).keeps k2) (r1.keeps k2) r2 E) (fun v s3 ⟨r3, k3⟩ => ⟨r3, (k1.tr k2).tr k3⟩) fun _ _ e => e) fun _ _ e => e) fun _ _ e => e)
theorem Ev.cmp {l r : Expr} {op : CmpOp} {pos : Pos} {d1 d2 d : D} (h1 : Ev c l d1) (h2 : Ev c r d2) (h : Op2 c (compareOp op) d1 d2 d) (hm : behindInMarks op r = false := by rfl) : Ev c (.Compare l [op] [r] pos) d := fun s o E =>
  wpAny_Compare1 (wpAny_mono (h1 s o E) (fun v1 s1 ⟨r1, k1⟩ => wpAny_mono (h2 s1 (o.keeps k1) E) (fun v2 s2 ⟨r2, k2⟩ =>
    wpAny_mono (h s2 v1 v2 ((o.keeps k1).keeps k2) (r1.keeps k2) r2 E) (fun v s3 ⟨r3, k3⟩ => ⟨r3, (k1.tr k2).tr k3⟩) fun _ _ e => e) fun _ _ e => e) fun _ _ e => e) hm
theorem EvT.cmp {l r : Expr} {op : CmpOp} {pos : Pos} {d1 d2 : D} {b : Bool} (h1 : Ev c l d1) (h2 : Ev c r d2) (h : Op2 c (compareOp op) d1 d2 (.bool b)) (hm : behindInMarks op r = false := by rfl) : EvT c (.Compare l [op] [r] pos) b := fun s o E =>
  wpAny_isTrue_Compare1 (wpAny_mono (h1 s o E) (fun v1 s1 ⟨r1, k1⟩ => wpAny_mono (h2 s1 (o.keeps k1) E) (fun v2 s2 ⟨r2, k2⟩ =>
    wpAny_mono (h s2 v1 v2 ((o.keeps k1).keeps k2) (r1.keeps k2) r2 E) (fun v s3 ⟨r3, k3⟩ => by cases r3; exact wpAny_truthy_bool ⟨rfl, (k1.tr k2).tr k3⟩) fun _ _ e => e) fun _ _ e => e) fun _ _ e => e) hm

theorem EvT.not {e : Expr} {pos : Pos} {b : Bool} (h : EvT c e b) : EvT c (.UnaryOp .Not e pos) (!b) := fun s o E => by
  show wpAny _ _ (do return !(← isTrue e c.env (eval e c.env))) _ _ _
  exact wpAny_bind (wpAny_mono (h s o E) (fun r s' ⟨q, k⟩ => wpAny_pure ⟨by rw [q], k⟩) fun _ _ e => e)

theorem EvT.and2 {e1 e2 : Expr} {pos : Pos} {a b : Bool} (h1 : EvT c e1 a) (h2 : a = true → EvT c e2 b) : EvT c (.BoolOp .And [e1, e2] pos) (a && b) := fun s o E => by
  show wpAny _ _ (isTrue e1 c.env (eval e1 c.env) >>= _) _ _ _
  refine wpAny_bind (wpAny_mono (h1 s o E) (fun r s' ⟨q, k⟩ => ?_) fun _ _ e => e)
  subst q
  cases r with
  | false => exact wpAny_pure ⟨by simp, k⟩
  | true =>
    show wpAny _ _ (isTrue e2 c.env (eval e2 c.env) >>= _) _ _ _
    refine wpAny_bind (wpAny_mono (h2 rfl s' (o.keeps k) E) (fun r2 s2 ⟨q2, k2⟩ => ?_) fun _ _ e => e)
    subst q2
    cases r2 with
    | false => exact wpAny_pure ⟨rfl, k.tr k2⟩
    | true => exact wpAny_pure ⟨rfl, k.tr k2⟩
end
end Mine
end

section
open PySem PySem.W PyProof.Rows
set_option Elab.async false
set_option maxRecDepth 100000
set_option linter.unusedVariables false
namespace Mine

abbrev T (l : List Nat) : Str := ⟨l.toArray⟩
abbrev S (l : List Nat) : D := .str (T l)
theorem T_cps (x : Str) : T x.cps.toList = x := by cases x; simp [T]
theorem S_cps (x : Str) : S x.cps.toList = D.str x := by rw [S, T_cps]
theorem T_inj {a b : List Nat} : T a = T b ↔ a = b := by simp [T]
theorem T_len (a : List Nat) : (T a).length = a.length := by simp [T, Str.length]
theorem T_append (a b : List Nat) : T a ++ T b = T (a ++ b) := by
  show Str.append _ _ = _
  simp [T, Str.append]

theorem Reps.strs {X : List Addr} {h : Heap} : ∀ {vs : List Value} {ys : List (List Nat)}, Reps X h vs (ys.map S) → StrsAre vs (ys.map T)
  | _, [], r => by cases r; exact .nil
  | _, y :: ys, r => by
    cases r with
    | cons hv hs => cases hv; exact .cons _ _ hs.strs
theorem Reps.ints {X : List Addr} {h : Heap} : ∀ {vs : List Value} {ys : List Int}, Reps X h vs (ys.map D.int) → IntsAre vs ys
  | _, [], r => by cases r; exact .nil
  | _, y :: ys, r => by
    cases r with
    | cons hv hs => cases hv; exact .cons _ _ hs.ints
theorem Reps.length {X : List Addr} {h : Heap} : ∀ {vs : List Value} {ds : List D}, Reps X h vs ds → vs.length = ds.length
  | _, _, .nil => rfl
  | _, _, .cons hv hs => by simp [hs.length]
theorem Reps.get {X : List Addr} {h : Heap} : ∀ {vs : List Value} {ds : List D} {i : Nat} {d : D}, Reps X h vs ds → ds[i]? = some d → ∃ v, vs[i]? = some v ∧ Rep X h v d
  | _, _, 0, _, .cons hv hs, e => by simp at e; subst e; exact ⟨_, rfl, hv⟩
  | _, _, i + 1, _, .cons hv hs, e => by simpa using hs.get (by simpa using e)
theorem Reps.take {X : List Addr} {h : Heap} : ∀ {vs : List Value} {ds : List D} (n : Nat), Reps X h vs ds → Reps X h (vs.take n) (ds.take n)
  | _, _, 0, _ => by simp; exact .nil
  | _, _, n + 1, .nil => by simp; exact .nil
  | _, _, n + 1, .cons hv hs => by simpa using Reps.cons hv (hs.take n)
theorem Reps.drop {X : List Addr} {h : Heap} : ∀ {vs : List Value} {ds : List D} (n : Nat), Reps X h vs ds → Reps X h (vs.drop n) (ds.drop n)
  | _, _, 0, r => by simpa using r
  | _, _, n + 1, .nil => by simp; exact .nil
  | _, _, n + 1, .cons hv hs => by simpa using hs.drop n
theorem Reps.app {X : List Addr} {h : Heap} : ∀ {vs ws : List Value} {ds es : List D}, Reps X h vs ds → Reps X h ws es → Reps X h (vs ++ ws) (ds ++ es)
  | _, _, _, _, .nil, r => by simpa using r
  | _, _, _, _, .cons hv hs, r => by simpa using Reps.cons hv (hs.app r)

theorem Room.u {A : Around} {n : Nat} (r : Room A n) : A.units < cLine := by have := r.units; have := cLine_is; omega

section
variable {c : Cx}

theorem Op2.addI {a b : Int} : Op2 c (binaryOp .Add) (.int a) (.int b) (.int (a + b)) := fun s v1 v2 o r1 r2 E => by
  cases r1; cases r2; exact PyProof.Rows.add_int ⟨.int _ _, .toks s _⟩
theorem Op2.subI {a b : Int} : Op2 c (binaryOp .Sub) (.int a) (.int b) (.int (a - b)) := fun s v1 v2 o r1 r2 E => by
  cases r1; cases r2; exact PyProof.Rows.sub_int ⟨.int _ _, .toks s _⟩
theorem Op2.mulI {a b : Int} (h : IntMulOk a b) : Op2 c (binaryOp .Mult) (.int a) (.int b) (.int (a * b)) := fun s v1 v2 o r1 r2 E => by
  cases r1; cases r2; exact PyProof.Rows.mul_int ⟨.int _ _, .toks s _⟩ h
theorem Op2.modI {a b : Int} (h : 0 < b) : Op2 c (binaryOp .Mod) (.int a) (.int b) (.int (a % b)) := fun s v1 v2 o r1 r2 E => by
  cases r1; cases r2
  have e : a.fmod b = a % b := Int.fmod_eq_emod_of_nonneg _ (by omega)
  exact PyProof.Rows.mod_int' (by omega) ⟨by rw [e]; exact .int _ _, .toks s _⟩
theorem Op2.divI {a b : Int} (h : 0 < b) (hp : Builtin.divisionGoesByPylong a b = false) : Op2 c (binaryOp .FloorDiv) (.int a) (.int b) (.int (a / b)) := fun s v1 v2 o r1 r2 E => by
  cases r1; cases r2
  have e : a.fdiv b = a / b := Int.fdiv_eq_ediv_of_nonneg _ (by omega)
  exact PyProof.Rows.floordiv_int (by omega) ⟨by rw [e]; exact .int _ _, .toks s _⟩ (.inl hp)
theorem Op2.eqI {a b : Int} : Op2 c (compareOp .Eq) (.int a) (.int b) (.bool (a == b)) := fun s v1 v2 o r1 r2 E => by
  cases r1; cases r2; exact P.eq_int ⟨.bool _, .refl s⟩
theorem Op2.neI {a b : Int} : Op2 c (compareOp .NotEq) (.int a) (.int b) (.bool (a != b)) := fun s v1 v2 o r1 r2 E => by
  cases r1; cases r2; exact P.ne_int ⟨.bool _, .refl s⟩

theorem Op2.addS {a b : List Nat} (h : a.length + b.length ≤ 16777216) : Op2 c (binaryOp .Add) (S a) (S b) (S (a ++ b)) := fun s v1 v2 o r1 r2 E => by
  cases r1; cases r2
  exact PyProof.Rows.add_str (fun t k => ⟨by rw [T_append]; exact .str _ _, .toks s _⟩) (by rw [T_len, T_len, sizeLine_eq]; exact h)
theorem Op2.mulS {a : Nat} {n : Int} (h0 : 0 ≤ n) (h : n ≤ 1000) : Op2 c (binaryOp .Mult) (S [a]) (.int n) (S (List.replicate n.toNat a)) := fun s v1 v2 o r1 r2 E => by
  cases r1; cases r2
  have e : Txt.mul (T [a]) n = T (List.replicate n.toNat a) := by
    unfold Txt.mul
    by_cases h1 : n < 1
    · rw [if_pos h1]
      have : n.toNat = 0 := by omega
      rw [this]; rfl
    · rw [if_neg h1]
      have l1 : (T [a]).length = 1 := rfl
      have key : ∀ k (acc : Array Nat), (List.replicate k #[a]).foldl (· ++ ·) acc = acc ++ (List.replicate k a).toArray := by
        intro k
        induction k with
        | zero => intro acc; simp
        | succ k ih => intro acc; rw [List.replicate_succ, List.foldl_cons, ih, List.replicate_succ]; apply Array.ext'; simp
      by_cases h2 : n = 1
      · subst h2; simp [l1]
      · rw [if_neg (by simp [l1, h2])]
        simp only [T]
        rw [key]; simp
  refine SB.mul ⟨?_, ?_, ?_⟩ (fun t k => ⟨by rw [e]; exact .str _ _, .toks s _⟩)
  · simp only [Bool.or_eq_false_iff, decide_eq_false_iff_not]; omega
  · intro _ _; have : (T [a]).length = 1 := rfl
    rw [this]
    have h2 : (1 : Int) ≤ (2 ^ 63 - 1) / n := by
      rw [Int.le_ediv_iff_mul_le (by omega)]; omega
    omega
  · intro _ _
    have : (T [a]).length = 1 := rfl
    rw [this]
    unfold Builtin.Str.tooLong
    simp only [decide_eq_false_iff_not, sizeLine_eq]; omega

theorem beq_T {a b : List Nat} : (T a == T b) = (a == b) := by
  rw [Bool.eq_iff_iff]; simp [T_inj]
theorem Op2.eqS {a b : List Nat} : Op2 c (compareOp .Eq) (S a) (S b) (.bool (a == b)) := fun s v1 v2 o r1 r2 E => by
  cases r1; cases r2; exact PyProof.Rows.eq_str ⟨by rw [beq_T]; exact .bool _, .refl s⟩
theorem Op2.neS {a b : List Nat} : Op2 c (compareOp .NotEq) (S a) (S b) (.bool (a != b)) := fun s v1 v2 o r1 r2 E => by
  cases r1; cases r2; exact PyProof.Rows.ne_str ⟨by rw [show (T a != T b) = (a != b) from by simp only [bne, beq_T]]; exact .bool _, .refl s⟩

theorem Op2.isNone : Op2 c (compareOp .Is) .none .none (.bool true) := fun s v1 v2 o r1 r2 E => by
  cases r1; cases r2; exact wpAny_is_self rfl ⟨.bool _, .refl s⟩
theorem Op2.isNoneS {x : Str} : Op2 c (compareOp .Is) (.str x) .none (.bool false) := fun s v1 v2 o r1 r2 E => by
  cases r1; cases r2; exact wpAny_is_other rfl (by intro h; cases h) ⟨.bool _, .refl s⟩
theorem Op2.isNotNone : Op2 c (compareOp .IsNot) .none .none (.bool false) := fun s v1 v2 o r1 r2 E => by
  cases r1; cases r2; exact wpAny_isNot_self rfl ⟨.bool _, .refl s⟩
theorem Op2.isNotNoneL {xs : List D} : Op2 c (compareOp .IsNot) (.list xs) .none (.bool true) := fun s v1 v2 o r1 r2 E => by
  cases r1; cases r2; exact wpAny_isNot_other rfl (by intro h; cases h) ⟨.bool _, .refl s⟩

theorem Op2.inLS {a : List Nat} {ys : List (List Nat)} : Op2 c (compareOp .In) (S a) (.list (ys.map S)) (.bool (ys.contains a)) := fun s v1 v2 o r1 r2 E => by
  cases r1; cases r2 with
  | list hx hp hr =>
  refine in_list_strs hp hr.strs ⟨?_, .refl s⟩
  have : (ys.map T).any (· == T a) = ys.contains a := by
    rw [Bool.eq_iff_iff]; simp [T_inj]
  rw [this]; exact .bool _
theorem Op2.inLI {a : Int} {ys : List Int} : Op2 c (compareOp .In) (.int a) (.list (ys.map .int)) (.bool (ys.contains a)) := fun s v1 v2 o r1 r2 E => by
  cases r1; cases r2 with
  | list hx hp hr =>
  refine in_list_ints hp hr.ints ⟨?_, .refl s⟩
  have : ys.any (· == a) = ys.contains a := by
    rw [Bool.eq_iff_iff]; simp
  rw [this]; exact .bool _
end
end Mine
end

section
open PySem PySem.W PyProof.Rows SeqAt
set_option Elab.async false
set_option maxRecDepth 100000
set_option linter.unusedVariables false
namespace Mine

theorem get_none_size (h : Heap) : h.get? h.objs.size = none := by
  cases e : h.get? h.objs.size with
  | none => rfl
  | some o => exact absurd (Heap.lt_size e) (Nat.lt_irrefl _)
theorem Cx.ok.fresh {c : Cx} {s : Shared} (o : c.ok s) {a : Addr} (h : s.heap.get? a = none) : a ∉ c.X := fun hx => by
  have := o.live a hx; rw [h] at this; cases this
theorem Kp.push (s : Shared) (ob : Obj) (t : Nat) : Kp s { s with heap := s.heap.push ob, toks := t } := Kp.mk' fun b o e => Heap.get?_push_of_some _ e
theorem Cx.ok.newList {c : Cx} {s : Shared} (o : c.ok s) {vs : List Value} {ds : List D} (r : Reps c.X s.heap vs ds) :
    Rep c.X (s.heap.push { cls := .type "list", data := .seq vs.toArray }) (.ref s.heap.objs.size) (.list ds) :=
  .list (o.fresh (get_none_size _)) ⟨_, Heap.get?_push_size _ rfl, rfl, 0, rfl⟩ (r.up fun b ob _ e => Heap.get?_push_of_some _ e) ⟨0, Heap.get?_push_size _ rfl⟩

section
variable {c : Cx}

theorem all_eqT : ∀ {vs ws : List Value} {a b : List (List Nat)} {X : List Addr} {h : Heap} {A : Around} {s : Shared}, Reps X h vs (a.map S) → Reps X h ws (b.map S) →
    ∀ j (h1 : j < vs.toArray.size) (h2 : j < ws.toArray.size), EqAt A s vs.toArray[j] ws.toArray[j] (decide (a[j]? = b[j]?)) := by
  intro vs ws a b X h A s ra rb j h1 h2
  have la := ra.strs; have lb := rb.strs
  have e1 : vs.length = a.length := by simpa using ra.length
  have e2 : ws.length = b.length := by simpa using rb.length
  have h1' : j < a.length := by simp at h1; omega
  have h2' : j < b.length := by simp at h2; omega
  obtain ⟨v, hv, rv⟩ := ra.get (i := j) (d := S a[j]) (by simp [h1'])
  obtain ⟨w, hw, rw'⟩ := rb.get (i := j) (d := S b[j]) (by simp [h2'])
  have hv' : vs.toArray[j] = v := by rw [List.getElem?_eq_some_iff] at hv; obtain ⟨_, q⟩ := hv; simpa using q
  have hw' : ws.toArray[j] = w := by rw [List.getElem?_eq_some_iff] at hw; obtain ⟨_, q⟩ := hw; simpa using q
  rw [hv', hw']
  cases rv; cases rw'
  have : decide (a[j]? = b[j]?) = (T a[j] == T b[j]) := by
    rw [beq_T, List.getElem?_eq_getElem h1', List.getElem?_eq_getElem h2', Bool.eq_iff_iff]; simp
  rw [this]
  exact EqAt.str_str _ _ _ _

theorem all_same {a b : List (List Nat)} (h : a.length = b.length) : ((List.range a.length).all fun j => decide (a[j]? = b[j]?)) = (a == b) := by
  rw [Bool.eq_iff_iff]
  simp only [List.all_eq_true, List.mem_range, decide_eq_true_eq, beq_iff_eq]
  constructor
  · intro q
    apply List.ext_getElem?
    intro i
    rcases Nat.lt_or_ge i a.length with hi | hi
    · exact q i hi
    · rw [List.getElem?_eq_none hi, List.getElem?_eq_none (by omega)]
  · rintro rfl _ _; rfl

theorem Op2.eqLS {a b : List (List Nat)} : Op2 c (compareOp .Eq) (.list (a.map S)) (.list (b.map S)) (.bool (a == b)) := fun s v1 v2 o r1 r2 E => by
  cases r1 with
  | list hx hp hr =>
  cases r2 with
  | list hx' hp' hr' =>
  have e1 := hr.length; have e2 := hr'.length
  simp only [List.length_map] at e1 e2
  by_cases hl : a.length = b.length
  · refine eq_listAt hp hp' (by simp; omega) o.room.u (fun j h1 h2 => all_eqT hr hr' j h1 h2) ⟨?_, .refl s⟩
    rw [show (List.range (List.toArray _).size) = List.range a.length from by simp [e1], all_same hl]; exact .bool _
  · refine eq_list_lengthsAt hp hp' (by simp; omega) o.room.u ⟨?_, .refl s⟩
    rw [show (a == b) = false from by simp; intro h; exact hl (by rw [h])]; exact .bool _
theorem Op2.neLS {a b : List (List Nat)} : Op2 c (compareOp .NotEq) (.list (a.map S)) (.list (b.map S)) (.bool (a != b)) := fun s v1 v2 o r1 r2 E => by
  cases r1 with
  | list hx hp hr =>
  cases r2 with
  | list hx' hp' hr' =>
  have e1 := hr.length; have e2 := hr'.length
  simp only [List.length_map] at e1 e2
  by_cases hl : a.length = b.length
  · refine RcNeAt.lists hp hp' (by simp; omega) o.room.u (fun j h1 h2 => all_eqT hr hr' j h1 h2) c.prog c.w E _ ⟨?_, .refl s⟩
    rw [show (List.range (List.toArray _).size) = List.range a.length from by simp [e1], all_same hl, bne]; exact .bool _
  · refine RcNeAt.lists_lengths hp hp' (by simp; omega) o.room.u c.prog c.w E _ ⟨?_, .refl s⟩
    rw [show (a != b) = true from by simp; intro h; exact hl (by rw [h])]; exact .bool _
/-- any list against the empty one -/
theorem Op2.neNil {a : List D} : Op2 c (compareOp .NotEq) (.list a) (.list []) (.bool (!a.isEmpty)) := fun s v1 v2 o r1 r2 E => by
  cases r1 with
  | list hx hp hr =>
  cases r2 with
  | list hx' hp' hr' =>
  cases hr' with
  | nil =>
  cases hr with
  | nil =>
    refine RcNeAt.lists (e := fun _ => true) hp hp' rfl o.room.u (fun j h1 h2 => absurd h1 (by simp)) c.prog c.w E _ ⟨?_, .refl s⟩
    exact .bool _
  | cons hv hs =>
    refine RcNeAt.lists_lengths hp hp' (by simp) o.room.u c.prog c.w E _ ⟨?_, .refl s⟩
    exact .bool _
theorem Op2.eqNil {a : List D} : Op2 c (compareOp .Eq) (.list a) (.list []) (.bool a.isEmpty) := fun s v1 v2 o r1 r2 E => by
  cases r1 with
  | list hx hp hr =>
  cases r2 with
  | list hx' hp' hr' =>
  cases hr' with
  | nil =>
  cases hr with
  | nil =>
    refine eq_listAt (e := fun _ => true) hp hp' rfl o.room.u (fun j h1 h2 => absurd h1 (by simp)) ⟨?_, .refl s⟩
    exact .bool _
  | cons hv hs =>
    refine eq_list_lengthsAt hp hp' (by simp) o.room.u ⟨?_, .refl s⟩
    exact .bool _

theorem Op2.addL {a b : List D} (h : a.length + b.length ≤ 16777216) : Op2 c (binaryOp .Add) (.list a) (.list b) (.list (a ++ b)) := fun s v1 v2 o r1 r2 E => by
  cases r1 with
  | list hx hp hr =>
  cases r2 with
  | list hx' hp' hr' =>
  have e1 := hr.length; have e2 := hr'.length
  rename_i l items b' items2 
  obtain ⟨⟨cls, dd, data, sl⟩, ho, hc, n, hd⟩ := id hp
  obtain ⟨⟨cls2, dd2, data2, sl2⟩, ho2, hc2, n2, hd2⟩ := id hp'
  simp only at hc hd hc2 hd2
  subst hc hd hc2 hd2
  refine concat_meets ⟨_, ho, rfl⟩ ⟨_, ho2, rfl⟩ noFill_list_add seq_list_add PySem.F.slot_list_add PySem.F.entry_list_add (PySem.F.args_list_add_2 _ _) (list_addW _ _ _ _ n n2 dd dd2 sl sl2 (by simp [sizeLine_eq]; omega)) ⟨ho, ho2, ?_⟩
  rw [List.append_toArray]
  exact ⟨o.newList (hr.app hr'), .push s _ _⟩

/-! reading: items, slices, lengths, displays -/
theorem Ev.itemL {value slice : Expr} {pos : Pos} {ds : List D} {i : Int} {d : D} (h1 : Ev c value (.list ds)) (h2 : Ev c slice (.int i)) (h0 : 0 ≤ i) (hi : i < 2 ^ 63) (hd : ds[i.toNat]? = some d)
    (hs : ∀ a t, subscripted slice false (.ref a) (.int i t) = operate [.ref a, .int i t] (getItem (.ref a) (.int i t)) := by intro _ _; rfl) : Ev c (.Subscript value slice pos) d := fun s o E =>
  Subscript_ (wpAny_mono (h1 s o E) (fun v1 s1 ⟨r1, k1⟩ => wpAny_mono (h2 s1 (o.keeps k1) E) (fun v2 s2 ⟨r2, k2⟩ => by
    have r1' := r1.keeps k2
    cases r2
    cases r1' with
    | list hx hp hr =>
    obtain ⟨v, hv, rv⟩ := hr.get hd
    exact tail_any hp.typeIs slot_list_getitem.lookup (wpAny_getItem_list (x := v) hp h0 hi (by simpa using hv) ⟨rv, k1.tr k2⟩) (hs _ _)) fun _ _ e => e) fun _ _ e => e)
theorem charAt_T {l : List Nat} {i : Nat} {ch : Nat} (h : l[i]? = some ch) : Txt.item (T l) i = T [ch] := by
  have hlt : i < l.length := by rw [List.getElem?_eq_some_iff] at h; exact h.1
  have e : seqIndex? (i : Int) l.length = some i := by
    unfold seqIndex?
    have : ¬ ((i : Int) < 0) := by omega
    simp [this, hlt]
  unfold Txt.item Txt.charAt
  rw [T_len, e]
  simp [h]
theorem Ev.itemS {value slice : Expr} {pos : Pos} {l : List Nat} {i : Int} {ch : Nat} (h1 : Ev c value (S l)) (h2 : Ev c slice (.int i)) (h0 : 0 ≤ i) (hi : i < 2 ^ 62) (hd : l[i.toNat]? = some ch)
    (hs : ∀ x t u, subscripted slice false (.str x t) (.int i u) = operate [.str x t, .int i u] (getItem (.str x t) (.int i u)) := by intro _ _ _; rfl) : Ev c (.Subscript value slice pos) (S [ch]) := fun s o E =>
  Subscript_ (wpAny_mono (h1 s o E) (fun v1 s1 ⟨r1, k1⟩ => wpAny_mono (h2 s1 (o.keeps k1) E) (fun v2 s2 ⟨r2, k2⟩ => by
    cases r1; cases r2
    have hlt : i.toNat < l.length := by rw [List.getElem?_eq_some_iff] at hd; exact hd.1
    exact item_str (by unfold fitsSsize; simp; omega) (by rw [T_len]; omega) (by rw [T_len]; omega) (fun _ => ⟨by have := charAt_T hd; rw [show ((i.toNat : Nat) : Int) = i from by omega] at this; rw [this]; exact .str _ _, (k1.tr k2).tr (.toks s2 _)⟩) (hs _ _ _) (by intro _; cases value <;> rfl)) fun _ _ e => e) fun _ _ e => e)

/-- a slice without a step -/
def pslice {α : Type} (lo hi : Option Int) (l : List α) : List α := (l.drop (lo.elim 0 (clipAt l.length))).take (hi.elim l.length (clipAt l.length) - lo.elim 0 (clipAt l.length))
theorem pslice_to {α : Type} (l : List α) (k : Nat) : pslice none (some (k : Int)) l = l.take k := by
  simp only [pslice, Option.elim, clipAt_nat, List.drop_zero, Nat.sub_zero]
  rcases Nat.le_total k l.length with h | h
  · rw [Nat.min_eq_left h]
  · rw [Nat.min_eq_right h, List.take_length, List.take_of_length_le h]
theorem pslice_from {α : Type} (l : List α) (k : Nat) : pslice (some (k : Int)) none l = l.drop k := by
  simp only [pslice, Option.elim, clipAt_nat]
  rcases Nat.le_total k l.length with h | h
  · rw [Nat.min_eq_left h, List.take_of_length_le (by simp)]
  · rw [Nat.min_eq_right h, Nat.sub_self, List.take_zero, List.drop_of_length_le h]
theorem pslice_mid {α : Type} (l : List α) (k : Nat) : pslice (some (k : Int)) (some (-1)) l = (l.drop k).dropLast := by
  have e : clipAt l.length (-1) = l.length - 1 := clipAt_neg l.length 1 (Nat.le_refl _)
  simp only [pslice, Option.elim, clipAt_nat, e]
  rw [List.dropLast_eq_take, List.length_drop]
  rcases Nat.le_total k l.length with h | h
  · rw [Nat.min_eq_left h]; congr 1; omega
  · rw [Nat.min_eq_right h, List.drop_of_length_le h, List.drop_of_length_le (Nat.le_refl _)]; simp
theorem slice_T (l : List Nat) (lo hi : Option Int) : Txt.slice (T l) lo hi = T (pslice lo hi l) := by
  have e : Builtin.Str.strSliceIndices lo hi 1 l.length = ((List.range ((hi.elim l.length (clipAt l.length)) - (lo.elim 0 (clipAt l.length)))).map ((lo.elim 0 (clipAt l.length)) + ·)) := by
    rw [← sliceRange_one]
    cases lo <;> cases hi <;> simp [Builtin.Str.strSliceIndices, clipAt_cast]
  have e2 : ((Builtin.Str.strSliceIndices lo hi 1 l.length).filterMap (l.toArray[·]?)) = pslice lo hi l := by
    rw [e, pick_run l.toArray]; rfl
  unfold Txt.slice
  rw [T_len]
  split
  · rename_i hq
    have hlen : (Builtin.Str.strSliceIndices lo hi 1 l.length).length = l.length := by simpa using hq
    have h2 : (pslice lo hi l) = l := by
      rw [e] at hlen
      simp only [List.length_map, List.length_range] at hlen
      have hb : hi.elim l.length (clipAt l.length) ≤ l.length := by
        cases hi with
        | none => exact Nat.le_refl _
        | some i => show clipAt _ _ ≤ _; have := clipAt_cast l.length i; omega
      have ha : lo.elim 0 (clipAt l.length) ≤ l.length := by
        cases lo with
        | none => exact Nat.zero_le _
        | some i => show clipAt _ _ ≤ _; have := clipAt_cast l.length i; omega
      unfold pslice
      rw [show lo.elim 0 (clipAt l.length) = 0 from by omega, show hi.elim l.length (clipAt l.length) = l.length from by omega]
      simp
    rw [h2]
  · show T _ = _
    rw [e2]

theorem typeIs_list_of {h : Heap} {a : Addr} {items : Array Value} {s : Shared} (e : s.heap = h) (hp : h.IsList a items) : s.TypeIs (.ref a) "list" := by subst e; exact hp.typeIs

inductive PartD : D → Option Int → Prop
  | none : PartD .none none
  | int (i : Int) : PartD (.int i) (some i)
def EvO (c : Cx) (e : Option Expr) (k : Option Int) : Prop := match e with
  | none => k = none
  | some e => ∃ i, k = some i ∧ Ev c e (.int i)
theorem EvO.none : EvO c none none := rfl
theorem EvO.some {e : Expr} {i : Int} (h : Ev c e (.int i)) : EvO c (some e) (some i) := ⟨i, rfl, h⟩
theorem EvO.run {e : Option Expr} {k : Option Int} (h : EvO c e k) {s : Shared} (o : c.ok s) (E : Value → Shared → Prop) :
    wpAny c.M c.A (evalPart e c.env) (fun v s' => (IsPart v k ∧ (k = Option.none → v = .none) ∧ ∀ i, k = Option.some i → ∃ t, v = .int i t) ∧ Kp s s') E s := by
  cases e with
  | none => cases (show k = Option.none from h); exact wpAny_pure ⟨⟨.none, fun _ => rfl, (fun i q => by cases q)⟩, .refl s⟩
  | some e =>
    obtain ⟨i, rfl, h⟩ := h
    exact wpAny_mono (h s o E) (fun v s' ⟨r, k⟩ => by cases r; exact ⟨⟨.int _ _, (fun q => by cases q), (fun j q => by cases q; exact ⟨_, rfl⟩)⟩, k⟩) fun _ _ e => e

theorem Ev.sliceL {value : Expr} {lower upper : Option Expr} {p pos : Pos} {ds : List D} {lo hi : Option Int} (h1 : Ev c value (.list ds)) (h2 : EvO c lower lo) (h3 : EvO c upper hi) (hz : ds.length ≤ 16777216)
    (ht : ∀ o r, letTemporaryGo value o r = pure () := by intro _ _; rfl) : Ev c (.Subscript value (.Slice lower upper none p) pos) (.list (pslice lo hi ds)) := fun s o E =>
  wpAny_Subscript_list_slice (wpAny_mono (h1 s o E) (fun v1 s1 ⟨r1, k1⟩ => wpAny_mono (h2.run (o.keeps k1) E) (fun vl s2 ⟨⟨pl, _, _⟩, k2⟩ => wpAny_mono (h3.run ((o.keeps k1).keeps k2) E) (fun vu s3 ⟨⟨pu, _, _⟩, k3⟩ => by
    have r1' := (r1.keeps k2).keeps k3
    have o3 := (((o.keeps k1).keeps k2).keeps k3)
    cases r1' with
    | @list a items _ hx hp hr =>
    have el := hr.length
    refine ⟨_, _, lo, hi, rfl, hp, by rw [List.size_toArray, sizeLine_eq]; omega, pl, pu, ?_, ?_⟩
    · have kp := (Kp.push s3 { cls := .type "slice", data := .fields #[vl, vu, .none] } s3.toks)
      have o4 := o3.keeps kp
      have := o4.newList (vs := pslice lo hi items) (ds := pslice lo hi ds) ?_
      · rw [slicePick_plain]
        simp only [List.size_toArray]
        show Rep _ ((s3.heap.push _).push _) (.ref (s3.heap.objs.size + 1)) _
        rw [show s3.heap.objs.size + 1 = (s3.heap.push { cls := .type "slice", data := .fields #[vl, vu, .none] }).objs.size from (Heap.size_push ..).symm]
        exact this
      · unfold pslice
        rw [el]
        exact (hr.keeps kp).drop _ |>.take _
    · exact ((k1.tr k2).tr k3).tr ((Kp.push s3 _ s3.toks).tr (Kp.push { s3 with heap := _ } _ s3.toks))) fun _ _ e => e) fun _ _ e => e) fun _ _ e => e) ht

theorem Ev.sliceI {value : Expr} {lower upper : Option Expr} {p pos : Pos} {ds : List D} {lo hi : Option Int} (h1 : Ev c value (.ilist ds)) (h2 : EvO c lower lo) (h3 : EvO c upper hi) (hz : ds.length ≤ 16777216)
    (ht : ∀ o r, letTemporaryGo value o r = pure () := by intro _ _; rfl) : Ev c (.Subscript value (.Slice lower upper none p) pos) (.list (pslice lo hi ds)) := fun s o E =>
  wpAny_Subscript_list_slice (wpAny_mono (h1 s o E) (fun v1 s1 ⟨r1, k1⟩ => wpAny_mono (h2.run (o.keeps k1) E) (fun vl s2 ⟨⟨pl, _, _⟩, k2⟩ => wpAny_mono (h3.run ((o.keeps k1).keeps k2) E) (fun vu s3 ⟨⟨pu, _, _⟩, k3⟩ => by
    have r1' := (r1.keeps k2).keeps k3
    have o3 := (((o.keeps k1).keeps k2).keeps k3)
    cases r1' with
    | @ilist a items _ hx hp hr =>
    have el := hr.length
    refine ⟨_, _, lo, hi, rfl, hp, by rw [List.size_toArray, sizeLine_eq]; omega, pl, pu, ?_, ?_⟩
    · have kp := (Kp.push s3 { cls := .type "slice", data := .fields #[vl, vu, .none] } s3.toks)
      have o4 := o3.keeps kp
      have := o4.newList (vs := pslice lo hi items) (ds := pslice lo hi ds) ?_
      · rw [slicePick_plain]
        simp only [List.size_toArray]
        show Rep _ ((s3.heap.push _).push _) (.ref (s3.heap.objs.size + 1)) _
        rw [show s3.heap.objs.size + 1 = (s3.heap.push { cls := .type "slice", data := .fields #[vl, vu, .none] }).objs.size from (Heap.size_push ..).symm]
        exact this
      · unfold pslice
        rw [el]
        exact (hr.keeps kp).drop _ |>.take _
    · exact ((k1.tr k2).tr k3).tr ((Kp.push s3 _ s3.toks).tr (Kp.push { s3 with heap := _ } _ s3.toks))) fun _ _ e => e) fun _ _ e => e) fun _ _ e => e) ht

theorem Ev.sliceS {value : Expr} {lower upper : Option Expr} {p pos : Pos} {l : List Nat} {lo hi : Option Int} (h1 : Ev c value (S l)) (h2 : EvO c lower lo) (h3 : EvO c upper hi) (hz : l.length ≤ 16777216)
    (ht : ∀ o r, letTemporaryGo value o r = pure () := by intro _ _; rfl) : Ev c (.Subscript value (.Slice lower upper none p) pos) (S (pslice lo hi l)) := fun s o E => by
  refine wpAny_Subscript_Slice (T := "str") PySem.F.slot_str_getitem.lookup (wpAny_mono (h1 s o E) (fun v1 s1 ⟨r1, k1⟩ => wpAny_Slice (wpAny_mono (h2.run (o.keeps k1) E) (fun vl s2 ⟨⟨_, pn, ps⟩, k2⟩ =>
    wpAny_mono (h3.run ((o.keeps k1).keeps k2) E) (fun vu s3 ⟨⟨_, qn, qs⟩, k3⟩ => ?_) fun _ _ e => e) fun _ _ e => e)) fun _ _ e => e) ht
  rw [evalPart_none]
  refine wpAny_pure ?_
  cases r1
  have kk := (k1.tr k2).tr k3
  have hk : KeptH (fun h => ∀ b o, s3.heap.get? b = some o → h.get? b = some o) := fun h ob q b o e => Heap.get?_push_of_some _ (q b o e)
  have hsz : (T l).length ≤ sizeLine := by rw [T_len, sizeLine_eq]; exact hz
  have fin : ∀ (h' : Heap) (t' k : Nat), (∀ b o, s3.heap.get? b = some o → h'.get? b = some o) → Rep c.X h' (.str (Txt.slice (T l) lo hi) t') (S (pslice lo hi l)) ∧ Kp s { s3 with heap := h', toks := k } := fun h' t' k q =>
    ⟨by rw [slice_T]; exact .str _ _, kk.tr (.mk' q)⟩
  refine ⟨typeIs_str _ _ _, ?_⟩
  cases lo with
  | none =>
    cases pn rfl
    cases hi with
    | none => cases qn rfl; obtain ⟨_, _, _, _, g⟩ := SBH.sliceItem_nn (prog := c.prog) (w := c.w) (A := c.A) (E := E) (s := s3) (x := T l) (Q := fun v s' => Rep c.X s'.heap v (S (pslice _ _ l)) ∧ Kp s s') hk (fun _ _ e => e) (fun h' t' k q => fin h' t' k q) hsz; exact g
    | some j => obtain ⟨t, rfl⟩ := qs j rfl; obtain ⟨_, _, _, _, g⟩ := SBH.sliceItem_ns (prog := c.prog) (w := c.w) (A := c.A) (E := E) (s := s3) (x := T l) (Q := fun v s' => Rep c.X s'.heap v (S (pslice _ _ l)) ∧ Kp s s') (j := j) (uj := t) hk (fun _ _ e => e) (fun h' t' k q => fin h' t' k q) hsz; exact g
  | some i =>
    obtain ⟨ti, rfl⟩ := ps i rfl
    cases hi with
    | none => cases qn rfl; obtain ⟨_, _, _, _, g⟩ := SBH.sliceItem_sn (prog := c.prog) (w := c.w) (A := c.A) (E := E) (s := s3) (x := T l) (Q := fun v s' => Rep c.X s'.heap v (S (pslice _ _ l)) ∧ Kp s s') (i := i) (ui := ti) hk (fun _ _ e => e) (fun h' t' k q => fin h' t' k q) hsz; exact g
    | some j => obtain ⟨t, rfl⟩ := qs j rfl; obtain ⟨_, _, _, _, g⟩ := SBH.sliceItem_ss (prog := c.prog) (w := c.w) (A := c.A) (E := E) (s := s3) (x := T l) (Q := fun v s' => Rep c.X s'.heap v (S (pslice _ _ l)) ∧ Kp s s') (i := i) (ui := ti) (j := j) (uj := t) hk (fun _ _ e => e) (fun h' t' k q => fin h' t' k q) hsz; exact g
end
end Mine
end

section
open PySem PySem.W PyProof.Rows SeqAt
set_option Elab.async false
set_option maxRecDepth 100000
set_option linter.unusedVariables false
namespace Mine

section
variable {c : Cx}

inductive EvL (c : Cx) : List Expr → List D → Prop
  | nil : EvL c [] []
  | cons {e : Expr} {es : List Expr} {d : D} {ds : List D} (h : Ev c e d) (hs : EvL c es ds) (he : starEach (e :: es) c.env = (false, eval e c.env) :: starEach es c.env := by rfl) : EvL c (e :: es) (d :: ds)

theorem EvL.plain {es : List Expr} {ds : List D} (h : EvL c es ds) (pos : Pos) : (backTo pos (starEach es c.env)).any (·.1) = false := by
  induction h with
  | nil => rfl
  | cons h hs he ih => rw [he]; show (false || _) = false; rw [Bool.false_or]; exact ih

theorem EvL.run {es : List Expr} {ds : List D} (h : EvL c es ds) (pos : Pos) : ∀ {s : Shared}, c.ok s → ∀ E, wpAny c.M c.A (spliced (backTo pos (starEach es c.env))) (fun vs s' => Reps c.X s'.heap vs ds ∧ Kp s s') E s := by
  induction h with
  | nil => intro s o E; exact Calls.spliced_nil ⟨.nil, .refl s⟩
  | cons h hs he ih =>
    intro s o E
    rw [he]
    exact Calls.spliced_cons (wpAny_mono (h s o E) (fun v s1 ⟨r1, k1⟩ => wpAny_mono (ih (o.keeps k1) E) (fun vs s2 ⟨r2, k2⟩ => ⟨.cons (r1.keeps k2) r2, k1.tr k2⟩) fun _ _ e => e) fun _ _ e => e)

theorem EvL.length {es : List Expr} {ds : List D} (h : EvL c es ds) : es.length = ds.length := by
  induction h with
  | nil => rfl
  | cons h hs he ih => simp [ih]

theorem Ev.list {elts : List Expr} {pos : Pos} {ds : List D} (h : EvL c elts ds) (hz : ds.length ≤ 16777216 := by decide) : Ev c (.List elts pos) (.list ds) := fun s o E => by
  rw [arm_eval_List]
  refine wpAny_bind (wpAny_standAt (wpAny_bind (wpAny_mono (h.run pos o E) (fun vs s1 ⟨r, k⟩ => ?_) fun _ _ e => e)))
  exact wpAny_newList ⟨(o.keeps k).newList r, k.tr (.push s1 _ s1.toks)⟩ (by rw [r.length, sizeLine_eq]; exact hz)

/-- who keeps the arguments of a call: nothing that is seen -/
def KeepOk (c : Cx) (f : Value) : Prop := ∀ h, (∀ b o, c.h₀.get? b = some o → h.get? b = some o) → ∃ k, (k = Keeper.frame ∨ k = Keeper.machine ∨ k = Keeper.boundFrame) ∧ Looks c.M h (keeperOf f) k
theorem KeepOk.builtin {id : String} : KeepOk c (.builtin id) := fun h _ => ⟨.machine, .inr (.inl rfl), Looks.of_pure rfl⟩
theorem KeepOk.type {t : String} : KeepOk c (.type t) := fun h _ => ⟨.machine, .inr (.inl rfl), Looks.of_pure rfl⟩
theorem KeepOk.func {a : Addr} {o : Obj} {fd : FuncData} (ho : c.h₀.get? a = some o) (hd : o.data = .func fd) : KeepOk c (.ref a) := fun h k => ⟨.frame, .inl rfl, (Looks.ld (part := none) (k _ _ ho)).andThen (by rw [hd]; exact .now)⟩

theorem EvL.callWith {es : List Expr} {ds : List D} (h : EvL c es ds) {pos : Pos} {f : Value} {first : List Value} {d : D} (hk : KeepOk c f) {s : Shared} (o : c.ok s)
    (hc : ∀ s1 vs, Kp s s1 → c.ok s1 → Reps c.X s1.heap vs ds → Gives c s1 (call f (first ++ vs)) d) : Gives c s (callWith pos f first (backTo pos (starEach es c.env)) []) d := fun E => by
  refine callWith_of (P := fun h => ∀ b o, c.h₀.get? b = some o → h.get? b = some o) (by rw [h.plain]; rfl) hk ?_
  have fin : ∀ s1 vs, Reps c.X s1.heap vs ds → Kp s s1 → (∀ b o, c.h₀.get? b = some o → s1.heap.get? b = some o) ∧ wpAny c.M c.A (call f (first ++ vs) []) (fun v s' => Rep c.X s'.heap v d ∧ Kp s s') E s1 := fun s1 vs r k =>
    ⟨(o.keeps k).over, wpAny_mono (hc s1 vs k (o.keeps k) r E) (fun v s2 ⟨r2, k2⟩ => ⟨r2, k.tr k2⟩) fun _ _ e => e⟩
  cases h with
  | nil => exact evalArgs_nil3 (fin s [] .nil (.refl s))
  | cons h hs he =>
    have hr := EvL.run (EvL.cons h hs he) pos o E
    rw [he] at hr ⊢
    exact Calls.evalArgs_plain (wpAny_mono hr (fun vs s1 ⟨r, k⟩ => fin s1 vs r k) fun _ _ e => e)

/-- a call of a plain name -/
theorem Ev.call {func : Expr} {args : List Expr} {pos : Pos} {f : Value} {ds : List D} {d : D} (hf : Ev c func (.val f)) (ha : EvL c args ds) (hk : KeepOk c f)
    (hc : ∀ s vs, c.ok s → Reps c.X s.heap vs ds → Gives c s (call f vs) d)
    (he : eval (.Call func args [] pos) c.env = (do callWith pos (← eval func c.env) [] (backTo pos (starEach args c.env)) (backToKw pos (keywordEach [] c.env))) := by rfl) : Ev c (.Call func args [] pos) d := fun s o E =>
  Call_ (wpAny_mono (hf s o E) (fun v s1 ⟨r, k⟩ => by
    cases r
    exact wpAny_mono (ha.callWith (first := []) hk (o.keeps k) (fun s2 vs k2 o2 r2 => hc s2 vs o2 r2) E) (fun v s3 ⟨r3, k3⟩ => ⟨r3, k.tr k3⟩) fun _ _ e => e) fun _ _ e => e) he

/-- a method of a text -/
theorem Ev.methS {pl : Sem Bool} {o : Expr} {name : Str} {apos pos : Pos} {args : List Expr} {id : String} {x : Str} {ds : List D} {d : D} (ho : Ev c o (.str x)) (ha : EvL c args ds) (slot : Slot "str" name id)
    (ty : typeOf (.builtin id) = pure (.type "method_descriptor"))
    (hc : ∀ s t vs, c.ok s → Reps c.X s.heap vs ds → Gives c s (PySem.call (.builtin id) (.str x t :: vs)) d)
    (he : eval (.Call (.Attribute o name apos) args [] pos) c.env = (do
      let ov ← eval o c.env
      standAt apos.atName
      let (f, first) ← holding [ov] (getMethod ov name pl)
      callWith pos f first (backTo pos (starEach args c.env)) []) := by rfl) : Ev c (.Call (.Attribute o name apos) args [] pos) d := fun s ok E =>
  MethodCall_ (wpAny_mono (ho s ok E) (fun v s1 ⟨r, k⟩ => by
    cases r
    refine getMethod_builtin (typeIs_str _ _ _) PySem.F.plainAttrs_str slot ty (fun _ e => nomatch e) ?_
    exact wpAny_mono (ha.callWith KeepOk.builtin (ok.keeps k) (fun s2 vs k2 o2 r2 => hc s2 _ vs o2 r2) E) (fun v s3 ⟨r3, k3⟩ => ⟨r3, k.tr k3⟩) fun _ _ e => e) fun _ _ e => e) he

def lo (c : Nat) : Nat := lo1 c
theorem lower_T {l : List Nat} (h : ∀ c ∈ l, c < 128) : Txt.lower (T l) = T (l.map lo1) := by
  rw [lower_ascii (by simpa using h)]; simp [T]
theorem Ev.lower {pl : Sem Bool} {o : Expr} {apos pos : Pos} {l : List Nat} (ho : Ev c o (S l)) (hl : ∀ c ∈ l, c < 128) (hz : l.length ≤ 5592405)
    (he : eval (.Call (.Attribute o "lower" apos) [] [] pos) c.env = (do
      let ov ← eval o c.env
      standAt apos.atName
      let (f, first) ← holding [ov] (getMethod ov "lower" pl)
      callWith pos f first (backTo pos (starEach [] c.env)) []) := by rfl) : Ev c (.Call (.Attribute o "lower" apos) [] [] pos) (S (l.map lo1)) :=
  Ev.methS ho .nil PySem.F.slot_str_lower PySem.F.type_str_lower (fun s t vs ok r E => by
    cases r
    exact SCL.lower (by rw [T_len]; exact hz) (fun _ => ⟨by rw [lower_T hl]; exact .str _ _, .toks s _⟩)) he

theorem Reps.strVals {X : List Addr} {h : Heap} : ∀ {vs : List Value} {ys : List (List Nat)}, Reps X h vs (ys.map S) → ∃ l : List (Str × Tok), vs = strValues l ∧ l.map (·.1) = ys.map T
  | _, [], r => by cases r; exact ⟨[], rfl, rfl⟩
  | _, y :: ys, r => by
    cases r with
    | cons hv hs =>
      obtain ⟨l, rfl, e⟩ := hs.strVals
      cases hv with
      | str _ t => exact ⟨(T y, t) :: l, rfl, by simp [e]⟩
theorem strVals_reps {X : List Addr} {h : Heap} : ∀ {l : List (Str × Tok)} {ys : List (List Nat)}, l.map (·.1) = ys.map T → Reps X h (strValues l) (ys.map S)
  | [], [], _ => .nil
  | [], _ :: _, e => by simp at e
  | _ :: _, [], e => by simp at e
  | (x, t) :: l, y :: ys, e => by
    simp only [List.map_cons, List.cons.injEq] at e
    obtain ⟨rfl, e⟩ := e
    exact .cons (.str _ _) (strVals_reps e)

theorem join_T (ys : List (List Nat)) : Txt.join (T []) (ys.map T) = T ys.flatten := by
  have e : ∀ ys : List (List Nat), Str.join (T []) (ys.map T) = T ys.flatten := by
    intro ys
    induction ys with
    | nil => rfl
    | cons y ys ih =>
      cases ys with
      | nil => simp [Str.join]
      | cons z zs =>
        show T y ++ T [] ++ Str.join (T []) (T z :: zs.map T) = _
        rw [show (T z :: zs.map T) = (z :: zs).map T from rfl, ih, T_append, T_append]; simp
  have := PyProof.Rows.join_closes (sep := T []) (ys := ys.map T) rfl
  rw [beq_iff_eq] at this
  rw [this, e]
theorem joinOk_T {ys : List (List Nat)} (h : ys.flatten.length ≤ 16777216) : JoinOk (T []) (ys.map T) = true := by
  unfold JoinOk Builtin.Str.tooLong
  have key : ∀ (ys : List (List Nat)) (n : Nat), (ys.map T).foldl (fun a x => a + x.length + (T []).length) n = n + ys.flatten.length := by
    intro ys
    induction ys with
    | nil => intro n; simp
    | cons y ys ih => intro n; simp only [List.map_cons, List.foldl_cons, ih]; simp [T_len]; show _ + _ + (T []).length + _ = _; rw [show (T []).length = 0 from rfl]; omega
  rw [← Array.foldl_toList]
  simp only
  rw [key, sizeLine_eq]
  simp; simpa using h
theorem Ev.join {pl : Sem Bool} {sep : Expr} {e : Expr} {apos pos : Pos} {ys : List (List Nat)} (ho : Ev c sep (S [])) (ha : EvL c [e] [.list (ys.map S)]) (hz : ys.flatten.length ≤ 16777216)
    (he : eval (.Call (.Attribute sep "join" apos) [e] [] pos) c.env = (do
      let ov ← eval sep c.env
      standAt apos.atName
      let (f, first) ← holding [ov] (getMethod ov "join" pl)
      callWith pos f first (backTo pos (starEach [e] c.env)) []) := by rfl) : Ev c (.Call (.Attribute sep "join" apos) [e] [] pos) (S ys.flatten) :=
  Ev.methS ho ha PySem.F.slot_str_join PySem.F.type_str_join (fun s t vs ok r E => by
    cases r with
    | cons hv hs =>
    cases hs
    cases hv with
    | list hx hp hr =>
    obtain ⟨l, rfl, e⟩ := hr.strVals
    exact SC.join hp e (joinOk_T hz) (fun t' k => ⟨by rw [join_T]; exact .str _ _, .toks s _⟩)) he

theorem Ev.len {f e : Expr} {pos : Pos} {ds : List D} (hf : Ev c f (.val (.builtin "len"))) (ha : EvL c [e] [.list ds]) (hz : ds.length ≤ 16777216)
    (he : eval (.Call f [e] [] pos) c.env = (do callWith pos (← eval f c.env) [] (backTo pos (starEach [e] c.env)) (backToKw pos (keywordEach [] c.env))) := by rfl) : Ev c (.Call f [e] [] pos) (.int ds.length) :=
  Ev.call hf ha .builtin (fun s vs ok r E => by
    cases r with
    | cons hv hs =>
    cases hs
    cases hv with
    | list hx hp hr =>
    have e := hr.length
    exact len_list hp (by simp; omega) ⟨by simp only [List.size_toArray, e]; exact .int _ _, .toks s _⟩) he
theorem Ev.sum {f e : Expr} {pos : Pos} {ns : List Int} (hf : Ev c f (.val (.builtin "sum"))) (ha : EvL c [e] [.list (ns.map .int)])
    (he : eval (.Call f [e] [] pos) c.env = (do callWith pos (← eval f c.env) [] (backTo pos (starEach [e] c.env)) (backToKw pos (keywordEach [] c.env))) := by rfl) : Ev c (.Call f [e] [] pos) (.int ns.sum) :=
  Ev.call hf ha .builtin (fun s vs ok r E => by
    cases r with
    | cons hv hs =>
    cases hs
    cases hv with
    | list hx hp hr =>
    have hi := hr.ints
    obtain ⟨xs, hx⟩ := hi.allInts.items
    have hn : numsOf (List.toArray _).toList = ns := hi.numsOf
    rw [hx] at hp hn
    rw [nums_intItems] at hn
    refine sum_intListG ok.room.handled hp fun h' tk t' hk => ?_
    rw [preSum_eq, List.take_of_length_le (by simp), hn]
    exact ⟨.int _ _, .mk' hk⟩) he
end
end Mine
end

section
open PySem PySem.W PyProof.Rows SeqAt
set_option Elab.async false
set_option maxRecDepth 100000
set_option linter.unusedVariables false
namespace Mine

mutual
theorem Rep.avoid {X Y : List Addr} {h : Heap} {v : Value} {d : D} (r : Rep X h v d) (k : ∀ b ∈ Y, b ∈ X ∨ h.get? b = none) : Rep Y h v d := by
  have no : ∀ {b : Addr} {o : Obj}, b ∉ X → h.get? b = some o → b ∉ Y := fun hb e hy => by
    rcases k _ hy with q | q
    · exact hb q
    · rw [q] at e; cases e
  have noL : ∀ {b : Addr} {its : Array Value}, b ∉ X → h.IsList b its → b ∉ Y := fun hb e => by obtain ⟨o, ho, _⟩ := e; exact no hb ho
  cases r with
  | none => exact .none
  | bool b => exact .bool b
  | int i t => exact .int i t
  | str s t => exact .str s t
  | val v => exact .val v
  | list hx hp hr hpl => exact .list (noL hx hp) hp (hr.avoid k) hpl
  | ilist hx hp hr => exact .ilist (noL hx hp) hp (hr.avoid k)
  | entry hx hdx hux hrx ho hd l1 l2 l3 l4 l5 hu hr ru rr =>
    exact .entry (no hx ho) (by obtain ⟨o, _, _, e, _⟩ := hd; exact no hdx e) (noL hux hu.isList) (noL hrx hr.isList) ho hd l1 l2 l3 l4 l5 hu hr (ru.avoid k) (rr.avoid k)
theorem Reps.avoid {X Y : List Addr} {h : Heap} {vs : List Value} {ds : List D} (r : Reps X h vs ds) (k : ∀ b ∈ Y, b ∈ X ∨ h.get? b = none) : Reps Y h vs ds := by
  cases r with
  | nil => exact .nil
  | cons hv hs => exact .cons (hv.avoid k) (hs.avoid k)
end

theorem Reps.snoc {X : List Addr} {h : Heap} {vs : List Value} {ds : List D} {v : Value} {d : D} (r : Reps X h vs ds) (hv : Rep X h v d) : Reps X h (vs ++ [v]) (ds ++ [d]) := r.app (.cons hv .nil)

section
variable {prog : Program} {w : World} {A : Around} {R : Result → Shared → Prop} {s : Shared}

theorem comp_loop {elt iter target : Expr} {ifs : List Expr} {scope : Scope} {pos : Pos} {cenv : Env} {I D : Addr} {fp wr own X : List Addr} {ds : List Mine.D} {P : Nat → Value → Prop} {St : Nat → Heap → Prop}
    (W : Walks prog w A I fp wr ds.length P St) {TInv : Heap → Prop} {Bnd : Heap → Value → Prop} (pb : Mine.D → Bool) (f : Mine.D → Mine.D)
    (hT : ∀ h h', TInv h → (∀ b ∈ own, ∀ o, h.get? b = some o → h'.get? b = some o) → TInv h')
    (hB : ∀ h h' v, Bnd h v → (∀ b ∈ own, ∀ o, h.get? b = some o → h'.get? b = some o) → Bnd h' v)
    (hasg : ∀ (s : Shared) (v : Value) (Q : Unit → Shared → Prop) (E : Value → Shared → Prop), TInv s.heap →
      (∀ h' tk, TInv h' → Bnd h' v → (∀ b o, b ∉ own → s.heap.get? b = some o → h'.get? b = some o) → Q () { s with heap := h', toks := tk }) → wpAny (model prog w) A (assign target cenv v) Q E s)
    (ht : ∀ v, letOwnedTupleGo target (.ref I) v = pure ())
    (hDo : D ∉ own) (hDf : D ∉ fp) (hof : ∀ b ∈ own, b ∉ fp) (hX : ∀ b, b = D ∨ b ∈ own ∨ b ∈ wr → b ∈ X)
    (hst : St 0 s.heap) (hacc : s.heap.PlainList D #[]) (hn : TInv s.heap)
    (htests : ∀ i v d (s₂ : Shared) E, P i v → ds[i]? = some d → Bnd s₂.heap v → TInv s₂.heap → s₂.heap.PlainList D (s₂.heap.get? D |>.elim #[] fun o => match o.data with | .seq xs _ => xs | _ => #[]) →
      (∃ j, St j s₂.heap) → (∀ b o, b ∉ own → b ∉ wr → b ≠ D → s.heap.get? b = some o → s₂.heap.get? b = some o) →
      wpAny (model prog w) A (forIn ifs true fun c r => if r = true then do let ok ← isTrue c cenv (eval c cenv); pure (ForInStep.yield ok) else pure (ForInStep.yield r)) (fun ok s₃ => ok = pb d ∧ Kp s₂ s₃) E s₂)
    (helt : ∀ i v d (s₂ : Shared) E, P i v → ds[i]? = some d → pb d = true → Bnd s₂.heap v → TInv s₂.heap → s₂.heap.PlainList D (s₂.heap.get? D |>.elim #[] fun o => match o.data with | .seq xs _ => xs | _ => #[]) →
      (∃ j, St j s₂.heap) → (∀ b o, b ∉ own → b ∉ wr → b ≠ D → s.heap.get? b = some o → s₂.heap.get? b = some o) →
      wpAny (model prog w) A (eval elt cenv) (fun y s₃ => Rep X s₃.heap y (f d) ∧ Kp s₂ s₃) E s₂)
    (hR : ∀ h' tk (ys : List Value), TInv h' → h'.PlainList D ys.toArray → Reps X h' ys ((ds.filter pb).map f) → (∀ b o, b ∉ own → b ∉ wr → b ≠ D → s.heap.get? b = some o → h'.get? b = some o) → R (.ok .next) { s with heap := h', toks := tk })
    (hsz : ds.length ≤ sizeLine) :
    codeAny (model prog w) A (.compLoop (.ListComp elt [⟨target, iter, ifs, 0⟩] scope pos) 0 (.ref I) (.ref D) cenv) R s := by
  have plainD : ∀ {h : Heap} {ys : Array Value}, h.PlainList D ys → h.PlainList D (h.get? D |>.elim #[] fun o => match o.data with | .seq xs _ => xs | _ => #[]) := fun {h ys} p => by
    obtain ⟨n, e⟩ := p
    rw [e]; exact ⟨n, e⟩
  refine codeAny_compLoop_tests
    (fun k s' => ∃ h' tk, ∃ ys : List Value, ∃ i, s' = { s with heap := h', toks := tk } ∧ St i h' ∧ h'.PlainList D ys.toArray ∧ TInv h' ∧ Reps X h' ys (((ds.take i).filter pb).map f) ∧ ys.length ≤ i ∧ i ≤ ds.length ∧ k = ds.length + 1 - i ∧
      (∀ b o, b ∉ own → b ∉ wr → b ≠ D → s.heap.get? b = some o → h'.get? b = some o)) ?_ (ds.length + 1)
    ⟨s.heap, s.toks, [], 0, rfl, hst, hacc, hn, by simpa using Reps.nil, Nat.le_refl _, Nat.zero_le _, rfl, fun _ _ _ _ _ e => e⟩ ht
  rintro k s' ⟨H, tk, ys, i, rfl, hst', hacc', hn', hF, hyi, hi, rfl, hk⟩
  have hDw : D ∉ wr := fun h => hDf (W.sub _ h)
  by_cases hlt : i < ds.length
  · refine W.item i _ _ _ hlt hst' fun v h₁ tk₁ hPv hst₁ hk₁ => ?_
    have hn₁ : TInv h₁ := hT _ _ hn' fun b hb o e => hk₁ b o (fun q => hof b hb (W.sub _ q)) e
    refine hasg _ v _ _ hn₁ fun h₂ tk₂ hn₂ hb₂ hk₂ => ?_
    have up₂ : ∀ b o, b ∉ own → b ∉ wr → H.get? b = some o → h₂.get? b = some o := fun b o hbo hbw e => hk₂ b o hbo (hk₁ b o hbw e)
    have hst₂ : St (i + 1) h₂ := W.frame _ _ _ hst₁ fun b hb o e => hk₂ b o (fun q => hof b q hb) e
    have hacc₂ : h₂.PlainList D ys.toArray := hacc'.at fun o e => up₂ D o hDo hDw e
    have hF₂ : Reps X h₂ ys (((ds.take i).filter pb).map f) := hF.up fun b o hb e => up₂ b o (fun q => hb (hX b (.inr (.inl q)))) (fun q => hb (hX b (.inr (.inr q)))) e
    have hd : ds[i]? = some ds[i] := by simp [hlt]
    have hk2 : ∀ b o, b ∉ own → b ∉ wr → b ≠ D → s.heap.get? b = some o → h₂.get? b = some o := fun b o h1 h2 h3 e => up₂ b o h1 h2 (hk b o h1 h2 h3 e)
    refine wpAny_mono (htests i v _ _ _ hPv hd hb₂ hn₂ (plainD hacc₂) ⟨_, hst₂⟩ hk2) (fun ok s₃ h₃ => ?_) fun _ _ e => e
    obtain ⟨rfl, ⟨h₃, tk₃, rfl, hk₃⟩⟩ := h₃
    have hst₃ : St (i + 1) h₃ := W.frame _ _ _ hst₂ fun b _ o e => hk₃ b o e
    have hacc₃ : h₃.PlainList D ys.toArray := hacc₂.at fun o e => hk₃ _ o e
    have hn₃ : TInv h₃ := hT _ _ hn₂ fun b hb o e => hk₃ b o e
    have hF₃ := hF₂.up fun b o _ e => hk₃ b o e
    have htake : (ds.take (i + 1)).filter pb = (ds.take i).filter pb ++ (if pb ds[i] then [ds[i]] else []) := take_succ_filter pb ds i _ hd
    cases hpv : pb ds[i] with
    | false =>
      simp only [Bool.false_eq_true, if_false]
      refine ⟨ds.length + 1 - (i + 1), by omega, h₃, tk₃, ys, i + 1, rfl, hst₃, hacc₃, hn₃, ?_, by omega, hlt, rfl, fun b o h1 h2 h3 e => hk₃ b o (hk2 b o h1 h2 h3 e)⟩
      rw [htake, hpv]; simpa using hF₃
    | true =>
      simp only [if_true]
      refine wpAny_mono (helt i v _ _ _ hPv hd hpv (hB _ _ _ hb₂ fun b hb o e => hk₃ b o e) hn₃ (plainD hacc₃) ⟨_, hst₃⟩ (fun b o h1 h2 h3 e => hk₃ b o (hk2 b o h1 h2 h3 e))) (fun y s₄ h₄ => ?_) fun _ _ e => e
      obtain ⟨ry, ⟨h₄, tk₄, rfl, hk₄⟩⟩ := h₄
      refine wpAny_list_append_plain (hsz := by rw [List.size_toArray]; omega) (hacc₃.at fun o e => hk₄ _ o e) fun h₅ hl₅ hs₅ => ?_
      refine ⟨ds.length + 1 - (i + 1), by omega, h₅, tk₄, ys ++ [y], i + 1, rfl, ?_, by simpa using hl₅, ?_, ?_, by simp; omega, hlt, rfl,
        fun b o h1 h2 h3 e => hs₅.extBut b o h3 (hk₄ b o (hk₃ b o (hk2 b o h1 h2 h3 e)))⟩
      · exact W.frame _ _ h₅ hst₃ fun b hb o e => hs₅.extBut b o (fun h => hDf (h ▸ hb)) (hk₄ b o e)
      · exact hT _ _ hn₃ fun b hb o e => hs₅.extBut b o (fun h => hDo (h ▸ hb)) (hk₄ b o e)
      · rw [htake, hpv, if_pos rfl, List.map_append]
        have k5 : ∀ b o, b ∉ X → h₄.get? b = some o → h₅.get? b = some o := fun b o hb e => hs₅.extBut b o (fun h => hb (hX b (.inl h))) e
        exact ((hF₃.up fun b o _ e => hk₄ b o e).up k5).snoc (ry.up k5)
  · have hin : i = ds.length := by omega
    subst hin
    refine W.done _ _ _ hst' fun h₁ tk₁ hk₁ => ?_
    refine hR h₁ tk₁ ys (hT _ _ hn' fun b hb o e => hk₁ b o (fun q => hof b hb (W.sub _ q)) e) (hacc'.at fun o e => hk₁ _ o hDw e) ?_ fun b o h1 h2 h3 e => hk₁ b o h2 (hk b o h1 h2 h3 e)
    rw [List.take_length] at hF
    exact hF.up fun b o hb e => hk₁ b o (fun q => hb (hX b (.inr (.inr q)))) e
end
end Mine
end

section
open PySem PySem.W PyProof.Rows SeqAt
set_option Elab.async false
set_option maxRecDepth 100000
set_option linter.unusedVariables false
namespace Mine

/-! what a loop walks over -/
def Src (c : Cx) (s₁ s₂ : Shared) (it : Value) (ds : List D) : Prop :=
  ∃ I fp wr P St, it = .ref I ∧ (∀ A' : Around, A'.handled = none → Walks c.prog c.w A' I fp wr ds.length P St) ∧ St 0 s₂.heap ∧ (∀ b ∈ fp, b < s₂.heap.objs.size ∧ b ∉ c.X) ∧ (∀ b ∈ wr, s₁.heap.get? b = none) ∧
    (∀ i h, St i h → ∀ b ∈ wr, (h.get? b).isSome = true) ∧ (∀ v (x : Str) px, letOwnedTupleGo (.Name x px) (.ref I) v = pure ()) ∧ (∀ i v, P i v → ∃ d, ds[i]? = some d ∧ Rep c.X s₁.heap v d) ∧ Kp s₁ s₂

def EvIt (c : Cx) (e : Expr) (ds : List D) : Prop := ∀ s, c.ok s → ∀ E, wpAny c.M c.A (eval e c.env) (fun xv s₁ => Kp s s₁ ∧ ∀ E', wpAny c.M c.A (pyIter xv) (fun it s₂ => Src c s₁ s₂ it ds) E' s₁) E s

theorem src_list {c : Cx} {s₁ : Shared} (o : c.ok s₁) {v : Value} {ds : List D} (r : Rep c.X s₁.heap v (.list ds)) (E : Value → Shared → Prop) : wpAny c.M c.A (pyIter v) (fun it s₂ => Src c s₁ s₂ it ds) E s₁ := by
  cases r with
  | @list a items _ hx hp hr =>
  refine wpAny_pyIter_list hp ?_
  have hne : a ≠ s₁.heap.objs.size := fun e => by obtain ⟨ob, ho, _⟩ := hp; rw [e, get_none_size] at ho; cases ho
  have hlen : items.toArray.size = ds.length := by simp [hr.length]
  refine ⟨s₁.heap.objs.size, [s₁.heap.objs.size, a], [s₁.heap.objs.size], fun i v => items.toArray[i]? = some v, fun i h => h.IsListIter s₁.heap.objs.size a i ∧ h.IsList a items.toArray, rfl, ?_, ?_, ?_, ?_, ?_, ?_, ?_, .push s₁ _ _⟩
  · intro A' hA; rw [← hlen]; exact Walks.list hA _ _ hne _
  · exact ⟨⟨_, Heap.get?_push_size _ rfl, rfl, rfl⟩, hp.push _⟩
  · intro b hb
    rw [Heap.size_push]
    simp at hb
    rcases hb with rfl | rfl
    · exact ⟨Nat.lt_succ_self _, o.fresh (get_none_size _)⟩
    · obtain ⟨ob, ho, _⟩ := hp; exact ⟨Nat.lt_succ_of_lt (Heap.lt_size ho), hx⟩
  · intro b hb; simp at hb; subst hb; exact get_none_size _
  · rintro i h ⟨⟨ob, ho, _⟩, _⟩ b hb; simp at hb; subst hb; rw [ho]; rfl
  · intro v x px; rfl
  · intro i v hv
    have hv' : items[i]? = some v := by simpa using hv
    have hlt : i < ds.length := by rw [List.getElem?_eq_some_iff] at hv'; rw [← hr.length]; exact hv'.1
    obtain ⟨v', e, rv⟩ := hr.get (i := i) (d := ds[i]) (by simp [hlt])
    rw [hv'] at e; cases e
    exact ⟨_, by simp [hlt], rv⟩

theorem EvIt.list {c : Cx} {e : Expr} {ds : List D} (h : Ev c e (.list ds)) : EvIt c e ds := fun s o E =>
  wpAny_mono (h s o E) (fun v s1 ⟨r, k⟩ => ⟨k, fun E' => src_list (o.keeps k) r E'⟩) fun _ _ e => e

theorem EvIt.str {c : Cx} {e : Expr} {l : List Nat} (h : Ev c e (S l)) : EvIt c e (l.map fun ch => S [ch]) := fun s o E =>
  wpAny_mono (h s o E) (fun v s1 ⟨r, k⟩ => ⟨k, fun E' => by
    cases r with
    | str _ t =>
    cases ha : (T l).cps.all (· < 128)
    · refine wpAny_pyIter_wide ha ⟨s1.heap.objs.size, [s1.heap.objs.size], [s1.heap.objs.size], SignAt (T l), fun i h => h.IsStrIter s1.heap.objs.size "str_iterator" (T l) t i, rfl, ?_, ?_, ?_, ?_, ?_, ?_, ?_, .push s1 _ _⟩
      · intro A' hA; have := Walks.strWide (prog := c.prog) (w := c.w) hA s1.heap.objs.size (T l) t; simpa using this
      · exact ⟨_, Heap.get?_push_size _ rfl, rfl, rfl⟩
      · intro b hb; simp at hb; subst hb; rw [Heap.size_push]; exact ⟨Nat.lt_succ_self _, (o.keeps k).fresh (get_none_size _)⟩
      · intro b hb; simp at hb; subst hb; exact get_none_size _
      · rintro i h ⟨ob, ho, _⟩ b hb; simp at hb; subst hb; rw [ho]; rfl
      · intro v x px; rfl
      · rintro i v ⟨ch, tk, hc, rfl⟩
        exact ⟨S [ch], by simpa using hc, .str _ _⟩
    · refine wpAny_pyIter_ascii ha ⟨s1.heap.objs.size, [s1.heap.objs.size], [s1.heap.objs.size], SignAt (T l), fun i h => h.IsStrIter s1.heap.objs.size "str_ascii_iterator" (T l) t i, rfl, ?_, ?_, ?_, ?_, ?_, ?_, ?_, .push s1 _ _⟩
      · intro A' hA; have := Walks.strAscii (prog := c.prog) (w := c.w) hA s1.heap.objs.size (T l) t; simpa using this
      · exact ⟨_, Heap.get?_push_size _ rfl, rfl, rfl⟩
      · intro b hb; simp at hb; subst hb; rw [Heap.size_push]; exact ⟨Nat.lt_succ_self _, (o.keeps k).fresh (get_none_size _)⟩
      · intro b hb; simp at hb; subst hb; exact get_none_size _
      · rintro i h ⟨ob, ho, _⟩ b hb; simp at hb; subst hb; rw [ho]; rfl
      · intro v x px; rfl
      · rintro i v ⟨ch, tk, hc, rfl⟩
        exact ⟨S [ch], by simpa using hc, .str _ _⟩⟩) fun _ _ e => e

/-! the block of a comprehension -/
def childRho (scope : Scope) (ρ : Rho) (x : Str) (k : NameKind) (d : D) : Rho := fun y =>
  if y = x then some (k, d) else
  match scope.names.lookup y with
  | some .free => (match ρ y with | some (.cell, d') => some (.cell, d') | _ => none)
  | some .globalImplicit => (match ρ y with | some (.globalImplicit, d') => some (.globalImplicit, d') | _ => none)
  | _ => none

def compOkB (ρ : Rho) (scope : Scope) (x : Str) (k : NameKind) : Bool :=
  scope.kind == .function && scope.names.all (fun y => y.2 != .local || scope.names.lookup y.1 == some .local) && scope.names.lookup x == some k &&
  (match k with | .local => scope.names.all (·.2 != .cell) | .cell => (scope.names.filter (·.2 == .cell)) == [(x, .cell)] | _ => false) &&
  scope.names.all (fun y => y.2 != .free || (match ρ y.1 with | some (.cell, _) => true | _ => false))

theorem closure_run {env : Env} : ∀ (names : List (Str × NameKind)) (acc : List (Str × Addr)), (∀ y ∈ names, y.2 = .free → ∃ a, env.cells.lookup y.1 = some a) →
    ∃ cl, (forIn names acc (fun (x : Str × NameKind) cs => (do if x.2 == .free then (do let a ← cellOf env x.1; pure (ForInStep.yield ((x.1, a) :: cs))) else pure (ForInStep.yield cs) : Sem (ForInStep (List (Str × Addr)))))) = pure cl ∧
      ∀ y a, env.cells.lookup y = some a → ((∃ k ∈ names, k = (y, .free)) ∨ acc.lookup y = some a) → cl.lookup y = some a
  | [], acc, _ => ⟨acc, rfl, fun y a _ h => by
      rcases h with ⟨k, hk, _⟩ | h
      · cases hk
      · exact h⟩
  | (n, k) :: r, acc, hf => by
    have hr := fun y hy => hf y (List.mem_cons_of_mem _ hy)
    by_cases hk : k = .free
    · subst hk
      obtain ⟨a, ha⟩ := hf (n, .free) List.mem_cons_self rfl
      obtain ⟨cl, h1, h2⟩ := closure_run r ((n, a) :: acc) hr
      refine ⟨cl, ?_, fun y b hb h => h2 y b hb ?_⟩
      · rw [List.forIn_cons]
        have : cellOf env n = pure a := by unfold cellOf; rw [ha]
        simp only [beq_self_eq_true, if_true, this]
        exact h1
      · by_cases hy : y = n
        · subst hy
          rw [ha] at hb; cases hb
          exact .inr (by simp)
        · rcases h with ⟨k, hk, rfl⟩ | h
          · rcases List.mem_cons.mp hk with q | q
            · cases q; exact absurd rfl hy
            · exact .inl ⟨_, q, rfl⟩
          · exact .inr (by rw [List.lookup_cons, beq_eq_false_iff_ne.mpr hy]; exact h)
    · obtain ⟨cl, h1, h2⟩ := closure_run r acc hr
      refine ⟨cl, ?_, fun y b hb h => h2 y b hb ?_⟩
      · rw [List.forIn_cons]
        have : (k == NameKind.free) = false := by simpa using hk
        simp only [this, Bool.false_eq_true, if_false]
        exact h1
      · rcases h with ⟨k', hk', rfl⟩ | h
        · rcases List.mem_cons.mp hk' with q | q
          · cases q; exact absurd rfl hk
          · exact .inl ⟨_, q, rfl⟩
        · exact .inr h

theorem closure_of {env : Env} {scope : Scope} (h : ∀ y ∈ scope.names, y.2 = .free → ∃ a, env.cells.lookup y.1 = some a) :
    ∃ cl, closureFor scope env = pure cl ∧ ∀ y a, env.cells.lookup y = some a → (y, NameKind.free) ∈ scope.names → cl.lookup y = some a := by
  obtain ⟨cl, h1, h2⟩ := closure_run scope.names [] h
  refine ⟨cl, ?_, fun y a ha hm => h2 y a ha (.inl ⟨_, hm, rfl⟩)⟩
  unfold closureFor
  show (forIn scope.names [] _ >>= _) = _
  have e : (forIn scope.names ([] : List (Str × Addr)) (fun (x : Str × NameKind) cs => (do
      if x.2 == NameKind.free then (do let a ← cellOf env x.1; pure (ForInStep.yield ((x.1, a) :: cs))) else pure (ForInStep.yield cs) : Sem (ForInStep (List (Str × Addr)))))) >>= (fun cs => pure cs) = pure cl := by
    rw [h1]; rfl
  exact e

theorem cellsFrom_none {n : Nat} : ∀ {names : List (Str × NameKind)} {acc : List (Str × Addr)}, (∀ y ∈ names, y.2 ≠ .cell) → cellsFrom n names acc = acc
  | [], _, _ => rfl
  | (a, k) :: r, acc, h => by
    have hk : (k == NameKind.cell) = false := by simpa using h (a, k) List.mem_cons_self
    unfold cellsFrom
    rw [hk]; exact cellsFrom_none fun y hy => h y (List.mem_cons_of_mem _ hy)
theorem pushCells_none {h : Heap} : ∀ {names : List (Str × NameKind)}, (∀ y ∈ names, y.2 ≠ .cell) → pushCells h names = h
  | [], _ => rfl
  | (a, k) :: r, q => by
    have hk : (k == NameKind.cell) = false := by simpa using q (a, k) List.mem_cons_self
    unfold pushCells
    rw [hk]; exact pushCells_none fun y hy => q y (List.mem_cons_of_mem _ hy)
theorem cellsFrom_one {n : Nat} {x : Str} : ∀ {names : List (Str × NameKind)} {acc : List (Str × Addr)}, names.filter (·.2 == .cell) = [(x, .cell)] → cellsFrom n names acc = (x, n) :: acc
  | [], _, h => by simp at h
  | (a, k) :: r, acc, h => by
    rw [List.filter_cons] at h
    unfold cellsFrom
    split at h
    · rename_i hk
      simp only at hk
      rw [hk]
      simp only [List.cons.injEq, Prod.mk.injEq] at h
      obtain ⟨⟨rfl, _⟩, h2⟩ := h
      refine cellsFrom_none fun y hy hc => ?_
      have := List.filter_eq_nil_iff.mp h2 y hy
      simp [hc] at this
    · rename_i hk
      have hk' : (k == NameKind.cell) = false := by simpa using hk
      rw [hk']; exact cellsFrom_one h
theorem pushCells_one {x : Str} : ∀ {names : List (Str × NameKind)} {h : Heap}, names.filter (·.2 == .cell) = [(x, .cell)] → pushCells h names = h.push { cls := .type "cell", data := .cell none }
  | [], _, h => by simp at h
  | (a, k) :: r, hh, h => by
    rw [List.filter_cons] at h
    unfold pushCells
    split at h
    · rename_i hk
      simp only at hk
      rw [hk]
      simp only [List.cons.injEq, Prod.mk.injEq] at h
      obtain ⟨_, h2⟩ := h
      refine pushCells_none fun y hy hc => ?_
      have := List.filter_eq_nil_iff.mp h2 y hy
      simp [hc] at this
    · rename_i hk
      have hk' : (k == NameKind.cell) = false := by simpa using hk
      rw [hk']; exact pushCells_one h

theorem newEnv_around {M : Model} {A : Around} {E : Value → Shared → Prop} {s : Shared} {scope : Scope} {globals : Addr} {cl : List (Str × Addr)} {qual : Str} {env : Env} {Q : Env → Shared → Prop}
    (h : Q (newEnv scope s.heap.objs.size globals (cellsFrom (s.heap.objs.size + 1) scope.names cl) qual none .none (some env) builtinsNs)
      { s with heap := pushCells (s.heap.push { cls := .type "dict", data := .dict #[] }) scope.names }) : wpAny M A (newFunctionEnv scope globals cl [] qual none .none (some env)) Q E s := by
  simp only [newFunctionEnv, Option.isSome_some, if_true]
  refine wpAny_bind (wpAny_alloc ?_)
  refine wpAny_bind (wpAny_layCells _ (fun name kind cells => by cases hkc : kind == NameKind.cell <;> simp [hkc]) _ _ _ _ ?_)
  rw [show ({ s with heap := s.heap.push { cls := .type "dict", data := .dict #[] } } : Shared).heap.objs.size = s.heap.objs.size + 1 from Heap.size_push ..]
  exact wpAny_bind (wpAny_pure (wpAny_pure h))

theorem lookup_relabel {env : Env} {k' : NameKind} : ∀ {names : List (Str × NameKind)} {y : Str}, names.lookup y = some k' →
    (names.map fun (n, k) => if (k == NameKind.free && env.scope.kind == .function && env.kindOf n == some .cell) then (n, NameKind.cell) else (n, k)).lookup y =
      some (if (k' == NameKind.free && env.scope.kind == .function && env.kindOf y == some .cell) then NameKind.cell else k')
  | [], _, h => by simp at h
  | (n, k) :: r, y, h => by
    have ih := @lookup_relabel env k' r y
    cases hx : y == n with
    | true =>
      have e : y = n := by simpa using hx
      simp only [List.lookup_cons, hx] at h
      cases h
      subst e
      simp only [List.map_cons]
      split <;> simp_all
    | false =>
      simp only [List.lookup_cons, hx] at h
      simp only [List.map_cons]
      split <;> (simp only [List.lookup_cons, hx]; exact ih h)
end Mine
end

section
open PySem PySem.W PyProof.Rows SeqAt
set_option Elab.async false
set_option maxRecDepth 100000
set_option linter.unusedVariables false
namespace Mine

/-- the tests of a clause -/
def EvTests (c : Cx) (ifs : List Expr) (b : Bool) : Prop := ∀ s, c.ok s → ∀ E,
  wpAny c.M c.A (forIn ifs true fun t r => if r = true then do let ok ← isTrue t c.env (eval t c.env); pure (ForInStep.yield ok) else pure (ForInStep.yield r)) (fun r s' => r = b ∧ Kp s s') E s
theorem EvTests.nil {c : Cx} : EvTests c [] true := fun s o E => wpAny_tests_nil ⟨rfl, .refl s⟩
theorem EvTests.one {c : Cx} {e : Expr} {b : Bool} (h : EvT c e b) : EvTests c [e] b := fun s o E => wpAny_tests_one (h s o E)

def kid (c : Cx) (X : List Addr) (env : Env) (scope : Scope) (x : Str) (k : NameKind) (d : D) : Cx := { c with X := X, env := env, ρ := childRho scope c.ρ x k d }

theorem comp_run {c : Cx} {elt iter : Expr} {x : Str} {px : Pos} {ifs : List Expr} {scope : Scope} {pos p0 : Pos} {k : NameKind} {ds : List D} {use : Option (Value → Sem Unit)} (pb : D → Bool) (f : D → D)
    (hok : compOkB c.ρ scope x k = true) (hit : EvIt c iter ds)
    (htests : ∀ d ∈ ds, ∀ env X, EvTests (kid c X env scope x k d) ifs (pb d))
    (helt : ∀ d ∈ ds, pb d = true → ∀ env X, Ev (kid c X env scope x k d) elt (f d))
    (hz : ds.length ≤ 16777216) (hs : ∀ v, foldedSetIterable iter c.env v = pure v)
    {s : Shared} (o : c.ok s) {Q : Value → Shared → Prop} {E : Value → Shared → Prop}
    (fin : ∀ D C h' tk m, s.heap.get? C = none → h'.Ns C m → Rep (C :: c.X) h' (.ref D) (.list ((ds.filter pb).map f)) → (∀ b ob, s.heap.get? b = some ob → h'.get? b = some ob) →
      compPost c.M c.A E use Q (.ref D) C (.ok .next) { s with heap := h', toks := tk }) :
    wpAny c.M c.A (comprehension (.ListComp elt [⟨.Name x px, iter, ifs, 0⟩] scope pos) scope c.env p0 (newList []) false (eval iter c.env) use) Q E s := by
  unfold compOkB at hok
  simp only [Bool.and_eq_true, List.all_eq_true, Bool.or_eq_true, bne_iff_ne, ne_eq, beq_iff_eq] at hok
  obtain ⟨⟨⟨⟨hkind, hnames⟩, htgt⟩, hcells⟩, hfree⟩ := hok
  have hnames' : ∀ y ∈ scope.names, y.2 = .local → scope.names.lookup y.1 = some .local := fun y hy e => (hnames y hy).resolve_left (fun q => q e)
  have freeAt : ∀ y ∈ scope.names, y.2 = .free → ∃ d, c.ρ y.1 = some (.cell, d) := fun y hy e => by
    have := (hfree y hy).resolve_left (fun q => q e)
    split at this
    · rename_i d hd; exact ⟨d, hd⟩
    · cases this
  have hcl0 : ∀ y ∈ scope.names, y.2 = .free → ∃ a, c.env.cells.lookup y.1 = some a := fun y hy e => by
    obtain ⟨d, hd⟩ := freeAt y hy e
    obtain ⟨v, _, _, h⟩ := o.names _ _ _ hd
    rcases h with ⟨q, _⟩ | ⟨_, a, ha, _⟩ | ⟨q, _⟩
    · cases q
    · exact ⟨a, ha⟩
    · cases q
  obtain ⟨cl, hclos, hcl⟩ := closure_of hcl0
  refine wpAny_comprehension_free rfl hs hclos hkind hnames' (wpAny_mono (hit s o E) (fun xv s₁ ⟨k1, h₁⟩ => wpAny_mono (h₁ E) (fun it s₂ h₂ => ?_) fun _ _ e => e) fun _ _ e => e)
  obtain ⟨I, fp, wr, P, St, rfl, WA, hst, hfp, hwr, hlive, hgo, hP, k2⟩ := h₂
  have o1 := o.keeps k1
  have o2 := o1.keeps k2
  have W := WA c.A o.room.handled
  -- the list that is made
  refine wpAny_newList ?_ (Nat.zero_le _)
  let s₃ : Shared := { s₂ with heap := s₂.heap.push { cls := .type "list", data := .seq ([] : List Value).toArray } }
  have k3 : Kp s₂ s₃ := .push s₂ _ _
  have hD : s₂.heap.get? s₂.heap.objs.size = none := get_none_size _
  generalize hDe : s₂.heap.objs.size = Da at hD ⊢
  have hDl : s₃.heap.PlainList Da #[] := ⟨0, by subst hDe; exact Heap.get?_push_size _ rfl⟩
  refine newEnv_around ?_
  show codeAny _ _ (.compStart _ 0 (.ref I) (.ref Da) { newEnv scope s₃.heap.objs.size c.env.globals (cellsFrom (s₃.heap.objs.size + 1) scope.names cl) c.env.qual none .none (some c.env) builtinsNs with scope := relabel scope c.env }) (compPost c.M c.A E use Q (.ref Da) s₃.heap.objs.size) { s₃ with heap := pushCells (s₃.heap.push { cls := .type "dict", data := .dict #[] }) scope.names }
  have hCn : s₃.heap.get? s₃.heap.objs.size = none := get_none_size _
  have hsz3 : s₃.heap.objs.size = s₂.heap.objs.size + 1 := Heap.size_push ..
  clear_value s₃
  generalize hC : s₃.heap.objs.size = C at hCn ⊢
  generalize hcs : cellsFrom (C + 1) scope.names cl = cs
  have henv : ({ newEnv scope C c.env.globals cs c.env.qual none .none (some c.env) builtinsNs with scope := relabel scope c.env } : Env) = compEnvC scope cs C c.env := by
    simp only [newEnv, compEnvC]
  rw [henv]
  have up3 : ∀ b ob, s.heap.get? b = some ob → s₃.heap.get? b = some ob := fun b ob e => k3.get b ob (k2.get b ob (k1.get b ob e))
  have key : ∀ (own : List Addr) (h4 : Heap) (TInv : Heap → Prop) (Bnd : Heap → Value → Prop), C ∈ own → (∀ b ∈ own, C ≤ b) → (∀ b ob, s₃.heap.get? b = some ob → h4.get? b = some ob) → TInv h4 →
      (∀ h h', TInv h → (∀ b ∈ own, ∀ ob, h.get? b = some ob → h'.get? b = some ob) → TInv h') →
      (∀ h h' v, Bnd h v → (∀ b ∈ own, ∀ ob, h.get? b = some ob → h'.get? b = some ob) → Bnd h' v) →
      (∀ (s : Shared) (v : Value) (Q : Unit → Shared → Prop) (E : Value → Shared → Prop), TInv s.heap →
        (∀ h' tk, TInv h' → Bnd h' v → (∀ b ob, b ∉ own → s.heap.get? b = some ob → h'.get? b = some ob) → Q () { s with heap := h', toks := tk }) → wpAny c.M c.A (assign (.Name x px) (compEnvC scope cs C c.env) v) Q E s) →
      (∀ h, TInv h → ∃ m, h.Ns C m) → (∀ h, TInv h → ∀ b ∈ own, (h.get? b).isSome = true) →
      (∀ h v, Bnd h v → (k = .local ∧ ∃ m, h.Ns C m ∧ m x = some v) ∨ (k = .cell ∧ ∃ a, cs.lookup x = some a ∧ h.IsCell a (some v))) →
      (k = .local ∨ k = .cell) →
      (∀ y a, y ≠ x → cl.lookup y = some a → cs.lookup y = some a) →
      codeAny c.M c.A (.compStart (.ListComp elt [⟨.Name x px, iter, ifs, 0⟩] scope pos) 0 (.ref I) (.ref Da) (compEnvC scope cs C c.env)) (compPost c.M c.A E use Q (.ref Da) C) { s₃ with heap := h4 } := by
    intro own h4 TInv Bnd hCo hownC up4 hTI hT hB hasg hTC hTl hBx hk hcsy
    have hown : ∀ b ∈ own, s₃.heap.get? b = none := fun b hb => by
      cases e : s₃.heap.get? b with
      | none => rfl
      | some ob => exact absurd (Nat.lt_of_lt_of_le (hC ▸ Heap.lt_size e) (hownC b hb)) (Nat.lt_irrefl _)
    have hst4 : St 0 h4 := W.frame _ _ _ hst fun b hb ob e => up4 b ob (k3.get b ob e)
    have hDo : Da ∉ own := fun q => by obtain ⟨n, e⟩ := hDl; rw [hown _ q] at e; cases e
    have hDf : Da ∉ fp := fun q => Nat.lt_irrefl _ (hDe ▸ (hfp _ q).1)
    have hof : ∀ b ∈ own, b ∉ fp := fun b hb q => by
      have h1 : b < C := hC ▸ (by rw [hsz3]; exact Nat.lt_succ_of_lt (hfp _ q).1)
      exact Nat.lt_irrefl _ (Nat.lt_of_lt_of_le h1 (hownC b hb))
    have old1 : ∀ b ob, s₁.heap.get? b = some ob → b ∉ own ∧ b ∉ wr ∧ b ≠ Da := fun b ob e =>
      ⟨(fun q => by have h := hown b q; rw [k3.get b ob (k2.get b ob e)] at h; cases h), (fun q => by rw [hwr b q] at e; cases e), (fun q => by subst q; rw [k2.get _ _ e] at hD; cases hD)⟩
    have okKid : ∀ (i : Nat) (v : Value) (d : D) (s' : Shared), P i v → ds[i]? = some d → Bnd s'.heap v → TInv s'.heap → s'.heap.PlainList Da (s'.heap.get? Da |>.elim #[] fun o => match o.data with | .seq xs _ => xs | _ => #[]) →
        (∃ j, St j s'.heap) → (∀ b ob, b ∉ own → b ∉ wr → b ≠ Da → h4.get? b = some ob → s'.heap.get? b = some ob) →
        (kid c (Da :: own ++ wr ++ c.X) (compEnvC scope cs C c.env) scope x k d).ok s' := by
      intro i v d s' hPv hd hb hti hpl ⟨j, hj⟩ hup
      have up : ∀ b ob, s₁.heap.get? b = some ob → s'.heap.get? b = some ob := fun b ob e => by
        obtain ⟨a1, a2, a3⟩ := old1 b ob e
        exact hup b ob a1 a2 a3 (up4 b ob (k3.get b ob (k2.get b ob e)))
      have av : ∀ {v d}, Rep c.X s₁.heap v d → Rep (Da :: own ++ wr ++ c.X) s'.heap v d := fun {v d} r => by
        refine (r.avoid (Y := Da :: own ++ wr ++ c.X) fun b hb => ?_).up fun b ob _ e => up b ob e
        simp only [List.cons_append, List.mem_cons, List.mem_append] at hb
        rcases hb with rfl | (hb | hb) | hb
        · right; cases e : s₁.heap.get? b with
          | none => rfl
          | some ob => exact absurd rfl (old1 b ob e).2.2
        · right; cases e : s₁.heap.get? b with
          | none => rfl
          | some ob => exact absurd hb (old1 b ob e).1
        · exact .inr (hwr b hb)
        · exact .inl hb
      refine ⟨fun b ob e => up b ob (o1.over b ob e), fun b hb => ?_, hkind, o.glob, o.blt, o.room, ?_⟩
      · simp only [kid, List.cons_append, List.mem_cons, List.mem_append] at hb
        rcases hb with rfl | (hb | hb) | hb
        · obtain ⟨n, e⟩ := hpl; rw [e]; rfl
        · exact hTl _ hti b hb
        · exact hlive j _ hj b hb
        · obtain ⟨ob, e⟩ := Option.isSome_iff_exists.mp (o1.live b hb); rw [up b ob e]; rfl
      · intro y k' d' hy
        simp only [kid, childRho] at hy
        by_cases hyx : y = x
        · subst hyx
          rw [if_pos rfl] at hy
          cases hy
          obtain ⟨d0, e0, r0⟩ := hP i v hPv
          rw [hd] at e0; cases e0
          refine ⟨v, av r0, ?_, ?_⟩
          · show (relabel scope c.env).names.lookup y = _
            unfold relabel
            rw [lookup_relabel htgt]
            rcases hk with rfl | rfl <;> simp
          · rcases hBx _ _ hb with ⟨q, m, h1, h2⟩ | ⟨q, a, h1, h2⟩
            · exact .inl ⟨q, m, h1, h2⟩
            · exact .inr (.inl ⟨q, a, h1, h2⟩)
        · rw [if_neg hyx] at hy
          split at hy
          · rename_i hl
            split at hy
            · rename_i d1 hd1
              cases hy
              obtain ⟨v1, r1, hk1, h1⟩ := o1.names _ _ _ hd1
              rcases h1 with ⟨q, _⟩ | ⟨_, a, ha, hc⟩ | ⟨q, _⟩
              · cases q
              · refine ⟨v1, av r1, ?_, .inr (.inl ⟨rfl, a, hcsy y a hyx (hcl y a ha (mem_of_lookup hl)), hc.keeps up⟩)⟩
                show (relabel scope c.env).names.lookup y = _
                unfold relabel
                rw [lookup_relabel hl, o.kind, hk1]; rfl
              · cases q
            · cases hy
          · rename_i hl
            split at hy
            · rename_i d1 hd1
              cases hy
              obtain ⟨v1, r1, hk1, h1⟩ := o1.names _ _ _ hd1
              rcases h1 with ⟨q, _⟩ | ⟨q, _⟩ | ⟨_, e, g⟩
              · cases q
              · cases q
              · refine ⟨v1, av r1, ?_, .inr (.inr ⟨rfl, e, g⟩)⟩
                show (relabel scope c.env).names.lookup y = _
                unfold relabel
                rw [lookup_relabel hl]; rfl
            · cases hy
          · cases hy
    have loop : codeAny c.M c.A (.compLoop (.ListComp elt [⟨.Name x px, iter, ifs, 0⟩] scope pos) 0 (.ref I) (.ref Da) (compEnvC scope cs C c.env)) (compPost c.M c.A E use Q (.ref Da) C) { s₃ with heap := h4 } := by
      refine comp_loop (X := Da :: own ++ wr ++ c.X) W pb f hT hB hasg (fun v => hgo v x px) hDo hDf hof (fun b hb => ?_) hst4 (hDl.at fun ob e => up4 _ ob e) hTI ?_ ?_ ?_ (by rw [sizeLine_eq]; exact hz)
      · simp only [List.cons_append, List.mem_cons, List.mem_append]
        rcases hb with h | h | h
        · exact .inl h
        · exact .inr (.inl (.inl h))
        · exact .inr (.inl (.inr h))
      · intro i v d s' E' hPv hd hb hti hpl hj hup
        exact htests d (List.mem_of_getElem? hd) _ _ s' (okKid i v d s' hPv hd hb hti hpl hj hup) E'
      · intro i v d s' E' hPv hd hp hb hti hpl hj hup
        exact helt d (List.mem_of_getElem? hd) hp _ _ s' (okKid i v d s' hPv hd hb hti hpl hj hup) E'
      · intro h' tk ys hti hpl hr hup
        obtain ⟨m, hm⟩ := hTC _ hti
        have up : ∀ b ob, s.heap.get? b = some ob → h'.get? b = some ob := fun b ob e => by
          obtain ⟨a1, a2, a3⟩ := old1 b ob (k1.get b ob e)
          exact hup b ob a1 a2 a3 (up4 b ob (up3 b ob e))
        have es : ({ s₃ with heap := h', toks := tk } : Shared) = { s with heap := h', toks := tk } := by
          obtain ⟨e1, e2, e3, _⟩ := (k1.tr (k2.tr k3)).ex
          rw [e3]
        show compPost c.M c.A E use Q (.ref Da) C (.ok .next) { s₃ with heap := h', toks := tk }
        rw [es]
        refine fin Da C h' tk m ?_ hm (.list ?_ hpl.isList ?_ hpl) up
        · cases e : s.heap.get? C with
          | none => rfl
          | some ob => rw [up3 C ob e] at hCn; cases hCn
        · intro q
          rcases List.mem_cons.mp q with q | q
          · obtain ⟨n, e⟩ := hDl; rw [q, hCn] at e; cases e
          · exact o2.fresh hD q
        · refine hr.avoid fun b hb => .inl ?_
          simp only [List.cons_append, List.mem_cons, List.mem_append]
          rcases List.mem_cons.mp hb with rfl | hb
          · exact .inr (.inl (.inl hCo))
          · exact .inr (.inr hb)
    refine codeAny_compStart_list loop ?_
    exact W.self 0 _ _ _ hst4 loop
  have hCn4 : (s₃.heap.push { cls := .type "dict", data := .dict #[] }).Ns C (fun _ => none) := by subst hC; exact Heap.Ns.new ..
  have hkind' : (compEnvC scope cs C c.env).scope.kind = .function := hkind
  have hkx : (compEnvC scope cs C c.env).kindOf x = some (if (k == NameKind.free && c.env.scope.kind == .function && c.env.kindOf x == some .cell) then NameKind.cell else k) := by
    show (relabel scope c.env).names.lookup x = _
    unfold relabel
    rw [lookup_relabel htgt]
  cases k with
  | «local» =>
    simp only [List.all_eq_true, bne_iff_ne, ne_eq] at hcells
    rw [pushCells_none hcells]
    rw [cellsFrom_none hcells] at hcs
    subst hcs
    refine key [C] _ (fun h => ∃ m, h.Ns C m) (fun h v => ∃ m, h.Ns C m ∧ m x = some v) (by simp) (by simp) (fun b ob e => Heap.get?_push_of_some _ e) ⟨_, hCn4⟩ ?_ ?_ ?_ (fun h q => q) ?_ ?_ (.inl rfl) (fun y a _ q => q)
    · rintro h h' ⟨m, hm⟩ q
      obtain ⟨ob, es, ep, e, r⟩ := hm
      exact ⟨m, ob, es, ep, q C (by simp) _ e, r⟩
    · rintro h h' v ⟨m, hm, hv⟩ q
      obtain ⟨ob, es, ep, e, r⟩ := hm
      exact ⟨m, ⟨ob, es, ep, q C (by simp) _ e, r⟩, hv⟩
    · rintro s' v Q' E' ⟨m, hm⟩ hQ
      refine wpAny_assign_Name (wpAny_storeName_local hkx hm (fun h' hn' hs' => ?_) (by show (scope.kind == .class || (scope.kind == .module && _)) = false; rw [hkind]; rfl))
      exact hQ h' _ ⟨_, hn'⟩ ⟨_, hn', by simp⟩ fun b ob hb e => hs'.extBut b ob (fun q => hb (by rw [q]; exact List.mem_singleton.mpr rfl)) e
    · rintro h ⟨m, ob, es, ep, e, r⟩ b hb
      simp only [List.mem_singleton] at hb
      subst hb; rw [e]; rfl
    · rintro h v ⟨m, hm, hv⟩
      exact .inl ⟨rfl, m, hm, hv⟩
  | cell =>
    simp only [beq_iff_eq] at hcells
    rw [pushCells_one hcells]
    rw [cellsFrom_one hcells] at hcs
    have hsz4 : (s₃.heap.push { cls := .type "dict", data := .dict #[] }).objs.size = C + 1 := by rw [Heap.size_push, hC]
    refine key [C, C + 1] _ (fun h => (∃ m, h.Ns C m) ∧ ∃ v, h.IsCell (C + 1) v) (fun h v => (∃ m, h.Ns C m) ∧ h.IsCell (C + 1) (some v)) (by simp) (by simp) (fun b ob e => Heap.get?_push_of_some _ (Heap.get?_push_of_some _ e))
      ⟨⟨_, hCn4.push _⟩, none, _, by rw [← hsz4]; exact Heap.get?_push_size _ rfl, rfl⟩ ?_ ?_ ?_ (fun h q => q.1) ?_ ?_ (.inr rfl) ?_
    · rintro h h' ⟨⟨m, hm⟩, v, oc, hoc, hd⟩ q
      obtain ⟨ob, es, ep, e, r⟩ := hm
      exact ⟨⟨m, ob, es, ep, q C (by simp) _ e, r⟩, v, oc, q (C + 1) (by simp) _ hoc, hd⟩
    · rintro h h' v ⟨⟨m, hm⟩, oc, hoc, hd⟩ q
      obtain ⟨ob, es, ep, e, r⟩ := hm
      exact ⟨⟨m, ob, es, ep, q C (by simp) _ e, r⟩, oc, q (C + 1) (by simp) _ hoc, hd⟩
    · rintro s' v Q' E' ⟨⟨m, hm⟩, v0, hc0⟩ hQ
      refine wpAny_assign_Name (wpAny_storeName_cell (c := C + 1) hkind' hkx (by show cs.lookup x = _; rw [← hcs]; simp) hc0 (fun h' hn' hs' => ?_))
      have := hQ h' s'.toks ⟨⟨m, hm.sameBut hs' (Nat.ne_of_lt (Nat.lt_succ_self C))⟩, _, hn'⟩ ⟨⟨m, hm.sameBut hs' (Nat.ne_of_lt (Nat.lt_succ_self C))⟩, hn'⟩ fun b ob hb e => hs'.extBut b ob (fun q => hb (by rw [q]; simp)) e
      exact this
    · rintro h ⟨⟨m, ob, es, ep, e, r⟩, v, oc, hoc, hd⟩ b hb
      simp only [List.mem_cons, List.not_mem_nil, or_false] at hb
      rcases hb with rfl | rfl
      · rw [e]; rfl
      · rw [hoc]; rfl
    · rintro h v ⟨_, hv⟩
      exact .inr ⟨rfl, C + 1, by rw [← hcs]; simp, hv⟩
    · intro y a hy q
      rw [← hcs, List.lookup_cons, beq_eq_false_iff_ne.mpr hy]; exact q
  | free => simp at hcells
  | globalExplicit => simp at hcells
  | globalImplicit => simp at hcells

/-- a comprehension is a filter and a map -/
theorem Ev.comp {c : Cx} {elt iter : Expr} {x : Str} {px : Pos} {ifs : List Expr} {scope : Scope} {pos : Pos} (k : NameKind) {ds : List D} (pb : D → Bool) (f : D → D) (hit : EvIt c iter ds)
    (htests : ∀ d ∈ ds, ∀ env X, EvTests (kid c X env scope x k d) ifs (pb d))
    (helt : ∀ d ∈ ds, pb d = true → ∀ env X, Ev (kid c X env scope x k d) elt (f d))
    (hz : ds.length ≤ 16777216) (hok : compOkB c.ρ scope x k = true := by first | kernel_rfl! | rfl) (hs : ∀ v, foldedSetIterable iter c.env v = pure v := by intro _; first | kernel_rfl! | rfl) :
    Ev c (.ListComp elt [⟨.Name x px, iter, ifs, 0⟩] scope pos) (.list ((ds.filter pb).map f)) := fun s o E => by
  rw [eval_ListComp]
  refine comp_run (use := none) pb f hok hit htests helt hz hs o ?_
  intro Da C h' tk m hC hm hr hup
  refine ⟨m, hm, fun h'' hs'' => ⟨?_, .mk' fun b ob e => hs''.extBut b ob (fun q => by rw [q, hC] at e; cases e) (hup b ob e)⟩⟩
  exact (hr.up fun b ob hb e => hs''.extBut b ob (fun q => hb (by simp [q])) e).avoid fun b hb => .inl (List.mem_cons_of_mem _ hb)
end Mine
end

section
open PySem PySem.W PyProof.Rows SeqAt
set_option Elab.async false
set_option maxRecDepth 100000
set_option linter.unusedVariables false
namespace Mine

/-- only what stands at `own` may have changed -/
structure Mv (own : List Addr) (s s' : Shared) : Prop where
  ex : ∃ h tk, s' = { s with heap := h, toks := tk } ∧ ∀ b o, b ∉ own → s.heap.get? b = some o → h.get? b = some o
theorem Mv.refl (own : List Addr) (s : Shared) : Mv own s s := ⟨s.heap, s.toks, rfl, fun _ _ _ e => e⟩
theorem Mv.tr {own : List Addr} {s s' s'' : Shared} (a : Mv own s s') (b : Mv own s' s'') : Mv own s s'' := by
  obtain ⟨h, t, rfl, k⟩ := a
  obtain ⟨h', t', rfl, k'⟩ := b
  exact ⟨h', t', rfl, fun b o hb e => k' b o hb (k b o hb e)⟩
theorem Mv.mono {own own' : List Addr} {s s' : Shared} (a : Mv own s s') (h : ∀ b ∈ own, b ∈ own') : Mv own' s s' := by
  obtain ⟨hh, t, rfl, k⟩ := a
  exact ⟨hh, t, rfl, fun b o hb e => k b o (fun q => hb (h b q)) e⟩
theorem Mv.get {own : List Addr} {s s' : Shared} (a : Mv own s s') : ∀ b o, b ∉ own → s.heap.get? b = some o → s'.heap.get? b = some o := by
  obtain ⟨h, t, rfl, k⟩ := a; exact k
theorem Kp.mv {s s' : Shared} (k : Kp s s') (own : List Addr) : Mv own s s' := by
  obtain ⟨h, t, rfl, k⟩ := k; exact ⟨h, t, rfl, fun b o _ e => k b o e⟩
theorem Mv.kp {own : List Addr} {s s' : Shared} (a : Mv own s s') (h : ∀ b ∈ own, s.heap.get? b = none) : Kp s s' := by
  obtain ⟨hh, t, rfl, k⟩ := a
  exact ⟨hh, t, rfl, fun b o e => k b o (fun q => by rw [h b q] at e; cases e) e⟩

def fo (env : Env) : List Addr := env.locals :: env.cells.map (·.2)

structure Frm (c : Cx) (s : Shared) : Prop where
  ok : c.ok s
  ns : ∃ m, s.heap.Ns c.env.locals m
  cells : ∀ y a, (y, a) ∈ c.env.cells → ∃ v, s.heap.IsCell a v
  sub : ∀ b ∈ fo c.env, b ∈ c.X
  base : ∀ b ∈ fo c.env, c.h₀.get? b = none
  apart : ∀ y y' a, (y, a) ∈ c.env.cells → (y', a) ∈ c.env.cells → y = y'
  apartL : ∀ y a, (y, a) ∈ c.env.cells → a ≠ c.env.locals

theorem mem_fo_cell {env : Env} {y : Str} {a : Addr} (h : env.cells.lookup y = some a) : a ∈ fo env := List.mem_cons_of_mem _ (List.mem_map.mpr ⟨_, mem_of_lookup h, rfl⟩)
theorem mem_fo_loc {env : Env} : env.locals ∈ fo env := List.mem_cons_self

theorem Frm.kp {c : Cx} {s s' : Shared} (F : Frm c s) (k : Kp s s') : Frm c s' :=
  ⟨F.ok.keeps k, let ⟨m, h⟩ := F.ns; ⟨m, h.keeps k.get⟩, fun y a h => let ⟨v, q⟩ := F.cells y a h; ⟨v, q.keeps k.get⟩, F.sub, F.base, F.apart, F.apartL⟩

abbrev Cx.set (c : Cx) (x : Str) (k : NameKind) (d : D) : Cx := { c with ρ := fun y => if y = x then some (k, d) else c.ρ y }
abbrev Cx.at (c : Cx) (ρ : Rho) : Cx := { c with ρ := ρ }

/-- fewer names -/
theorem Frm.less {c : Cx} {ρ : Rho} {s : Shared} (F : Frm c s) (h : ∀ y k d, ρ y = some (k, d) → c.ρ y = some (k, d)) : Frm (c.at ρ) s :=
  ⟨⟨F.ok.over, F.ok.live, F.ok.kind, F.ok.glob, F.ok.blt, F.ok.room, fun x k d e => F.ok.names x k d (h x k d e)⟩, F.ns, F.cells, F.sub, F.base, F.apart, F.apartL⟩

theorem ns_unique {h : Heap} {a : Addr} {m m' : Str → Option Value} (x : h.Ns a m) (y : h.Ns a m') : m = m' := by
  obtain ⟨o, es, ep, ho, hd, _, hm⟩ := x
  obtain ⟨o', es', ep', ho', hd', _, hm'⟩ := y
  rw [ho] at ho'; cases ho'
  rw [hd] at hd'; cases hd'
  funext z
  rw [← hm z, ← hm' z]

theorem Frm.upNames {c : Cx} {s s' : Shared} {x : Str} {k : NameKind} {d : D} {v : Value} (F : Frm c s) (r : Rep c.X s.heap v d) (hx : c.env.kindOf x = some k)
    (hup : ∀ b o, b ∉ fo c.env → s.heap.get? b = some o → s'.heap.get? b = some o)
    (hnew : (k = .local ∧ ∃ m, s'.heap.Ns c.env.locals m ∧ m x = some v) ∨ (k = .cell ∧ ∃ a, c.env.cells.lookup x = some a ∧ s'.heap.IsCell a (some v)))
    (hL : ∀ m y, s.heap.Ns c.env.locals m → y ≠ x → ∃ m', s'.heap.Ns c.env.locals m' ∧ m' y = m y)
    (hC : ∀ y a u, y ≠ x → c.env.cells.lookup y = some a → s.heap.IsCell a u → s'.heap.IsCell a u)
    (hns : ∃ m, s'.heap.Ns c.env.locals m) (hcells : ∀ y a, (y, a) ∈ c.env.cells → ∃ v, s'.heap.IsCell a v) : Frm (c.set x k d) s' := by
  have upR : ∀ {v d}, Rep c.X s.heap v d → Rep c.X s'.heap v d := fun r => r.up fun b o hb e => hup b o (fun q => hb (F.sub b q)) e
  refine ⟨⟨?_, ?_, F.ok.kind, F.ok.glob, F.ok.blt, F.ok.room, ?_⟩, hns, hcells, F.sub, F.base, F.apart, F.apartL⟩
  · intro b o e
    exact hup b o (fun q => nomatch (F.base b q).symm.trans (show c.h₀.get? b = some o from e)) (F.ok.over b o e)
  · intro b hb
    by_cases hf : b ∈ fo c.env
    · rcases List.mem_cons.mp hf with rfl | hf
      · obtain ⟨m, ob, es, ep, e, _⟩ := hns; rw [e]; rfl
      · obtain ⟨⟨y, a⟩, hm, rfl⟩ := List.mem_map.mp hf
        obtain ⟨u, ob, e, _⟩ := hcells y a hm; rw [e]; rfl
    · obtain ⟨ob, e⟩ := Option.isSome_iff_exists.mp (F.ok.live b hb); rw [hup b ob hf e]; rfl
  · intro y k' d' hy
    simp only [Cx.set] at hy
    by_cases hyx : y = x
    · subst hyx
      rw [if_pos rfl] at hy
      cases hy
      exact ⟨v, upR r, hx, by rcases hnew with h | h; exact .inl h; exact .inr (.inl h)⟩
    · rw [if_neg hyx] at hy
      obtain ⟨u, ru, hk, h⟩ := F.ok.names y k' d' hy
      refine ⟨u, upR ru, hk, ?_⟩
      rcases h with ⟨q, m, hn, hm⟩ | ⟨q, a, ha, hc⟩ | h
      · obtain ⟨m', hn', e⟩ := hL m y hn hyx
        exact .inl ⟨q, m', hn', e.trans hm⟩
      · exact .inr (.inl ⟨q, a, ha, hC y a _ hyx ha hc⟩)
      · exact .inr (.inr h)

theorem Frm.store {c : Cx} {s : Shared} {x : Str} {k : NameKind} {d : D} {v : Value} {E : Value → Shared → Prop} (F : Frm c s) (r : Rep c.X s.heap v d) (hx : c.env.kindOf x = some k)
    (hk : k = .local ∨ (k = .cell ∧ (c.env.cells.lookup x).isSome = true)) : wpAny c.M c.A (storeName c.env x v) (fun _ s' => Frm (c.set x k d) s' ∧ Mv (fo c.env) s s') E s := by
  obtain ⟨m, hm⟩ := F.ns
  rcases hk with rfl | ⟨rfl, hl⟩
  · refine wpAny_storeName_local hx hm (fun h' hn' hs' => ?_) (by rw [F.ok.kind]; rfl)
    have up : ∀ b o, b ∉ fo c.env → s.heap.get? b = some o → h'.get? b = some o := fun b o hb e => hs'.extBut b o (fun q => hb (q ▸ mem_fo_loc)) e
    refine ⟨F.upNames (s' := { s with heap := h', toks := s.toks + 1 }) r hx up (.inl ⟨rfl, _, hn', by simp⟩) ?_ ?_ ⟨_, hn'⟩ ?_, ⟨h', _, rfl, up⟩⟩
    · intro m1 y h1 hy
      rw [ns_unique h1 hm]
      exact ⟨_, hn', by simp [hy]⟩
    · intro y a u hy ha hc
      exact hc.sameBut hs' (F.apartL y a (mem_of_lookup ha))
    · intro y a ha
      obtain ⟨u, hu⟩ := F.cells y a ha
      exact ⟨u, hu.sameBut hs' (F.apartL y a ha)⟩
  · obtain ⟨a, ha⟩ := Option.isSome_iff_exists.mp hl
    obtain ⟨u0, hu0⟩ := F.cells x a (mem_of_lookup ha)
    refine wpAny_storeName_cell F.ok.kind hx ha hu0 (fun h' hn' hs' => ?_)
    have hLa : c.env.locals ≠ a := Ne.symm (F.apartL x a (mem_of_lookup ha))
    have up : ∀ b o, b ∉ fo c.env → s.heap.get? b = some o → h'.get? b = some o := fun b o hb e => hs'.extBut b o (fun q => hb (q ▸ mem_fo_cell ha)) e
    refine ⟨F.upNames (s' := { s with heap := h' }) r hx up (.inr ⟨rfl, a, ha, hn'⟩) ?_ ?_ ⟨_, hm.sameBut hs' hLa⟩ ?_, ⟨h', s.toks, rfl, up⟩⟩
    · intro m1 y h1 hy
      exact ⟨m1, h1.sameBut hs' hLa, rfl⟩
    · intro y b u hy hb hc
      exact hc.sameBut hs' (fun q => hy (F.apart y x a (q ▸ mem_of_lookup hb) (mem_of_lookup ha)))
    · intro y b hb
      by_cases q : b = a
      · subst q; exact ⟨_, hn'⟩
      · obtain ⟨u, hu⟩ := F.cells y b hb
        exact ⟨u, hu.sameBut hs' q⟩

abbrev Cx.more (c : Cx) (Y : List Addr) : Cx := { c with X := Y ++ c.X }

/-- new addresses that may change -/
theorem Frm.grow {c : Cx} {s s' : Shared} {Y : List Addr} (F : Frm c s) (hY : ∀ b ∈ Y, s.heap.get? b = none) (k : ∀ b o, s.heap.get? b = some o → s'.heap.get? b = some o) (hl : ∀ b ∈ Y, (s'.heap.get? b).isSome = true) : Frm (c.more Y) s' := by
  have upR : ∀ {v d}, Rep c.X s.heap v d → Rep (Y ++ c.X) s'.heap v d := fun {v d} r => (r.avoid (Y := Y ++ c.X) fun b hb => by
    rcases List.mem_append.mp hb with h | h
    · exact .inr (hY b h)
    · exact .inl h).up fun b o _ e => k b o e
  refine ⟨⟨fun b o e => k b o (F.ok.over b o e), ?_, F.ok.kind, F.ok.glob, F.ok.blt, F.ok.room, ?_⟩, let ⟨m, h⟩ := F.ns; ⟨m, h.keeps k⟩, fun y a h => let ⟨v, q⟩ := F.cells y a h; ⟨v, q.keeps k⟩, fun b hb => List.mem_append_right _ (F.sub b hb), F.base, F.apart, F.apartL⟩
  · intro b hb
    rcases List.mem_append.mp hb with h | h
    · exact hl b h
    · obtain ⟨ob, e⟩ := Option.isSome_iff_exists.mp (F.ok.live b h); rw [k b ob e]; rfl
  · intro x kk d h
    obtain ⟨v, r, hk, h⟩ := F.ok.names x kk d h
    refine ⟨v, upR r, hk, ?_⟩
    rcases h with ⟨e, m, hn, hm⟩ | ⟨e, a, ha, hc⟩ | h
    · exact .inl ⟨e, m, hn.keeps k, hm⟩
    · exact .inr (.inl ⟨e, a, ha, hc.keeps k⟩)
    · exact .inr (.inr h)

/-- what stands at Y has changed, and is forgotten -/
theorem Frm.drop {c : Cx} {s s' : Shared} {Y : List Addr} (F : Frm (c.more Y) s) (hYX : ∀ b ∈ Y, b ∉ c.X) (hYb : ∀ b ∈ Y, c.h₀.get? b = none) (hsub : ∀ b ∈ fo c.env, b ∈ c.X)
    (k : ∀ b o, b ∉ Y → s.heap.get? b = some o → s'.heap.get? b = some o) : Frm c s' := by
  have upR : ∀ {v d}, Rep (Y ++ c.X) s.heap v d → Rep c.X s'.heap v d := fun {v d} r => (r.up fun b o hb e => k b o (fun q => hb (List.mem_append_left _ q)) e).avoid fun b hb => .inl (List.mem_append_right _ hb)
  have hfY : ∀ b ∈ fo c.env, b ∉ Y := fun b hb q => hYX b q (hsub b hb)
  have nsUp : ∀ {m}, s.heap.Ns c.env.locals m → s'.heap.Ns c.env.locals m := fun {m} h => by
    obtain ⟨ob, es, ep, e, r⟩ := h; exact ⟨ob, es, ep, k _ _ (hfY _ mem_fo_loc) e, r⟩
  have ceUp : ∀ {y a v}, (y, a) ∈ c.env.cells → s.heap.IsCell a v → s'.heap.IsCell a v := fun {y a v} hm h => by
    obtain ⟨ob, e, r⟩ := h; exact ⟨ob, k _ _ (hfY _ (List.mem_cons_of_mem _ (List.mem_map.mpr ⟨_, hm, rfl⟩))) e, r⟩
  refine ⟨⟨fun b o e => k b o (fun q => by rw [hYb b q] at e; cases e) (F.ok.over b o e), ?_, F.ok.kind, F.ok.glob, F.ok.blt, F.ok.room, ?_⟩, let ⟨m, h⟩ := F.ns; ⟨m, nsUp h⟩, fun y a h => let ⟨v, q⟩ := F.cells y a h; ⟨v, ceUp h q⟩, hsub, F.base, F.apart, F.apartL⟩
  · intro b hb
    obtain ⟨ob, e⟩ := Option.isSome_iff_exists.mp (F.ok.live b (List.mem_append_right _ hb)); rw [k b ob (fun q => hYX b q hb) e]; rfl
  · intro x kk d h
    obtain ⟨v, r, hk, h⟩ := F.ok.names x kk d h
    refine ⟨v, upR r, hk, ?_⟩
    rcases h with ⟨e, m, hn, hm⟩ | ⟨e, a, ha, hc⟩ | h
    · exact .inl ⟨e, m, nsUp hn, hm⟩
    · exact .inr (.inl ⟨e, a, ha, ceUp (mem_of_lookup ha) hc⟩)
    · exact .inr (.inr h)

section
variable {c : Cx} {s : Shared}

theorem ex_assign (F : Frm c s) {E : Value → Shared → Prop} {Q : Flow → Shared → Prop} {rest : List Stmt} {x : Str} {px pos : Pos} {e : Expr} {d : D} (k : NameKind) (he : Ev c e d) (h : ∀ s', Frm (c.set x k d) s' → Mv (fo c.env) s s' → wpAny c.M c.A (execs rest c.env) Q E s')
    (hx : c.env.kindOf x = some k := by first | kernel_rfl! | rfl) (hk : k = .local ∨ (k = .cell ∧ (c.env.cells.lookup x).isSome = true) := by first | exact .inl rfl | exact .inr ⟨rfl, by first | kernel_rfl! | rfl⟩)
    (hs : swapsWith e (some (.Name x px)) pos.line c.env = pure false := by first | kernel_rfl! | rfl) : wpAny c.M c.A (execs (.Assign [.Name x px] e pos :: rest) c.env) Q E s :=
  wpAny_execs_cons (wpAny_Assign_Name (wpAny_mono (he s F.ok E) (fun v s1 ⟨r, k1⟩ => wpAny_mono ((F.kp k1).store r hx hk) (fun _ s2 ⟨F2, m2⟩ => h s2 F2 ((k1.mv _).tr m2)) fun _ _ e => e) fun _ _ e => e) hs)

/-- a comprehension that is bound to a local name at once -/
theorem ex_assignComp (F : Frm c s) {E : Value → Shared → Prop} {Q : Flow → Shared → Prop} {rest : List Stmt} {x y : Str} {px py pos cpos : Pos} {elt iter : Expr} {ifs : List Expr} {scope : Scope} (k : NameKind) {ds : List D} (pb : D → Bool) (f : D → D) (hit : EvIt c iter ds)
    (htests : ∀ d ∈ ds, ∀ env X, EvTests (kid c X env scope y k d) ifs (pb d))
    (helt : ∀ d ∈ ds, pb d = true → ∀ env X, Ev (kid c X env scope y k d) elt (f d))
    (hz : ds.length ≤ 16777216)
    (h : ∀ s', Frm (c.set x .local (.list ((ds.filter pb).map f))) s' → Mv (fo c.env) s s' → wpAny c.M c.A (execs rest c.env) Q E s')
    (hok : compOkB c.ρ scope y k = true := by first | kernel_rfl! | rfl) (hsi : ∀ v, foldedSetIterable iter c.env v = pure v := by intro _; first | kernel_rfl! | rfl)
    (hx : c.env.kindOf x = some .local := by first | kernel_rfl! | rfl)
    (hs : swapsWith (.ListComp elt [⟨.Name y py, iter, ifs, 0⟩] scope cpos) (some (.Name x px)) pos.line c.env = pure true := by first | kernel_rfl! | rfl) :
    wpAny c.M c.A (execs (.Assign [.Name x px] (.ListComp elt [⟨.Name y py, iter, ifs, 0⟩] scope cpos) pos :: rest) c.env) Q E s := by
  refine wpAny_execs_cons ?_
  rw [exec_Assign_Name_used _ _ _ _ hs]
  refine wpAny_bind (wpAny_standAt (wpAny_bind ?_))
  show wpAny _ _ (do let _ ← comprehension (.ListComp elt [⟨.Name y py, iter, ifs, 0⟩] scope cpos) scope c.env _ (newList []) false (eval iter c.env) (some (assign (.Name x px) c.env))) _ _ s
  refine wpAny_bind (wpAny_mono (comp_run (use := some (assign (.Name x px) c.env)) (Q := fun _ s' => wpAny c.M c.A (execs rest c.env) Q E s') pb f hok hit htests helt hz hsi F.ok ?_)
    (fun _ s' hq => wpAny_pure (wpAny_pure hq)) fun _ _ e => e)
  intro Da C h' tk m hC hm hr hup
  have hCX : C ∉ c.X := F.ok.fresh hC
  have hCf : C ∉ fo c.env := fun q => hCX (F.sub C q)
  have F1 : Frm (c.more [C]) { s with heap := h', toks := tk } := F.grow (by simpa using hC) hup (by
    intro b hb; rw [List.mem_singleton.mp hb]; obtain ⟨ob, es, ep, e, _⟩ := hm; show (h'.get? C).isSome = true; rw [e]; rfl)
  refine wpAny_assign_Name (wpAny_mono (F1.store (v := .ref Da) hr hx (.inl rfl)) (fun _ s2 ⟨F2, m2⟩ => ?_) fun _ _ e => e)
  have hm2 : s2.heap.Ns C m := by
    obtain ⟨ob, es, ep, e, r⟩ := hm
    exact ⟨ob, es, ep, m2.get _ _ hCf e, r⟩
  refine ⟨m, hm2, fun h'' hs'' => h _ ?_ ?_⟩
  · refine Frm.drop (c := c.set x .local _) (Y := [C]) (s := s2) F2 (by intro b hb; rw [List.mem_singleton.mp hb]; exact hCX) (by
      intro b hb; rw [List.mem_singleton.mp hb]
      cases e : c.h₀.get? C with
      | none => rfl
      | some ob => rw [F.ok.over C ob e] at hC; cases hC) F.sub fun b o hb e => hs''.extBut b o (fun q => hb (by simp [q])) e
  · obtain ⟨h2, t2, rfl, k2⟩ := m2
    exact ⟨h'', t2, rfl, fun b o hb e => hs''.extBut b o (fun q => by rw [q, hC] at e; cases e) (k2 b o hb (hup b o e))⟩
end
end Mine
end

section
open PySem PySem.W PyProof.Rows SeqAt
set_option Elab.async false
set_option maxRecDepth 100000
set_option linter.unusedVariables false
namespace Mine

/-- a part of X has changed -/
theorem Frm.touch {c : Cx} {s s' : Shared} {Y : List Addr} (F : Frm c s) (hX : ∀ b ∈ Y, b ∈ c.X) (hf : ∀ b ∈ Y, b ∉ fo c.env) (hb0 : ∀ b ∈ Y, c.h₀.get? b = none) (hl : ∀ b ∈ Y, (s'.heap.get? b).isSome = true)
    (k : ∀ b o, b ∉ Y → s.heap.get? b = some o → s'.heap.get? b = some o) : Frm c s' := by
  have upR : ∀ {v d}, Rep c.X s.heap v d → Rep c.X s'.heap v d := fun {v d} r => r.up fun b o hb e => k b o (fun q => hb (hX b q)) e
  have nsUp : ∀ {m}, s.heap.Ns c.env.locals m → s'.heap.Ns c.env.locals m := fun {m} h => by
    obtain ⟨ob, es, ep, e, r⟩ := h; exact ⟨ob, es, ep, k _ _ (fun q => hf _ q mem_fo_loc) e, r⟩
  have ceUp : ∀ {y a v}, (y, a) ∈ c.env.cells → s.heap.IsCell a v → s'.heap.IsCell a v := fun {y a v} hm h => by
    obtain ⟨ob, e, r⟩ := h; exact ⟨ob, k _ _ (fun q => hf _ q (List.mem_cons_of_mem _ (List.mem_map.mpr ⟨_, hm, rfl⟩))) e, r⟩
  refine ⟨⟨fun b o e => k b o (fun q => by rw [hb0 b q] at e; cases e) (F.ok.over b o e), ?_, F.ok.kind, F.ok.glob, F.ok.blt, F.ok.room, ?_⟩, let ⟨m, h⟩ := F.ns; ⟨m, nsUp h⟩, fun y a h => let ⟨v, q⟩ := F.cells y a h; ⟨v, ceUp h q⟩, F.sub, F.base, F.apart, F.apartL⟩
  · intro b hb
    by_cases q : b ∈ Y
    · exact hl b q
    · obtain ⟨ob, e⟩ := Option.isSome_iff_exists.mp (F.ok.live b hb); rw [k b ob q e]; rfl
  · intro x kk d h
    obtain ⟨v, r, hk, h⟩ := F.ok.names x kk d h
    refine ⟨v, upR r, hk, ?_⟩
    rcases h with ⟨e, m, hn, hm⟩ | ⟨e, a, ha, hc⟩ | h
    · exact .inl ⟨e, m, nsUp hn, hm⟩
    · exact .inr (.inl ⟨e, a, ha, ceUp (mem_of_lookup ha) hc⟩)
    · exact .inr (.inr h)

theorem Frm.foLive {c : Cx} {s : Shared} (F : Frm c s) : ∀ b ∈ fo c.env, (s.heap.get? b).isSome = true := fun b hb => F.ok.live b (F.sub b hb)

section
variable {c : Cx} {s : Shared}

theorem ex_ret (F : Frm c s) {E : Value → Shared → Prop} {Q : Flow → Shared → Prop} {rest : List Stmt} {e : Expr} {pos : Pos} {d : D} (he : Ev c e d) (h : ∀ v s', Rep c.X s'.heap v d → Kp s s' → Q (.ret v) s') : wpAny c.M c.A (execs (.Return (some e) pos :: rest) c.env) Q E s :=
  wpAny_execs_cons (wpAny_Return_some (wpAny_mono (he s F.ok E) (fun v s1 ⟨r, k⟩ => h v s1 r k) fun _ _ e => e))

theorem ex_if (F : Frm c s) {E : Value → Shared → Prop} {Q : Flow → Shared → Prop} {rest : List Stmt} {test : Expr} {body orelse : List Stmt} {pos : Pos} (b : Bool) (ht : EvT c test b)
    (h : ∀ s', Frm c s' → Kp s s' → wpAny c.M c.A (execs (if b then body else orelse) c.env) (fun f s'' => match f with | .next => wpAny c.M c.A (execs rest c.env) Q E s'' | f => Q f s'') E s') :
    wpAny c.M c.A (execs (.If test body orelse pos :: rest) c.env) Q E s := by
  refine wpAny_execs_cons (wpAny_If (wpAny_mono (ht s F.ok E) (fun r s1 ⟨q, k⟩ => ?_) fun _ _ e => e))
  subst q
  have := h s1 (F.kp k) k
  cases r <;> exact this
theorem ex_if_no (F : Frm c s) {E : Value → Shared → Prop} {Q : Flow → Shared → Prop} {rest : List Stmt} {test : Expr} {body : List Stmt} {pos : Pos} (ht : EvT c test false) (h : ∀ s', Frm c s' → Kp s s' → wpAny c.M c.A (execs rest c.env) Q E s') :
    wpAny c.M c.A (execs (.If test body [] pos :: rest) c.env) Q E s :=
  ex_if F false ht fun s' F' k => wpAny_execs_nil (h s' F' k)

theorem ex_for (F : Frm c s) {E : Value → Shared → Prop} {Q : Flow → Shared → Prop} {rest : List Stmt} {x : Str} {px pos : Pos} {iter : Expr} {body : List Stmt} (k : NameKind) {ds : List D} (mod : List Addr) (ρ : Nat → Rho) (J : List Addr → Nat → Shared → Prop) (hit : EvIt c iter ds)
    (hmod : ∀ b ∈ mod, b ∈ c.X) (hfo : ∀ b ∈ fo c.env, b ∈ mod)
    (h0ρ : ∀ y k d, ρ 0 y = some (k, d) → c.ρ y = some (k, d))
    (h0J : ∀ wr s', (∀ b ∈ wr, s.heap.get? b = none) → Frm (c.more wr) s' → Kp s s' → J wr 0 s')
    (hJ : ∀ wr i s1 s2, (∀ b ∈ wr, s.heap.get? b = none) → J wr i s1 → Mv (wr ++ fo c.env) s1 s2 → J wr i s2)
    (hbody : ∀ (wr : List Addr) (i : Nat) (d : D) (s' : Shared), (∀ b ∈ wr, s.heap.get? b = none) → ds[i]? = some d → Frm (((c.more wr).at (ρ i)).set x k d) s' → J wr i s' → Mv mod s s' → ∀ E',
      wpAny c.M c.A (execs body c.env) (fun f s3 => match f with
        | .next | .cont => Frm ((c.more wr).at (ρ (i + 1))) s3 ∧ J wr (i + 1) s3 ∧ Mv mod s' s3
        | .brk => False
        | .ret v => Q (.ret v) s3) E' s')
    (hend : ∀ wr s', (∀ b ∈ wr, s.heap.get? b = none) → Frm (c.at (ρ ds.length)) s' → J wr ds.length s' → Mv mod s s' → wpAny c.M c.A (execs rest c.env) Q E s')
    (hx : c.env.kindOf x = some k := by first | kernel_rfl! | rfl) (hk : k = .local ∨ (k = .cell ∧ (c.env.cells.lookup x).isSome = true) := by first | exact .inl rfl | exact .inr ⟨rfl, by first | kernel_rfl! | rfl⟩)
    (hs : ∀ v, foldedSetIterable iter c.env v = pure v := by intro _; first | kernel_rfl! | rfl) :
    wpAny c.M c.A (execs (.For (.Name x px) iter body [] pos :: rest) c.env) Q E s := by
  refine wpAny_execs_cons (wpAny_For (wpAny_mono (hit s F.ok E) (fun xv s₁ ⟨k1, h₁⟩ => wpAny_mono (h₁ E) (fun it s₂ h₂ => ?_) fun _ _ e => e) fun _ _ e => e) hs)
  obtain ⟨I, fp, wr, P, St, rfl, WA, hst, hfp, hwr1, hlive, hgo, hP, k2⟩ := h₂
  have W := WA c.A F.ok.room.handled
  have hwr : ∀ b ∈ wr, s.heap.get? b = none := fun b hb => by
    cases e : s.heap.get? b with
    | none => rfl
    | some o => have := hwr1 b hb; rw [k1.get b o e] at this; cases this
  have F1 := F.kp k1
  have F2 : Frm (c.more wr) s₂ := F1.grow hwr1 k2.get (fun b hb => hlive 0 _ hst b hb)
  have hwf : ∀ b ∈ wr, b ∉ fo c.env := fun b hb q => by have := F1.foLive b q; rw [hwr1 b hb] at this; cases this
  have hw0 : ∀ b ∈ wr, c.h₀.get? b = none := fun b hb => by
    cases e : c.h₀.get? b with
    | none => rfl
    | some o => have := hwr b hb; rw [F.ok.over b o e] at this; cases this
  have hmodw : ∀ b ∈ mod, b ∉ fp := fun b hb q => (hfp b q).2 (hmod b hb)
  have mvw : ∀ {s'}, Mv (wr ++ mod) s s' → Mv mod s s' := fun {s'} m => by
    obtain ⟨h, t, rfl, kk⟩ := m
    exact ⟨h, t, rfl, fun b o hb e => kk b o (fun q => by
      rcases List.mem_append.mp q with q | q
      · rw [hwr b q] at e; cases e
      · exact hb q) e⟩
  refine codeAny_forLoop_any (fun n s' => ∃ i, n = ds.length + 1 - i ∧ i ≤ ds.length ∧ St i s'.heap ∧ Frm ((c.more wr).at (ρ i)) s' ∧ J wr i s' ∧ Mv (wr ++ mod) s₂ s') ?_ (ds.length + 1)
    ⟨0, rfl, Nat.zero_le _, hst, F2.less h0ρ, h0J wr s₂ hwr F2 (k1.tr k2), .refl _ _⟩
  rintro n s' ⟨i, rfl, hi, hst', F', hJ', hM⟩
  by_cases hlt : i < ds.length
  · refine W.item i _ _ _ hlt hst' fun v h₃ tk₃ hPv hst₃ hk₃ => ?_
    have m3 : Mv wr s' { s' with heap := h₃, toks := tk₃ } := ⟨h₃, tk₃, rfl, hk₃⟩
    have F3 : Frm ((c.more wr).at (ρ i)) { s' with heap := h₃, toks := tk₃ } := F'.touch (Y := wr) (fun b hb => List.mem_append_left _ hb) hwf hw0 (fun b hb => hlive _ _ hst₃ b hb) hk₃
    obtain ⟨d, hd, rd⟩ := hP i v hPv
    have rd3 : Rep (wr ++ c.X) h₃ v d := by
      refine (rd.avoid (Y := wr ++ c.X) fun b hb => ?_).up fun b o hb e => ?_
      · rcases List.mem_append.mp hb with q | q
        · exact .inr (hwr1 b q)
        · exact .inl q
      · exact m3.get b o (fun q => hb (List.mem_append_left _ q)) (hM.get b o (fun q => hb (by rcases List.mem_append.mp q with q | q; exact List.mem_append_left _ q; exact List.mem_append_right _ (hmod b q))) (k2.get b o e))
    refine wpAny_of_eq (hgo v x px) ?_
    refine wpAny_assign_Name (wpAny_mono (F3.store rd3 hx hk) (fun _ s4 ⟨F4, m4⟩ => ?_) fun _ _ e => e)
    have hJ4 : J wr i s4 := hJ wr i s' s4 hwr hJ' ((m3.mono fun b q => List.mem_append_left _ q).tr (m4.mono fun b q => List.mem_append_right _ q))
    have hM4 : Mv (wr ++ mod) s₂ s4 := hM.tr ((m3.mono fun b q => List.mem_append_left _ q).tr (m4.mono fun b q => List.mem_append_right _ (hfo b q)))
    have hst4 : St (i + 1) s4.heap := W.frame _ _ _ hst₃ fun b hb o e => m4.get b o (fun q => hmodw b (hfo b q) hb) e
    refine wpAny_mono (hbody wr i d s4 hwr hd F4 hJ4 (mvw (((k1.tr k2).mv _).tr hM4)) _) (fun f s5 h5 => ?_) fun _ _ e => e
    have nextCase : Frm ((c.more wr).at (ρ (i + 1))) s5 ∧ J wr (i + 1) s5 ∧ Mv mod s4 s5 → ∃ m, m < ds.length + 1 - i ∧ ∃ j, m = ds.length + 1 - j ∧ j ≤ ds.length ∧ St j s5.heap ∧ Frm ((c.more wr).at (ρ j)) s5 ∧ J wr j s5 ∧ Mv (wr ++ mod) s₂ s5 := fun ⟨a, b, m⟩ =>
      ⟨ds.length + 1 - (i + 1), by omega, i + 1, rfl, hlt, W.frame _ _ _ hst4 fun b hb o e => m.get b o (fun q => hmodw b q hb) e, a, b, hM4.tr (m.mono fun b q => List.mem_append_right _ q)⟩
    cases f with
    | next => exact nextCase h5
    | cont => exact nextCase h5
    | brk => exact h5.elim
    | ret v => exact h5
  · have hin : i = ds.length := by omega
    subst hin
    refine W.done _ _ _ hst' fun h₃ tk₃ hk₃ => ?_
    refine wpAny_execs_nil ?_
    have m3 : Mv wr s' { s' with heap := h₃, toks := tk₃ } := ⟨h₃, tk₃, rfl, hk₃⟩
    refine hend wr _ hwr ?_ (hJ wr _ s' _ hwr hJ' (m3.mono fun b q => List.mem_append_left _ q)) (mvw (((k1.tr k2).mv _).tr (hM.tr (m3.mono fun b q => List.mem_append_left _ q))))
    exact Frm.drop (c := c.at (ρ ds.length)) (Y := wr) F' (fun b hb q => F.ok.fresh (hwr b hb) q) hw0 F.sub hk₃

/-- a while, by the number of its turns -/
theorem ex_while (F : Frm c s) {E : Value → Shared → Prop} {Q : Flow → Shared → Prop} {rest : List Stmt} {test : Expr} {body : List Stmt} {pos : Pos} (mod : List Addr) (N : Nat) (ρ : Nat → Rho) (J : Nat → Shared → Prop)
    (h0ρ : ∀ y k d, ρ 0 y = some (k, d) → c.ρ y = some (k, d)) (h0J : J 0 s) (hfo : ∀ b ∈ fo c.env, b ∈ mod)
    (hJ : ∀ i s1 s2, J i s1 → Kp s1 s2 → J i s2)
    (htest : ∀ i, i ≤ N → EvT (c.at (ρ i)) test (decide (i < N)))
    (hbody : ∀ i s', i < N → Frm (c.at (ρ i)) s' → J i s' → Mv mod s s' → ∀ E',
      wpAny c.M c.A (execs body c.env) (fun f s3 => match f with
        | .next | .cont => Frm (c.at (ρ (i + 1))) s3 ∧ J (i + 1) s3 ∧ Mv mod s' s3
        | .brk => False
        | .ret v => Q (.ret v) s3) E' s')
    (hend : ∀ s', Frm (c.at (ρ N)) s' → J N s' → Mv mod s s' → wpAny c.M c.A (execs rest c.env) Q E s') :
    wpAny c.M c.A (execs (.While test body [] pos :: rest) c.env) Q E s := by
  refine wpAny_execs_cons (wpAny_While ?_)
  refine codeAny_whileLoop (fun n s' => ∃ i, n = N - i ∧ i ≤ N ∧ Frm (c.at (ρ i)) s' ∧ J i s' ∧ Mv mod s s') ?_ N ⟨0, rfl, Nat.zero_le _, F.less h0ρ, h0J, .refl _ _⟩
  rintro n s' ⟨i, rfl, hi, F', hJ', hM⟩
  refine wpAny_mono (htest i hi s' F'.ok _) (fun b s2 ⟨q, k⟩ => ?_) fun _ _ e => e
  subst q
  have hM2 := hM.tr (k.mv mod)
  by_cases hlt : i < N
  · simp only [hlt, decide_true, if_true]
    refine wpAny_mono (hbody i s2 hlt (F'.kp k) (hJ i _ _ hJ' k) hM2 _) (fun f s5 h5 => ?_) fun _ _ e => e
    cases f with
    | next => exact ⟨N - (i + 1), by omega, i + 1, rfl, hlt, h5.1, h5.2.1, hM2.tr h5.2.2⟩
    | cont => exact ⟨N - (i + 1), by omega, i + 1, rfl, hlt, h5.1, h5.2.1, hM2.tr h5.2.2⟩
    | brk => exact h5.elim
    | ret v => exact h5
  · simp only [hlt, decide_false, Bool.false_eq_true, if_false]
    have hin : i = N := by omega
    subst hin
    exact wpAny_execs_nil (hend s2 (F'.kp k) (hJ _ _ _ hJ' k) hM2)
end
end Mine
end

section
open PySem PySem.W PyProof.Rows SeqAt
set_option Elab.async false
set_option maxRecDepth 100000
set_option linter.unusedVariables false
namespace Mine

/-! calls of the text's own functions -/
def Fn (prog : Program) (w : World) (h₀ : Heap) (n : Nat) (f : Value) (ds : List D) (d : D) : Prop :=
  ∀ (A : Around) (X : List Addr) (s : Shared) (vs : List Value), Room A n → Over h₀ s → (∀ x ∈ X, (s.heap.get? x).isSome = true) → Reps X s.heap vs ds →
    ∀ E, wpAny (model prog w) A (call f vs) (fun v s' => Rep X s'.heap v d ∧ Kp s s') E s

theorem Room.mono {A : Around} {n m : Nat} (r : Room A n) (h : m ≤ n) : Room A m := ⟨r.handled, by have := r.depth; omega, by have := r.units; omega⟩

theorem Ev.fn {c : Cx} {func : Expr} {args : List Expr} {pos : Pos} {a : Addr} {ds : List D} {d : D} {n : Nat} {o : Obj} {fd : FuncData} (hf : Ev c func (.val (.ref a))) (ha : EvL c args ds)
    (hF : Fn c.prog c.w c.h₀ n (.ref a) ds d) (hn : n ≤ c.n) (ho : c.h₀.get? a = some o) (hd : o.data = .func fd)
    (he : eval (.Call func args [] pos) c.env = (do callWith pos (← eval func c.env) [] (backTo pos (starEach args c.env)) (backToKw pos (keywordEach [] c.env))) := by rfl) : Ev c (.Call func args [] pos) d :=
  Ev.call hf ha (.func ho hd) (fun s vs ok r E => hF c.A c.X s vs (ok.room.mono hn) ok.over ok.live r E) he

theorem bindL_other {kindOf : Str → Option NameKind} : ∀ {binds : List (Str × Value)} {m : Str → Option Value} {y : Str}, (∀ x ∈ binds, x.1 ≠ y) → bindL kindOf binds m y = m y
  | [], m, y, _ => rfl
  | (n, v) :: r, m, y, h => by
    unfold bindL
    rw [bindL_other fun x hx => h x (List.mem_cons_of_mem _ hx)]
    have hn : y ≠ n := Ne.symm (h (n, v) List.mem_cons_self)
    split <;> simp [hn]
theorem bindC_other {kindOf : Str → Option NameKind} : ∀ {binds : List (Str × Value)} {m : Str → Option Value} {y : Str}, (∀ x ∈ binds, x.1 ≠ y) → bindC kindOf binds m y = m y
  | [], m, y, _ => rfl
  | (n, v) :: r, m, y, h => by
    unfold bindC
    rw [bindC_other fun x hx => h x (List.mem_cons_of_mem _ hx)]
    have hn : y ≠ n := Ne.symm (h (n, v) List.mem_cons_self)
    split <;> simp [hn]
theorem bindL_at {kindOf : Str → Option NameKind} : ∀ {binds : List (Str × Value)} {m : Str → Option Value} {y : Str} {v : Value}, (binds.map (·.1)).Nodup → binds.lookup y = some v → kindOf y = some .local → bindL kindOf binds m y = some v
  | [], m, y, v, _, h, _ => by simp at h
  | (n, u) :: r, m, y, v, hd, h, hk => by
    unfold bindL
    simp only [List.map_cons, List.nodup_cons] at hd
    rw [List.lookup_cons] at h
    by_cases hy : y = n
    · subst hy
      rw [beq_self_eq_true] at h
      cases h
      rw [bindL_other fun x hx e => hd.1 (List.mem_map.mpr ⟨x, hx, e⟩), if_pos hk]
      simp
    · rw [beq_eq_false_iff_ne.mpr hy] at h
      exact bindL_at hd.2 h hk
theorem bindC_at {kindOf : Str → Option NameKind} : ∀ {binds : List (Str × Value)} {m : Str → Option Value} {y : Str} {v : Value}, (binds.map (·.1)).Nodup → binds.lookup y = some v → kindOf y ≠ some .local → bindC kindOf binds m y = some v
  | [], m, y, v, _, h, _ => by simp at h
  | (n, u) :: r, m, y, v, hd, h, hk => by
    unfold bindC
    simp only [List.map_cons, List.nodup_cons] at hd
    rw [List.lookup_cons] at h
    by_cases hy : y = n
    · subst hy
      rw [beq_self_eq_true] at h
      cases h
      rw [bindC_other fun x hx e => hd.1 (List.mem_map.mpr ⟨x, hx, e⟩), if_neg hk]
      simp
    · rw [beq_eq_false_iff_ne.mpr hy] at h
      exact bindC_at hd.2 h hk

/-- the names that a function starts with -/
def startRho (scope : Scope) (ps : List Str) (ds : List D) (gl : List (Str × Value)) : Rho := fun y =>
  match (ps.zip ds).lookup y with
  | some d => (scope.names.lookup y).map fun k => (k, d)
  | none => if scope.names.lookup y = some .globalImplicit then (gl.lookup y).map fun v => (.globalImplicit, .val v) else none

def startOkB (scope : Scope) (ps : List Str) : Bool :=
  ps.all (fun p => match scope.names.lookup p with | some .local => true | some .cell => true | _ => false) && decide ps.Nodup && decide (scope.names.map (·.1)).Nodup

theorem cellsFrom_some {p : Str} : ∀ {names : List (Str × NameKind)} {k : Nat} {acc : List (Str × Addr)}, ((acc.lookup p).isSome = true ∨ (p, NameKind.cell) ∈ names) → ((cellsFrom k names acc).lookup p).isSome = true
  | [], k, acc, h => by
    rcases h with h | h
    · exact h
    · cases h
  | (n, kd) :: r, k, acc, h => by
    unfold cellsFrom
    split
    · rename_i hk
      refine cellsFrom_some ?_
      by_cases hp : p = n
      · subst hp; left; simp
      · rcases h with h | h
        · left; rw [List.lookup_cons, beq_eq_false_iff_ne.mpr hp]; exact h
        · rcases List.mem_cons.mp h with q | q
          · cases q; exact absurd rfl hp
          · exact .inr q
    · rename_i hk
      refine cellsFrom_some ?_
      rcases h with h | h
      · exact .inl h
      · rcases List.mem_cons.mp h with q | q
        · cases q; simp at hk
        · exact .inr q
theorem cellsFrom_nodup : ∀ {names : List (Str × NameKind)} {k : Nat} {acc : List (Str × Addr)}, (names.map (·.1)).Nodup → (acc.map (·.1)).Nodup → (∀ x ∈ acc.map (·.1), x ∉ names.map (·.1)) → ((cellsFrom k names acc).map (·.1)).Nodup
  | [], k, acc, _, h, _ => h
  | (n, kd) :: r, k, acc, h1, h2, h3 => by
    simp only [List.map_cons, List.nodup_cons] at h1
    unfold cellsFrom
    split
    · refine cellsFrom_nodup h1.2 ?_ ?_
      · simp only [List.map_cons, List.nodup_cons]
        exact ⟨fun q => h3 n q (by simp), h2⟩
      · intro x hx
        simp only [List.map_cons, List.mem_cons] at hx
        rcases hx with rfl | hx
        · exact h1.1
        · exact fun q => h3 x hx (by simp only [List.map_cons, List.mem_cons]; exact .inr q)
    · exact cellsFrom_nodup h1.2 h2 fun x hx q => h3 x hx (by simp only [List.map_cons, List.mem_cons]; exact .inr q)
theorem lookup_of_mem {α : Type} : ∀ {l : List (Str × α)} {y : Str} {a : α}, (l.map (·.1)).Nodup → (y, a) ∈ l → l.lookup y = some a
  | (n, b) :: r, y, a, h1, h => by
    simp only [List.map_cons, List.nodup_cons] at h1
    rcases List.mem_cons.mp h with q | q
    · cases q; simp
    · have hn : y ≠ n := fun e => h1.1 (e ▸ List.mem_map.mpr ⟨_, q, rfl⟩)
      rw [List.lookup_cons, beq_eq_false_iff_ne.mpr hn]
      exact lookup_of_mem h1.2 q

theorem zip_lookup {X : List Addr} {h : Heap} : ∀ {ps : List Str} {vs : List Value} {ds : List D} {y : Str} {d : D}, Reps X h vs ds → (ps.zip ds).lookup y = some d → ∃ v, (ps.zip vs).lookup y = some v ∧ Rep X h v d
  | [], _, _, _, _, _, e => by simp at e
  | p :: ps, _, _, y, d, .nil, e => by simp at e
  | p :: ps, _, _, y, d, .cons hv hs, e => by
    simp only [List.zip_cons_cons, List.lookup_cons] at e ⊢
    cases hy : y == p with
    | true => rw [hy] at e; cases e; exact ⟨_, rfl, hv⟩
    | false => rw [hy] at e; exact zip_lookup hs e

theorem Fn.of_body {prog : Program} {w : World} {h₀ : Heap} {n : Nat} {a : Addr} {o : Obj} {fd : FuncData} {body : List Stmt} {ps : List Str} {ds : List D} {d : D} {gl : List (Str × Value)}
    (ho : h₀.get? a = some o) (hdata : o.data = .func fd) (hlim : h₀.NoLimit) (hcd : h₀.CodeRec fd.code fd.qualname) (hbody : fd.body = .stmts body)
    (hbind : ∀ vs, vs.length = ds.length → bindArgs fd ⟨vs, []⟩ = pure (ps.zip vs)) (hlen : ps.length = ds.length) (hclo : fd.closure = []) (hglob : fd.globals = mainGlobals) (hblt : fd.builtins = builtinsNs)
    (hok : startOkB fd.scope ps = true) (hgl : ∀ y v, gl.lookup y = some v → GlobalIs prog w h₀ y v)
    (hrun : ∀ (A' : Around) (X : List Addr) (L : Addr) (s₁ : Shared), Frm ⟨prog, w, A', n, h₀, fo (callEnvC fd L a) ++ X, callEnvC fd L a, startRho fd.scope ps ds gl⟩ s₁ → ∀ E',
      wpAny (model prog w) A' (execs body (callEnvC fd L a)) (fun f s' => ∃ v mod, f = .ret v ∧ Rep X s'.heap v d ∧ Mv mod s₁ s' ∧ ∀ b ∈ mod, b ∈ fo (callEnvC fd L a) ∨ s₁.heap.get? b = none) E' s₁)
    (hco : fd.scope.isCoroutine = false := by rfl) (hgen : fd.scope.isGenerator = false := by rfl) (hk : fd.scope.kind = .function := by rfl) : Fn prog w h₀ (n + 1) (.ref a) ds d := by
  intro A X s vs hR hO hX hr E
  unfold startOkB at hok
  simp only [Bool.and_eq_true, List.all_eq_true, decide_eq_true_eq] at hok
  obtain ⟨⟨hps, hnd⟩, hnn⟩ := hok
  have hlv : vs.length = ds.length := hr.length
  have hmap : (ps.zip vs).map (·.1) = ps := by rw [List.map_fst_zip]; omega
  have hkind : ∀ x ∈ ps.zip vs, fd.scope.names.lookup x.1 = some .local ∨ (fd.scope.names.lookup x.1 = some .cell ∧ ((cellsFrom (s.heap.objs.size + 1) fd.scope.names []).lookup x.1).isSome = true) := by
    rintro ⟨p, v⟩ hx
    have := hps p (List.of_mem_zip hx).1
    split at this
    · rename_i e; exact .inl e
    · rename_i e; exact .inr ⟨e, cellsFrom_some (.inr (mem_of_lookup e))⟩
    · cases this
  refine wpAny_call (codeAny_call_cells (by have := hR.depth; unfold recursionLimit; omega) (hO a o ho) hdata (hlim.keeps hO) (hcd.keeps hO) hbody (hbind vs hlv) hclo hkind (fun s₁ x => ?_) hco hgen hk)
  generalize hL : s.heap.objs.size = L at x ⊢
  have hcs : (callEnvC fd L a).cells = cellsFrom (L + 1) fd.scope.names [] := rfl
  have hfoDead : ∀ b ∈ fo (callEnvC fd L a), s.heap.get? b = none := fun b hb => by
    have hge : L ≤ b := by
      rcases List.mem_cons.mp hb with rfl | hb
      · exact Nat.le_refl _
      · obtain ⟨⟨y, b'⟩, hm, rfl⟩ := List.mem_map.mp hb
        exact Nat.le_of_lt (x.above y b' hm)
    cases e : s.heap.get? b with
    | none => rfl
    | some ob => exact absurd (Nat.lt_of_lt_of_le (Heap.lt_size e) (hL ▸ hge)) (Nat.lt_irrefl _)
  have keep := x.toInCall.keep
  have hkn : ((callEnvC fd L a).cells.map (·.1)).Nodup := by rw [hcs]; exact cellsFrom_nodup hnn List.nodup_nil (by simp)
  have hcell : ∀ y b, (y, b) ∈ (callEnvC fd L a).cells → ∃ v, s₁.heap.IsCell b v := fun y b hm => ⟨_, x.cell y b (lookup_of_mem hkn hm)⟩
  have F : Frm ⟨prog, w, A.deeper (callEnvC fd L a), n, h₀, fo (callEnvC fd L a) ++ X, callEnvC fd L a, startRho fd.scope ps ds gl⟩ s₁ := by
    refine ⟨⟨fun b ob e => keep b ob (hO b ob e), ?_, hk, hglob, hblt, ⟨hR.handled, ?_, ?_⟩, ?_⟩, ⟨_, x.toInCall.ns⟩, hcell, fun b hb => List.mem_append_left _ hb, ?_, ?_, ?_⟩
    · intro b hb
      rcases List.mem_append.mp hb with hb | hb
      · rcases List.mem_cons.mp hb with rfl | hb
        · obtain ⟨ob, _, _, e, _⟩ := x.toInCall.ns; show (s₁.heap.get? (callEnvC fd _ a).locals).isSome = true; rw [e]; rfl
        · obtain ⟨⟨y, b'⟩, hm, rfl⟩ := List.mem_map.mp hb
          obtain ⟨v, ob, e, _⟩ := hcell y b' hm
          show (s₁.heap.get? b').isSome = true
          rw [e]; rfl
      · obtain ⟨ob, e⟩ := Option.isSome_iff_exists.mp (hX b hb); rw [keep b ob e]; rfl
    · have := hR.depth; show A.depth + 1 + n ≤ 900; omega
    · have := hR.units; show A.units + 3 + 10 * n ≤ 9000; omega
    · intro y k d' hy
      have upR : ∀ {v d}, Rep X s.heap v d → Rep (fo (callEnvC fd L a) ++ X) s₁.heap v d := fun {v d} r => (r.avoid fun b hb => by
        rcases List.mem_append.mp hb with h | h
        · exact .inr (hfoDead b h)
        · exact .inl h).up fun b ob _ e => keep b ob e
      simp only [startRho] at hy
      split at hy
      · rename_i d1 hd1
        obtain ⟨k1, hk1, e⟩ := Option.map_eq_some_iff.mp hy
        cases e
        obtain ⟨v, hv, rv⟩ := zip_lookup hr hd1
        refine ⟨v, upR rv, hk1, ?_⟩
        have hp := hps y (List.of_mem_zip (mem_of_lookup hd1)).1
        rw [hk1] at hp
        cases k with
        | «local» => exact .inl ⟨rfl, _, x.toInCall.ns, bindL_at (by rw [hmap]; exact hnd) hv hk1⟩
        | cell =>
          obtain ⟨b, hb⟩ := Option.isSome_iff_exists.mp (cellsFrom_some (k := L + 1) (acc := []) (.inr (mem_of_lookup hk1)))
          have hc := x.cell y b hb
          rw [bindC_at (by rw [hmap]; exact hnd) hv (by show fd.scope.names.lookup y ≠ _; rw [hk1]; decide)] at hc
          exact .inr (.inl ⟨rfl, b, hb, hc⟩)
        | free => cases hp
        | globalExplicit => cases hp
        | globalImplicit => cases hp
      · split at hy
        · rename_i hkg
          obtain ⟨v, hv, e⟩ := Option.map_eq_some_iff.mp hy
          cases e
          exact ⟨v, .val v, hkg, .inr (.inr ⟨rfl, rfl, hgl y v hv⟩)⟩
        · cases hy
    · intro b hb
      cases e : h₀.get? b with
      | none => rfl
      | some ob => have := hO b ob e; rw [hfoDead b hb] at this; cases this
    · intro y y' b h1 h2; exact name_of_addr x.apart h1 h2
    · intro y b hm; exact Ne.symm (Nat.ne_of_lt (x.above y b hm))
  refine wpAny_mono (hrun (A.deeper (callEnvC fd L a)) X L s₁ F _) (fun f s' h => ?_) fun _ _ e => e
  obtain ⟨v, mod, rfl, r, ⟨h', t', rfl, hm⟩, hmod⟩ := h
  refine ⟨r, ?_⟩
  obtain ⟨h1, t1, rfl⟩ := x.toInCall.same
  refine .mk' fun b ob e => hm b ob (fun q => ?_) (keep b ob e)
  rcases hmod b q with q | q
  · rw [hfoDead b q] at e; cases e
  · have := keep b ob e; rw [q] at this; cases this
end Mine
end

section
open PySem PySem.W PyProof.Rows SeqAt
set_option Elab.async false
set_option maxRecDepth 100000
set_option linter.unusedVariables false
namespace Mine

section
variable {c : Cx}
theorem EvL.callWithQ {es : List Expr} {ds : List D} (h : EvL c es ds) {pos : Pos} {f : Value} {first : List Value} (hk : KeepOk c f) {s : Shared} (o : c.ok s) {Q : Value → Shared → Prop} {E : Value → Shared → Prop}
    (hc : ∀ s1 vs, Kp s s1 → c.ok s1 → Reps c.X s1.heap vs ds → wpAny c.M c.A (call f (first ++ vs)) Q E s1) : wpAny c.M c.A (PySem.callWith pos f first (backTo pos (starEach es c.env)) []) Q E s := by
  refine callWith_of (P := fun h => ∀ b o, c.h₀.get? b = some o → h.get? b = some o) (by rw [h.plain]; rfl) hk ?_
  cases h with
  | nil => exact evalArgs_nil3 ⟨o.over, hc s [] (.refl s) o .nil⟩
  | cons h hs he =>
    have hr := EvL.run (EvL.cons h hs he) pos o E
    rw [he] at hr ⊢
    exact Calls.evalArgs_plain (wpAny_mono hr (fun vs s1 ⟨r, k⟩ => ⟨(o.keeps k).over, hc s1 vs k (o.keeps k) r⟩) fun _ _ e => e)

def rangeDs (lo hi : Int) : List D := (List.range (hi - lo).toNat).map fun i => .int (lo + (i : Nat))

theorem src_range {s₁ s : Shared} (o : c.ok s₁) (k : Kp s₁ s) {lo hi : Int} {t u v : Tok} {r : Addr} (hr : IsRange s.heap r lo hi 1 t u v) (h1 : -(2 ^ 62) ≤ lo) (h2 : lo < 2 ^ 62) (h3 : -(2 ^ 62) ≤ hi) (h4 : hi < 2 ^ 62) (E : Value → Shared → Prop) :
    wpAny c.M c.A (pyIter (.ref r)) (fun it s₂ => Src c s s₂ it (rangeDs lo hi)) E s := by
  refine wpAny_pyIter_range hr (small_one h1 h2 h3 h4) ?_
  have hsz : Builtin.Range.rangeSize lo hi 1 = ((hi - lo).toNat : Int) := by rw [rangeSize_one]; split <;> omega
  have hlen : (rangeDs lo hi).length = (hi - lo).toNat := by simp [rangeDs]
  refine ⟨s.heap.objs.size, [s.heap.objs.size], [s.heap.objs.size], _, fun i h => IsRangeIter h s.heap.objs.size (lo + (i : Nat) * 1) (((hi - lo).toNat : Int) - (i : Nat)) 1, rfl, fun A' hA => by rw [hlen]; exact (Walks.range hA _ lo 1 _).bound, ?_, ?_, ?_, ?_, fun v x px => rfl, ?_, .push s _ _⟩
  · have e1 : (lo + ((0 : Nat) : Int) * 1) = lo := by simp
    have e2 : (((hi - lo).toNat : Int) - ((0 : Nat) : Int)) = Builtin.Range.rangeSize lo hi 1 := by rw [hsz]; simp
    show IsRangeIter _ _ (lo + ((0 : Nat) : Int) * 1) (((hi - lo).toNat : Int) - ((0 : Nat) : Int)) 1
    rw [e1, e2]
    exact Heap.get?_push_size _ rfl
  · intro b hb
    simp only [List.mem_singleton] at hb
    subst hb
    exact ⟨by rw [Heap.size_push]; exact Nat.lt_succ_self _, (o.keeps k).fresh (get_none_size _)⟩
  · intro b hb; simp only [List.mem_singleton] at hb; subst hb; exact get_none_size _
  · intro i h st b hb; simp only [List.mem_singleton] at hb; subst hb
    rw [show h.get? s.heap.objs.size = _ from st]; rfl
  · rintro i v ⟨hi', t, rfl⟩
    refine ⟨.int (lo + i * 1), ?_, .int _ _⟩
    simp only [rangeDs, List.getElem?_map]
    rw [List.getElem?_range hi']
    simp

theorem EvIt.range1 {f e : Expr} {pos : Pos} {n : Int} (hf : Ev c f (.val (.type "range"))) (ha : Ev c e (.int n)) (h3 : -(2 ^ 62) ≤ n) (h4 : n < 2 ^ 62) (hse : starEach [e] c.env = [(false, eval e c.env)] := by rfl)
    (he : eval (.Call f [e] [] pos) c.env = (do callWith pos (← eval f c.env) [] (backTo pos (starEach [e] c.env)) (backToKw pos (keywordEach [] c.env))) := by rfl) : EvIt c (.Call f [e] [] pos) (rangeDs 0 n) := fun s o E =>
  Call_ (wpAny_mono (hf s o E) (fun v s1 ⟨r, k⟩ => by
    cases r
    refine (EvL.cons ha .nil hse).callWithQ (first := []) .type (o.keeps k) (fun s2 vs k2 o2 r2 => ?_)
    cases r2 with
    | cons hv hs =>
    cases hs
    cases hv
    exact call_range_1 ⟨(k.tr k2).tr (.push _ _ _), fun E' => src_range o2 (.push _ _ _) (IsRange.new ..) (by omega) (by omega) h3 h4 E'⟩) fun _ _ e => e) he
theorem EvIt.range2 {f e e2 : Expr} {pos : Pos} {m n : Int} (hf : Ev c f (.val (.type "range"))) (ha : Ev c e (.int m)) (ha2 : Ev c e2 (.int n)) (h1 : -(2 ^ 62) ≤ m) (h2 : m < 2 ^ 62) (h3 : -(2 ^ 62) ≤ n) (h4 : n < 2 ^ 62)
    (hse : starEach [e, e2] c.env = (false, eval e c.env) :: starEach [e2] c.env := by rfl) (hse2 : starEach [e2] c.env = [(false, eval e2 c.env)] := by rfl)
    (he : eval (.Call f [e, e2] [] pos) c.env = (do callWith pos (← eval f c.env) [] (backTo pos (starEach [e, e2] c.env)) (backToKw pos (keywordEach [] c.env))) := by rfl) : EvIt c (.Call f [e, e2] [] pos) (rangeDs m n) := fun s o E =>
  Call_ (wpAny_mono (hf s o E) (fun v s1 ⟨r, k⟩ => by
    cases r
    refine (EvL.cons ha (.cons ha2 .nil hse2) hse).callWithQ (first := []) .type (o.keeps k) (fun s2 vs k2 o2 r2 => ?_)
    cases r2 with
    | cons hv hs =>
    cases hs with
    | cons hv2 hs =>
    cases hs
    cases hv
    cases hv2
    exact call_range_2 ⟨(k.tr k2).tr (.push _ _ _), fun E' => src_range o2 (.push _ _ _) (IsRange.new ..) h1 h2 h3 h4 E'⟩) fun _ _ e => e) he

theorem Ev.ofValStr {e : Expr} {x : Str} {t : Tok} (h : Ev c e (.val (.str x t))) : Ev c e (.str x) := fun s o E => wpAny_mono (h s o E) (fun v s1 ⟨r, k⟩ => by cases r; exact ⟨.str _ _, k⟩) fun _ _ e => e
theorem Ev.cstr {x : Str} {k : Nat} {pos : Pos} (l : List Nat) (hx : x = T l := by rfl) : Ev c (.Constant (.str x) k pos) (S l) := fun s _ E => by
  subst hx
  exact fun _ _ _ => ⟨.str _ _, .toks s _⟩
end

/-! lists that a frame turns -/
def ML (X : List Addr) (s : Shared) (R : Addr) (ds : List D) : Prop := ∃ items : List Value, s.heap.PlainList R items.toArray ∧ Reps X s.heap items ds
theorem ML.kp {X : List Addr} {s s' : Shared} {R : Addr} {ds : List D} (h : ML X s R ds) (k : Kp s s') : ML X s' R ds := by
  obtain ⟨items, p, r⟩ := h
  exact ⟨items, p.at fun o e => k.get _ o e, r.keeps k⟩
theorem ML.mv {X own : List Addr} {s s' : Shared} {R : Addr} {ds : List D} (h : ML X s R ds) (m : Mv own s s') (hR : R ∉ own) (hX : ∀ b ∈ own, b ∈ X) : ML X s' R ds := by
  obtain ⟨items, p, r⟩ := h
  exact ⟨items, p.at fun o e => m.get _ o hR e, r.up fun b o hb e => m.get b o (fun q => hb (hX b q)) e⟩
theorem ML.rep {X Y : List Addr} {s : Shared} {R : Addr} {ds : List D} (h : ML X s R ds) (hY : ∀ b ∈ Y, b ∈ X) (hR : R ∉ Y) : Rep Y s.heap (.ref R) (.list ds) := by
  obtain ⟨items, p, r⟩ := h
  exact .list hR p.isList (r.avoid fun b hb => .inl (hY b hb)) p

section
variable {c : Cx} {s : Shared}

theorem ex_newList (F : Frm c s) {E : Value → Shared → Prop} {Q : Flow → Shared → Prop} {rest : List Stmt} {x : Str} {px pos lpos : Pos} (k : NameKind)
    (h : ∀ R s', s.heap.get? R = none → R ∉ fo c.env → c.h₀.get? R = none → Frm ((c.more [R]).set x k (.val (.ref R))) s' → ML (R :: c.X) s' R [] → Mv (fo c.env) s s' → wpAny c.M c.A (execs rest c.env) Q E s')
    (hx : c.env.kindOf x = some k := by first | kernel_rfl! | rfl) (hk : k = .local ∨ (k = .cell ∧ (c.env.cells.lookup x).isSome = true) := by first | exact .inl rfl | exact .inr ⟨rfl, by first | kernel_rfl! | rfl⟩)
    (hs : swapsWith (.List [] lpos) (some (.Name x px)) pos.line c.env = pure false := by first | kernel_rfl! | rfl) : wpAny c.M c.A (execs (.Assign [.Name x px] (.List [] lpos) pos :: rest) c.env) Q E s := by
  refine wpAny_execs_cons (wpAny_Assign_Name ?_ hs)
  rw [arm_eval_List]
  refine wpAny_bind (wpAny_standAt (wpAny_bind (Calls.spliced_nil (wpAny_newList ?_ (Nat.zero_le _)))))
  have hR : s.heap.get? s.heap.objs.size = none := get_none_size _
  have k1 : Kp s { s with heap := s.heap.push { cls := .type "list", data := .seq ([] : List Value).toArray } } := .push s _ s.toks
  have hp : (s.heap.push { cls := .type "list", data := .seq ([] : List Value).toArray }).PlainList s.heap.objs.size ([] : List Value).toArray := ⟨0, Heap.get?_push_size _ rfl⟩
  generalize s.heap.objs.size = R at hR hp ⊢
  have hRf : R ∉ fo c.env := fun q => by have := F.foLive R q; rw [hR] at this; cases this
  have hR0 : c.h₀.get? R = none := by
    cases e : c.h₀.get? R with
    | none => rfl
    | some ob => rw [F.ok.over R ob e] at hR; cases hR
  have F1 : Frm (c.more [R]) { s with heap := s.heap.push { cls := .type "list", data := .seq ([] : List Value).toArray } } := F.grow (by simpa using hR) k1.get (by
    intro b hb; rw [List.mem_singleton.mp hb]; obtain ⟨n, e⟩ := hp; show ((s.heap.push _).get? R).isSome = true; rw [e]; rfl)
  refine wpAny_mono (F1.store (.val (.ref R)) hx hk) (fun _ s2 ⟨F2, m2⟩ => ?_) fun _ _ e => e
  refine h R s2 hR hRf hR0 F2 ⟨[], hp.at fun o e => m2.get R o hRf e, .nil⟩ ((k1.mv _).tr m2)

/-- one turn of such a list -/
theorem Frm.turn {c : Cx} {s : Shared} {R : Addr} {es : List D} {h' : Heap} {t : Nat} {items' : List Value} (F : Frm c s) (hR : R ∈ c.X) (hRf : R ∉ fo c.env) (hR0 : c.h₀.get? R = none)
    (hp : h'.PlainList R items'.toArray) (hs : ∀ b o, b ≠ R → s.heap.get? b = some o → h'.get? b = some o) (r : Reps c.X s.heap items' es) :
    Frm c { s with heap := h', toks := t } ∧ ML c.X { s with heap := h', toks := t } R es ∧ Mv [R] s { s with heap := h', toks := t } := by
  refine ⟨F.touch (Y := [R]) (by simpa using hR) (by simpa using hRf) (by simpa using hR0) ?_ (fun b o hb e => hs b o (by simpa using hb) e), ⟨items', hp, r.up fun b o hb e => hs b o (fun q => hb (q ▸ hR)) e⟩, ⟨h', t, rfl, fun b o hb e => hs b o (by simpa using hb) e⟩⟩
  intro b hb; rw [List.mem_singleton.mp hb]; obtain ⟨n, e⟩ := hp; show (h'.get? R).isSome = true; rw [e]; rfl

theorem ex_append (F : Frm c s) {pl : Sem Bool} {E : Value → Shared → Prop} {Q : Flow → Shared → Prop} {rest : List Stmt} {o e : Expr} {apos cpos pos : Pos} {R : Addr} {ds : List D} {d : D} (hL : ML c.X s R ds) (hR : R ∈ c.X) (hRf : R ∉ fo c.env) (hR0 : c.h₀.get? R = none)
    (ho : Ev c o (.val (.ref R))) (he : Ev c e d) (hz : ds.length ≤ 16777216)
    (h : ∀ s', Frm c s' → ML c.X s' R (ds ++ [d]) → Mv [R] s s' → wpAny c.M c.A (execs rest c.env) Q E s')
    (hse : starEach [e] c.env = [(false, eval e c.env)] := by rfl)
    (hev : eval (.Call (.Attribute o "append" apos) [e] [] cpos) c.env = (do
      let ov ← eval o c.env
      standAt apos.atName
      let (f, first) ← holding [ov] (getMethod ov "append" pl)
      callWith cpos f first (backTo cpos (starEach [e] c.env)) []) := by rfl)
    (hi : interactive c.env = false := by first | kernel_rfl! | rfl) (hs : swapsWith (.Call (.Attribute o "append" apos) [e] [] cpos) none pos.line c.env = pure false := by first | kernel_rfl! | rfl) :
    wpAny c.M c.A (execs (.Expr (.Call (.Attribute o "append" apos) [e] [] cpos) pos :: rest) c.env) Q E s := by
  refine wpAny_execs_cons (wpAny_Expr (MethodCall_ (wpAny_mono (ho s F.ok E) (fun v s1 ⟨r, k1⟩ => ?_) fun _ _ e => e) hev) hi hs)
  cases r
  obtain ⟨items0, p0, _⟩ := hL.kp k1
  refine getMethod_builtin (T := "list") (id := "list.append") p0.isList.typeIs PySem.F.plainAttrs_list PySem.F.slot_list_append PySem.F.type_list_append (fun a ea => by cases ea; obtain ⟨n, e⟩ := p0; exact ⟨_, e, rfl⟩) ?_
  refine (EvL.cons he .nil hse).callWithQ (c := c) .builtin (F.kp k1).ok (fun s2 vs k2 o2 r2 => ?_)
  cases r2 with
  | cons hv hs2 =>
  cases hs2
  obtain ⟨items, p, r⟩ := hL.kp (k1.tr k2)
  refine wpAny_list_append_plain p (fun h' hl hsb => ?_) (by rw [List.size_toArray, r.length, sizeLine_eq]; exact hz)
  obtain ⟨F3, M3, V3⟩ := (F.kp (k1.tr k2)).turn (t := s2.toks) (items' := items ++ [_]) hR hRf hR0 (by simpa using hl) (fun b o hb e => hsb.extBut b o hb e) (r.snoc hv)
  exact h _ F3 M3 (((k1.tr k2).mv _).tr V3)

theorem callExtend {c : Cx} {s : Shared} {R : Addr} {ds es : List D} {v : Value} {Q : Value → Shared → Prop} {E : Value → Shared → Prop} (F : Frm c s) (hL : ML c.X s R ds) (hR : R ∈ c.X) (hRf : R ∉ fo c.env) (hR0 : c.h₀.get? R = none)
    (rv : Rep c.X s.heap v (.list es)) (hz : ds.length + es.length ≤ 16777216)
    (h : ∀ s', Frm c s' → ML c.X s' R (ds ++ es) → Mv [R] s s' → Q .none s') : wpAny c.M c.A (call (.builtin "list.extend") [.ref R, v]) Q E s := by
  cases rv with
  | @list b its2 _ hx hp hr hpl =>
  obtain ⟨items, p, r⟩ := hL
  obtain ⟨n, e⟩ := p
  obtain ⟨n2, e2⟩ := hpl
  have l1 := r.length; have l2 := hr.length
  refine call_meets PySem.F.slot_list_extend ⟨_, e, rfl⟩ PySem.F.entry_list_extend (PySem.F.args_list_extend_2 _ _) (PySem.AutoSeq1.list_extend_list_list_0 R items.toArray n b its2.toArray n2 ?_ (by rw [List.size_toArray, sizeLine_eq]; omega) (by rw [List.size_toArray, List.size_toArray, sizeLine_eq]; omega)) ⟨e, e2, ?_⟩
  · intro q
    simp only [Bool.and_eq_true] at q
    have q2 := q.2
    unfold Builtin.List.listTooLong at q2
    simp only [List.size_toArray, sizeLine_eq, decide_eq_true_eq] at q2
    omega
  · have hp' : (s.heap.update R (Obj.mapSeq fun xs => xs ++ its2.toArray)).PlainList R (items ++ its2).toArray := by
      have hq := Heap.get?_update_self (h := s.heap) (Obj.mapSeq fun xs => xs ++ its2.toArray) e rfl
      refine ⟨(if (items.toArray ++ its2.toArray).size == items.toArray.size then n else n + 1), hq.trans ?_⟩
      simp only [Obj.mapSeq, List.append_toArray]
    obtain ⟨F3, M3, V3⟩ := F.turn (t := s.toks) (items' := items ++ its2) hR hRf hR0 hp' (fun b o hb e => (Heap.SameBut.update ..).extBut b o hb e) (r.app hr)
    exact h _ F3 M3 V3

theorem ex_extend (F : Frm c s) {pl : Sem Bool} {E : Value → Shared → Prop} {Q : Flow → Shared → Prop} {rest : List Stmt} {o e : Expr} {apos cpos pos : Pos} {R : Addr} {ds es : List D} (hL : ML c.X s R ds) (hR : R ∈ c.X) (hRf : R ∉ fo c.env) (hR0 : c.h₀.get? R = none)
    (ho : ∀ E, wpAny c.M c.A (eval o c.env) (fun v s' => v = .ref R ∧ Kp s s') E s) (he : Ev c e (.list es)) (hz : ds.length + es.length ≤ 16777216)
    (h : ∀ s', Frm c s' → ML c.X s' R (ds ++ es) → Mv [R] s s' → wpAny c.M c.A (execs rest c.env) Q E s')
    (hse : starEach [e] c.env = [(false, eval e c.env)] := by rfl)
    (hev : eval (.Call (.Attribute o "extend" apos) [e] [] cpos) c.env = (do
      let ov ← eval o c.env
      standAt apos.atName
      let (f, first) ← holding [ov] (getMethod ov "extend" pl)
      callWith cpos f first (backTo cpos (starEach [e] c.env)) []) := by rfl)
    (hi : interactive c.env = false := by first | kernel_rfl! | rfl) (hs : swapsWith (.Call (.Attribute o "extend" apos) [e] [] cpos) none pos.line c.env = pure false := by first | kernel_rfl! | rfl) :
    wpAny c.M c.A (execs (.Expr (.Call (.Attribute o "extend" apos) [e] [] cpos) pos :: rest) c.env) Q E s := by
  refine wpAny_execs_cons (wpAny_Expr (MethodCall_ (wpAny_mono (ho E) (fun v s1 ⟨q, k1⟩ => ?_) fun _ _ e => e) hev) hi hs)
  subst q
  obtain ⟨items0, p0, _⟩ := hL.kp k1
  refine getMethod_builtin (T := "list") (id := "list.extend") p0.isList.typeIs PySem.F.plainAttrs_list PySem.F.slot_list_extend PySem.F.type_list_extend (fun a ea => by cases ea; obtain ⟨n, e⟩ := p0; exact ⟨_, e, rfl⟩) ?_
  refine (EvL.cons he .nil hse).callWithQ (c := c) .builtin (F.kp k1).ok (fun s2 vs k2 o2 r2 => ?_)
  cases r2 with
  | cons hv hs2 =>
  cases hs2
  exact callExtend (F.kp (k1.tr k2)) (hL.kp (k1.tr k2)) hR hRf hR0 hv hz fun s3 F3 M3 V3 => h s3 F3 M3 (((k1.tr k2).mv _).tr V3)
end

theorem Frm.unset {c : Cx} {s : Shared} {x : Str} {k : NameKind} {d : D} (F : Frm (c.set x k d) s) (h : c.ρ x = none) : Frm c s :=
  Frm.less (c := c.set x k d) (ρ := c.ρ) F fun y k' d' e => by
    show (if y = x then _ else c.ρ y) = _
    by_cases hy : y = x
    · subst hy; rw [h] at e; cases e
    · rw [if_neg hy]; exact e
theorem rangeDs_at {lo hi : Int} {i : Nat} {d : D} (h : (rangeDs lo hi)[i]? = some d) : d = .int (lo + (i : Nat)) ∧ i < (hi - lo).toNat := by
  unfold rangeDs at h
  rw [List.getElem?_map] at h
  obtain ⟨j, hj, rfl⟩ := Option.map_eq_some_iff.mp h
  have : i < (hi - lo).toNat := by
    have := (List.getElem?_eq_some_iff.mp hj).1
    simpa using this
  rw [List.getElem?_range this] at hj
  cases hj
  exact ⟨rfl, this⟩
theorem rangeDs_len {lo hi : Int} : (rangeDs lo hi).length = (hi - lo).toNat := by simp [rangeDs]

/-- a for that leaves the names as they are -/
theorem ex_forC {c : Cx} {s : Shared} (F : Frm c s) {E : Value → Shared → Prop} {Q : Flow → Shared → Prop} {rest : List Stmt} {x : Str} {px pos : Pos} {iter : Expr} {body : List Stmt} (kd : NameKind) {ds : List D} (hit : EvIt c iter ds)
    (hbody : ∀ (wr : List Addr) (i : Nat) (d : D) (s' : Shared), (∀ b ∈ wr, s.heap.get? b = none) → ds[i]? = some d → Frm ((c.more wr).set x kd d) s' → Mv (fo c.env) s s' → ∀ E',
      wpAny c.M c.A (execs body c.env) (fun f s3 => match f with
        | .next | .cont => Frm (c.more wr) s3 ∧ Mv (fo c.env) s' s3
        | .brk => False
        | .ret v => Q (.ret v) s3) E' s')
    (hend : ∀ s', Frm c s' → Mv (fo c.env) s s' → wpAny c.M c.A (execs rest c.env) Q E s')
    (hx : c.env.kindOf x = some kd := by first | kernel_rfl! | rfl) (hk : kd = .local ∨ (kd = .cell ∧ (c.env.cells.lookup x).isSome = true) := by first | exact .inl rfl | exact .inr ⟨rfl, by first | kernel_rfl! | rfl⟩)
    (hs : ∀ v, foldedSetIterable iter c.env v = pure v := by intro _; first | kernel_rfl! | rfl) :
    wpAny c.M c.A (execs (.For (.Name x px) iter body [] pos :: rest) c.env) Q E s := by
  refine ex_for F kd (fo c.env) (fun _ => c.ρ) (fun _ _ _ => True) hit (fun b hb => F.sub b hb) (fun b hb => hb) (fun _ _ _ h => h) (fun _ _ _ _ _ => trivial) (fun _ _ _ _ _ _ _ => trivial) ?_ (fun wr s' hwr F' _ m => hend s' F' m) hx hk hs
  intro wr i d s' hwr hd F' _ m E'
  refine wpAny_mono (hbody wr i d s' hwr hd F' m E') (fun f s3 h => ?_) fun _ _ e => e
  cases f with
  | next => exact ⟨h.1, trivial, h.2⟩
  | cont => exact ⟨h.1, trivial, h.2⟩
  | brk => exact h
  | ret v => exact h

/-! over a list of plain things -/
open Classical in
noncomputable def lift {α β : Type} (mk : α → D) (z : β) (f : α → β) (d : D) : β := if h : ∃ a, mk a = d then f h.choose else z
theorem lift_mk {α β : Type} {mk : α → D} (hi : ∀ a b, mk a = mk b → a = b) (z : β) (f : α → β) (a : α) : lift mk z f (mk a) = f a := by
  unfold lift
  have h : ∃ b, mk b = mk a := ⟨a, rfl⟩
  rw [dif_pos h]
  rw [hi _ _ h.choose_spec]
theorem lift_all {α : Type} {mk : α → D} (hi : ∀ a b, mk a = mk b → a = b) (pb : α → Bool) (f : α → D) (xs : List α) :
    ((xs.map mk).filter (lift mk false pb)).map (lift mk D.none f) = (xs.filter pb).map f := by
  induction xs with
  | nil => rfl
  | cons a r ih =>
    simp only [List.map_cons, List.filter_cons, lift_mk hi]
    split
    · simp only [List.map_cons, lift_mk hi, ih]
    · exact ih
theorem S_inj : ∀ a b : List Nat, S a = S b → a = b := fun a b h => by simpa [S, T] using h
abbrev LL (p : List (List Nat)) : D := .list (p.map S)
theorem mapS_inj : ∀ a b : List (List Nat), a.map S = b.map S → a = b
  | [], [], _ => rfl
  | [], _ :: _, h => by simp at h
  | _ :: _, [], h => by simp at h
  | x :: a, y :: b, h => by
    rw [List.map_cons, List.map_cons, List.cons.injEq] at h
    rw [S_inj _ _ h.1, mapS_inj a b h.2]
theorem LL_inj : ∀ a b : List (List Nat), LL a = LL b → a = b := fun a b h => by
  have := D.list.inj h
  exact mapS_inj a b this
theorem int_inj : ∀ a b : Int, D.int a = D.int b → a = b := fun a b h => D.int.inj h

theorem Ev.compM {c : Cx} {α : Type} {mk : α → D} (hi : ∀ a b, mk a = mk b → a = b) {elt iter : Expr} {x : Str} {px : Pos} {ifs : List Expr} {scope : Scope} {pos : Pos} (k : NameKind) {xs : List α} (pb : α → Bool) (f : α → D) (hit : EvIt c iter (xs.map mk))
    (htests : ∀ a ∈ xs, ∀ env X, EvTests (kid c X env scope x k (mk a)) ifs (pb a))
    (helt : ∀ a ∈ xs, pb a = true → ∀ env X, Ev (kid c X env scope x k (mk a)) elt (f a))
    (hz : xs.length ≤ 16777216) (hok : compOkB c.ρ scope x k = true := by first | kernel_rfl! | rfl) (hs : ∀ v, foldedSetIterable iter c.env v = pure v := by intro _; first | kernel_rfl! | rfl) :
    Ev c (.ListComp elt [⟨.Name x px, iter, ifs, 0⟩] scope pos) (.list ((xs.filter pb).map f)) :=
  (Ev.comp k (lift mk false pb) (lift mk D.none f) hit
    (fun d hd env X => by obtain ⟨a, ha, rfl⟩ := List.mem_map.mp hd; rw [lift_mk hi]; exact htests a ha env X)
    (fun d hd hp env X => by obtain ⟨a, ha, rfl⟩ := List.mem_map.mp hd; rw [lift_mk hi] at hp ⊢; exact helt a ha hp env X)
    (by simpa using hz) hok hs).as (by rw [lift_all hi])

theorem ex_assignCompM {c : Cx} {s : Shared} (F : Frm c s) {E : Value → Shared → Prop} {Q : Flow → Shared → Prop} {rest : List Stmt} {α : Type} {mk : α → D} (hi : ∀ a b, mk a = mk b → a = b) {x y : Str} {px py pos cpos : Pos} {elt iter : Expr} {ifs : List Expr} {scope : Scope} (k : NameKind) {xs : List α} (pb : α → Bool) (f : α → D)
    (hit : EvIt c iter (xs.map mk))
    (htests : ∀ a ∈ xs, ∀ env X, EvTests (kid c X env scope y k (mk a)) ifs (pb a))
    (helt : ∀ a ∈ xs, pb a = true → ∀ env X, Ev (kid c X env scope y k (mk a)) elt (f a))
    (hz : xs.length ≤ 16777216)
    (h : ∀ s', Frm (c.set x .local (.list ((xs.filter pb).map f))) s' → Mv (fo c.env) s s' → wpAny c.M c.A (execs rest c.env) Q E s')
    (hok : compOkB c.ρ scope y k = true := by first | kernel_rfl! | rfl) (hsi : ∀ v, foldedSetIterable iter c.env v = pure v := by intro _; first | kernel_rfl! | rfl)
    (hx : c.env.kindOf x = some .local := by first | kernel_rfl! | rfl)
    (hs : swapsWith (.ListComp elt [⟨.Name y py, iter, ifs, 0⟩] scope cpos) (some (.Name x px)) pos.line c.env = pure true := by first | kernel_rfl! | rfl) :
    wpAny c.M c.A (execs (.Assign [.Name x px] (.ListComp elt [⟨.Name y py, iter, ifs, 0⟩] scope cpos) pos :: rest) c.env) Q E s :=
  ex_assignComp F k (lift mk false pb) (lift mk D.none f) hit
    (fun d hd env X => by obtain ⟨a, ha, rfl⟩ := List.mem_map.mp hd; rw [lift_mk hi]; exact htests a ha env X)
    (fun d hd hp env X => by obtain ⟨a, ha, rfl⟩ := List.mem_map.mp hd; rw [lift_mk hi] at hp ⊢; exact helt a ha hp env X)
    (by simpa using hz) (fun s' F' m => h s' (by rw [lift_all hi] at F'; exact F') m) hok hsi hx hs

theorem pslice_map {α β : Type} (lo hi : Option Int) (f : α → β) (l : List α) : pslice lo hi (l.map f) = (pslice lo hi l).map f := by
  simp [pslice, List.map_drop, List.map_take]

theorem EvT.or2 {c : Cx} {e1 e2 : Expr} {pos : Pos} {a b : Bool} (h1 : EvT c e1 a) (h2 : a = false → EvT c e2 b) : EvT c (.BoolOp .Or [e1, e2] pos) (a || b) := fun s o E => by
  show wpAny _ _ (isTrue e1 c.env (eval e1 c.env) >>= _) _ _ _
  refine wpAny_bind (wpAny_mono (h1 s o E) (fun r s' ⟨q, k⟩ => ?_) fun _ _ e => e)
  subst q
  cases r with
  | true => exact wpAny_pure ⟨by simp, k⟩
  | false =>
    show wpAny _ _ (isTrue e2 c.env (eval e2 c.env) >>= _) _ _ _
    refine wpAny_bind (wpAny_mono (h2 rfl s' (o.keeps k) E) (fun r2 s2 ⟨q2, k2⟩ => ?_) fun _ _ e => e)
    subst q2
    cases r2 with
    | false => exact wpAny_pure ⟨rfl, k.tr k2⟩
    | true => exact wpAny_pure ⟨rfl, k.tr k2⟩
theorem EvT.or3 {c : Cx} {e1 e2 e3 : Expr} {pos : Pos} (h1 : EvT c e1 false) (h2 : EvT c e2 false) (h3 : EvT c e3 false) : EvT c (.BoolOp .Or [e1, e2, e3] pos) false := fun s o E => by
  show wpAny _ _ (isTrue e1 c.env (eval e1 c.env) >>= _) _ _ _
  refine wpAny_bind (wpAny_mono (h1 s o E) (fun r s' ⟨q, k⟩ => ?_) fun _ _ e => e)
  subst q
  show wpAny _ _ (isTrue e2 c.env (eval e2 c.env) >>= _) _ _ _
  refine wpAny_bind (wpAny_mono (h2 s' (o.keeps k) E) (fun r2 s2 ⟨q2, k2⟩ => ?_) fun _ _ e => e)
  subst q2
  show wpAny _ _ (isTrue e3 c.env (eval e3 c.env) >>= _) _ _ _
  refine wpAny_bind (wpAny_mono (h3 s2 ((o.keeps k).keeps k2) E) (fun r3 s3 ⟨q3, k3⟩ => ?_) fun _ _ e => e)
  subst q3
  exact wpAny_pure ⟨rfl, (k.tr k2).tr k3⟩
theorem Ev.ite {c : Cx} {t a b : Expr} {pos : Pos} {p : Bool} {d1 d2 : D} (ht : EvT c t p) (h1 : p = true → Ev c a d1) (h2 : p = false → Ev c b d2) : Ev c (.IfExp t a b pos) (if p = true then d1 else d2) := fun s o E => by
  show wpAny _ _ (isTrue t c.env (eval t c.env) >>= fun r => if r then eval a c.env else eval b c.env) _ _ _
  refine wpAny_bind (wpAny_mono (ht s o E) (fun r s' ⟨q, k⟩ => ?_) fun _ _ e => e)
  subst q
  cases r with
  | true => exact wpAny_mono (h1 rfl s' (o.keeps k) E) (fun v s2 ⟨r2, k2⟩ => ⟨r2, k.tr k2⟩) fun _ _ e => e
  | false => exact wpAny_mono (h2 rfl s' (o.keeps k) E) (fun v s2 ⟨r2, k2⟩ => ⟨r2, k.tr k2⟩) fun _ _ e => e

theorem Ev.refOf {c : Cx} {o : Expr} {R : Addr} (h : Ev c o (.val (.ref R))) {s : Shared} (ok : c.ok s) : ∀ E, wpAny c.M c.A (eval o c.env) (fun v s' => v = .ref R ∧ Kp s s') E s := fun E =>
  wpAny_mono (h s ok E) (fun v s1 ⟨r, k⟩ => by cases r; exact ⟨rfl, k⟩) fun _ _ e => e
theorem ML.more {X : List Addr} {s : Shared} {R : Addr} {ds : List D} (h : ML X s R ds) {s' : Shared} {wr : List Addr} (hw : ∀ b ∈ wr, s.heap.get? b = none) (k : Kp s s') : ML (wr ++ X) s' R ds := by
  obtain ⟨items, p, r⟩ := h
  exact ⟨items, p.at fun o e => k.get _ o e, (r.avoid fun b hb => by
    rcases List.mem_append.mp hb with q | q
    · exact .inr (hw b q)
    · exact .inl q).keeps k⟩
theorem ML.less {X Y : List Addr} {s : Shared} {R : Addr} {ds : List D} (h : ML X s R ds) (hY : ∀ b ∈ Y, b ∈ X) : ML Y s R ds := by
  obtain ⟨items, p, r⟩ := h
  exact ⟨items, p, r.avoid fun b hb => .inl (hY b hb)⟩
theorem mulOk_small {a b : Int} (h1 : 0 ≤ a) (h2 : a < 2 ^ 60) : IntMulOk a b := .of_left (intBits_le_64 (by omega) (by omega))
end Mine
end

section
open PySem PySem.W PyProof.Rows SeqAt
set_option Elab.async false
set_option maxRecDepth 100000
set_option linter.unusedVariables false
namespace Mine
noncomputable abbrev KK (P : Params) : Frag := hd.heap_39 P

structure Base (w : World) (h₀ : Heap) (mg mb : Str → Option Value) : Prop where
  K : (KK w.params).In h₀
  g : h₀.Ns mainGlobals mg
  b : h₀.Ns builtinsNs mb
  lim : h₀.NoLimit
  blt : ∀ x : Str, x ≠ "__name__" → mb x = bootBuiltins x

abbrev PR : Program := PySem.Challenge.rw_sc0025_01.row.prog

section
variable {w : World} {h₀ : Heap} {mg mb : Str → Option Value}
theorem globK (B : Base w h₀ mg mb) {x : Str} {v : Value} (e : nsIn (KK w.params) mainGlobals x = some (some v)) : GlobalIs PR w h₀ x v := fun A env s Q E hg hb hO h =>
  Calls.loadGlobal_global (mg := mg) (by rw [hg]; exact B.g.keeps hO) (mg_of B.K B.g e) h
theorem globB (B : Base w h₀ mg mb) {x : Str} {v : Value} (e : nsIn (KK w.params) mainGlobals x = some none) (hv : bootBuiltins x = some v) (hn : x ≠ "__name__") : GlobalIs PR w h₀ x v := fun A env s Q E hg hb hO h =>
  Calls.loadGlobal_builtin (mg := mg) (mb := mb) (by rw [hg]; exact B.g.keeps hO) (mg_none_of B.K B.g e) (by rw [hb]; exact B.b.keeps hO) ((B.blt x hn).trans hv) h

def GL : List (Str × Value) := [("Entry", .ref 76), ("merge_entries", .ref 87), ("_twin_re_1", .ref 92), ("_twin_re_2", .ref 97), ("CRLF", .str "\x0d\n" 418), ("quotedata", .ref 104), ("_law_record", .ref 111),
  ("_law_rows_at", .ref 116), ("_law_lists", .ref 121), ("_law_meet_once", .ref 126), ("_law_put_together", .ref 131), ("len", .builtin "len"), ("range", .type "range"), ("zip", .type "zip"), ("sum", .builtin "sum"),
  ("set", .type "set"), ("list", .type "list"), ("filter", .type "filter")]

theorem allG {prog : Program} {w : World} {h₀ : Heap} : ∀ {l : List (Str × Value)}, (∀ x ∈ l, GlobalIs prog w h₀ x.1 x.2) → ∀ y v, l.lookup y = some v → GlobalIs prog w h₀ y v := fun h y v e => h (y, v) (mem_of_lookup e)
theorem glob (B : Base w h₀ mg mb) : ∀ y v, GL.lookup y = some v → GlobalIs PR w h₀ y v := by
  refine allG ?_
  unfold GL
  simp only [List.mem_cons, List.not_mem_nil, or_false, forall_eq_or_imp, forall_eq]
  refine ⟨globK B (by rfl), globK B (by rfl), globK B (by rfl), globK B (by rfl), globK B (by rfl), globK B (by rfl), globK B (by rfl), globK B (by rfl), globK B (by rfl), globK B (by rfl), globK B (by rfl),
    globB B (by rfl) (by rfl) (by decide), globB B (by rfl) (by rfl) (by decide), globB B (by rfl) (by rfl) (by decide), globB B (by rfl) (by rfl) (by decide), globB B (by rfl) (by rfl) (by decide), globB B (by rfl) (by rfl) (by decide), globB B (by rfl) (by rfl) (by decide)⟩
end

/-- a def of the text, by its address -/
noncomputable def fdAt (P : Params) (a : Addr) : FuncData := match (KK P).lookup a with
  | some ⟨_, _, .func fd, _⟩ => fd
  | _ => default
noncomputable abbrev envK (P : Params) (a L : Addr) : Env := callEnvC (fdAt P a) L a
noncomputable abbrev cx (w : World) (A : Around) (n : Nat) (h₀ : Heap) (X : List Addr) (L a : Addr) (ps : List Str) (ds : List D) : Cx :=
  ⟨PR, w, A, n, h₀, fo (envK w.params a L) ++ X, envK w.params a L, startRho (fdAt w.params a).scope ps ds GL⟩

theorem Fn.ofK {w : World} {h₀ : Heap} {mg mb : Str → Option Value} (B : Base w h₀ mg mb) (a : Addr) (n : Nat) {body : List Stmt} (ps : List Str) {ds : List D} {d : D} {o : Obj}
    (ho : (KK w.params).lookup a = some o) (hdata : o.data = .func (fdAt w.params a)) (hcd : codeIn (KK w.params) (fdAt w.params a).code (fdAt w.params a).qualname = true) (hbody : (fdAt w.params a).body = .stmts body)
    (hbind : ∀ vs, vs.length = ds.length → bindArgs (fdAt w.params a) ⟨vs, []⟩ = pure (ps.zip vs)) (hlen : ps.length = ds.length) (hclo : (fdAt w.params a).closure = []) (hglob : (fdAt w.params a).globals = mainGlobals) (hblt : (fdAt w.params a).builtins = builtinsNs)
    (hok : startOkB (fdAt w.params a).scope ps = true)
    (hrun : ∀ (A' : Around) (X : List Addr) (L : Addr) (s₁ : Shared), Frm (cx w A' n h₀ X L a ps ds) s₁ → ∀ E',
      wpAny (model PR w) A' (execs body (envK w.params a L)) (fun f s' => ∃ v mod, f = .ret v ∧ Rep X s'.heap v d ∧ Mv mod s₁ s' ∧ ∀ b ∈ mod, b ∈ fo (envK w.params a L) ∨ s₁.heap.get? b = none) E' s₁)
    (hco : (fdAt w.params a).scope.isCoroutine = false := by kernel_rfl!) (hgen : (fdAt w.params a).scope.isGenerator = false := by kernel_rfl!) (hk : (fdAt w.params a).scope.kind = .function := by kernel_rfl!) : Fn PR w h₀ (n + 1) (.ref a) ds d :=
  Fn.of_body (B.K _ _ ho) hdata B.lim (codeRec_of B.K hcd) hbody hbind hlen hclo hglob hblt hok (glob B) hrun hco hgen hk
end Mine
end

section
open PySem PySem.W PyProof.Rows SeqAt
set_option Elab.async false
set_option maxRecDepth 100000
set_option maxHeartbeats 1000000
set_option linter.unusedVariables false
namespace Mine

def headsOf (L : List (List (List Nat))) : List (List Nat) := (L.filter (!·.isEmpty)).map (·.headD [])
def freeOf (L : List (List (List Nat))) : List (List Nat) := (headsOf L).filter fun r => (L.filter fun rows => rows.contains r && rows.headD [] != r).isEmpty
def nextOf (L : List (List (List Nat))) (r : List Nat) : List (List (List Nat)) := L.map fun rows => if (rows.take 1 == [r]) = true then rows.drop 1 else rows

theorem head_at {p : List (List Nat)} (h : p ≠ []) : (p.map S)[(0 : Int).toNat]? = some (S (p.headD [])) := by
  cases p with
  | nil => exact absurd rfl h
  | cons x r => rfl

noncomputable def putRho (w : World) (A' : Around) (h₀ : Heap) (X : List Addr) (L R : Addr) (Ls : Nat → List (List (List Nat))) (i : Nat) : Rho := fun y =>
  if y = "lists" then some (.cell, .list ((Ls i).map LL)) else if y = "told" then some (.local, .val (.ref R)) else (cx w A' 1 h₀ X L 131 ["lists"] [.list ((Ls 0).map LL)]).ρ y

theorem put_fn {w : World} {h₀ : Heap} {mg mb : Str → Option Value} (B : Base w h₀ mg mb) (Ls : Nat → List (List (List Nat))) (out : List (List Nat))
    (hz : out.length ≤ 100) (hzL : ∀ i, (Ls i).length ≤ 100) (hzp : ∀ i, ∀ p ∈ Ls i, p.length ≤ 100)
    (hstep : ∀ i (h : i < out.length), ∃ tail, freeOf (Ls i) = out[i] :: tail ∧ (∀ x ∈ tail, x = out[i]) ∧ Ls (i + 1) = nextOf (Ls i) out[i])
    (hend : ∀ p ∈ Ls out.length, p = []) :
    Fn PR w h₀ 2 (.ref 131) [.list ((Ls 0).map LL)] (LL out) := by
  refine Fn.ofK B 131 1 ["lists"] rfl rfl (by kernel_rfl!) rfl (fun vs h => ?_) rfl rfl rfl rfl (by kernel_rfl!) ?_
  · match vs, h with
    | [a], _ => kernel_rfl!
  intro A' X L s₁ F E'
  refine ex_newList F .local ?_
  intro R s2 hR hRf hR0 F2 hM2 V2
  refine ex_while F2 (R :: fo (envK w.params 131 L)) out.length (putRho w A' h₀ X L R Ls)
    (fun i s' => ML (R :: (fo (envK w.params 131 L) ++ X)) s' R ((out.take i).map S)) ?_ hM2 (fun b hb => List.mem_cons_of_mem _ hb) (fun i s1 s2 h k => h.kp k) ?_ ?_ ?_
  · intro y k d e
    show (if y = "told" then _ else _) = _
    unfold putRho at e
    split at e
    · rename_i q; subst q; cases e; kernel_rfl!
    · exact e
  · intro i hi
    refine (EvT.cmp (Ev.compM LL_inj .local (xs := Ls i) (fun p => !p.isEmpty) LL (EvIt.list (Ev.name rfl)) ?_ ?_ ?_) (Ev.list .nil) Op2.neNil).as ?_
    · intro p _ env X'
      exact .one ((EvT.cmp (Ev.name rfl) (Ev.list .nil) Op2.neNil).as (by simp))
    · intro p _ _ env X'
      exact Ev.name rfl
    · have := hzL i; omega
    · simp only [List.isEmpty_map]
      rcases Nat.lt_or_ge i out.length with hlt | hge
      · obtain ⟨tail, hf, _, _⟩ := hstep i hlt
        have : (Ls i).filter (fun p => !p.isEmpty) ≠ [] := fun q => by
          simp [freeOf, headsOf, q] at hf
        simp [hlt, this]
      · have e : i = out.length := by omega
        subst e
        have : (Ls out.length).filter (fun p => !p.isEmpty) = [] := by
          rw [List.filter_eq_nil_iff]; intro p hp; simp [hend p hp]
        simp [this]
  · intro i s' hi F3 hM3 V3 E3
    obtain ⟨tail, hfree, htail, hnext⟩ := hstep i hi
    have hzi := hzL i
    have hhl : (headsOf (Ls i)).length ≤ 100 := by
      have := List.length_filter_le (fun p : List (List Nat) => !p.isEmpty) (Ls i)
      simp only [headsOf, List.length_map]; omega
    have hfl : (freeOf (Ls i)).length ≤ 100 := Nat.le_trans (List.length_filter_le _ _) hhl
    refine ex_assignCompM F3 LL_inj .local (xs := Ls i) (fun p => !p.isEmpty) (fun p => S (p.headD [])) (EvIt.list (Ev.name rfl)) ?_ ?_ (by omega) ?_
    · intro p _ env X'
      exact .one ((EvT.cmp (Ev.name rfl) (Ev.list .nil) Op2.neNil).as (by simp))
    · intro p _ hp env X'
      exact Ev.itemL (Ev.name rfl) Ev.cint (by decide) (by decide) (head_at (by simpa using hp))
    intro s4 F4 V4
    rw [show ((Ls i).filter (fun p => !p.isEmpty)).map (fun p => S (p.headD [])) = (headsOf (Ls i)).map S from by simp [headsOf]] at F4
    refine ex_assign F4 .cell (Ev.compM S_inj .cell (xs := headsOf (Ls i)) (fun r => ((Ls i).filter fun rows => rows.contains r && rows.headD [] != r).isEmpty) S (EvIt.list (Ev.name rfl)) ?_ (fun _ _ _ _ _ => Ev.name rfl) (by omega)) ?_
    · intro r _ env X'
      refine .one ((EvT.cmp (Ev.compM LL_inj .local (xs := Ls i) (fun rows => rows.contains r && rows.headD [] != r) LL (EvIt.list (Ev.name rfl)) ?_ (fun _ _ _ _ _ => Ev.name rfl) (by omega)) (Ev.list .nil) Op2.eqNil).as (by simp only [List.isEmpty_map]))
      intro rows _ env X'
      exact .one (.and2 (.cmp (Ev.name rfl) (Ev.name rfl) Op2.inLS) fun h => .cmp (Ev.itemL (Ev.name rfl) Ev.cint (by decide) (by decide) (head_at (by rintro rfl; simp at h))) (Ev.name rfl) Op2.neS)
    intro s5 F5 V5
    rw [show ((headsOf (Ls i)).filter fun r => ((Ls i).filter fun rows => rows.contains r && rows.headD [] != r).isEmpty) = freeOf (Ls i) from rfl] at F5
    have free0 : ((freeOf (Ls i)).map S)[(0 : Int).toNat]? = some (S out[i]) := by rw [hfree]; rfl
    refine ex_if_no F5 ((EvT.or2 (.cmp (Ev.name rfl) (Ev.list .nil) Op2.eqNil) fun _ => .cmp (Ev.compM S_inj .local (xs := freeOf (Ls i)) (fun r => r != out[i]) S (EvIt.list (Ev.name rfl)) ?_ (fun _ _ _ _ _ => Ev.name rfl) (by omega)) (Ev.list .nil) Op2.neNil).as ?_) ?_
    · intro r _ env X'
      exact .one (.cmp (Ev.name rfl) (Ev.itemL (Ev.name rfl) Ev.cint (by decide) (by decide) free0) Op2.neS)
    · have : (freeOf (Ls i)).filter (fun r => r != out[i]) = [] := by
        rw [hfree, List.filter_eq_nil_iff]
        intro x hx
        rcases List.mem_cons.mp hx with rfl | hx
        · simp
        · simp [htail x hx]
      rw [this, hfree]; rfl
    intro s6 F6 k6
    have hM6 : ML (R :: (fo (envK w.params 131 L) ++ X)) s6 R ((out.take i).map S) := by
      refine (((hM3.mv V4 hRf ?_).mv V5 hRf ?_)).kp k6
      all_goals exact fun b hb => List.mem_cons_of_mem _ (List.mem_append_left _ hb)
    refine ex_append F6 hM6 List.mem_cons_self hRf hR0 (Ev.name rfl) (Ev.itemL (Ev.name rfl) Ev.cint (by decide) (by decide) free0) (by simp; omega) ?_
    intro s7 F7 hM7 V7
    have ht : (out.take i).map S ++ [S out[i]] = (out.take (i + 1)).map S := by
      rw [List.take_add_one, List.map_append]; simp [hi]
    rw [ht] at hM7
    have one : ∀ {c : Cx} {v : Expr} {p : List (List Nat)} {pos pos' : Pos} {k : Nat} {pos'' : Pos}, p.length ≤ 100 → Ev c v (LL p) → (∀ o r, letTemporaryGo v o r = pure ()) → Ev c (.Subscript v (.Slice none (some (.Constant (.int 1) k pos'')) none pos) pos') (LL (p.take 1)) := fun hp h hl =>
      (Ev.sliceL h .none (.some Ev.cint) (by simp; omega) hl).as (by rw [show (1 : Int) = ((1 : Nat) : Int) from rfl, pslice_to, ← List.map_take])
    refine ex_assign F7 .cell (Ev.compM LL_inj .local (xs := Ls i) (fun _ => true) (fun rows => if (rows.take 1 == (freeOf (Ls i)).take 1) = true then LL (rows.drop 1) else LL rows) (EvIt.list (Ev.name rfl)) (fun _ _ _ _ => .nil) ?_ (by omega)) ?_
    · intro rows hr _ env X'
      have hzr := hzp i rows hr
      exact Ev.ite (.cmp (one hzr (Ev.name rfl) (fun _ _ => rfl)) (one hfl (Ev.name rfl) (fun _ _ => rfl)) Op2.eqLS)
        (fun _ => (Ev.sliceL (Ev.name rfl) (.some Ev.cint) .none (by simp; omega)).as (by rw [show (1 : Int) = ((1 : Nat) : Int) from rfl, pslice_from, ← List.map_drop])) (fun _ => Ev.name rfl)
    intro s8 F8 V8
    have hlast : ((Ls i).filter (fun _ => true)).map (fun rows => if (rows.take 1 == (freeOf (Ls i)).take 1) = true then LL (rows.drop 1) else LL rows) = (Ls (i + 1)).map LL := by
      have e1 : (freeOf (Ls i)).take 1 = [out[i]] := by rw [hfree]; rfl
      rw [hnext, e1]
      rw [List.filter_eq_self.mpr (fun _ _ => rfl)]
      simp only [nextOf, List.map_map]
      refine List.map_congr_left fun rows _ => ?_
      simp only [Function.comp]
      by_cases hq : (rows.take 1 == [out[i]]) = true
      · rw [if_pos hq, if_pos hq]
      · rw [if_neg hq, if_neg hq]
    rw [hlast] at F8
    refine wpAny_execs_nil ⟨?_, ?_, ?_⟩
    · have F9 := Frm.less F8 (ρ := putRho w A' h₀ X L R Ls (i + 1)) ?_
      exact F9
      intro y k d e
      unfold putRho at e
      show (if y = "lists" then _ else if y = "free" then _ else if y = "heads" then _ else if y = "lists" then _ else _) = _
      by_cases h1 : y = "lists"
      · subst h1; exact e
      · have e' : (if y = "told" then some (NameKind.local, D.val (Value.ref R)) else (cx w A' 1 h₀ X L 131 ["lists"] [.list ((Ls 0).map LL)]).ρ y) = some (k, d) := by
          have := e; dsimp only at this; rw [if_neg h1] at this; exact this
        rw [if_neg h1]
        by_cases h2 : y = "free"
        · subst h2
          have : (if (("free" : Str) = ("told" : Str)) then some (NameKind.local, D.val (Value.ref R)) else (cx w A' 1 h₀ X L 131 ["lists"] [.list ((Ls 0).map LL)]).ρ "free") = none := by kernel_rfl!
          rw [this] at e'; cases e'
        · rw [if_neg h2]
          by_cases h3 : y = "heads"
          · subst h3
            have : (if (("heads" : Str) = ("told" : Str)) then some (NameKind.local, D.val (Value.ref R)) else (cx w A' 1 h₀ X L 131 ["lists"] [.list ((Ls 0).map LL)]).ρ "heads") = none := by kernel_rfl!
            rw [this] at e'; cases e'
          · rw [if_neg h3, if_neg h1]
            exact e'
    · exact hM7.mv V8 hRf (fun b hb => by show b ∈ R :: (fo (envK w.params 131 L) ++ X); exact List.mem_cons_of_mem _ (List.mem_append_left _ hb))
    · have m : ∀ b ∈ fo (envK w.params 131 L), b ∈ R :: fo (envK w.params 131 L) := fun b hb => List.mem_cons_of_mem _ hb
      exact ((V4.mono m).tr ((V5.mono m).tr (k6.mv _))).tr ((V7.mono (by simp)).tr (V8.mono m))
  · intro s' F3 hM3 V3
    refine ex_ret F3 (Ev.name rfl) fun v s4 r k => ?_
    cases r
    refine ⟨_, R :: fo (envK w.params 131 L), rfl, ?_, ?_, ?_⟩
    · rw [List.take_length] at hM3
      exact (hM3.kp k).rep (fun b hb => List.mem_cons_of_mem _ (List.mem_append_right _ hb)) (fun q => F.ok.fresh hR (List.mem_append_right _ q))
    · exact (V2.mono fun b hb => List.mem_cons_of_mem _ hb).tr (V3.tr (k.mv _))
    · intro b hb
      rcases List.mem_cons.mp hb with rfl | hb
      · exact .inr hR
      · exact .inl hb
end Mine
end

section
set_option Elab.async false
set_option maxRecDepth 100000
set_option linter.unusedVariables false
namespace Mine

/-- the lists of all hours over the rows that are left -/
def leftOf (H : Nat) (nm : Nat → List Nat → Bool) (R : List (List Nat)) : List (List (List Nat)) := (List.range H).map fun i => R.filter (nm i)

theorem all_one {α : Type} {l : List α} {a : α} (h : ∀ x ∈ l, x = a) (hm : a ∈ l) : ∃ tail, l = a :: tail ∧ ∀ x ∈ tail, x = a := by
  cases l with
  | nil => cases hm
  | cons b t => exact ⟨t, by rw [h b List.mem_cons_self], fun x hx => h x (List.mem_cons_of_mem _ hx)⟩

theorem mem_heads {H : Nat} {nm : Nat → List Nat → Bool} {R : List (List Nat)} {x : List Nat} (h : x ∈ headsOf (leftOf H nm R)) : x ∈ R := by
  unfold headsOf leftOf at h
  obtain ⟨p, hp, rfl⟩ := List.mem_map.mp h
  obtain ⟨hp, hne⟩ := List.mem_filter.mp hp
  obtain ⟨i, _, rfl⟩ := List.mem_map.mp hp
  cases e : R.filter (nm i) with
  | nil => rw [e] at hne; cases hne
  | cons a t =>
    have : a ∈ R.filter (nm i) := by rw [e]; exact List.mem_cons_self
    exact (List.mem_filter.mp this).1

theorem left_step {H : Nat} {nm : Nat → List Nat → Bool} {r : List Nat} {R : List (List Nat)} (h : ∀ a ∈ r :: R, ∃ i, i < H ∧ nm i a = true ∧ nm i r = true) :
    (∃ tail, freeOf (leftOf H nm (r :: R)) = r :: tail ∧ ∀ x ∈ tail, x = r) ∧ leftOf H nm R = nextOf (leftOf H nm (r :: R)) r := by
  refine ⟨?_, ?_⟩
  · obtain ⟨i0, hi0, hr0, _⟩ := h r List.mem_cons_self
    refine all_one (fun x hx => ?_) ?_
    · unfold freeOf at hx
      obtain ⟨hx, hf⟩ := List.mem_filter.mp hx
      obtain ⟨i, hi, ha, hr⟩ := h x (mem_heads hx)
      rw [List.isEmpty_iff, List.filter_eq_nil_iff] at hf
      have hl : (r :: R).filter (nm i) = r :: R.filter (nm i) := by rw [List.filter_cons, if_pos hr]
      have := hf ((r :: R).filter (nm i)) (List.mem_map.mpr ⟨i, List.mem_range.mpr hi, rfl⟩)
      rw [Bool.and_eq_true, not_and, List.contains_iff_mem] at this
      have h2 := this (List.mem_filter.mpr ⟨mem_heads hx, ha⟩)
      rw [hl] at h2
      exact Decidable.byContradiction fun hn => h2 (bne_iff_ne.mpr fun e => hn (show x = r from e.symm))
    · unfold freeOf
      refine List.mem_filter.mpr ⟨?_, ?_⟩
      · unfold headsOf
        refine List.mem_map.mpr ⟨(r :: R).filter (nm i0), List.mem_filter.mpr ⟨List.mem_map.mpr ⟨i0, List.mem_range.mpr hi0, rfl⟩, ?_⟩, ?_⟩
        · rw [List.filter_cons, if_pos hr0]; rfl
        · rw [List.filter_cons, if_pos hr0]; rfl
      · rw [List.isEmpty_iff, List.filter_eq_nil_iff]
        intro p hp
        obtain ⟨i, hi, rfl⟩ := List.mem_map.mp hp
        rw [Bool.and_eq_true, not_and, List.contains_iff_mem]
        intro hm
        have hr := (List.mem_filter.mp hm).2
        rw [List.filter_cons, if_pos hr]
        simp
  · unfold nextOf leftOf
    rw [List.map_map]
    refine List.map_congr_left fun i hi => ?_
    simp only [Function.comp]
    rw [List.filter_cons]
    by_cases hr : nm i r = true
    · rw [if_pos hr, if_pos (by simp)]; rfl
    · rw [if_neg hr]
      rw [if_neg]
      intro q
      apply hr
      have q := beq_iff_eq.mp q
      have : r ∈ R.filter (nm i) := List.mem_of_mem_take (i := 1) (by rw [q]; exact List.mem_cons_self)
      exact (List.mem_filter.mp this).2

theorem left_steps {H : Nat} {nm : Nat → List Nat → Bool} (D : List (List Nat)) (h : ∀ a ∈ D, ∀ b ∈ D, ∃ i, i < H ∧ nm i a = true ∧ nm i b = true) (k : Nat) (hk : k < D.length) :
    ∃ tail, freeOf (leftOf H nm (D.drop k)) = D[k] :: tail ∧ (∀ x ∈ tail, x = D[k]) ∧ leftOf H nm (D.drop (k + 1)) = nextOf (leftOf H nm (D.drop k)) D[k] := by
  have e : D.drop k = D[k] :: D.drop (k + 1) := List.drop_eq_getElem_cons hk
  have hm : ∀ a ∈ D.drop k, a ∈ D := fun a ha => List.mem_of_mem_drop ha
  obtain ⟨⟨tail, h1, h2⟩, h3⟩ := left_step (H := H) (nm := nm) (r := D[k]) (R := D.drop (k + 1)) (fun a ha => h a (hm a (e ▸ ha)) _ (List.getElem_mem hk))
  rw [e]
  exact ⟨tail, h1, h2, h3⟩

theorem left_end {H : Nat} {nm : Nat → List Nat → Bool} : ∀ p ∈ leftOf H nm [], p = [] := fun p hp => by
  obtain ⟨i, _, rfl⟩ := List.mem_map.mp hp; rfl
theorem left_z {H : Nat} {nm : Nat → List Nat → Bool} {R : List (List Nat)} {z : Nat} (h : R.length ≤ z) : ∀ p ∈ leftOf H nm R, p.length ≤ z := fun p hp => by
  obtain ⟨i, _, rfl⟩ := List.mem_map.mp hp
  exact Nat.le_trans (List.length_filter_le _ _) h
end Mine
end

section
set_option Elab.async false
set_option maxRecDepth 100000
set_option maxHeartbeats 1000000
set_option linter.unusedVariables false
namespace Mine

/-- the marks, the clock turned so that the first stands at 0 -/
def at7 (t x : Nat) : Bool := x == 0 || x == t % 7 || x == 3 * t % 7
def at13 (t x : Nat) : Bool := x == 0 || x == t % 13 || x == 3 * t % 13 || x == 9 * t % 13
def all7 : Bool := (List.range 6).all fun t => (List.range 6).all fun d => ((List.range 7).filter fun x => at7 (t + 1) x && at7 (t + 1) ((x + (d + 1)) % 7)).length == 1
def all13 : Bool := (List.range 12).all fun t => (List.range 12).all fun d => ((List.range 13).filter fun x => at13 (t + 1) x && at13 (t + 1) ((x + (d + 1)) % 13)).length == 1
theorem all7_true : all7 = true := by decide +kernel
theorem all13_true : all13 = true := by decide +kernel
theorem one7 {t d : Nat} (t0 : 0 < t) (t1 : t < 7) (d0 : 0 < d) (d1 : d < 7) : ((List.range 7).filter fun x => at7 t x && at7 t ((x + d) % 7)).length = 1 := by
  have h := List.all_eq_true.mp (List.all_eq_true.mp all7_true (t - 1) (List.mem_range.mpr (by omega))) (d - 1) (List.mem_range.mpr (by omega))
  rw [show t - 1 + 1 = t by omega, show d - 1 + 1 = d by omega] at h
  exact beq_iff_eq.mp h
theorem one13 {t d : Nat} (t0 : 0 < t) (t1 : t < 13) (d0 : 0 < d) (d1 : d < 13) : ((List.range 13).filter fun x => at13 t x && at13 t ((x + d) % 13)).length = 1 := by
  have h := List.all_eq_true.mp (List.all_eq_true.mp all13_true (t - 1) (List.mem_range.mpr (by omega))) (d - 1) (List.mem_range.mpr (by omega))
  rw [show t - 1 + 1 = t by omega, show d - 1 + 1 = d by omega] at h
  exact beq_iff_eq.mp h

/-- just one -/
theorem one_of {p : Nat → Bool} {i : Nat} (hp : p i = true) : ∀ {n : Nat}, i < n → (∀ j, j < n → p j = true → j = i) → ((List.range n).filter p).length = 1
  | 0, h, _ => absurd h (Nat.not_lt_zero _)
  | n + 1, h, u => by
    rw [List.range_succ, List.filter_append, List.length_append]
    by_cases e : i = n
    · subst e
      have : (List.range i).filter p = [] := by
        rw [List.filter_eq_nil_iff]
        intro j hj hpj
        have hj := List.mem_range.mp hj
        have := u j (by omega) hpj
        omega
      rw [this, List.filter_cons, if_pos hp]; rfl
    · rw [one_of hp (n := n) (by omega) (fun j hj => u j (by omega)), List.filter_cons, if_neg (fun q => e (u n (by omega) q).symm)]; rfl
theorem of_one {p : Nat → Bool} {n : Nat} (h : ((List.range n).filter p).length = 1) : ∃ i, i < n ∧ p i = true ∧ ∀ j, j < n → p j = true → j = i := by
  obtain ⟨i, hi⟩ := List.length_eq_one_iff.mp h
  have hm : i ∈ (List.range n).filter p := by rw [hi]; exact List.mem_cons_self
  refine ⟨i, List.mem_range.mp (List.mem_filter.mp hm).1, (List.mem_filter.mp hm).2, fun j hj hp => ?_⟩
  have : j ∈ (List.range n).filter p := List.mem_filter.mpr ⟨List.mem_range.mpr hj, hp⟩
  rw [hi] at this
  exact List.mem_singleton.mp this

/-- a turned clock -/
theorem turned {H : Nat} (f : Nat → Bool) (x0 : Nat) (h0 : x0 < H) (h : ((List.range H).filter f).length = 1) : ((List.range H).filter fun i => f ((x0 + i) % H)).length = 1 := by
  obtain ⟨x, hx, hf, hu⟩ := of_one h
  have red : ∀ i, i < H → (x0 + i) % H = if x0 + i < H then x0 + i else x0 + i - H := fun i hi => by
    split
    · exact Nat.mod_eq_of_lt (by assumption)
    · rw [Nat.mod_eq_sub_mod (by omega), Nat.mod_eq_of_lt (by omega)]
  refine one_of (i := if x0 ≤ x then x - x0 else x + H - x0) ?_ (by split <;> omega) (fun j hj hp => ?_)
  · rw [red _ (by split <;> omega)]
    have : (if x0 + (if x0 ≤ x then x - x0 else x + H - x0) < H then x0 + (if x0 ≤ x then x - x0 else x + H - x0) else x0 + (if x0 ≤ x then x - x0 else x + H - x0) - H) = x := by
      split <;> split <;> omega
    rw [this]; exact hf
  · have := hu _ (Nat.mod_lt _ (by omega)) hp
    rw [red j hj] at this
    split at this <;> split <;> omega

def starAt (H : Nat) (base : List Int) (tot : Int) (n : Nat) : Bool := (base.map fun mark => ((1 + tot / 2 % ((H : Int) - 1)) * mark + tot / 26) % (H : Int)).contains ((n : Int) % (H : Int))

theorem starAt7 (tot : Int) (n : Nat) : starAt 7 [0, 1, 3] tot n = at7 (1 + tot / 2 % 6).toNat (((n : Int) - tot / 26) % 7).toNat := by
  rw [Bool.eq_iff_iff]
  simp only [starAt, at7, List.contains_iff_mem, List.map_cons, List.map_nil, List.mem_cons, List.not_mem_nil, or_false, Bool.or_eq_true, beq_iff_eq]
  have e : ((7 : Nat) : Int) - 1 = 6 := rfl
  rw [e]
  generalize tot / 26 = q
  have h1 : 0 ≤ tot / 2 % 6 := Int.emod_nonneg _ (by decide)
  generalize tot / 2 % 6 = t at *
  omega
theorem starAt13 (tot : Int) (n : Nat) : starAt 13 [0, 1, 3, 9] tot n = at13 (1 + tot / 2 % 12).toNat (((n : Int) - tot / 26) % 13).toNat := by
  rw [Bool.eq_iff_iff]
  simp only [starAt, at13, List.contains_iff_mem, List.map_cons, List.map_nil, List.mem_cons, List.not_mem_nil, or_false, Bool.or_eq_true, beq_iff_eq]
  have e : ((13 : Nat) : Int) - 1 = 12 := rfl
  rw [e]
  generalize tot / 26 = q
  have h1 : 0 ≤ tot / 2 % 12 := Int.emod_nonneg _ (by decide)
  generalize tot / 2 % 12 = t at *
  omega

theorem turn7 (n i : Nat) (q : Int) : ((((n + i + 1 : Nat) : Int) - q) % 7).toNat = (((((n + 1 : Nat) : Int) - q) % 7).toNat + i) % 7 := by omega
theorem more7 (a b i : Nat) (q : Int) : ((((b + i + 1 : Nat) : Int) - q) % 7).toNat = ((((((a + 1 : Nat) : Int) - q) % 7).toNat + i) % 7 + (((b : Int) - a) % 7).toNat) % 7 := by omega
theorem turn13 (n i : Nat) (q : Int) : ((((n + i + 1 : Nat) : Int) - q) % 13).toNat = (((((n + 1 : Nat) : Int) - q) % 13).toNat + i) % 13 := by omega
theorem more13 (a b i : Nat) (q : Int) : ((((b + i + 1 : Nat) : Int) - q) % 13).toNat = ((((((a + 1 : Nat) : Int) - q) % 13).toNat + i) % 13 + (((b : Int) - a) % 13).toNat) % 13 := by omega

theorem meets7 (tot : Int) {a b : Nat} (a0 : 0 < a) (a1 : a ≤ 7) (b0 : 0 < b) (b1 : b ≤ 7) (ne : a ≠ b) : ((List.range 7).filter fun i => starAt 7 [0, 1, 3] tot (a + i + 1) && starAt 7 [0, 1, 3] tot (b + i + 1)).length = 1 := by
  have h1 : 0 ≤ tot / 2 % 6 := Int.emod_nonneg _ (by decide)
  have h2 : tot / 2 % 6 < 6 := Int.emod_lt_of_pos _ (by decide)
  have h := turned (H := 7) (fun x => at7 (1 + tot / 2 % 6).toNat x && at7 (1 + tot / 2 % 6).toNat ((x + (((b : Int) - a) % 7).toNat) % 7)) ((((a + 1 : Nat) : Int) - tot / 26) % 7).toNat (by omega)
    (one7 (by omega) (by omega) (by omega) (by omega))
  refine Eq.trans ?_ h
  congr 2
  funext i
  rw [starAt7, starAt7, turn7, more7 a b]
theorem meets13 (tot : Int) {a b : Nat} (a0 : 0 < a) (a1 : a ≤ 13) (b0 : 0 < b) (b1 : b ≤ 13) (ne : a ≠ b) : ((List.range 13).filter fun i => starAt 13 [0, 1, 3, 9] tot (a + i + 1) && starAt 13 [0, 1, 3, 9] tot (b + i + 1)).length = 1 := by
  have h1 : 0 ≤ tot / 2 % 12 := Int.emod_nonneg _ (by decide)
  have h2 : tot / 2 % 12 < 12 := Int.emod_lt_of_pos _ (by decide)
  have h := turned (H := 13) (fun x => at13 (1 + tot / 2 % 12).toNat x && at13 (1 + tot / 2 % 12).toNat ((x + (((b : Int) - a) % 13).toNat) % 13)) ((((a + 1 : Nat) : Int) - tot / 26) % 13).toNat (by omega)
    (one13 (by omega) (by omega) (by omega) (by omega))
  refine Eq.trans ?_ h
  congr 2
  funext i
  rw [starAt13, starAt13, turn13, more13 a b]
end Mine
end

section
open PySem PySem.W PyProof.Rows SeqAt
set_option Elab.async false
set_option maxRecDepth 100000
set_option linter.unusedVariables false
namespace Mine
open PySem.Sre

theorem runFor_out {m : M} (h : m.outcome.isSome = true) : ∀ n, m.runFor n = m
  | 0 => rfl
  | n + 1 => by unfold M.runFor; rw [if_pos h]
theorem runFor_add (a b : Nat) : ∀ m : M, m.runFor (a + b) = (m.runFor a).runFor b := by
  induction a with
  | zero => intro m; rw [Nat.zero_add]; rfl
  | succ a ih =>
    intro m
    rw [Nat.add_right_comm]
    show (if m.outcome.isSome then m else M.runFor (a + b) m.step) = (if m.outcome.isSome then m else M.runFor a m.step).runFor b
    split
    · next h => exact (runFor_out h b).symm
    · exact ih _

/-- a machine, but for what it has seen -/
abbrev St := Sre.Seen → M
def Tr (n : Nat) (p q : St) : Prop := ∀ sn, ∃ sn', (p sn).runFor n = q sn'
theorem Tr.tr {a b : Nat} {p q r : St} (h : Tr a p q) (g : Tr b q r) : Tr (a + b) p r := fun sn => by
  obtain ⟨s1, e1⟩ := h sn
  obtain ⟨s2, e2⟩ := g s1
  exact ⟨s2, by rw [runFor_add, e1, e2]⟩
theorem Tr.one {p q : St} (h : ∀ sn, (p sn).outcome = none ∧ ∃ sn', (p sn).step = q sn') : Tr 1 p q := fun sn => by
  obtain ⟨h0, s', e⟩ := h sn
  refine ⟨s', ?_⟩
  show (if (p sn).outcome.isSome then _ else M.runFor 0 (p sn).step) = _
  rw [h0, e]; rfl

def K (code text : Array Nat) (st : Nat) (mu : Bool) (pc pos ha : Nat) (om : Bool) (fr : List Sre.Frame) (wt : Nat) (an : Option Bool) : St := fun sn =>
  { code, text, lim := text.size, start := st, lastStart := text.size, wholeText := false, mustAdvance := mu, pc, pos, handed := ha, outermost := om, marks := #[], lastmark := -1, lastindex := -1, loops := #[],
    inner := none, frames := fr, weight := wt, answer := an, seen := sn, outcome := none }

section
variable {code text : Array Nat} {st : Nat} {mu : Bool} {pc pos ha : Nat} {om : Bool} {fr : List Sre.Frame} {wt : Nat}

theorem K_exec {op : Op} (hpc : pc < code.size) (hop : ops[code.getD pc 0]? = some op) {q : St} (h : ∀ sn, ∃ sn', (K code text st mu pc pos ha om fr wt none sn).exec = q sn') : Tr 1 (K code text st mu pc pos ha om fr wt none) q := by
  refine Tr.one fun sn => ⟨rfl, ?_⟩
  obtain ⟨sn', e⟩ := h sn
  refine ⟨sn', ?_⟩
  unfold M.step
  rw [if_neg (by exact Bool.false_ne_true)]
  show (if pc < code.size then _ else _) = _
  rw [if_pos hpc, e]

theorem K_lit_yes (hpc : pc < code.size) (hop : ops[code.getD pc 0]? = some .LITERAL) (hp : pos < text.size) (he : text.getD pos 0 = code.getD (pc + 1) 0) :
    Tr 1 (K code text st mu pc pos ha om fr wt none) (K code text st mu (pc + 2) (pos + 1) ha om fr wt none) := by
  refine K_exec hpc hop fun sn => ?_
  unfold M.exec
  rw [show ops[M.word (K code text st mu pc pos ha om fr wt none sn) 0]? = some .LITERAL from hop]
  dsimp only
  rw [if_neg (by exact Nat.not_le.mpr hp)]
  unfold accepts itemWidth
  simp only [K, hop]
  rw [show (text.getD pos 0 == code.getD (pc + 1) 0) = true from by rw [he]; exact beq_self_eq_true _]
  exact ⟨_, rfl⟩

theorem K_lit_no (hpc : pc < code.size) (hop : ops[code.getD pc 0]? = some .LITERAL) (hp : ¬ (pos < text.size ∧ text.getD pos 0 = code.getD (pc + 1) 0)) :
    Tr 1 (K code text st mu pc pos ha om fr wt none) (K code text st mu pc pos ha om fr wt (some false)) := by
  refine K_exec hpc hop fun sn => ?_
  unfold M.exec
  rw [show ops[M.word (K code text st mu pc pos ha om fr wt none sn) 0]? = some .LITERAL from hop]
  dsimp only
  by_cases hl : pos < text.size
  · rw [if_neg (by exact Nat.not_le.mpr hl)]
    unfold accepts
    simp only [K, hop]
    rw [show (text.getD pos 0 == code.getD (pc + 1) 0) = false from by simpa using fun h => hp ⟨hl, h⟩]
    exact ⟨_, rfl⟩
  · rw [if_pos (by exact Nat.not_lt.mp hl)]
    exact ⟨_, rfl⟩

theorem K_jump (hpc : pc < code.size) (hop : ops[code.getD pc 0]? = some .JUMP) :
    Tr 1 (K code text st mu pc pos ha om fr wt none) (K code text st mu (pc + 1 + code.getD (pc + 1) 0) pos ha om fr wt none) := by
  refine K_exec hpc hop fun sn => ?_
  unfold M.exec
  rw [show ops[M.word (K code text st mu pc pos ha om fr wt none sn) 0]? = some .JUMP from hop]
  exact ⟨_, rfl⟩

theorem K_success (hpc : pc < code.size) (hop : ops[code.getD pc 0]? = some .SUCCESS) (hp : pos ≠ st) :
    Tr 1 (K code text st mu pc pos ha om fr wt none) (K code text st mu pc pos pos om fr wt (some true)) := by
  refine K_exec hpc hop fun sn => ?_
  unfold M.exec
  rw [show ops[M.word (K code text st mu pc pos ha om fr wt none sn) 0]? = some .SUCCESS from hop]
  dsimp only
  rw [if_neg (by show ¬ ((om && ((false && _) || (mu && (pos == st)))) = true); rw [show (pos == st) = false from by simpa using hp]; simp)]
  exact ⟨_, rfl⟩

theorem K_at1 (hpc : pc < code.size) (hop : ops[code.getD pc 0]? = some .AT) (hw : code.getD (pc + 1) 0 = 1) :
    Tr 1 (K code text st mu pc pos ha om fr wt none) (if (pos == 0 || text.getD (pos - 1) 0 == 10) = true then K code text st mu (pc + 2) pos ha om fr wt none else K code text st mu pc pos ha om fr wt (some false)) := by
  refine K_exec hpc hop fun sn => ?_
  unfold M.exec
  rw [show ops[M.word (K code text st mu pc pos ha om fr wt none sn) 0]? = some .AT from hop]
  dsimp only
  have hw' : ∀ x : Sre.Seen, M.word { K code text st mu pc pos ha om fr wt none sn with seen := x } 1 = 1 := fun _ => hw
  have hA : ∀ x : Sre.Seen, M.isAt { K code text st mu pc pos ha om fr wt none sn with seen := x } 1 = .ok (pos == 0 || text.getD (pos - 1) 0 == 10) := fun _ => rfl
  rw [hw', hA]
  cases h : (pos == 0 || text.getD (pos - 1) 0 == 10)
  · rw [if_neg (by exact Bool.false_ne_true)]; exact ⟨_, rfl⟩
  · rw [if_pos rfl]; exact ⟨_, rfl⟩

def brF (pc pos : Nat) (om : Bool) (alt : Nat) : Sre.Frame := { wait := .nextBranch, pc := alt, pos := pos, outermost := om, kept := { lastmark := -1, lastindex := -1, whole := false, marks := #[] } }

theorem K_branch (hpc : pc < code.size) (hop : ops[code.getD pc 0]? = some .BRANCH) (hz : code.getD (pc + 1) 0 ≠ 0) (hw : wt < 1000) :
    Tr 1 (K code text st mu pc pos ha om fr wt none) (K code text st mu (pc + 1 + 1) pos pos om (brF pc pos om (pc + 1) :: fr) (wt + 1) none) := by
  refine K_exec hpc hop fun sn => ?_
  unfold M.exec
  rw [show ops[M.word (K code text st mu pc pos ha om fr wt none sn) 0]? = some .BRANCH from hop]
  dsimp only
  unfold M.alternative
  rw [if_neg (by show ¬ ((code.getD (pc + 1) 0 == 0) = true); simpa using hz)]
  unfold M.attempt
  rw [if_neg (by show ¬ (wt + 1 + 0 > 16777216); omega)]
  exact ⟨_, rfl⟩

theorem K_answer {yes : Bool} {f : Sre.Frame} {q : St} (h : ∀ sn, ∃ sn', M.resume (K code text st mu f.pc f.pos ha f.outermost fr (wt - (1 + f.kept.marks.size)) none sn) f yes = q sn') :
    Tr 1 (K code text st mu pc pos ha om (f :: fr) wt (some yes)) q := by
  refine Tr.one fun sn => ⟨rfl, ?_⟩
  obtain ⟨sn', e⟩ := h sn
  refine ⟨sn', ?_⟩
  unfold M.step
  rw [if_neg (by exact Bool.false_ne_true)]
  exact e

theorem K_next {p0 q0 alt : Nat} {om' : Bool} (hz : code.getD (alt + code.getD alt 0) 0 ≠ 0) (hw : wt < 1000) :
    Tr 1 (K code text st mu pc pos ha om (brF q0 p0 om' alt :: fr) (wt + 1) (some false))
      (K code text st mu (alt + code.getD alt 0 + 1) p0 p0 om' (brF alt p0 om' (alt + code.getD alt 0) :: fr) (wt + 1) none) := by
  refine K_answer fun sn => ?_
  unfold M.resume
  dsimp only [brF]
  rw [if_neg (by exact Bool.false_ne_true)]
  unfold M.alternative
  rw [if_neg (by show ¬ ((code.getD (alt + code.getD alt 0) 0 == 0) = true); simpa using hz)]
  unfold M.attempt
  rw [if_neg (by show ¬ (wt + 1 - (1 + 0) + 1 + 0 > 16777216); omega)]
  refine ⟨sn, ?_⟩
  show K code text st mu (alt + code.getD alt 0 + 1) p0 p0 om' (brF alt p0 om' (alt + code.getD alt 0) :: fr) (wt + 1 - (1 + 0) + 1 + 0) none sn = _
  rw [show wt + 1 - (1 + 0) + 1 + 0 = wt + 1 from by omega]
  rfl

theorem K_yesBr {p0 q0 alt : Nat} {om' : Bool} :
    Tr 1 (K code text st mu pc pos ha om (brF q0 p0 om' alt :: fr) (wt + 1) (some true)) (K code text st mu alt p0 ha om' fr wt (some true)) :=
  K_answer fun sn => ⟨sn, by
    unfold M.resume
    dsimp only [brF]
    rw [if_pos rfl]
    show K code text st mu alt p0 ha om' fr (wt + 1 - (1 + 0)) (some true) sn = _
    rw [show wt + 1 - (1 + 0) = wt from by omega]⟩

def stF (pc pos : Nat) (om : Bool) : Sre.Frame := { wait := .nextStart, pc, pos, outermost := om }
theorem K_yesSt {p0 q0 : Nat} {om' : Bool} :
    Tr 1 (K code text st mu pc pos ha om [stF q0 p0 om'] 1 (some true)) (K code text st mu q0 p0 ha om' [] 0 (some true)) :=
  K_answer fun sn => ⟨sn, rfl⟩

def lkF (pc pos : Nat) (om : Bool) : Sre.Frame := { wait := .lookNot, pc, pos, outermost := om, kept := { lastmark := -1, lastindex := -1, whole := false, marks := #[] } }
theorem K_not (hpc : pc < code.size) (hop : ops[code.getD pc 0]? = some .ASSERT_NOT) (hz : code.getD (pc + 2) 0 = 0) (hw : wt < 1000) :
    Tr 1 (K code text st mu pc pos ha om fr wt none) (K code text st mu (pc + 3) pos pos false (lkF pc pos om :: fr) (wt + 1) none) := by
  refine K_exec hpc hop fun sn => ?_
  unfold M.exec
  rw [show ops[M.word (K code text st mu pc pos ha om fr wt none sn) 0]? = some .ASSERT_NOT from hop]
  dsimp only
  have hw' : ∀ x : Sre.Seen, M.word { K code text st mu pc pos ha om fr wt none sn with seen := x } 2 = 0 := fun _ => hz
  rw [hw', if_neg (by exact Nat.not_lt_zero _)]
  unfold M.attempt
  rw [if_neg (by show ¬ (wt + 1 + 0 > 16777216); omega)]
  exact ⟨_, rfl⟩
theorem K_notOk {p0 q0 : Nat} {om' : Bool} :
    Tr 1 (K code text st mu pc pos ha om (lkF q0 p0 om' :: fr) (wt + 1) (some false)) (K code text st mu (q0 + 1 + code.getD (q0 + 1) 0) p0 ha om' fr wt none) :=
  K_answer fun sn => ⟨sn, by
    show K code text st mu (q0 + 1 + code.getD (q0 + 1) 0) p0 ha om' fr (wt + 1 - (1 + 0)) none sn = _
    rw [show wt + 1 - (1 + 0) = wt from by omega]⟩
end
end Mine
end

section
open PySem PySem.W PyProof.Rows SeqAt
set_option Elab.async false
set_option maxRecDepth 100000
set_option linter.unusedVariables false
namespace Mine
open PySem.Sre

def code1 : Array Nat := #[14, 4, 0, 1, 1, 6, 1, 16, 46, 1]
def code2 : Array Nat := #[14, 9, 4, 1, 2, 16, 10, 16, 13, 0, 7, 7, 16, 13, 16, 10, 15, 18, 5, 16, 10, 15, 13, 11, 16, 13, 5, 5, 0, 16, 10, 1, 15, 2, 0, 1]

def Res (m : M) : Option (Nat × Nat) → Prop
  | some (a, b) => m.outcome = some .matched ∧ m.start = a ∧ m.handed = b
  | none => m.outcome = some .failed
def Found (code text : Array Nat) (s : Nat) (o : Option (Nat × Nat)) : Prop := ∀ mu, ∃ n, n ≤ 4 * text.size + 20 ∧ Res ((forSearch code text 0 s text.size mu).runFor n) o

def fnd (good : Nat → Option Nat) : Nat → Nat → Option (Nat × Nat)
  | 0, _ => none
  | n + 1, s => match good s with | some b => some (s, b) | none => fnd good n (s + 1)

section
variable {code text : Array Nat} {st : Nat} {mu : Bool} {pc pos ha : Nat} {om : Bool} {wt : Nat}

theorem K_yes (sn : Sre.Seen) : Res ((K code text st mu pc pos ha om [] wt (some true) sn).runFor 1) (some (st, ha)) := ⟨rfl, rfl, rfl⟩
theorem K_noo (sn : Sre.Seen) : Res ((K code text st mu pc pos ha om [] wt (some false) sn).runFor 1) none := rfl

theorem Tr.res {n : Nat} {p : St} {q : St} {o : Option (Nat × Nat)} (h : Tr n p q) (hr : ∀ sn, Res ((q sn).runFor 1) o) (sn : Sre.Seen) : Res ((p sn).runFor (n + 1)) o := by
  obtain ⟨s', e⟩ := h sn
  rw [runFor_add, e]
  exact hr s'

/-! the first pattern -/
def ls (text : Array Nat) (s : Nat) : Bool := s == 0 || text.getD (s - 1) 0 == 10
def good1 (text : Array Nat) (s : Nat) : Option Nat := if ls text s = true ∧ text.getD s 0 = 46 then some (s + 1) else none
abbrev P1 (text : Array Nat) (s : Nat) (mu om : Bool) : St := K code1 text s mu 5 s s om [stF 5 s om] 1 none

theorem P1_no (h : ¬ (ls text st = true ∧ st < text.size ∧ text.getD st 0 = 46)) : ∃ n, n ≤ 2 ∧ ∃ pc pos ha om', Tr n (P1 text st mu om) (K code1 text st mu pc pos ha om' [stF 5 st om] 1 (some false)) := by
  have at1 := K_at1 (code := code1) (text := text) (st := st) (mu := mu) (pc := 5) (pos := st) (ha := st) (om := om) (fr := [stF 5 st om]) (wt := 1) (by decide) rfl rfl
  by_cases hl : ls text st = true
  · rw [if_pos (by exact hl)] at at1
    refine ⟨2, by omega, 7, st, st, om, at1.tr (K_lit_no (by decide) rfl fun ⟨h1, h2⟩ => h ⟨hl, h1, h2⟩)⟩
  · rw [if_neg (by exact hl)] at at1
    exact ⟨1, by omega, 5, st, st, om, at1⟩
theorem P1_yes (hl : ls text st = true) (h1 : st < text.size) (h2 : text.getD st 0 = 46) : ∃ n pc pos om', n ≤ 4 ∧ Tr n (P1 text st mu om) (K code1 text st mu pc pos (st + 1) om' [] 0 (some true)) := by
  have at1 := K_at1 (code := code1) (text := text) (st := st) (mu := mu) (pc := 5) (pos := st) (ha := st) (om := om) (fr := [stF 5 st om]) (wt := 1) (by decide) rfl rfl
  rw [if_pos (by exact hl)] at at1
  exact ⟨4, 5, st, om, by omega, ((at1.tr (K_lit_yes (by decide) rfl h1 h2)).tr (K_success (by decide) rfl (by omega))).tr K_yesSt⟩
theorem P1_on' {o' : Bool} (h : st < text.size) : Tr 1 (K code1 text st mu pc pos ha om [stF 5 st o'] 1 (some false)) (P1 text (st + 1) false false) :=
  K_answer fun sn => ⟨sn, by
    show (if st < text.size then _ else _) = _
    rw [if_pos h]
    rfl⟩
theorem P1_off {o' : Bool} (h : ¬ st < text.size) : Tr 1 (K code1 text st mu pc pos ha om [stF 5 st o'] 1 (some false)) (K code1 text st mu 5 st ha o' [] 0 (some false)) :=
  K_answer fun sn => ⟨sn, by
    show (if st < text.size then _ else _) = _
    rw [if_neg h]
    rfl⟩

theorem P1_run : ∀ k st, text.size - st = k → ∀ (mu om : Bool), ∃ n, n ≤ 3 * k + 5 ∧ ∀ sn, Res ((P1 text st mu om sn).runFor n) (fnd (good1 text) (text.size - st) st) := by
  intro k
  induction k with
  | zero =>
    intro st hk mu om
    obtain ⟨n, hn, pc, pos, ha, om', t⟩ := P1_no (text := text) (st := st) (mu := mu) (om := om) (fun ⟨_, h, _⟩ => by omega)
    refine ⟨n + 1 + 1, by omega, fun sn => ?_⟩
    rw [hk]
    exact (t.tr (P1_off (by omega))).res (fun sn => K_noo sn) sn
  | succ k ih =>
    intro st hk mu om
    have hs : st < text.size := by omega
    rw [hk]
    by_cases hg : ls text st = true ∧ text.getD st 0 = 46
    · obtain ⟨n, pc, pos, om', hn, t⟩ := P1_yes (text := text) (st := st) (mu := mu) (om := om) hg.1 hs hg.2
      refine ⟨n + 1, by omega, fun sn => ?_⟩
      unfold fnd good1
      rw [if_pos hg]
      exact t.res (fun sn => K_yes sn) sn
    · obtain ⟨n, hn, pc, pos, ha, om', t⟩ := P1_no (text := text) (st := st) (mu := mu) (om := om) (fun ⟨a, _, b⟩ => hg ⟨a, b⟩)
      obtain ⟨n', hn', r⟩ := ih (st + 1) (by omega) false false
      refine ⟨n + 1 + n', by omega, fun sn => ?_⟩
      obtain ⟨s', e⟩ := (t.tr (P1_on' hs)) sn
      unfold fnd good1
      rw [if_neg hg, runFor_add, e]
      rw [show text.size - (st + 1) = k from by omega] at r
      exact r s'

theorem fs1_lt (h : st < text.size) (mu : Bool) : ∃ sn, forSearch code1 text 0 st text.size mu = P1 text st mu true sn := by
  unfold forSearch
  dsimp only
  rw [if_neg (by show ¬ ((decide (st > text.size) || decide (text.size - st < 1)) = true); simp; omega)]
  exact ⟨_, rfl⟩
theorem fs_ge {code : Array Nat} (hc : (header code).1 = 1) (h : ¬ st < text.size) (mu : Bool) : Res ((forSearch code text 0 st text.size mu).runFor 1) none := by
  unfold forSearch
  dsimp only
  rw [hc, if_pos (by simp; omega)]
  rfl

theorem found1 (st : Nat) : Found code1 text st (fnd (good1 text) (text.size - st) st) := fun mu => by
  by_cases h : st < text.size
  · obtain ⟨sn, e⟩ := fs1_lt h mu
    obtain ⟨n, hn, r⟩ := P1_run (text := text) _ st rfl mu true
    exact ⟨n, by omega, by rw [e]; exact r sn⟩
  · rw [show text.size - st = 0 from by omega]
    exact ⟨1, by omega, fs_ge rfl h mu⟩

/-! the second pattern -/
def good2 (text : Array Nat) (s : Nat) : Option Nat :=
  if text.getD s 0 = 13 ∧ s + 1 < text.size ∧ text.getD (s + 1) 0 = 10 then some (s + 2) else if text.getD s 0 = 10 ∨ text.getD s 0 = 13 then some (s + 1) else none

theorem inSet2 (c : Nat) (seen : Sre.Seen) : ∃ seen', inSet code2 c code2.size 5 true seen = .ok (c == 10 || c == 13, seen') := by
  show ∃ seen', (if (c == 10) = true then Except.ok (true, seen.add 16) else if (c == 13) = true then Except.ok (true, (seen.add 16).add 16) else Except.ok (!true, ((seen.add 16).add 16).add 0)) = _
  cases c == 10 <;> cases c == 13 <;> exact ⟨_, rfl⟩

def nx (text : Array Nat) : Nat → Nat → Option Nat
  | 0, _ => none
  | n + 1, s => if text.getD s 0 == 10 || text.getD s 0 == 13 then some s else nx text n (s + 1)

theorem admit2 {m : M} (hc : m.code = code2) (hl : m.lim = m.text.size) : ∀ k s, m.text.size - s = k → ∀ fuel, k < fuel → ∀ seen, ∃ seen', M.admitted m fuel s seen = .ok (nx m.text k s, seen') := by
  intro k
  induction k with
  | zero =>
    intro s hk fuel hf seen
    cases fuel with
    | zero => omega
    | succ fuel =>
      unfold M.admitted
      rw [if_pos (by omega)]
      exact ⟨_, rfl⟩
  | succ k ih =>
    intro s hk fuel hf seen
    cases fuel with
    | zero => omega
    | succ fuel =>
      unfold M.admitted nx
      rw [if_neg (by omega), hc]
      obtain ⟨s', e⟩ := inSet2 (m.text.getD s 0) seen
      rw [e]
      cases (m.text.getD s 0 == 10 || m.text.getD s 0 == 13)
      · exact ih (s + 1) (by omega) fuel (by omega) s'
      · exact ⟨_, rfl⟩

abbrev P2 (text : Array Nat) (s : Nat) (mu om : Bool) : St := K code2 text s mu 10 s s om [stF 10 s om] 1 none

theorem P2_run (h1 : st < text.size) (h2 : text.getD st 0 = 10 ∨ text.getD st 0 = 13) : ∃ n b, n ≤ 19 ∧ good2 text st = some b ∧ ∀ sn, Res ((P2 text st mu om sn).runFor n) (some (st, b)) := by
  have b0 := K_branch (code := code2) (text := text) (st := st) (mu := mu) (pc := 10) (pos := st) (ha := st) (om := om) (fr := [stF 10 st om]) (wt := 1) (by decide) rfl (by decide) (by omega)
  unfold good2
  by_cases h13 : text.getD st 0 = 13
  · have t1 := b0.tr (K_lit_yes (by decide) rfl h1 h13)
    by_cases hn : st + 1 < text.size ∧ text.getD (st + 1) 0 = 10
    · have t2 := ((t1.tr (K_lit_yes (by decide) rfl hn.1 hn.2)).tr (K_jump (by decide) rfl)).tr (K_success (by decide) rfl (by omega))
      have t3 := (t2.tr K_yesBr).tr K_yesSt
      refine ⟨_, st + 2, ?_, ?_, fun sn => t3.res (fun sn => K_yes sn) sn⟩
      · omega
      · rw [if_pos ⟨h13, hn⟩]
    · have t2 := (t1.tr (K_lit_no (by decide) rfl hn)).tr (K_next (by decide) (by omega))
      have t3 := (t2.tr (K_lit_no (by decide) rfl (by rintro ⟨_, h⟩; rw [h13] at h; exact absurd h (by decide)))).tr (K_next (by decide) (by omega))
      have t4 := (t3.tr (K_lit_yes (by decide) rfl h1 h13)).tr (K_not (by decide) rfl (by decide) (by omega))
      have t5 := ((t4.tr (K_lit_no (by decide) rfl hn)).tr K_notOk).tr (K_jump (by decide) rfl)
      have t6 := ((t5.tr (K_success (by decide) rfl (by omega))).tr K_yesBr).tr K_yesSt
      refine ⟨_, st + 1, ?_, ?_, fun sn => t6.res (fun sn => K_yes sn) sn⟩
      · omega
      · rw [if_neg (fun h => hn h.2), if_pos h2]
  · have h10 : text.getD st 0 = 10 := h2.resolve_right h13
    have t1 := b0.tr (K_lit_no (by decide) rfl (fun h => h13 h.2))
    have t2 := ((t1.tr (K_next (by decide) (by omega))).tr (K_lit_yes (by decide) rfl h1 h10)).tr (K_jump (by decide) rfl)
    have t3 := ((t2.tr (K_success (by decide) rfl (by omega))).tr K_yesBr).tr K_yesSt
    refine ⟨_, st + 1, ?_, ?_, fun sn => t3.res (fun sn => K_yes sn) sn⟩
    · omega
    · rw [if_neg (fun h => h13 h.1), if_pos h2]

theorem nx_fnd : ∀ k s, fnd (good2 text) k s = match nx text k s with | some a => (good2 text a).map (a, ·) | none => none := by
  intro k
  induction k with
  | zero => intro s; rfl
  | succ k ih =>
    intro s
    unfold fnd nx
    by_cases h : text.getD s 0 = 10 ∨ text.getD s 0 = 13
    · rw [if_pos (by simpa using h)]
      have : ∃ b, good2 text s = some b := by
        unfold good2
        split
        · exact ⟨_, rfl⟩
        · exact ⟨s + 1, rfl⟩
      obtain ⟨b, e⟩ := this
      rw [e]; simp [e]
    · rw [if_neg (by simpa using h)]
      have : good2 text s = none := by
        unfold good2
        rw [if_neg (fun x => h (.inr x.1)), if_neg h]
      rw [this]
      exact ih _

theorem nx_lt : ∀ k s a, nx text k s = some a → a < s + k ∧ (text.getD a 0 = 10 ∨ text.getD a 0 = 13) := by
  intro k
  induction k with
  | zero => intro s a h; cases h
  | succ k ih =>
    intro s a h
    unfold nx at h
    split at h
    · next g => cases h; exact ⟨by omega, by simpa using g⟩
    · have := ih _ _ h; exact ⟨by omega, this.2⟩

def M2 (text : Array Nat) (s : Nat) (mu : Bool) : M :=
  { code := code2, text, lim := text.size, start := s, lastStart := text.size, pc := 10, pos := s, handed := s, marks := #[], mustAdvance := mu, seen := ({} : Sre.Seen).add 14 }

theorem found2 (st : Nat) : Found code2 text st (fnd (good2 text) (text.size - st) st) := fun mu => by
  by_cases h : st < text.size
  · rw [nx_fnd]
    unfold forSearch
    dsimp only
    rw [if_neg (by show ¬ ((decide (st > text.size) || decide (text.size - st < 1)) = true); simp; omega)]
    show ∃ n, n ≤ _ ∧ Res (M.runFor n (M.attemptFrom (M2 text st mu) st true)) _
    unfold M.attemptFrom
    rw [if_neg (by exact Bool.false_ne_true)]
    obtain ⟨s', e⟩ := admit2 (m := M2 text st mu) rfl rfl (text.size - st) st rfl ((M2 text st mu).lim + 1 - st) (by show _ < text.size + 1 - st; omega) (M2 text st mu).seen
    rw [e]
    rw [show (M2 text st mu).text = text from rfl]
    cases hn : nx text (text.size - st) st with
    | none => exact ⟨1, by omega, rfl⟩
    | some a =>
      have ha := nx_lt _ _ _ hn
      obtain ⟨n, b, h1, h2, h3⟩ := P2_run (text := text) (st := a) (mu := false) (om := true) (by omega) ha.2
      refine ⟨n, by omega, ?_⟩
      dsimp only
      rw [h2]
      exact h3 s'
  · rw [show text.size - st = 0 from by omega]
    exact ⟨1, by omega, fs_ge rfl h mu⟩
end
end Mine
end

section
open PySem PySem.W PyProof.Rows SeqAt
set_option Elab.async false
set_option maxRecDepth 100000
set_option linter.unusedVariables false
namespace Mine

/-- what a substitution makes of the text behind a place -/
inductive Cuts (find : Nat → Option (Nat × Nat)) (text : List Nat) (repl : List Nat) : Nat → List Nat → Prop
  | done (s : Nat) (h : find s = none) : Cuts find text repl s (text.drop s)
  | next (s a b : Nat) (r : List Nat) (h : find s = some (a, b)) (h1 : s ≤ a) (h2 : a < b) (h3 : b ≤ text.length) (hr : Cuts find text repl b r) : Cuts find text repl s ((text.drop s).take (a - s) ++ repl ++ r)

theorem Cuts.shift {find : Nat → Option (Nat × Nat)} {text repl : List Nat} {s : Nat} {r : List Nat} (hs : s < text.length) (he : find s = find (s + 1)) (h : Cuts find text repl (s + 1) r) : Cuts find text repl s (text[s] :: r) := by
  have hd : text.drop s = text[s] :: text.drop (s + 1) := List.drop_eq_getElem_cons hs
  cases h with
  | done _ h => rw [← hd]; exact .done s (he.trans h)
  | next _ a b r h h1 h2 h3 hr =>
    have := Cuts.next s a b r (he.trans h) (by omega) h2 h3 hr
    rw [hd, show a - s = (a - (s + 1)) + 1 from by omega, List.take_succ_cons] at this
    simpa using this

def q1 : Bool → List Nat → List Nat
  | _, [] => []
  | b, c :: t => if b = true ∧ c = 46 then 46 :: 46 :: q1 false t else c :: q1 (c == 10) t
def q2 : Bool → List Nat → List Nat
  | _, [] => []
  | b, c :: t => if c = 10 then (if b then q2 false t else 13 :: 10 :: q2 false t) else if c = 13 then 13 :: 10 :: q2 true t else c :: q2 false t

abbrev F1 (text : List Nat) (s : Nat) : Option (Nat × Nat) := fnd (good1 text.toArray) (text.length - s) s
abbrev F2 (text : List Nat) (s : Nat) : Option (Nat × Nat) := fnd (good2 text.toArray) (text.length - s) s

theorem toA_getD {text : List Nat} {i : Nat} (h : i < text.length) : text.toArray.getD i 0 = text[i] := by
  simp [Array.getD, h]

theorem cuts1 (text : List Nat) : ∀ k s, text.length - s = k → s ≤ text.length → Cuts (F1 text) text [46, 46] s (q1 (ls text.toArray s) (text.drop s)) := by
  intro k
  induction k with
  | zero =>
    intro s hk hs
    have e : text.drop s = [] := List.drop_eq_nil_of_le (by omega)
    rw [e]
    have := Cuts.done (find := F1 text) (text := text) (repl := [46, 46]) s (by unfold F1; rw [hk]; rfl)
    rw [e] at this
    unfold q1; exact this
  | succ k ih =>
    intro s hk hs
    have hl : s < text.length := by omega
    have hd : text.drop s = text[s] :: text.drop (s + 1) := List.drop_eq_getElem_cons hl
    have hls : ls text.toArray (s + 1) = (text[s] == 10) := by
      unfold ls
      rw [Nat.add_sub_cancel, toA_getD hl]
      rfl
    have hn := ih (s + 1) (by omega) (by omega)
    rw [hls] at hn
    by_cases hg : ls text.toArray s = true ∧ text.toArray.getD s 0 = 46
    · have hf : F1 text s = some (s, s + 1) := by
        unfold F1; rw [hk]; unfold fnd good1; rw [if_pos hg]
      have hc : text[s] = 46 := by rw [← toA_getD hl]; exact hg.2
      have := Cuts.next s s (s + 1) _ hf (by omega) (by omega) (by omega) hn
      rw [hd]; unfold q1
      rw [if_pos ⟨hg.1, hc⟩]
      rw [hc] at this
      simpa using this
    · have hf : F1 text s = F1 text (s + 1) := by
        have hz : good1 text.toArray s = none := if_neg hg
        unfold F1; rw [hk, show text.length - (s + 1) = k from by omega]; conv => lhs; unfold fnd
        rw [hz]
      rw [hd]; unfold q1
      rw [toA_getD hl] at hg
      rw [if_neg hg]
      exact hn.shift hl hf

theorem q2_skip {b : Bool} {t : List Nat} (h : t.head? ≠ some 10) : q2 b t = q2 false t := by
  cases t with
  | nil => cases b <;> rfl
  | cons c t =>
    have hc : c ≠ 10 := fun e => h (by rw [e]; rfl)
    unfold q2
    rw [if_neg hc, if_neg hc]

theorem cuts2 (text : List Nat) : ∀ k s, text.length - s = k → s ≤ text.length → Cuts (F2 text) text [13, 10] s (q2 false (text.drop s)) := by
  intro k
  induction k using Nat.strongRecOn with
  | ind k ih =>
    intro s hk hs
    by_cases hl : s < text.length
    · obtain ⟨j, rfl⟩ : ∃ j, k = j + 1 := ⟨k - 1, by omega⟩
      have hd : text.drop s = text[s] :: text.drop (s + 1) := List.drop_eq_getElem_cons hl
      have g0 := toA_getD hl
      have hn := ih j (by omega) (s + 1) (by omega) (by omega)
      cases hg : good2 text.toArray s with
      | none =>
        have hf : F2 text s = F2 text (s + 1) := by
          unfold F2; rw [hk, show text.length - (s + 1) = j from by omega]; conv => lhs; unfold fnd
          rw [hg]
        unfold good2 at hg
        rw [g0] at hg
        split at hg
        · cases hg
        · split at hg
          · cases hg
          · next h =>
            rw [hd]; unfold q2
            rw [if_neg (fun e => h (.inl e)), if_neg (fun e => h (.inr e))]
            exact hn.shift hl hf
      | some b =>
        have hf : F2 text s = some (s, b) := by unfold F2; rw [hk]; unfold fnd; rw [hg]
        unfold good2 at hg
        rw [g0] at hg
        split at hg
        · next h =>
          cases hg
          have h1 : s + 1 < text.length := by simpa using h.2.1
          have hd1 : text.drop (s + 1) = text[s + 1] :: text.drop (s + 2) := List.drop_eq_getElem_cons h1
          have := Cuts.next s s (s + 2) _ hf (by omega) (by omega) (by omega) (ih (j - 1) (by omega) (s + 2) (by omega) (by omega))
          have h10 : text[s + 1] = 10 := by rw [← toA_getD h1]; exact h.2.2
          rw [hd, hd1]; unfold q2
          rw [h.1, if_neg (by decide), if_pos rfl]
          unfold q2
          rw [if_pos h10, if_pos rfl]
          simpa using this
        · next h0 =>
          split at hg
          · next h =>
            cases hg
            have := Cuts.next s s (s + 1) _ hf (by omega) (by omega) (by omega) hn
            rw [hd]; unfold q2
            by_cases h10 : text[s] = 10
            · rw [if_pos h10, if_neg (by decide)]
              simpa using this
            · rw [if_neg h10, if_pos (h.resolve_left h10)]
              rw [q2_skip (t := text.drop (s + 1)) (fun e => ?_)]
              · simpa using this
              · by_cases h1 : s + 1 < text.length
                · have hd1 : text.drop (s + 1) = text[s + 1] :: text.drop (s + 2) := List.drop_eq_getElem_cons h1
                  rw [hd1] at e
                  exact h0 ⟨h.resolve_left h10, by simpa using h1, by rw [toA_getD h1]; simpa [List.getElem?_eq_getElem h1] using e⟩
                · rw [List.drop_eq_nil_of_le (by omega)] at e
                  cases e
          · cases hg
    · have e : text.drop s = [] := List.drop_eq_nil_of_le (by omega)
      rw [e]
      have := Cuts.done (find := F2 text) (text := text) (repl := [13, 10]) s (by unfold F2; rw [show text.length - s = 0 from by omega]; rfl)
      rw [e] at this
      exact this

def quoted (t : List Nat) : List Nat := q1 true (q2 false t)
end Mine
end

section
set_option Elab.async false
set_option maxRecDepth 100000
set_option linter.unusedVariables false
namespace Mine

theorem q2_row : ∀ (r : List Nat) (b : Bool) (rest : List Nat), r ≠ [] → 10 ∉ r → 13 ∉ r → q2 b (r ++ rest) = r ++ q2 false rest
  | [], _, _, h, _, _ => absurd rfl h
  | [c], b, rest, _, h1, h2 => by
    have c1 : c ≠ 10 := fun e => h1 (by simp [e])
    have c2 : c ≠ 13 := fun e => h2 (by simp [e])
    show q2 b (c :: rest) = c :: q2 false rest
    rw [q2, if_neg c1, if_neg c2]
  | c :: d :: r, b, rest, _, h1, h2 => by
    have c1 : c ≠ 10 := fun e => h1 (by simp [e])
    have c2 : c ≠ 13 := fun e => h2 (by simp [e])
    show q2 b (c :: ((d :: r) ++ rest)) = c :: ((d :: r) ++ q2 false rest)
    rw [q2, if_neg c1, if_neg c2, q2_row (d :: r) false rest (by simp) (fun h => h1 (List.mem_cons_of_mem _ h)) (fun h => h2 (List.mem_cons_of_mem _ h))]
theorem q2_end {e : List Nat} (he : e = [13] ∨ e = [10] ∨ e = [13, 10]) {x : List Nat} (hx : x.head? ≠ some 10) : q2 false (e ++ x) = [13, 10] ++ q2 false x := by
  rcases he with rfl | rfl | rfl
  · show q2 false (13 :: x) = 13 :: 10 :: q2 false x
    rw [q2, if_neg (by decide), if_pos rfl, q2_skip hx]
  · show q2 false (10 :: x) = 13 :: 10 :: q2 false x
    rw [q2, if_pos rfl, if_neg (by decide)]
  · show q2 false (13 :: 10 :: x) = 13 :: 10 :: q2 false x
    rw [q2, if_neg (by decide), if_pos rfl, q2, if_pos rfl, if_pos rfl]

theorem q1_in : ∀ (r : List Nat) (rest : List Nat), 10 ∉ r → q1 false (r ++ 13 :: 10 :: rest) = r ++ 13 :: 10 :: q1 true rest
  | [], rest, _ => by
    show q1 false (13 :: 10 :: rest) = 13 :: 10 :: q1 true rest
    rw [q1, if_neg (by simp), q1, if_neg (by simp)]
    rfl
  | c :: r, rest, h => by
    have hc : c ≠ 10 := fun e => h (by simp [e])
    show q1 false (c :: (r ++ 13 :: 10 :: rest)) = c :: (r ++ 13 :: 10 :: q1 true rest)
    rw [q1, if_neg (by simp), show (c == 10) = false from by simpa using hc, q1_in r rest (fun e => h (List.mem_cons_of_mem _ e))]
def dot1 (r : List Nat) : List Nat := if (r.take 1 == [46]) = true then [46] else []
theorem q1_row {r rest : List Nat} (h0 : r ≠ []) (h : 10 ∉ r) : q1 true (r ++ 13 :: 10 :: rest) = dot1 r ++ r ++ 13 :: 10 :: q1 true rest := by
  cases r with
  | nil => exact absurd rfl h0
  | cons c r =>
    have hc : c ≠ 10 := fun e => h (by simp [e])
    have hr : 10 ∉ r := fun e => h (List.mem_cons_of_mem _ e)
    show q1 true (c :: (r ++ 13 :: 10 :: rest)) = _
    by_cases h46 : c = 46
    · subst h46
      rw [q1, if_pos ⟨rfl, rfl⟩, q1_in r rest hr]
      simp [dot1]
    · rw [q1, if_neg (fun e => h46 e.2), show (c == 10) = false from by simpa using hc, q1_in r rest hr]
      simp [dot1, h46]

/-- the mail: rows with return and feed, and the star -/
def mailOf (rows : List (List Nat)) : List Nat := (rows.map fun r => r ++ [13, 10]).flatten ++ [42]
theorem q1_mail : ∀ rows : List (List Nat), (∀ r ∈ rows, r ≠ [] ∧ 10 ∉ r) → q1 true (mailOf rows) = mailOf (rows.map fun r => dot1 r ++ r)
  | [], _ => rfl
  | r :: rows, h => by
    have e : mailOf (r :: rows) = r ++ 13 :: 10 :: mailOf rows := by simp [mailOf]
    rw [e, q1_row (h r List.mem_cons_self).1 (h r List.mem_cons_self).2, q1_mail rows fun a ha => h a (List.mem_cons_of_mem _ ha)]
    simp [mailOf]
theorem mail_head {rows : List (List Nat)} (h : ∀ r ∈ rows, r ≠ [] ∧ 10 ∉ r) {es : List (List Nat)} : ((List.zipWith (fun a b => a ++ b) rows es).flatten ++ [42]).head? ≠ some 10 := by
  cases rows with
  | nil => simp
  | cons r rows =>
    cases es with
    | nil => simp
    | cons e es =>
      obtain ⟨h1, h2⟩ := h r List.mem_cons_self
      cases r with
      | nil => exact absurd rfl h1
      | cons c r => simp; intro q; exact h2 (by simp [q])
theorem q2_mail : ∀ (rows es : List (List Nat)), rows.length = es.length → (∀ r ∈ rows, r ≠ [] ∧ 10 ∉ r) → (∀ r ∈ rows, 13 ∉ r) → (∀ e ∈ es, e = [13] ∨ e = [10] ∨ e = [13, 10]) →
    q2 false ((List.zipWith (fun a b => a ++ b) rows es).flatten ++ [42]) = mailOf rows
  | [], [], _, _, _, _ => rfl
  | r :: rows, e :: es, hl, h, h2, h3 => by
    have eq : (List.zipWith (fun a b => a ++ b) (r :: rows) (e :: es)).flatten ++ [42] = r ++ (e ++ ((List.zipWith (fun a b => a ++ b) rows es).flatten ++ [42])) := by simp
    rw [eq, q2_row r false _ (h r List.mem_cons_self).1 (h r List.mem_cons_self).2 (h2 r List.mem_cons_self), q2_end (h3 e List.mem_cons_self) (mail_head fun a ha => h a (List.mem_cons_of_mem _ ha)),
      q2_mail rows es (by simpa using hl) (fun a ha => h a (List.mem_cons_of_mem _ ha)) (fun a ha => h2 a (List.mem_cons_of_mem _ ha)) (fun a ha => h3 a (List.mem_cons_of_mem _ ha))]
    simp [mailOf]
end Mine
end

section
open PySem PySem.W PyProof.Rows SeqAt
set_option Elab.async false
set_option maxRecDepth 100000
set_option maxHeartbeats 1000000
set_option linter.unusedVariables false
namespace Mine
open PySem.Builtin PySem.Builtin.Str

def occ (a b : List Nat) : Bool := (List.range (b.length + 1)).any fun i => (b.drop i).take a.length == a
theorem occ_iff {a b : List Nat} : occ a b = true ↔ ∃ p q, b = p ++ a ++ q := by
  unfold occ
  rw [List.any_eq_true]
  constructor
  · rintro ⟨i, hi, h⟩
    rw [beq_iff_eq] at h
    refine ⟨b.take i, (b.drop i).drop a.length, ?_⟩
    rw [List.append_assoc]
    conv => lhs; rw [← List.take_append_drop i b]
    congr 1
    conv => lhs; rw [← List.take_append_drop a.length (b.drop i)]
    rw [h]
  · rintro ⟨p, q, rfl⟩
    refine ⟨p.length, by simp; omega, ?_⟩
    simp
theorem found_occ (a b : List Nat) : (!(occurrences (T b) (T a) 0 (T b).length 1).isEmpty) = occ a b := by
  rw [Bool.eq_iff_iff, StrLaws.found_iff]
  unfold occ
  rw [List.any_eq_true]
  constructor
  · rintro ⟨i, h1, h2⟩
    rw [StrLaws.subAt_eq] at h2
    rw [T_len, T_len] at h1
    exact ⟨i, by simp; omega, by simpa [T_len] using h2⟩
  · rintro ⟨i, h1, h2⟩
    refine ⟨i, ?_, by rw [StrLaws.subAt_eq]; simpa [T_len] using h2⟩
    rw [T_len, T_len]
    rw [beq_iff_eq] at h2
    have h3 := congrArg List.length h2
    rw [List.length_take, List.length_drop] at h3
    simp at h1
    omega

section
variable {c : Cx}
theorem Op2.inS {a b : List Nat} : Op2 c (compareOp .In) (S a) (S b) (.bool (occ a b)) := fun s v1 v2 o r1 r2 E => by
  cases r1; cases r2
  exact PyProof.Rows.in_str (by rw [found_occ]; exact ⟨.bool _, .refl s⟩)

theorem reps_strs {X : List Addr} {h : Heap} : ∀ l : List (Str × Tok), Reps X h (strValues l) ((l.map (·.1)).map D.str)
  | [] => .nil
  | (x, t) :: l => .cons (.str _ _) (reps_strs l)

theorem Ev.split {pl : Sem Bool} {o : Expr} {args : List Expr} {apos pos : Pos} {l sep : List Nat} (ho : Ev c o (S l)) (ha : EvL c args [S sep]) (hs : sep ≠ []) (hz : l.length ≤ 1000000)
    (he : eval (.Call (.Attribute o "split" apos) args [] pos) c.env = (do
      let ov ← eval o c.env
      standAt apos.atName
      let (f, first) ← holding [ov] (getMethod ov "split" pl)
      callWith pos f first (backTo pos (starEach args c.env)) []) := by rfl) : Ev c (.Call (.Attribute o "split" apos) args [] pos) (.list ((Txt.split (T l) (T sep)).map D.str)) :=
  Ev.methS ho ha PySem.F.slot_str_split PySem.F.type_str_split (fun s t vs ok r E => by
    cases r with
    | cons hv hs' =>
    cases hs'
    cases hv with
    | str _ u =>
    have hy : ((T sep).length == 0) = false := by rw [T_len]; simpa using hs
    have hle := PyProof.Rows.split_le (T l) (T sep)
    have fin : ∀ (lst : List (Str × Tok)) (tk : Nat), lst.map (·.1) = Txt.split (T l) (T sep) → Rep c.X (s.heap.push { cls := .type "list", data := .seq (strValues lst).toArray }) (.ref s.heap.objs.size) (.list ((Txt.split (T l) (T sep)).map D.str)) ∧ Kp s { s with heap := s.heap.push { cls := .type "list", data := .seq (strValues lst).toArray }, toks := tk } := by
      intro lst tk e
      rw [← e]
      exact ⟨ok.newList (reps_strs lst), .push s _ _⟩
    cases h1 : (decide ((T l).length < (T sep).length) || decide (strKind (T l) < strKind (T sep)))
    · cases hf : (occurrences (T l) (T sep) 0 (T l).length ((T l).length + 1)).isEmpty
      · have hsp : Txt.split (T l) (T sep) = partsBetween (T l) (occurrences (T l) (T sep) 0 (T l).length ((T l).length + 1)) (T sep).length := by
          unfold Txt.split; rw [if_neg (by rw [h1]; exact Bool.false_ne_true), if_neg (by rw [hf]; exact Bool.false_ne_true)]
        refine call_meets PySem.F.slot_str_split (typeIs_str _ _ _) PySem.F.entry_str_split (PySem.F.args_str_split_2 _ _) (meets_str_split_sep (T l) (T sep) t u h1 hy hf (by rw [T_len, sizeLine_eq]; omega) (by rw [← hsp, sizeLine_eq]; rw [T_len] at hle; omega)) ?_
        show _ ∧ Kp _ { s with toks := _, heap := _ }
        rw [strsFrom_eq]
        exact fin (numbered s.toks _) _ ((numbered_texts _ _).trans hsp.symm)
      · exact call_meets PySem.F.slot_str_split (typeIs_str _ _ _) PySem.F.entry_str_split (PySem.F.args_str_split_2 _ _) (meets_str_split_not_found (T l) (T sep) t u h1 hy hf)
          (fin [(T l, t)] s.toks (by unfold Txt.split; rw [if_neg (by rw [h1]; exact Bool.false_ne_true), if_pos hf]; rfl))
    · exact call_meets PySem.F.slot_str_split (typeIs_str _ _ _) PySem.F.entry_str_split (PySem.F.args_str_split_2 _ _) (meets_str_split_cannot_occur (T l) (T sep) t u h1)
        (fin [(T l, t)] s.toks (by unfold Txt.split; rw [if_pos h1]; rfl))) he
end

def headOf (l : List Nat) : List Nat := l.takeWhile fun x => x != 47
theorem split_head47 (l : List Nat) : ((Txt.split (T l) (T [47])).map D.str)[0]? = some (S (headOf l)) := by
  have h1 := PyProof.Rows.split_pos (T l) (T [47])
  obtain ⟨z, hz⟩ : ∃ z, (Txt.split (T l) (T [47]))[0]? = some z := ⟨_, List.getElem?_eq_getElem h1⟩
  have hat : ∀ i, StrLaws.At (T l) (T [47]) (T l).length i ↔ l[i]? = some 47 := fun i => by
    have := StrLaws.subAt_one (T l) 47 i
    simpa [StrLaws.At] using this
  rw [List.getElem?_map, hz, Option.map_some]
  congr 1
  rcases PyProof.Rows.split_head (T l) (T [47]) (by decide +kernel) z hz with ⟨rfl, hn⟩ | ⟨i, rfl, hi, hm⟩
  · have : headOf l = l := by
      have h := List.takeWhile_append_of_pos (p := fun x => x != 47) (l₁ := l) (l₂ := []) (fun x hx => by
        obtain ⟨i, hi⟩ := List.mem_iff_getElem?.mp hx
        simp only [bne_iff_ne, ne_eq]
        rintro rfl
        exact hn i ((hat i).mpr hi))
      simpa [headOf] using h
    rw [this]
  · rw [hat] at hi
    have : headOf l = l.take i := by
      unfold headOf
      have hlt : i < l.length := (List.getElem?_eq_some_iff.mp hi).1
      have e : l = l.take i ++ l.drop i := (List.take_append_drop i l).symm
      have hd : l.drop i = 47 :: l.drop (i + 1) := by
        rw [List.drop_eq_getElem_cons hlt]
        congr 1
        exact (List.getElem?_eq_some_iff.mp hi).2
      conv => lhs; rw [e, hd]
      rw [List.takeWhile_append_of_pos]
      · simp
      · intro x hx
        simp only [bne_iff_ne, ne_eq]
        rintro rfl
        obtain ⟨k, hk⟩ := List.mem_iff_getElem?.mp hx
        rw [List.getElem?_take] at hk
        split at hk
        · rename_i hki
          exact hm k hki ((hat k).mpr hk)
        · cases hk
    rw [this]
    show D.str (strSub (T l) 0 i) = _
    unfold strSub
    simp [T, List.extract]
end Mine
end

section
open PySem PySem.W PyProof.Rows SeqAt
set_option Elab.async false
set_option maxRecDepth 100000
set_option maxHeartbeats 1000000
set_option linter.unusedVariables false
namespace Mine
open PySem.Builtin PySem.Builtin.Str PySem.StrLaws

/-- pieces with return and feed between -/
def glue : List (List Nat) → List Nat
  | [] => []
  | [p] => p
  | p :: q :: r => p ++ [13, 10] ++ glue (q :: r)

theorem at_13 {x : Str} {k : Nat} (h : At x (T [13, 10]) x.length k) : x.cps.toList[k]? = some 13 := by
  have h2 := h.2
  rw [subAt_eq, beq_iff_eq] at h2
  have h3 : ((x.cps.toList.drop k).take 2)[0]? = some 13 := by
    have : (T [13, 10]).length = 2 := rfl
    rw [this] at h2
    rw [h2]; rfl
  rw [List.getElem?_take_of_lt (by decide), List.getElem?_drop] at h3
  exact h3
theorem at_of {x : Str} {u v : List Nat} (e : x.cps.toList = u ++ [13, 10] ++ v) : At x (T [13, 10]) x.length u.length := by
  have hl : x.length = u.length + 2 + v.length := by
    have := congrArg List.length e
    simp at this
    show x.cps.size = _
    omega
  refine ⟨by rw [hl]; show u.length + 2 ≤ _; omega, ?_⟩
  rw [subAt_eq, e]
  show (List.take 2 (List.drop u.length (u ++ [13, 10] ++ v)) == [13, 10]) = true
  rw [List.append_assoc, List.drop_left]
  rfl

theorem parts_glue : ∀ (P : List (List Nat)) (x : Str) (pre : List Nat) (cuts : List Nat) (f : Nat), P ≠ [] → (∀ p ∈ P, 13 ∉ p) → x.cps.toList = pre ++ glue P →
    ChainG x (T [13, 10]) x.length pre.length cuts f → (∀ k, f ≤ k → ¬ At x (T [13, 10]) x.length k) → partsFrom x 2 pre.length cuts = P.map T
  | [], _, _, _, _, h, _, _, _, _ => absurd rfl h
  | [p], x, pre, cuts, f, _, hp, e, hc, hf => by
    have hno : ∀ k, pre.length ≤ k → x.cps.toList[k]? ≠ some 13 := fun k hk q => by
      rw [e] at q
      rw [List.getElem?_append_right hk] at q
      exact hp p List.mem_cons_self (List.mem_of_getElem? q)
    cases cuts with
    | nil =>
      show [strSub x pre.length x.length] = [T p]
      congr 1
      apply Str.ext'
      apply Array.toList_inj.mp
      rw [strSub_toList, e, List.drop_left]
      show List.take _ p = p
      have hl : x.length = pre.length + p.length := by
        have := congrArg List.length e
        simp [glue] at this
        show x.cps.size = _
        omega
      exact List.take_of_length_le (by omega)
    | cons c r => exact absurd (at_13 hc.2.1) (hno c hc.1)
  | p :: q :: r, x, pre, cuts, f, _, hp, e, hc, hf => by
    have e' : x.cps.toList = (pre ++ p) ++ [13, 10] ++ glue (q :: r) := by rw [e]; simp [glue]
    have hat := at_of e'
    rw [List.length_append] at hat
    have hno : ∀ k, pre.length ≤ k → k < pre.length + p.length → x.cps.toList[k]? ≠ some 13 := fun k hk hk2 h => by
      rw [e', List.append_assoc, List.append_assoc, List.getElem?_append_right hk, List.getElem?_append_left (by omega)] at h
      exact hp p List.mem_cons_self (List.mem_of_getElem? h)
    cases cuts with
    | nil =>
      have hff : f = pre.length := hc
      exact absurd hat (hf _ (by omega))
    | cons c cs =>
      obtain ⟨h1, h2, h3, h4⟩ := hc
      have hcp : c = pre.length + p.length := by
        rcases Nat.lt_trichotomy c (pre.length + p.length) with hlt | heq | hgt
        · exact absurd (at_13 h2) (hno c h1 hlt)
        · exact heq
        · exact absurd hat (h3 _ (by omega) hgt)
      subst hcp
      show strSub x pre.length (pre.length + p.length) :: partsFrom x 2 (pre.length + p.length + 2) cs = T p :: (q :: r).map T
      have hlen : (pre ++ p ++ [13, 10]).length = pre.length + p.length + 2 := by simp; omega
      have ih := parts_glue (q :: r) x (pre ++ p ++ [13, 10]) cs f (by simp) (fun a ha => hp a (List.mem_cons_of_mem _ ha)) (by rw [e']) (by rw [hlen]; exact h4) hf
      rw [hlen] at ih
      rw [ih]
      congr 1
      apply Str.ext'
      apply Array.toList_inj.mp
      rw [strSub_toList, e, List.drop_left]
      show List.take (pre.length + p.length - pre.length) (glue (p :: q :: r)) = p
      rw [Nat.add_sub_cancel_left]
      simp [glue]

theorem split_glue (P : List (List Nat)) (h0 : P ≠ []) (hp : ∀ p ∈ P, 13 ∉ p) : Txt.split (T (glue P)) (T [13, 10]) = P.map T := by
  obtain ⟨f, hG, hn⟩ := occ_tight (T (glue P)) (T [13, 10]) (by decide)
  have key := parts_glue P (T (glue P)) [] _ f h0 hp rfl hG hn
  have single : (∀ i, ¬ At (T (glue P)) (T [13, 10]) (T (glue P)).length i) → [T (glue P)] = P.map T := fun h => by
    match P, h0 with
    | [p], _ => rfl
    | p :: q :: r, _ => exact absurd (at_of (x := T (glue (p :: q :: r))) (u := p) (v := glue (q :: r)) (by simp [glue])) (h _)
  unfold Txt.split
  split
  · rename_i hc
    refine single fun i hi => ?_
    rw [Bool.or_eq_true, decide_eq_true_eq, decide_eq_true_eq] at hc
    rcases hc with h | h
    · have := hi.1; omega
    · have := PyProof.Rows.strKind_pos (T (glue P))
      rw [show strKind (T [13, 10]) = 1 from by decide +kernel] at h
      omega
  · split
    · rename_i hc
      refine single fun i hi => ?_
      have hnil : occurrences (T (glue P)) (T [13, 10]) 0 (T (glue P)).length ((T (glue P)).length + 1) = [] := by simpa using hc
      rw [hnil] at hG
      have hf : f = 0 := hG
      exact hn i (by omega) hi
    · rw [partsBetween_eq]
      exact key
end Mine
end

section
set_option Elab.async false
set_option maxRecDepth 100000
set_option linter.unusedVariables false
namespace Mine

theorem quoted_first (rows es : List (List Nat)) (hl : rows.length = es.length) (h : ∀ r ∈ rows, r ≠ [] ∧ 10 ∉ r) (h2 : ∀ r ∈ rows, 13 ∉ r) (h3 : ∀ e ∈ es, e = [13] ∨ e = [10] ∨ e = [13, 10]) :
    quoted ((List.zipWith (fun a b => a ++ b) rows es).flatten ++ [42]) = mailOf (rows.map fun r => dot1 r ++ r) := by
  unfold quoted
  rw [q2_mail rows es hl h h2 h3, q1_mail rows h]
theorem mailOf_zip (rows : List (List Nat)) : mailOf rows = (List.zipWith (fun a b => a ++ b) rows (rows.map fun _ => [13, 10])).flatten ++ [42] := by
  unfold mailOf
  rw [List.zipWith_map_right, List.zipWith_self]
theorem quoted_mail (rows : List (List Nat)) (h : ∀ r ∈ rows, r ≠ [] ∧ 10 ∉ r) (h2 : ∀ r ∈ rows, 13 ∉ r) : quoted (mailOf rows) = mailOf (rows.map fun r => dot1 r ++ r) := by
  rw [mailOf_zip, quoted_first rows _ (by simp) h h2 (fun e he => by
    obtain ⟨_, _, rfl⟩ := List.mem_map.mp he; exact .inr (.inr rfl))]

/-- a row's dots after k turns -/
def dotted (k : Nat) (r : List Nat) : List Nat := (if (r.take 1 == [46]) = true then List.replicate k 46 else []) ++ r
theorem dotted_head (k : Nat) (r : List Nat) : ((dotted k r).take 1 == [46]) = (r.take 1 == [46]) := by
  unfold dotted
  split
  · rename_i h
    cases k with
    | zero => rfl
    | succ k => rw [h]; simp [List.replicate_succ]
  · rw [List.nil_append]
theorem dot1_dotted (k : Nat) (r : List Nat) : dot1 (dotted k r) ++ dotted k r = dotted (k + 1) r := by
  unfold dot1
  rw [dotted_head]
  unfold dotted
  split
  · simp [List.replicate_succ]
  · rfl
theorem dotted_ok {k : Nat} {r : List Nat} (h : r ≠ [] ∧ 10 ∉ r) (h2 : 13 ∉ r) : (dotted k r ≠ [] ∧ 10 ∉ dotted k r) ∧ 13 ∉ dotted k r := by
  unfold dotted
  refine ⟨⟨by simp [h.1], fun q => ?_⟩, fun q => ?_⟩
  · rcases List.mem_append.mp q with q | q
    · split at q
      · have := List.eq_of_mem_replicate q; omega
      · cases q
    · exact h.2 q
  · rcases List.mem_append.mp q with q | q
    · split at q
      · have := List.eq_of_mem_replicate q; omega
      · cases q
    · exact h2 q
def mailAt (rows : List (List Nat)) (k : Nat) : List Nat := mailOf (rows.map (dotted k))
theorem quoted_at (rows : List (List Nat)) (h : ∀ r ∈ rows, r ≠ [] ∧ 10 ∉ r) (h2 : ∀ r ∈ rows, 13 ∉ r) (k : Nat) : quoted (mailAt rows k) = mailAt rows (k + 1) := by
  unfold mailAt
  rw [quoted_mail _ (fun r hr => by obtain ⟨a, ha, rfl⟩ := List.mem_map.mp hr; exact (dotted_ok (h a ha) (h2 a ha)).1) (fun r hr => by obtain ⟨a, ha, rfl⟩ := List.mem_map.mp hr; exact (dotted_ok (h a ha) (h2 a ha)).2), List.map_map]
  congr 1
  exact List.map_congr_left fun r _ => dot1_dotted k r
theorem glue_snoc : ∀ (P : List (List Nat)) (z : List Nat), glue (P ++ [z]) = (P.map fun p => p ++ [13, 10]).flatten ++ z
  | [], z => by simp [glue]
  | [p], z => by simp [glue]
  | p :: q :: r, z => by
    have ih := glue_snoc (q :: r) z
    show p ++ [13, 10] ++ glue ((q :: r) ++ [z]) = _
    rw [ih]; simp
theorem mailAt_glue (rows : List (List Nat)) (k : Nat) : mailAt rows k = glue (rows.map (dotted k) ++ [[42]]) := by
  rw [glue_snoc]; rfl
end Mine
end

section
open PySem PySem.W PyProof.Rows SeqAt
set_option Elab.async false
set_option maxRecDepth 100000
set_option maxHeartbeats 1000000
set_option linter.unusedVariables false
namespace Mine

def rowTxt (n ch : Nat) : List Nat := (([10] ++ List.replicate n 46) ++ [ch]) ++ [13]
def blockAt (marks : List Int) (hours : Int) (letters : List Nat) (n : Nat) : List (List Nat) := if marks.contains ((n : Int) % hours) = true then letters.map (rowTxt n) else []
def rowsUpTo (marks : List Int) (hours : Int) (letters : List Nat) (i : Nat) : List (List Nat) := ((List.range i).map fun j => blockAt marks hours letters (1 + j)).flatten

theorem rowsUpTo_succ (marks : List Int) (hours : Int) (letters : List Nat) (i : Nat) : rowsUpTo marks hours letters (i + 1) = rowsUpTo marks hours letters i ++ blockAt marks hours letters (1 + i) := by
  simp [rowsUpTo, List.range_succ]
theorem rowsUpTo_len (marks : List Int) (hours : Int) (letters : List Nat) : ∀ i, (rowsUpTo marks hours letters i).length ≤ i * letters.length
  | 0 => by simp [rowsUpTo]
  | i + 1 => by
    rw [rowsUpTo_succ, List.length_append, Nat.succ_mul]
    have := rowsUpTo_len marks hours letters i
    have h2 : (blockAt marks hours letters (1 + i)).length ≤ letters.length := by
      unfold blockAt; split <;> simp
    omega

theorem sing_inj : ∀ a b : Nat, S [a] = S [b] → a = b := fun a b h => by simpa using S_inj _ _ h

theorem rows_fn {w : World} {h₀ : Heap} {mg mb : Str → Option Value} (B : Base w h₀ mg mb) (marks : List Int) (hours : Int) (letters : List Nat) (h0 : 0 < hours) (h1 : hours ≤ 13) (hl : letters.length ≤ 2) :
    Fn PR w h₀ 2 (.ref 116) [.list (marks.map .int), .int hours, S letters] (LL (rowsUpTo marks hours letters (2 * hours).toNat)) := by
  refine Fn.ofK B 116 1 ["marks", "hours", "letters"] rfl rfl (by kernel_rfl!) rfl (fun vs h => ?_) rfl rfl rfl rfl (by kernel_rfl!) ?_
  · match vs, h with
    | [a, b, c], _ => kernel_rfl!
  intro A' X L s₁ F E'
  refine ex_newList F .local ?_
  intro R s2 hR hRf hR0 F2 hM2 V2
  refine ex_for F2 .cell (R :: fo (envK w.params 116 L)) (fun _ => _) (fun wr i s' => ML (wr ++ (R :: (fo (envK w.params 116 L) ++ X))) s' R ((rowsUpTo marks hours letters i).map S))
    (EvIt.range2 (m := 1) (n := 2 * hours + 1) (Ev.name rfl) Ev.cint (Ev.binop (Ev.binop Ev.cint (Ev.name rfl) (Op2.mulI ?_)) Ev.cint Op2.addI) (by decide) (by decide) (by omega) (by omega)) ?_ (fun b hb => List.mem_cons_of_mem _ hb) (fun _ _ _ h => h) ?_ ?_ ?_ ?_
  · exact mulOk_small (by decide) (by decide)
  · intro b hb
    show b ∈ R :: (fo (envK w.params 116 L) ++ X)
    rcases List.mem_cons.mp hb with rfl | hb
    · exact List.mem_cons_self
    · exact List.mem_cons_of_mem _ (List.mem_append_left _ hb)
  · intro wr s3 hwr F3 k3
    exact hM2.more hwr k3
  · intro wr i s3 s4 hwr h V
    refine h.mv V ?_ ?_
    · intro q
      rcases List.mem_append.mp q with q | q
      · have e := hwr R q
        obtain ⟨items, ⟨n, p⟩, _⟩ := hM2
        rw [p] at e; cases e
      · exact hRf q
    · intro b hb
      rcases List.mem_append.mp hb with q | q
      · exact List.mem_append_left _ q
      · exact List.mem_append_right _ (List.mem_cons_of_mem _ (List.mem_append_left _ q))
  · intro wr i d s3 hwr hd F3 hM3 V3 E3
    obtain ⟨rfl, hi⟩ := rangeDs_at hd
    have hi' : i < 26 := by omega
    have eI : (1 + (i : Int)) = ((1 + i : Nat) : Int) := by omega
    have hRX : R ∈ wr ++ (R :: (fo (envK w.params 116 L) ++ X)) := List.mem_append_right _ List.mem_cons_self
    have hlen := rowsUpTo_len marks hours letters i
    have hlen2 : i * letters.length ≤ 25 * 2 := Nat.mul_le_mul (by omega) hl
    refine ex_if F3 (marks.contains (((1 + i : Nat) : Int) % hours)) ((EvT.cmp (Ev.binop (Ev.name rfl) (Ev.name rfl) (Op2.modI h0)) (Ev.name rfl) Op2.inLI).as (by rw [eI])) ?_
    intro s4 F4 k4
    have hM4 := hM3.kp k4
    cases hm : marks.contains (((1 + i : Nat) : Int) % hours) with
    | false =>
      have hb : blockAt marks hours letters (1 + i) = [] := by unfold blockAt; rw [hm]; rfl
      refine wpAny_execs_nil (wpAny_execs_nil ⟨F4.unset rfl, ?_, k4.mv _⟩)
      rw [rowsUpTo_succ, hb, List.append_nil]
      exact hM4
    | true =>
      have hb : blockAt marks hours letters (1 + i) = letters.map (rowTxt (1 + i)) := by unfold blockAt; rw [hm]; rfl
      refine ex_extend F4 hM4 hRX hRf hR0 (Ev.refOf (Ev.name rfl) F4.ok) (Ev.compM sing_inj .local (xs := letters) (fun _ => true) (fun ch => S (rowTxt (1 + i) ch)) (EvIt.str (Ev.name rfl)) (fun _ _ _ _ => .nil) ?_ (by omega)) ?_ ?_
      · intro ch _ _ env X'
        refine Ev.binop (Ev.binop (Ev.binop (Ev.cstr [10]) (Ev.binop (Ev.cstr [46]) (Ev.name rfl) ((Op2.mulS (by omega) (by omega)))) (Op2.addS ?_)) (Ev.name rfl) (Op2.addS ?_)) (Ev.cstr [13]) ?_
        · simp; omega
        · simp; omega
        · rw [eI, Int.toNat_natCast]
          exact Op2.addS (by simp; omega)
      · rw [List.filter_eq_self.mpr (fun _ _ => rfl)]
        simp only [List.length_map]
        omega
      · intro s5 F5 hM5 V5
        refine wpAny_execs_nil (wpAny_execs_nil ⟨F5.unset rfl, ?_, (k4.mv _).tr (V5.mono (by simp))⟩)
        rw [List.filter_eq_self.mpr (fun _ _ => rfl)] at hM5
        rw [rowsUpTo_succ, hb, List.map_append, List.map_map]
        exact hM5
  · intro wr s3 hwr F3 hM3 V3
    refine ex_ret F3 (Ev.name rfl) fun v s4 r k => ?_
    cases r
    refine ⟨_, R :: fo (envK w.params 116 L), rfl, ?_, ?_, ?_⟩
    · have e : (rangeDs 1 (2 * hours + 1)).length = (2 * hours).toNat := by rw [rangeDs_len]; congr 1; omega
      rw [e] at hM3
      exact (hM3.kp k).rep (fun b hb => List.mem_append_right _ (List.mem_cons_of_mem _ (List.mem_append_right _ hb))) (fun q => F.ok.fresh hR (List.mem_append_right _ q))
    · exact (V2.mono fun b hb => List.mem_cons_of_mem _ hb).tr (V3.tr (k.mv _))
    · intro b hb
      rcases List.mem_cons.mp hb with rfl | hb
      · exact .inr hR
      · exact .inl hb
end Mine
end

section
open PySem PySem.W PyProof.Rows SeqAt
set_option Elab.async false
set_option maxRecDepth 100000
set_option linter.unusedVariables false
namespace Mine
theorem rp_attrs : PlainAttrs "re.Pattern" :=
  ⟨⟨"object.__getattribute__", by rw [typeLookup_type, builtinLookup_eq_fast]; kernel_rfl, by decide +kernel⟩, by rw [typeLookup_type, builtinLookup_eq_fast]; kernel_rfl⟩
end Mine
end

section
open PySem PySem.W PyProof.Rows SeqAt
set_option Elab.async false
set_option maxRecDepth 100000
set_option linter.unusedVariables false
namespace Mine
theorem rp_slot : Slot "re.Pattern" "sub" "re.Pattern.sub" :=
  .of (owner := "re.Pattern") (n := "sub") (by rw [typeLookup_type, builtinLookup_eq_fast]; kernel_rfl) (by decide +kernel) (by decide +kernel) (by decide +kernel)
    (by first | exact .inl (by decide +kernel) | exact .inr (by decide +kernel)) (by rw [isSubtype_type]; kernel_rfl)
theorem rp_type : typeOf (.builtin "re.Pattern.sub") = pure (.type "method_descriptor") := by show builtinType _ = _; rw [builtinType_eq_fast]; kernel_rfl
theorem rp_entry : entryFor table "re.Pattern.sub" = some Builtin.«re.Pattern.sub» := entryFor_of_tree (by kernel_rfl)
theorem rp_args (a b c : Value) : argsOk "re.Pattern.sub" ⟨[a, b, c], []⟩ := by unfold argsOk; kernel_rfl
theorem rpl_entry : entryFor table "re.Pattern.sub.loop" = some Builtin.«re.Pattern.sub.loop» := entryFor_of_tree (by kernel_rfl)
theorem rpl_quiet : plainId "re.Pattern.sub.loop" = true := by decide +kernel
end Mine
end

section
open PySem PySem.W PyProof.Rows SeqAt
set_option Elab.async false
set_option maxRecDepth 100000
set_option linter.unusedVariables false
namespace Mine
open PySem.Builtin PySem.Builtin.Re

/-- a compiled pattern stands at pa -/
def PatAt (h : Heap) (pa : Addr) (code : Array Nat) : Prop :=
  ∃ (o : Obj) (vs : Array Value) (ca : Addr) (oc : Obj) (cv : Array Value) (n : Nat), h.get? pa = some o ∧ o.cls = .type "re.Pattern" ∧ o.data = .fields vs ∧ vs.getD 5 .none = .ref ca ∧ reRawNat (vs.getD 6 .none) = 0 ∧ reRawNat (vs.getD 2 .none) = 0 ∧
    h.get? ca = some oc ∧ oc.data = .seq cv n ∧ (cv.map reRawOf).map (·.toNat) = code
theorem PatAt.keeps {s s' : Shared} {pa : Addr} {code : Array Nat} (p : PatAt s.heap pa code) (k : ∀ b o, s.heap.get? b = some o → s'.heap.get? b = some o) : PatAt s'.heap pa code := by
  obtain ⟨o, vs, ca, oc, cv, n, h1, h2, h3, h4, h5, h6, h7, h8⟩ := p
  exact ⟨o, vs, ca, oc, cv, n, k _ _ h1, h2, h3, h4, h5, h6, k _ _ h7, h8⟩

section
variable {M : Model} {A : Around} {E : Value → Shared → Prop} {s : Shared}

@[reducible] def tgt (pa : Addr) (code : Array Nat) (text : Str) (t : Tok) : ReTarget := { pattern := .ref pa, string := .str text t, code, text := text.cps, kind := 0, groups := 0, pos := 0, lim := text.cps.size }

theorem wpAny_wholeTarget {pa : Addr} {code : Array Nat} {text : Str} {t : Tok} {Q : ReTarget → Shared → Prop} (hp : PatAt s.heap pa code) (h : Q { pattern := .ref pa, string := .str text t, code, text := text.cps, kind := 0, groups := 0, pos := 0, lim := text.cps.size } s) :
    wpAny M A (reWholeTarget (.ref pa) (.str text t)) Q E s := by
  obtain ⟨o, vs, ca, oc, cv, n, h1, h2, h3, h4, h5, h6, h7, h8, h9⟩ := hp
  unfold reWholeTarget
  refine wpAny_bind (wpAny_fieldsOf h1 h3 ?_)
  rw [show reTextOf (.str text t) = pure (text.cps, 0) from rfl]
  refine wpAny_bind (wpAny_pure ?_)
  dsimp only
  rw [h5, h4, h6]
  show wpAny M A (reNoCollectionInside (.str text t) 0 >>= _) Q E s
  rw [show reNoCollectionInside (.str text t) 0 = pure () from rfl]
  refine wpAny_bind (wpAny_pure ?_)
  unfold reRawItems
  refine wpAny_bind (wpAny_bind (wpAny_seqItems h7 h8 (wpAny_pure (wpAny_pure ?_))))
  show Q { pattern := .ref pa, string := .str text t, code := (cv.map reRawOf).map (·.toNat), text := text.cps, kind := 0, groups := 0, pos := 0, lim := text.cps.size } s
  rw [h9]; exact h

theorem wpAny_drive {Q : Sre.M → Shared → Prop} : ∀ (turns : Nat) (m : Sre.M) (n : Nat), ((m.runFor n).outcome.isSome = true) → n ≤ 4 * turns → 0 < turns → Q (m.runFor n) s → wpAny M A (reDrive turns m) Q E s := by
  intro turns
  induction turns with
  | zero => intro m n _ _ h; omega
  | succ turns ih =>
    intro m n ho hn _ hq
    unfold reDrive
    dsimp only
    by_cases h4 : (m.runFor reTurnSteps).outcome.isSome = true
    · rw [if_pos h4]
      have e : m.runFor n = m.runFor reTurnSteps := by
        rcases Nat.le_total n reTurnSteps with hle | hle
        · obtain ⟨j, e⟩ := Nat.exists_eq_add_of_le hle
          rw [e, runFor_add, runFor_out ho]
        · obtain ⟨j, e⟩ := Nat.exists_eq_add_of_le hle
          rw [e, runFor_add, runFor_out h4]
      rw [e] at hq
      exact wpAny_pure hq
    · rw [if_neg h4]
      have hle : 4 < n := by
        apply Nat.lt_of_not_le
        intro hle
        obtain ⟨j, e⟩ := Nat.exists_eq_add_of_le (show n ≤ reTurnSteps from hle)
        rw [e, runFor_add, runFor_out ho] at h4
        exact h4 ho
      obtain ⟨j, rfl⟩ := Nat.exists_eq_add_of_le (Nat.le_of_lt hle)
      refine wpAny_bind (wpAny_rule ?_)
      rw [runFor_add] at ho hq
      exact ih _ j ho (by omega) (by omega) hq

theorem wpAny_runToEnd {m : Sre.M} {n : Nat} {o : Option (Nat × Nat)} {Q : Option Sre.M → Shared → Prop} (hn : n ≤ 2 ^ 60) (hr : Res (m.runFor n) o)
    (h : ∀ m', (match o with | some (a, b) => ∃ x, m' = some x ∧ Sre.M.start x = a ∧ Sre.M.handed x = b | none => m' = none) → Q m' s) : wpAny M A (reRunToEnd m) Q E s := by
  unfold reRunToEnd
  have ho : (m.runFor n).outcome.isSome = true := by
    cases o with
    | none => rw [show (m.runFor n).outcome = some .failed from hr]; rfl
    | some ab => rw [show (m.runFor n).outcome = some .matched from hr.1]; rfl
  refine wpAny_bind (wpAny_drive (2 ^ 64) m n ho (by omega) (by omega) ?_)
  refine wpAny_bind (wpAny_forIn_list _ (fun _ _ s' => s' = s) _ (fun x rest b s1 h1 => ?_) (fun b s1 h1 => ?_) _ _ rfl)
  · subst h1
    split
    · exact wpAny_bind (wpAny_rule (wpAny_pure rfl))
    · exact wpAny_pure rfl
  · subst h1
    cases o with
    | none =>
      rw [show (m.runFor n).outcome = some .failed from hr]
      exact wpAny_pure (h _ rfl)
    | some ab =>
      obtain ⟨a, b⟩ := ab
      rw [show (m.runFor n).outcome = some .matched from hr.1]
      exact wpAny_pure (h _ ⟨_, rfl, hr.2.1, hr.2.2⟩)
end

section
variable {prog : Program} {w : World} {A : Around} {R : Result → Shared → Prop}

theorem kp_upd {s0 s : Shared} {p : Addr} (k : Kp s0 s) (hp : s0.heap.get? p = none) (f : Obj → Obj) (t : Nat) : Kp s0 { s with heap := s.heap.update p f, toks := t } :=
  by
    obtain ⟨h, t', rfl, kk⟩ := k
    refine Kp.mk' (s := s0) fun b o e => (Heap.get?_update_other _ _ (fun q => ?_)).trans (kk b o e)
    rw [← q, hp] at e; cases e

theorem strVals_push (l : List (Str × Tok)) (x : Str) (t : Tok) : (strValues l).toArray.push (.str x t) = (strValues (l ++ [(x, t)])).toArray := by simp [strValues]
theorem tail_wp {text : List Nat} {p : Addr} {n : Int} {l : List (Str × Tok)} {ys : List (List Nat)} {s : Shared} (hL : s.heap.PlainList p (strValues l).toArray) (hl : l.map (·.1) = ys.map T) (hz : ys.flatten.length ≤ 4000000)
    (hq : ∀ t' k, R (.ok (.ret (.str (T ys.flatten) t'))) { s with toks := k }) : wpAny (model prog w) A.in1 (do
      let joiner ← reSlice text.toArray 0 0 0
      let xs ← seqItems? (Value.ref p)
      if (xs.getD #[]).isEmpty = true then do
          let text ← pure joiner
          if false = true then do
              ret (← holding [text] do newTuple [text, ← mkInt n])
            else ret text
        else do
          let text ← call (.builtin (if (0 == 0) = true then "str.join" else "bytes.join")) [joiner, .ref p]
          if false = true then do
              ret (← holding [text] do newTuple [text, ← mkInt n])
            else ret text) (fun fin s' =>
      match fin with
      | Fin.done f => R (Except.ok f) s'
      | Fin.again c' => c'.quiet = true ∧ codeAny (model prog w) A c' R s')
    (fun e s' => R (Except.error e) s') s := by
  rw [show reSlice text.toArray 0 0 0 = mkStr (T []) from by unfold reSlice; rw [if_pos (by rfl)]; simp]
  refine wpAny_bind (wpAny_mkStr ?_ (by rw [T_len]; simp))
  obtain ⟨m, hm⟩ := hL
  refine wpAny_bind (wpAny_seqItems (s := { s with toks := s.toks + 1 }) hm rfl ?_)
  dsimp only [Option.getD]
  by_cases he : l = []
  · subst he
    have hy : ys = [] := by cases ys with
      | nil => rfl
      | cons y ys => simp at hl
    subst hy
    rw [if_pos (by rfl)]
    refine wpAny_bind (wpAny_pure ?_)
    rw [if_neg Bool.false_ne_true]
    exact wpAny_pure (hq _ _)
  · rw [if_neg (by cases l with
      | nil => exact absurd rfl he
      | cons a l => simp [strValues]), show (if (0 == 0) = true then "str.join" else "bytes.join") = "str.join" from if_pos rfl]
    refine wpAny_bind (SC.join (s := { s with toks := s.toks + 1 }) ⟨_, hm, rfl, m, rfl⟩ hl (joinOk_T (by omega)) (fun t' k => ?_))
    rw [join_T, if_neg Bool.false_ne_true]
    exact wpAny_pure (hq _ _)

theorem loop_wp {find : Nat → Option (Nat × Nat)} {text repl : List Nat} {code : Array Nat} {pa p : Addr} {t1 t2 : Tok} {s0 : Shared} (hf : ∀ s, Found code text.toArray s (find s)) (hr : 1 ≤ repl.length) (hz : 4 * text.length + 20 ≤ 2 ^ 30)
    (hp0 : s0.heap.get? p = none) (hP : PatAt s0.heap pa code) {pos : Nat} {r : List Nat} (C : Cuts find text repl pos r) : ∀ (n : Int) (must : Bool) (l : List (Str × Tok)) (ys : List (List Nat)) (s : Shared),
    s.heap.PlainList p (strValues l).toArray → l.map (·.1) = ys.map T → ys.flatten.length + r.length ≤ 4000000 → l.length + 2 * r.length ≤ 8000000 → Kp s0 s →
    (∀ s' t', Kp s0 s' → R (.ok (.ret (.str (T (ys.flatten ++ r)) t'))) s') →
    codeAny (model prog w) A (.builtin "re.Pattern.sub.loop" ⟨[.ref pa, .str (T text) t2, .str (T repl) t1, rawInt 0, rawInt 0, rawInt n, rawInt pos, rawInt pos, .bool must, .ref p, .bool false], []⟩) R s := by
  induction C with
  | done pos h =>
    intro n must l ys s hL hl h1 h2 k hq
    refine codeAny_builtin rpl_entry ?_
    rw [Around.under_plainId rpl_quiet]
    unfold Builtin.«re.Pattern.sub.loop»
    refine wpAny_bind (wpAny_wholeTarget (hP.keeps k.get) ?_)
    rw [show reLiteralCannotBeTurned (.str (T repl) t1) = pure () from rfl]
    dsimp only [rawInt]
    rw [if_pos (by rfl)]
    refine wpAny_bind (wpAny_pure ?_)
    rw [if_neg (by simp)]
    obtain ⟨k', hk', res⟩ := hf pos must
    rw [h] at res
    refine wpAny_bind (wpAny_runToEnd (n := k') (by simp at hk'; omega) (by exact res) (fun m' hm' => ?_))
    dsimp only at hm'
    subst hm'
    dsimp only
    have hd : (text.drop pos).length = text.length - pos := List.length_drop
    by_cases hlt : pos < text.length
    · rw [if_pos (by simpa using hlt)]
      rw [show reSlice text.toArray 0 (pos : Int).toNat text.toArray.size = mkStr (T (text.drop pos)) from by
        unfold reSlice; rw [if_pos (by rfl)]; simp [T, List.extract]; rw [List.take_of_length_le (by omega)]]
      refine wpAny_bind (wpAny_mkStr ?_ (by rw [T_len, sizeLine_eq]; omega))
      obtain ⟨m, hm⟩ := hL
      refine wpAny_bind (wpAny_updateSeq (s := { s with toks := s.toks + 1 }) hm rfl ?_ (by simp [strValues, sizeLine_eq]; omega) (by simp [strValues, sizeLine_eq]; omega))
      refine tail_wp (l := l ++ [(T (text.drop pos), s.toks)]) (ys := ys ++ [text.drop pos]) ?_ (by simp [hl]) (by rw [List.flatten_append, List.length_append]; simp only [List.flatten_cons, List.flatten_nil, List.append_nil]; omega) (fun t' k' => ?_)
      · have hq := Heap.get?_update_self (h := s.heap) (Obj.mapSeq fun xs => xs.push (.str (T (text.drop pos)) s.toks)) hm rfl
        simp only [Obj.mapSeq, strVals_push] at hq
        exact ⟨_, hq⟩
      · rw [show (ys ++ [text.drop pos]).flatten = ys.flatten ++ text.drop pos from by simp]
        exact hq _ _ (kp_upd k hp0 _ _)
    · rw [if_neg (by simpa using hlt)]
      have hdn : text.drop pos = [] := List.drop_eq_nil_of_le (by omega)
      refine tail_wp hL hl (by omega) (fun t' k' => ?_)
      have := hq { s with toks := k' } t' (k.tr (Kp.toks s k'))
      rwa [hdn, List.append_nil] at this
  | next pos a b r h hle hab hb C ih =>
    intro n must l ys s hL hl h1 h2 k hq
    refine codeAny_builtin rpl_entry ?_
    rw [Around.under_plainId rpl_quiet]
    unfold Builtin.«re.Pattern.sub.loop»
    refine wpAny_bind (wpAny_wholeTarget (hP.keeps k.get) ?_)
    rw [show reLiteralCannotBeTurned (.str (T repl) t1) = pure () from rfl]
    dsimp only [rawInt]
    rw [if_pos (by rfl)]
    refine wpAny_bind (wpAny_pure ?_)
    rw [if_neg (by simp)]
    obtain ⟨k', hk', res⟩ := hf pos must
    rw [h] at res
    refine wpAny_bind (wpAny_runToEnd (n := k') (by simp at hk'; omega) (by exact res) (fun m' hm' => ?_))
    dsimp only at hm'
    obtain ⟨m, rfl, hms, hmh⟩ := hm'
    dsimp only
    rw [hms, hmh]
    simp only [List.length_append] at h1 h2
    have hd : ((text.drop pos).take (a - pos)).length = a - pos := by rw [List.length_take, List.length_drop]; omega
    have fin : ∀ (l : List (Str × Tok)) (ys : List (List Nat)) (s : Shared) (r0 : List Nat), s.heap.PlainList p (strValues l).toArray → l.map (·.1) = ys.map T → Kp s0 s → l.length ≤ 8000000 - 2 * r.length - 1 →
        ys.flatten ++ repl ++ r = r0 → r0.length ≤ 4000000 → (∀ s' t', Kp s0 s' → R (.ok (.ret (.str (T r0) t'))) s') → 
        wpAny (model prog w) A.in1 (do
          let item ← (pure (.str (T repl) t1) : Sem Value)
          if (item != .none) = true then do
            updateSeq p (·.push item)
            again (.builtin "re.Pattern.sub.loop" ⟨[.ref pa, .str (T text) t2, .str (T repl) t1, rawInt 0, rawInt 0, rawInt (n + 1), rawInt b, rawInt b, .bool (b == a), .ref p, .bool false], []⟩)
          else again (.builtin "re.Pattern.sub.loop" ⟨[.ref pa, .str (T text) t2, .str (T repl) t1, rawInt 0, rawInt 0, rawInt (n + 1), rawInt b, rawInt b, .bool (b == a), .ref p, .bool false], []⟩)) (fun fin s' =>
      match fin with
      | Fin.done f => R (Except.ok f) s'
      | Fin.again c' => c'.quiet = true ∧ codeAny (model prog w) A c' R s')
          (fun e s' => R (Except.error e) s') s := by
      intro l ys s r0 hL hl k hll e he hq
      subst e
      refine wpAny_bind (wpAny_pure ?_)
      rw [if_pos (by rfl)]
      obtain ⟨m, hm⟩ := hL
      refine wpAny_bind (wpAny_updateSeq hm rfl ?_ (by simp [strValues, sizeLine_eq]; omega) (by simp [strValues, sizeLine_eq]; omega))
      refine wpAny_pure ⟨plainId_quiet rpl_quiet _, ih (n + 1) (b == a) (l ++ [(T repl, t1)]) (ys ++ [repl]) _ ?_ (by simp [hl]) ?_ ?_ (kp_upd k hp0 _ _) ?_⟩
      · have hq := Heap.get?_update_self (h := s.heap) (Obj.mapSeq fun xs => xs.push (.str (T repl) t1)) hm rfl
        simp only [Obj.mapSeq, strVals_push] at hq
        exact ⟨_, hq⟩
      · rw [List.flatten_append, List.length_append]; simp only [List.flatten_cons, List.flatten_nil, List.append_nil]; simp only [List.length_append] at he; omega
      · simp only [List.length_append, List.length_cons, List.length_nil]; omega
      · intro s' t' k'
        have := hq s' t' k'
        rwa [show (ys ++ [repl]).flatten ++ r = ys.flatten ++ repl ++ r from by simp]
    by_cases hlt : pos < a
    · rw [if_pos (by simpa using hlt)]
      rw [show reSlice text.toArray 0 (pos : Int).toNat a = mkStr (T ((text.drop pos).take (a - pos))) from by
        unfold reSlice; rw [if_pos (by rfl)]; simp [T, List.extract]]
      refine wpAny_bind (wpAny_mkStr ?_ (by rw [T_len, sizeLine_eq]; omega))
      obtain ⟨m0, hm⟩ := hL
      refine wpAny_bind (wpAny_updateSeq (s := { s with toks := s.toks + 1 }) hm rfl ?_ (by simp [strValues, sizeLine_eq]; omega) (by simp [strValues, sizeLine_eq]; omega))
      refine fin (l ++ [(T ((text.drop pos).take (a - pos)), s.toks)]) (ys ++ [(text.drop pos).take (a - pos)]) _ _ ?_ (by simp [hl]) (kp_upd k hp0 _ _) ?_ rfl ?_ ?_
      · have hq := Heap.get?_update_self (h := s.heap) (Obj.mapSeq fun xs => xs.push (.str (T ((text.drop pos).take (a - pos))) s.toks)) hm rfl
        simp only [Obj.mapSeq, strVals_push] at hq
        exact ⟨_, hq⟩
      · simp only [List.length_append, List.length_cons, List.length_nil]; omega
      · rw [List.flatten_append]; simp only [List.flatten_cons, List.flatten_nil, List.append_nil, List.length_append]; omega
      · intro s' t' k'
        have := hq s' t' k'
        rwa [show (ys ++ [(text.drop pos).take (a - pos)]).flatten ++ repl ++ r = ys.flatten ++ ((text.drop pos).take (a - pos) ++ repl ++ r) from by simp]
    · rw [if_neg (by simpa using hlt)]
      have hz : a - pos = 0 := by omega
      refine fin l ys s _ hL hl k (by omega) rfl ?_ ?_
      · simp only [List.length_append]; omega
      · intro s' t' k'
        have := hq s' t' k'
        rw [hz, List.take_zero, List.nil_append, ← List.append_assoc] at this
        exact this
end
end Mine
end

section
open PySem PySem.W PyProof.Rows SeqAt
set_option Elab.async false
set_option maxRecDepth 100000
set_option linter.unusedVariables false
namespace Mine
open PySem.Builtin PySem.Builtin.Re

theorem noCall_str {i : Str} {t : Tok} : specialOf (.str i t) "__call__" = pure none := by show typeLookup (.type "str") _ = _; rw [typeLookup_type, builtinLookup_eq_fast]; kernel_rfl
theorem sub_named (a b : Value) : reNamed "re.Pattern.sub" "sub" ["repl", "string", "count"] 2 [a, b] [] = pure [some a, some b, none] := by rfl

theorem sub_wp {prog : Program} {w : World} {A : Around} {E : Value → Shared → Prop} {s : Shared} {find : Nat → Option (Nat × Nat)} {text repl r : List Nat} {code : Array Nat} {pa : Addr} {t1 t2 : Tok} {Q : Value → Shared → Prop}
    (hP : PatAt s.heap pa code) (hf : ∀ s, Found code text.toArray s (find s)) (hr : 1 ≤ repl.length) (hb : repl.toArray.contains 92 = false) (hz : text.length ≤ 1000000) (hz' : r.length ≤ 1000000) (C : Cuts find text repl 0 r)
    (hq : ∀ s' t', Kp s s' → Q (.str (T r) t') s') : wpAny (model prog w) A (call (.builtin "re.Pattern.sub") [.ref pa, .str (T repl) t1, .str (T text) t2]) Q E s := by
  have hT : s.TypeIs (.ref pa) "re.Pattern" := by
    obtain ⟨o, vs, ca, oc, cv, n, h1, h2, h3, h4, h5, h6, h7, h8, h9⟩ := hP
    exact ⟨o, h1, h2⟩
  refine wpAny_call (codeAny_call_builtin rp_slot.plain rp_entry (rp_slot.check _ _ _ _ _ _ _ _ hT (rp_args _ _ _) ?_))
  unfold Builtin.«re.Pattern.sub» reSubstitute
  dsimp only
  rw [sub_named]
  refine wpAny_bind (wpAny_pure ?_)
  dsimp only
  refine wpAny_bind (wpAny_pure ?_)
  rw [noCall_str]
  refine wpAny_bind (wpAny_pure ?_)
  dsimp only [Option.isSome]
  rw [if_neg Bool.false_ne_true]
  rw [show asStr? (.str (T repl) t1) = pure (some (T repl)) from rfl]
  refine wpAny_bind (wpAny_pure ?_)
  dsimp only
  refine wpAny_bind (wpAny_pure ?_)
  rw [show (!(T repl).cps.contains 92) = true from by rw [hb]; rfl, if_neg Bool.false_ne_true, if_pos rfl]
  refine wpAny_bind (wpAny_pure ?_)
  dsimp only
  refine wpAny_bind (wpAny_holding (wpAny_wholeTarget hP ?_))
  rw [if_neg (by decide)]
  refine wpAny_bind (wpAny_newList (items := []) ?_)
  refine wpAny_pure ⟨plainId_quiet rpl_quiet _, ?_⟩
  exact loop_wp (s0 := s) hf hr (by omega) (get_none_size _) hP C 0 false [] [] _ ⟨0, Heap.get?_push_size _ rfl⟩ rfl (by simp; omega) (by simp; omega) (Kp.push s _ s.toks) (fun s' t' k => hq s' t' k)

section
variable {c : Cx}
theorem Ev.sub {pl : Sem Bool} {o : Expr} {apos pos : Pos} {args : List Expr} {pa : Addr} {find : Nat → Option (Nat × Nat)} {text repl r : List Nat} {code : Array Nat}
    (ho : Ev c o (.val (.ref pa))) (ha : EvL c args [S repl, S text]) (hP : PatAt c.h₀ pa code) (hd : ∃ o, c.h₀.get? pa = some o ∧ o.dict = none) (hf : ∀ s, Found code text.toArray s (find s)) (C : Cuts find text repl 0 r)
    (hr : 1 ≤ repl.length) (hb : repl.toArray.contains 92 = false) (hz : text.length ≤ 1000000) (hz' : r.length ≤ 1000000)
    (he : eval (.Call (.Attribute o "sub" apos) args [] pos) c.env = (do
      let ov ← eval o c.env
      standAt apos.atName
      let (f, first) ← holding [ov] (getMethod ov "sub" pl)
      callWith pos f first (backTo pos (starEach args c.env)) []) := by rfl) : Ev c (.Call (.Attribute o "sub" apos) args [] pos) (S r) := fun s ok E =>
  MethodCall_ (wpAny_mono (ho s ok E) (fun v s1 ⟨q, k⟩ => by
    cases q
    have hP1 : PatAt s1.heap pa code := by
      obtain ⟨o, vs, ca, oc, cv, n, h1, h2, h3, h4, h5, h6, h7, h8⟩ := hP
      exact ⟨o, vs, ca, oc, cv, n, (ok.keeps k).over _ _ h1, h2, h3, h4, h5, h6, (ok.keeps k).over _ _ h7, h8⟩
    have hT : s1.TypeIs (.ref pa) "re.Pattern" := by
      obtain ⟨o, vs, ca, oc, cv, n, h1, h2, h3, h4, h5, h6, h7, h8, h9⟩ := hP1
      exact ⟨o, h1, h2⟩
    refine getMethod_builtin hT rp_attrs rp_slot rp_type (fun a e => ?_) ?_
    · cases e
      obtain ⟨ob, h1, h2⟩ := hd
      exact ⟨ob, (ok.keeps k).over _ _ h1, h2⟩
    refine wpAny_mono (ha.callWith (d := S r) KeepOk.builtin (ok.keeps k) (fun s2 vs k2 o2 r2 E' => ?_) E) (fun v s3 ⟨r3, k3⟩ => ⟨r3, k.tr k3⟩) fun _ _ e => e
    cases r2 with
    | cons h1 hs =>
    cases hs with
    | cons h2 hs =>
    cases hs
    cases h1
    cases h2
    exact sub_wp (hP1.keeps k2.get) hf hr hb hz hz' C (fun s' t' k' => ⟨.str _ _, k'⟩)) fun _ _ e => e) he
end
end Mine
end

section
open PySem PySem.W PyProof.Rows SeqAt
set_option Elab.async false
set_option maxRecDepth 100000
set_option maxHeartbeats 1000000
set_option linter.unusedVariables false
namespace Mine

theorem pat1 {w : World} {h₀ : Heap} {mg mb : Str → Option Value} (B : Base w h₀ mg mb) : PatAt h₀ 92 code1 ∧ ∃ o, h₀.get? 92 = some o ∧ o.dict = none :=
  ⟨⟨_, _, 91, _, _, _, B.K 92 _ rfl, rfl, rfl, rfl, rfl, rfl, B.K 91 _ rfl, rfl, by kernel_rfl!⟩, _, B.K 92 _ rfl, rfl⟩
theorem pat2 {w : World} {h₀ : Heap} {mg mb : Str → Option Value} (B : Base w h₀ mg mb) : PatAt h₀ 97 code2 ∧ ∃ o, h₀.get? 97 = some o ∧ o.dict = none :=
  ⟨⟨_, _, 96, _, _, _, B.K 97 _ rfl, rfl, rfl, rfl, rfl, rfl, B.K 96 _ rfl, rfl, by kernel_rfl!⟩, _, B.K 97 _ rfl, rfl⟩

theorem q1_len : ∀ (b : Bool) (t : List Nat), (q1 b t).length ≤ 2 * t.length
  | _, [] => by simp [q1]
  | b, c :: t => by
    unfold q1
    split
    · have := q1_len false t; simp only [List.length_cons]; omega
    · have := q1_len (c == 10) t; simp only [List.length_cons]; omega
theorem q2_len : ∀ (b : Bool) (t : List Nat), (q2 b t).length ≤ 2 * t.length
  | _, [] => by simp [q2]
  | b, c :: t => by
    have h1 := q2_len false t
    have h2 := q2_len true t
    unfold q2
    split
    · split
      · simp only [List.length_cons]; omega
      · simp only [List.length_cons]; omega
    · split
      · simp only [List.length_cons]; omega
      · simp only [List.length_cons]; omega

theorem quote_fn {w : World} {h₀ : Heap} {mg mb : Str → Option Value} (B : Base w h₀ mg mb) (text : List Nat) (hz : text.length ≤ 100000) :
    Fn PR w h₀ 2 (.ref 104) [S text] (S (quoted text)) := by
  refine Fn.ofK B 104 1 ["data"] rfl rfl (by kernel_rfl!) rfl (fun vs h => ?_) rfl rfl rfl rfl (by kernel_rfl!) ?_
  · match vs, h with
    | [a], _ => kernel_rfl!
  intro A' X L s₁ F E'
  have l2 := q2_len false text
  have l1 := q1_len true (q2 false text)
  have c2 := cuts2 text _ 0 rfl (Nat.zero_le _)
  have c1 := cuts1 (q2 false text) _ 0 rfl (Nat.zero_le _)
  rw [List.drop_zero] at c2 c1
  rw [show ls (q2 false text).toArray 0 = true from rfl] at c1
  refine ex_ret F (Ev.sub (Ev.name rfl) (.cons (Ev.cstr [46, 46]) (.cons (Ev.sub (Ev.name rfl) (.cons (Ev.ofValStr (x := T [13, 10]) (Ev.name rfl)) (.cons (Ev.name rfl) .nil)) (pat2 B).1 (pat2 B).2 (fun s => by have := found2 (text := text.toArray) s; simpa [F2] using this) c2 (by decide) (by simp) (by omega) (by omega)) .nil))
    (pat1 B).1 (pat1 B).2 (fun s => by have := found1 (text := (q2 false text).toArray) s; simpa [F1] using this) c1 (by decide) (by simp) (by omega) (by omega)) fun v s' r k =>
    ⟨v, fo (callEnvC _ L 104), rfl, r.avoid fun b hb => .inl (List.mem_append_right _ hb), k.mv _, fun b hb => .inl hb⟩
end Mine
end

section
open PySem PySem.W PyProof.Rows SeqAt
set_option Elab.async false
set_option maxRecDepth 100000
set_option maxHeartbeats 1000000
set_option linter.unusedVariables false
namespace Mine
open Sem (wp)

/-- a name table with at most k names -/
def NsB (h : Heap) (a : Addr) (m : Str → Option Value) (k : Nat) : Prop :=
  ∃ o es ep, h.get? a = some o ∧ o.data = .dict es ep ∧ StrKeys es ∧ (∀ name, nsFind es name = m name) ∧ es.size ≤ k
theorem NsB.ns {h : Heap} {a : Addr} {m : Str → Option Value} {k : Nat} (x : NsB h a m k) : h.Ns a m := let ⟨o, es, ep, a, b, c, d, _⟩ := x; ⟨o, es, ep, a, b, c, d⟩
theorem NsB.at {h h' : Heap} {a : Addr} {m : Str → Option Value} {k : Nat} (x : NsB h a m k) (e : ∀ o, h.get? a = some o → h'.get? a = some o) : NsB h' a m k := let ⟨o, es, ep, q, r⟩ := x; ⟨o, es, ep, e _ q, r⟩

theorem wpAny_nsSetB {M : Model} {A : Around} {E : Value → Shared → Prop} {s : Shared} {a : Addr} {m : Str → Option Value} {k : Nat} {name : Str} {v : Value} {Q : Unit → Shared → Prop} (hn : NsB s.heap a m k)
    (hQ : ∀ h', NsB h' a (fun x => if x = name then some v else m x) (k + 1) → Heap.SameBut a s.heap h' → Q () { s with heap := h', toks := s.toks + 1 }) : wpAny M A (nsSet a name v) Q E s := fun Γ p _ => by
  obtain ⟨o, es, ep, ho, hd, hk, hm, hz⟩ := hn
  simp only [nsSet, strHash, Sem.wp_bind', Sem.wp_cmd_ask, Sem.wp_pure', Sem.wp_cmd_mkText]
  rw [Sem.wp_loadPart_of M Γ (fun e _ s' => E e s') p { s with toks := s.toks + 1 } (o := o) _ ho]
  have hany : es.any (·.refKey) = false := by
    rw [Array.any_eq_false']; intro e he; obtain ⟨n, t, h⟩ := hk e he; simp [DictEntry.refKey, h]
  simp only [hd, aRefKeyMayBeTheName_at, hany, Bool.and_false, Bool.false_eq_true, if_false, Sem.wp_cmd_updatePart]
  refine ⟨by rw [ho]; rfl, hQ _ ?_ (Heap.SameBut.update ..)⟩
  obtain ⟨c, d, dt, sl⟩ := o
  subst hd
  cases hi : es.findIdx? (·.key.isStr name) with
  | some i =>
    refine ⟨_, _, ep, Heap.get?_update_self _ ho (by simp only [Obj.putName_eq, Obj.putNameByArray, hi]; rfl), by simp only [Obj.putName_eq, Obj.putNameByArray, hi]; rfl, hk.modify _ _, fun x => ?_, by rw [Array.size_modify]; omega⟩
    show _ = if x = name then some v else m x
    rw [← hm]; exact findBy_modify (fun n v => v.isStr n) Value.isStr_inj es name x v i hi
  | none =>
    refine ⟨_, _, ep + 1, Heap.get?_update_self _ ho (by simp only [Obj.putName_eq, Obj.putNameByArray, hi]; rfl), by simp only [Obj.putName_eq, Obj.putNameByArray, hi]; rfl, hk.push _ _ _ _, fun x => ?_, by rw [Array.size_push]; omega⟩
    show _ = if x = name then some v else m x
    rw [← hm]
    exact findBy_push (fun n v => v.isStr n) es name x _ _ v (fun y => by
      show (name == y) = decide (y = name)
      by_cases h : y = name
      · subst h; simp
      · simp [h, Ne.symm h]) hi

section
variable {prog : Program} {w : World} {A : Around} {E : Value → Shared → Prop} {s : Shared} {K : Frag} {x C dx : Addr} {m : Str → Option Value} {name : Str} {v : Value} {k : Nat}

theorem setA {Q : Unit → Shared → Prop} (X : K.In s.heap) (hx : s.heap.get? x = some (instObj C dx)) (hd : NsB s.heap dx m k) (hk : k ≤ 1000)
    (hs : findIn K (.ref C) "__setattr__" = some (some (.builtin "object.__setattr__"))) (hp : plainOver K C = true) (ht : takerIn K C name = some none) (hh : (clsIn K C).any (·.hasDict) = true)
    (h : ∀ h' t', NsB h' dx (fun y => if y = name then some v else m y) (k + 1) → Heap.SameBut dx s.heap h' → Q () { s with heap := h', toks := t' }) : wpAny (model prog w) A (setAttr (.ref x) name v) Q E s := by
  obtain ⟨od, es, ep, hod, r⟩ := hd
  have I : InstAt s.heap x (instObj C dx) C (some od) := ⟨hx, rfl, rfl, hod⟩
  refine set_plain X I hs (osa_open (s := { s with toks := s.toks + 1 }) X I hp ht fun b => ?_)
  dsimp only
  obtain ⟨cd, hc, hd'⟩ := any_some hh
  refine wpAny_bind (wpAny_pure (wpAny_bind (wpAny_bind (wpAny_loadPart (s := { s with toks := s.toks + 1 }) hx (wpAny_bind (Looks.here (s := { s with toks := s.toks + 1 }) (looks_clsIn X hc) ?_))))))
  rw [hd']
  refine wpAny_pure (a := some dx) (wpAny_bind (wpAny_pure (wpAny_bind ?_)))
  refine wpAny_nsSetB (s := { s with toks := s.toks + 1 }) ⟨od, es, ep, hod, r⟩ (fun h' hn hsb => ?_)
  obtain ⟨o', es', ep', ho', hd2, hk2, hm2, hz2⟩ := hn
  refine wpAny_bind (wpAny_lookBehind ho' (by rw [hd2]; exact pastItsLine_dict (by rw [sizeLine_eq]; omega)) ?_)
  exact wpAny_pure (h _ _ ⟨o', es', ep', ho', hd2, hk2, hm2, hz2⟩ hsb)

theorem lookIn_ns {od : Obj} {es : Array DictEntry} {ep : Nat} (hd : od.data = .dict es ep) (hk : StrKeys es) : lookIn name od = some (nsFind es name) := by
  have hany : es.toList.any (·.refKey) = false := by
    rw [List.any_eq_false]; intro e he; obtain ⟨n, t, h⟩ := hk e (by simpa using he); simp [DictEntry.refKey, h]
  unfold lookIn nsFind findBy
  rw [hd]
  dsimp only
  rw [hany, ← Array.find?_toList]
  cases es.toList.find? (·.key.isStr name) <;> rfl

theorem getA {expr : Bool} {Q : Value → Shared → Prop} (X : K.In s.heap) (hx : s.heap.get? x = some (instObj C dx)) (hd : s.heap.Ns dx m) (hv : m name = some v)
    (hga : findIn K (.ref C) "__getattribute__" = some (some (.builtin "object.__getattribute__"))) (hh : (clsIn K C).any (·.hasDict) = true) (hf : findIn K (.ref C) name = some none) (hi : handedIn v = true)
    (h : Q v { s with toks := s.toks + 1 }) : wpAny (model prog w) A (getAttr (.ref x) name expr) Q E s := by
  obtain ⟨od, es, ep, hod, hdd, hks, hms⟩ := hd
  have I : InstAt s.heap x (instObj C dx) C (some od) := ⟨hx, rfl, rfl, hod⟩
  obtain ⟨cd, hc, hd'⟩ := any_some hh
  refine get_value X I hga ?_ hi h
  unfold findObj
  rw [hc, Option.bind_some, hf, Option.bind_some]
  have ho : W.ownOf cd (some od) name = some (some v) := by unfold W.ownOf; rw [if_pos hd']; dsimp only; rw [lookIn_ns hdd hks, hms, hv]
  simp [ho]
end
end Mine
end

section
open PySem PySem.W PyProof.Rows SeqAt
set_option Elab.async false
set_option maxRecDepth 100000
set_option maxHeartbeats 1000000
set_option linter.unusedVariables false
namespace Mine

/-- a call of a def, with what it leaves -/
theorem call_body {prog : Program} {w : World} {h₀ : Heap} {n : Nat} {a : Addr} {o : Obj} {fd : FuncData} {body : List Stmt} {ps : List Str} {ds : List D} {gl : List (Str × Value)}
    (ho : h₀.get? a = some o) (hdata : o.data = .func fd) (hlim : h₀.NoLimit) (hcd : h₀.CodeRec fd.code fd.qualname) (hbody : fd.body = .stmts body)
    (hbind : ∀ vs, vs.length = ds.length → bindArgs fd ⟨vs, []⟩ = pure (ps.zip vs)) (hlen : ps.length = ds.length) (hclo : fd.closure = []) (hglob : fd.globals = mainGlobals) (hblt : fd.builtins = builtinsNs)
    (hok : startOkB fd.scope ps = true) (hgl : ∀ y v, gl.lookup y = some v → GlobalIs prog w h₀ y v)
    {A : Around} {X : List Addr} {s : Shared} {vs : List Value} {R : Result → Shared → Prop} (hR : Room A (n + 1)) (hO : Over h₀ s) (hX : ∀ x ∈ X, (s.heap.get? x).isSome = true) (hr : Reps X s.heap vs ds)
    (hrun : ∀ (A' : Around) (L : Addr) (s₁ : Shared), Frm ⟨prog, w, A', n, h₀, fo (callEnvC fd L a) ++ X, callEnvC fd L a, startRho fd.scope ps ds gl⟩ s₁ → Kp s s₁ → (∀ b ∈ fo (callEnvC fd L a), s.heap.get? b = none) → ∀ E',
      wpAny (model prog w) A' (execs body (callEnvC fd L a)) (fun f s' => R (.ok (.ret (match f with | .ret v => v | _ => .none))) s') E' s₁)
    (hco : fd.scope.isCoroutine = false := by rfl) (hgen : fd.scope.isGenerator = false := by rfl) (hk : fd.scope.kind = .function := by rfl) : codeAny (model prog w) A (.call (.ref a) ⟨vs, []⟩) R s := by
  unfold startOkB at hok
  simp only [Bool.and_eq_true, List.all_eq_true, decide_eq_true_eq] at hok
  obtain ⟨⟨hps, hnd⟩, hnn⟩ := hok
  have hlv : vs.length = ds.length := hr.length
  have hmap : (ps.zip vs).map (·.1) = ps := by rw [List.map_fst_zip]; omega
  have hkind : ∀ x ∈ ps.zip vs, fd.scope.names.lookup x.1 = some .local ∨ (fd.scope.names.lookup x.1 = some .cell ∧ ((cellsFrom (s.heap.objs.size + 1) fd.scope.names []).lookup x.1).isSome = true) := by
    rintro ⟨p, v⟩ hx
    have := hps p (List.of_mem_zip hx).1
    split at this
    · rename_i e; exact .inl e
    · rename_i e; exact .inr ⟨e, cellsFrom_some (.inr (mem_of_lookup e))⟩
    · cases this
  refine codeAny_call_cells (by have := hR.depth; unfold recursionLimit; omega) (hO a o ho) hdata (hlim.keeps hO) (hcd.keeps hO) hbody (hbind vs hlv) hclo hkind (fun s₁ x => ?_) hco hgen hk
  generalize hL : s.heap.objs.size = L at x ⊢
  have hcs : (callEnvC fd L a).cells = cellsFrom (L + 1) fd.scope.names [] := rfl
  have hfoDead : ∀ b ∈ fo (callEnvC fd L a), s.heap.get? b = none := fun b hb => by
    have hge : L ≤ b := by
      rcases List.mem_cons.mp hb with rfl | hb
      · exact Nat.le_refl _
      · obtain ⟨⟨y, b'⟩, hm, rfl⟩ := List.mem_map.mp hb
        exact Nat.le_of_lt (x.above y b' hm)
    cases e : s.heap.get? b with
    | none => rfl
    | some ob => exact absurd (Nat.lt_of_lt_of_le (Heap.lt_size e) (hL ▸ hge)) (Nat.lt_irrefl _)
  have keep := x.toInCall.keep
  have hkn : ((callEnvC fd L a).cells.map (·.1)).Nodup := by rw [hcs]; exact cellsFrom_nodup hnn List.nodup_nil (by simp)
  have hcell : ∀ y b, (y, b) ∈ (callEnvC fd L a).cells → ∃ v, s₁.heap.IsCell b v := fun y b hm => ⟨_, x.cell y b (lookup_of_mem hkn hm)⟩
  have F : Frm ⟨prog, w, A.deeper (callEnvC fd L a), n, h₀, fo (callEnvC fd L a) ++ X, callEnvC fd L a, startRho fd.scope ps ds gl⟩ s₁ := by
    refine ⟨⟨fun b ob e => keep b ob (hO b ob e), ?_, hk, hglob, hblt, ⟨hR.handled, ?_, ?_⟩, ?_⟩, ⟨_, x.toInCall.ns⟩, hcell, fun b hb => List.mem_append_left _ hb, ?_, ?_, ?_⟩
    · intro b hb
      rcases List.mem_append.mp hb with hb | hb
      · rcases List.mem_cons.mp hb with rfl | hb
        · obtain ⟨ob, _, _, e, _⟩ := x.toInCall.ns; show (s₁.heap.get? (callEnvC fd _ a).locals).isSome = true; rw [e]; rfl
        · obtain ⟨⟨y, b'⟩, hm, rfl⟩ := List.mem_map.mp hb
          obtain ⟨v, ob, e, _⟩ := hcell y b' hm
          show (s₁.heap.get? b').isSome = true
          rw [e]; rfl
      · obtain ⟨ob, e⟩ := Option.isSome_iff_exists.mp (hX b hb); rw [keep b ob e]; rfl
    · have := hR.depth; show A.depth + 1 + n ≤ 900; omega
    · have := hR.units; show A.units + 3 + 10 * n ≤ 9000; omega
    · intro y k d' hy
      have upR : ∀ {v d}, Rep X s.heap v d → Rep (fo (callEnvC fd L a) ++ X) s₁.heap v d := fun {v d} r => (r.avoid fun b hb => by
        rcases List.mem_append.mp hb with h | h
        · exact .inr (hfoDead b h)
        · exact .inl h).up fun b ob _ e => keep b ob e
      simp only [startRho] at hy
      split at hy
      · rename_i d1 hd1
        obtain ⟨k1, hk1, e⟩ := Option.map_eq_some_iff.mp hy
        cases e
        obtain ⟨v, hv, rv⟩ := zip_lookup hr hd1
        refine ⟨v, upR rv, hk1, ?_⟩
        have hp := hps y (List.of_mem_zip (mem_of_lookup hd1)).1
        rw [hk1] at hp
        cases k with
        | «local» => exact .inl ⟨rfl, _, x.toInCall.ns, bindL_at (by rw [hmap]; exact hnd) hv hk1⟩
        | cell =>
          obtain ⟨b, hb⟩ := Option.isSome_iff_exists.mp (cellsFrom_some (k := L + 1) (acc := []) (.inr (mem_of_lookup hk1)))
          have hc := x.cell y b hb
          rw [bindC_at (by rw [hmap]; exact hnd) hv (by show fd.scope.names.lookup y ≠ _; rw [hk1]; decide)] at hc
          exact .inr (.inl ⟨rfl, b, hb, hc⟩)
        | free => cases hp
        | globalExplicit => cases hp
        | globalImplicit => cases hp
      · split at hy
        · rename_i hkg
          obtain ⟨v, hv, e⟩ := Option.map_eq_some_iff.mp hy
          cases e
          exact ⟨v, .val v, hkg, .inr (.inr ⟨rfl, rfl, hgl y v hv⟩)⟩
        · cases hy
    · intro b hb
      cases e : h₀.get? b with
      | none => rfl
      | some ob => have := hO b ob e; rw [hfoDead b hb] at this; cases this
    · intro y y' b h1 h2; exact name_of_addr x.apart h1 h2
    · intro y b hm; exact Ne.symm (Nat.ne_of_lt (x.above y b hm))
  obtain ⟨h1, t1, e1⟩ := x.toInCall.same
  refine hrun (A.deeper (callEnvC fd L a)) L s₁ F (by rw [e1]; exact Kp.mk' (s := s) fun b ob e => by have := keep b ob e; rw [e1] at this; exact this) hfoDead _
end Mine
end

section
open PySem PySem.W PyProof.Rows SeqAt
set_option Elab.async false
set_option maxRecDepth 100000
set_option maxHeartbeats 1000000
set_option linter.unusedVariables false
namespace Mine

section
variable {c : Cx} {s : Shared}
def EvP (c : Cx) (e : Expr) (P : Value → Shared → Prop) (s : Shared) : Prop := ∀ E, wpAny c.M c.A (eval e c.env) (fun v s' => P v s' ∧ Kp s s') E s

theorem ex_attr (F : Frm c s) {E : Value → Shared → Prop} {Q : Flow → Shared → Prop} {rest : List Stmt} {K : Frag} {x C dx : Addr} {m : Str → Option Value} {k : Nat} {o e : Expr} {name : Str} {apos pos : Pos} {P : Value → Shared → Prop}
    (X : K.In c.h₀) (hx : s.heap.get? x = some (instObj C dx)) (hd : NsB s.heap dx m k) (hk : k ≤ 1000)
    (hs : findIn K (.ref C) "__setattr__" = some (some (.builtin "object.__setattr__"))) (hp : plainOver K C = true) (ht : takerIn K C name = some none) (hh : (clsIn K C).any (·.hasDict) = true)
    (hdX : dx ∈ c.X) (hdf : dx ∉ fo c.env) (hd0 : c.h₀.get? dx = none) (he : EvP c e P s) (ho : Ev c o (.val (.ref x)))
    (h : ∀ v s1 s', P v s1 → Kp s s1 → Frm c s' → NsB s'.heap dx (fun y => if y = name then some v else m y) (k + 1) → Mv [dx] s1 s' → wpAny c.M c.A (execs rest c.env) Q E s')
    (hsw : swapsWith e (some (.Attribute o name apos)) pos.line c.env = pure false := by first | kernel_rfl! | rfl) :
    wpAny c.M c.A (execs (.Assign [.Attribute o name apos] e pos :: rest) c.env) Q E s := by
  refine wpAny_execs_cons (plainObj_wpAny_Assign_Attribute ?_ hsw)
  refine wpAny_mono (he E) (fun v s1 ⟨p, k1⟩ => ?_) fun _ _ e => e
  have F1 := F.kp k1
  refine wpAny_mono (ho s1 F1.ok E) (fun ov s2 ⟨r, k2⟩ => ?_) fun _ _ e => e
  cases r
  have F2 := F1.kp k2
  refine setA (fun a o e => F2.ok.over _ _ (X a o e)) ((k1.tr k2).get _ _ hx) (hd.at fun o e => (k1.tr k2).get _ _ e) hk hs hp ht hh (fun h' t' hn hsb => ?_)
  refine h v s1 _ p k1 (F2.touch (Y := [dx]) (by simpa using hdX) (by simpa using hdf) (by simpa using hd0) ?_ (fun b o hb e => hsb.extBut b o (by simpa using hb) e)) hn ?_
  · intro b hb; rw [List.mem_singleton.mp hb]; obtain ⟨o, es, ep, e, _⟩ := hn; show (h'.get? dx).isSome = true; rw [e]; rfl
  · exact (k2.mv _).tr ⟨h', t', rfl, fun b o hb e => hsb.extBut b o (by simpa using hb) e⟩

theorem EvP.newList (s : Shared) {pos : Pos} : EvP c (.List [] pos) (fun v s' => ∃ R, v = .ref R ∧ s.heap.get? R = none ∧ s'.heap.PlainList R #[]) s := fun E => by
  rw [arm_eval_List]
  refine wpAny_bind (wpAny_standAt (wpAny_bind (Calls.spliced_nil (wpAny_newList ?_ (Nat.zero_le _)))))
  exact ⟨⟨_, rfl, get_none_size _, 0, Heap.get?_push_size _ rfl⟩, Kp.push s _ s.toks⟩
theorem EvP.none (s : Shared) {k : Nat} {pos : Pos} : EvP c (.Constant .none k pos) (fun v _ => v = .none) s := fun E => fun _ _ _ => ⟨rfl, .refl s⟩
end

/-- an object of class Entry -/
structure EntryAt (h : Heap) (x dx u r : Addr) (m : Str → Option Value) (k : Nat) : Prop where
  obj : h.get? x = some (instObj 76 dx)
  dict : NsB h dx m k
  l1 : m "useragents" = some (.ref u)
  l2 : m "rulelines" = some (.ref r)
  l3 : m "delay" = some .none
  l4 : m "req_rate" = some .none
  l5 : m "applies_to" = none

section
variable {w : World} {h₀ : Heap} {mg mb : Str → Option Value}
theorem inst_new {h : Heap} {X : List Addr} (hX : ∀ x ∈ X, (h.get? x).isSome = true) {a : Addr} (e : h.get? a = none) : a ∉ X := fun q => by have := hX a q; rw [e] at this; cases this

theorem init_code (B : Base w h₀ mg mb) {A : Around} {s : Shared} {x dx : Addr} {R : Result → Shared → Prop} (hR : Room A 2) (hO : Over h₀ s) (hx : s.heap.get? x = some (instObj 76 dx)) (hd : NsB s.heap dx (fun _ => none) 0) (hd0 : h₀.get? dx = none)
    (h : ∀ u r m s', s.heap.get? u = none → s.heap.get? r = none → u ≠ r → EntryAt s'.heap x dx u r m 4 → s'.heap.PlainList u #[] → s'.heap.PlainList r #[] → Mv [dx] s s' → R (.ok (.ret .none)) s') :
    codeAny (model PR w) A (.call (.ref 52) ⟨[.ref x], []⟩) R s := by
  have hdl : (s.heap.get? dx).isSome = true := by obtain ⟨o, es, ep, e, _⟩ := hd; rw [e]; rfl
  refine call_body (n := 1) (a := 52) (ps := ["self"]) (ds := [.val (.ref x)]) (X := [dx]) (gl := GL) (B.K 52 _ rfl) (fd := fdAt w.params 52) rfl B.lim (codeRec_of B.K (by kernel_rfl!)) rfl (fun vs h => ?_) rfl rfl rfl rfl (by kernel_rfl!) (glob B) hR hO (by intro b hb; rw [List.mem_singleton.mp hb]; exact hdl) (.cons (.val _) .nil) ?_ (by kernel_rfl!) (by kernel_rfl!) (by kernel_rfl!)
  · match vs, h with
    | [a], _ => kernel_rfl!
  intro A' L s₁ F k0 hfo E'
  have hdf : dx ∉ fo (callEnvC (fdAt w.params 52) L 52) := fun q => by rw [hfo dx q] at hdl; cases hdl
  have hdX : dx ∈ fo (callEnvC (fdAt w.params 52) L 52) ++ [dx] := List.mem_append_right _ List.mem_cons_self
  have hxd : x ≠ dx := fun q => by
    obtain ⟨o, es, ep, e, e2, _⟩ := hd
    rw [← q, hx] at e; cases e; cases e2
  have ne1 : ∀ {a : Addr} {s1 : Shared}, Kp s s1 → s1.heap.get? a = none → a ≠ dx := fun k e q => by
    obtain ⟨o, ho⟩ := Option.isSome_iff_exists.mp hdl
    rw [q, k.get _ _ ho] at e; cases e
  refine ex_attr F B.K (k0.get _ _ hx) (hd.at fun o e => k0.get _ _ e) (by decide) (by rfl) (by rfl) (by rfl) (by rfl) hdX hdf hd0 (EvP.newList _) (Ev.name rfl) ?_
  rintro _ s1 s2 ⟨u, rfl, hu0, hu⟩ k1 F2 hd2 m2
  have V2 : Mv [dx] s s2 := ((k0.tr k1).mv _).tr m2
  have hud : u ≠ dx := ne1 k0 hu0
  have hu2 : s2.heap.PlainList u #[] := hu.at fun o e => m2.get _ _ (by simpa using hud) e
  have hx2 : s2.heap.get? x = some (instObj 76 dx) := V2.get _ _ (by simpa using hxd) hx
  refine ex_attr F2 B.K hx2 hd2 (by decide) (by rfl) (by rfl) (by rfl) (by rfl) hdX hdf hd0 (EvP.newList _) (Ev.name rfl) ?_
  rintro _ s3 s4 ⟨r, rfl, hr0, hr⟩ k3 F4 hd4 m4
  have V4 : Mv [dx] s s4 := (V2.tr (k3.mv _)).tr m4
  have hur : u ≠ r := fun q => by obtain ⟨n, e⟩ := hu2; rw [q, hr0] at e; cases e
  have hrs : s.heap.get? r = none := by
    cases e : s.heap.get? r with
    | none => rfl
    | some o =>
      by_cases q : r = dx
      · obtain ⟨o, es, ep, e2, _⟩ := hd2; rw [← q, hr0] at e2; cases e2
      · have := V2.get r o (by simpa using q) e; rw [hr0] at this; cases this
  have hrd : r ≠ dx := fun q => by rw [q] at hrs; rw [hrs] at hdl; cases hdl
  have hus : s.heap.get? u = none := by
    cases e : s.heap.get? u with
    | none => rfl
    | some o => have := k0.get u o e; rw [hu0] at this; cases this
  have hx4 : s4.heap.get? x = some (instObj 76 dx) := V4.get _ _ (by simpa using hxd) hx
  have hu4 : s4.heap.PlainList u #[] := hu2.at fun o e => m4.get _ _ (by simpa using hud) (k3.get _ _ e)
  have hr4 : s4.heap.PlainList r #[] := hr.at fun o e => m4.get _ _ (by simpa using hrd) e
  refine ex_attr F4 B.K hx4 hd4 (by decide) (by rfl) (by rfl) (by rfl) (by rfl) hdX hdf hd0 (EvP.none _) (Ev.name rfl) ?_
  rintro _ s5 s6 rfl k5 F6 hd6 m6
  have V6 : Mv [dx] s s6 := (V4.tr (k5.mv _)).tr m6
  have hx6 : s6.heap.get? x = some (instObj 76 dx) := V6.get _ _ (by simpa using hxd) hx
  refine ex_attr F6 B.K hx6 hd6 (by decide) (by rfl) (by rfl) (by rfl) (by rfl) hdX hdf hd0 (EvP.none _) (Ev.name rfl) ?_
  rintro _ s7 s8 rfl k7 F8 hd8 m8
  have V8 : Mv [dx] s s8 := (V6.tr (k7.mv _)).tr m8
  have M48 : Mv [dx] s4 s8 := ((k5.mv _).tr m6).tr ((k7.mv _).tr m8)
  refine wpAny_execs_nil (h u r _ s8 hus hrs hur ⟨V8.get _ _ (by simpa using hxd) hx, hd8, ?_, ?_, ?_, ?_, ?_⟩ (hu4.at fun o e => M48.get _ _ (by simpa using hud) e) (hr4.at fun o e => M48.get _ _ (by simpa using hrd) e) V8)
  · rw [if_neg (by decide), if_neg (by decide), if_neg (by decide), if_pos rfl]
  · rw [if_neg (by decide), if_neg (by decide), if_pos rfl]
  · rw [if_neg (by decide), if_pos rfl]
  · rw [if_pos rfl]
  · rw [if_neg (by decide), if_neg (by decide), if_neg (by decide), if_neg (by decide)]

theorem Room.under {A : Around} {n : Nat} {c : Code} (r : Room A (n + 1)) (h1 : c.weight ≤ 1) (h2 : c.cUnits ≤ 10) : Room (A.under c) n :=
  ⟨r.handled, by have := r.depth; show A.depth + c.weight + n ≤ 900; omega, by have := r.units; show A.units + c.cUnits + 10 * n ≤ 9000; omega⟩
theorem Room.in1 {A : Around} {n : Nat} (r : Room A (n + 1)) : Room A.in1 n := ⟨r.handled, by have := r.depth; show A.depth + n ≤ 900; omega, by have := r.units; show A.units + 1 + 10 * n ≤ 9000; omega⟩

/-- Entry() -/
theorem entry_call (B : Base w h₀ mg mb) {A : Around} {s : Shared} {Q : Value → Shared → Prop} {E : Value → Shared → Prop} (hR : Room A 3) (hO : Over h₀ s)
    (h : ∀ x dx u r m s', s.heap.get? x = none → s.heap.get? dx = none → s.heap.get? u = none → s.heap.get? r = none → u ≠ r → EntryAt s'.heap x dx u r m 4 → s'.heap.PlainList u #[] → s'.heap.PlainList r #[] → Kp s s' → Q (.ref x) s') :
    wpAny (model PR w) A (call (.ref 76) []) Q E s := by
  obtain ⟨hh, g, d, t, os⟩ := s
  have X : (KK w.params).In hh := fun a o e => hO _ _ (B.K a o e)
  refine wpAny_call (make_core (makes_of X (by rfl)) (looks_findIn X (name := "__init__") (r := some (.ref 52)) (by rfl)) (fun self => bind_fn X self (by rfl)) (.inl rfl) ?_)
  have hx : ((hh.push emptyDict).push (instObj 76 hh.objs.size)).get? (hh.objs.size + 1) = some (instObj 76 hh.objs.size) := by heap_get
  have hdx : ((hh.push emptyDict).push (instObj 76 hh.objs.size)).get? hh.objs.size = some emptyDict := by heap_get
  have hn0 : hh.get? hh.objs.size = none := get_none_size _
  have hn1 : hh.get? (hh.objs.size + 1) = none := by
    cases e : hh.get? (hh.objs.size + 1) with
    | none => rfl
    | some o => exact absurd (Heap.lt_size e) (Nat.not_lt.mpr (Nat.le_succ _))
  have up : ∀ b o, hh.get? b = some o → ((hh.push emptyDict).push (instObj 76 hh.objs.size)).get? b = some o := fun b o e => Heap.get?_push_of_some _ (Heap.get?_push_of_some _ e)
  have dead : ∀ {b}, ((hh.push emptyDict).push (instObj 76 hh.objs.size)).get? b = none → hh.get? b = none := fun {b} e => by
    cases q : hh.get? b with
    | none => rfl
    | some o => rw [up b o q] at e; cases e
  refine init_code B (x := hh.objs.size + 1) (dx := hh.objs.size) (hR.under (by decide +kernel) (by decide +kernel)) (fun b o e => up b o (hO b o e)) hx ⟨_, #[], 0, hdx, rfl, fun e he => by simp at he, fun name => rfl, Nat.le_refl _⟩ ?_ (fun u r m s' hu hr hur he pu pr V => ?_)
  · cases e : h₀.get? hh.objs.size with
    | none => rfl
    | some o => have := hO _ _ e; rw [hn0] at this; cases this
  · refine ⟨rfl, h _ _ u r m s' hn1 hn0 (dead hu) (dead hr) hur he pu pr ?_⟩
    obtain ⟨h', t', rfl, k⟩ := V
    exact Kp.mk' (s := ⟨hh, g, d, t, os⟩) fun b o e => k b o (fun q => by rw [List.mem_singleton.mp q, hn0] at e; cases e) (up b o e)
end
end Mine
end

section
open PySem PySem.W PyProof.Rows SeqAt
set_option Elab.async false
set_option maxRecDepth 100000
set_option maxHeartbeats 1000000
set_option linter.unusedVariables false
namespace Mine

section
variable {w : World} {h₀ : Heap} {mg mb : Str → Option Value}

theorem keepEntry (B : Base w h₀ mg mb) {A : Around} {n : Nat} {X : List Addr} {env : Env} {ρ : Rho} : KeepOk ⟨PR, w, A, n, h₀, X, env, ρ⟩ (.ref 76) := fun h k => by
  have K : (KK w.params).In h := fun a o e => k _ _ (B.K a o e)
  refine ⟨.machine, .inr (.inl rfl), (Looks.ld (part := none) (K 76 _ rfl)).andThen ?_⟩
  exact (makes_of K (C := 76) (by rfl)).call.andThen (Looks.of_pure (by rfl))

theorem getE {prog : Program} {A : Around} {E : Value → Shared → Prop} {s : Shared} {x dx : Addr} {m : Str → Option Value} {name : Str} {v : Value} {expr : Bool} {Q : Value → Shared → Prop} (K : (KK w.params).In s.heap) (hx : s.heap.get? x = some (instObj 76 dx)) (hd : s.heap.Ns dx m) (hv : m name = some v)
    (hn : name = "useragents" ∨ name = "rulelines" ∨ name = "delay" ∨ name = "req_rate") (hi : handedIn v = true) (h : Q v { s with toks := s.toks + 1 }) : wpAny (model prog w) A (getAttr (.ref x) name expr) Q E s := by
  refine getA K hx hd hv (by rfl) (by rfl) ?_ hi h
  rcases hn with rfl | rfl | rfl | rfl <;> rfl

theorem Ev.attr {c : Cx} (hprog : c.prog = PR) (B : Base c.w c.h₀ mg mb) {o : Str} {np pos : Pos} {ua rl : List D} {name : Str} {d : D} (ho : Ev c (.Name o np) (.entry ua rl))
    (hn : (name = "useragents" ∧ d = .list ua) ∨ (name = "rulelines" ∧ d = .list rl) ∨ ((name = "delay" ∨ name = "req_rate") ∧ d = .none)) : Ev c (.Attribute (.Name o np) name pos) d := fun s ok E => by
  refine Attribute_name (wpAny_mono (ho s ok E) (fun v s1 ⟨r, k⟩ => ?_) fun _ _ e => e)
  have K : (KK c.w.params).In s1.heap := fun a o e => (ok.keeps k).over _ _ (B.K a o e)
  cases r with
  | entry hx hdx hux hrx hob hd l1 l2 l3 l4 l5 hu hr ru rr =>
  rcases hn with ⟨rfl, rfl⟩ | ⟨rfl, rfl⟩ | ⟨hn, rfl⟩
  · exact getE K hob hd l1 (.inl rfl) rfl ⟨.list hux hu.isList ru hu, k.tr (Kp.toks s1 _)⟩
  · exact getE K hob hd l2 (.inr (.inl rfl)) rfl ⟨.list hrx hr.isList rr hr, k.tr (Kp.toks s1 _)⟩
  · rcases hn with rfl | rfl
    · exact getE K hob hd l3 (.inr (.inr (.inl rfl))) rfl ⟨.none, k.tr (Kp.toks s1 _)⟩
    · exact getE K hob hd l4 (.inr (.inr (.inr rfl))) rfl ⟨.none, k.tr (Kp.toks s1 _)⟩

/-- the same of an object that the frame turns -/
theorem evM_attr {c : Cx} (hprog : c.prog = PR) (B : Base c.w c.h₀ mg mb) {s : Shared} (ok : c.ok s) {o : Str} {np pos : Pos} {x dx u r : Addr} {m : Str → Option Value} {k : Nat} (I : EntryAt s.heap x dx u r m k) {name : Str} {a : Addr} (ho : Ev c (.Name o np) (.val (.ref x)))
    (hn : (name = "useragents" ∧ a = u) ∨ (name = "rulelines" ∧ a = r)) : ∀ E, wpAny c.M c.A (eval (.Attribute (.Name o np) name pos) c.env) (fun v s' => v = .ref a ∧ Kp s s') E s := fun E => by
  refine Attribute_name (wpAny_mono (ho s ok E) (fun v s1 ⟨q, k⟩ => ?_) fun _ _ e => e)
  cases q
  have K : (KK c.w.params).In s1.heap := fun a o e => (ok.keeps k).over _ _ (B.K a o e)
  rcases hn with ⟨rfl, rfl⟩ | ⟨rfl, rfl⟩
  · exact getE K (k.get _ _ I.obj) (I.dict.ns.keeps k.get) I.l1 (.inl rfl) rfl ⟨rfl, k.tr (Kp.toks s1 _)⟩
  · exact getE K (k.get _ _ I.obj) (I.dict.ns.keeps k.get) I.l2 (.inr (.inl rfl)) rfl ⟨rfl, k.tr (Kp.toks s1 _)⟩

theorem EntryAt.at {h h' : Heap} {x dx u r : Addr} {m : Str → Option Value} {k : Nat} (I : EntryAt h x dx u r m k) (h1 : ∀ o, h.get? x = some o → h'.get? x = some o) (h2 : ∀ o, h.get? dx = some o → h'.get? dx = some o) : EntryAt h' x dx u r m k :=
  ⟨h1 _ I.obj, I.dict.at h2, I.l1, I.l2, I.l3, I.l4, I.l5⟩

/-- name = Entry() -/
theorem ex_newEntry {A : Around} {n : Nat} {X : List Addr} {env : Env} {ρ : Rho} (B : Base w h₀ mg mb) {s : Shared} (F : Frm ⟨PR, w, A, n, h₀, X, env, ρ⟩ s) (hn : 3 ≤ n) {E : Value → Shared → Prop} {Q : Flow → Shared → Prop} {rest : List Stmt} {y : Str} {px fp pos cpos : Pos} (kd : NameKind)
    (hf : ρ "Entry" = some (.globalImplicit, .val (.ref 76)))
    (h : ∀ x dx u r m s', s.heap.get? x = none → s.heap.get? dx = none → s.heap.get? u = none → s.heap.get? r = none → u ≠ r → Frm (Cx.set (Cx.more ⟨PR, w, A, n, h₀, X, env, ρ⟩ [x, dx, u, r]) y kd (.val (.ref x))) s' → EntryAt s'.heap x dx u r m 4 →
      s'.heap.PlainList u #[] → s'.heap.PlainList r #[] → Mv (fo env) s s' → wpAny (model PR w) A (execs rest env) Q E s')
    (hx : env.kindOf y = some kd := by first | kernel_rfl! | rfl) (hk : kd = .local ∨ (kd = .cell ∧ (env.cells.lookup y).isSome = true) := by first | exact .inl rfl | exact .inr ⟨rfl, by first | kernel_rfl! | rfl⟩)
    (hs : swapsWith (.Call (.Name "Entry" fp) [] [] cpos) (some (.Name y px)) pos.line env = pure false := by first | kernel_rfl! | rfl)
    (he : eval (.Call (.Name "Entry" fp) [] [] cpos) env = (do callWith cpos (← eval (.Name "Entry" fp) env) [] (backTo cpos (starEach [] env)) (backToKw cpos (keywordEach [] env))) := by rfl) :
    wpAny (model PR w) A (execs (.Assign [.Name y px] (.Call (.Name "Entry" fp) [] [] cpos) pos :: rest) env) Q E s := by
  refine wpAny_execs_cons (wpAny_Assign_Name ?_ hs)
  have hN : Ev ⟨PR, w, A, n, h₀, X, env, ρ⟩ (.Name "Entry" fp) (.val (.ref 76)) := Ev.name hf
  refine Call_ (wpAny_mono (hN s F.ok E) (fun v s1 ⟨q, k1⟩ => ?_) fun _ _ e => e) he
  cases q
  refine EvL.callWithQ (first := []) (c := ⟨PR, w, A, n, h₀, X, env, ρ⟩) (.nil) (keepEntry B) (F.kp k1).ok (fun s2 vs k2 o2 r2 => ?_)
  cases r2
  refine entry_call B (o2.room.mono hn) o2.over (fun x dx u r m s3 gx gd gu gr hur I pu pr k3 => ?_)
  have kk : Kp s s3 := (k1.tr k2).tr k3
  have dead : ∀ {b}, s2.heap.get? b = none → s.heap.get? b = none := fun {b} e => by
    cases q : s.heap.get? b with
    | none => rfl
    | some o => rw [(k1.tr k2).get b o q] at e; cases e
  have F3 : Frm (Cx.more ⟨PR, w, A, n, h₀, X, env, ρ⟩ [x, dx, u, r]) s3 := F.grow (Y := [x, dx, u, r]) (by
      intro b hb
      simp only [List.mem_cons, List.not_mem_nil, or_false] at hb
      rcases hb with rfl | rfl | rfl | rfl
      · exact dead gx
      · exact dead gd
      · exact dead gu
      · exact dead gr) kk.get (by
      intro b hb
      simp only [List.mem_cons, List.not_mem_nil, or_false] at hb
      rcases hb with rfl | rfl | rfl | rfl
      · rw [I.obj]; rfl
      · obtain ⟨o, es, ep, e, _⟩ := I.dict; rw [e]; rfl
      · obtain ⟨n, e⟩ := pu; rw [e]; rfl
      · obtain ⟨n, e⟩ := pr; rw [e]; rfl)
  have nf : ∀ {b}, s.heap.get? b = none → b ∉ fo env := fun {b} e q => by have := F.foLive b q; rw [e] at this; cases this
  refine wpAny_mono (F3.store (.val (.ref x)) hx hk) (fun _ s4 ⟨F4, m4⟩ => ?_) fun _ _ e => e
  exact h x dx u r m s4 (dead gx) (dead gd) (dead gu) (dead gr) hur F4 (I.at (fun o e => m4.get _ _ (nf (dead gx)) e) (fun o e => m4.get _ _ (nf (dead gd)) e)) (pu.at fun o e => m4.get _ _ (nf (dead gu)) e) (pr.at fun o e => m4.get _ _ (nf (dead gr)) e) ((kk.mv _).tr m4)
end
end Mine
end

section
open PySem PySem.W PyProof.Rows SeqAt
set_option Elab.async false
set_option maxRecDepth 100000
set_option maxHeartbeats 1000000
set_option linter.unusedVariables false
namespace Mine

theorem EntryAt.apart {h : Heap} {x dx u r : Addr} {m : Str → Option Value} {k : Nat} (I : EntryAt h x dx u r m k) {a : Addr} {items : Array Value} (p : h.PlainList a items) : x ≠ a ∧ dx ≠ a := by
  obtain ⟨n, e⟩ := p
  refine ⟨fun q => ?_, fun q => ?_⟩
  · have := I.obj; rw [q, e] at this; cases this
  · obtain ⟨o, es, ep, e2, e3, _⟩ := I.dict; rw [q, e] at e2; cases e2; cases e3

theorem h0none {h₀ : Heap} {s : Shared} (hO : Over h₀ s) {a : Addr} (e : s.heap.get? a = none) : h₀.get? a = none := by
  cases q : h₀.get? a with
  | none => rfl
  | some o => rw [hO a o q] at e; cases e

theorem record_fn {w : World} {h₀ : Heap} {mg mb : Str → Option Value} (B : Base w h₀ mg mb) (ua rl : List D) (hz1 : ua.length ≤ 100000) (hz2 : rl.length ≤ 100000) :
    Fn PR w h₀ 4 (.ref 111) [.list ua, .list rl] (.entry ua rl) := by
  refine Fn.ofK B 111 3 ["agents", "rules"] rfl rfl (by kernel_rfl!) rfl (fun vs h => ?_) rfl rfl rfl rfl (by kernel_rfl!) ?_
  · match vs, h with
    | [a, b], _ => kernel_rfl!
  intro A' X L s₁ F E'
  refine ex_newEntry B F (by decide) .local rfl ?_
  intro x dx u r m s2 gx gd gu gr hur F2 I pu pr m2
  have nf : ∀ {b}, s₁.heap.get? b = none → b ∉ fo (envK w.params 111 L) := fun {b} e q => by have := F.foLive b q; rw [e] at this; cases this
  have hu0 := h0none F.ok.over gu
  have hr0 := h0none F.ok.over gr
  refine ex_extend F2 (R := u) (ds := []) ⟨[], pu, .nil⟩ (by simp) (nf gu) hu0 (evM_attr rfl B F2.ok I (Ev.name rfl) (.inl ⟨rfl, rfl⟩)) (Ev.name rfl) (by simp; omega) ?_
  intro s3 F3 M3 V3
  have I3 : EntryAt s3.heap x dx u r m 4 := I.at (fun o e => V3.get _ _ (by simpa using (I.apart pu).1) e) (fun o e => V3.get _ _ (by simpa using (I.apart pu).2) e)
  have pr3 : s3.heap.PlainList r #[] := pr.at fun o e => V3.get _ _ (by simpa using Ne.symm hur) e
  refine ex_extend F3 (R := r) (ds := []) ⟨[], pr3, .nil⟩ (by simp) (nf gr) hr0 (evM_attr rfl B F3.ok I3 (Ev.name rfl) (.inr ⟨rfl, rfl⟩)) (Ev.name rfl) (by simp; omega) ?_
  intro s4 F4 M4 V4
  have I4 : EntryAt s4.heap x dx u r m 4 := I3.at (fun o e => V4.get _ _ (by simpa using (I3.apart pr3).1) e) (fun o e => V4.get _ _ (by simpa using (I3.apart pr3).2) e)
  have M34 := M3.mv V4 (by simpa using hur) (by simp)
  refine ex_ret F4 (Ev.name rfl) fun v s5 q k => ?_
  cases q
  refine ⟨_, x :: dx :: u :: r :: fo (envK w.params 111 L), rfl, ?_, ?_, ?_⟩
  · obtain ⟨us, p1, r1⟩ := M34.kp k
    obtain ⟨rs, p2, r2⟩ := M4.kp k
    have I5 := I4.at (fun o e => k.get _ _ e) (fun o e => k.get _ _ e)
    have up : ∀ b ∈ X, b ∈ [x, dx, u, r] ++ (fo (envK w.params 111 L) ++ X) := fun b hb => List.mem_append_right _ (List.mem_append_right _ hb)
    have nX : ∀ {b}, s₁.heap.get? b = none → b ∉ X := fun e q => F.ok.fresh e (List.mem_append_right _ q)
    exact .entry (nX gx) (nX gd) (nX gu) (nX gr) I5.obj I5.dict.ns I5.l1 I5.l2 I5.l3 I5.l4 I5.l5 p1 p2 (r1.avoid fun b hb => .inl (up b hb)) (r2.avoid fun b hb => .inl (up b hb))
  · exact (m2.mono fun b hb => by simp [hb]).tr ((V3.mono (by simp)).tr ((V4.mono (by simp)).tr (k.mv _)))
  · intro b hb
    simp only [List.mem_cons] at hb
    rcases hb with rfl | rfl | rfl | rfl | hb
    · exact .inr gx
    · exact .inr gd
    · exact .inr gu
    · exact .inr gr
    · exact .inl (by simpa using hb)
end Mine
end

section
open PySem PySem.W PyProof.Rows SeqAt
set_option Elab.async false
set_option maxRecDepth 100000
set_option maxHeartbeats 3200000
set_option linter.unusedVariables false
namespace Mine

theorem strsAre_at : ∀ {vs : List Value} {ys : List Str}, StrsAre vs ys → ∀ (i : Nat) (v : Value), vs[i]? = some v → ∃ y t, ys[i]? = some y ∧ v = .str y t
  | _, _, .nil, i, v, h => by simp at h
  | _, _, .cons y t hr, 0, v, h => by simp at h; exact ⟨y, t, rfl, h.symm⟩
  | _, _, .cons y t hr, i + 1, v, h => by
    simp only [List.getElem?_cons_succ] at h
    obtain ⟨y', t', e1, e2⟩ := strsAre_at hr i v h
    exact ⟨y', t', by simpa using e1, e2⟩
theorem strsAre_len : ∀ {vs : List Value} {ys : List Str}, StrsAre vs ys → vs.length = ys.length
  | _, _, .nil => rfl
  | _, _, .cons y t hr => by simp [strsAre_len hr]

section
variable {prog : Program} {w : World} {A : Around} {R : Result → Shared → Prop} {I : Addr} {fp wr : List Addr} {G : Array GenState → Array GenState → Prop} {P : Nat → Value → Prop} {St : Nat → Shared → Prop}

/-- the texts that an iterator gives, put into a set -/
theorem set_loop {ys : List Str} (W : WalksS prog w A.in1 I fp wr G ys.length P St) (S : Addr) (hSf : S ∉ fp) (hval : ∀ i v, P i v → ∃ y t, ys[i]? = some y ∧ v = .str y t) (hb : ys.length + 1 < scanBound) :
    ∀ (k i : Nat) (f : Str → Bool) (c : Nat) (s : Shared), ys.length - i = k → i ≤ ys.length → St i s → s.heap.SetOf (strKind prog w) S f c → (∀ y, f y = (ys.take i).contains y) → c ≤ i →
      (∀ s' f' c', Moved (S :: wr) G s s' → s'.heap.SetOf (strKind prog w) S f' c' → (∀ y, f' y = ys.contains y) → R (.ok (.ret .none)) s') →
      codeAny (model prog w) A (.builtin "set.update.loop" ⟨[.ref S, .ref I], []⟩) R s := by
  have hSw : S ∉ wr := fun h => hSf (W.sub _ h)
  have hsub : ∀ b ∈ wr, b ∈ S :: wr := fun b hb => List.mem_cons_of_mem _ hb
  have stays : ∀ {s s' : Shared} {f c}, Moved wr G s s' → s.heap.SetOf (strKind prog w) S f c → s'.heap.SetOf (strKind prog w) S f c := by
    intro s s' f c hm hS
    obtain ⟨o, es, ep, t, ho, rest⟩ := hS
    exact ⟨o, es, ep, t, hm.heap S _ hSw ho, rest⟩
  intro k
  induction k with
  | zero =>
    intro i f c s hk hi hst hS hf hc hR
    obtain rfl : i = ys.length := by omega
    refine codeAny_builtin F.entry_set_update_loop ?_
    rw [Around.under_plainId F.plain_set_update_loop _]
    show wpAny _ A.in1 (pyNext (.ref I) >>= _) _ _ s
    refine wpAny_bind (W.done s _ _ hst fun s' hm => ?_)
    exact wpAny_pure (hR s' f c (hm.mono hsub) (stays hm hS) (fun y => by rw [hf y, List.take_length]))
  | succ k ih =>
    intro i f c s hk hi hst hS hf hc hR
    have hlt : i < ys.length := by omega
    refine codeAny_builtin F.entry_set_update_loop ?_
    rw [Around.under_plainId F.plain_set_update_loop _]
    show wpAny _ A.in1 (pyNext (.ref I) >>= _) _ _ s
    refine wpAny_bind (W.item i s _ _ hlt hst fun v s' hP hst' hm => ?_)
    obtain ⟨y, t, hy, rfl⟩ := hval i v hP
    show wpAny _ A.in1 (holding [Value.str y t] (setAdd S (.str y t)) >>= _) _ _ s'
    refine wpAny_bind (wpAny_holding ?_)
    unfold setAdd
    refine wpAny_holding ?_
    refine wpAny_bind ((strKind prog w).pyHash (k := y) (strKind_is _ _ _ _) ?_)
    refine wpAny_setAddHashed_of (knd := strKind prog w) (s := { s' with toks := s'.toks + 1 }) (strKind_is _ _ _ _) rfl (by exact stays (s' := s') hm hS) (by omega) fun h' hsb hS2 => ?_
    refine wpAny_pure ⟨plainId_quiet F.plain_set_update_loop _, ih (i + 1) _ _ _ (by omega) hlt (W.frame _ s' _ _ hst' (Nat.le_succ _) fun b hb o e => ?_) hS2 ?_ ?_ fun s'' f' c' hm'' hS'' hf'' => ?_⟩
    · rw [hsb.2 b (fun h : b = S => hSf (by rw [← h]; exact hb))]; exact e
    · intro z
      rw [List.take_add_one, hy, hf z]
      simp [eq_comm]
    · split <;> omega
    · refine hR s'' f' c' (Moved.trans W.gtrans ((hm.mono hsub).then_heap (Nat.le_succ _) fun b o hb e => ?_) hm'') hS'' hf''
      rw [hsb.2 b (fun h : b = S => hb (by rw [h]; exact List.mem_cons_self))]; exact e
end

section
variable {prog : Program} {w : World} {A : Around} {E : Value → Shared → Prop} {s : Shared}

abbrev freshSet (led : Bool) : Obj := { cls := .type "set", dict := none, data := .set #[] 0 (.fresh 0 0 led) }

/-- set(a list of texts) -/
theorem call_set_strs {l : Addr} {items : Array Value} {ys : List Str} {Q : Value → Shared → Prop} (hh : A.handled = none) (hl : s.heap.IsList l items) (hi : StrsAre items.toList ys) (hb : ys.length + 1 < scanBound)
    (h : ∀ S h' tk f c, s.heap.get? S = none → h'.SetOf (strKind prog w) S f c → (∀ y, f y = ys.contains y) → (∀ b o, s.heap.get? b = some o → h'.get? b = some o) → Q (.ref S) { s with heap := h', toks := tk }) :
    wpAny (model prog w) A (call (.type "set") [.ref l]) Q E s := by
  obtain ⟨c, tl, hmro⟩ := F.called_set.mro
  have hmade := F.called_set.made
  have hsub := F.called_set.sub
  have hlen : items.size = ys.length := by have := strsAre_len hi; simpa using this
  refine wpAny_call (codeAny_of_tree ?_)
  show wpAny _ _ (callAny (.type "set") _) _ _ _
  refine wpAny_pure ⟨Code.quiet_builtin _ (by decide +kernel), codeAny_builtin F.entry_type_call ?_⟩
  rw [Around.under_plain (weight_type_call_type "set" [.ref l] []) rfl]
  have h1 := F.called_set.notType
  have h2 := F.called_set.canCreate
  have hct := F.typeCall_set_1 (.ref l)
  repeat (any_goals (first | assumption | wp_step))
  refine codeAny_mono (code_set_new_1 (.ref l) (E := E) (Q₁ := fun obj s₁ => ∃ led : Bool, obj = .ref s.heap.objs.size ∧ s₁ = { s with heap := s.heap.push (freshSet led) }) fun led => ⟨led, rfl, rfl⟩) fun r s₁ hr => ?_
  rcases r with e | fl
  · exact hr
  cases fl with
  | ret obj =>
    obtain ⟨led, rfl, rfl⟩ := hr
    have hS : (s.heap.push (freshSet led)).get? s.heap.objs.size = some (freshSet led) := Heap.get?_push_size _ rfl
    have hT : Shared.TypeIs { s with heap := s.heap.push (freshSet led) } (.ref s.heap.objs.size) "set" := ⟨_, hS, rfl⟩
    have hli := F.called_set.init.lookup
    have hbi := F.called_set.init.bind (.ref s.heap.objs.size)
    repeat (any_goals (first | assumption | wp_step))
    refine codeAny_mono (codeAny_call_builtin (R := wants (fun r s₂ => r = .none ∧ ∃ h' tk f c, s₂ = { s with heap := h', toks := tk } ∧ h'.SetOf (strKind prog w) s.heap.objs.size f c ∧ (∀ y, f y = ys.contains y) ∧
        (∀ b o, s.heap.get? b = some o → h'.get? b = some o)) E) F.called_set.init.plain F.entry_set_init (check_set_init_1 hT ?_)) fun r₂ s₂ hr₂ => ?_
    · obtain ⟨ol, hol, hcl, nl, hdl⟩ := hl
      obtain ⟨ocls, odict, odata, oslots⟩ := ol
      simp only at hcl hdl
      subst hcl; subst hdl
      have hol' : (s.heap.push (freshSet led)).get? l = some { cls := .type "list", dict := odict, data := .seq items nl, slots := oslots } := Heap.get?_push_of_some _ hol
      have hsls := F.sub_list_set
      have hslf := F.sub_list_frozenset
      have hne : (Value.type "list" == Value.type "dict") = false := by decide
      have hl1 : (s.heap.push (freshSet led)).IsList l items := ⟨_, hol', rfl, nl, rfl⟩
      unfold Builtin.«set.__init__» noKeywords Builtin.Frozenset.updateFrom
      generalize hPI : pyIter = PI
      wp_walk
      subst hPI
      refine wpAny_pyIter_list hl1 ?_
      refine wpAny_bind (wpAny_runValue ?_)
      have hlS : l < s.heap.objs.size := Heap.lt_size hol
      have hh3 : A.in1.in1.in1.handled = none := by simp [hh]
      have hneI : l ≠ (s.heap.push (freshSet led)).objs.size := by
        rw [Heap.size_push]; exact Nat.ne_of_lt (Nat.lt_succ_of_lt hlS)
      have hSf : s.heap.objs.size ∉ [(s.heap.push (freshSet led)).objs.size, l] := by
        rw [Heap.size_push]; simp only [List.mem_cons, List.mem_singleton, List.not_mem_nil, or_false, not_or]
        exact ⟨Nat.ne_of_lt (Nat.lt_succ_self _), Nat.ne_of_gt hlS⟩
      have hW := (Walks.list (prog := prog) (w := w) hh3 _ l hneI items).toS
      rw [hlen] at hW
      refine set_loop hW s.heap.objs.size hSf (fun i v hv => strsAre_at hi i v (by rw [Array.getElem?_toList]; exact hv)) hb (ys.length - 0) 0 (fun _ => false) 0 _ rfl (Nat.zero_le _)
        ⟨⟨_, Heap.get?_push_size _ rfl, rfl, rfl⟩, (hl1.push _)⟩ ?_ (fun y => by simp) (Nat.le_refl _) ?_
      · exact (setObjOf_fresh (knd := strKind prog w) led).setOf (Heap.get?_push_of_some _ hS) (by unfold scanBound; omega)
      · intro s' f' c' hm hS' hf'
        obtain ⟨h', g', d', tk', os'⟩ := s'
        have eg : g' = s.gens := hm.gens
        have ed : d' = s.drawn := hm.drawn
        have eo : os' = s.os := hm.os
        subst eg; subst ed; subst eo
        refine wpAny_pure ?_
        refine wpAny_pure ⟨rfl, h', tk', f', c', rfl, hS', hf', fun b o e => ?_⟩
        have hb0 : b < s.heap.objs.size := Heap.lt_size e
        have hb1 : b ≠ s.heap.objs.size := Nat.ne_of_lt hb0
        have hb2 : b ≠ (s.heap.push (freshSet led)).objs.size := by
          rw [Heap.size_push]; exact Nat.ne_of_lt (Nat.lt_succ_of_lt hb0)
        exact hm.heap b o (by simp only [List.mem_cons, List.mem_singleton, List.not_mem_nil, or_false, not_or]; exact ⟨hb1, hb2⟩) (Heap.get?_push_of_some _ (Heap.get?_push_of_some _ e))
    · rcases r₂ with e | fl
      · exact hr₂
      cases fl with
      | ret r =>
        obtain ⟨rfl, h', tk, f, c, rfl, hS', hf', hk'⟩ := hr₂
        repeat (any_goals (first | assumption | wp_step))
        exact h _ _ _ _ _ (get_none_size _) hS' hf' hk'
      | _ => exact hr₂.elim
  | _ => exact hr.elim
end
end Mine
end

section
open PySem PySem.W PyProof.Rows SeqAt
set_option Elab.async false
set_option maxRecDepth 100000
set_option maxHeartbeats 1000000
set_option linter.unusedVariables false
namespace Mine
open PySem.Builtin PySem.Builtin.ObjectAttr

theorem set_ga : typeLookup (.type "set") "__getattribute__" = pure (some (.builtin "set.__getattribute__")) := by rw [typeLookup_type, builtinLookup_eq_fast]; kernel_rfl
theorem md_get : typeLookup (.type "method_descriptor") "__get__" = pure (some (.builtin "method_descriptor.__get__")) := by rw [typeLookup_type, builtinLookup_eq_fast]; kernel_rfl
theorem md_set : typeLookup (.type "method_descriptor") "__set__" = pure none := by rw [typeLookup_type, builtinLookup_eq_fast]; kernel_rfl
theorem md_del : typeLookup (.type "method_descriptor") "__delete__" = pure none := by rw [typeLookup_type, builtinLookup_eq_fast]; kernel_rfl
theorem md_slot : Slot "method_descriptor" "__get__" "method_descriptor.__get__" :=
  .of (owner := "method_descriptor") (n := "__get__") md_get (by decide +kernel) (by decide +kernel) (by decide +kernel)
    (by first | exact .inl (by decide +kernel) | exact .inr (by decide +kernel)) (by rw [isSubtype_type]; kernel_rfl)
theorem md_entry : entryFor table "method_descriptor.__get__" = some Builtin.«method_descriptor.__get__» := entryFor_of_tree (by kernel_rfl)
theorem md_args (a b c : Value) : argsOk "method_descriptor.__get__" ⟨[a, b, c], []⟩ := by unfold argsOk; kernel_rfl
theorem ga_slot : Slot "set" "__getattribute__" "set.__getattribute__" :=
  .of (owner := "set") (n := "__getattribute__") set_ga (by decide +kernel) (by decide +kernel) (by decide +kernel)
    (by first | exact .inl (by decide +kernel) | exact .inr (by decide +kernel)) (by rw [isSubtype_type]; kernel_rfl)
theorem ga_entry : entryFor table "set.__getattribute__" = some Builtin.«object.__getattribute__» := entryFor_alias (id' := "object.__getattribute__") (by kernel_rfl) rfl (by decide +kernel) (by kernel_rfl)
theorem ga_args (a b : Value) : argsOk "set.__getattribute__" ⟨[a, b], []⟩ := by unfold argsOk; kernel_rfl
end Mine
end

section
open PySem PySem.W PyProof.Rows SeqAt
set_option Elab.async false
set_option maxRecDepth 100000
set_option maxHeartbeats 1000000
set_option linter.unusedVariables false
namespace Mine
open PySem.Builtin PySem.Builtin.ObjectAttr

abbrev boundC (S : Addr) : Obj := { cls := .type "builtin_function_or_method", data := .fields #[.builtin "set.__contains__", .ref S] }

section
variable {prog : Program} {w : World} {A : Around} {h : Heap} {g : Array GenState} {d : Drawn} {t : Nat} {os : OsState}

theorem md_run {S : Addr} {es : Array (Int × Value)} {ep : Nat} {tb : SetTable} {sl : Array (Option Value)} {P : PySem.Fin → Shared → Prop} {E : Value → Shared → Prop} (ho : h.get? S = some ⟨.type "set", none, .set es ep tb, sl⟩)
    (hq : P (.done (.ret (.ref h.objs.size))) ⟨h.push (boundC S), g, d, t, os⟩) :
    wpAny (model prog w) A (Builtin.«method_descriptor.__get__» ⟨[.builtin "set.__contains__", .ref S, .type "set"], []⟩) P E ⟨h, g, d, t, os⟩ := by
  have L1 : Looks (model prog w) h (isInstance (.ref S) (.type "set")) true := (show Looks (model prog w) h (typeOf (.ref S)) (.type "set") from (Looks.ld ho).andThen .now).andThen (Looks.of_pure sub_set_self)
  unfold Builtin.«method_descriptor.__get__»
  refine wpAny_bind (wpAny_of_eq (a := (.builtin "set.__contains__", some (.ref S), some (.type "set"))) (by first | rfl | kernel_rfl) ?_)
  dsimp only
  rw [if_neg (by decide +kernel)]
  repeat lk
  exact hq

theorem set_bound {S : Addr} {es : Array (Int × Value)} {ep : Nat} {tb : SetTable} {sl : Array (Option Value)} {Q : Value → Shared → Prop} {E : Value → Shared → Prop} (ho : h.get? S = some ⟨.type "set", none, .set es ep tb, sl⟩)
    (hq : ∀ t', Q (.ref h.objs.size) ⟨h.push (boundC S), g, d, t', os⟩) : wpAny (model prog w) A (getAttr (.ref S) "__contains__" true) Q E ⟨h, g, d, t, os⟩ := by
  have L0 : Looks (model prog w) h (typeOf (.ref S)) (.type "set") := (Looks.ld ho).andThen .now
  have L2 : Looks (model prog w) h (typeLookup (.type "set") "__contains__") (some (.builtin "set.__contains__")) := Looks.of_pure PySem.F.slot_set_contains.lookup
  have L3 : Looks (model prog w) h (specialOf (.builtin "set.__contains__") "__get__") (some (.builtin "method_descriptor.__get__")) := (Looks.of_pure PySem.F.type_set_contains).andThen (Looks.of_pure md_get)
  have L4 : Looks (model prog w) h (specialOf (.builtin "set.__contains__") "__set__") none := (Looks.of_pure PySem.F.type_set_contains).andThen (Looks.of_pure md_set)
  have L5 : Looks (model prog w) h (specialOf (.builtin "set.__contains__") "__delete__") none := (Looks.of_pure PySem.F.type_set_contains).andThen (Looks.of_pure md_del)
  have L6 : Looks (model prog w) h (typeLookup (.type "set") "__getattribute__") (some (.builtin "set.__getattribute__")) := Looks.of_pure set_ga
  unfold getAttr getAttrBy
  refine wpAny_bind (wpAny_mkText (wpAny_holding (wpAny_bind (L0.at (wpAny_bind (L6.at ?_))))))
  dsimp only
  rw [if_neg (by simp [onTheHeap])]
  unfold getAttrByItsOwn hookBefore
  rw [if_neg (by simp [onTheHeap])]
  refine wpAny_bind (wpAny_pure (wpAny_bind (wpAny_attempt (wpAny_holding ?_))))
  unfold callGetattribute
  rw [if_neg (by simp [onTheHeap])]
  unfold boundAndCalled
  rw [ga_slot.bind]
  refine wpAny_bind (wpAny_pure ?_)
  refine wpAny_call_entry ga_slot ⟨_, ho, rfl⟩ ga_entry ?_ (ga_args _ _)
  have L7 : Looks (model prog w) h (takesStores (.builtin "set.__contains__")) false := L4.andThen (L5.andThen .now)
  unfold Builtin.«object.__getattribute__» find
  repeat (first | with_reducible refine wpAny_call ?_ | lk)
  refine codeAny_call_builtin md_slot.plain md_entry (md_slot.check _ _ _ _ _ _ _ _ PySem.F.type_set_contains (md_args _ _ _) (md_run ho ?_))
  exact wpAny_pure ⟨_, rfl, wpAny_pure (hq _)⟩
end
end Mine
end

section
open PySem PySem.W PyProof.Rows SeqAt
set_option Elab.async false
set_option maxRecDepth 100000
set_option maxHeartbeats 1000000
set_option linter.unusedVariables false
namespace Mine
open PySem.Builtin PySem.Builtin.ObjectAttr

theorem sc_plain : plainId "set.__contains__" = true := by decide +kernel
theorem sub_set_module : isSubtype (.type "set") (.type "module") = pure false := by rw [isSubtype_type]; kernel_rfl
theorem sub_set_type : isSubtype (.type "set") (.type "type") = pure false := by rw [isSubtype_type]; kernel_rfl

theorem sc_sig : Manifest.signature? "set.__contains__" = some ⟨.oneArg, "set.__contains__", "__contains__", .self, [⟨"object", .posOnly, true⟩]⟩ := by rw [signature?_of (id := "set.__contains__") (n := ['_', '_', 's', 'n', 'i', 'a', 't', 'n', 'o', 'c', '_', '_']) (o := ['t', 'e', 's']) (by kernel_rfl) PySem.F.owner_set]; kernel_rfl
theorem sc_kind : builtinKind "set.__contains__" = some .method := by decide +kernel
theorem sc_var : Manifest.varargsMethods.contains "set.__contains__" = false := by decide +kernel
theorem sc_bcheck (a b : Value) : Bind.checkArgs "set.__contains__" ⟨.oneArg, s!"{Bind.lastOf "set"}.{Bind.lastOf "set.__contains__"}", "__contains__", .self, [⟨"object", .posOnly, true⟩]⟩ ⟨[a, b], []⟩ = pure () := by kernel_rfl

section
variable {prog : Program} {w : World} {A : Around} {h : Heap} {g : Array GenState} {d : Drawn} {t : Nat} {os : OsState}

theorem check_bound {S : Addr} {es : Array (Int × Value)} {ep : Nat} {tb : SetTable} {sl : Array (Option Value)} {y : Str} {tk : Tok} {Q : Unit → Shared → Prop} {E : Value → Shared → Prop} (ho : h.get? S = some ⟨.type "set", none, .set es ep tb, sl⟩)
    (hq : Q () ⟨h, g, d, t, os⟩) : wpAny (model prog w) A (checkBoundCall "set.__contains__" ⟨[.ref S, .str y tk], []⟩) Q E ⟨h, g, d, t, os⟩ := by
  have L0 : Looks (model prog w) h (typeOf (.ref S)) (.type "set") := (Looks.ld ho).andThen .now
  have L1 : Looks (model prog w) h (isInstance (.ref S) (.type "module")) false := L0.andThen (Looks.of_pure sub_set_module)
  have L2 : Looks (model prog w) h (isType (.ref S)) false := by
    unfold isType
    first
      | exact L0.andThen (Looks.of_pure sub_set_type)
      | exact (Looks.ld ho).andThen .now
      | exact (Looks.ld (part := none) ho).andThen .now
  unfold checkBoundCall
  rw [sc_sig, sc_kind]
  dsimp only
  rw [if_neg (by decide)]
  refine wpAny_bind (L1.at ?_)
  rw [sc_var, if_neg (by decide)]
  refine wpAny_bind (L2.at ?_)
  rw [if_neg (by decide)]
  refine wpAny_bind (L0.at ?_)
  dsimp only
  rw [sc_bcheck]
  exact wpAny_pure hq
end

theorem sub_strKindIs (prog : Program) (w : World) (y : Str) (t : Tok) : (strKind prog w).is y (.str y t) = true := strKind_is _ _ _ _

section
variable {prog : Program} {w : World} {A : Around} {E : Value → Shared → Prop} {s : Shared}

theorem bound_call {S b : Addr} {f : Str → Bool} {c : Nat} {y : Str} {t : Tok} {Q : Value → Shared → Prop} (hb : s.heap.get? b = some (boundC S)) (hS : s.heap.SetOf (strKind prog w) S f c) (hq : ∀ tk, Q (.bool (f y)) { s with toks := tk }) :
    wpAny (model prog w) A (call (.ref b) [.str y t]) Q E s := by
  obtain ⟨o, es, ep, tb, ho, hex, hd, hrest⟩ := id hS
  obtain ⟨oc, od, oda, osl⟩ := o
  obtain ⟨hc1, hc2⟩ := hex
  simp only at hc1 hc2 hd
  subst hc1; subst hd
  obtain ⟨hc2, _⟩ := hc2
  subst hc2
  refine wpAny_call (codeAny_of_tree ?_)
  show wpAny _ _ (callAny (.ref b) _) _ _ _
  unfold callAny
  refine wpAny_bind (wpAny_load hb ?_)
  dsimp only [boundC]
  rw [if_pos (by decide)]
  show wpAny _ _ (checkBoundCall "set.__contains__" ⟨[.ref S, .str y t], []⟩ >>= _) _ _ _
  obtain ⟨hh, g, d, tk, os⟩ := s
  refine wpAny_bind (check_bound ho ?_)
  refine wpAny_pure (a := Fin.again (.builtin "set.__contains__" ⟨[.ref S, .str y t], []⟩)) ⟨plainId_quiet sc_plain _, codeAny_builtin entry_set_contains ?_⟩
  rw [Around.under_plainId sc_plain]
  unfold Builtin.«frozenset.__contains__» Builtin.Frozenset.oneOther
  simp only [List.isEmpty_nil, bind_assoc]
  unfold Builtin.Frozenset.addrOf Builtin.Frozenset.withSetAsKey setContains
  refine wpAny_bind (wpAny_pure ?_)
  try dsimp only
  refine wpAny_bind (wpAny_pure ?_)
  try dsimp only
  refine wpAny_bind (wpAny_tryCatch ?_)
  refine wpAny_holding ?_
  refine wpAny_bind ((strKind prog w).pyHash (k := y) (strKind_is _ _ _ _) ?_)
  refine wpAny_bind (wpAny_setFind_of (knd := strKind prog w) (k := y) (s := ⟨hh, g, d, tk + 1, os⟩) (strKind_is _ _ _ _) rfl hS fun r hr => ?_)
  refine wpAny_pure ?_
  show wpAny _ _ (ret (Value.bool r.isSome)) _ _ _
  rw [hr]
  exact wpAny_pure (hq _)
end
end Mine
end

section
open PySem PySem.W PyProof.Rows SeqAt
set_option Elab.async false
set_option maxRecDepth 100000
set_option maxHeartbeats 1000000
set_option linter.unusedVariables false
namespace Mine
theorem fl_next : Slot "filter" "__next__" "filter.__next__" :=
  .of (owner := "filter") (n := "__next__") (by rw [typeLookup_type, builtinLookup_eq_fast]; kernel_rfl) (by decide +kernel) (by decide +kernel) (by decide +kernel)
    (by first | exact .inl (by decide +kernel) | exact .inr (by decide +kernel)) (by rw [isSubtype_type]; kernel_rfl)
theorem fl_iter : Slot "filter" "__iter__" "filter.__iter__" :=
  .of (owner := "filter") (n := "__iter__") (by rw [typeLookup_type, builtinLookup_eq_fast]; kernel_rfl) (by decide +kernel) (by decide +kernel) (by decide +kernel)
    (by first | exact .inl (by decide +kernel) | exact .inr (by decide +kernel)) (by rw [isSubtype_type]; kernel_rfl)
theorem fl_init : Slot "filter" "__init__" "object.__init__" :=
  .of (owner := "object") (n := "__init__") (by rw [typeLookup_type, builtinLookup_eq_fast]; kernel_rfl) (by decide +kernel) (by decide +kernel) (by decide +kernel)
    (by first | exact .inl (by decide +kernel) | exact .inr (by decide +kernel)) (by rw [isSubtype_type]; kernel_rfl)
theorem fl_entry_next : entryFor table "filter.__next__" = some Builtin.«filter.__next__» := entryFor_of_tree (by kernel_rfl)
theorem fl_args_next (a : Value) : argsOk "filter.__next__" ⟨[a], []⟩ := by unfold argsOk; kernel_rfl
theorem fl_entry_iter : entryFor table "filter.__iter__" = some Builtin.«dict_keyiterator.__iter__» :=
  entryFor_alias (id' := "dict_keyiterator.__iter__") (by kernel_rfl) (by first | rfl | decide +kernel | (unfold String.splitOn; simp +decide [String.splitOnAux])) (by decide +kernel) (by kernel_rfl)
theorem fl_args_iter (a : Value) : argsOk "filter.__iter__" ⟨[a], []⟩ := by unfold argsOk; kernel_rfl
theorem fl_mro : mroOf (.type "filter") = pure [.type "filter", .type "object"] := by rw [mroOf_type]; kernel_rfl
theorem fl_lookup_new : typeLookup (.type "filter") "__new__" = pure (some (.builtin "filter.__new__")) := by rw [typeLookup_type, builtinLookup_eq_fast]; kernel_rfl
theorem fl_called : TypeCalled "filter" "filter.__new__" "object.__init__" :=
  ⟨by decide +kernel, by decide +kernel, ⟨_, _, fl_mro⟩, madeBy_type fl_mro fl_lookup_new (by decide +kernel), by decide +kernel, by rw [isSubtype_type]; kernel_rfl, fl_init⟩
theorem fl_typeCall (a b : Value) : checkTypeCall "filter" ⟨[a, b], []⟩ = pure () := by kernel_rfl
theorem fl_newCall (a b : Value) : checkBuiltinCall "filter.__new__" ⟨[.type "filter", a, b], []⟩ = pure () := by kernel_rfl
theorem fl_entry_new : entryFor table "filter.__new__" = some Builtin.«filter.__new__» := entryFor_of_tree (by kernel_rfl)
theorem fl_sub : isSubtype (.type "filter") (.type "filter") = pure true := by rw [isSubtype_type]; kernel_rfl
theorem fl_no_len : typeLookup (.type "filter") "__len__" = pure none := by rw [typeLookup_type, builtinLookup_eq_fast]; kernel_rfl
theorem fl_no_hint : typeLookup (.type "filter") "__length_hint__" = pure none := by rw [typeLookup_type, builtinLookup_eq_fast]; kernel_rfl
end Mine
end

section
open PySem PySem.W PyProof.Rows SeqAt
set_option Elab.async false
set_option maxRecDepth 100000
set_option maxHeartbeats 1000000
set_option linter.unusedVariables false
namespace Mine
open PySem.Builtin

section
variable {prog : Program} {w : World} {A : Around} {E : Value → Shared → Prop} {s : Shared}

/-- one step of a list's iterator, as a method call -/
theorem special_next {it l : Addr} {i : Nat} {items : Array Value} {Q : Option Value → Shared → Prop} (hh : A.handled = none) (hit : s.heap.IsListIter it l i) (hl : s.heap.IsList l items)
    (hQ : ∀ x h', items[i]? = some x → h'.IsListIter it l (i + 1) → Heap.SameBut it s.heap h' → Q (some x) { s with heap := h' })
    (hE : ∀ h' e, items[i]? = none → Heap.ExtBut it s.heap h' → (∃ o, h'.get? e = some o ∧ o.cls = .type "StopIteration") → E (.ref e) { s with heap := h' }) :
    wpAny (model prog w) A (callSpecial? (.ref it) "__next__") Q E s := by
  obtain ⟨o, ho, hc, hd⟩ := id hit
  obtain ⟨ol, hol, _, nl, hdl⟩ := hl
  refine wpAny_callSpecial?_slot (name := Str.ofString "__next__") hit.typeIs slot_listiter_next (wpAny_call_entry slot_listiter_next hit.typeIs entry_listiter_next ?_ (args_listiter_next _))
  refine (show wpAny _ _ (field (.ref it) 0 >>= _) _ _ s from ?_)
  refine wpAny_bind (wpAny_field ho hd (x := .ref l) rfl ?_)
  rw [if_neg (show ¬ ((Value.ref l == Value.none) = true) from Bool.false_ne_true)]
  refine (show wpAny _ _ (field (.ref it) 1 >>= _) _ _ s from ?_)
  refine wpAny_bind (wpAny_field ho hd (x := .int i 0) rfl ?_)
  refine (show wpAny _ _ (seqItems? (.ref l) >>= _) _ _ s from ?_)
  refine wpAny_bind (wpAny_seqItems hol hdl ?_)
  cases hx : items[i]? with
  | some x =>
    simp only [Int.toNat_natCast, hx]
    refine wpAny_bind (wpAny_setField ho hd (by simp) (wpAny_pure ⟨x, rfl, hQ x _ hx ?_ (Heap.SameBut.update ..)⟩))
    exact ⟨_, Heap.get?_update_self _ ho (Obj.isFreed_of_fields (Obj.data_mapFields hd _)), (Obj.cls_mapFields ..).trans hc, by rw [Obj.data_mapFields hd]; simp [rawInt]⟩
  | none =>
    simp only [Int.toNat_natCast, hx]
    refine wpAny_bind (wpAny_rule (wpAny_bind (wpAny_setField ho hd (by simp) ?_)))
    refine (show wpAny _ _ (newExc (.type "StopIteration") [] >>= _) _ _ _ from wpAny_bind ?_)
    simp only [newExc, newTuple]
    refine wpAny_bind (wpAny_newObj_type ?_ (by size_fits))
    refine wpAny_bind (m := firstArgMember _ _) (wpAny_of_eq (a := Value.none) (by first | rfl | (simp only [firstArgMember]; rfl)) ?_)
    refine wpAny_newObj_type ?_ (by size_fits)
    simp only [raiseNew]
    refine wpAny_bind (wpAny_handled ?_)
    rw [show A.in1.handled = none from hh]
    refine wpAny_bind (wpAny_pure (wpAny_throw ?_))
    exact hE _ _ hx (((Heap.SameBut.update ..).extBut.push _).push _) ⟨_, Heap.get?_push_size _ rfl, rfl⟩

abbrev fltObj (b it : Addr) : Obj := { cls := .type "filter", data := .fields #[.ref b, .ref it] }
def txtOf (f : Str → Bool) : Value → Bool
  | .str y _ => f y
  | _ => false

structure FltSt (prog : Program) (w : World) (h : Heap) (z b it l S : Addr) (f : Str → Bool) (c : Nat) (vs : List Value) (k : Nat) : Prop where
  z : h.get? z = some (fltObj b it)
  b : h.get? b = some (boundC S)
  S : h.SetOf (strKind prog w) S f c
  it : h.IsListIter it l k
  l : h.IsList l vs.toArray
theorem FltSt.step {z b it l S : Addr} {f : Str → Bool} {c : Nat} {vs : List Value} {k k' : Nat} {h h' : Heap} (x : FltSt prog w h z b it l S f c vs k) (hz : z ≠ it) (hb : b ≠ it) (hS : S ≠ it) (hl : l ≠ it)
    (k : ∀ a o, a ≠ it → h.get? a = some o → h'.get? a = some o) (hi : h'.IsListIter it l k') : FltSt prog w h' z b it l S f c vs k' :=
  ⟨k _ _ hz x.z, k _ _ hb x.b, by obtain ⟨o, es, ep, t, ho, rest⟩ := x.S; exact ⟨o, es, ep, t, k _ _ hS ho, rest⟩, hi, x.l.at fun o e => k _ o hl e⟩

theorem flt_code {R : Result → Shared → Prop} {z b it l S : Addr} {f : Str → Bool} {c : Nat} {vs : List Value} (hh : A.handled = none) (hz : z ≠ it) (hb : b ≠ it) (hS : S ≠ it) (hl : l ≠ it) (hv : ∀ v ∈ vs, ∃ y t, v = .str y t) :
    ∀ (rest : List Value) (k : Nat) (s : Shared), vs.drop k = rest → FltSt prog w s.heap z b it l S f c vs k →
      (∀ v k' h' tk, rest.filter (txtOf f) = v :: (vs.drop k').filter (txtOf f) → FltSt prog w h' z b it l S f c vs k' → (∀ a o, a ≠ it → s.heap.get? a = some o → h'.get? a = some o) → s.toks ≤ tk → R (.ok (.ret v)) { s with heap := h', toks := tk }) →
      (∀ h' e tk, rest.filter (txtOf f) = [] → (∀ a o, a ≠ it → s.heap.get? a = some o → h'.get? a = some o) → (∃ o, h'.get? e = some o ∧ o.cls = .type "StopIteration") → s.toks ≤ tk → R (.error (.ref e)) { s with heap := h', toks := tk }) →
      codeAny (model prog w) A (.builtin "filter.__next__" ⟨[.ref z], []⟩) R s := by
  intro rest
  induction rest with
  | nil =>
    intro k s hd X h1 h2
    refine codeAny_builtin fl_entry_next ?_
    rw [Around.under_plainId fl_next.plain]
    refine (show wpAny _ _ (field (.ref z) 0 >>= _) _ _ s from wpAny_bind (wpAny_field X.z rfl (x := .ref b) rfl ?_))
    refine (show wpAny _ _ (field (.ref z) 1 >>= _) _ _ s from wpAny_bind (wpAny_field X.z rfl (x := .ref it) rfl ?_))
    have hk : vs.toArray[k]? = none := by
      have := congrArg (·[0]?) hd
      simpa using this
    refine wpAny_bind (special_next (A := A.in1) hh X.it X.l (fun x h' e _ _ => by rw [hk] at e; cases e) (fun h' e _ hs he => ?_))
    exact h2 h' e s.toks rfl (fun a o ha q => hs a o ha q) he (Nat.le_refl _)
  | cons v rest ih =>
    intro k s hd X h1 h2
    refine codeAny_builtin fl_entry_next ?_
    rw [Around.under_plainId fl_next.plain]
    refine (show wpAny _ _ (field (.ref z) 0 >>= _) _ _ s from wpAny_bind (wpAny_field X.z rfl (x := .ref b) rfl ?_))
    refine (show wpAny _ _ (field (.ref z) 1 >>= _) _ _ s from wpAny_bind (wpAny_field X.z rfl (x := .ref it) rfl ?_))
    have hk : vs.toArray[k]? = some v := by
      have := congrArg (·[0]?) hd
      simpa using this
    have hrest : vs.drop (k + 1) = rest := by
      have := congrArg List.tail hd
      simpa using this
    obtain ⟨y, t, rfl⟩ := hv v (by have : v ∈ vs.drop k := by rw [hd]; exact List.mem_cons_self
                                   exact List.mem_of_mem_drop this)
    refine wpAny_bind (special_next (A := A.in1) hh X.it X.l (fun x h' e hi hs => ?_) (fun h' e e' _ _ => by rw [hk] at e'; cases e'))
    rw [hk] at e
    cases e
    have X' : FltSt prog w h' z b it l S f c vs (k + 1) := X.step hz hb hS hl (fun a o ha q => hs.extBut a o ha q) hi
    refine wpAny_bind (wpAny_holding ?_)
    rw [if_neg (show ¬ ((Value.ref b == Value.none || Value.ref b == Value.type "bool") = true) from Bool.false_ne_true)]
    refine wpAny_bind (wpAny_mono (wpAny_toks_of (n := s.toks) (s := { s with heap := h' }) (Nat.le_refl _) (bound_call (s := { s with heap := h' }) (Q := fun v s2 => v = .bool (f y) ∧ ∃ tk, s2 = { s with heap := h', toks := tk }) X'.b X'.S (fun tk => ⟨rfl, tk, rfl⟩))) (fun v s2 h => ?_) fun _ _ e => e.2)
    obtain ⟨htk, rfl, tk, rfl⟩ := h
    refine wpAny_holding (wpAny_truthy_bool ?_)
    cases hfy : f y with
    | true =>
      rw [if_pos rfl]
      exact wpAny_pure (h1 _ (k + 1) h' tk (by rw [List.filter_cons_of_pos (by exact hfy), hrest]) X' (fun a o ha q => hs.extBut a o ha q) htk)
    | false =>
      rw [if_neg Bool.false_ne_true]
      have hf : (Value.str y t :: rest).filter (txtOf f) = rest.filter (txtOf f) := List.filter_cons_of_neg (by show ¬ (f y = true); rw [hfy]; exact Bool.false_ne_true)
      refine wpAny_pure ⟨plainId_quiet fl_next.plain _, ih (k + 1) { s with heap := h', toks := tk } hrest X' (fun v k' h'' tk' hq X'' hm ht => ?_) (fun h'' e tk' hq hm he ht => ?_)⟩
      · exact h1 v k' h'' tk' (hf.trans hq) X'' (fun a o ha q => hm a o ha (hs.extBut a o ha q)) (Nat.le_trans htk ht)
      · exact h2 h'' e tk' (hf.trans hq) (fun a o ha q => hm a o ha (hs.extBut a o ha q)) he (Nat.le_trans htk ht)
end
end Mine
end

section
open PySem PySem.W PyProof.Rows SeqAt
set_option Elab.async false
set_option maxRecDepth 100000
set_option maxHeartbeats 1000000
set_option linter.unusedVariables false
namespace Mine
open PySem.Builtin

section
variable {prog : Program} {w : World} {A : Around} {z b it l S : Addr} {f : Str → Bool} {c : Nat} {vs : List Value}

theorem flt_call {R : Result → Shared → Prop} {s : Shared} (hT : s.TypeIs (.ref z) "filter") (h : codeAny (model prog w) A (.builtin "filter.__next__" ⟨[.ref z], []⟩) R s) : codeAny (model prog w) A (.call (.builtin "filter.__next__") ⟨[.ref z], []⟩) R s := by
  refine codeAny_of_tree ?_
  show wpAny _ A.in1 (do checkBuiltinCall "filter.__next__" ⟨[.ref z], []⟩; again (.builtin "filter.__next__" ⟨[.ref z], []⟩)) _ _ s
  exact wpAny_bind (fl_next.check _ _ _ _ _ _ _ _ hT (fl_args_next _) (wpAny_pure ⟨plainId_quiet fl_next.plain _, h⟩))

theorem flt_walks (hh : A.handled = none) (hz : z ≠ it) (hb : b ≠ it) (hS : S ≠ it) (hl : l ≠ it) (hv : ∀ v ∈ vs, ∃ y t, v = .str y t) :
    WalksS prog w A z [z, b, S, l, it] [it] (fun a b => b = a) (vs.filter (txtOf f)).length (fun i v => (vs.filter (txtOf f))[i]? = some v)
      (fun i s => ∃ k, FltSt prog w s.heap z b it l S f c vs k ∧ (vs.drop k).filter (txtOf f) = (vs.filter (txtOf f)).drop i) where
  sub := fun a ha => by simp at ha; simp [ha]
  grefl := fun _ => rfl
  gtrans := fun _ _ _ h1 h2 => h2.trans h1
  frame := fun i s h' tk ⟨k, X, e⟩ _ hk => ⟨k, ⟨hk _ (by simp) _ X.z, hk _ (by simp) _ X.b, by obtain ⟨o, es, ep, t, ho, rest⟩ := X.S; exact ⟨o, es, ep, t, hk _ (by simp) _ ho, rest⟩, X.it.at fun o e => hk _ (by simp) _ e, X.l.at fun o e => hk _ (by simp) _ e⟩, e⟩
  item := fun i s Q E hi ⟨k, X, e⟩ hQ => by
    have hT : s.TypeIs (.ref z) "filter" := ⟨_, X.z, rfl⟩
    unfold pyNext
    refine wpAny_bind (wpAny_attempt (wpAny_callSpecial?_slot (name := Str.ofString "__next__") hT fl_next (wpAny_call (flt_call hT (flt_code hh hz hb hS hl hv _ k s rfl X (fun v k' h' tk hq X' hm ht => ?_) (fun h' e' tk hq hm he ht => ?_))))))
    · rw [e, List.drop_eq_getElem_cons hi] at hq
      simp only [List.cons.injEq] at hq
      refine wpAny_pure (hQ v _ (by rw [← hq.1]; simp [hi]) ⟨k', X', hq.2.symm⟩ ⟨fun a o ha q => hm a o (by simpa using ha) q, rfl, rfl, rfl, ht⟩)
    · rw [e, List.drop_eq_getElem_cons hi] at hq
      cases hq
  done := fun s Q E ⟨k, X, e⟩ hQ => by
    have hT : s.TypeIs (.ref z) "filter" := ⟨_, X.z, rfl⟩
    unfold pyNext
    refine wpAny_bind (wpAny_attempt (wpAny_callSpecial?_slot (name := Str.ofString "__next__") hT fl_next (wpAny_call (flt_call hT (flt_code hh hz hb hS hl hv _ k s rfl X (fun v k' h' tk hq X' hm ht => ?_) (fun h' e' tk hq hm he ht => ?_))))))
    · rw [e, List.drop_length] at hq
      cases hq
    · obtain ⟨o, ho, hc⟩ := he
      refine wpAny_bind (wpAny_isInstance (T := "StopIteration") (b := true) ⟨o, ho, hc⟩ isSubtype_stop ?_)
      exact wpAny_pure (hQ _ ⟨fun a o ha q => hm a o (by simpa using ha) q, rfl, rfl, rfl, ht⟩)
  self := fun i s Q E ⟨k, X, e⟩ hQ => by
    have hT : s.TypeIs (.ref z) "filter" := ⟨_, X.z, rfl⟩
    refine wpAny_pyIter_slot hT fl_iter (wpAny_call_entry fl_iter hT fl_entry_iter ?_ (fl_args_iter _))
    exact wpAny_pure ⟨_, rfl, "filter", _, hT, fl_next.lookup, hQ⟩
end
end Mine
end

section
open PySem PySem.W PyProof.Rows SeqAt
set_option Elab.async false
set_option maxRecDepth 100000
set_option maxHeartbeats 1000000
set_option linter.unusedVariables false
namespace Mine
open PySem.Builtin

section
variable {prog : Program} {w : World} {A : Around} {s : Shared} {R : Result → Shared → Prop} {E : Value → Shared → Prop}
variable {I : Addr} {fp wr : List Addr} {G : Array GenState → Array GenState → Prop} {n : Nat} {P : Nat → Value → Prop} {St : Nat → Shared → Prop}

abbrev lst (xs : Array Value) (c : Nat) : Obj := { cls := .type "list", dict := none, data := .seq xs c, slots := #[] }

theorem ext_flt (W : WalksS prog w A.in1 I fp wr G n P St) (hT : ∀ i s, St i s → s.TypeIs (.ref I) "filter") (D : Addr) (c₀ : Nat) (hst : St 0 s) (hDf : D ∉ fp) (hI : I ∈ fp) (hD : s.heap.get? D = some (lst #[] c₀))
    (hR : ∀ s' acc' c', Moved (D :: wr) G s s' → s'.heap.get? D = some (lst acc' c') → ItemsOf P acc' n → R (.ok (.ret .none)) s') (hn : n ≤ sizeLine) :
    wpAny (model prog w) A.in1 (Builtin.List.listExtendWith (.ref D) (.ref I) .none)
      (fun fin s' => match fin with | .done f => R (.ok f) s' | .again c' => c'.quiet = true ∧ codeAny (model prog w) A c' R s') (fun e s' => R (.error e) s') s := by
  have hDI : D ≠ I := fun e => hDf (e ▸ hI)
  unfold Builtin.List.listExtendWith
  refine wpAny_bind (wpAny_typeOf (hT 0 _ hst) ?_)
  rw [if_neg (by simp [Builtin.List.listSameRef, hDI])]
  refine wpAny_bind (W.self 0 _ _ _ hst (wpAny_bind (wpAny_holding ?_)))
  unfold Builtin.List.listLengthHint
  refine wpAny_bind (wpAny_specialOf (hT 0 _ hst) fl_no_len ?_)
  refine (show wpAny _ A.in1 (specialOf (Value.ref I) (Str.ofString "__length_hint__") >>= _) _ _ _ from ?_)
  refine wpAny_bind (wpAny_specialOf (hT 0 _ hst) fl_no_hint (wpAny_pure ?_))
  refine (show wpAny _ A.in1 (rule "list.extend.makes-room" >>= fun _ => Builtin.List.listTouch (.ref D) >>= fun _ => again (.builtin "list.extend.loop" ⟨[.ref D, .ref I, .none], []⟩)) _ _ _ from ?_)
  refine wpAny_bind (wpAny_rule (wpAny_bind ?_))
  refine (show wpAny _ A.in1 (updateSeq D (·.push .none) >>= fun _ => updateSeq D (·.pop)) _ _ _ from ?_)
  refine wpAny_bind (wpAny_updateSeq hD rfl ?_)
  have hD₂ := Heap.get?_update_self (Obj.mapSeq (·.push Value.none)) hD rfl
  refine wpAny_updateSeq (hz := by seq_fits) hD₂ rfl ?_
  have hD₃ := Heap.get?_update_self (Obj.mapSeq (·.pop)) hD₂ rfl
  have oth : ∀ b o, b ≠ D → s.heap.get? b = some o → ((s.heap.update D (Obj.mapSeq (·.push Value.none))).update D (Obj.mapSeq (·.pop))).get? b = some o :=
    fun b o hb e => (Heap.get?_update_other _ _ (Ne.symm hb)).trans ((Heap.get?_update_other _ _ (Ne.symm hb)).trans e)
  refine wpAny_pure ⟨plainId_quiet PySem.F.plain_extend_loop _, codeAny_extend_loopS W hn _ hDf _ n 0 _ _ _ rfl (Nat.zero_le _)
    (W.frame 0 s _ s.toks hst (Nat.le_refl _) fun b hb o e => oth b o (fun h => hDf (h ▸ hb)) e) hD₃ (ItemsOf.nil P) fun s' acc' c' hm hD' hacc => ?_⟩
  exact hR s' acc' c' (Moved.trans W.gtrans ((Moved.refl W.grefl).then_heap (Nat.le_refl _) fun b o hb e => oth b o (fun h => hb (h ▸ List.mem_cons_self)) e) hm) hD' hacc

theorem call_list_flt {Q : Value → Shared → Prop} (W : WalksS prog w A.in1.in1 I fp wr G n P St) (hT : ∀ i s, St i s → s.TypeIs (.ref I) "filter") (hst : St 0 s) (hfp : ∀ b ∈ fp, b < s.heap.objs.size) (hI : I ∈ fp) (hn : n ≤ sizeLine)
    (hQ : ∀ s' acc' c', Moved (s.heap.objs.size :: wr) G { s with heap := s.heap.push (lst #[] 0) } s' → s'.heap.get? s.heap.objs.size = some (lst acc' c') → ItemsOf P acc' n → Q (.ref s.heap.objs.size) s') :
    wpAny (model prog w) A (call (.type "list") [.ref I]) Q E s := by
  have hDf : s.heap.objs.size ∉ fp := fun hm => Nat.lt_irrefl _ (hfp _ hm)
  refine callType_codes (Q₁ := fun obj s₁ => obj = .ref s.heap.objs.size ∧ s₁ = { s with heap := s.heap.push (lst #[] 0) }) PySem.F.called_list (PySem.F.typeCall_list_1 _) PySem.F.entry_list_init (code_list_new _ ⟨rfl, rfl⟩) fun obj s₁ h₁ => ?_
  obtain ⟨rfl, rfl⟩ := h₁
  have hD : (s.heap.push (lst #[] 0)).get? s.heap.objs.size = some (lst #[] 0) := Heap.get?_push_size _ rfl
  refine ⟨⟨_, hD, rfl⟩, PySem.F.args_list_init_2 _ _, ?_⟩
  refine (show wpAny _ A.in1.in1 (do let old ← Builtin.List.listItems (.ref s.heap.objs.size); Builtin.List.listUpdate (.ref s.heap.objs.size) (fun _ => #[]); letGo old.toList.reverse; Builtin.List.listExtendWith (.ref s.heap.objs.size) (.ref I) .none) _ _ _ from ?_)
  refine wpAny_bind ?_
  unfold Builtin.List.listItems
  refine wpAny_bind (wpAny_seqItems hD rfl (wpAny_pure ?_))
  refine (show wpAny _ A.in1.in1 (updateSeq s.heap.objs.size (fun _ => #[]) >>= fun _ => letGo (#[] : Array Value).toList.reverse >>= fun _ => Builtin.List.listExtendWith (.ref s.heap.objs.size) (.ref I) .none) _ _ _ from ?_)
  refine wpAny_bind (wpAny_updateSeq hD rfl ?_)
  have hD₂ := Heap.get?_update_self (Obj.mapSeq (fun _ => (#[] : Array Value))) hD rfl
  have oth : ∀ b o, b ≠ s.heap.objs.size → (s.heap.push (lst #[] 0)).get? b = some o → ((s.heap.push (lst #[] 0)).update s.heap.objs.size (Obj.mapSeq (fun _ => (#[] : Array Value)))).get? b = some o :=
    fun b o hb e => (Heap.get?_update_other _ _ (Ne.symm hb)).trans e
  refine wpAny_bind (wpAny_letGo ?_)
  have hst' := W.frame 0 s ((s.heap.push (lst #[] 0)).update s.heap.objs.size (Obj.mapSeq (fun _ => (#[] : Array Value)))) s.toks hst (Nat.le_refl _) fun b hb o e => oth b o (fun h => hDf (h ▸ hb)) (Heap.get?_push_of_some _ e)
  refine ext_flt (s := { s with heap := (s.heap.push (lst #[] 0)).update s.heap.objs.size (Obj.mapSeq (fun _ => (#[] : Array Value))) }) W hT s.heap.objs.size _ hst' hDf hI hD₂ (fun s' acc' c' hm hD' hacc => ?_) hn
  exact ⟨rfl, hQ s' acc' c' (Moved.trans W.gtrans (s' := { s with heap := (s.heap.push (lst #[] 0)).update s.heap.objs.size (Obj.mapSeq (fun _ => (#[] : Array Value))) }) ((Moved.refl W.grefl).then_heap (Nat.le_refl _) fun b o hb e => oth b o (fun h => hb (h ▸ List.mem_cons_self)) e) hm) hD' hacc⟩
end
end Mine
end

section
open PySem PySem.W PyProof.Rows SeqAt
set_option Elab.async false
set_option maxRecDepth 100000
set_option maxHeartbeats 1000000
set_option linter.unusedVariables false
namespace Mine
open PySem.Builtin

abbrev itObj (l : Addr) : Obj := { cls := .type "list_iterator", data := .fields #[.ref l, .int 0 0] }
abbrev fltH1 (h : Heap) (l : Addr) : Heap := h.push (itObj l)
abbrev fltH2 (h : Heap) (b l : Addr) : Heap := (fltH1 h l).push (fltObj b h.objs.size)

theorem meets_filter_new (b l : Addr) (xs : Array Value) :
    Meets (Builtin.«filter.__new__» ⟨[.type "filter", .ref b, .ref l], []⟩) (fun _ R s => s.heap.IsList l xs ∧ R (.ok (.ret (.ref (fltH1 s.heap l).objs.size))) { s with heap := fltH2 s.heap b l }) :=
  .of_wp fun prog w A R s h => by
    obtain ⟨hp, g, d, tk, os⟩ := s; obtain ⟨hl, h⟩ := h
    have hsub := fl_sub
    have hL1 : Heap.IsList (Shared.heap ⟨hp, g, d, tk, os⟩) l xs := hl
    wp_walk using wpAny_pyIter_list hL1
    exact ⟨_, rfl, h⟩

section
variable {prog : Program} {w : World} {A : Around} {E : Value → Shared → Prop} {s : Shared}
theorem fl_args_init (obj a b : Value) : argsOk "object.__init__" ⟨[obj, a, b], []⟩ := PySem.F.args_object_init_3 _ _ _
theorem call_filter {b l : Addr} {xs : Array Value} {Q : Value → Shared → Prop} (hl : s.heap.IsList l xs)
    (h : Q (.ref (fltH1 s.heap l).objs.size) { s with heap := fltH2 s.heap b l }) : wpAny (model prog w) A (call (.type "filter") [.ref b, .ref l]) Q E s := by
  refine callType_new fl_called (by decide) (fl_typeCall _ _) (fl_newCall _ _) (fun obj => fl_args_init obj _ _) fl_entry_new (meets_filter_new b l xs) ⟨hl, ?_⟩
  exact ⟨⟨_, Heap.get?_push_size _ rfl, rfl⟩, h⟩
end
end Mine
end

section
open PySem PySem.W PyProof.Rows SeqAt
set_option Elab.async false
set_option maxRecDepth 100000
set_option maxHeartbeats 1000000
set_option linter.unusedVariables false
namespace Mine

section
variable {c : Cx} {s : Shared} {Q : Value → Shared → Prop} {E : Value → Shared → Prop}

theorem call1 {e : Expr} {pos : Pos} {f : Value} (hk : KeepOk c f) (hs : starEach [e] c.env = [(false, eval e c.env)])
    (h : wpAny c.M c.A (eval e c.env) (fun v s1 => Over c.h₀ s1 ∧ wpAny c.M c.A (call f [v]) Q E s1) E s) : wpAny c.M c.A (PySem.callWith pos f [] (backTo pos (starEach [e] c.env)) []) Q E s := by
  refine callWith_of (P := fun h => ∀ b o, c.h₀.get? b = some o → h.get? b = some o) (by rw [hs]; rfl) hk ?_
  rw [hs]
  refine Calls.evalArgs_plain (Calls.spliced_cons (wpAny_mono h (fun v s1 h1 => Calls.spliced_nil h1) fun _ _ e => e))
theorem call2 {e1 e2 : Expr} {pos : Pos} {f : Value} (hk : KeepOk c f) (hs : starEach [e1, e2] c.env = [(false, eval e1 c.env), (false, eval e2 c.env)])
    (h : wpAny c.M c.A (eval e1 c.env) (fun v s1 => wpAny c.M c.A (eval e2 c.env) (fun u s2 => Over c.h₀ s2 ∧ wpAny c.M c.A (call f [v, u]) Q E s2) E s1) E s) : wpAny c.M c.A (PySem.callWith pos f [] (backTo pos (starEach [e1, e2] c.env)) []) Q E s := by
  refine callWith_of (P := fun h => ∀ b o, c.h₀.get? b = some o → h.get? b = some o) (by rw [hs]; rfl) hk ?_
  rw [hs]
  refine Calls.evalArgs_plain (Calls.spliced_cons (wpAny_mono h (fun v s1 h1 => Calls.spliced_cons (wpAny_mono h1 (fun u s2 h2 => Calls.spliced_nil h2) fun _ _ e => e)) fun _ _ e => e))

theorem Reps.filter {X : List Addr} {h : Heap} {f : Str → Bool} {p : List Nat → Bool} (hp : ∀ y, f (T y) = p y) : ∀ {vs : List Value} {ys : List (List Nat)}, Reps X h vs (ys.map S) → Reps X h (vs.filter (txtOf f)) ((ys.filter p).map S)
  | _, [], r => by cases r; exact .nil
  | _, y :: ys, r => by
    cases r with
    | cons hv hs =>
    cases hv with
    | str _ t =>
    have ih := Reps.filter hp hs
    cases hy : p y with
    | true =>
      rw [List.filter_cons_of_pos (by show f (T y) = true; rw [hp, hy]), List.filter_cons_of_pos (by exact hy)]
      exact .cons (.str _ _) ih
    | false =>
      rw [List.filter_cons_of_neg (by show ¬ (f (T y) = true); rw [hp, hy]; exact Bool.false_ne_true), List.filter_cons_of_neg (by rw [hy]; exact Bool.false_ne_true)]
      exact ih
theorem Reps.allStr {X : List Addr} {h : Heap} : ∀ {vs : List Value} {ys : List (List Nat)}, Reps X h vs (ys.map S) → ∀ v ∈ vs, ∃ y t, v = .str y t
  | _, [], r => by cases r; intro v hv; cases hv
  | _, y :: ys, r => by
    cases r with
    | cons hv hs =>
    cases hv with
    | str _ t =>
    intro v hv
    rcases List.mem_cons.mp hv with rfl | hv
    · exact ⟨_, _, rfl⟩
    · exact Reps.allStr hs v hv
theorem itemsOf_eq {vs : List Value} {acc : Array Value} (h : ItemsOf (fun i v => vs[i]? = some v) acc vs.length) : acc = vs.toArray := by
  obtain ⟨h1, h2⟩ := h
  apply Array.ext
  · simpa using h1
  · intro i hi hi2
    have : vs[i]? = some acc[i] := h2 i acc[i] (by simp [hi])
    simp only [List.size_toArray] at hi2
    rw [List.getElem?_eq_getElem hi2] at this
    simpa using (Option.some.inj this).symm

/-- list(filter(set(one).__contains__, other)) -/
theorem Ev.filterSet {fl ff fs e2 e1 : Expr} {p1 p2 p3 p4 : Pos} {ys1 ys2 : List (List Nat)} (hl : Ev c fl (.val (.type "list"))) (hf : Ev c ff (.val (.type "filter"))) (hs : Ev c fs (.val (.type "set"))) (h2 : Ev c e2 (.list (ys2.map S))) (h1 : Ev c e1 (.list (ys1.map S)))
    (hz1 : ys1.length ≤ 100000) (hz2 : ys2.length ≤ 4000)
    (x1 : eval (.Call fl [.Call ff [.Attribute (.Call fs [e2] [] p3) "__contains__" p4, e1] [] p2] [] p1) c.env = (do callWith p1 (← eval fl c.env) [] (backTo p1 (starEach [.Call ff [.Attribute (.Call fs [e2] [] p3) "__contains__" p4, e1] [] p2] c.env)) (backToKw p1 (keywordEach [] c.env))) := by rfl)
    (x2 : eval (.Call ff [.Attribute (.Call fs [e2] [] p3) "__contains__" p4, e1] [] p2) c.env = (do callWith p2 (← eval ff c.env) [] (backTo p2 (starEach [.Attribute (.Call fs [e2] [] p3) "__contains__" p4, e1] c.env)) (backToKw p2 (keywordEach [] c.env))) := by rfl)
    (x3 : eval (.Call fs [e2] [] p3) c.env = (do callWith p3 (← eval fs c.env) [] (backTo p3 (starEach [e2] c.env)) (backToKw p3 (keywordEach [] c.env))) := by rfl)
    (s1 : starEach [.Call ff [.Attribute (.Call fs [e2] [] p3) "__contains__" p4, e1] [] p2] c.env = [(false, eval (.Call ff [.Attribute (.Call fs [e2] [] p3) "__contains__" p4, e1] [] p2) c.env)] := by rfl)
    (s2 : starEach [.Attribute (.Call fs [e2] [] p3) "__contains__" p4, e1] c.env = [(false, eval (.Attribute (.Call fs [e2] [] p3) "__contains__" p4) c.env), (false, eval e1 c.env)] := by rfl)
    (s3 : starEach [e2] c.env = [(false, eval e2 c.env)] := by rfl)
    (x4 : attributeBase (.Call fs [e2] [] p3) "__contains__" c.env (eval (.Call fs [e2] [] p3) c.env) = eval (.Call fs [e2] [] p3) c.env := by rfl) :
    Ev c (.Call fl [.Call ff [.Attribute (.Call fs [e2] [] p3) "__contains__" p4, e1] [] p2] [] p1) (.list ((ys1.filter fun y => ys2.contains y).map S)) := fun s ok E => by
  refine Call_ (wpAny_mono (hl s ok E) (fun v t1 ⟨q, k1⟩ => ?_) fun _ _ e => e) x1
  cases q
  refine call1 (.type) s1 ?_
  refine Call_ (wpAny_mono (hf t1 (ok.keeps k1) E) (fun v t2 ⟨q, k2⟩ => ?_) fun _ _ e => e) x2
  cases q
  refine call2 (.type) s2 ?_
  rw [arm_eval_Attribute, x4]
  refine wpAny_bind (Call_ (wpAny_mono (hs t2 ((ok.keeps k1).keeps k2) E) (fun v t3 ⟨q, k3⟩ => ?_) fun _ _ e => e) x3)
  cases q
  have ok3 := ((ok.keeps k1).keeps k2).keeps k3
  refine call1 (.type) s3 (wpAny_mono (h2 t3 ok3 E) (fun v t4 ⟨r, k4⟩ => ?_) fun _ _ e => e)
  have ok4 := ok3.keeps k4
  refine ⟨ok4.over, ?_⟩
  cases r with
  | @list l2 its2 _ hx2 hp2 hr2 hpl2 =>
  have hst := hr2.strs
  have hh : c.A.handled = none := ok.room.handled
  refine call_set_strs hh hp2 (ys := ys2.map T) (by simpa using hst) (by rw [List.length_map]; unfold scanBound; omega) (fun SA h' tk f cc hS0 hSof hfy hup => ?_)
  have k5 : Kp t4 { t4 with heap := h', toks := tk } := Kp.mk' hup
  have ok5 := ok4.keeps k5
  refine wpAny_bind (wpAny_standAt (wpAny_bind (wpAny_holding ?_)))
  obtain ⟨o, es, ep, tb, hSg, hSex, hSd, hSrest⟩ := id hSof
  obtain ⟨oc, od, oda, osl⟩ := o
  obtain ⟨hc1, hc2, hc3⟩ := hSex
  simp only at hc1 hc2 hc3 hSd
  subst hc1; subst hc2; subst hc3; subst hSd
  refine set_bound (h := h') hSg (fun t' => ?_)
  refine wpAny_bind (wpAny_letTemporaryGo (wpAny_pure ?_))
  have hb0 : h'.get? h'.objs.size = none := get_none_size _
  have hbo : (h'.push (boundC SA)).get? h'.objs.size = some (boundC SA) := Heap.get?_push_size _ rfl
  have k6 : Kp { t4 with heap := h', toks := tk } { t4 with heap := h'.push (boundC SA), toks := t' } := Kp.mk' (s := { t4 with heap := h', toks := tk }) fun b o e => Heap.get?_push_of_some _ e
  generalize h'.objs.size = bA at hb0 hbo ⊢
  have ok6 := ok5.keeps k6
  refine wpAny_mono (h1 _ ok6 E) (fun v t7 ⟨r, k7⟩ => ?_) fun _ _ e => e
  have ok7 := ok6.keeps k7
  refine ⟨ok7.over, ?_⟩
  cases r with
  | @list l1 its1 _ hx1 hp1 hr1 hpl1 =>
  refine call_filter hp1 ?_
  refine ⟨fun b o e => Heap.get?_push_of_some _ (Heap.get?_push_of_some _ (ok7.over b o e)), ?_⟩
  have e1 : (fltH1 t7.heap l1).objs.size = t7.heap.objs.size + 1 := Heap.size_push ..
  have gz : (fltH2 t7.heap bA l1).get? (fltH1 t7.heap l1).objs.size = some (fltObj bA t7.heap.objs.size) := Heap.get?_push_size _ rfl
  have gi : (fltH2 t7.heap bA l1).get? t7.heap.objs.size = some (itObj l1) := Heap.get?_push_of_some _ (Heap.get?_push_size _ rfl)
  have up7 : ∀ b o, t7.heap.get? b = some o → (fltH2 t7.heap bA l1).get? b = some o := fun b o e => Heap.get?_push_of_some _ (Heap.get?_push_of_some _ e)
  have hi0 : t7.heap.get? t7.heap.objs.size = none := get_none_size _
  have gb7 : t7.heap.get? bA = some (boundC SA) := k7.get _ _ hbo
  have gS7 := (k6.tr k7).get SA _ hSg
  have hzI : (fltH1 t7.heap l1).objs.size ≠ t7.heap.objs.size := by rw [e1]; exact Nat.succ_ne_self _
  generalize (fltH1 t7.heap l1).objs.size = z at gz hzI ⊢
  generalize t7.heap.objs.size = it at gz gi hi0 hzI
  have ne : ∀ {a : Addr} {o : Obj}, t7.heap.get? a = some o → a ≠ it := fun e q => by rw [q, hi0] at e; cases e
  have hl1 : ∃ o, t7.heap.get? l1 = some o := by obtain ⟨n, e⟩ := hpl1; exact ⟨_, e⟩
  obtain ⟨ol1, hl1⟩ := hl1
  have X0 : FltSt c.prog c.w (fltH2 t7.heap bA l1) z bA it l1 SA f cc its1 0 :=
    ⟨gz, up7 _ _ gb7, ⟨_, es, ep, tb, up7 _ _ gS7, ⟨rfl, rfl, rfl⟩, rfl, hSrest⟩, ⟨_, gi, rfl, rfl⟩, hp1.at fun o e => up7 _ _ e⟩
  have W := flt_walks (prog := c.prog) (w := c.w) (A := c.A.in1.in1) (z := z) (b := bA) (it := it) (l := l1) (S := SA) (f := f) (c := cc) (vs := its1) hh hzI (ne gb7) (ne gS7) (ne hl1) hr1.allStr
  refine call_list_flt (s := { t7 with heap := fltH2 t7.heap bA l1 }) W (fun i s ⟨k, X, _⟩ => ⟨_, X.z, rfl⟩) ⟨0, X0, by simp⟩ ?_ (by simp) ?_ (fun s' acc' c' hm hD hacc => ?_)
  · intro b hb
    simp only [List.mem_cons, List.not_mem_nil, or_false] at hb
    rcases hb with rfl | rfl | rfl | rfl | rfl
    · exact Heap.lt_size gz
    · exact Heap.lt_size (up7 _ _ gb7)
    · exact Heap.lt_size (up7 _ _ gS7)
    · exact Heap.lt_size (up7 _ _ hl1)
    · exact Heap.lt_size gi
  · have := List.length_filter_le (txtOf f) its1
    have := hr1.length
    rw [sizeLine_eq]
    simp only [List.length_map] at this
    omega
  · have hacc2 := itemsOf_eq hacc
    subst hacc2
    have hD0 : (fltH2 t7.heap bA l1).get? (fltH2 t7.heap bA l1).objs.size = none := get_none_size _
    have kfin : Kp t7 s' := by
      obtain ⟨h9, g9, d9, tk9, os9⟩ := s'
      have eg := hm.gens
      have ed := hm.drawn
      have eo := hm.os
      simp only at eg ed eo
      subst eg; subst ed; subst eo
      refine Kp.mk' (s := t7) fun b o e => hm.heap b o ?_ (Heap.get?_push_of_some _ (up7 _ _ e))
      simp only [List.mem_cons, List.not_mem_nil, or_false, not_or]
      exact ⟨fun q => (by rw [← q, up7 _ _ e] at hD0; cases hD0), ne e⟩
    have kall : Kp s s' := ((((((k1.tr k2).tr k3).tr k4).tr k5).tr k6).tr k7).tr kfin
    refine ⟨.list ?_ ⟨_, hD, rfl, c', rfl⟩ ((Reps.filter (fun y => ?_) hr1).keeps kfin) ⟨c', hD⟩, kall⟩
    · refine ok.fresh ?_
      cases e : s.heap.get? (fltH2 t7.heap bA l1).objs.size with
      | none => rfl
      | some o =>
        have := up7 _ _ (((((((k1.tr k2).tr k3).tr k4).tr k5).tr k6).tr k7).get _ _ e)
        rw [hD0] at this; cases this
    · rw [hfy]
      rw [Bool.eq_iff_iff]
      simp [T_inj]
end
end Mine
end

section
open PySem PySem.W PyProof.Rows SeqAt
set_option Elab.async false
set_option maxRecDepth 100000
set_option maxHeartbeats 1000000
set_option linter.unusedVariables false
namespace Mine

theorem Ev.toP {c : Cx} {e : Expr} {d : D} (h : Ev c e d) {s : Shared} (o : c.ok s) : EvP c e (fun v s' => Rep c.X s'.heap v d) s := fun E => h s o E

theorem merge_fn {w : World} {h₀ : Heap} {mg mb : Str → Option Value} (B : Base w h₀ mg mb) (a1 a2 : List (List Nat)) (r1 r2 : List D) (hz1 : a1.length ≤ 100000) (hz2 : a2.length ≤ 4000) (hz3 : r1.length + r2.length ≤ 100000) :
    Fn PR w h₀ 4 (.ref 87) [.entry (a1.map S) r1, .entry (a2.map S) r2] (.entry ((a1.filter fun y => a2.contains y).map S) (r1 ++ r2)) := by
  refine Fn.ofK B 87 3 ["e1", "e2"] rfl rfl (by kernel_rfl!) rfl (fun vs h => ?_) rfl rfl rfl rfl (by kernel_rfl!) ?_
  · match vs, h with
    | [a, b], _ => kernel_rfl!
  intro A' X L s₁ F E'
  refine ex_newEntry B F (by decide) .local rfl ?_
  intro x dx u r m s2 gx gd gu gr hur F2 I pu pr m2
  have nf : ∀ {b}, s₁.heap.get? b = none → b ∉ fo (envK w.params 87 L) := fun {b} e q => by have := F.foLive b q; rw [e] at this; cases this
  have hd0 := h0none F.ok.over gd
  have hdX : dx ∈ [x, dx, u, r] ++ (fo (envK w.params 87 L) ++ X) := by simp
  have hxd : x ≠ dx := fun q => by
    have := I.obj
    obtain ⟨o, es, ep, e, e2, _⟩ := I.dict
    rw [q, e] at this; cases this; cases e2
  refine ex_attr F2 B.K I.obj I.dict (by decide) (by rfl) (by rfl) (by rfl) (by rfl) hdX (nf gd) hd0 (Ev.toP (Ev.filterSet (Ev.name rfl) (Ev.name rfl) (Ev.name rfl) (Ev.attr rfl B (Ev.name rfl) (.inl ⟨rfl, rfl⟩)) (Ev.attr rfl B (Ev.name rfl) (.inl ⟨rfl, rfl⟩)) hz1 hz2) F2.ok) (Ev.name rfl) ?_
  intro v1 t1 s3 q1 k1 F3 hd3 m3
  have hx3 : s3.heap.get? x = some (instObj 76 dx) := m3.get _ _ (by simpa using hxd) (k1.get _ _ I.obj)
  refine ex_attr F3 B.K hx3 hd3 (by decide) (by rfl) (by rfl) (by rfl) (by rfl) hdX (nf gd) hd0 (Ev.toP (Ev.binop (Ev.attr rfl B (Ev.name rfl) (.inr (.inl ⟨rfl, rfl⟩))) (Ev.attr rfl B (Ev.name rfl) (.inr (.inl ⟨rfl, rfl⟩))) (Op2.addL ?_)) F3.ok) (Ev.name rfl) ?_
  · omega
  intro v2 t2 s4 q2 k2 F4 hd4 m4
  have hx4 : s4.heap.get? x = some (instObj 76 dx) := m4.get _ _ (by simpa using hxd) (k2.get _ _ hx3)
  refine ex_attr F4 B.K hx4 hd4 (by decide) (by rfl) (by rfl) (by rfl) (by rfl) hdX (nf gd) hd0 (Ev.toP (Ev.ite (d1 := .none) (d2 := .none) (EvT.cmp (Ev.attr rfl B (Ev.name rfl) (.inr (.inr ⟨.inl rfl, rfl⟩))) Ev.cnone Op2.isNone) (fun _ => Ev.attr rfl B (Ev.name rfl) (.inr (.inr ⟨.inl rfl, rfl⟩))) (fun h => nomatch h)) F4.ok) (Ev.name rfl) ?_
  intro v3 t3 s5 q3 k3 F5 hd5 m5
  rw [if_pos rfl] at q3
  cases q3
  have hx5 : s5.heap.get? x = some (instObj 76 dx) := m5.get _ _ (by simpa using hxd) (k3.get _ _ hx4)
  refine ex_attr F5 B.K hx5 hd5 (by decide) (by rfl) (by rfl) (by rfl) (by rfl) hdX (nf gd) hd0 (Ev.toP (Ev.ite (d1 := .none) (d2 := .none) (EvT.cmp (Ev.attr rfl B (Ev.name rfl) (.inr (.inr ⟨.inr rfl, rfl⟩))) Ev.cnone Op2.isNone) (fun _ => Ev.attr rfl B (Ev.name rfl) (.inr (.inr ⟨.inr rfl, rfl⟩))) (fun h => nomatch h)) F5.ok) (Ev.name rfl) ?_
  intro v4 t4 s6 q4 k4 F6 hd6 m6
  rw [if_pos rfl] at q4
  cases q4
  have hx6 : s6.heap.get? x = some (instObj 76 dx) := m6.get _ _ (by simpa using hxd) (k4.get _ _ hx5)
  refine ex_ret F6 (Ev.name rfl) fun v s7 q k => ?_
  cases q
  have V1 : Mv [dx] t1 s7 := ((((m3.tr (k2.mv _)).tr m4).tr ((k3.mv _).tr m5)).tr ((k4.mv _).tr m6)).tr (k.mv _)
  have V2 : Mv [dx] t2 s7 := ((m4.tr ((k3.mv _).tr m5)).tr ((k4.mv _).tr m6)).tr (k.mv _)
  have up : ∀ b ∈ X, b ∈ [x, dx, u, r] ++ (fo (envK w.params 87 L) ++ X) := fun b hb => List.mem_append_right _ (List.mem_append_right _ hb)
  have nX : ∀ {b}, s₁.heap.get? b = none → b ∉ X := fun e q => F.ok.fresh e (List.mem_append_right _ q)
  have upk : ∀ {t : Shared}, Mv [dx] t s7 → ∀ b o, b ∉ [x, dx, u, r] ++ (fo (envK w.params 87 L) ++ X) → t.heap.get? b = some o → s7.heap.get? b = some o := fun V b o hb e => V.get _ _ (fun q => hb (by rw [List.mem_singleton.mp q]; exact hdX)) e
  cases q1 with
  | @list u1 its1 _ hu1x hu1p hu1r hu1pl =>
  cases q2 with
  | @list u2 its2 _ hu2x hu2p hu2r hu2pl =>
  refine ⟨_, x :: dx :: u :: r :: fo (envK w.params 87 L), rfl, ?_, ?_, ?_⟩
  · refine .entry (nX gx) (nX gd) (fun q => hu1x (up _ q)) (fun q => hu2x (up _ q)) (k.get _ _ hx6) (hd6.ns.keeps k.get) ?_ ?_ ?_ ?_ ?_ (hu1pl.at fun o e => upk V1 _ _ hu1x e) (hu2pl.at fun o e => upk V2 _ _ hu2x e)
      ((hu1r.up (upk V1)).avoid fun b hb => .inl (up b hb)) ((hu2r.up (upk V2)).avoid fun b hb => .inl (up b hb))
    · rw [if_neg (by decide), if_neg (by decide), if_neg (by decide), if_pos rfl]
    · rw [if_neg (by decide), if_neg (by decide), if_pos rfl]
    · rw [if_neg (by decide), if_pos rfl]
    · rw [if_pos rfl]
    · rw [if_neg (by decide), if_neg (by decide), if_neg (by decide), if_neg (by decide)]; exact I.l5
  · refine (m2.mono fun b hb => by simp [hb]).tr (((k1.mv _).tr ?_))
    exact V1.mono (by simp)
  · intro b hb
    simp only [List.mem_cons] at hb
    rcases hb with rfl | rfl | rfl | rfl | hb
    · exact .inr gx
    · exact .inr gd
    · exact .inr gu
    · exact .inr gr
    · exact .inl (by simpa using hb)
end Mine
end

section
open PySem PySem.W PyProof.Rows SeqAt
set_option Elab.async false
set_option maxRecDepth 100000
set_option maxHeartbeats 1000000
set_option linter.unusedVariables false
namespace Mine

theorem Frm.unset2 {c : Cx} {s : Shared} {x : Str} {k : NameKind} {d d' : D} (F : Frm ((c.set x k d).set x k d') s) (h : c.ρ x = none) : Frm c s :=
  Frm.less (c := (c.set x k d).set x k d') (ρ := c.ρ) F fun y k' d'' e => by
    show (if y = x then _ else if y = x then _ else c.ρ y) = _
    by_cases hy : y = x
    · subst hy; rw [h] at e; cases e
    · rw [if_neg hy, if_neg hy]; exact e

theorem appliesNone_fn {w : World} {h₀ : Heap} {mg mb : Str → Option Value} (B : Base w h₀ mg mb) (ags : List (List Nat)) (rl : List D) :
    Fn PR w h₀ 2 (.ref 66) [.entry (ags.map S) rl, .none] (.bool (ags.contains [42])) := by
  refine Fn.ofK B 66 1 ["self", "useragent"] rfl rfl (by kernel_rfl!) rfl (fun vs h => ?_) rfl rfl rfl rfl (by kernel_rfl!) ?_
  · match vs, h with
    | [a, b], _ => kernel_rfl!
  intro A' X L s₁ F E'
  refine ex_if F true (EvT.cmp (Ev.name rfl) Ev.cnone Op2.isNone) ?_
  intro s2 F2 k2
  refine ex_ret F2 (Ev.cmp (Ev.cstr [42]) (Ev.attr rfl B (Ev.name rfl) (.inl ⟨rfl, rfl⟩)) Op2.inLS) fun v s3 r k => ?_
  exact ⟨v, fo (callEnvC _ L 66), rfl, r.avoid fun b hb => .inl (List.mem_append_right _ hb), (k2.tr k).mv _, fun b hb => .inl hb⟩

def hits (t : List Nat) (a : List Nat) : Bool := !(a == [42]) && occ (a.map lo1) ((headOf t).map lo1)

theorem applies_fn {w : World} {h₀ : Heap} {mg mb : Str → Option Value} (B : Base w h₀ mg mb) (ags : List (List Nat)) (rl : List D) (t : List Nat) (ht : ∀ c ∈ t, c < 128) (hz : t.length ≤ 1000000)
    (ha : ∀ a ∈ ags, (∀ c ∈ a, c < 128) ∧ a.length ≤ 100000) : Fn PR w h₀ 2 (.ref 66) [.entry (ags.map S) rl, S t] (.bool (ags.any (hits t))) := by
  refine Fn.ofK B 66 1 ["self", "useragent"] rfl rfl (by kernel_rfl!) rfl (fun vs h => ?_) rfl rfl rfl rfl (by kernel_rfl!) ?_
  · match vs, h with
    | [a, b], _ => kernel_rfl!
  intro A' X L s₁ F E'
  have hsub : ∀ c ∈ headOf t, c ∈ t := fun c hc => (List.takeWhile_prefix _).subset hc
  have hlen : (headOf t).length ≤ t.length := (List.takeWhile_prefix _).length_le
  refine ex_if_no F (EvT.cmp (Ev.name rfl) Ev.cnone Op2.isNoneS) ?_
  intro s2 F2 k2
  refine ex_assign F2 .local (Ev.lower (Ev.itemL (Ev.split (Ev.name rfl) (.cons (Ev.cstr [47]) .nil) (by decide) (by omega)) Ev.cint (by decide) (by decide) (split_head47 t)) (fun c hc => ht c (hsub c hc)) (by omega)) ?_
  intro s3 F3 m3
  refine ex_for F3 .local (fo (envK w.params 66 L)) (fun _ => _) (fun _ i _ => ∀ a ∈ ags.take i, hits t a = false) (EvIt.list (Ev.attr rfl B (Ev.name rfl) (.inl ⟨rfl, rfl⟩))) (fun b hb => F3.sub b hb) (fun b hb => hb) (fun _ _ _ h => h) ?_ ?_ ?_ ?_
  · intro _ _ _ _ _ a ha; simp at ha
  · intro _ _ _ _ _ h _; exact h
  · intro wr i d s4 hwr hd F4 hJ M4 E4
    rw [List.getElem?_map] at hd
    obtain ⟨a, hai, rfl⟩ := Option.map_eq_some_iff.mp hd
    have ham := List.mem_of_getElem? hai
    have hstep : hits t a = false → ∀ b ∈ ags.take (i + 1), hits t b = false := fun h b hb => by
      rw [List.take_add_one, hai, Option.toList_some] at hb
      rcases List.mem_append.mp hb with hb | hb
      · exact hJ b hb
      · rw [List.mem_singleton.mp hb]; exact h
    refine ex_if F4 (!(a == [42])) ((EvT.cmp (Ev.name rfl) (Ev.cstr [42]) Op2.neS).as ?_) ?_
    · first | rfl | simp
    intro s5 F5 k5
    cases hq : (a == [42]) with
    | true =>
      refine wpAny_execs_nil (wpAny_execs_nil ⟨F5.unset rfl, hstep (by unfold hits; rw [hq]; rfl), k5.mv _⟩)
    | false =>
      refine ex_assign F5 .local (Ev.lower (Ev.name rfl) (ha a ham).1 (by have := (ha a ham).2; omega)) ?_
      intro s6 F6 m6
      refine ex_if F6 _ (EvT.cmp (Ev.name rfl) (Ev.name rfl) Op2.inS) ?_
      intro s7 F7 k7
      cases hoc : occ (a.map lo1) ((headOf t).map lo1) with
      | true =>
        refine ex_ret F7 Ev.cbool fun v s8 r k => ?_
        have hany : ags.any (hits t) = true := List.any_eq_true.mpr ⟨a, ham, by unfold hits; rw [hq, hoc]; rfl⟩
        cases r
        refine ⟨_, fo (callEnvC _ L 66), rfl, ?_, ?_, fun b hb => .inl hb⟩
        · rw [hany]; exact .bool true
        · exact ((k2.mv _).tr m3).tr (M4.tr (((k5.mv _).tr m6).tr ((k7.tr k).mv _)))
      | false =>
        refine wpAny_execs_nil (wpAny_execs_nil (wpAny_execs_nil ⟨?_, hstep (by unfold hits; rw [hoc, Bool.and_false]), ((k5.mv _).tr m6).tr (k7.mv _)⟩))
        exact F7.unset2 rfl
  · intro wr s4 hwr F4 hJ M4
    refine ex_ret F4 Ev.cbool fun v s5 r k => ?_
    cases r
    have hany : ags.any (hits t) = false := by
      rw [List.any_eq_false]
      intro a ha
      rw [hJ a (by rw [List.length_map, List.take_length]; exact ha)]
      exact Bool.false_ne_true
    refine ⟨_, fo (callEnvC _ L 66), rfl, ?_, ((k2.mv _).tr m3).tr (M4.tr (k.mv _)), fun b hb => .inl hb⟩
    rw [hany]; exact .bool false
end Mine
end

section
open PySem PySem.W PyProof.Rows SeqAt
set_option Elab.async false
set_option maxRecDepth 100000
set_option maxHeartbeats 1000000
set_option linter.unusedVariables false
namespace Mine

section
variable {w : World} {h₀ : Heap} {mg mb : Str → Option Value} {A : Around} {n : Nat} {X : List Addr} {env : Env} {ρ : Rho}

theorem keepApplies (B : Base w h₀ mg mb) : KeepOk ⟨PR, w, A, n, h₀, X, env, ρ⟩ (.ref 66) := .func (B.K 66 _ rfl) rfl

theorem Ev.applies {pl : Sem Bool} (B : Base w h₀ mg mb) {o : Str} {np apos pos : Pos} {args : List Expr} {ua rl ds : List D} {d : D} {k : Nat} (ho : Ev ⟨PR, w, A, n, h₀, X, env, ρ⟩ (.Name o np) (.entry ua rl)) (ha : EvL ⟨PR, w, A, n, h₀, X, env, ρ⟩ args ds)
    (hF : Fn PR w h₀ k (.ref 66) (.entry ua rl :: ds) d) (hn : k ≤ n)
    (he : eval (.Call (.Attribute (.Name o np) "applies_to" apos) args [] pos) env = (do
      let ov ← eval (.Name o np) env
      standAt apos.atName
      let (f, first) ← holding [ov] (getMethod ov "applies_to" pl)
      callWith pos f first (backTo pos (starEach args env)) []) := by rfl) : Ev ⟨PR, w, A, n, h₀, X, env, ρ⟩ (.Call (.Attribute (.Name o np) "applies_to" apos) args [] pos) d := fun s ok E =>
  MethodCall_ (wpAny_mono (ho s ok E) (fun v s1 ⟨r, k1⟩ => by
    have ok1 := ok.keeps k1
    have K : (KK w.params).In s1.heap := fun a o e => ok1.over _ _ (B.K a o e)
    have r' := r
    cases r with
    | @entry x dx m u r us rs _ _ hx hdx hux hrx hob hd l1 l2 l3 l4 l5 hu hr ru rr =>
    obtain ⟨od, es, ep, hod, hdd, hks, hms⟩ := hd
    have I : InstAt s1.heap x (instObj 76 dx) 76 (some od) := ⟨hob, rfl, rfl, hod⟩
    have sh : shadowIn (some od) "applies_to" = some false := by
      unfold shadowIn
      dsimp only
      rw [lookIn_ns hdd hks, hms, l5]; rfl
    refine method_fn (C := 76) K I (by rfl) (by rfl) (f := 66) (by rfl) (by rfl) sh ?_
    exact wpAny_mono (ha.callWith (c := ⟨PR, w, A, n, h₀, X, env, ρ⟩) (first := [.ref x]) (d := d) (keepApplies B) ok1 (fun s2 vs k2 o2 r2 E' => hF A X s2 (.ref x :: vs) (o2.room.mono hn) o2.over o2.live (.cons (r'.keeps k2) r2) E') E) (fun v s3 ⟨r3, k3⟩ => ⟨r3, k1.tr k3⟩) fun _ _ e => e) fun _ _ e => e) he

theorem EvT.call {c : Cx} {f : Expr} {args : List Expr} {kws : List Keyword} {pos : Pos} {b : Bool} (h : Ev c (.Call f args kws pos) (.bool b)) : EvT c (.Call f args kws pos) b := fun s o E => by
  show wpAny _ _ (eval _ _ >>= fun v => standAt _ >>= fun _ => holding [v] (truthy v)) _ _ _
  refine wpAny_bind (wpAny_mono (h s o E) (fun v s' ⟨r, k⟩ => wpAny_bind (wpAny_standAt (wpAny_holding ?_))) fun _ _ e => e)
  cases r
  exact wpAny_truthy_bool ⟨rfl, k⟩
end
end Mine
end

section
open PySem PySem.W PyProof.Rows SeqAt
set_option Elab.async false
set_option maxRecDepth 100000
set_option maxHeartbeats 1000000
set_option linter.unusedVariables false
namespace Mine
section
variable {c : Cx}
theorem Op2.neB {a b : Bool} : Op2 c (compareOp .NotEq) (.bool a) (.bool b) (.bool (a != b)) := fun s v1 v2 o r1 r2 E => by
  cases r1; cases r2
  exact RcNeAt.bool_bool a b _ _ _ _ ⟨.bool _, .refl s⟩
theorem Ev.neg {e : Expr} {i : Int} {pos : Pos} (h : Ev c e (.int i)) : Ev c (.UnaryOp .USub e pos) (.int (-i)) := fun s o E => by
  refine wpAny_UnaryOp (wpAny_mono (h s o E) (fun v s1 ⟨r, k⟩ => ?_) fun _ _ e => e)
  cases r
  exact PyProof.Rows.neg_int ⟨.int _ _, k.tr (.toks s1 _)⟩
end
end Mine
end

section
open PySem PySem.W PyProof.Rows SeqAt
set_option Elab.async false
set_option maxRecDepth 100000
set_option maxHeartbeats 4000000
set_option linter.unusedVariables false
namespace Mine

def wrap (P : List (List Nat)) : List (List Nat) := P.map fun p => ([10] ++ p) ++ [13]
def nm : List Nat := [110, 97, 109, 101, 115]
structure ListsHyp (rows N W : List (List Nat)) (H : Nat) (mail : Nat → List Nat) (P out : Nat → List (List Nat)) : Prop where
  q : ∀ i < H, quoted (mail i) = mail (i + 1)
  j : ∀ i < H, (rows.map fun r => ((if (r.take 1 == [46]) = true then List.replicate (i + 1) 46 else []) ++ r) ++ [13, 10]).flatten ++ [42] = mail (i + 1)
  s : ∀ i < H, Txt.split (T (mail (i + 1))) (T [13, 10]) = (P i).map T
  g : ∀ i < H, (wrap (P i)).filter (fun y => ([42] :: W).contains y) = ((wrap (P i)).filter fun y => N.contains y).filter fun y => occ [65] y
  a : ∀ i < H, ([42] :: W).any (hits (((([10] ++ mail (i + 1)) ++ [47]) ++ N.flatten) ++ [47])) = !((wrap (P i)).filter fun y => N.contains y).isEmpty
  o : ∀ i < H, ((wrap (P i)).filter fun y => N.contains y).map (fun a => pslice (some ((i : Int) + 2)) (some (-1)) a) = out i
  n : N.contains [42] = false
  rz : rows.length ≤ 20
  rl : ∀ r ∈ rows, r.length ≤ 100
  mz : ∀ i ≤ H, (mail i).length ≤ 10000
  mc : ∀ i ≤ H, ∀ c ∈ mail i, c < 128
  pz : ∀ i < H, (P i).length ≤ 100
  pl : ∀ i < H, ∀ p ∈ P i, p.length ≤ 10000
  nz : N.length ≤ 100
  nl : ∀ a ∈ N, a.length ≤ 100
  nf : N.flatten.length ≤ 10000
  nc : ∀ c ∈ N.flatten, c < 128
  wz : W.length ≤ 100
  wc : ∀ a ∈ W, (∀ c ∈ a, c < 128) ∧ a.length ≤ 100000

theorem lists_fn {w : World} {h₀ : Heap} {mg mb : Str → Option Value} (B : Base w h₀ mg mb) (rows : List (List Nat)) (marks : List Int) (H : Nat) (h0 : 0 < H) (h1 : H ≤ 13) (mail : Nat → List Nat) (P out : Nat → List (List Nat))
    (Y : ListsHyp rows (rowsUpTo marks H [97, 65] (2 * (H : Int)).toNat) (rowsUpTo marks H [65] (2 * (H : Int)).toNat) H mail P out) :
    Fn PR w h₀ 5 (.ref 121) [LL rows, S (mail 0), .list (marks.map .int), .int H] (.list ((List.range H).map fun i => LL (out i))) := by
  refine Fn.ofK B 121 4 ["rows", "mail", "marks", "hours"] rfl rfl (by kernel_rfl!) rfl (fun vs h => ?_) rfl rfl rfl rfl (by kernel_rfl!) ?_
  · match vs, h with
    | [a, b, c, d], _ => kernel_rfl!
  intro A' X L s₁ F E'
  generalize hN : rowsUpTo marks H [97, 65] (2 * (H : Int)).toNat = N at Y
  generalize hW : rowsUpTo marks H [65] (2 * (H : Int)).toNat = W at Y
  have rN : Fn PR w h₀ 2 (.ref 116) [.list (marks.map .int), .int H, S [97, 65]] (LL N) := hN ▸ rows_fn B marks H [97, 65] (by omega) (by omega) (by decide)
  have rW : Fn PR w h₀ 2 (.ref 116) [.list (marks.map .int), .int H, S [65]] (LL W) := hW ▸ rows_fn B marks H [65] (by omega) (by omega) (by decide)
  have nz := Y.nz
  have wz := Y.wz
  refine ex_assign F .local (Ev.fn (Ev.name rfl) (.cons (Ev.fn (Ev.name rfl) (.cons (Ev.name rfl) (.cons (Ev.name rfl) (.cons (Ev.cstr [97, 65]) .nil))) rN (by show _ ≤ 4; decide) (B.K 116 _ rfl) rfl) (.cons (Ev.list (.cons (Ev.cstr nm) .nil)) .nil))
    (record_fn B (N.map S) [S nm] (by simp; omega) (by simp)) (by show _ ≤ 4; decide) (B.K 111 _ rfl) rfl) ?_
  intro s2 F2 m2
  refine ex_assign F2 .local (Ev.fn (Ev.name rfl) (.cons (Ev.binop (Ev.list (.cons (Ev.cstr [42]) .nil)) (Ev.fn (Ev.name rfl) (.cons (Ev.name rfl) (.cons (Ev.name rfl) (.cons (Ev.cstr [65]) .nil))) rW (by show _ ≤ 4; decide) (B.K 116 _ rfl) rfl) (Op2.addL (by simp; omega))) (.cons (Ev.list .nil) .nil))
    (record_fn B (([42] :: W).map S) [] (by simp; omega) (by simp)) (by show _ ≤ 4; decide) (B.K 111 _ rfl) rfl) ?_
  intro s3 F3 m3
  refine ex_if_no F3 ((EvT.or2 (EvT.not (EvT.call (Ev.applies B (Ev.name rfl) (.cons Ev.cnone .nil) (appliesNone_fn B ([42] :: W) []) (by show _ ≤ 4; decide)))) fun _ => EvT.call (Ev.applies B (Ev.name rfl) (.cons Ev.cnone .nil) (appliesNone_fn B N [S nm]) (by show _ ≤ 4; decide))).as ?_) ?_
  · rw [Y.n]; simp
  intro s4 F4 k4
  refine ex_newList F4 .local ?_
  intro R s5 hR hRf hR0 F5 hM5 V5
  let c5 : Cx := ((((cx w A' 4 h₀ X L 121 ["rows", "mail", "marks", "hours"] [LL rows, S (mail 0), .list (marks.map .int), .int H]).set "names" .local (.entry (N.map S) [S nm])).set "watch" .local (.entry (([42] :: W).map S) [])).more [R]).set "lists" .local (.val (.ref R))
  refine ex_for F5 .cell (R :: fo (envK w.params 121 L)) (fun i y => if y = ("mail" : Str) then some (NameKind.local, S (mail i)) else c5.ρ y) (fun wr i s' => ML (wr ++ (R :: (fo (envK w.params 121 L) ++ X))) s' R ((List.range i).map fun j => LL (out j)))
    (EvIt.range1 (Ev.name rfl) (Ev.name rfl) (by omega) (by omega)) ?_ (fun b hb => List.mem_cons_of_mem _ hb) ?_ ?_ ?_ ?_ ?_
  · intro b hb
    show b ∈ R :: (fo (envK w.params 121 L) ++ X)
    rcases List.mem_cons.mp hb with rfl | hb
    · exact List.mem_cons_self
    · exact List.mem_cons_of_mem _ (List.mem_append_left _ hb)
  · intro y k d hy
    split at hy
    · rename_i e; subst e; cases hy; rfl
    · exact hy
  · intro wr s6 hwr F6 k6
    exact hM5.more hwr k6
  · intro wr i s6 s7 hwr h V
    refine h.mv V ?_ ?_
    · intro q
      rcases List.mem_append.mp q with q | q
      · have e := hwr R q
        obtain ⟨items, ⟨n, p⟩, _⟩ := hM5
        rw [p] at e; cases e
      · exact hRf q
    · intro b hb
      rcases List.mem_append.mp hb with q | q
      · exact List.mem_append_left _ q
      · exact List.mem_append_right _ (List.mem_cons_of_mem _ (List.mem_append_left _ q))
  · intro wr i d s6 hwr hd F6 hM6 V6 E6
    obtain ⟨rfl, hi0⟩ := rangeDs_at hd
    have hi : i < H := by omega
    have mz1 := Y.mz (i + 1) hi
    have pz := Y.pz i hi
    have rz := Y.rz
    refine ex_assign F6 .local ((Ev.fn (Ev.name rfl) (.cons (Ev.name rfl) .nil) (quote_fn B (mail i) (by have := Y.mz i (by omega); omega)) (by show _ ≤ 4; decide) (B.K 104 _ rfl) rfl).as (d' := S (mail (i + 1))) (by rw [Y.q i hi])) ?_
    intro s7 F7 m7
    refine ex_assign F7 .cell ((Ev.binop (Ev.cstr [46]) (Ev.binop (Ev.name rfl) Ev.cint Op2.addI) (Op2.mulS (by omega) (by omega))).as (d' := S (List.replicate (i + 1) 46)) ?_) ?_
    · congr 3; omega
    intro s8 F8 m8
    have rl := Y.rl
    refine ex_if_no F8 ((EvT.cmp (Ev.name rfl) (Ev.binop ((Ev.join (ys := rows.map fun r => ((if (r.take 1 == [46]) = true then List.replicate (i + 1) 46 else []) ++ r) ++ [13, 10]) (Ev.cstr []) (.cons ((Ev.compM (mk := S) (fun a b h => S_inj _ _ h) .local (xs := rows) (fun _ => true)
        (fun r => S (((if (r.take 1 == [46]) = true then List.replicate (i + 1) 46 else []) ++ r) ++ [13, 10])) (EvIt.list (Ev.name rfl)) (fun _ _ _ _ => .nil) ?_ (by omega)).as ?_) .nil) ?_)) (Ev.cstr [42]) (Op2.addS ?_)) Op2.neS).as ?_) ?_
    · intro r hr _ env X'
      have hrl := rl r hr
      have hil : (if (r.take 1 == [46]) = true then List.replicate (i + 1) 46 else []).length ≤ 20 := by split <;> simp <;> omega
      refine Ev.binop (Ev.binop ((Ev.ite (d1 := S (List.replicate (i + 1) 46)) (d2 := S []) (EvT.cmp (Ev.sliceS (Ev.name rfl) .none (.some Ev.cint) (by omega)) (Ev.cstr [46]) Op2.eqS) (fun _ => Ev.name rfl) (fun _ => Ev.cstr [])).as (d' := S (if (r.take 1 == [46]) = true then List.replicate (i + 1) 46 else [])) ?_) (Ev.name rfl) (Op2.addS ?_)) (Ev.cstr [13, 10]) (Op2.addS ?_)
      · rw [show pslice none (some 1) r = r.take 1 from pslice_to r 1]
        split <;> rfl
      · omega
      · rw [List.length_append]; simp only [List.length_cons, List.length_nil]; omega
    · rw [List.filter_eq_self.mpr (fun _ _ => rfl), List.map_map]; rfl
    · have := congrArg List.length (Y.j i hi)
      rw [List.length_append] at this
      simp only [List.length_cons, List.length_nil] at this
      omega
    · have := congrArg List.length (Y.j i hi)
      rw [List.length_append] at this
      simp only [List.length_cons, List.length_nil] at this ⊢
      omega
    · rw [Y.j i hi]; simp
    intro s9 F9 k9
    have pl := Y.pl i hi
    refine ex_assignCompM F9 (mk := S) (fun a b h => S_inj _ _ h) .local (xs := P i) (fun _ => true) (fun p => S (([10] ++ p) ++ [13])) (EvIt.list ((Ev.split (Ev.name rfl) (.cons (Ev.cstr [13, 10]) .nil) (by decide) (by omega)).as (by rw [Y.s i hi, List.map_map]; rfl))) (fun _ _ _ _ => .nil) ?_ (by omega) ?_
    · intro p hp _ env X'
      have hpl := pl p hp
      exact Ev.binop (Ev.binop (Ev.cstr [10]) (Ev.name rfl) (Op2.addS (by simp; omega))) (Ev.cstr [13]) (Op2.addS (by simp; omega))
    intro s10 F10 m10
    have ew : ((P i).filter fun _ => true).map (fun p => S (([10] ++ p) ++ [13])) = (wrap (P i)).map S := by
      rw [List.filter_eq_self.mpr (fun _ _ => rfl)]; unfold wrap; rw [List.map_map]; rfl
    rw [ew] at F10
    have wl : (wrap (P i)).length = (P i).length := by simp [wrap]
    refine ex_assign F10 .local (Ev.fn (Ev.name rfl) (.cons (Ev.name rfl) (.cons (Ev.list (.cons (Ev.name rfl) .nil) (by simp)) .nil)) (record_fn B ((wrap (P i)).map S) [S (mail (i + 1))] (by simp; omega) (by simp)) (by show _ ≤ 4; decide) (B.K 111 _ rfl) rfl) ?_
    intro s11 F11 m11
    refine ex_assign F11 .local (Ev.fn (Ev.name rfl) (.cons (Ev.name rfl) (.cons (Ev.name rfl) .nil)) (merge_fn B (wrap (P i)) N [S (mail (i + 1))] [S nm] (by omega) (by omega) (by simp)) (by show _ ≤ 4; decide) (B.K 87 _ rfl) rfl) ?_
    intro s12 F12 m12
    refine ex_if_no F12 (EvT.or3 ((EvT.cmp (Ev.attr rfl B (Ev.name rfl) (.inr (.inl ⟨rfl, rfl⟩))) (Ev.list (.cons (Ev.name rfl) (.cons (Ev.cstr nm) .nil)) (by simp)) (Op2.neLS (a := [mail (i + 1), nm]) (b := [mail (i + 1), nm]))).as (by simp)) (EvT.cmp (Ev.attr rfl B (Ev.name rfl) (.inr (.inr ⟨.inl rfl, rfl⟩))) Ev.cnone Op2.isNotNone) (EvT.cmp (Ev.attr rfl B (Ev.name rfl) (.inr (.inr ⟨.inr rfl, rfl⟩))) Ev.cnone Op2.isNotNone)) ?_
    intro s13 F13 k13
    refine ex_assign F13 .local (Ev.fn (Ev.name rfl) (.cons (Ev.name rfl) (.cons (Ev.name rfl) .nil)) (merge_fn B (wrap (P i)) ([42] :: W) [S (mail (i + 1))] [] (by omega) (by simp; omega) (by simp)) (by show _ ≤ 4; decide) (B.K 87 _ rfl) rfl) ?_
    intro s14 F14 m14
    have toldL : ((wrap (P i)).filter fun y => N.contains y).length ≤ 100 := Nat.le_trans (List.length_filter_le _ _) (by omega)
    refine ex_if_no F14 ((EvT.or2 (EvT.cmp (Ev.attr rfl B (Ev.name rfl) (.inr (.inl ⟨rfl, rfl⟩))) (Ev.list (.cons (Ev.name rfl) .nil) (by simp)) (Op2.neLS (a := [mail (i + 1)]) (b := [mail (i + 1)]))) fun _ => EvT.cmp (Ev.attr rfl B (Ev.name rfl) (.inl ⟨rfl, rfl⟩))
      (Ev.compM (mk := S) (fun a b h => S_inj _ _ h) .local (xs := (wrap (P i)).filter fun y => N.contains y) (fun y => occ [65] y) (fun y => S y) (EvIt.list (Ev.attr rfl B (Ev.name rfl) (.inl ⟨rfl, rfl⟩))) (fun a _ env X' => .one (.cmp (Ev.cstr [65]) (Ev.name rfl) Op2.inS)) (fun a _ _ env X' => Ev.name rfl) (by omega))
      (Op2.neLS (a := (wrap (P i)).filter fun y => ([42] :: W).contains y) (b := ((wrap (P i)).filter fun y => N.contains y).filter fun y => occ [65] y))).as ?_) ?_
    · rw [Y.g i hi]; simp
    intro s15 F15 k15
    refine ex_if_no F15 ((EvT.cmp (Ev.attr rfl B (Ev.name rfl) (.inl ⟨rfl, rfl⟩)) (Ev.name rfl) (Op2.neLS (a := wrap (P i)) (b := wrap (P i)))).as (by simp)) ?_
    intro s16 F16 k16
    have nf := Y.nf
    have tl : (((([10] ++ mail (i + 1)) ++ [47]) ++ N.flatten) ++ [47]).length ≤ 100000 := by
      simp only [List.length_append, List.length_cons, List.length_nil]; omega
    refine ex_if_no F16 ((EvT.cmp (Ev.applies B (Ev.name rfl) (.cons (Ev.binop (Ev.binop (Ev.binop (Ev.binop (Ev.cstr [10]) (Ev.name rfl) (Op2.addS ?_)) (Ev.cstr [47]) (Op2.addS ?_)) (Ev.join (ys := N) (Ev.cstr []) (.cons (Ev.attr rfl B (Ev.name rfl) (.inl ⟨rfl, rfl⟩)) .nil) (by omega)) (Op2.addS ?_)) (Ev.cstr [47]) (Op2.addS ?_)) .nil)
      (applies_fn B ([42] :: W) [] (((([10] ++ mail (i + 1)) ++ [47]) ++ N.flatten) ++ [47]) ?_ (by omega) ?_) (by show _ ≤ 4; decide)) (Ev.cmp (Ev.attr rfl B (Ev.name rfl) (.inl ⟨rfl, rfl⟩)) (Ev.list .nil) Op2.neNil) Op2.neB).as ?_) ?_
    · simp only [List.length_append, List.length_cons, List.length_nil] at tl ⊢; omega
    · simp only [List.length_append, List.length_cons, List.length_nil] at tl ⊢; omega
    · simp only [List.length_append, List.length_cons, List.length_nil] at tl ⊢; omega
    · simp only [List.length_append, List.length_cons, List.length_nil] at tl ⊢; omega
    · intro c hc
      simp only [List.mem_append, List.mem_cons, List.not_mem_nil, or_false] at hc
      rcases hc with (((rfl | hc) | rfl) | hc) | rfl
      · decide
      · exact Y.mc (i + 1) hi c hc
      · decide
      · exact Y.nc c hc
      · decide
    · intro a ha
      rcases List.mem_cons.mp ha with rfl | ha
      · exact ⟨by decide, by decide⟩
      · exact Y.wc a ha
    · rw [Y.a i hi, List.isEmpty_map]; simp
    intro s17 F17 k17
    have Vall : Mv (fo (envK w.params 121 L)) s6 s17 := ((((((m7.tr m8).tr ((k9.mv _).tr m10)).tr (m11.tr m12)).tr ((k13.mv _).tr m14)).tr (k15.mv _)).tr (k16.mv _)).tr (k17.mv _)
    have hM17 := hM6.mv Vall hRf (fun b hb => List.mem_append_right _ (List.mem_cons_of_mem _ (List.mem_append_left _ hb)))
    refine ex_append F17 (d := LL (out i)) hM17 (List.mem_append_right _ List.mem_cons_self) hRf hR0 (Ev.name rfl) ((Ev.compM (mk := S) (fun a b h => S_inj _ _ h) .local (xs := (wrap (P i)).filter fun y => N.contains y) (fun _ => true) (fun a => S (pslice (some ((i : Int) + 2)) (some (-1)) a)) (EvIt.list (Ev.attr rfl B (Ev.name rfl) (.inl ⟨rfl, rfl⟩))) (fun _ _ _ _ => .nil) ?_ (by omega)).as ?_) (by simp; omega) ?_
    · intro a ha _ env X'
      have hal : a.length ≤ 100000 := by
        have := (List.mem_filter.mp ha).1
        unfold wrap at this
        obtain ⟨p, hp, rfl⟩ := List.mem_map.mp this
        have := pl p hp
        simp only [List.length_append, List.length_cons, List.length_nil]; omega
      refine (Ev.sliceS (Ev.name rfl) (.some (Ev.binop (Ev.name rfl) Ev.cint Op2.addI)) (.some (Ev.neg Ev.cint)) (by omega)).as ?_
      rw [show (0 + (i : Int) + 2) = (i : Int) + 2 from by omega]
    · rw [List.filter_eq_self.mpr (fun _ _ => rfl), ← Y.o i hi]; simp only [LL, List.map_map]; rfl
    intro s18 F18 hM18 m18
    refine wpAny_execs_nil ⟨?_, ?_, ?_⟩
    · have G1 := ((((F18.unset rfl).unset rfl).unset rfl).unset rfl).unset rfl
      have G2 := Frm.less (ρ := fun y => if y = ("mail" : Str) then some (NameKind.local, S (mail (i + 1))) else c5.ρ y) G1 (fun y k d hy => by
        show (if y = ("mail" : Str) then some (NameKind.local, S (mail (i + 1))) else if y = ("hour" : Str) then some (NameKind.cell, D.int (0 + (i : Nat))) else if y = ("mail" : Str) then some (NameKind.local, S (mail i)) else c5.ρ y) = some (k, d)
        by_cases hm : y = ("mail" : Str)
        · rw [if_pos hm] at hy ⊢; exact hy
        · rw [if_neg hm] at hy ⊢
          by_cases hh : y = ("hour" : Str)
          · subst hh
            rw [show c5.ρ "hour" = none from rfl] at hy
            cases hy
          · rw [if_neg hh, if_neg hm]; exact hy)
      exact G2
    · rw [List.range_succ, List.map_append]; exact hM18
    · exact (Vall.mono fun b hb => List.mem_cons_of_mem _ hb).tr (m18.mono (by simp))
  · intro wr s6 hwr F6 hM6 V6
    refine ex_ret F6 (Ev.name rfl) fun v s7 r k => ?_
    cases r
    have V0 : Mv (fo (envK w.params 121 L)) s₁ s5 := ((m2.tr m3).tr (k4.mv _)).tr V5
    have hR1 : s₁.heap.get? R = none := by
      cases e : s₁.heap.get? R with
      | none => rfl
      | some o => have := ((m2.tr m3).tr (k4.mv _)).get R o hRf e; rw [hR] at this; cases this
    refine ⟨_, R :: fo (envK w.params 121 L), rfl, ?_, ?_, ?_⟩
    · have e : (rangeDs 0 H).length = H := by rw [rangeDs_len]; omega
      rw [e] at hM6
      exact (hM6.kp k).rep (fun b hb => List.mem_append_right _ (List.mem_cons_of_mem _ (List.mem_append_right _ hb))) (fun q => F.ok.fresh hR1 (List.mem_append_right _ q))
    · exact (V0.mono fun b hb => List.mem_cons_of_mem _ hb).tr (V6.tr (k.mv _))
    · intro b hb
      rcases List.mem_cons.mp hb with rfl | hb
      · exact .inr hR1
      · exact .inl hb
end Mine
end

section
set_option Elab.async false
set_option maxRecDepth 100000
set_option maxHeartbeats 1000000
set_option linter.unusedVariables false
namespace Mine

def isRow (H : Nat) (r : List Nat) : Prop := ∃ m l, m ≤ H ∧ (l = 97 ∨ l = 65) ∧ r = List.replicate m 46 ++ [l]
theorem isRow.ok {H : Nat} {r : List Nat} (h : isRow H r) : (r ≠ [] ∧ 10 ∉ r) ∧ 13 ∉ r := by
  obtain ⟨m, l, _, hl, rfl⟩ := h
  refine ⟨⟨by simp, fun q => ?_⟩, fun q => ?_⟩ <;>
  · rcases List.mem_append.mp q with q | q
    · have := List.eq_of_mem_replicate q; omega
    · have := List.mem_singleton.mp q; omega
theorem rowTxt_inj {n c n' c' : Nat} (h : rowTxt n c = rowTxt n' c') : n = n' ∧ c = c' := by
  have hl := congrArg List.length h
  simp only [rowTxt, List.length_append, List.length_replicate, List.length_cons, List.length_nil] at hl
  have e : n = n' := by omega
  subst e
  refine ⟨rfl, ?_⟩
  unfold rowTxt at h
  have h2 := List.append_cancel_left (List.append_cancel_right h)
  simpa using h2
theorem mem_rowsUpTo {marks : List Int} {H : Int} {ls : List Nat} {k : Nat} {y : List Nat} : y ∈ rowsUpTo marks H ls k ↔ ∃ n c, 0 < n ∧ n ≤ k ∧ marks.contains ((n : Int) % H) = true ∧ c ∈ ls ∧ y = rowTxt n c := by
  unfold rowsUpTo blockAt
  rw [List.mem_flatten]
  constructor
  · rintro ⟨b, hb, hy⟩
    obtain ⟨j, hj, rfl⟩ := List.mem_map.mp hb
    have hj := List.mem_range.mp hj
    split at hy
    · obtain ⟨c, hc, rfl⟩ := List.mem_map.mp hy
      exact ⟨1 + j, c, by omega, by omega, by assumption, hc, rfl⟩
    · cases hy
  · rintro ⟨n, c, h0, h1, hm, hc, rfl⟩
    refine ⟨_, List.mem_map.mpr ⟨n - 1, List.mem_range.mpr (by omega), rfl⟩, ?_⟩
    rw [show 1 + (n - 1) = n by omega, if_pos hm]
    exact List.mem_map.mpr ⟨c, hc, rfl⟩
theorem has_rowsUpTo {marks : List Int} {H : Int} {ls : List Nat} {k n c : Nat} : (rowsUpTo marks H ls k).contains (rowTxt n c) = true ↔ 0 < n ∧ n ≤ k ∧ marks.contains ((n : Int) % H) = true ∧ c ∈ ls := by
  rw [List.contains_iff_mem, mem_rowsUpTo]
  constructor
  · rintro ⟨n', c', h0, h1, h2, h3, e⟩
    obtain ⟨rfl, rfl⟩ := rowTxt_inj e
    exact ⟨h0, h1, h2, h3⟩
  · rintro ⟨h0, h1, h2, h3⟩
    exact ⟨n, c, h0, h1, h2, h3, rfl⟩

/-- how a row is heard in the hour -/
def heard (i : Nat) (r : List Nat) : List Nat := ([10] ++ dotted (i + 1) r) ++ [13]
theorem heard_eq {H i : Nat} {r : List Nat} {m l : Nat} (hl : l = 97 ∨ l = 65) (e : r = List.replicate m 46 ++ [l]) : heard i r = rowTxt (if m = 0 then 0 else m + i + 1) l := by
  subst e
  unfold heard rowTxt
  congr 1
  rw [List.append_assoc]
  congr 1
  unfold dotted
  by_cases h : m = 0
  · subst h
    rcases hl with rfl | rfl <;> rfl
  · obtain ⟨k, rfl⟩ : ∃ k, m = k + 1 := ⟨m - 1, by omega⟩
    rw [if_pos (by simp [List.replicate_succ]), if_neg h, ← List.append_assoc, List.replicate_append_replicate, show i + 1 + (k + 1) = k + 1 + i + 1 by omega]
theorem isRow.heard {H i : Nat} {r : List Nat} (h : isRow H r) : ∃ n l, (l = 97 ∨ l = 65) ∧ heard i r = rowTxt n l := by
  obtain ⟨m, l, _, hl, e⟩ := h
  exact ⟨_, l, hl, heard_eq (H := H) hl e⟩
def named (marks : List Int) (H i : Nat) (r : List Nat) : Bool := (rowsUpTo marks H [97, 65] (2 * (H : Int)).toNat).contains (heard i r)
theorem named_iff {marks : List Int} {H i m l : Nat} (hi : i < H) (hm : m ≤ H) (hl : l = 97 ∨ l = 65) : named marks H i (List.replicate m 46 ++ [l]) = true ↔ 0 < m ∧ marks.contains (((m + i + 1 : Nat) : Int) % H) = true := by
  unfold named
  rw [heard_eq (H := H) hl rfl, has_rowsUpTo]
  by_cases h : m = 0
  · subst h; simp
  · rw [if_neg h]
    constructor
    · rintro ⟨_, _, h3, _⟩; exact ⟨by omega, h3⟩
    · rintro ⟨_, h3⟩
      exact ⟨by omega, by omega, h3, by rcases hl with rfl | rfl <;> decide⟩

theorem occ_65 {n c : Nat} : occ [65] (rowTxt n c) = true ↔ c = 65 := by
  rw [occ_iff]
  constructor
  · rintro ⟨p, q, e⟩
    have : 65 ∈ rowTxt n c := by rw [e]; simp
    unfold rowTxt at this
    simp only [List.mem_append, List.mem_replicate, List.mem_singleton] at this
    omega
  · rintro rfl
    exact ⟨[10] ++ List.replicate n 46, [13], rfl⟩
theorem wrap_P (i : Nat) (rows : List (List Nat)) : wrap (rows.map (dotted (i + 1)) ++ [[42]]) = rows.map (heard i) ++ [rowTxt 0 42] := by
  unfold wrap
  rw [List.map_append, List.map_map]; rfl
theorem mem_wrap {H i : Nat} {rows : List (List Nat)} (hr : ∀ r ∈ rows, isRow H r) {y : List Nat} (h : y ∈ wrap (rows.map (dotted (i + 1)) ++ [[42]])) : ∃ n c, (c = 97 ∨ c = 65 ∨ c = 42) ∧ y = rowTxt n c := by
  rw [wrap_P] at h
  rcases List.mem_append.mp h with h | h
  · obtain ⟨r, hm, rfl⟩ := List.mem_map.mp h
    obtain ⟨n, l, hl, e⟩ := (hr r hm).heard (i := i)
    exact ⟨n, l, by omega, e⟩
  · exact ⟨0, 42, by omega, List.mem_singleton.mp h⟩
theorem told_eq {marks : List Int} {H i : Nat} (rows : List (List Nat)) : ((wrap (rows.map (dotted (i + 1)) ++ [[42]])).filter fun y => (rowsUpTo marks H [97, 65] (2 * (H : Int)).toNat).contains y) = (rows.filter (named marks H i)).map (heard i) := by
  rw [wrap_P, List.filter_append, List.filter_map]
  have : (rowsUpTo marks H [97, 65] (2 * (H : Int)).toNat).contains (rowTxt 0 42) = false := by
    rw [Bool.eq_false_iff, ne_eq, has_rowsUpTo]; omega
  rw [List.filter_cons, if_neg (by rw [this]; decide)]
  rw [List.filter_nil, List.append_nil]; rfl
theorem great_eq {marks : List Int} {H i : Nat} {rows : List (List Nat)} (hr : ∀ r ∈ rows, isRow H r) : (wrap (rows.map (dotted (i + 1)) ++ [[42]])).filter (fun y => ([42] :: rowsUpTo marks H [65] (2 * (H : Int)).toNat).contains y) = ((wrap (rows.map (dotted (i + 1)) ++ [[42]])).filter fun y => (rowsUpTo marks H [97, 65] (2 * (H : Int)).toNat).contains y).filter fun y => occ [65] y := by
  rw [List.filter_filter]
  refine List.filter_congr fun y hy => ?_
  obtain ⟨n, c, hc, rfl⟩ := mem_wrap hr hy
  rw [Bool.eq_iff_iff, Bool.and_eq_true, occ_65, has_rowsUpTo, List.contains_cons, Bool.or_eq_true, has_rowsUpTo, beq_iff_eq]
  have ne : ¬ rowTxt n c = [42] := fun q => by
    have := congrArg List.length q
    simp [rowTxt] at this
  constructor
  · rintro (h | ⟨h0, h1, h2, h3⟩)
    · exact absurd h ne
    · have := List.mem_singleton.mp h3
      subst this
      exact ⟨rfl, h0, h1, h2, by decide⟩
  · rintro ⟨rfl, h0, h1, h2, _⟩
    exact .inr ⟨h0, h1, h2, by decide⟩
theorem out_eq {marks : List Int} {H i : Nat} (hi : i < H) {rows : List (List Nat)} (hr : ∀ r ∈ rows, isRow H r) : ((wrap (rows.map (dotted (i + 1)) ++ [[42]])).filter fun y => (rowsUpTo marks H [97, 65] (2 * (H : Int)).toNat).contains y).map (fun a => pslice (some ((i : Int) + 2)) (some (-1)) a) = rows.filter (named marks H i) := by
  rw [told_eq, List.map_map]
  refine (List.map_congr_left (g := id) fun r h => ?_).trans (List.map_id _)
  obtain ⟨hm, hn⟩ := List.mem_filter.mp h
  obtain ⟨m, l, hm1, hl, rfl⟩ := hr r hm
  obtain ⟨h0, _⟩ := (named_iff hi hm1 hl).mp hn
  simp only [Function.comp, id]
  rw [heard_eq (H := H) hl rfl, if_neg (by omega), show ((i : Int) + 2) = ((i + 2 : Nat) : Int) from rfl, pslice_mid]
  unfold rowTxt
  rw [show m + i + 1 = (i + 1) + m by omega, ← List.replicate_append_replicate, show ([10] ++ (List.replicate (i + 1) 46 ++ List.replicate m 46) ++ [l] ++ [13] : List Nat) = ([10] ++ List.replicate (i + 1) 46) ++ ((List.replicate m 46 ++ [l]) ++ [13]) by simp only [List.append_assoc]]
  rw [show i + 2 = (([10] ++ List.replicate (i + 1) 46) : List Nat).length by simp only [List.length_append, List.length_replicate, List.length_cons, List.length_nil]; omega, List.drop_left, List.dropLast_concat]
end Mine
end

section
open PySem PySem.W PyProof.Rows SeqAt
set_option Elab.async false
set_option maxRecDepth 100000
set_option maxHeartbeats 1000000
set_option linter.unusedVariables false
namespace Mine

theorem cut_eq {α : Type} {c : α} : ∀ {u v q s : List α}, c ∉ u → c ∉ v → u ++ c :: q = v ++ c :: s → u = v ∧ q = s
  | [], [], _, _, _, _, h => ⟨rfl, (List.cons.inj h).2⟩
  | [], b :: v, _, _, _, hv, h => absurd (List.mem_cons.mpr (.inl (List.cons.inj h).1)) hv
  | a :: u, [], _, _, hu, _, h => absurd (List.mem_cons.mpr (.inl (List.cons.inj h).1.symm)) hu
  | a :: u, b :: v, _, _, hu, hv, h => by
    obtain ⟨rfl, h2⟩ := List.cons.inj h
    obtain ⟨rfl, h3⟩ := cut_eq (fun q => hu (List.mem_cons_of_mem _ q)) (fun q => hv (List.mem_cons_of_mem _ q)) h2
    exact ⟨rfl, h3⟩

/-- past a part without c -/
theorem past_eq {α : Type} {c : α} : ∀ {p v q s : List α}, c ∉ v → p ++ c :: q = v ++ s → ∃ p', p = v ++ p' ∧ p' ++ c :: q = s
  | p, [], _, _, _, h => ⟨p, rfl, h⟩
  | [], b :: v, _, _, hv, h => absurd (List.mem_cons.mpr (.inl (List.cons.inj h).1)) hv
  | a :: p, b :: v, _, _, hv, h => by
    obtain ⟨rfl, h2⟩ := List.cons.inj h
    obtain ⟨p', rfl, h3⟩ := past_eq (fun q => hv (List.mem_cons_of_mem _ q)) h2
    exact ⟨p', rfl, h3⟩

/-- a row between feed and return is one of the mail's rows -/
theorem row_of_mail : ∀ (rows : List (List Nat)) (p u q : List Nat), (∀ r ∈ rows, 10 ∉ r ∧ 13 ∉ r) → 10 ∉ u → 13 ∉ u → p ++ 10 :: (u ++ 13 :: q) = 10 :: mailOf rows → u ∈ rows
  | rows, [], u, q, hr, h1, h2, h => by
    have h := (List.cons.inj h).2
    cases rows with
    | nil =>
      have : 13 ∈ mailOf [] := by rw [← h]; simp
      exact absurd this (by decide)
    | cons r rows =>
      have e : mailOf (r :: rows) = r ++ 13 :: (10 :: mailOf rows) := by simp [mailOf]
      rw [e] at h
      rw [(cut_eq h2 (hr r List.mem_cons_self).2 h).1]
      exact List.mem_cons_self
  | rows, x :: p, u, q, hr, h1, h2, h => by
    have h := (List.cons.inj h).2
    cases rows with
    | nil =>
      have : 10 ∈ mailOf [] := by rw [← h]; simp
      exact absurd this (by decide)
    | cons r rows =>
      have e : mailOf (r :: rows) = (r ++ [13]) ++ (10 :: mailOf rows) := by simp [mailOf]
      rw [e] at h
      have hn : 10 ∉ r ++ [13] := fun k => by
        rcases List.mem_append.mp k with k | k
        · exact (hr r List.mem_cons_self).1 k
        · simp at k
      obtain ⟨p', rfl, h3⟩ := past_eq hn h
      exact List.mem_cons_of_mem _ (row_of_mail rows p' u q (fun a ha => hr a (List.mem_cons_of_mem _ ha)) h1 h2 h3)
  termination_by rows => rows.length
theorem mail_of_row : ∀ (rows : List (List Nat)) (u : List Nat), u ∈ rows → ∃ p q, 10 :: mailOf rows = p ++ 10 :: (u ++ 13 :: q)
  | r :: rows, u, h => by
    have e : mailOf (r :: rows) = r ++ 13 :: (10 :: mailOf rows) := by simp [mailOf]
    rw [e]
    rcases List.mem_cons.mp h with rfl | h
    · exact ⟨[], _, rfl⟩
    · obtain ⟨p, q, h⟩ := mail_of_row rows u h
      rw [h]
      exact ⟨10 :: (r ++ 13 :: p), q, by simp⟩

theorem lower_mail (rows : List (List Nat)) : (mailOf rows).map lo1 = mailOf (rows.map fun r => r.map lo1) := by
  unfold mailOf
  rw [List.map_append, List.map_flatten, List.map_map, List.map_map]
  congr 2
  refine List.map_congr_left fun r _ => ?_
  simp only [Function.comp, List.map_append]
  rfl
theorem head_mail {m : List Nat} {x : List Nat} (h : 47 ∉ m) : headOf (m ++ 47 :: x) = m := by
  unfold headOf
  rw [List.takeWhile_append_of_pos (fun a ha => by
    have : a ≠ 47 := fun q => h (q ▸ ha)
    simpa using this), List.takeWhile_cons]
  simp
theorem dotted_eq {i m l : Nat} (hl : l = 97 ∨ l = 65) : dotted (i + 1) (List.replicate m 46 ++ [l]) = List.replicate (if m = 0 then 0 else m + i + 1) 46 ++ [l] := by
  have := heard_eq (H := 0) (i := i) (m := m) hl rfl
  unfold heard rowTxt at this
  have := List.append_cancel_right this
  rw [List.append_assoc] at this
  exact List.append_cancel_left this
theorem lo_row {n l : Nat} (hl : l = 97 ∨ l = 65) : (List.replicate n 46 ++ [l]).map lo1 = List.replicate n 46 ++ [97] := by
  rw [List.map_append, List.map_replicate]
  rcases hl with rfl | rfl <;> rfl
theorem dotted_no {H i : Nat} {r : List Nat} (h : isRow H r) : 47 ∉ dotted (i + 1) r ∧ ∀ c ∈ dotted (i + 1) r, c < 128 := by
  obtain ⟨m, l, _, hl, rfl⟩ := h
  rw [dotted_eq hl]
  refine ⟨fun q => ?_, fun c q => ?_⟩ <;>
  · rcases List.mem_append.mp q with q | q
    · have := List.eq_of_mem_replicate q; omega
    · have := List.mem_singleton.mp q; omega
theorem mem_mailOf {rows : List (List Nat)} {c : Nat} (h : c ∈ mailOf rows) : (∃ r ∈ rows, c ∈ r) ∨ c = 13 ∨ c = 10 ∨ c = 42 := by
  unfold mailOf at h
  rcases List.mem_append.mp h with h | h
  · obtain ⟨b, hb, hc⟩ := List.mem_flatten.mp h
    obtain ⟨r, hr, rfl⟩ := List.mem_map.mp hb
    rcases List.mem_append.mp hc with hc | hc
    · exact .inl ⟨r, hr, hc⟩
    · simp only [List.mem_cons, List.not_mem_nil, or_false] at hc
      omega
  · have := List.mem_singleton.mp h; omega
theorem mail_no {H i : Nat} {rows : List (List Nat)} (hr : ∀ r ∈ rows, isRow H r) : 47 ∉ mailAt rows (i + 1) ∧ ∀ c ∈ mailAt rows (i + 1), c < 128 := by
  have key : ∀ c ∈ mailAt rows (i + 1), (∃ r ∈ rows, c ∈ dotted (i + 1) r) ∨ c = 13 ∨ c = 10 ∨ c = 42 := fun c hc => by
    rcases mem_mailOf hc with ⟨r, hm, h⟩ | h
    · obtain ⟨a, ha, rfl⟩ := List.mem_map.mp hm
      exact .inl ⟨a, ha, h⟩
    · exact .inr h
  refine ⟨fun q => ?_, fun c hc => ?_⟩
  · rcases key _ q with ⟨r, hm, h⟩ | h
    · exact (dotted_no (hr r hm)).1 h
    · omega
  · rcases key _ hc with ⟨r, hm, h⟩ | h
    · exact (dotted_no (hr r hm)).2 c h
    · omega

/-- the watch applies at just the hours at which some row is named -/
theorem watch_eq {marks : List Int} {H i : Nat} (hi : i < H) {rows : List (List Nat)} (hr : ∀ r ∈ rows, isRow H r) :
    ([42] :: rowsUpTo marks H [65] (2 * (H : Int)).toNat).any (hits (((([10] ++ mailAt rows (i + 1)) ++ [47]) ++ (rowsUpTo marks H [97, 65] (2 * (H : Int)).toNat).flatten) ++ [47])) = !((wrap (rows.map (dotted (i + 1)) ++ [[42]])).filter fun y => (rowsUpTo marks H [97, 65] (2 * (H : Int)).toNat).contains y).isEmpty := by
  have ht : headOf (((([10] ++ mailAt rows (i + 1)) ++ [47]) ++ (rowsUpTo marks H [97, 65] (2 * (H : Int)).toNat).flatten) ++ [47]) = 10 :: mailAt rows (i + 1) := by
    have e : ((([10] ++ mailAt rows (i + 1)) ++ [47]) ++ (rowsUpTo marks H [97, 65] (2 * (H : Int)).toNat).flatten) ++ [47] = (10 :: mailAt rows (i + 1)) ++ 47 :: ((rowsUpTo marks H [97, 65] (2 * (H : Int)).toNat).flatten ++ [47]) := by simp
    rw [e]
    refine head_mail fun q => ?_
    rcases List.mem_cons.mp q with q | q
    · omega
    · exact (mail_no hr).1 q
  have hlow : ((10 :: mailAt rows (i + 1)).map lo1) = 10 :: mailOf ((rows.map (dotted (i + 1))).map fun r => r.map lo1) := by
    rw [List.map_cons]
    unfold mailAt
    rw [lower_mail]; rfl
  rw [told_eq, List.isEmpty_map, Bool.eq_iff_iff, List.any_eq_true, Bool.not_eq_true', ← Bool.not_eq_true, List.isEmpty_iff]
  have hits_eq : ∀ n, hits (((([10] ++ mailAt rows (i + 1)) ++ [47]) ++ (rowsUpTo marks H [97, 65] (2 * (H : Int)).toNat).flatten) ++ [47]) (rowTxt n 65) = true ↔ ∃ r ∈ rows, (dotted (i + 1) r).map lo1 = List.replicate n 46 ++ [97] := fun n => by
    unfold hits
    rw [ht, hlow, Bool.and_eq_true, occ_iff]
    have e : (rowTxt n 65).map lo1 = 10 :: ((List.replicate n 46 ++ [97]) ++ [13]) := by
      unfold rowTxt
      rw [List.map_append, List.append_assoc, List.map_append, lo_row (.inr rfl)]; rfl
    rw [e]
    constructor
    · rintro ⟨_, p, q, h⟩
      have := row_of_mail ((rows.map (dotted (i + 1))).map fun r => r.map lo1) p (List.replicate n 46 ++ [97]) q (fun r hm => ?_) (by simp) (by simp) (by rw [h]; simp)
      · obtain ⟨a, ha, h2⟩ := List.mem_map.mp this
        obtain ⟨r, hm, e2⟩ := List.mem_map.mp ha
        exact ⟨r, hm, by rw [e2]; exact h2⟩
      · obtain ⟨a, ha, e3⟩ := List.mem_map.mp hm
        obtain ⟨b, hb, e2⟩ := List.mem_map.mp ha
        obtain ⟨m, l, _, hl, rfl⟩ := hr b hb
        subst e2 e3
        rw [dotted_eq hl, lo_row hl]
        simp
    · rintro ⟨r, hm, h⟩
      refine ⟨by
        have : ¬ rowTxt n 65 = [42] := fun q => by
          have := congrArg List.length q
          simp [rowTxt] at this
        simpa using this, ?_⟩
      obtain ⟨p, q, h2⟩ := mail_of_row ((rows.map (dotted (i + 1))).map fun r => r.map lo1) _ (List.mem_map.mpr ⟨_, List.mem_map.mpr ⟨r, hm, rfl⟩, rfl⟩)
      rw [h] at h2
      exact ⟨p, q, by rw [h2]; simp⟩
  constructor
  · rintro ⟨a, ha, h⟩ e
    rcases List.mem_cons.mp ha with rfl | ha
    · simp [hits] at h
    · obtain ⟨n, c, h0, h1, h2, h3, rfl⟩ := mem_rowsUpTo.mp ha
      have := List.mem_singleton.mp h3
      subst this
      obtain ⟨r, hm, h4⟩ := (hits_eq n).mp h
      obtain ⟨m, l, hm1, hl, rfl⟩ := hr r hm
      rw [dotted_eq hl, lo_row hl] at h4
      have hn := List.append_cancel_right h4
      have hn := congrArg List.length hn
      rw [List.length_replicate, List.length_replicate] at hn
      rw [List.filter_eq_nil_iff] at e
      apply e _ hm
      rw [named_iff hi hm1 hl]
      have : m ≠ 0 := fun q => by rw [if_pos q] at hn; omega
      rw [if_neg this] at hn
      subst hn
      exact ⟨by omega, h2⟩
  · intro e
    obtain ⟨r, hf⟩ := List.exists_mem_of_ne_nil _ e
    obtain ⟨hm, hn⟩ := List.mem_filter.mp hf
    obtain ⟨m, l, hm1, hl, rfl⟩ := hr r hm
    obtain ⟨h0, h1⟩ := (named_iff hi hm1 hl).mp hn
    refine ⟨rowTxt (m + i + 1) 65, List.mem_cons_of_mem _ (mem_rowsUpTo.mpr ⟨m + i + 1, 65, by omega, by omega, h1, by decide, rfl⟩), ?_⟩
    rw [hits_eq]
    exact ⟨_, hm, by rw [dotted_eq hl, lo_row hl, if_neg (by omega)]⟩
end Mine
end

section
open PySem PySem.W PyProof.Rows SeqAt
set_option Elab.async false
set_option maxRecDepth 100000
set_option maxHeartbeats 1000000
set_option linter.unusedVariables false
namespace Mine

theorem flat_len {l : List (List Nat)} {z : Nat} (h : ∀ a ∈ l, a.length ≤ z) : l.flatten.length ≤ l.length * z := by
  induction l with
  | nil => simp
  | cons a l ih =>
    have h1 := h a List.mem_cons_self
    have h2 := ih fun b hb => h b (List.mem_cons_of_mem _ hb)
    simp only [List.flatten_cons, List.length_append, List.length_cons, Nat.succ_mul]
    omega
theorem mailOf_len {rows : List (List Nat)} {z : Nat} (h : ∀ a ∈ rows, a.length ≤ z) : (mailOf rows).length ≤ rows.length * (z + 2) + 1 := by
  unfold mailOf
  have := flat_len (l := rows.map fun r => r ++ [13, 10]) (z := z + 2) fun a ha => by
    obtain ⟨r, hr, rfl⟩ := List.mem_map.mp ha
    have := h r hr
    simp; omega
  rw [List.length_map] at this
  simp only [List.length_append, List.length_cons, List.length_nil]
  omega
theorem isRow.len {H : Nat} {r : List Nat} (h : isRow H r) : r.length ≤ H + 1 := by
  obtain ⟨m, l, _, hl, rfl⟩ := h
  simp; omega
theorem dotted_len (k : Nat) (r : List Nat) : (dotted k r).length ≤ k + r.length := by
  unfold dotted
  split <;> simp
theorem isRow.small {H : Nat} {r : List Nat} (h : isRow H r) : ∀ c ∈ r, c < 128 := by
  obtain ⟨m, l, _, hl, rfl⟩ := h
  intro c q
  rcases List.mem_append.mp q with q | q
  · have := List.eq_of_mem_replicate q; omega
  · have := List.mem_singleton.mp q; omega
theorem zip_len : ∀ {rows es : List (List Nat)} {z : Nat}, (∀ a ∈ rows, a.length ≤ z) → (∀ e ∈ es, e.length ≤ 2) → (List.zipWith (fun a b => a ++ b) rows es).flatten.length ≤ rows.length * (z + 2)
  | [], _, _, _, _ => by simp
  | _ :: _, [], _, _, _ => by simp
  | a :: rows, e :: es, z, h, h2 => by
    have h3 := zip_len (rows := rows) (es := es) (z := z) (fun b hb => h b (List.mem_cons_of_mem _ hb)) (fun b hb => h2 b (List.mem_cons_of_mem _ hb))
    have h4 := h a List.mem_cons_self
    have h5 := h2 e List.mem_cons_self
    simp only [List.zipWith_cons_cons, List.flatten_cons, List.length_append, List.length_cons, Nat.succ_mul]
    omega
theorem mem_zip {c : Nat} : ∀ {rows es : List (List Nat)}, c ∈ (List.zipWith (fun a b => a ++ b) rows es).flatten → (∃ r ∈ rows, c ∈ r) ∨ ∃ e ∈ es, c ∈ e
  | [], _, h => by simp at h
  | _ :: _, [], h => by simp at h
  | a :: rows, e :: es, h => by
    simp only [List.zipWith_cons_cons, List.flatten_cons, List.mem_append] at h
    rcases h with (h | h) | h
    · exact .inl ⟨a, List.mem_cons_self, h⟩
    · exact .inr ⟨e, List.mem_cons_self, h⟩
    · rcases mem_zip h with ⟨r, hr, h⟩ | ⟨r, hr, h⟩
      · exact .inl ⟨r, List.mem_cons_of_mem _ hr, h⟩
      · exact .inr ⟨r, List.mem_cons_of_mem _ hr, h⟩
theorem upTo_len {marks : List Int} {H : Nat} {ls : List Nat} {a : List Nat} (h : a ∈ rowsUpTo marks H ls (2 * (H : Int)).toNat) : a.length ≤ 2 * H + 3 := by
  obtain ⟨n, c, _, h1, _, _, rfl⟩ := mem_rowsUpTo.mp h
  simp [rowTxt]; omega
theorem upTo_small {marks : List Int} {H : Nat} {ls : List Nat} (hl : ∀ c ∈ ls, c < 128) {a : List Nat} (h : a ∈ rowsUpTo marks H ls (2 * (H : Int)).toNat) : ∀ c ∈ a, c < 128 := by
  obtain ⟨n, k, _, h1, _, hk, rfl⟩ := mem_rowsUpTo.mp h
  intro c hc
  have := hl k hk
  unfold rowTxt at hc
  simp only [List.mem_append, List.mem_replicate, List.mem_singleton] at hc
  omega

def mailsOf (rows es : List (List Nat)) (i : Nat) : List Nat := if i = 0 then (List.zipWith (fun a b => a ++ b) rows es).flatten ++ [42] else mailAt rows i

theorem lists_hyp (rows es : List (List Nat)) (marks : List Int) (H : Nat) (h0 : 0 < H) (h1 : H ≤ 13) (rz : rows.length ≤ 9) (hl : rows.length = es.length) (hr : ∀ r ∈ rows, isRow H r) (he : ∀ e ∈ es, e = [13] ∨ e = [10] ∨ e = [13, 10]) :
    ListsHyp rows (rowsUpTo marks H [97, 65] (2 * (H : Int)).toNat) (rowsUpTo marks H [65] (2 * (H : Int)).toNat) H (mailsOf rows es) (fun i => rows.map (dotted (i + 1)) ++ [[42]]) (fun i => rows.filter (named marks H i)) where
  q i hi := by
    unfold mailsOf
    rw [if_neg (Nat.succ_ne_zero i)]
    by_cases h : i = 0
    · subst h
      rw [if_pos rfl, quoted_first rows es hl (fun r h => (hr r h).ok.1) (fun r h => (hr r h).ok.2) he]
      unfold mailAt
      congr 1
    · rw [if_neg h, quoted_at rows (fun r h => (hr r h).ok.1) (fun r h => (hr r h).ok.2)]
  j i hi := by
    unfold mailsOf
    rw [if_neg (Nat.succ_ne_zero i)]
    unfold mailAt mailOf
    rw [List.map_map]; rfl
  s i hi := by
    unfold mailsOf
    rw [if_neg (Nat.succ_ne_zero i), mailAt_glue, split_glue _ (by simp)]
    intro p hp
    rcases List.mem_append.mp hp with hp | hp
    · obtain ⟨r, hm, rfl⟩ := List.mem_map.mp hp
      exact (dotted_ok (hr r hm).ok.1 (hr r hm).ok.2).2
    · rw [List.mem_singleton.mp hp]; decide
  g i hi := great_eq hr
  a i hi := by
    have := watch_eq (marks := marks) hi hr
    unfold mailsOf
    rw [if_neg (Nat.succ_ne_zero i)]
    exact this
  o i hi := out_eq hi hr
  n := by
    rw [Bool.eq_false_iff, ne_eq, List.contains_iff_mem, mem_rowsUpTo]
    rintro ⟨n, c, _, _, _, _, e⟩
    have := congrArg List.length e
    simp [rowTxt] at this
  rz := by omega
  rl r h := by have := (hr r h).len; omega
  mz i hi := by
    unfold mailsOf
    split
    · have := zip_len (rows := rows) (es := es) (z := 14) (fun r h => by have := (hr r h).len; omega) (fun e h => by rcases he e h with rfl | rfl | rfl <;> decide)
      simp only [List.length_append, List.length_cons, List.length_nil]
      omega
    · unfold mailAt
      have := mailOf_len (rows := rows.map (dotted i)) (z := 30) fun a ha => by
        obtain ⟨r, h, rfl⟩ := List.mem_map.mp ha
        have := dotted_len i r
        have := (hr r h).len
        omega
      rw [List.length_map] at this
      omega
  mc i hi := by
    unfold mailsOf
    split
    · intro c hc
      rcases List.mem_append.mp hc with hc | hc
      · rcases mem_zip hc with ⟨r, hm, h⟩ | ⟨e, hm, h⟩
        · exact (hr r hm).small c h
        · rcases he e hm with rfl | rfl | rfl <;> simp only [List.mem_cons, List.not_mem_nil, or_false] at h <;> omega
      · have := List.mem_singleton.mp hc; omega
    · obtain ⟨k, rfl⟩ : ∃ k, i = k + 1 := ⟨i - 1, by omega⟩
      exact (mail_no hr).2
  pz i hi := by simp; omega
  pl i hi p hp := by
    rcases List.mem_append.mp hp with hp | hp
    · obtain ⟨r, hm, rfl⟩ := List.mem_map.mp hp
      have := dotted_len (i + 1) r
      have := (hr r hm).len
      omega
    · rw [List.mem_singleton.mp hp]; decide
  nz := by
    have := rowsUpTo_len marks H [97, 65] (2 * (H : Int)).toNat
    simp only [List.length_cons, List.length_nil] at this
    omega
  nl a ha := by have := upTo_len ha; omega
  nf := by
    have h2 := rowsUpTo_len marks H [97, 65] (2 * (H : Int)).toNat
    have h3 := flat_len (l := rowsUpTo marks H [97, 65] (2 * (H : Int)).toNat) (z := 30) fun a ha => by have := upTo_len ha; omega
    simp only [List.length_cons, List.length_nil] at h2
    omega
  nc c hc := by
    obtain ⟨b, hb, h⟩ := List.mem_flatten.mp hc
    exact upTo_small (by decide) hb c h
  wz := by
    have := rowsUpTo_len marks H [65] (2 * (H : Int)).toNat
    simp only [List.length_cons, List.length_nil] at this
    omega
  wc a ha := ⟨upTo_small (by decide) ha, by have := upTo_len ha; omega⟩
end Mine
end

section
open PySem PySem.W PyProof.Rows SeqAt
set_option Elab.async false
set_option maxRecDepth 100000
set_option maxHeartbeats 1000000
set_option linter.unusedVariables false
namespace Mine

theorem meet_fn {w : World} {h₀ : Heap} {mg mb : Str → Option Value} (B : Base w h₀ mg mb) (pieces : List (List (List Nat))) (rows : List (List Nat))
    (hr : ∀ r ∈ rows, (∀ c ∈ r, c < 128) ∧ r.length ≤ 100) (hz : rows.length ≤ 100) (hzp : pieces.length ≤ 100)
    (hm : ∀ (k j : Nat) (a b : List Nat), j < k → rows[j]? = some a → rows[k]? = some b → a.map lo1 ≠ b.map lo1 → (pieces.filter fun p => p.contains a && p.contains b).length = 1) :
    Fn PR w h₀ 2 (.ref 126) [.list (pieces.map LL), LL rows] (.bool true) := by
  have h1 := B.K 126 _ rfl
  refine Fn.of_body (ps := ["lists", "rows"]) (gl := GL) h1 rfl B.lim (codeRec_of B.K (by rfl)) rfl (fun vs h => ?_) rfl rfl rfl rfl (by rfl) (glob B) ?_
  · match vs, h with
    | [a, b], _ => rfl
  intro A' X L s₁ F E'
  refine ex_forC F .cell (EvIt.range1 (n := rows.length) (Ev.name rfl) ?_ (by omega) (by omega)) ?_ ?_
  · exact (Ev.len (Ev.name rfl) (.cons (Ev.name rfl) .nil) (by simp; omega)).as (by simp)
  · intro wr i d s2 hwr hd F2 hM2 E2
    obtain ⟨rfl, hi⟩ := rangeDs_at hd
    have hi' : i < rows.length := by omega
    refine ex_forC F2 .cell (EvIt.list (Ev.sliceL (Ev.name rfl) .none (.some (Ev.name rfl)) (by simp; omega))) ?_ ?_
    · intro wr2 j d s3 hwr2 hd2 F3 hM3 E3
      have hd3 : ∃ a, rows[j]? = some a ∧ d = S a ∧ j < i := by
        rw [show (0 + (i : Int)) = ((i : Nat) : Int) from by omega, pslice_to, List.getElem?_take] at hd2
        split at hd2
        · rename_i hji
          rw [List.getElem?_map] at hd2
          obtain ⟨a, ha, e⟩ := Option.map_eq_some_iff.mp hd2
          exact ⟨a, ha, e.symm, hji⟩
        · cases hd2
      obtain ⟨a, ha, rfl, hji⟩ := hd3
      have hb : rows[i]? = some rows[i] := by simp [hi']
      have hia := hr a (List.mem_of_getElem? ha)
      have hib := hr _ (List.mem_of_getElem? hb)
      have item : ∀ {c : Cx} {v sl : Expr} {pos : Pos}, Ev c v (.list (rows.map S)) → Ev c sl (.int (0 + (i : Nat))) → (∀ a t, subscripted sl false (.ref a) (.int (0 + (i : Nat)) t) = operate [.ref a, .int (0 + (i : Nat)) t] (getItem (.ref a) (.int (0 + (i : Nat)) t))) → Ev c (.Subscript v sl pos) (S rows[i]) :=
        fun h1 h2 h3 => Ev.itemL h1 h2 (by omega) (by omega) (by simp [hi']) h3
      refine ex_assignCompM F3 LL_inj .local (xs := pieces) (fun p => p.contains a && p.contains rows[i]) LL (EvIt.list (Ev.name rfl)) ?_ ?_ (by omega) ?_
      · intro p _ env X
        exact .one (.and2 (.cmp (Ev.name rfl) (Ev.name rfl) Op2.inLS) fun _ => .cmp (item (Ev.name rfl) (Ev.name rfl) (fun _ _ => rfl)) (Ev.name rfl) Op2.inLS)
      · intro p _ _ env X
        exact Ev.name rfl
      · intro s4 F4 hM4
        have hlo : ∀ {r : List Nat}, r ∈ rows → ∀ c ∈ r, c < 128 := fun h => (hr _ h).1
        refine ex_if_no F4 ((EvT.and2 (.cmp (Ev.lower (Ev.name rfl) hia.1 (by omega)) (Ev.lower (item (Ev.name rfl) (Ev.name rfl) (fun _ _ => rfl)) hib.1 (by omega)) Op2.neS) fun _ => .cmp (Ev.len (Ev.name rfl) (.cons (Ev.name rfl) .nil) ?_) Ev.cint Op2.neI).as ?_) ?_
        · have := List.length_filter_le (fun p : List (List Nat) => p.contains a && p.contains rows[i]) pieces
          simp only [List.length_map]
          omega
        · by_cases hq : a.map lo1 = rows[i].map lo1
          · rw [hq]; simp
          · have := hm i j a rows[i] hji ha hb hq
            simp only [List.length_map, this]
            simp
        · intro s5 F5 k5
          exact wpAny_execs_nil ⟨(F5.unset rfl).unset rfl, hM4.tr (k5.mv _)⟩
    · intro s3 F3 hM3
      exact wpAny_execs_nil ⟨F3.unset rfl, hM3⟩
  · intro s2 F2 hM2
    refine ex_ret F2 Ev.cbool fun v s' r k => ⟨v, fo (callEnvC _ L 126), rfl, r.avoid fun b hb => .inl (List.mem_append_right _ hb), hM2.tr (k.mv _), fun b hb => .inl hb⟩
end Mine
end

section
open PySem PySem.W PyProof.Rows SeqAt
set_option Elab.async false
set_option maxRecDepth 100000
set_option maxHeartbeats 1000000
set_option linter.unusedVariables false
namespace Mine

theorem strValues_get (l : List (Str × Tok)) (i : Nat) : (strValues l)[i]? = l[i]?.map fun p => Value.str p.1 p.2 := by simp [strValues]
def cat2 (xs ys : List (Str × Tok)) : List Str := List.zipWith (fun a b => a.1 ++ b.1) xs ys

/-- the turns of  [x + y for x, y in zip(texts, texts)] -/
theorem zip_loop {prog : Program} {w : World} {A : Around} {R : Result → Shared → Prop} (hh : A.handled = none) {z TI TO i1 i2 l1 l2 C D : Addr} (Z : ZipApart z TI TO i1 i2 l1 l2) {xs ys : List (Str × Tok)} {x y : Str} {px py p1 p2 tp bp pos : Pos} {kk : Nat} {iter : Expr} {scope : Scope} {env : Env} {s₀ : Shared} {m₀ : Str → Option Value}
    (hC : env.locals = C) (hx : env.kindOf x = some .local) (hy : env.kindOf y = some .local) (hk : env.scope.kind = .function) (hxy : x ≠ y) (hxd : (x == ("__debug__" : Str)) = false) (hyd : (y == ("__debug__" : Str)) = false)
    (hCz : C ∉ [z, TI, TO, i1, i2, l1, l2]) (hDz : D ∉ [z, TI, TO, i1, i2, l1, l2]) (hCD : C ≠ D)
    (hst : IsZip s₀.heap z TI TO .none ∧ IsPair s₀.heap TI (.ref i1) (.ref i2) ∧ (∃ a b, IsPair s₀.heap TO a b) ∧ s₀.heap.IsListIter i1 l1 0 ∧ s₀.heap.IsListIter i2 l2 0 ∧ s₀.heap.IsList l1 (strValues xs).toArray ∧ s₀.heap.IsList l2 (strValues ys).toArray)
    (hD : s₀.heap.PlainList D #[]) (hn : s₀.heap.Ns C m₀) (hz : ∀ a ∈ xs, a.1.length ≤ 1000000) (hz2 : ∀ a ∈ ys, a.1.length ≤ 1000000) (hl : xs.length ≤ 1000000)
    (hR : ∀ h' tk l m', l.map (·.1) = cat2 xs ys → h'.PlainList D (strValues l).toArray → h'.Ns C m' → (∀ b o, b ∉ [z, TO, i1, i2] → b ≠ C → b ≠ D → s₀.heap.get? b = some o → h'.get? b = some o) → R (.ok .next) { s₀ with heap := h', toks := tk }) :
    codeAny (model prog w) A (.compLoop (.ListComp (.BinOp (.Name x p1) .Add (.Name y p2) bp) [⟨.Tuple [.Name x px, .Name y py] kk tp, iter, [], 0⟩] scope pos) 0 (.ref z) (.ref D) env) R s₀ := by
  have W := WalksT.zip2 (prog := prog) (w := w) (A := A) hh z TI TO i1 i2 l1 l2 Z (strValues xs).toArray (strValues ys).toArray
  have hCw : C ∉ [z, TO, i1, i2] := fun q => hCz (by simp only [List.mem_cons, List.not_mem_nil, or_false] at q ⊢; rcases q with h | h | h | h <;> simp [h])
  have hDw : D ∉ [z, TO, i1, i2] := fun q => hDz (by simp only [List.mem_cons, List.not_mem_nil, or_false] at q ⊢; rcases q with h | h | h | h <;> simp [h])
  have hN : min (strValues xs).toArray.size (strValues ys).toArray.size = (cat2 xs ys).length := by simp [strValues, cat2]
  rw [hN] at W
  subst hC
  refine LCp.codeAny_compLoop_pair (fun n s => ∃ i h' tk l m', s = { s₀ with heap := h', toks := tk } ∧ n = (cat2 xs ys).length + 1 - i ∧ i ≤ (cat2 xs ys).length ∧ l.map (·.1) = (cat2 xs ys).take i ∧
    (IsZip h' z TI TO .none ∧ IsPair h' TI (.ref i1) (.ref i2) ∧ (∃ a b, IsPair h' TO a b) ∧ h'.IsListIter i1 l1 i ∧ h'.IsListIter i2 l2 i ∧ h'.IsList l1 (strValues xs).toArray ∧ h'.IsList l2 (strValues ys).toArray) ∧
    h'.PlainList D (strValues l).toArray ∧ h'.Ns env.locals m' ∧ (∀ b o, b ∉ [z, TO, i1, i2] → b ≠ env.locals → b ≠ D → s₀.heap.get? b = some o → h'.get? b = some o)) ?_ ((cat2 xs ys).length + 1)
    ⟨0, s₀.heap, s₀.toks, [], m₀, rfl, rfl, Nat.zero_le _, rfl, hst, hD, hn, fun b o _ _ _ e => e⟩
  rintro n s ⟨i, h', tk, l, m', rfl, rfl, hi, hll, hst', hD', hn', hup⟩
  by_cases hlt : i < (cat2 xs ys).length
  · refine W.item i _ _ _ hlt hst' (fun Tt vals h2 tk2 hP hge hT hMid hup2 => ?_)
    obtain ⟨vx, vy, hvx, hvy, rfl⟩ := hP
    obtain ⟨a, ha, rfl⟩ : ∃ a, xs[i]? = some a ∧ vx = .str a.1 a.2 := by
      rw [List.getElem?_toArray, strValues_get] at hvx
      obtain ⟨a, h1, h2⟩ := Option.map_eq_some_iff.mp hvx
      exact ⟨a, h1, h2.symm⟩
    obtain ⟨b, hb, rfl⟩ : ∃ b, ys[i]? = some b ∧ vy = .str b.1 b.2 := by
      rw [List.getElem?_toArray, strValues_get] at hvy
      obtain ⟨a, h1, h2⟩ := Option.map_eq_some_iff.mp hvy
      exact ⟨a, h1, h2.symm⟩
    have hcat : (cat2 xs ys)[i]? = some (a.1 ++ b.1) := by
      unfold cat2; rw [List.getElem?_zipWith, ha, hb]
    refine W.go _ _ _ i Tt _ _ _ hMid (fun h3 hst3 hup3 => ?_)
    have hT3 : h3.IsTuple Tt #[.str a.1 a.2, .str b.1 b.2] := by
      obtain ⟨o, e, r⟩ := hT; exact ⟨o, hup3 _ _ (W.apart _ _ _ hMid) e, r⟩
    have hn3 : h3.Ns env.locals m' := hn'.at' fun o e => hup3 _ _ hCw (hup2 _ _ hCw e)
    have hD3 : h3.PlainList D (strValues l).toArray := hD'.at fun o e => hup3 _ _ hDw (hup2 _ _ hDw e)
    refine kcp_assign (s := { s₀ with heap := h3, toks := tk2 }) hh hT3 hx hy (by rw [hk]; rfl) hn3 (fun h4 tk4 hn4 hup4 => ?_)
    have hD4 : h4.PlainList D (strValues l).toArray := hD3.at fun o e => hup4 _ _ (Ne.symm hCD) e
    refine wpAny_BinOp (wpAny_Name (wpAny_loadName_local hk hx hn4 (v := .str a.1 a.2) (by simp [hxy]) ?_) hxd)
    refine wpAny_Name (wpAny_loadName_local hk hy hn4 (v := .str b.1 b.2) (by simp) ?_) hyd
    refine PyProof.Rows.add_str (fun t' tk5 => ?_) (by have := hz a (List.mem_of_getElem? ha); have := hz2 b (List.mem_of_getElem? hb); rw [sizeLine_eq]; omega)
    have hlen : l.length = i := by
      have := congrArg List.length hll
      rw [List.length_map, List.length_take] at this
      omega
    have hcl : (cat2 xs ys).length ≤ xs.length := by unfold cat2; rw [List.length_zipWith]; omega
    refine wpAny_list_append_plain (s := { s₀ with heap := h4, toks := tk5 }) hD4 (fun h5 hp5 hs5 => ?_) (by simp only [List.size_toArray, strValues, List.length_map, sizeLine_eq]; omega)
    have hst5 : ∀ b ∈ [z, TI, TO, i1, i2, l1, l2], ∀ o, h3.get? b = some o → h5.get? b = some o := fun q hq o e => hs5.extBut _ _ (fun r => hDz (r ▸ hq)) (hup4 _ _ (fun r => hCz (r ▸ hq)) e)
    refine ⟨_, ?_, i + 1, h5, tk5, l ++ [(a.1 ++ b.1, t')], _, rfl, rfl, hlt, ?_, W.frame _ _ _ hst3 hst5, ?_, hn4.at' fun o e => hs5.extBut _ _ hCD e, ?_⟩
    · omega
    · rw [List.map_append, hll, List.take_add_one, hcat]; rfl
    · have : (strValues l).toArray.push (Value.str (a.1 ++ b.1) t') = (strValues (l ++ [(a.1 ++ b.1, t')])).toArray := by simp [strValues]
      rw [← this]; exact hp5
    · intro q o h1 h2 h3' e
      exact hs5.extBut _ _ h3' (hup4 _ _ h2 (hup3 _ _ h1 (hup2 _ _ h1 (hup q o h1 h2 h3' e))))
  · have hin : i = (cat2 xs ys).length := by omega
    subst hin
    refine W.done _ _ _ hst' (fun h2 tk2 hup2 => ?_)
    exact hR h2 tk2 l m' (by rw [hll, List.take_length]) (hD'.at fun o e => hup2 _ _ hDw e) (hn'.at' fun o e => hup2 _ _ hCw e) (fun b o hb h1 h2 e => hup2 _ _ hb (hup b o hb h1 h2 e))
end Mine
end

section
open PySem PySem.W PyProof.Rows SeqAt
set_option Elab.async false
set_option maxRecDepth 100000
set_option maxHeartbeats 1000000
set_option linter.unusedVariables false
namespace Mine

theorem start_zip {prog : Program} {w : World} {A : Around} {R : Result → Shared → Prop} {s : Shared} {elt target iter : Expr} {ifs : List Expr} {rest : List Comprehension} {scope : Scope} {pos : Pos} {z TI TO : Addr} {f0 acc : Value} {env : Env} (iz : IsZip s.heap z TI TO f0)
    (h : codeAny (model prog w) A (.compLoop (.ListComp elt (⟨target, iter, ifs, 0⟩ :: rest) scope pos) 0 (.ref z) acc env) R s) : codeAny (model prog w) A (.compStart (.ListComp elt (⟨target, iter, ifs, 0⟩ :: rest) scope pos) 0 (.ref z) acc env) R s :=
  codeAny_compStart_list h (wpAny_pyIter_zip iz h)
theorem cat2_T {xs ys : List (Str × Tok)} {as bs : List (List Nat)} (h1 : xs.map (·.1) = as.map T) (h2 : ys.map (·.1) = bs.map T) : cat2 xs ys = (List.zipWith (fun a b => a ++ b) as bs).map T := by
  have e : cat2 xs ys = List.zipWith (fun a b => a ++ b) (xs.map (·.1)) (ys.map (·.1)) := by unfold cat2; rw [List.zipWith_map]
  rw [e, h1, h2, List.zipWith_map, List.map_zipWith]
  congr 1
  funext a b
  exact T_append a b
theorem lens_T {xs : List (Str × Tok)} {as : List (List Nat)} (h1 : xs.map (·.1) = as.map T) {n : Nat} (h : ∀ a ∈ as, a.length ≤ n) : ∀ a ∈ xs, a.1.length ≤ n := fun a ha => by
  have : a.1 ∈ xs.map (·.1) := List.mem_map_of_mem ha
  rw [h1] at this
  obtain ⟨b, hb, e⟩ := List.mem_map.mp this
  rw [← e, T_len]; exact h b hb
theorem farN {b n : Nat} (h : b < n) : (b : Addr) ∉ ([n + 4, n + 3, n, n + 1] : List Addr) ∧ ¬ @Eq Addr b (n + 6) ∧ ¬ @Eq Addr b (n + 5) := by
  refine ⟨fun q => ?_, fun q => ?_, fun q => ?_⟩
  · simp only [List.mem_cons, List.not_mem_nil, or_false] at q
    rcases q with q | q | q | q <;> (have q' : b = _ := q; omega)
  · have q' : b = n + 6 := q; omega
  · have q' : b = n + 5 := q; omega
theorem neN {a b : Nat} (h : a ≠ b) : ¬ @Eq Addr a b := h
theorem zipApart {n l1 l2 : Nat} (h1 : l1 < n) (h2 : l2 < n) : ZipApart (n + 4) (n + 2) (n + 3) n (n + 1) l1 l2 :=
  ⟨neN (by omega), neN (by omega), neN (by omega), neN (by omega), neN (by omega), neN (by omega), neN (by omega), neN (by omega), neN (by omega), neN (by omega), neN (by omega), neN (by omega), neN (by omega), neN (by omega), neN (by omega), neN (by omega), neN (by omega), neN (by omega)⟩
theorem notIn7 {n k l1 l2 : Nat} (h1 : l1 < n) (h2 : l2 < n) (hk : n + 5 ≤ k) : (k : Addr) ∉ ([n + 4, n + 2, n + 3, n, n + 1, l1, l2] : List Addr) := fun q => by
  simp only [List.mem_cons, List.not_mem_nil, or_false] at q
  rcases q with q | q | q | q | q | q | q <;> (have q' : k = _ := q; omega)

def zipOkB (scope : Scope) (x y : Str) : Bool :=
  scope.kind == .function && scope.names.all (fun y => y.2 != .local || scope.names.lookup y.1 == some .local) && scope.names.all (fun y => y.2 != .cell && y.2 != .free) && scope.names.lookup x == some .local && scope.names.lookup y == some .local

theorem Ev.zipCat {c : Cx} {fz ea eb : Expr} {x y : Str} {px py p1 p2 tp bp pz pos : Pos} {kk : Nat} {scope : Scope} {as bs : List (List Nat)} (hz : Ev c fz (.val (.type "zip"))) (ha : Ev c ea (.list (as.map S))) (hb : Ev c eb (.list (bs.map S)))
    (hla : ∀ a ∈ as, a.length ≤ 1000000) (hlb : ∀ a ∈ bs, a.length ≤ 1000000) (hn : as.length ≤ 1000000) (hok : zipOkB scope x y = true) (hxy : x ≠ y) (hxd : (x == ("__debug__" : Str)) = false) (hyd : (y == ("__debug__" : Str)) = false)
    (x1 : eval (.Call fz [ea, eb] [] pz) c.env = (do callWith pz (← eval fz c.env) [] (backTo pz (starEach [ea, eb] c.env)) (backToKw pz (keywordEach [] c.env))) := by rfl)
    (s1 : starEach [ea, eb] c.env = [(false, eval ea c.env), (false, eval eb c.env)] := by rfl)
    (hs : ∀ v, foldedSetIterable (.Call fz [ea, eb] [] pz) c.env v = pure v := by intro _; first | kernel_rfl! | rfl) :
    Ev c (.ListComp (.BinOp (.Name x p1) .Add (.Name y p2) bp) [⟨.Tuple [.Name x px, .Name y py] kk tp, .Call fz [ea, eb] [] pz, [], 0⟩] scope pos) (.list ((List.zipWith (fun a b => a ++ b) as bs).map S)) := fun s ok E => by
  unfold zipOkB at hok
  simp only [Bool.and_eq_true, List.all_eq_true, Bool.or_eq_true, bne_iff_ne, ne_eq, beq_iff_eq] at hok
  obtain ⟨⟨⟨⟨hkind, hnames⟩, hcf⟩, hx⟩, hy⟩ := hok
  have hnames' : ∀ y ∈ scope.names, y.2 = .local → scope.names.lookup y.1 = some .local := fun y hy e => (hnames y hy).resolve_left (fun q => q e)
  have hcell : ∀ y ∈ scope.names, y.2 ≠ .cell := fun y hy => (hcf y hy).1
  obtain ⟨cl, hclos, _⟩ := closure_of (env := c.env) (scope := scope) (fun y hy e => absurd e (hcf y hy).2)
  rw [eval_ListComp]
  refine wpAny_comprehension_free (use := none) rfl hs hclos hkind hnames' ?_
  refine Call_ (wpAny_mono (hz s ok E) (fun v t1 ⟨q, k1⟩ => ?_) fun _ _ e => e) x1
  cases q
  have ok1 := ok.keeps k1
  refine call2 (.type) s1 (wpAny_mono (ha t1 ok1 E) (fun v t2 ⟨r2, k2⟩ => wpAny_mono (hb t2 (ok1.keeps k2) E) (fun u t3 ⟨r3, k3⟩ => ⟨((ok1.keeps k2).keeps k3).over, ?_⟩) fun _ _ e => e) fun _ _ e => e)
  have ok3 := (ok1.keeps k2).keeps k3
  have r2' := r2.keeps k3
  cases r2' with
  | @list l1 its1 _ hx1 hp1 hr1 hpl1 =>
  cases r3 with
  | @list l2 its2 _ hx2 hp2 hr2 hpl2 =>
  obtain ⟨xs, rfl, exs⟩ := hr1.strVals
  obtain ⟨ys, rfl, eys⟩ := hr2.strVals
  refine call_zip_2 hp1 hp2 (fun h4 iz iti ito ii1 ii2 hsz hup4 => ?_)
  refine wpAny_pyIter_zip (s := { t3 with heap := h4 }) iz ?_
  refine wpAny_newList ?_ (Nat.zero_le _)
  refine newEnv_around ?_
  rw [pushCells_none hcell]
  have hlt1 : l1 < t3.heap.objs.size := by obtain ⟨n, e⟩ := hpl1; exact Heap.lt_size e
  have hlt2 : l2 < t3.heap.objs.size := by obtain ⟨n, e⟩ := hpl2; exact Heap.lt_size e
  have hD : (h4.push { cls := .type "list", data := .seq ([] : List Value).toArray }).objs.size = t3.heap.objs.size + 6 := by rw [Heap.size_push, hsz]
  have up6 : ∀ b o, h4.get? b = some o → ((h4.push { cls := .type "list", data := .seq ([] : List Value).toArray }).push { cls := .type "dict", data := .dict #[] }).get? b = some o := fun b o e => Heap.get?_push_of_some _ (Heap.get?_push_of_some _ e)
  have hp6 : ((h4.push { cls := .type "list", data := .seq ([] : List Value).toArray }).push { cls := .type "dict", data := .dict #[] }).PlainList h4.objs.size #[] := ⟨0, Heap.get?_push_of_some _ (Heap.get?_push_size _ rfl)⟩
  have hn6 : ((h4.push { cls := .type "list", data := .seq ([] : List Value).toArray }).push { cls := .type "dict", data := .dict #[] }).Ns (h4.push { cls := .type "list", data := .seq ([] : List Value).toArray }).objs.size (fun _ => none) := Heap.Ns.new ..
  generalize hH : ((h4.push { cls := .type "list", data := .seq ([] : List Value).toArray }).push { cls := .type "dict", data := .dict #[] }) = H6 at up6 hp6 hn6
  refine start_zip (s := { t3 with heap := H6 }) (up6 _ _ iz) ?_
  have lx : (relabel scope c.env).names.lookup x = some .local := lookup_relabel_local hx
  have ly : (relabel scope c.env).names.lookup y = some .local := lookup_relabel_local hy
  refine zip_loop (s₀ := { t3 with heap := H6 }) (xs := xs) (ys := ys) ok3.room.handled (zipApart hlt1 hlt2) rfl lx ly hkind hxy hxd hyd ?_ ?_ ?_ ⟨up6 _ _ iz, up6 _ _ iti, ⟨_, _, up6 _ _ ito⟩, ii1.at fun o e => up6 _ _ e, ii2.at fun o e => up6 _ _ e, hp1.at fun o e => up6 _ _ (hup4 _ _ e), hp2.at fun o e => up6 _ _ (hup4 _ _ e)⟩ hp6 hn6 ?_ ?_ ?_ ?_
  · show (h4.push { cls := .type "list", data := .seq ([] : List Value).toArray }).objs.size ∉ _
    rw [hD]
    exact notIn7 hlt1 hlt2 (by omega)
  · show h4.objs.size ∉ _
    rw [hsz]
    exact notIn7 hlt1 hlt2 (by omega)
  · show (h4.push { cls := .type "list", data := .seq ([] : List Value).toArray }).objs.size ≠ h4.objs.size
    rw [Heap.size_push]; exact Nat.succ_ne_self _
  · exact lens_T exs hla
  · exact lens_T eys hlb
  · have := congrArg List.length exs
    simp only [List.length_map] at this
    omega
  · intro h' tk l m' hll hpl hnn hup
    have hCD : h4.objs.size ≠ (h4.push { cls := .type "list", data := .seq ([] : List Value).toArray }).objs.size := by rw [Heap.size_push]; exact Ne.symm (Nat.succ_ne_self _)
    have big : ∀ b o, t3.heap.get? b = some o → h'.get? b = some o := fun b o e => by
      have hf := farN (b := b) (n := t3.heap.objs.size) (Heap.lt_size e)
      exact hup b o hf.1 (by show ¬ @Eq Addr b _; rw [hD]; exact hf.2.1) (by show ¬ @Eq Addr b _; rw [hsz]; exact hf.2.2) (up6 _ _ (hup4 _ _ e))
    refine ⟨m', hnn, fun h'' hs'' => ⟨?_, ?_⟩⟩
    · have hpl2' : h''.PlainList h4.objs.size (strValues l).toArray := hpl.at fun o e => hs''.extBut _ _ hCD e
      refine .list ?_ hpl2'.isList (strVals_reps (hll.trans (cat2_T exs eys))) hpl2'
      refine ok3.fresh ?_
      cases e : t3.heap.get? h4.objs.size with
      | none => rfl
      | some o =>
        exact absurd rfl (hsz ▸ (farN (b := h4.objs.size) (n := t3.heap.objs.size) (Heap.lt_size e)).2.2)
    · refine ((k1.tr k2).tr k3).tr (Kp.mk' (s := t3) fun b o e => hs''.extBut b o (fun q => ?_) (big b o e))
      have hf := farN (b := b) (n := t3.heap.objs.size) (Heap.lt_size e)
      rw [← hD] at hf
      exact hf.2.1 q
end Mine
end

section
open PySem PySem.W PyProof.Rows SeqAt
set_option Elab.async false
set_option maxRecDepth 100000
set_option linter.unusedVariables false
namespace Mine
theorem div2 (a : Int) : Builtin.divisionGoesByPylong a 2 = false := by
  unfold Builtin.divisionGoesByPylong
  show (decide (1 > 300) && _) = false
  rfl
theorem div14 (a : Int) : Builtin.divisionGoesByPylong a 14 = false := by
  unfold Builtin.divisionGoesByPylong
  show (decide (1 > 300) && _) = false
  rfl
theorem div26 (a : Int) : Builtin.divisionGoesByPylong a 26 = false := by
  unfold Builtin.divisionGoesByPylong
  show (decide (1 > 300) && _) = false
  rfl
theorem div28 (a : Int) : Builtin.divisionGoesByPylong a 28 = false := by
  unfold Builtin.divisionGoesByPylong
  show (decide (1 > 300) && _) = false
  rfl
section
variable {c : Cx}
theorem Ev.and3 {e1 e2 e3 : Expr} {pos : Pos} {d : D} (h1 : Ev c e1 (.bool true)) (h2 : Ev c e2 (.bool true)) (h3 : Ev c e3 d) : Ev c (.BoolOp .And [e1, e2, e3] pos) d := fun s o E => by
  show wpAny _ _ (eval e1 c.env >>= fun v => standAt pos >>= fun _ => holding [v] (truthy v) >>= fun t => match BoolOp.And, t with | .And, false | .Or, true => pure v | _, _ => (eval e2 c.env >>= fun v => standAt pos >>= fun _ => holding [v] (truthy v) >>= fun t => match BoolOp.And, t with | .And, false | .Or, true => pure v | _, _ => eval e3 c.env)) _ _ _
  refine wpAny_bind (wpAny_mono (h1 s o E) (fun v s1 ⟨r1, k1⟩ => ?_) fun _ _ e => e)
  cases r1
  refine wpAny_bind (wpAny_standAt (wpAny_bind (wpAny_holding (wpAny_truthy_bool ?_))))
  refine wpAny_bind (wpAny_mono (h2 s1 (o.keeps k1) E) (fun v s2 ⟨r2, k2⟩ => ?_) fun _ _ e => e)
  cases r2
  refine wpAny_bind (wpAny_standAt (wpAny_bind (wpAny_holding (wpAny_truthy_bool ?_))))
  exact wpAny_mono (h3 s2 ((o.keeps k1).keeps k2) E) (fun v s3 ⟨r3, k3⟩ => ⟨r3, (k1.tr k2).tr k3⟩) fun _ _ e => e
end
end Mine
end

section
open PySem PySem.W PyProof.Rows SeqAt
set_option Elab.async false
set_option maxRecDepth 100000
set_option linter.unusedVariables false
namespace Mine

/-- what a call's code does -/
def FnC (prog : Program) (w : World) (h₀ : Heap) (n : Nat) (a : Addr) (ds : List D) (d : D) : Prop :=
  ∀ (A : Around) (X : List Addr) (s : Shared) (vs : List Value) (R : Result → Shared → Prop), Room A n → Over h₀ s → (∀ x ∈ X, (s.heap.get? x).isSome = true) → Reps X s.heap vs ds →
    (∀ v s', Rep X s'.heap v d → Kp s s' → R (.ok (.ret v)) s') → codeAny (model prog w) A (.call (.ref a) ⟨vs, []⟩) R s

theorem FnC.ofK {w : World} {h₀ : Heap} {mg mb : Str → Option Value} (B : Base w h₀ mg mb) (a : Addr) (n : Nat) {body : List Stmt} (ps : List Str) {ds : List D} {d : D} {o : Obj}
    (ho : (KK w.params).lookup a = some o) (hdata : o.data = .func (fdAt w.params a)) (hcd : codeIn (KK w.params) (fdAt w.params a).code (fdAt w.params a).qualname = true) (hbody : (fdAt w.params a).body = .stmts body)
    (hbind : ∀ vs, vs.length = ds.length → bindArgs (fdAt w.params a) ⟨vs, []⟩ = pure (ps.zip vs)) (hlen : ps.length = ds.length) (hclo : (fdAt w.params a).closure = []) (hglob : (fdAt w.params a).globals = mainGlobals) (hblt : (fdAt w.params a).builtins = builtinsNs)
    (hok : startOkB (fdAt w.params a).scope ps = true)
    (hrun : ∀ (A' : Around) (X : List Addr) (L : Addr) (s₁ : Shared), Frm (cx w A' n h₀ X L a ps ds) s₁ → ∀ E',
      wpAny (model PR w) A' (execs body (envK w.params a L)) (fun f s' => ∃ v mod, f = .ret v ∧ Rep X s'.heap v d ∧ Mv mod s₁ s' ∧ ∀ b ∈ mod, b ∈ fo (envK w.params a L) ∨ s₁.heap.get? b = none) E' s₁)
    (hco : (fdAt w.params a).scope.isCoroutine = false := by kernel_rfl!) (hgen : (fdAt w.params a).scope.isGenerator = false := by kernel_rfl!) (hk : (fdAt w.params a).scope.kind = .function := by kernel_rfl!) : FnC PR w h₀ (n + 1) a ds d := by
  intro A X s vs R hR hO hX hr hq
  refine call_body (gl := GL) (X := X) (B.K _ _ ho) hdata B.lim (codeRec_of B.K hcd) hbody hbind hlen hclo hglob hblt hok (glob B) hR hO hX hr (fun A' L s₁ F k0 hfo E' => ?_) hco hgen hk
  refine wpAny_mono (hrun A' X L s₁ F E') (fun f s' h => ?_) fun _ _ e => e
  obtain ⟨v, mod, rfl, r, ⟨h', t', rfl, hm⟩, hmod⟩ := h
  refine hq v _ r ?_
  obtain ⟨h1, t1, rfl, keep⟩ := k0
  refine Kp.mk' (s := s) fun b ob e => hm b ob (fun q => ?_) (keep b ob e)
  rcases hmod b q with q | q
  · rw [hfo b q] at e; cases e
  · have := keep b ob e; rw [q] at this; cases this
end Mine
end

section
open PySem PySem.W PyProof.Rows SeqAt
set_option Elab.async false
set_option maxRecDepth 100000
set_option maxHeartbeats 4000000
set_option linter.unusedVariables false
namespace Mine

def letterOf (v : Int) : Nat := if v / 14 % 2 = 0 then 97 else 65
def endOf (v : Int) : List Nat := if v / 28 % 3 = 0 then [13] else if v / 28 % 3 = 1 then [10] else [13, 10]
def dueOf (H : Nat) (v : Int) : List Nat := List.replicate (v % ((H : Int) + 1)).toNat 46 ++ [letterOf v]
def drawnOf (ns : List Int) : List Int := (ns.take 6).map (· % 1000000)
def starsOf (H : Nat) (base : List Int) (t : Int) : List Int := base.map fun mark => ((1 + t / 2 % ((H : Int) - 1)) * mark + t / 26) % (H : Int)
def numbersOf (ns : List Int) : List Int := [2, 45, 58] ++ drawnOf ns
def rowsOf (H : Nat) (ns : List Int) : List (List Nat) := (numbersOf ns).map (dueOf H)
def wholeOf (H : Nat) (ns : List Int) : List Nat := (List.zipWith (fun a b => a ++ b) (rowsOf H ns) ((numbersOf ns).map endOf)).flatten ++ [42]
def dottedOf (H : Nat) (ns : List Int) : List (List Nat) := (rowsOf H ns).filter fun r => r.take 1 == [46]

theorem letter_at (v : Int) : ([97, 65] : List Nat)[(v / 14 % 2).toNat]? = some (letterOf v) := by
  unfold letterOf
  rcases (show v / 14 % 2 = 0 ∨ v / 14 % 2 = 1 by omega) with h | h <;> rw [h] <;> rfl
theorem end_at (v : Int) : ([S [13], S [10], S [13, 10]] : List D)[(v / 28 % 3).toNat]? = some (S (endOf v)) := by
  unfold endOf
  rcases (show v / 28 % 3 = 0 ∨ v / 28 % 3 = 1 ∨ v / 28 % 3 = 2 by omega) with h | h | h <;> rw [h] <;> rfl
theorem numbers_len (ns : List Int) : (numbersOf ns).length ≤ 9 := by
  simp only [numbersOf, drawnOf, List.length_append, List.length_map, List.length_take, List.length_cons, List.length_nil]; omega

theorem law_fn {w : World} {h₀ : Heap} {mg mb : Str → Option Value} (B : Base w h₀ mg mb) (ns : List Int) (hns : ns.length ≤ 63) (H : Nat) (h0 : 2 < H) (h1 : H ≤ 13) (base : List Int) (hb : base.length ≤ 4)
    (hH : ([.int 7, .int 13] : List D)[((drawnOf ns).sum % 2).toNat]? = some (.int H)) (hB : ([.list ([0, 1, 3].map .int), .list ([0, 1, 3, 9].map .int)] : List D)[((drawnOf ns).sum % 2).toNat]? = some (.list (base.map .int)))
    (mail : Nat → List Nat) (P out : Nat → List (List Nat)) (hm0 : mail 0 = wholeOf H ns)
    (Y : ListsHyp (rowsOf H ns) (rowsUpTo (starsOf H base (drawnOf ns).sum) H [97, 65] (2 * (H : Int)).toNat) (rowsUpTo (starsOf H base (drawnOf ns).sum) H [65] (2 * (H : Int)).toNat) H mail P out)
    (meet : ∀ (k j : Nat) (a b : List Nat), j < k → (dottedOf H ns)[j]? = some a → (dottedOf H ns)[k]? = some b → a.map lo1 ≠ b.map lo1 → (((List.range H).map out).filter fun p => p.contains a && p.contains b).length = 1)
    (Ls : Nat → List (List (List Nat))) (hL0 : Ls 0 = (List.range H).map out) (hzL : ∀ i, (Ls i).length ≤ 100) (hzp : ∀ i, ∀ p ∈ Ls i, p.length ≤ 100)
    (hstep : ∀ i (h : i < (dottedOf H ns).length), ∃ tail, freeOf (Ls i) = (dottedOf H ns)[i] :: tail ∧ (∀ x ∈ tail, x = (dottedOf H ns)[i]) ∧ Ls (i + 1) = nextOf (Ls i) (dottedOf H ns)[i])
    (hend : ∀ p ∈ Ls (dottedOf H ns).length, p = []) :
    FnC PR w h₀ 6 136 [.ilist (ns.map .int)] (.bool true) := by
  refine FnC.ofK B 136 5 ["script"] rfl rfl (by kernel_rfl!) rfl (fun vs h => ?_) rfl rfl rfl rfl (by kernel_rfl!) ?_
  · match vs, h with
    | [a], _ => kernel_rfl!
  intro A' X L s₁ F E'
  have nl := numbers_len ns
  refine ex_assignCompM F (mk := D.int) (fun a b h => int_inj _ _ h) .local (xs := ns.take 6) (fun _ => true) (fun v => D.int (v % 1000000)) (EvIt.list ((Ev.sliceI (Ev.name rfl) .none (.some Ev.cint) (by simp; omega)).as (by rw [show pslice none (some 6) (ns.map D.int) = (ns.map D.int).take 6 from pslice_to _ 6, ← List.map_take]))) (fun _ _ _ _ => .nil) (fun v _ _ env X' => Ev.binop (Ev.name rfl) Ev.cint (Op2.modI (by decide))) (by simp; omega) ?_
  intro s2 F2 m2
  have ed : ((ns.take 6).filter fun _ => true).map (fun v => D.int (v % 1000000)) = (drawnOf ns).map D.int := by
    rw [List.filter_eq_self.mpr (fun _ _ => rfl)]; unfold drawnOf; rw [List.map_map]; rfl
  rw [ed] at F2
  refine ex_assign F2 .cell (Ev.sum (Ev.name rfl) (.cons (Ev.name rfl) .nil)) ?_
  intro s3 F3 m3
  generalize ht : (drawnOf ns).sum = tot at F3 hH hB Y
  refine ex_assign F3 .cell (Ev.itemL (Ev.list (.cons Ev.cint (.cons Ev.cint .nil))) (Ev.binop (Ev.name rfl) Ev.cint (Op2.modI (by decide))) (by omega) (by omega) hH) ?_
  intro s4 F4 m4
  refine ex_assign F4 .local (Ev.itemL (Ev.list (.cons (Ev.list (.cons Ev.cint (.cons Ev.cint (.cons Ev.cint .nil)))) (.cons (Ev.list (.cons Ev.cint (.cons Ev.cint (.cons Ev.cint (.cons Ev.cint .nil))))) .nil))) (Ev.binop (Ev.name rfl) Ev.cint (Op2.modI (by decide))) (by omega) (by omega) hB) ?_
  intro s5 F5 m5
  refine ex_assignCompM F5 (mk := D.int) (fun a b h => int_inj _ _ h) .local (xs := base) (fun _ => true) (fun mark => D.int (((1 + tot / 2 % ((H : Int) - 1)) * mark + tot / 26) % (H : Int))) (EvIt.list (Ev.name rfl)) (fun _ _ _ _ => .nil)
    (fun mark _ _ env X' => Ev.binop (Ev.binop (Ev.binop (Ev.binop Ev.cint (Ev.binop (Ev.binop (Ev.name rfl) Ev.cint (Op2.divI (by decide) (div2 _))) (Ev.binop (Ev.name rfl) Ev.cint Op2.subI) (Op2.modI (by omega))) Op2.addI) (Ev.name rfl) (Op2.mulI (mulOk_small (by have := Int.emod_nonneg (tot / 2) (show (H : Int) - 1 ≠ 0 by omega); omega) (by have := Int.emod_lt_of_pos (tot / 2) (show (0 : Int) < (H : Int) - 1 by omega); omega)))) (Ev.binop (Ev.name rfl) Ev.cint (Op2.divI (by decide) (div26 _))) Op2.addI) (Ev.name rfl) (Op2.modI (by omega))) (by omega) ?_
  intro s6 F6 m6
  have es : (base.filter fun _ => true).map (fun mark => D.int (((1 + tot / 2 % ((H : Int) - 1)) * mark + tot / 26) % (H : Int))) = (starsOf H base tot).map D.int := by
    rw [List.filter_eq_self.mpr (fun _ _ => rfl)]; unfold starsOf; rw [List.map_map]; rfl
  rw [es] at F6
  refine ex_assign F6 .local ((Ev.binop (Ev.list (.cons Ev.cint (.cons Ev.cint (.cons Ev.cint .nil)))) (Ev.name rfl) (Op2.addL (by simp [drawnOf]; omega))).as (d' := .list ((numbersOf ns).map .int)) (by simp [numbersOf])) ?_
  intro s7 F7 m7
  refine ex_assignCompM F7 (mk := D.int) (fun a b h => int_inj _ _ h) .local (xs := numbersOf ns) (fun _ => true) (fun v => S (dueOf H v)) (EvIt.list (Ev.name rfl)) (fun _ _ _ _ => .nil) (fun v _ _ env X' => ?_) (by omega) ?_
  · have hv0 := Int.emod_nonneg v (show (H : Int) + 1 ≠ 0 by omega)
    have hv1 := Int.emod_lt_of_pos v (show (0 : Int) < (H : Int) + 1 by omega)
    refine Ev.binop (Ev.binop (Ev.cstr [46]) (Ev.binop (Ev.name rfl) (Ev.binop (Ev.name rfl) Ev.cint Op2.addI) (Op2.modI (by omega))) (Op2.mulS (by omega) (by omega))) (Ev.itemS (Ev.cstr [97, 65]) (Ev.binop (Ev.binop (Ev.name rfl) Ev.cint (Op2.divI (by decide) (div14 _))) Ev.cint (Op2.modI (by decide))) (by omega) (by omega) (letter_at v)) (Op2.addS ?_)
    rw [List.length_replicate]; simp only [List.length_cons, List.length_nil]; omega
  intro s8 F8 m8
  have edu : ((numbersOf ns).filter fun _ => true).map (fun v => S (dueOf H v)) = (rowsOf H ns).map S := by
    rw [List.filter_eq_self.mpr (fun _ _ => rfl)]; unfold rowsOf; rw [List.map_map]; rfl
  rw [edu] at F8
  refine ex_assignCompM F8 (mk := D.int) (fun a b h => int_inj _ _ h) .local (xs := numbersOf ns) (fun _ => true) (fun v => S (endOf v)) (EvIt.list (Ev.name rfl)) (fun _ _ _ _ => .nil) (fun v _ _ env X' => ?_) (by omega) ?_
  · exact Ev.itemL (Ev.list (.cons (Ev.cstr [13]) (.cons (Ev.cstr [10]) (.cons (Ev.cstr [13, 10]) .nil)))) (Ev.binop (Ev.binop (Ev.name rfl) Ev.cint (Op2.divI (by decide) (div28 _))) Ev.cint (Op2.modI (by decide))) (by omega) (by omega) (end_at v)
  intro s9 F9 m9
  have een : ((numbersOf ns).filter fun _ => true).map (fun v => S (endOf v)) = ((numbersOf ns).map endOf).map S := by
    rw [List.filter_eq_self.mpr (fun _ _ => rfl), List.map_map]; rfl
  rw [een] at F9
  have rlen : (rowsOf H ns).length ≤ 9 := by unfold rowsOf; rw [List.length_map]; exact nl
  have mz0 := Y.mz 0 (by omega)
  rw [hm0] at mz0
  have wz : (List.zipWith (fun a b => a ++ b) (rowsOf H ns) ((numbersOf ns).map endOf)).flatten.length ≤ 10000 := by
    unfold wholeOf at mz0; rw [List.length_append] at mz0; omega
  refine ex_assign F9 .local ((Ev.binop (Ev.join (ys := List.zipWith (fun a b => a ++ b) (rowsOf H ns) ((numbersOf ns).map endOf)) (Ev.cstr []) (.cons (Ev.zipCat (Ev.name rfl) (Ev.name rfl) (Ev.name rfl) (fun a ha => by have := Y.rl a ha; omega) ?_ (by omega) (by kernel_rfl!) (by decide) (by decide) (by decide)) .nil) (by omega)) (Ev.cstr [42]) (Op2.addS (by simp only [List.length_cons, List.length_nil]; omega))).as (d' := S (mail 0)) (by rw [hm0]; rfl)) ?_
  · intro a ha
    obtain ⟨v, _, rfl⟩ := List.mem_map.mp ha
    unfold endOf; split
    · simp
    · split <;> simp
  intro s10 F10 m10
  refine ex_assign F10 .local (Ev.fn (Ev.name rfl) (.cons (Ev.name rfl) (.cons (Ev.name rfl) (.cons (Ev.name rfl) (.cons (Ev.name rfl) .nil)))) (lists_fn B (rowsOf H ns) (starsOf H base tot) H (by omega) h1 mail P out Y) (by show _ ≤ 5; decide) (B.K 121 _ rfl) rfl) ?_
  intro s11 F11 m11
  have ep : ((List.range H).map fun i => LL (out i)) = ((List.range H).map out).map LL := by rw [List.map_map]; rfl
  rw [ep] at F11
  refine ex_assignCompM F11 (mk := S) (fun a b h => S_inj _ _ h) .local (xs := rowsOf H ns) (fun r => r.take 1 == [46]) (fun r => S r) (EvIt.list (Ev.name rfl)) (fun r hr env X' => .one ((EvT.cmp (Ev.sliceS (Ev.name rfl) .none (.some Ev.cint) (by have := Y.rl r hr; omega)) (Ev.cstr [46]) Op2.eqS).as (by rw [show pslice none (some 1) r = r.take 1 from pslice_to r 1]))) (fun r _ _ env X' => Ev.name rfl) (by omega) ?_
  intro s12 F12 m12
  have dsub : ∀ r ∈ dottedOf H ns, r ∈ rowsOf H ns := fun r hr => (List.mem_filter.mp hr).1
  have dlen : (dottedOf H ns).length ≤ 9 := Nat.le_trans (List.length_filter_le _ _) rlen
  have mf := meet_fn B ((List.range H).map out) (dottedOf H ns) (fun r hr => ⟨fun c hc => by
      obtain ⟨v, _, rfl⟩ := List.mem_map.mp (dsub r hr)
      unfold dueOf at hc
      rcases List.mem_append.mp hc with hc | hc
      · rw [List.eq_of_mem_replicate hc]; decide
      · rw [List.mem_singleton.mp hc]; unfold letterOf; split <;> decide, Y.rl r (dsub r hr)⟩) (by omega) (by simp; omega) meet
  have pf := put_fn B Ls (dottedOf H ns) (by omega) hzL hzp hstep hend
  rw [hL0] at pf
  refine ex_ret F12 (Ev.and3 (Ev.cmp (Ev.name rfl) Ev.cnone Op2.isNotNoneL) (Ev.fn (Ev.name rfl) (.cons (Ev.name rfl) (.cons (Ev.name rfl) .nil)) mf (by show _ ≤ 5; decide) (B.K 126 _ rfl) rfl)
    ((Ev.cmp (Ev.fn (Ev.name rfl) (.cons (Ev.name rfl) .nil) pf (by show _ ≤ 5; decide) (B.K 131 _ rfl) rfl) (Ev.name rfl) (Op2.eqLS (a := dottedOf H ns) (b := dottedOf H ns))).as (d' := .bool true) (by simp))) fun v s13 r k => ?_
  exact ⟨v, fo (callEnvC _ L 136), rfl, r.avoid fun b hb => .inl (List.mem_append_right _ hb), (((((((((m2.tr m3).tr m4).tr m5).tr m6).tr m7).tr m8).tr m9).tr m10).tr m11).tr (m12.tr (k.mv _)), fun b hb => .inl hb⟩
end Mine
end

section
open PySem PySem.W PyProof.Rows SeqAt
set_option Elab.async false
set_option maxRecDepth 100000
set_option maxHeartbeats 1000000
set_option linter.unusedVariables false
namespace Mine

theorem due_row (H : Nat) (v : Int) : isRow H (dueOf H v) := by
  refine ⟨_, _, ?_, ?_, rfl⟩
  · have := Int.emod_nonneg v (show (H : Int) + 1 ≠ 0 by omega)
    have := Int.emod_lt_of_pos v (show (0 : Int) < (H : Int) + 1 by omega)
    omega
  · unfold letterOf; split
    · exact .inl rfl
    · exact .inr rfl
theorem rows_row (H : Nat) (ns : List Int) : ∀ r ∈ rowsOf H ns, isRow H r := fun r hr => by
  obtain ⟨v, _, rfl⟩ := List.mem_map.mp hr
  exact due_row H v
theorem end_is (v : Int) : endOf v = [13] ∨ endOf v = [10] ∨ endOf v = [13, 10] := by
  unfold endOf
  split
  · exact .inl rfl
  · split
    · exact .inr (.inl rfl)
    · exact .inr (.inr rfl)
theorem dotted_is {H : Nat} {ns : List Int} {r : List Nat} (h : r ∈ dottedOf H ns) : r ∈ rowsOf H ns ∧ ∃ m l, 0 < m ∧ m ≤ H ∧ (l = 97 ∨ l = 65) ∧ r = List.replicate m 46 ++ [l] := by
  obtain ⟨h1, h2⟩ := List.mem_filter.mp h
  refine ⟨h1, ?_⟩
  obtain ⟨m, l, hm, hl, rfl⟩ := rows_row H ns r h1
  refine ⟨m, l, ?_, hm, hl, rfl⟩
  rcases Nat.eq_zero_or_pos m with rfl | h
  · exfalso
    have h2 : ([l] == [46]) = true := h2
    simp at h2
    omega
  · exact h
theorem named_star {H : Nat} {base : List Int} {tot : Int} {i m l : Nat} (hi : i < H) (h0 : 0 < m) (hm : m ≤ H) (hl : l = 97 ∨ l = 65) : named (starsOf H base tot) H i (List.replicate m 46 ++ [l]) = starAt H base tot (m + i + 1) := by
  rw [Bool.eq_iff_iff, named_iff hi hm hl]
  exact ⟨fun h => h.2, fun h => ⟨h0, h⟩⟩
theorem named_dot {H : Nat} {marks : List Int} {i : Nat} (hi : i < H) {r : List Nat} (hr : isRow H r) (h : named marks H i r = true) : (r.take 1 == [46]) = true := by
  obtain ⟨m, l, hm, hl, rfl⟩ := hr
  obtain ⟨h0, _⟩ := (named_iff hi hm hl).mp h
  obtain ⟨k, rfl⟩ : ∃ k, m = k + 1 := ⟨m - 1, by omega⟩
  simp [List.replicate_succ]

theorem law_facts {w : World} {h₀ : Heap} {mg mb : Str → Option Value} (B : Base w h₀ mg mb) (ns : List Int) (hns : ns.length ≤ 63) (H : Nat) (h0 : 2 < H) (h1 : H ≤ 13) (base : List Int) (hb : base.length ≤ 4)
    (hH : ([.int 7, .int 13] : List D)[((drawnOf ns).sum % 2).toNat]? = some (.int H)) (hB : ([.list ([0, 1, 3].map .int), .list ([0, 1, 3, 9].map .int)] : List D)[((drawnOf ns).sum % 2).toNat]? = some (.list (base.map .int)))
    (hmeet : ∀ a b : Nat, 0 < a → a ≤ H → 0 < b → b ≤ H → a ≠ b → ((List.range H).filter fun i => starAt H base (drawnOf ns).sum (a + i + 1) && starAt H base (drawnOf ns).sum (b + i + 1)).length = 1) :
    FnC PR w h₀ 6 136 [.ilist (ns.map .int)] (.bool true) := by
  have nl := numbers_len ns
  have rlen : (rowsOf H ns).length ≤ 9 := by unfold rowsOf; rw [List.length_map]; exact nl
  have dlen : (dottedOf H ns).length ≤ 9 := Nat.le_trans (List.length_filter_le _ _) rlen
  refine law_fn B ns hns H h0 h1 base hb hH hB (mailsOf (rowsOf H ns) ((numbersOf ns).map endOf)) (fun i => (rowsOf H ns).map (dotted (i + 1)) ++ [[42]]) (fun i => (rowsOf H ns).filter (named (starsOf H base (drawnOf ns).sum) H i)) rfl
    (lists_hyp (rowsOf H ns) ((numbersOf ns).map endOf) (starsOf H base (drawnOf ns).sum) H (by omega) h1 rlen (by simp [rowsOf]) (rows_row H ns) (fun e he => by
      obtain ⟨v, _, rfl⟩ := List.mem_map.mp he; exact end_is v)) ?_
    (fun k => leftOf H (named (starsOf H base (drawnOf ns).sum) H) ((dottedOf H ns).drop k)) ?_ (fun i => by simp [leftOf]; omega) (fun i => left_z (by rw [List.length_drop]; omega)) ?_ ?_
  · intro k j a b hjk ha hb' hne
    obtain ⟨har, m, l, hm0, hm, hl, ea⟩ := dotted_is (List.mem_of_getElem? ha)
    obtain ⟨hbr, m', l', hm0', hm', hl', eb⟩ := dotted_is (List.mem_of_getElem? hb')
    have hmm : m ≠ m' := by
      rintro rfl
      apply hne
      rw [ea, eb, lo_row hl, lo_row hl']
    rw [List.filter_map, List.length_map]
    refine Eq.trans ?_ (hmeet m m' hm0 hm hm0' hm' hmm)
    congr 1
    refine List.filter_congr fun i hi => ?_
    have hi := List.mem_range.mp hi
    have key : ∀ x ∈ rowsOf H ns, ((rowsOf H ns).filter (named (starsOf H base (drawnOf ns).sum) H i)).contains x = named (starsOf H base (drawnOf ns).sum) H i x := fun x hx => by
      rw [Bool.eq_iff_iff, List.contains_iff_mem, List.mem_filter]
      exact ⟨fun h => h.2, fun h => ⟨hx, h⟩⟩
    simp only [Function.comp]
    rw [key a har, key b hbr, ea, eb, named_star hi hm0 hm hl, named_star hi hm0' hm' hl']
  · show leftOf H _ (dottedOf H ns) = _
    unfold leftOf
    refine List.map_congr_left fun i hi => ?_
    have hi := List.mem_range.mp hi
    unfold dottedOf
    rw [List.filter_filter]
    refine List.filter_congr fun r hr => ?_
    rw [Bool.eq_iff_iff, Bool.and_eq_true]
    exact ⟨fun h => h.1, fun h => ⟨h, named_dot hi (rows_row H ns r hr) h⟩⟩
  · refine left_steps (dottedOf H ns) fun a ha b hb' => ?_
    obtain ⟨har, m, l, hm0, hm, hl, ea⟩ := dotted_is ha
    obtain ⟨hbr, m', l', hm0', hm', hl', eb⟩ := dotted_is hb'
    by_cases hmm : m = m'
    · subst hmm
      obtain ⟨i, hi, hp, _⟩ := of_one (hmeet m (if m = 1 then 2 else 1) hm0 hm (by split <;> omega) (by split <;> omega) (by split <;> omega))
      have hp := (Bool.and_eq_true _ _ ▸ hp).1
      exact ⟨i, hi, by rw [ea, named_star hi hm0 hm hl]; exact hp, by rw [eb, named_star hi hm0 hm hl']; exact hp⟩
    · obtain ⟨i, hi, hp, _⟩ := of_one (hmeet m m' hm0 hm hm0' hm' hmm)
      rw [Bool.and_eq_true] at hp
      exact ⟨i, hi, by rw [ea, named_star hi hm0 hm hl]; exact hp.1, by rw [eb, named_star hi hm0' hm' hl']; exact hp.2⟩
  · show ∀ p ∈ leftOf H _ ((dottedOf H ns).drop (dottedOf H ns).length), p = []
    rw [List.drop_length]
    exact left_end

theorem law_true {w : World} {h₀ : Heap} {mg mb : Str → Option Value} (B : Base w h₀ mg mb) (ns : List Int) (hns : ns.length ≤ 63) : FnC PR w h₀ 6 136 [.ilist (ns.map .int)] (.bool true) := by
  rcases (show (drawnOf ns).sum % 2 = 0 ∨ (drawnOf ns).sum % 2 = 1 by omega) with e | e
  · exact law_facts B ns hns 7 (by decide) (by decide) [0, 1, 3] (by decide) (by rw [e]; rfl) (by rw [e]; rfl) fun a b a0 a1 b0 b1 ne => meets7 _ a0 a1 b0 b1 ne
  · exact law_facts B ns hns 13 (by decide) (by decide) [0, 1, 3, 9] (by decide) (by rw [e]; rfl) (by rw [e]; rfl) fun a b a0 a1 b0 b1 ne => meets13 _ a0 a1 b0 b1 ne
end Mine
end

section
open PySem PySem.W PyProof.Rows SeqAt
set_option Elab.async false
set_option maxRecDepth 100000
set_option maxHeartbeats 4000000
set_option linter.unusedVariables false
namespace Mine

theorem reps_ints {X : List Addr} {h : Heap} : ∀ {vs : List Value} {ns : List Int}, IntsAre vs ns → Reps X h vs (ns.map .int)
  | _, _, .nil => .nil
  | _, _, .cons _ _ h => .cons (.int _ _) (reps_ints h)
theorem caller_room : Room callerA 6 := ⟨rfl, by decide +kernel, by decide +kernel⟩
theorem law_code {w : World} {h₀ : Heap} {mg mb : Str → Option Value} (B : Base w h₀ mg mb) {s : Shared} (hs : s.heap = h₀) {a : Addr} {vs : List Value} {ns : List Int} (hL : s.heap.IsList a vs.toArray) (hI : IntsAre vs ns) (hn : ns.length ≤ 63)
    (R : Result → Shared → Prop) (hR : ∀ s', Kp s s' → R (.ok (.ret (.bool true))) s') : codeAny (model PR w) callerA (.call (.ref 136) ⟨[.ref a], []⟩) R s := by
  subst hs
  refine law_true B ns hn callerA [] s [.ref a] R caller_room (fun _ _ e => e) (by simp) (.cons (.ilist (by simp) hL (reps_ints hI)) .nil) (fun v s' r k => ?_)
  cases r
  exact hR s' k
end Mine
end

open PySem PySem.W PyProof.Rows
set_option Elab.async false
set_option maxRecDepth 100000
set_option linter.unusedVariables false
set_option maxHeartbeats 4000000 in
theorem PySem.Challenge.cw_sc0025_01_holds : PySem.Challenge.rw_sc0025_01.Holds := by
  exact Mine.hd (by
  k_fill
  intro w s0 s1 mg mb gr hook fa _ _ _ _ _ _ f1 f2 f3 f4 hlaw hgens ds vals as c1 c2 c3 c4 c5
  have hK := kIn_of hook
  have hfa : fa = 136 := by
    have e : mg "law" = some (.ref 136) := mg_of (K := Mine.KK w.params) hK gr.T.g (by rfl)
    rw [show mg "law" = some (.ref fa) from hlaw] at e
    injection e with e
    injection e
  subst hfa
  clear f1 f2 f3 f4 hlaw
  have B : Mine.Base w s1.heap mg mb := ⟨hK, gr.T.g, gr.T.b, gr.T.nolimit, gr.T.builtins⟩
  clear hook gr hK
  wrow_args c1 c2 c3 c4 c5
  refine enter_call (codeAny_mono ?_ fun _ _ g => GoodW.toG g)
  rename_i ns _ _ _ _ _ _ _ a vs _ hL _ _ _ hI _ hc _
  refine Mine.law_code B rfl hL hI (by omega) _ fun s' k => ?_
  obtain ⟨h', t', rfl, keep⟩ := k
  refine ⟨.inl ⟨.bool true, .bool true, [], rfl, raisesW_false ?_, .bool true, ?_, unshared_nil⟩, keep, rfl, hgens⟩
  · wrow_none_raised
  · wrow_post)
