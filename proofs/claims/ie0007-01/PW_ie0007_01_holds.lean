import PyProof.Rows.All
import Wide.All
import OpenK.AllK
import Wide.FinOn
import PySem.Challenge.RW_ie0007_01
open PySem PySem.W PyProof.Rows
set_option Elab.async false
set_option maxRecDepth 100000
set_option linter.all false
namespace Mine

/-- every object stays as it is -/
def HK (h h' : Heap) : Prop := ∀ b o, h.get? b = some o → h'.get? b = some o
theorem HK.refl (h : Heap) : HK h h := fun _ _ e => e
theorem HK.trans {a b c : Heap} (x : HK a b) (y : HK b c) : HK a c := fun d o e => y d o (x d o e)
theorem HK.push (h : Heap) (o : Obj) : HK h (h.push o) := fun _ _ e => Heap.get?_push_of_some o e

abbrev lstO (vs : Array Value) (n : Nat) : Obj := { cls := .type "list", dict := none, data := .seq vs n, slots := #[] }
abbrev tupO (vs : Array Value) (n : Nat) : Obj := { cls := .type "tuple", dict := none, data := .seq vs n, slots := #[] }

/-- list and tuple objects off X stay as they are -/
def KS (X : Addr → Prop) (h h' : Heap) : Prop :=
  ∀ b vs n, ¬ X b → (h.get? b = some (lstO vs n) → h'.get? b = some (lstO vs n)) ∧ (h.get? b = some (tupO vs n) → h'.get? b = some (tupO vs n))
theorem HK.ks {h h' : Heap} (x : HK h h') (X : Addr → Prop) : KS X h h' := fun b _ _ _ => ⟨x b _, x b _⟩

mutual
/-- the value v stands for the datum d, by lists and tuples off X -/
def Rep (X : Addr → Prop) (h : Heap) : PyData → Value → Prop
  | .none, v => v = .none
  | .bool b, v => v = .bool b
  | .int i, v => ∃ t, v = .int i t
  | .list xs, v => ∃ a vs n, v = .ref a ∧ ¬ X a ∧ h.get? a = some (lstO vs n) ∧ RepAll X h xs vs.toList
  | .tuple xs, v => ∃ a vs n, v = .ref a ∧ ¬ X a ∧ h.get? a = some (tupO vs n) ∧ RepAll X h xs vs.toList
  | .str _, _ => False
  | .dict _, _ => False
def RepAll (X : Addr → Prop) (h : Heap) : List PyData → List Value → Prop
  | [], [] => True
  | d :: ds, v :: vs => Rep X h d v ∧ RepAll X h ds vs
  | _, _ => False
end

/-- list and tuple objects off X stay as they are, off X' -/
def KS2 (X X' : Addr → Prop) (h h' : Heap) : Prop :=
  ∀ b vs n, ¬ X b → (h.get? b = some (lstO vs n) → ¬ X' b ∧ h'.get? b = some (lstO vs n)) ∧ (h.get? b = some (tupO vs n) → ¬ X' b ∧ h'.get? b = some (tupO vs n))
theorem KS.two {X X' : Addr → Prop} {h h' : Heap} (k : KS X h h') (hX : ∀ a, X' a → X a) : KS2 X X' h h' := fun b vs n hb => ⟨fun e => ⟨fun q => hb (hX b q), (k b vs n hb).1 e⟩, fun e => ⟨fun q => hb (hX b q), (k b vs n hb).2 e⟩⟩
/-- no list or tuple stands there -/
def NotSeq (h : Heap) (b : Addr) : Prop := ∀ vs n, h.get? b ≠ some (lstO vs n) ∧ h.get? b ≠ some (tupO vs n)
section
variable {X X' : Addr → Prop} {h h' : Heap}
mutual
theorem Rep.mono2 (k : KS2 X X' h h') : ∀ (d : PyData) (v : Value), Rep X h d v → Rep X' h' d v
  | .none, _, r => r
  | .bool _, _, r => r
  | .int _, _, r => r
  | .list xs, v, r => by
    obtain ⟨a, vs, n, e, hx, hg, hr⟩ := r
    exact ⟨a, vs, n, e, ((k a vs n hx).1 hg).1, ((k a vs n hx).1 hg).2, RepAll.mono2 k xs _ hr⟩
  | .tuple xs, v, r => by
    obtain ⟨a, vs, n, e, hx, hg, hr⟩ := r
    exact ⟨a, vs, n, e, ((k a vs n hx).2 hg).1, ((k a vs n hx).2 hg).2, RepAll.mono2 k xs _ hr⟩
  | .str _, _, r => r
  | .dict _, _, r => r
theorem RepAll.mono2 (k : KS2 X X' h h') : ∀ (ds : List PyData) (vs : List Value), RepAll X h ds vs → RepAll X' h' ds vs
  | [], [], _ => trivial
  | d :: ds, v :: vs, r => ⟨Rep.mono2 k d v r.1, RepAll.mono2 k ds vs r.2⟩
  | [], _ :: _, r => r
  | _ :: _, [], r => r
end
theorem Rep.mono (k : KS X h h') (hX : ∀ a, X' a → X a) (d : PyData) (v : Value) (r : Rep X h d v) : Rep X' h' d v := Rep.mono2 (k.two hX) d v r
theorem RepAll.mono (k : KS X h h') (hX : ∀ a, X' a → X a) (ds : List PyData) (vs : List Value) (r : RepAll X h ds vs) : RepAll X' h' ds vs := RepAll.mono2 (k.two hX) ds vs r
theorem Rep.keeps {d : PyData} {v : Value} (r : Rep X h d v) (k : HK h h') : Rep X h' d v := Rep.mono (k.ks X) (fun _ q => q) d v r
theorem RepAll.keeps {ds : List PyData} {vs : List Value} (r : RepAll X h ds vs) (k : HK h h') : RepAll X h' ds vs := RepAll.mono (k.ks X) (fun _ q => q) ds vs r

theorem RepAll.length : ∀ {ds : List PyData} {vs : List Value}, RepAll X h ds vs → vs.length = ds.length
  | [], [], _ => rfl
  | _ :: ds, _ :: vs, r => by simp [RepAll.length (ds := ds) (vs := vs) r.2]
theorem RepAll.get : ∀ {ds : List PyData} {vs : List Value} {i : Nat} {d : PyData}, RepAll X h ds vs → ds[i]? = some d → ∃ v, vs[i]? = some v ∧ Rep X h d v
  | [], [], _, _, _, e => by simp at e
  | d :: ds, v :: vs, 0, _, r, e => by simp at e; subst e; exact ⟨v, rfl, r.1⟩
  | d :: ds, v :: vs, i + 1, _, r, e => by
    obtain ⟨u, h1, h2⟩ := RepAll.get (ds := ds) (vs := vs) (i := i) r.2 (by simpa using e)
    exact ⟨u, by simpa using h1, h2⟩
theorem RepAll.append : ∀ {ds es : List PyData} {vs us : List Value}, RepAll X h ds vs → RepAll X h es us → RepAll X h (ds ++ es) (vs ++ us)
  | [], _, [], _, _, r => r
  | d :: ds, _, v :: vs, _, r, r' => ⟨r.1, RepAll.append (ds := ds) (vs := vs) r.2 r'⟩
theorem RepAll.take : ∀ {ds : List PyData} {vs : List Value} (n : Nat), RepAll X h ds vs → RepAll X h (ds.take n) (vs.take n)
  | _, _, 0, _ => trivial
  | [], [], _ + 1, _ => trivial
  | d :: ds, v :: vs, n + 1, r => ⟨r.1, RepAll.take (ds := ds) (vs := vs) n r.2⟩
theorem RepAll.drop : ∀ {ds : List PyData} {vs : List Value} (n : Nat), RepAll X h ds vs → RepAll X h (ds.drop n) (vs.drop n)
  | _, _, 0, r => r
  | [], [], _ + 1, _ => trivial
  | d :: ds, v :: vs, n + 1, r => RepAll.drop (ds := ds) (vs := vs) n r.2

mutual
theorem Rep.reads : ∀ (d : PyData) (v : Value), Rep X h d v → d.canLay0 = true ∧ ∃ as, Reads h v d as
  | .none, _, r => by cases r; exact ⟨rfl, _, .none⟩
  | .bool _, _, r => by cases r; exact ⟨rfl, _, .bool _⟩
  | .int _, _, r => by obtain ⟨t, rfl⟩ := r; exact ⟨rfl, _, .int _ _⟩
  | .list xs, _, r => by
    obtain ⟨a, vs, n, rfl, _, hg, hr⟩ := r
    obtain ⟨h1, as, h2⟩ := RepAll.reads xs _ hr
    exact ⟨by simpa [PyData.canLay0] using h1, _, .list hg rfl rfl h2⟩
  | .tuple xs, _, r => by
    obtain ⟨a, vs, n, rfl, _, hg, hr⟩ := r
    obtain ⟨h1, as, h2⟩ := RepAll.reads xs _ hr
    exact ⟨by simpa [PyData.canLay0] using h1, _, .tuple hg rfl rfl h2⟩
  | .str _, _, r => r.elim
  | .dict _, _, r => r.elim
theorem RepAll.reads : ∀ (ds : List PyData) (vs : List Value), RepAll X h ds vs → PyData.canLayAll0 ds = true ∧ ∃ as, ReadsAll h vs ds as
  | [], [], _ => ⟨rfl, _, .nil⟩
  | d :: ds, v :: vs, r => by
    obtain ⟨h1, as, h2⟩ := Rep.reads d v r.1
    obtain ⟨h3, bs, h4⟩ := RepAll.reads ds vs r.2
    exact ⟨by simp [PyData.canLayAll0, h1, h3], _, .cons h2 h4⟩
  | [], _ :: _, r => r.elim
  | _ :: _, [], r => r.elim
end
end

/-- the frame env holds the names' values ρ -/
structure FS (h : Heap) (env : Env) (ρ : Str → Option Value) : Prop where
  kind : env.scope.kind = .function
  glob : env.globals = mainGlobals
  bi : env.builtins = builtinsNs
  loc : ∃ m, h.Ns env.locals m ∧ ∀ x, env.kindOf x = some .local → m x = ρ x
  cel : ∀ x, (env.kindOf x = some .cell ∨ env.kindOf x = some .free) → ∃ c, env.cells.lookup x = some c ∧ h.IsCell c (ρ x)
  inj : ∀ x y c, env.cells.lookup x = some c → env.cells.lookup y = some c → x = y

inductive Ent where
  | dat (d : PyData)
  | raw (v : Value)
def Ent.ok (X : Addr → Prop) (h : Heap) : Ent → Value → Prop
  | .dat d, v => Rep X h d v
  | .raw u, v => v = u
theorem Ent.mono2 {X X' : Addr → Prop} {h h' : Heap} (k : KS2 X X' h h') {r : Ent} {v : Value} (x : r.ok X h v) : r.ok X' h' v := by
  cases r with
  | dat d => exact Rep.mono2 k d v x
  | raw u => exact x
theorem Ent.mono {X X' : Addr → Prop} {h h' : Heap} (k : KS X h h') (hX : ∀ a, X' a → X a) {r : Ent} {v : Value} (x : r.ok X h v) : r.ok X' h' v := by
  cases r with
  | dat d => exact Rep.mono k hX d v x
  | raw u => exact x
theorem Ent.keeps {X : Addr → Prop} {h h' : Heap} (k : HK h h') {r : Ent} {v : Value} (x : r.ok X h v) : r.ok X h' v := Ent.mono (k.ks X) (fun _ q => q) x

abbrev TEnv := Str → Option Ent
def TEnv.put (δ : TEnv) (x : Str) (r : Ent) : TEnv := fun y => if y = x then some r else δ y

/-- the frame env holds, under each name that δ speaks of, what δ says -/
def TS (X : Addr → Prop) (h : Heap) (env : Env) (δ : TEnv) : Prop :=
  ∃ ρ, FS h env ρ ∧ ∀ x r, δ x = some r → ∃ v, ρ x = some v ∧ r.ok X h v

section
variable {X X' : Addr → Prop} {h h' : Heap} {env : Env} {ρ : Str → Option Value} {δ δ' : TEnv}
theorem FS.keeps (f : FS h env ρ) (k : HK h h') : FS h' env ρ :=
  ⟨f.kind, f.glob, f.bi, let ⟨m, a, b⟩ := f.loc; ⟨m, a.keeps k, b⟩, fun x hx => let ⟨c, a, b⟩ := f.cel x hx; ⟨c, a, b.keeps k⟩, f.inj⟩
theorem TS.keeps (t : TS X h env δ) (k : HK h h') : TS X h' env δ :=
  let ⟨ρ, f, a⟩ := t; ⟨ρ, f.keeps k, fun x r e => let ⟨v, p, q⟩ := a x r e; ⟨v, p, Ent.keeps k q⟩⟩
theorem TS.weak (t : TS X h env δ) (hd : ∀ x r, δ' x = some r → δ x = some r) : TS X h env δ' :=
  let ⟨ρ, f, a⟩ := t; ⟨ρ, f, fun x r e => a x r (hd x r e)⟩
theorem TS.less (t : TS X h env δ) (hX : ∀ a, X' a → X a) : TS X' h env δ :=
  let ⟨ρ, f, a⟩ := t; ⟨ρ, f, fun x r e => let ⟨v, p, q⟩ := a x r e; ⟨v, p, Ent.mono ((HK.refl h).ks X) hX q⟩⟩
end

/-- room for n calls more -/
structure Room (n : Nat) (A : Around) : Prop where
  handled : A.handled = none
  depth : A.depth + n < recursionLimit
  units : A.units + 3 * n + 100 ≤ cLine
theorem Room.less {n m : Nat} {A : Around} (r : Room n A) (h : m ≤ n) : Room m A := ⟨r.handled, by have := r.depth; omega, by have := r.units; omega⟩
theorem Room.in1 {n : Nat} {A : Around} (r : Room (n + 1) A) : Room n A.in1 := ⟨r.handled, by have := r.depth; show A.depth + n < _; omega, by have := r.units; show A.units + 1 + 3 * n + 100 ≤ _; omega⟩
theorem Room.deeper {n : Nat} {A : Around} (r : Room (n + 1) A) (env : Env) : Room n (A.deeper env) := ⟨r.handled, by have := r.depth; show A.depth + 1 + n < _; omega, by have := r.units; show A.units + 3 + 3 * n + 100 ≤ _; omega⟩

/-- what else is known of the heap, and stays -/
structure Wd where
  ok : Heap → Prop
  mono : ∀ h h', HK h h' → ok h → ok h'

def XIn (X : Addr → Prop) (h : Heap) : Prop := ∀ a, X a → ∃ o, h.get? a = some o
theorem XIn.keeps {X : Addr → Prop} {h h' : Heap} (x : XIn X h) (k : HK h h') : XIn X h' := fun a q => let ⟨o, e⟩ := x a q; ⟨o, k a o e⟩
theorem XIn.fresh {X : Addr → Prop} {h : Heap} (x : XIn X h) {a : Addr} (e : h.get? a = none) : ¬ X a := fun q => let ⟨o, e'⟩ := x a q; by rw [e] at e'; cases e'
theorem get_size (h : Heap) : h.get? h.objs.size = none := by
  cases e : h.get? h.objs.size with
  | none => rfl
  | some o => exact absurd (Heap.lt_size e) (Nat.lt_irrefl _)

/-- δ ⊢ e gives r: the value is made, nothing else is changed -/
def Ev (prog : Program) (w : World) (W : Wd) (n : Nat) (sc : Scope) (δ : TEnv) (e : Expr) (r : Ent) : Prop :=
  ∀ (X : Addr → Prop) (A : Around) (s : Shared) (env : Env) (Q : Value → Shared → Prop) (E : Value → Shared → Prop),
    Room n A → env.scope = sc → W.ok s.heap → TS X s.heap env δ → XIn X s.heap →
    (∀ v h' tk, HK s.heap h' → r.ok X h' v → Q v { s with heap := h', toks := tk }) → wpAny (model prog w) A (eval e env) Q E s

/-- δ ⊢ the test e comes out as b -/
def Tr (prog : Program) (w : World) (W : Wd) (n : Nat) (sc : Scope) (δ : TEnv) (e : Expr) (b : Bool) : Prop :=
  ∀ (X : Addr → Prop) (A : Around) (s : Shared) (env : Env) (Q : Bool → Shared → Prop) (E : Value → Shared → Prop),
    Room n A → env.scope = sc → W.ok s.heap → TS X s.heap env δ → XIn X s.heap →
    (∀ h' tk, HK s.heap h' → Q b { s with heap := h', toks := tk }) → wpAny (model prog w) A (isTrue e env (eval e env)) Q E s

section
variable {prog : Program} {w : World} {W : Wd} {n : Nat} {sc : Scope} {δ : TEnv}

theorem Ev.int {i : Int} {k : Nat} {pos : Pos} : Ev prog w W n sc δ (.Constant (.int i) k pos) (.dat (.int i)) :=
  fun _ _ s _ _ _ _ _ _ _ _ hQ => wpAny_Constant_int (hQ _ s.heap _ (HK.refl _) ⟨_, rfl⟩)
theorem Ev.bool {b : Bool} {k : Nat} {pos : Pos} : Ev prog w W n sc δ (.Constant (.bool b) k pos) (.dat (.bool b)) :=
  fun _ _ s _ _ _ _ _ _ _ _ hQ => wpAny_Constant_bool (hQ _ s.heap s.toks (HK.refl _) rfl)

theorem ts_load {X : Addr → Prop} {A : Around} {s : Shared} {env : Env} {Q : Value → Shared → Prop} {E : Value → Shared → Prop} {x : Str} {r : Ent}
    (t : TS X s.heap env δ) (hx : δ x = some r) (hk : env.kindOf x = some .local ∨ env.kindOf x = some .cell ∨ env.kindOf x = some .free) (hn : (x == ("__classdict__" : Str)) = false)
    (h : ∀ v, r.ok X s.heap v → Q v s) : wpAny (model prog w) A (loadName env x) Q E s := by
  obtain ⟨ρ, f, a⟩ := t
  obtain ⟨v, hv, hr⟩ := a x r hx
  rcases hk with hk | hk | hk
  · obtain ⟨m, hm, he⟩ := f.loc
    exact wpAny_loadName_local f.kind hk hm ((he x hk).trans hv) (h v hr)
  · obtain ⟨c, hc, hcell⟩ := f.cel x (.inl hk)
    rw [hv] at hcell
    exact wpAny_loadName_cell f.kind hk hc hcell (h v hr)
  · obtain ⟨c, hc, hcell⟩ := f.cel x (.inr hk)
    rw [hv] at hcell
    exact wpAny_loadName_free f.kind hk hc hcell (h v hr) hn

def isOwn (sc : Scope) (x : Str) : Bool := match sc.names.lookup x with
  | some .local | some .cell | some .free => !(x == ("__classdict__" : Str)) && !(x == ("__debug__" : Str))
  | _ => false
theorem isOwn.cases {sc : Scope} {x : Str} (h : isOwn sc x = true) : (sc.names.lookup x = some .local ∨ sc.names.lookup x = some .cell ∨ sc.names.lookup x = some .free) ∧ (x == ("__classdict__" : Str)) = false ∧ (x == ("__debug__" : Str)) = false := by
  unfold isOwn at h
  split at h <;> simp_all

theorem Ev.name {x : Str} {pos : Pos} {r : Ent} (hx : δ x = some r) (ho : isOwn sc x = true) : Ev prog w W n sc δ (.Name x pos) r :=
  fun X A s env Q E _ hs _ t _ hQ => by
    obtain ⟨h1, h2, h3⟩ := isOwn.cases ho
    subst hs
    exact wpAny_Name (ts_load t hx h1 h2 fun v hv => hQ v s.heap s.toks (HK.refl _) hv) h3

/-- the operation op at d₁, d₂ gives d -/
def BinR (prog : Program) (w : World) (n : Nat) (op : Operator) (d₁ d₂ d : PyData) : Prop :=
  ∀ (X : Addr → Prop) (A : Around) (s : Shared) (a b : Value) (Q : Value → Shared → Prop) (E : Value → Shared → Prop), Room n A → XIn X s.heap → Rep X s.heap d₁ a → Rep X s.heap d₂ b →
    (∀ v h' tk, HK s.heap h' → Rep X h' d v → Q v { s with heap := h', toks := tk }) → wpAny (model prog w) A (binaryOp op a b) Q E s
def CmpR (prog : Program) (w : World) (n : Nat) (op : CmpOp) (d₁ d₂ : PyData) (r : Bool) : Prop :=
  ∀ (X : Addr → Prop) (A : Around) (s : Shared) (a b : Value) (Q : Value → Shared → Prop) (E : Value → Shared → Prop), Room n A → XIn X s.heap → Rep X s.heap d₁ a → Rep X s.heap d₂ b →
    (∀ h' tk, HK s.heap h' → Q (.bool r) { s with heap := h', toks := tk }) → wpAny (model prog w) A (compareOp op a b) Q E s

theorem Ev.binop {l r : Expr} {op : Operator} {pos : Pos} {d₁ d₂ d : PyData} (h1 : Ev prog w W n sc δ l (.dat d₁)) (h2 : Ev prog w W n sc δ r (.dat d₂)) (h3 : BinR prog w n op d₁ d₂ d) :
    Ev prog w W n sc δ (.BinOp l op r pos) (.dat d) := fun X A s env Q E rm hs hw t hX hQ =>
  wpAny_BinOp (h1 X A s env _ E rm hs hw t hX fun a ha tk k1 r1 => h2 X A _ env _ E rm hs (W.mono _ _ k1 hw) (t.keeps k1) (hX.keeps k1) fun b hb tk2 k2 r2 =>
    h3 X A _ a b Q E rm ((hX.keeps k1).keeps k2) (Rep.keeps r1 k2) r2 fun v h' tk3 k3 r3 => hQ v h' tk3 ((k1.trans k2).trans k3) r3)

theorem Ev.cmp {l r : Expr} {op : CmpOp} {pos : Pos} {d₁ d₂ : PyData} {b : Bool} (h1 : Ev prog w W n sc δ l (.dat d₁)) (h2 : Ev prog w W n sc δ r (.dat d₂)) (h3 : CmpR prog w n op d₁ d₂ b)
    (hm : behindInMarks op r = false := by with_unfolding_all rfl) : Ev prog w W n sc δ (.Compare l [op] [r] pos) (.dat (.bool b)) := fun X A s env Q E rm hs hw t hX hQ =>
  wpAny_Compare1 (h1 X A s env _ E rm hs hw t hX fun a ha tk k1 r1 => h2 X A _ env _ E rm hs (W.mono _ _ k1 hw) (t.keeps k1) (hX.keeps k1) fun b hb tk2 k2 r2 =>
    h3 X A _ a b Q E rm ((hX.keeps k1).keeps k2) (Rep.keeps r1 k2) r2 fun h' tk3 k3 => hQ _ h' tk3 ((k1.trans k2).trans k3) rfl) hm

theorem Tr.cmp {l r : Expr} {op : CmpOp} {pos : Pos} {d₁ d₂ : PyData} {b : Bool} (h1 : Ev prog w W n sc δ l (.dat d₁)) (h2 : Ev prog w W n sc δ r (.dat d₂)) (h3 : CmpR prog w n op d₁ d₂ b)
    (hm : behindInMarks op r = false := by with_unfolding_all rfl) : Tr prog w W n sc δ (.Compare l [op] [r] pos) b := fun X A s env Q E rm hs hw t hX hQ =>
  wpAny_isTrue_Compare1 (h1 X A s env _ E rm hs hw t hX fun a ha tk k1 r1 => h2 X A _ env _ E rm hs (W.mono _ _ k1 hw) (t.keeps k1) (hX.keeps k1) fun b hb tk2 k2 r2 =>
    h3 X A _ a b _ E rm ((hX.keeps k1).keeps k2) (Rep.keeps r1 k2) r2 fun h' tk3 k3 => wpAny_truthy_bool (hQ h' tk3 ((k1.trans k2).trans k3))) hm

/-- «and», «or» in a test -/
def TrAll (prog : Program) (w : World) (W : Wd) (n : Nat) (sc : Scope) (δ : TEnv) (op : BoolOp) (es : List Expr) (b : Bool) : Prop :=
  ∀ (X : Addr → Prop) (A : Around) (s : Shared) (env : Env) (Q : Bool → Shared → Prop) (E : Value → Shared → Prop),
    Room n A → env.scope = sc → W.ok s.heap → TS X s.heap env δ → XIn X s.heap →
    (∀ h' tk, HK s.heap h' → Q b { s with heap := h', toks := tk }) → wpAny (model prog w) A (allTrue op es env) Q E s
theorem Tr.boolop {op : BoolOp} {es : List Expr} {pos : Pos} {b : Bool} (h : TrAll prog w W n sc δ op es b) : Tr prog w W n sc δ (.BoolOp op es pos) b :=
  fun X A s env Q E rm hs hw t hX hQ => wpAny_isTrue_BoolOp (h X A s env Q E rm hs hw t hX hQ)
theorem TrAll.and_nil : TrAll prog w W n sc δ .And [] true := fun _ _ s _ _ _ _ _ _ _ _ hQ => wpAny_allTrue_And_nil (hQ s.heap s.toks (HK.refl _))
theorem TrAll.or_nil : TrAll prog w W n sc δ .Or [] false := fun _ _ s _ _ _ _ _ _ _ _ hQ => wpAny_allTrue_Or_nil (hQ s.heap s.toks (HK.refl _))
theorem TrAll.and_cons {e : Expr} {es : List Expr} {b c : Bool} (h1 : Tr prog w W n sc δ e b) (h2 : b = true → TrAll prog w W n sc δ .And es c) : TrAll prog w W n sc δ .And (e :: es) (b && c) :=
  fun X A s env Q E rm hs hw t hX hQ => wpAny_allTrue_And_cons (h1 X A s env _ E rm hs hw t hX fun h' tk k => by
    cases b with
    | false => exact hQ h' tk k
    | true => exact h2 rfl X A _ env Q E rm hs (W.mono _ _ k hw) (t.keeps k) (hX.keeps k) fun h'' tk' k' => hQ h'' tk' (k.trans k'))
theorem TrAll.or_cons {e : Expr} {es : List Expr} {b c : Bool} (h1 : Tr prog w W n sc δ e b) (h2 : b = false → TrAll prog w W n sc δ .Or es c) : TrAll prog w W n sc δ .Or (e :: es) (b || c) :=
  fun X A s env Q E rm hs hw t hX hQ => wpAny_allTrue_Or_cons (h1 X A s env _ E rm hs hw t hX fun h' tk k => by
    cases b with
    | true => exact hQ h' tk k
    | false => exact h2 rfl X A _ env Q E rm hs (W.mono _ _ k hw) (t.keeps k) (hX.keeps k) fun h'' tk' k' => hQ h'' tk' (k.trans k'))

theorem Ev.ifexp {test body orelse : Expr} {pos : Pos} {b : Bool} {r : Ent} (h1 : Tr prog w W n sc δ test b) (h2 : b = true → Ev prog w W n sc δ body r) (h3 : b = false → Ev prog w W n sc δ orelse r) :
    Ev prog w W n sc δ (.IfExp test body orelse pos) r := fun X A s env Q E rm hs hw t hX hQ =>
  wpAny_IfExp (h1 X A s env _ E rm hs hw t hX fun h' tk k => by
    cases b with
    | true => exact h2 rfl X A _ env Q E rm hs (W.mono _ _ k hw) (t.keeps k) (hX.keeps k) fun v h'' tk' k' => hQ v h'' tk' (k.trans k')
    | false => exact h3 rfl X A _ env Q E rm hs (W.mono _ _ k hw) (t.keeps k) (hX.keeps k) fun v h'' tk' k' => hQ v h'' tk' (k.trans k'))
end
end Mine

namespace Mine
section
variable {prog : Program} {w : World} {W : Wd} {n : Nat} {sc : Scope} {δ : TEnv}

theorem XIn.new {X : Addr → Prop} {h : Heap} (x : XIn X h) : ¬ X h.objs.size := x.fresh (get_size h)
theorem Rep.newList {X : Addr → Prop} {h : Heap} {ds : List PyData} {vs : List Value} (x : XIn X h) (r : RepAll X h ds vs) : Rep X (h.push { cls := .type "list", data := .seq vs.toArray }) (.list ds) (.ref h.objs.size) :=
  ⟨_, vs.toArray, 0, rfl, x.new, Heap.get?_push_size _ rfl, by simpa using r.keeps (HK.push h _)⟩
theorem Rep.newTuple {X : Addr → Prop} {h : Heap} {ds : List PyData} {vs : List Value} (x : XIn X h) (r : RepAll X h ds vs) : Rep X (h.push { cls := .type "tuple", data := .seq vs.toArray }) (.tuple ds) (.ref h.objs.size) :=
  ⟨_, vs.toArray, 0, rfl, x.new, Heap.get?_push_size _ rfl, by simpa using r.keeps (HK.push h _)⟩
theorem Rep.newListA {X : Addr → Prop} {h : Heap} {ds : List PyData} {vs : Array Value} (x : XIn X h) (r : RepAll X h ds vs.toList) : Rep X (h.push { cls := .type "list", data := .seq vs }) (.list ds) (.ref h.objs.size) := by
  have := Rep.newList (vs := vs.toList) x r
  simpa using this
theorem Rep.newTupleA {X : Addr → Prop} {h : Heap} {ds : List PyData} {vs : Array Value} (x : XIn X h) (r : RepAll X h ds vs.toList) : Rep X (h.push { cls := .type "tuple", data := .seq vs }) (.tuple ds) (.ref h.objs.size) := by
  have := Rep.newTuple (vs := vs.toList) x r
  simpa using this

-- the operations on ints
theorem BinR.of_int {op : Operator} {a b c : Int} (h : ∀ (A : Around) (s : Shared) (t u : Tok) (Q : Value → Shared → Prop) (E : Value → Shared → Prop),
    Q (.int c s.toks) { s with toks := s.toks + 1 } → wpAny (model prog w) A (binaryOp op (.int a t) (.int b u)) Q E s) : BinR prog w n op (.int a) (.int b) (.int c) :=
  fun X A s x y Q E _ _ hx hy hQ => by
    obtain ⟨t, rfl⟩ := hx
    obtain ⟨u, rfl⟩ := hy
    exact h A s t u Q E (hQ _ s.heap _ (HK.refl _) ⟨_, rfl⟩)
theorem BinR.add (a b : Int) : BinR prog w n .Add (.int a) (.int b) (.int (a + b)) := .of_int fun _ _ _ _ _ _ h => PyProof.Rows.add_int h
theorem BinR.sub (a b : Int) : BinR prog w n .Sub (.int a) (.int b) (.int (a - b)) := .of_int fun _ _ _ _ _ _ h => PyProof.Rows.sub_int h
theorem BinR.mul {a b : Int} (hm : IntMulOk a b) : BinR prog w n .Mult (.int a) (.int b) (.int (a * b)) := .of_int fun _ _ _ _ _ _ h => PyProof.Rows.mul_int h hm
theorem BinR.mod {a b : Int} (hb : b ≠ 0) : BinR prog w n .Mod (.int a) (.int b) (.int (a.fmod b)) := .of_int fun _ _ _ _ _ _ h => PyProof.Rows.mod_int hb h
theorem BinR.div {a b : Int} (hb : b ≠ 0) (hs : b.natAbs < 1073741824) : BinR prog w n .FloorDiv (.int a) (.int b) (.int (a.fdiv b)) := .of_int fun _ _ _ _ _ _ h => PyProof.Rows.floordiv_int hb h (.inl (PyProof.noPylong_small hs))
theorem BinR.xor (a b : Int) : BinR prog w n .BitXor (.int a) (.int b) (.int (Builtin.bitXor a b)) := .of_int fun _ _ _ _ _ _ h => PyProof.Rows.xor_int h
theorem BinR.pow {a k : Int} (hk : 0 ≤ k) (h2 : k ≤ 1000000) (ha : a.natAbs < 2 ^ 64) : BinR prog w n .Pow (.int a) (.int k) (.int (a ^ k.toNat)) := .of_int fun _ _ _ _ _ _ h => PyProof.Rows.pow_int_small hk h2 ha h
theorem BinR.shr {a k : Int} (hk : 0 ≤ k) : BinR prog w n .RShift (.int a) (.int k) (.int (a.fdiv (2 ^ k.toNat))) := .of_int fun _ _ _ _ _ _ h => PyProof.Rows.rshift_int hk h
theorem BinR.shl {a k : Int} (hk : 0 ≤ k) (h2 : k ≤ 1000000) (ha : a.natAbs < 2 ^ 64) : BinR prog w n .LShift (.int a) (.int k) (.int (a * 2 ^ k.toNat)) := .of_int fun _ _ _ _ _ _ h => PyProof.Rows.lshift_int_small hk h2 ha h

theorem BinR.addList {xs ys : List PyData} (hz : xs.length + ys.length ≤ sizeLine) : BinR prog w n .Add (.list xs) (.list ys) (.list (xs ++ ys)) := fun X A s x y Q E _ hX hx hy hQ => by
  obtain ⟨a, vs, k, rfl, _, ha, hr⟩ := hx
  obtain ⟨b, us, l, rfl, _, hb, hr'⟩ := hy
  have h1 := hr.length
  have h2 := hr'.length
  refine PySem.P.add_list ha hb (hQ _ _ _ (HK.push _ _) (Rep.newListA hX ?_)) (by simp only [Array.length_toList] at h1 h2; omega)
  simpa using hr.append hr'
theorem BinR.addTuple {xs ys : List PyData} (hz : xs.length + ys.length ≤ sizeLine) : BinR prog w n .Add (.tuple xs) (.tuple ys) (.tuple (xs ++ ys)) := fun X A s x y Q E _ hX hx hy hQ => by
  obtain ⟨a, vs, k, rfl, na, ha, hr⟩ := hx
  obtain ⟨b, us, l, rfl, nb, hb, hr'⟩ := hy
  have h1 := hr.length
  have h2 := hr'.length
  simp only [Array.length_toList] at h1 h2
  by_cases hv : vs.isEmpty = true
  · have hv' : vs = #[] := by simpa using hv
    subst hv'
    have hxs : xs = [] := by cases xs with | nil => rfl | cons _ _ => simp at h1
    subst hxs
    exact concat_meets ⟨_, ha, rfl⟩ ⟨_, hb, rfl⟩ noFill_tuple_add seq_tuple_add PySem.F.slot_tuple_add PySem.F.entry_tuple_add (PySem.F.args_tuple_add_2 _ _)
      (tuple_addW0 a b _ us k l _ _ _ _ hv) ⟨ha, hb, hQ _ s.heap s.toks (HK.refl _) ⟨_, _, _, rfl, nb, hb, hr'⟩⟩
  · by_cases hu : us.isEmpty = true
    · have hu' : us = #[] := by simpa using hu
      subst hu'
      have hys : ys = [] := by cases ys with | nil => rfl | cons _ _ => simp at h2
      subst hys
      rw [List.append_nil] at hQ
      exact concat_meets ⟨_, ha, rfl⟩ ⟨_, hb, rfl⟩ noFill_tuple_add seq_tuple_add PySem.F.slot_tuple_add PySem.F.entry_tuple_add (PySem.F.args_tuple_add_2 _ _)
        (tuple_addW1 a b vs _ k l _ _ _ _ hv hu) ⟨ha, hb, hQ _ s.heap s.toks (HK.refl _) ⟨_, _, _, rfl, na, ha, hr⟩⟩
    · refine concat_meets ⟨_, ha, rfl⟩ ⟨_, hb, rfl⟩ noFill_tuple_add seq_tuple_add PySem.F.slot_tuple_add PySem.F.entry_tuple_add (PySem.F.args_tuple_add_2 _ _)
        (tuple_addW2 a b vs us k l _ _ _ _ hv hu (by omega)) ⟨ha, hb, hQ _ _ s.toks (HK.push _ _) (Rep.newTupleA hX ?_)⟩
      simpa using hr.append hr'
theorem RepAll.replicate {X : Addr → Prop} {h : Heap} {d : PyData} {v : Value} (r : Rep X h d v) : ∀ k : Nat, RepAll X h (List.replicate k d) (List.replicate k v)
  | 0 => trivial
  | k + 1 => ⟨r, RepAll.replicate r k⟩
theorem BinR.mulList1 {d : PyData} {k : Int} (hlo : -(2 ^ 63 : Int) ≤ k) (hhi : k ≤ 2 ^ 24) : BinR prog w n .Mult (.list [d]) (.int k) (.list (List.replicate k.toNat d)) := fun X A s x y Q E _ hX hx hy hQ => by
  obtain ⟨a, vs, m, rfl, _, ha, hr⟩ := hx
  obtain ⟨u, rfl⟩ := hy
  have h1 := hr.length
  obtain ⟨v, hv⟩ : ∃ v, vs = #[v] := by
    obtain ⟨l⟩ := vs
    match l, h1 with
    | [v], _ => exact ⟨v, rfl⟩
  subst hv
  refine wpAny_binaryOp_repeat_ref (T := "list") (U := "int") (by decide) ⟨_, ha, rfl⟩ (fun s' => typeIs_int s' k u) noFill_list_mul PySem.F.fills_int_mul PySem.F.slot_int_rmul repeat_list PySem.F.slot_int_index.lookup
    (call_meets PySem.F.slot_int_rmul (typeIs_int s k u) PySem.F.entry_int_rmul (PySem.F.args_int_rmul_2 _ _) (lm_int_rmul_list_any k u a #[v] m _ _)
      ⟨ha, rfl, ⟨_, ha, rfl⟩, call_meets PySem.F.slot_list_mul ⟨_, ha, rfl⟩ PySem.F.entry_list_mul (PySem.F.args_list_mul_2 _ _)
        (lm_list_mul_any a #[v] m _ _ k u (by simp [Builtin.List.listFitsIndex]; omega) (by simp; omega) (by simp [Builtin.List.listTooLong, sizeLine]; omega))
        ⟨ha, ?_⟩⟩)
  refine hQ _ _ s.toks (HK.push _ _) (Rep.newListA hX ?_)
  simp only [listMul_foldl, List.isEmpty_toArray, List.isEmpty_cons, Bool.false_eq_true, if_false, List.nil_append]
  have := RepAll.replicate hr.1 k.toNat
  simpa [lm_rep_flat_one] using this

-- comparisons
theorem Room.units_lt {A : Around} (r : Room n A) : A.units + 99 < cLine := by have := r.units; omega
theorem CmpR.eq {d₁ d₂ : PyData} (h1 : d₁.depth ≤ 60) : CmpR prog w n .Eq d₁ d₂ (PyData.eqv d₁ d₂) := fun X A s a b Q E rm _ ra rb hQ => by
  obtain ⟨c1, as, r1⟩ := ra.reads
  obtain ⟨c2, bs, r2⟩ := rb.reads
  exact SeqAt.compareEq_reads r1 r2 c1 c2 (by have := rm.units_lt; have := Nat.min_le_left d₁.depth d₂.depth; omega) (hQ s.heap s.toks (HK.refl _))
theorem CmpR.ne {d₁ d₂ : PyData} (h1 : d₁.depth ≤ 60) (h2 : d₂.depth ≤ 60) : CmpR prog w n .NotEq d₁ d₂ (!PyData.eqv d₁ d₂) := fun X A s a b Q E rm _ ra rb hQ => by
  obtain ⟨c1, as, r1⟩ := ra.reads
  obtain ⟨c2, bs, r2⟩ := rb.reads
  exact ne_dataH r1 r2 (by simp [SeqAt.shaped, c1]; omega) (by simp [SeqAt.shaped, c2]; omega) (by have := rm.units_lt; omega) (hQ s.heap s.toks (HK.refl _))
theorem CmpR.lt (a b : Int) : CmpR prog w n .Lt (.int a) (.int b) (decide (a < b)) := fun X A s x y Q E _ _ hx hy hQ => by
  obtain ⟨t, rfl⟩ := hx
  obtain ⟨u, rfl⟩ := hy
  exact wpAny_lt_int (hQ s.heap s.toks (HK.refl _))
theorem CmpR.gt (a b : Int) : CmpR prog w n .Gt (.int a) (.int b) (decide (b < a)) := fun X A s x y Q E _ _ hx hy hQ => by
  obtain ⟨t, rfl⟩ := hx
  obtain ⟨u, rfl⟩ := hy
  exact PyProof.Rows.gt_int (hQ s.heap s.toks (HK.refl _))
theorem CmpR.isIn {d : PyData} {xs : List PyData} (h1 : d.depth ≤ 60) : CmpR prog w n .In d (.list xs) (xs.any fun y => PyData.eqv y d) := fun X A s a b Q E rm _ ra rb hQ => by
  obtain ⟨c1, as, r1⟩ := ra.reads
  obtain ⟨c2, bs, r2⟩ := rb.reads
  exact SeqAt.in_list_reads r2 r1 (by simpa [PyData.canLay0] using c2) c1 (by have := rm.units_lt; have := Nat.min_le_right (PyData.depthAll xs) d.depth; omega) (hQ s.heap s.toks (HK.refl _))
theorem CmpR.notIn {d : PyData} {xs : List PyData} (h1 : d.depth ≤ 60) : CmpR prog w n .NotIn d (.list xs) (!xs.any fun y => PyData.eqv y d) := fun X A s a b Q E rm _ ra rb hQ => by
  obtain ⟨c1, as, r1⟩ := ra.reads
  obtain ⟨c2, bs, r2⟩ := rb.reads
  exact SeqAt.notIn_list_reads r2 r1 (by simpa [PyData.canLay0] using c2) c1 (by have := rm.units_lt; have := Nat.min_le_right (PyData.depthAll xs) d.depth; omega) (hQ s.heap s.toks (HK.refl _))
theorem CmpR.isInT {d : PyData} {xs : List PyData} (h1 : d.depth ≤ 60) : CmpR prog w n .In d (.tuple xs) (xs.any fun y => PyData.eqv y d) := fun X A s a b Q E rm _ ra rb hQ => by
  obtain ⟨c1, as, r1⟩ := ra.reads
  obtain ⟨c2, bs, r2⟩ := rb.reads
  exact SeqAt.in_tuple_reads r2 r1 (by simpa [PyData.canLay0] using c2) c1 (by have := rm.units_lt; have := Nat.min_le_right (PyData.depthAll xs) d.depth; omega) (hQ s.heap s.toks (HK.refl _))

-- expressions one after the other
def Evs (prog : Program) (w : World) (W : Wd) (n : Nat) (sc : Scope) (δ : TEnv) (es : List Expr) (ds : List PyData) : Prop :=
  ∀ (X : Addr → Prop) (A : Around) (s : Shared) (env : Env) (pos : Pos) (Q : List Value → Shared → Prop) (E : Value → Shared → Prop),
    Room n A → env.scope = sc → W.ok s.heap → TS X s.heap env δ → XIn X s.heap →
    (∀ vs h' tk, HK s.heap h' → RepAll X h' ds vs → Q vs { s with heap := h', toks := tk }) → wpAny (model prog w) A (spliced (backTo pos (starEach es env))) Q E s
theorem Evs.nil : Evs prog w W n sc δ [] [] := fun _ _ s _ _ _ _ _ _ _ _ _ hQ => Calls.spliced_nil (hQ [] s.heap s.toks (HK.refl _) trivial)
theorem Evs.cons {e : Expr} {es : List Expr} {d : PyData} {ds : List PyData} (h1 : Ev prog w W n sc δ e (.dat d)) (h2 : Evs prog w W n sc δ es ds)
    (hst : ∀ env, starEach (e :: es) env = (false, eval e env) :: starEach es env := by intro _; rfl) : Evs prog w W n sc δ (e :: es) (d :: ds) := fun X A s env pos Q E rm hs hw t hX hQ => by
  rw [hst]
  refine Calls.spliced_cons (h1 X A s env _ E rm hs hw t hX fun v h' tk k r => h2 X A _ env pos _ E rm hs (W.mono _ _ k hw) (t.keeps k) (hX.keeps k) fun vs h'' tk' k' r' => ?_)
  exact hQ (v :: vs) h'' tk' (k.trans k') ⟨Rep.keeps r k', r'⟩
theorem Ev.list {es : List Expr} {pos : Pos} {ds : List PyData} (h : Evs prog w W n sc δ es ds) (hz : ds.length ≤ sizeLine) : Ev prog w W n sc δ (.List es pos) (.dat (.list ds)) := fun X A s env Q E rm hs hw t hX hQ =>
  wpAny_List_spliced (h X A s env pos _ E rm hs hw t hX fun vs h' tk k r => ⟨by rw [r.length]; exact hz, hQ _ _ _ (k.trans (HK.push _ _)) (Rep.newList (hX.keeps k) r)⟩)
theorem Ev.tuple {es : List Expr} {k0 : Nat} {pos : Pos} {ds : List PyData} (h : Evs prog w W n sc δ es ds) (hz : ds.length ≤ sizeLine) : Ev prog w W n sc δ (.Tuple es k0 pos) (.dat (.tuple ds)) := fun X A s env Q E rm hs hw t hX hQ =>
  wpAny_Tuple_spliced (h X A s env pos _ E rm hs hw t hX fun vs h' tk k r => ⟨by rw [r.length]; exact hz, hQ _ _ _ (k.trans (HK.push _ _)) (Rep.newTuple (hX.keeps k) r)⟩)

-- items
theorem Ev.item {v i : Expr} {pos : Pos} {xs : List PyData} {k : Int} {d : PyData} (h1 : Ev prog w W n sc δ v (.dat (.list xs))) (h2 : Ev prog w W n sc δ i (.dat (.int k))) (h0 : 0 ≤ k) (hk : k < 2 ^ 63) (hx : xs[k.toNat]? = some d)
    (hs' : ∀ o j, subscripted i false o j = operate [o, j] (getItem o j) := by intro _ _; with_unfolding_all rfl) : Ev prog w W n sc δ (.Subscript v i pos) (.dat d) := fun X A s env Q E rm hs hw t hX hQ =>
  Subscript_ (h1 X A s env _ E rm hs hw t hX fun a ha tk k1 r1 => h2 X A _ env _ E rm hs (W.mono _ _ k1 hw) (t.keeps k1) (hX.keeps k1) fun b hb tk2 k2 r2 => by
    obtain ⟨u, rfl⟩ := r2
    obtain ⟨l, vs, m, rfl, _, hl, hr⟩ := Rep.keeps r1 k2
    obtain ⟨x, hx1, hx2⟩ := hr.get hx
    exact tail_any (T := "list") ⟨_, hl, rfl⟩ slot_list_getitem.lookup (wpAny_getItem_list (items := vs) ⟨_, hl, rfl, m, rfl⟩ h0 hk (by simpa using hx1) (hQ _ _ _ (k1.trans k2) hx2)) (hs' _ _))
theorem Ev.itemT {v i : Expr} {pos : Pos} {xs : List PyData} {k : Int} {d : PyData} (h1 : Ev prog w W n sc δ v (.dat (.tuple xs))) (h2 : Ev prog w W n sc δ i (.dat (.int k))) (h0 : 0 ≤ k) (hk : k < 2 ^ 63) (hx : xs[k.toNat]? = some d)
    (hs' : ∀ o j, subscripted i false o j = operate [o, j] (getItem o j) := by intro _ _; with_unfolding_all rfl) : Ev prog w W n sc δ (.Subscript v i pos) (.dat d) := fun X A s env Q E rm hs hw t hX hQ =>
  Subscript_ (h1 X A s env _ E rm hs hw t hX fun a ha tk k1 r1 => h2 X A _ env _ E rm hs (W.mono _ _ k1 hw) (t.keeps k1) (hX.keeps k1) fun b hb tk2 k2 r2 => by
    obtain ⟨u, rfl⟩ := r2
    obtain ⟨l, vs, m, rfl, _, hl, hr⟩ := Rep.keeps r1 k2
    obtain ⟨x, hx1, hx2⟩ := hr.get hx
    have hlt : k.toNat < vs.size := by have := (List.getElem?_eq_some_iff.mp hx1).1; simpa using this
    exact tail_any (T := "tuple") ⟨_, hl, rfl⟩ PySem.F.slot_tuple_getitem.lookup (PySem.P.getItem_tuple hl (by omega) hk (k := k.toNat) (by unfold seqIndex?; simp; omega) (by simpa using hx1) (hQ _ _ _ (k1.trans k2) hx2)) (hs' _ _))
theorem Ev.upto {v u : Expr} {p pos : Pos} {xs : List PyData} {k : Nat} (h1 : Ev prog w W n sc δ v (.dat (.list xs))) (h2 : Ev prog w W n sc δ u (.dat (.int k))) (hz : xs.length ≤ sizeLine) :
    Ev prog w W n sc δ (.Subscript v (.Slice none (some u) none p) pos) (.dat (.list (xs.take k))) := fun X A s env Q E rm hs hw t hX hQ =>
  Subscript_ (h1 X A s env _ E rm hs hw t hX fun a ha tk k1 r1 => wpAny_Slice (wpAny_pure (h2 X A _ env _ E rm hs (W.mono _ _ k1 hw) (t.keeps k1) (hX.keeps k1) fun b hb tk2 k2 r2 => wpAny_pure (by
    obtain ⟨u, rfl⟩ := r2
    obtain ⟨l, vs, m, rfl, nl, hl, hr⟩ := Rep.keeps r1 k2
    have hlen := hr.length
    have hl' : (hb.push { cls := .type "slice", data := .fields #[.none, .int k u, .none] }).get? l = some (lstO vs m) := Heap.get?_push_of_some _ hl
    refine tail_any (ops := [_, _]) (T := "list") ⟨_, hl', rfl⟩ slot_list_getitem.lookup (wpAny_getItem_list_slice (items := vs) (lo := none) (hi := some (k : Int)) (st := none) ⟨_, hl', rfl, m, rfl⟩ (Heap.IsSliceOf.new ..) .none (.int _ _) .none (by simp)
      (hQ _ _ _ ((k1.trans k2).trans ((HK.push _ _).trans (HK.push _ _))) ?_) (by simp only [Array.length_toList] at hlen; omega)) rfl
    rw [slicePick_upto']
    exact Rep.newList (((hX.keeps k1).keeps k2).keeps (HK.push _ _)) ((hr.take k).keeps (HK.push _ _))))))
end
end Mine

namespace Mine
def maxL : List Int → Int
  | [] => 0
  | x :: xs => xs.foldl max x
def minL : List Int → Int
  | [] => 0
  | x :: xs => xs.foldl min x
theorem maxL_snoc {l : List Int} (h : l ≠ []) (y : Int) : maxL (l ++ [y]) = max (maxL l) y := by
  cases l with
  | nil => exact absurd rfl h
  | cons x xs => simp [maxL, List.foldl_append]
theorem minL_snoc {l : List Int} (h : l ≠ []) (y : Int) : minL (l ++ [y]) = min (minL l) y := by
  cases l with
  | nil => exact absurd rfl h
  | cons x xs => simp [minL, List.foldl_append]
theorem argMax (xs : List Int) : ∀ k, k < xs.length → xs.getD (argBest (fun i j => decide (xs.getD j 0 < xs.getD i 0)) k) 0 = maxL (xs.take (k + 1))
  | 0, h => by
    cases xs with
    | nil => simp at h
    | cons x xs => simp [argBest, maxL]
  | k + 1, h => by
    have ih := argMax xs k (by omega)
    have e : xs.take (k + 1 + 1) = xs.take (k + 1) ++ [xs.getD (k + 1) 0] := by
      rw [List.take_add_one, List.getElem?_eq_getElem h]
      simp [List.getD_eq_getElem?_getD, List.getElem?_eq_getElem h]
    have hne : xs.take (k + 1) ≠ [] := by
      intro q
      have := congrArg List.length q
      rw [List.length_take, List.length_nil] at this
      omega
    rw [e, maxL_snoc hne, ← ih, argBest]
    by_cases c : xs.getD (argBest (fun i j => decide (xs.getD j 0 < xs.getD i 0)) k) 0 < xs.getD (k + 1) 0
    · rw [if_pos (decide_eq_true c)]; omega
    · rw [if_neg (by rw [decide_eq_false c]; exact Bool.false_ne_true)]; omega
theorem argMin (xs : List Int) : ∀ k, k < xs.length → xs.getD (argBest (fun i j => decide (xs.getD i 0 < xs.getD j 0)) k) 0 = minL (xs.take (k + 1))
  | 0, h => by
    cases xs with
    | nil => simp at h
    | cons x xs => simp [argBest, minL]
  | k + 1, h => by
    have ih := argMin xs k (by omega)
    have e : xs.take (k + 1 + 1) = xs.take (k + 1) ++ [xs.getD (k + 1) 0] := by
      rw [List.take_add_one, List.getElem?_eq_getElem h]
      simp [List.getD_eq_getElem?_getD, List.getElem?_eq_getElem h]
    have hne : xs.take (k + 1) ≠ [] := by
      intro q
      have := congrArg List.length q
      rw [List.length_take, List.length_nil] at this
      omega
    rw [e, minL_snoc hne, ← ih, argBest]
    by_cases c : xs.getD (k + 1) 0 < xs.getD (argBest (fun i j => decide (xs.getD i 0 < xs.getD j 0)) k) 0
    · rw [if_pos (decide_eq_true c)]; omega
    · rw [if_neg (by rw [decide_eq_false c]; exact Bool.false_ne_true)]; omega

section
variable {prog : Program} {w : World} {W : Wd} {n : Nat} {sc : Scope} {δ : TEnv}

/-- the global name x is v -/
def GName (W : Wd) (x : Str) (v : Value) : Prop :=
  ∀ h, W.ok h → ∃ mg, h.Ns mainGlobals mg ∧ (mg x = some v ∨ (mg x = none ∧ ∃ mb, h.Ns builtinsNs mb ∧ mb x = some v))
theorem Ev.gname {x : Str} {pos : Pos} {v : Value} (hg : GName W x v) (hx : sc.names.lookup x = some .globalImplicit) (hd : (x == ("__debug__" : Str)) = false := by decide) :
    Ev prog w W n sc δ (.Name x pos) (.raw v) := fun X A s env Q E _ hs hw t _ hQ => by
  subst hs
  obtain ⟨ρ, f, _⟩ := t
  obtain ⟨mg, h1, h2⟩ := hg _ hw
  rcases h2 with h2 | ⟨h2, mb, h3, h4⟩
  · exact Calls.Name_function_global f.kind hx (Calls.loadGlobal_global (by rw [f.glob]; exact h1) h2 (hQ v s.heap s.toks (HK.refl _) rfl)) hd
  · exact Calls.Name_function_global f.kind hx (Calls.loadGlobal_builtin (by rw [f.glob]; exact h1) h2 (by rw [f.bi]; exact h3) h4 (hQ v s.heap s.toks (HK.refl _) rfl)) hd

/-- the built-in function id at d₁ gives d -/
def F1R (prog : Program) (w : World) (n : Nat) (id : String) (d₁ d : PyData) : Prop :=
  ∀ (X : Addr → Prop) (A : Around) (s : Shared) (a : Value) (Q : Value → Shared → Prop) (E : Value → Shared → Prop), Room n A → XIn X s.heap → Rep X s.heap d₁ a →
    (∀ v h' tk, HK s.heap h' → Rep X h' d v → Q v { s with heap := h', toks := tk }) → wpAny (model prog w) A (call (.builtin id) [a]) Q E s
theorem Ev.call1 {x : Str} {p pos : Pos} {a : Expr} {id : String} {d₁ d : PyData} (hf : Ev prog w W n sc δ (.Name x p) (.raw (.builtin id))) (ha : Ev prog w W n sc δ a (.dat d₁)) (hr : F1R prog w n id d₁ d)
    (hst : ∀ env, starEach [a] env = [(false, eval a env)] := by intro _; rfl) : Ev prog w W n sc δ (.Call (.Name x p) [a] [] pos) (.dat d) := fun X A s env Q E rm hs hw t hX hQ =>
  Call_Name rfl (hf X A s env _ E rm hs hw t hX fun f h1 tk1 k1 e1 => by
    cases e1
    refine callWith_builtin1 ?_ (by rw [hst]; rfl) rfl
    rw [hst]
    refine Calls.spliced_cons (ha X A _ env _ E rm hs (W.mono _ _ k1 hw) (t.keeps k1) (hX.keeps k1) fun v h2 tk2 k2 r2 => Calls.spliced_nil ?_)
    exact hr X A _ v Q E rm ((hX.keeps k1).keeps k2) r2 fun u h3 tk3 k3 r3 => hQ u h3 tk3 ((k1.trans k2).trans k3) r3)

theorem F1R.len {xs : List PyData} (hz : xs.length < 2 ^ 62) : F1R prog w n "len" (.list xs) (.int xs.length) := fun X A s a Q E _ _ ra hQ => by
  obtain ⟨l, vs, m, rfl, _, hl, hr⟩ := ra
  have h1 := hr.length
  simp only [Array.length_toList] at h1
  exact Calls.call_len_list (items := vs) ⟨_, hl, rfl, m, rfl⟩ (by omega) (by rw [h1]; exact hQ _ _ _ (HK.refl _) ⟨_, rfl⟩)
theorem F1R.lenT {xs : List PyData} (hz : xs.length < 2 ^ 62) : F1R prog w n "len" (.tuple xs) (.int xs.length) := fun X A s a Q E _ _ ra hQ => by
  obtain ⟨l, vs, m, rfl, _, hl, hr⟩ := ra
  have h1 := hr.length
  simp only [Array.length_toList] at h1
  exact PySem.P.len_tuple hl (by omega) (by rw [h1]; exact hQ _ _ _ (HK.refl _) ⟨_, rfl⟩)
theorem F1R.abs (a : Int) : F1R prog w n "abs" (.int a) (.int (if a < 0 then -a else a)) := fun X A s v Q E _ _ ra hQ => by
  obtain ⟨t, rfl⟩ := ra
  exact call_abs_int fun u tk => hQ _ s.heap tk (HK.refl _) ⟨_, rfl⟩

theorem RepAll.ints {X : Addr → Prop} {h : Heap} {xs : List Int} {vs : List Value} (r : RepAll X h (xs.map .int) vs) {i : Nat} {v : Value} (hv : vs[i]? = some v) : ∃ t, v = .int (xs.getD i 0) t := by
  have hl := r.length
  have hi : i < xs.length := by have := (List.getElem?_eq_some_iff.mp hv).1; simpa [hl] using this
  obtain ⟨u, h1, h2⟩ := r.get (i := i) (d := .int xs[i]) (by simp [hi])
  rw [hv] at h1
  cases h1
  obtain ⟨t, rfl⟩ := h2
  exact ⟨t, by simp [List.getD_eq_getElem?_getD, hi]⟩
theorem gt_cmpOf {A : Around} {X : Addr → Prop} {h : Heap} {xs : List Int} {vs : Array Value} (r : RepAll X h (xs.map .int) vs.toList) :
    CmpOf prog w A .Gt (fun i v => vs[i]? = some v) (fun i j => decide (xs.getD j 0 < xs.getD i 0)) := fun i j vi vj s Q E hi hj hQ => by
  obtain ⟨t, rfl⟩ := r.ints (i := i) (by rw [Array.getElem?_toList]; exact hi)
  obtain ⟨u, rfl⟩ := r.ints (i := j) (by rw [Array.getElem?_toList]; exact hj)
  exact PyProof.Rows.gt_int hQ
theorem lt_cmpOf {A : Around} {X : Addr → Prop} {h : Heap} {xs : List Int} {vs : Array Value} (r : RepAll X h (xs.map .int) vs.toList) :
    CmpOf prog w A .Lt (fun i v => vs[i]? = some v) (fun i j => decide (xs.getD i 0 < xs.getD j 0)) := fun i j vi vj s Q E hi hj hQ => by
  obtain ⟨t, rfl⟩ := r.ints (i := i) (by rw [Array.getElem?_toList]; exact hi)
  obtain ⟨u, rfl⟩ := r.ints (i := j) (by rw [Array.getElem?_toList]; exact hj)
  exact wpAny_lt_int hQ
theorem hk_wr {s : Shared} {o : Obj} {wr : List Addr} {h' : Heap} (hw : ∀ b ∈ wr, b = s.heap.objs.size) (hk : ∀ b o', b ∉ wr → (s.heap.push o).get? b = some o' → h'.get? b = some o') : HK s.heap h' := fun b o' e =>
  hk b o' (fun q => by have := hw b q; rw [this, get_size] at e; cases e) (Heap.get?_push_of_some _ e)
theorem F1R.max {xs : List Int} (h0 : xs ≠ []) : F1R prog w n "max" (.list (xs.map .int)) (.int (maxL xs)) := fun X A s a Q E rm hX ra hQ => by
  obtain ⟨l, vs, m, rfl, _, hl, hr⟩ := ra
  have h1 := hr.length
  simp only [Array.length_toList, List.length_map] at h1
  have hpos : 0 < xs.length := List.length_pos_iff.mpr h0
  have hv0 : 0 < vs.size := by omega
  have hne : l ≠ s.heap.objs.size := Nat.ne_of_lt (Heap.lt_size hl)
  refine call_max_walk (wpAny_pyIter_list (items := vs) ⟨_, hl, rfl, m, rfl⟩ ?_)
  refine ⟨_, _, _, _, _, _, _, rfl, Walks.list (A := A.in1) rm.handled s.heap.objs.size l hne vs, ⟨⟨_, Heap.get?_push_size _ rfl, rfl, rfl⟩, ⟨_, Heap.get?_push_of_some _ hl, rfl, m, rfl⟩⟩, ?_, hv0, gt_cmpOf hr, ?_⟩
  · intro b hb
    simp only [List.mem_cons, List.not_mem_nil, or_false] at hb
    have := Heap.lt_size hl
    show b < (s.heap.push _).objs.size
    rw [Heap.size_push]
    rcases hb with rfl | rfl
    · exact Nat.lt_succ_self _
    · exact Nat.lt_succ_of_lt this
  · intro v h' tk hv hk
    obtain ⟨t, rfl⟩ := hr.ints (by rw [Array.getElem?_toList]; exact hv)
    rw [argMax xs _ (by omega), List.take_of_length_le (by omega)] 
    exact hQ _ h' tk (hk_wr (fun b hb => by simpa using hb) hk) ⟨_, rfl⟩
theorem F1R.min {xs : List Int} (h0 : xs ≠ []) : F1R prog w n "min" (.list (xs.map .int)) (.int (minL xs)) := fun X A s a Q E rm hX ra hQ => by
  obtain ⟨l, vs, m, rfl, _, hl, hr⟩ := ra
  have h1 := hr.length
  simp only [Array.length_toList, List.length_map] at h1
  have hpos : 0 < xs.length := List.length_pos_iff.mpr h0
  have hv0 : 0 < vs.size := by omega
  have hne : l ≠ s.heap.objs.size := Nat.ne_of_lt (Heap.lt_size hl)
  refine call_min_walk (wpAny_pyIter_list (items := vs) ⟨_, hl, rfl, m, rfl⟩ ?_)
  refine ⟨_, _, _, _, _, _, _, rfl, Walks.list (A := A.in1) rm.handled s.heap.objs.size l hne vs, ⟨⟨_, Heap.get?_push_size _ rfl, rfl, rfl⟩, ⟨_, Heap.get?_push_of_some _ hl, rfl, m, rfl⟩⟩, ?_, hv0, lt_cmpOf hr, ?_⟩
  · intro b hb
    simp only [List.mem_cons, List.not_mem_nil, or_false] at hb
    have := Heap.lt_size hl
    show b < (s.heap.push _).objs.size
    rw [Heap.size_push]
    rcases hb with rfl | rfl
    · exact Nat.lt_succ_self _
    · exact Nat.lt_succ_of_lt this
  · intro v h' tk hv hk
    obtain ⟨t, rfl⟩ := hr.ints (by rw [Array.getElem?_toList]; exact hv)
    rw [argMin xs _ (by omega), List.take_of_length_le (by omega)] 
    exact hQ _ h' tk (hk_wr (fun b hb => by simpa using hb) hk) ⟨_, rfl⟩
theorem F1R.maxT {xs : List Int} (h0 : xs ≠ []) : F1R prog w n "max" (.tuple (xs.map .int)) (.int (maxL xs)) := fun X A s a Q E rm hX ra hQ => by
  obtain ⟨l, vs, m, rfl, _, hl, hr⟩ := ra
  have h1 := hr.length
  simp only [Array.length_toList, List.length_map] at h1
  have hpos : 0 < xs.length := List.length_pos_iff.mpr h0
  have hv0 : 0 < vs.size := by omega
  have hne : l ≠ s.heap.objs.size := Nat.ne_of_lt (Heap.lt_size hl)
  refine call_max_walk (wpAny_pyIter_tuple (items := vs) ⟨_, hl, rfl, m, rfl⟩ ?_)
  refine ⟨_, _, _, _, _, _, _, rfl, Walks.tuple (A := A.in1) rm.handled s.heap.objs.size l hne vs, ⟨⟨_, Heap.get?_push_size _ rfl, rfl, rfl⟩, ⟨_, Heap.get?_push_of_some _ hl, rfl, m, rfl⟩⟩, ?_, hv0, gt_cmpOf hr, ?_⟩
  · intro b hb
    simp only [List.mem_cons, List.not_mem_nil, or_false] at hb
    have := Heap.lt_size hl
    show b < (s.heap.push _).objs.size
    rw [Heap.size_push]
    rcases hb with rfl | rfl
    · exact Nat.lt_succ_self _
    · exact Nat.lt_succ_of_lt this
  · intro v h' tk hv hk
    obtain ⟨t, rfl⟩ := hr.ints (by rw [Array.getElem?_toList]; exact hv)
    rw [argMax xs _ (by omega), List.take_of_length_le (by omega)] 
    exact hQ _ h' tk (hk_wr (fun b hb => by simpa using hb) hk) ⟨_, rfl⟩
theorem preSum_take (xs : List Int) : ∀ k, k ≤ xs.length → preSum (fun i => xs.getD i 0) k = (xs.take k).sum
  | 0, _ => by simp [preSum]
  | k + 1, h => by
    have e : xs.take (k + 1) = xs.take k ++ [xs.getD k 0] := by
      rw [List.take_add_one, List.getElem?_eq_getElem h]
      simp [List.getD_eq_getElem?_getD, List.getElem?_eq_getElem (show k < xs.length by omega)]
    rw [e, List.sum_append, preSum, preSum_take xs k (by omega)]
    simp only [List.sum_cons, List.sum_nil, Int.add_zero]
theorem F1R.sum (xs : List Int) : F1R prog w n "sum" (.list (xs.map .int)) (.int xs.sum) := fun X A s a Q E rm hX ra hQ => by
  obtain ⟨l, vs, m, rfl, _, hl, hr⟩ := ra
  have h1 := hr.length
  simp only [Array.length_toList, List.length_map] at h1
  have hne : l ≠ s.heap.objs.size := Nat.ne_of_lt (Heap.lt_size hl)
  refine call_sum_walkG (wpAny_pyIter_list (items := vs) ⟨_, hl, rfl, m, rfl⟩ ?_)
  refine ⟨_, _, _, _, _, _, fun i => xs.getD i 0, rfl, Walks.list (A := A.in1) rm.handled s.heap.objs.size l hne vs, ⟨⟨_, Heap.get?_push_size _ rfl, rfl, rfl⟩, ⟨_, Heap.get?_push_of_some _ hl, rfl, m, rfl⟩⟩, ?_, ?_, ?_⟩
  · intro b hb
    simp only [List.mem_cons, List.not_mem_nil, or_false] at hb
    have := Heap.lt_size hl
    show b < (s.heap.push _).objs.size
    rw [Heap.size_push]
    rcases hb with rfl | rfl
    · exact Nat.lt_succ_self _
    · exact Nat.lt_succ_of_lt this
  · intro i v hv
    exact hr.ints (by rw [Array.getElem?_toList]; exact hv)
  · intro h' tk t' hk
    rw [preSum_take xs _ (by omega), List.take_of_length_le (by omega)]
    exact hQ _ h' tk (hk_wr (fun b hb => by simpa using hb) hk) ⟨_, rfl⟩
end
end Mine

namespace Mine
/-- all but O stays as it is -/
def KO (O : Addr → Prop) (h h' : Heap) : Prop := ∀ b o, ¬ O b → h.get? b = some o → h'.get? b = some o
theorem KO.refl (O : Addr → Prop) (h : Heap) : KO O h h := fun _ _ _ e => e
theorem KO.trans {O : Addr → Prop} {a b c : Heap} (x : KO O a b) (y : KO O b c) : KO O a c := fun d o n e => y d o n (x d o n e)
theorem KO.more {O O' : Addr → Prop} {h h' : Heap} (x : KO O h h') (k : ∀ b, O b → O' b) : KO O' h h' := fun b o n e => x b o (fun q => n (k b q)) e
theorem HK.ko {h h' : Heap} (x : HK h h') (O : Addr → Prop) : KO O h h' := fun b o _ e => x b o e
theorem KO.ks {O X : Addr → Prop} {h h' : Heap} (x : KO O h h') (k : ∀ b, O b → X b ∨ NotSeq h b) : KS X h h' := fun b vs n hb =>
  ⟨fun e => x b _ (fun q => (k b q).elim hb fun z => (z vs n).1 e) e, fun e => x b _ (fun q => (k b q).elim hb fun z => (z vs n).2 e) e⟩
theorem KS.trans {X : Addr → Prop} {a b c : Heap} (x : KS X a b) (y : KS X b c) : KS X a c := fun d vs n hd => ⟨fun e => (y d vs n hd).1 ((x d vs n hd).1 e), fun e => (y d vs n hd).2 ((x d vs n hd).2 e)⟩
theorem KS.refl (X : Addr → Prop) (h : Heap) : KS X h h := fun _ _ _ _ => ⟨id, id⟩
theorem KO.hk {O : Addr → Prop} {hb h h' : Heap} (x : KO O h h') (k : HK hb h) (f : ∀ b, O b → hb.get? b = none) : HK hb h' := fun b o e => x b o (fun q => by rw [f b q] at e; cases e) (k b o e)
theorem XIn.ko {O X : Addr → Prop} {h h' : Heap} (x : XIn X h) (k : KO O h h') (f : ∀ b, O b → ∃ o, h'.get? b = some o) : XIn X h' := fun a q => by
  by_cases c : O a
  · exact f a c
  · obtain ⟨o, e⟩ := x a q; exact ⟨o, k a o c e⟩
theorem NotSeq.dict {h : Heap} {a : Addr} {o : Obj} {es ep} (e : h.get? a = some o) (d : o.data = .dict es ep) : NotSeq h a := fun vs n => ⟨fun q => (by rw [e] at q; cases q; cases d), fun q => (by rw [e] at q; cases q; cases d)⟩
theorem NotSeq.cell {h : Heap} {a : Addr} {v : Option Value} (c : h.IsCell a v) : NotSeq h a := by
  obtain ⟨o, e, d⟩ := c
  exact fun vs n => ⟨fun q => (by rw [e] at q; cases q; cases d), fun q => (by rw [e] at q; cases q; cases d)⟩
theorem NotSeq.fields {h : Heap} {a : Addr} {o : Obj} {vs'} (e : h.get? a = some o) (d : o.data = .fields vs') : NotSeq h a := fun vs n => ⟨fun q => (by rw [e] at q; cases q; cases d), fun q => (by rw [e] at q; cases q; cases d)⟩
theorem NotSeq.none {h : Heap} {a : Addr} (e : h.get? a = none) : NotSeq h a := fun vs n => ⟨fun q => (by rw [e] at q; cases q), fun q => (by rw [e] at q; cases q)⟩
theorem NotSeq.keeps {h h' : Heap} {a : Addr} (x : NotSeq h a) {o : Obj} (e : h.get? a = some o) (e' : h'.get? a = some o) : NotSeq h' a := fun vs n => ⟨fun q => (x vs n).1 (by rw [e, ← e', q]), fun q => (x vs n).2 (by rw [e, ← e', q])⟩

/-- where the name x is kept -/
def Slot (env : Env) (x : Str) (b : Addr) : Prop := (env.kindOf x = some .local ∧ b = env.locals) ∨ (env.kindOf x = some .cell ∧ env.cells.lookup x = some b)
def okTgt (sc : Scope) (x : Str) : Bool := match sc.names.lookup x with
  | some .local | some .cell => true
  | _ => false
theorem okTgt.cases {sc : Scope} {x : Str} (h : okTgt sc x = true) : sc.names.lookup x = some .local ∨ sc.names.lookup x = some .cell := by
  unfold okTgt at h
  split at h <;> simp_all

section
variable {prog : Program} {w : World} {X X' : Addr → Prop} {h h' : Heap} {env : Env} {δ δ' : TEnv}
theorem TS.mono (t : TS X h env δ) (k : KS2 X X' h h') (f : ∀ ρ, FS h env ρ → FS h' env ρ) : TS X' h' env δ :=
  let ⟨ρ, q, a⟩ := t; ⟨ρ, f ρ q, fun x r e => let ⟨v, p, z⟩ := a x r e; ⟨v, p, Ent.mono2 k z⟩⟩
theorem TS.slot (t : TS X h env δ) {x : Str} {b : Addr} (s : Slot env x b) : NotSeq h b ∧ ∃ o, h.get? b = some o := by
  obtain ⟨ρ, f, _⟩ := t
  rcases s with ⟨_, rfl⟩ | ⟨hk, hc⟩
  · obtain ⟨m, ⟨o, es, ep, e, d, _⟩, _⟩ := f.loc
    exact ⟨.dict e d, o, e⟩
  · obtain ⟨c, h1, h2⟩ := f.cel x (.inl hk)
    rw [hc] at h1; cases h1
    obtain ⟨o, e, d⟩ := id h2
    exact ⟨.cell h2, o, e⟩
theorem TS.locals (t : TS X h env δ) : NotSeq h env.locals ∧ ∃ o, h.get? env.locals = some o := by
  obtain ⟨ρ, f, _⟩ := t
  obtain ⟨m, ⟨o, es, ep, e, d, _⟩, _⟩ := f.loc
  exact ⟨.dict e d, o, e⟩
theorem put_some {x y : Str} {r r' : Ent} (e : δ.put x r y = some r') : (y = x ∧ r' = r) ∨ (y ≠ x ∧ δ y = some r') := by
  unfold TEnv.put at e
  by_cases c : y = x
  · rw [if_pos c] at e; exact .inl ⟨c, (Option.some.inj e).symm⟩
  · rw [if_neg c] at e; exact .inr ⟨c, e⟩

theorem ts_store {A : Around} {s : Shared} {x : Str} {v : Value} {r : Ent} {Q : Unit → Shared → Prop} {E : Value → Shared → Prop} (t : TS X s.heap env δ) (hk : okTgt env.scope x = true) (hv : r.ok X s.heap v)
    (hQ : ∀ h' tk, TS X h' env (δ.put x r) → KO (Slot env x) s.heap h' → (∀ Y, KS Y s.heap h') → Q () { s with heap := h', toks := tk }) : wpAny (model prog w) A (storeName env x v) Q E s := by
  have hns : ∀ b, Slot env x b → NotSeq s.heap b := fun b q => (t.slot q).1
  obtain ⟨ρ, f, a⟩ := t
  have fin : ∀ h' tk, KO (Slot env x) s.heap h' → FS h' env (fun y => if y = x then some v else ρ y) → Q () { s with heap := h', toks := tk } := fun h' tk k f' => by
    have ks : ∀ Y, KS Y s.heap h' := fun Y => k.ks fun b q => .inr (hns b q)
    refine hQ h' tk ⟨_, f', fun y r' e => ?_⟩ k ks
    rcases put_some e with ⟨rfl, rfl⟩ | ⟨c, e⟩
    · exact ⟨v, if_pos rfl, Ent.mono (ks X) (fun _ q => q) hv⟩
    · obtain ⟨u, p, q⟩ := a y r' e
      exact ⟨u, (if_neg c).trans p, Ent.mono (ks X) (fun _ q => q) q⟩
  rcases okTgt.cases hk with hl | hl
  · obtain ⟨m, hm, he⟩ := f.loc
    refine wpAny_storeName_local (env := env) hl hm (fun h' hn hs => fin h' _ (fun b o n e => hs.extBut b o (fun q => n (.inl ⟨hl, q⟩)) e) ⟨f.kind, f.glob, f.bi, ⟨_, hn, fun y hy => ?_⟩, fun y hy => ?_, f.inj⟩) (by rw [f.kind]; rfl)
    · by_cases c : y = x
      · simp [c]
      · simp only [if_neg c]; exact he y hy
    · have c : y ≠ x := fun q => by
        subst q
        have hl' : env.kindOf y = some .local := hl
        rw [hl'] at hy
        rcases hy with hy | hy <;> cases hy
      obtain ⟨c', h1, h2⟩ := f.cel y hy
      refine ⟨c', h1, ?_⟩
      rw [if_neg c]
      refine h2.sameBut hs fun q => ?_
      subst q
      obtain ⟨o, es, ep, e, d, _⟩ := hm
      obtain ⟨o', e', d'⟩ := h2
      rw [e] at e'; cases e'; rw [d] at d'; cases d'
  · obtain ⟨c, h1, h2⟩ := f.cel x (.inl hl)
    refine wpAny_storeName_cell f.kind hl h1 h2 fun h' hc hs => fin h' s.toks (fun b o n e => hs.extBut b o (fun q => n (.inr ⟨hl, q ▸ h1⟩)) e) ⟨f.kind, f.glob, f.bi, ?_, fun y hy => ?_, f.inj⟩
    · obtain ⟨m, hm, he⟩ := f.loc
      refine ⟨m, hm.sameBut hs fun q => ?_, fun y hy => ?_⟩
      · subst q
        obtain ⟨o, es, ep, e, d, _⟩ := hm
        obtain ⟨o', e', d'⟩ := h2
        rw [e] at e'; cases e'; rw [d] at d'; cases d'
      · have cc : y ≠ x := fun q => by subst q; have hl' : env.kindOf y = some .cell := hl; rw [hl'] at hy; cases hy
        rw [if_neg cc]; exact he y hy
    · by_cases cc : y = x
      · subst cc
        exact ⟨c, h1, by simpa using hc⟩
      · obtain ⟨c', g1, g2⟩ := f.cel y hy
        refine ⟨c', g1, ?_⟩
        rw [if_neg cc]
        exact g2.sameBut hs fun q => cc (f.inj y x c (q ▸ g1) h1)
end

/-- the frame's own places: its names and the cells of the names in own -/
def OwnF (own : List Str) (env : Env) (b : Addr) : Prop := b = env.locals ∨ ∃ x ∈ own, env.kindOf x = some .cell ∧ env.cells.lookup x = some b
def okOwn (sc : Scope) (own : List Str) (x : Str) : Bool := match sc.names.lookup x with
  | some .local => true
  | some .cell => own.contains x
  | _ => false
theorem okOwn.tgt {sc : Scope} {own : List Str} {x : Str} (h : okOwn sc own x = true) : okTgt sc x = true := by
  unfold okOwn at h; unfold okTgt
  split at h <;> simp_all
theorem okOwn.slot {own : List Str} {env : Env} {x : Str} (h : okOwn env.scope own x = true) {b : Addr} (s : Slot env x b) : OwnF own env b := by
  rcases s with ⟨_, rfl⟩ | ⟨hk, hc⟩
  · exact .inl rfl
  · refine .inr ⟨x, ?_, hk, hc⟩
    have hk' : env.scope.names.lookup x = some .cell := hk
    unfold okOwn at h
    rw [hk'] at h
    simpa using h
theorem TS.own {X : Addr → Prop} {h : Heap} {env : Env} {δ : TEnv} {own : List Str} (t : TS X h env δ) {b : Addr} (s : OwnF own env b) : NotSeq h b ∧ ∃ o, h.get? b = some o := by
  rcases s with rfl | ⟨x, _, hk, hc⟩
  · exact t.locals
  · exact t.slot (.inr ⟨hk, hc⟩)

/-- what target = .. does to δ -/
def Tgt (target : Expr) (d : PyData) (δ : TEnv) : TEnv := match target, d with
  | .Name x _, d => δ.put x (.dat d)
  | .Tuple [.Name x _, .Name y _] _ _, .tuple [a, b] => (δ.put x (.dat a)).put y (.dat b)
  | _, _ => δ

/-- an iterator's object, or the like, stands there -/
def IterAt (h : Heap) (b : Addr) : Prop := ∃ o vs, h.get? b = some o ∧ o.data = .fields vs
theorem IterAt.notSeq {h : Heap} {b : Addr} (x : IterAt h b) : NotSeq h b := let ⟨_, _, e, d⟩ := x; .fields e d
theorem FS.ko {O : Addr → Prop} {h h' : Heap} {env : Env} {ρ : Str → Option Value} (f : FS h env ρ) (k : KO O h h') (hO : ∀ b, O b → IterAt h b ∨ ∃ vs n, h.get? b = some (lstO vs n)) : FS h' env ρ := by
  refine ⟨f.kind, f.glob, f.bi, ?_, fun x hx => ?_, f.inj⟩
  · obtain ⟨m, hm, he⟩ := f.loc
    refine ⟨m, hm.at' fun o e => k _ o (fun q => ?_) e, he⟩
    obtain ⟨o', es, ep, e', d', _⟩ := hm
    rcases hO _ q with ⟨o'', vs, e'', d''⟩ | ⟨vs, n, e''⟩
    · rw [e'] at e''; cases e''; rw [d'] at d''; cases d''
    · rw [e'] at e''; cases e''; cases d'
  · obtain ⟨c, h1, o, e, d⟩ := f.cel x hx
    refine ⟨c, h1, o, k _ o (fun q => ?_) e, d⟩
    rcases hO _ q with ⟨o'', vs, e'', d''⟩ | ⟨vs, n, e''⟩
    · rw [e] at e''; cases e''; rw [d] at d''; cases d''
    · rw [e] at e''; cases e''; cases d

/-- an iterator that binds target to ds, one after the other -/
structure Src (prog : Program) (w : World) (A : Around) (it : Value) (target : Expr) (T : PyData → TEnv → TEnv) (own : List Str) (sc : Scope) (X : Addr → Prop) (ds : List PyData) (hI : Heap) (fp wr : List Addr) (St : Nat → Heap → Prop) : Prop where
  sub : ∀ b ∈ wr, b ∈ fp
  inX : ∀ b ∈ wr, X b
  frame : ∀ i h h', St i h → (∀ b ∈ fp, ∀ o, h.get? b = some o → h'.get? b = some o) → St i h'
  alive : ∀ i h, St i h → ∀ b ∈ wr, IterAt h b
  self : ∀ i (s : Shared) (Q : Value → Shared → Prop) (E : Value → Shared → Prop), St i s.heap → Q it s → wpAny (model prog w) A (pyIter it) Q E s
  done : ∀ (s : Shared) (Q : Option Value → Shared → Prop) (E : Value → Shared → Prop), St ds.length s.heap →
    (∀ h' tk, KO (· ∈ wr) s.heap h' → Q none { s with heap := h', toks := tk }) → wpAny (model prog w) A (pyNext it) Q E s
  step : ∀ i d (s : Shared) (env : Env) (δ : TEnv) (Qn : Shared → Prop) (B : Shared → Prop) (E : Value → Shared → Prop), ds[i]? = some d → St i s.heap → env.scope = sc → TS X s.heap env δ → (∀ b ∈ fp, ¬ OwnF own env b) → KS X hI s.heap → XIn X s.heap →
    (∀ h' tk, St (i + 1) h' → TS X h' env (T d δ) → KO (fun b => b ∈ wr ∨ OwnF own env b) s.heap h' → B { s with heap := h', toks := tk }) →
    wpAny (model prog w) A (pyNext it) (fun r s₁ => match r with
      | none => Qn s₁
      | some v => wpAny (model prog w) A (letOwnedTupleGo target it v) (fun _ s₂ => wpAny (model prog w) A (assign target env v) (fun _ s₃ => B s₃) E s₂) E s₁) E s
end Mine

namespace Mine
section
variable {prog : Program} {w : World} {A : Around}
theorem ko_of {wr : List Addr} {h h' : Heap} (k : ∀ b o, b ∉ wr → h.get? b = some o → h'.get? b = some o) : KO (· ∈ wr) h h' := fun b o n e => k b o n e
theorem TS.iter {X : Addr → Prop} {wr : List Addr} {h h' : Heap} {env : Env} {δ : TEnv} (t : TS X h env δ) (k : KO (· ∈ wr) h h') (hX : ∀ b ∈ wr, X b) (ha : ∀ b ∈ wr, IterAt h b) : TS X h' env δ :=
  t.mono ((k.ks fun b q => .inl (hX b q)).two fun _ q => q) fun ρ f => f.ko k fun b q => .inl (ha b q)

theorem Src.name {I : Addr} {x : Str} {p : Pos} {own : List Str} {sc : Scope} {X : Addr → Prop} {ds : List PyData} {hI : Heap} {fp wr : List Addr} {P : Nat → Value → Prop} {St : Nat → Heap → Prop}
    (W : Walks prog w A I fp wr ds.length P St) (hX : ∀ b ∈ wr, X b) (ha : ∀ i h, St i h → ∀ b ∈ wr, IterAt h b) (hP : ∀ i d v, ds[i]? = some d → P i v → Rep X hI d v) (ho : okOwn sc own x = true) :
    Src prog w A (.ref I) (.Name x p) (Tgt (.Name x p)) own sc X ds hI fp wr St where
  sub := W.sub
  inX := hX
  frame := W.frame
  alive := ha
  self := W.self
  done := fun s Q E st hQ => W.done s Q E st fun h' tk k => hQ h' tk (ko_of k)
  step := fun i d s env δ Qn B E hd st hs t hfp hk hxi hQ => by
    have hi : i < ds.length := (List.getElem?_eq_some_iff.mp hd).1
    subst hs
    refine W.item i s _ E hi st fun v h₁ tk₁ hv st₁ k₁ => ?_
    have ko₁ : KO (· ∈ wr) s.heap h₁ := ko_of k₁
    have ks₁ : KS X s.heap h₁ := ko₁.ks fun b q => .inl (hX b q)
    have t₁ : TS X h₁ env δ := t.iter ko₁ hX (ha i _ st)
    have r₁ : Rep X h₁ d v := Rep.mono (hk.trans ks₁) (fun _ q => q) d v (hP i d v hd hv)
    show wpAny (model prog w) A (letOwnedTupleGo (.Name x p) (.ref I) v) _ E _
    refine wpAny_pure (wpAny_assign_Name (ts_store (r := .dat d) t₁ (okOwn.tgt ho) r₁ fun h₂ tk₂ t₂ k₂ _ => ?_))
    refine hQ h₂ tk₂ (W.frame _ _ _ st₁ fun b hb o e => k₂ b o (fun q => hfp b hb (okOwn.slot ho q)) e) t₂ fun b o n e => k₂ b o (fun q => n (.inr (okOwn.slot ho q))) (ko₁ b o (fun q => n (.inl q)) e)

theorem Src.pair {I : Addr} {x y : Str} {p q pos : Pos} {k0 : Nat} {own : List Str} {sc : Scope} {X : Addr → Prop} {ds : List PyData} {hI : Heap} {fp wr : List Addr} {Pt : Nat → Array Value → Prop} {St : Nat → Heap → Prop} {Mid : Nat → Addr → Heap → Prop}
    (hh : A.handled = none) (W : WalksU prog w A I fp wr ds.length Pt St Mid) (hX : ∀ b ∈ wr, X b) (ha : ∀ i h, St i h → ∀ b ∈ wr, IterAt h b) (hm : ∀ i T h, Mid i T h → ∀ b ∈ wr, IterAt h b)
    (hP : ∀ i d vs, ds[i]? = some d → Pt i vs → ∃ a b, d = .tuple [a, b] ∧ RepAll X hI [a, b] vs.toList) (hox : okOwn sc own x = true) (hoy : okOwn sc own y = true) :
    Src prog w A (.ref I) (.Tuple [.Name x p, .Name y q] k0 pos) (Tgt (.Tuple [.Name x p, .Name y q] k0 pos)) own sc X ds hI fp wr St where
  sub := W.sub
  inX := hX
  frame := W.frame
  alive := ha
  self := W.self
  done := fun s Q E st hQ => W.done s Q E st fun h' tk k => hQ h' tk (ko_of k)
  step := fun i d s env δ Qn B E hd st hs t hfp hk hxi hQ => by
    have hi : i < ds.length := (List.getElem?_eq_some_iff.mp hd).1
    subst hs
    refine W.item i s _ E hi st fun T vs h₁ tk₁ hv hT mid k₁ => ?_
    have ko₁ : KO (· ∈ wr) s.heap h₁ := ko_of k₁
    have ks₁ : KS X s.heap h₁ := ko₁.ks fun b q => .inl (hX b q)
    have t₁ : TS X h₁ env δ := t.iter ko₁ hX (ha i _ st)
    obtain ⟨a, b, rfl, hr⟩ := hP i d vs hd hv
    have hTw : T ∉ wr := W.apart i T h₁ mid
    refine W.go _ _ _ i T _ _ E mid fun h₂ st₂ k₂ => ?_
    have ko₂ : KO (· ∈ wr) h₁ h₂ := ko_of k₂
    have ks₂ : KS X h₁ h₂ := ko₂.ks fun b q => .inl (hX b q)
    have t₂ : TS X h₂ env δ := t₁.iter ko₂ hX (hm i T _ mid)
    have hT₂ : h₂.IsTuple T vs := hT.at fun o e => k₂ T o hTw e
    have hr₂ : RepAll X h₂ [a, b] vs.toList := RepAll.mono ((hk.trans ks₁).trans ks₂) (fun _ q => q) _ _ hr
    have hl := hr₂.length
    simp only [Array.length_toList] at hl
    refine wpAny_assign_Tuple (items := vs) hh hT₂ (by simpa [assignEach] using hl.symm) (by rfl) fun h₃ k₃ => ?_
    have hk₃ : HK h₂ h₃ := fun c o e => k₃ c o (fun q => by subst q; rw [show h₂.get? h₂.objs.size = none from get_size h₂] at e; cases e) e
    have t₃ := t₂.keeps hk₃
    have hr₃ := hr₂.keeps hk₃
    obtain ⟨l⟩ := vs
    match l, hl, hr₃ with
    | [u, v], _, hr₃ =>
      show wpAny (model prog w) A (assignInOrder [assign (.Name x p) env, assign (.Name y q) env] [u, v]) _ E _
      unfold assignInOrder
      refine wpAny_bind (wpAny_holding (wpAny_assign_Name (ts_store (r := .dat a) t₃ (okOwn.tgt hox) hr₃.1 fun h₄ tk₄ t₄ k₄ ks₄ => ?_)))
      unfold assignInOrder
      refine wpAny_bind (wpAny_holding (wpAny_assign_Name (ts_store (r := .dat b) t₄ (okOwn.tgt hoy) (Ent.mono (r := .dat b) (ks₄ X) (fun _ q => q) hr₃.2.1) fun h₅ tk₅ t₅ k₅ ks₅ => wpAny_pure ?_)))
      refine hQ h₅ tk₅ (W.frame _ _ _ st₂ fun c hc o e => k₅ c o (fun z => hfp c hc (okOwn.slot hoy z)) (k₄ c o (fun z => hfp c hc (okOwn.slot hox z)) (hk₃ c o e))) t₅ fun c o n e =>
        k₅ c o (fun z => n (.inr (okOwn.slot hoy z))) (k₄ c o (fun z => n (.inr (okOwn.slot hox z))) (hk₃ c o (ko₂ c o (fun z => n (.inl z)) (ko₁ c o (fun z => n (.inl z)) e))))
end
end Mine

namespace Mine
/-- the tests of a clause -/
def testsT (ifs : List Expr) (env : Env) : Sem Bool :=
  forIn ifs true fun c r => if r = true then do let ok ← isTrue c env (eval c env); pure (ForInStep.yield ok) else pure (ForInStep.yield r)
theorem compTurn_one (elt target iter : Expr) (ifs : List Expr) (scope : Scope) (pos : Pos) (it acc : Value) (env : Env) :
    compTurn (.ListComp elt [⟨target, iter, ifs, 0⟩] scope pos) 0 it acc env = (do
      standAt iter.pos
      match ← pyNext it with
      | none => pure (.done .next)
      | some v =>
        letOwnedTupleGo target it v
        assign target env v
        let mut ok := true
        for c in ifs do
          if ok then ok ← isTrue c env (eval c env)
        if ok then
          (do let _ ← call (.builtin "list.append") [acc, ← eval elt env])
        again (.compLoop (.ListComp elt [⟨target, iter, ifs, 0⟩] scope pos) 0 it acc env)) := by rfl
theorem compTurn_two1 (elt target iter : Expr) (ifs : List Expr) (g0 : Comprehension) (scope : Scope) (pos : Pos) (it acc : Value) (env : Env) :
    compTurn (.ListComp elt [g0, ⟨target, iter, ifs, 0⟩] scope pos) 1 it acc env = (do
      standAt iter.pos
      match ← pyNext it with
      | none => pure (.done .next)
      | some v =>
        letOwnedTupleGo target it v
        assign target env v
        let mut ok := true
        for c in ifs do
          if ok then ok ← isTrue c env (eval c env)
        if ok then
          (do let _ ← call (.builtin "list.append") [acc, ← eval elt env])
        again (.compLoop (.ListComp elt [g0, ⟨target, iter, ifs, 0⟩] scope pos) 1 it acc env)) := by rfl
theorem compTurn_two0 (elt target iter target' iter' : Expr) (ifs ifs' : List Expr) (scope : Scope) (pos : Pos) (it acc : Value) (env : Env) :
    compTurn (.ListComp elt [⟨target, iter, ifs, 0⟩, ⟨target', iter', ifs', 0⟩] scope pos) 0 it acc env = (do
      standAt iter.pos
      match ← pyNext it with
      | none => pure (.done .next)
      | some v =>
        letOwnedTupleGo target it v
        assign target env v
        let mut ok := true
        for c in ifs do
          if ok then ok ← isTrue c env (eval c env)
        if ok then
          let x ← eval iter' env
          standAt iter'.pos
          let x ← foldedSetIterable iter' env x
          let _ ← runOwn (.compStart (.ListComp elt [⟨target, iter, ifs, 0⟩, ⟨target', iter', ifs', 0⟩] scope pos) 1 (← holding [x] (pyIter x)) acc env) env
        again (.compLoop (.ListComp elt [⟨target, iter, ifs, 0⟩, ⟨target', iter', ifs', 0⟩] scope pos) 0 it acc env)) := by rfl

section
variable {M : Model} {A : Around} {E : Value → Shared → Prop} {s : Shared}
/-- what a turn of the last clause does behind its target -/
def LastW (M : Model) (A : Around) (E : Value → Shared → Prop) (elt : Expr) (ifs : List Expr) (acc : Value) (env : Env) (Qt : Shared → Prop) (s : Shared) : Prop :=
  wpAny M A (testsT ifs env) (fun ok s₁ => if ok = true then wpAny M A (eval elt env) (fun x s₂ => wpAny M A (call (.builtin "list.append") [acc, x]) (fun _ s₃ => Qt s₃) E s₂) E s₁ else Qt s₁) E s
/-- what a turn of the first clause of two does behind its target -/
def NestW (M : Model) (A : Around) (E : Value → Shared → Prop) (e : Expr) (iter : Expr) (ifs : List Expr) (acc : Value) (env : Env) (Qt : Shared → Prop) (s : Shared) : Prop :=
  wpAny M A (testsT ifs env) (fun ok s₁ => if ok = true then wpAny M A (eval iter env) (fun x s₂ => wpAny M A (pyIter x) (fun it s₃ =>
    wpAny M A (runOwn (.compStart e 1 it acc env) env) (fun _ s₄ => Qt s₄) E s₃) E s₂) E s₁ else Qt s₁) E s
/-- one turn, from its parts -/
def TurnW (M : Model) (A : Around) (E : Value → Shared → Prop) (target : Expr) (it : Value) (env : Env) (body : (Shared → Prop) → Shared → Prop) (Qn Qt : Shared → Prop) (s : Shared) : Prop :=
  wpAny M A (pyNext it) (fun r s₁ => match r with
    | none => Qn s₁
    | some v => wpAny M A (letOwnedTupleGo target it v) (fun _ s₂ => wpAny M A (assign target env v) (fun _ s₃ => body Qt s₃) E s₂) E s₁) E s
theorem turn_one {elt target iter : Expr} {ifs : List Expr} {scope : Scope} {pos : Pos} {it acc : Value} {env : Env} {Q : Fin → Shared → Prop}
    (h : TurnW M A E target it env (LastW M A E elt ifs acc env) (Q (.done .next)) (Q (.again (.compLoop (.ListComp elt [⟨target, iter, ifs, 0⟩] scope pos) 0 it acc env))) s) :
    wpAny M A (compTurn (.ListComp elt [⟨target, iter, ifs, 0⟩] scope pos) 0 it acc env) Q E s := by
  rw [compTurn_one]
  refine wpAny_bind (wpAny_standAt (wpAny_bind (wpAny_mono h (fun r s₁ h₁ => ?_) fun _ _ x => x)))
  cases r with
  | none => exact wpAny_pure h₁
  | some v =>
    refine wpAny_bind (wpAny_mono h₁ (fun _ s₂ h₂ => wpAny_bind (wpAny_mono h₂ (fun _ s₃ h₃ => wpAny_bind (wpAny_mono h₃ (fun ok s₄ h₄ => ?_) fun _ _ x => x)) fun _ _ x => x)) fun _ _ x => x)
    cases ok with
    | false => exact wpAny_pure h₄
    | true => exact wpAny_bind (wpAny_bind (wpAny_mono h₄ (fun x s₅ h₅ => wpAny_bind (wpAny_mono h₅ (fun _ s₆ h₆ => wpAny_pure (wpAny_pure h₆)) fun _ _ x => x)) fun _ _ x => x))
theorem turn_two1 {elt target iter : Expr} {ifs : List Expr} {g0 : Comprehension} {scope : Scope} {pos : Pos} {it acc : Value} {env : Env} {Q : Fin → Shared → Prop}
    (h : TurnW M A E target it env (LastW M A E elt ifs acc env) (Q (.done .next)) (Q (.again (.compLoop (.ListComp elt [g0, ⟨target, iter, ifs, 0⟩] scope pos) 1 it acc env))) s) :
    wpAny M A (compTurn (.ListComp elt [g0, ⟨target, iter, ifs, 0⟩] scope pos) 1 it acc env) Q E s := by
  rw [compTurn_two1]
  refine wpAny_bind (wpAny_standAt (wpAny_bind (wpAny_mono h (fun r s₁ h₁ => ?_) fun _ _ x => x)))
  cases r with
  | none => exact wpAny_pure h₁
  | some v =>
    refine wpAny_bind (wpAny_mono h₁ (fun _ s₂ h₂ => wpAny_bind (wpAny_mono h₂ (fun _ s₃ h₃ => wpAny_bind (wpAny_mono h₃ (fun ok s₄ h₄ => ?_) fun _ _ x => x)) fun _ _ x => x)) fun _ _ x => x)
    cases ok with
    | false => exact wpAny_pure h₄
    | true => exact wpAny_bind (wpAny_bind (wpAny_mono h₄ (fun x s₅ h₅ => wpAny_bind (wpAny_mono h₅ (fun _ s₆ h₆ => wpAny_pure (wpAny_pure h₆)) fun _ _ x => x)) fun _ _ x => x))
theorem turn_two0 {elt target iter target' iter' : Expr} {ifs ifs' : List Expr} {scope : Scope} {pos : Pos} {it acc : Value} {env : Env} {Q : Fin → Shared → Prop}
    (hs : ∀ x, foldedSetIterable iter' env x = pure x)
    (h : TurnW M A E target it env (NestW M A E (.ListComp elt [⟨target, iter, ifs, 0⟩, ⟨target', iter', ifs', 0⟩] scope pos) iter' ifs acc env) (Q (.done .next)) (Q (.again (.compLoop (.ListComp elt [⟨target, iter, ifs, 0⟩, ⟨target', iter', ifs', 0⟩] scope pos) 0 it acc env))) s) :
    wpAny M A (compTurn (.ListComp elt [⟨target, iter, ifs, 0⟩, ⟨target', iter', ifs', 0⟩] scope pos) 0 it acc env) Q E s := by
  rw [compTurn_two0]
  refine wpAny_bind (wpAny_standAt (wpAny_bind (wpAny_mono h (fun r s₁ h₁ => ?_) fun _ _ x => x)))
  cases r with
  | none => exact wpAny_pure h₁
  | some v =>
    refine wpAny_bind (wpAny_mono h₁ (fun _ s₂ h₂ => wpAny_bind (wpAny_mono h₂ (fun _ s₃ h₃ => wpAny_bind (wpAny_mono h₃ (fun ok s₄ h₄ => ?_) fun _ _ x => x)) fun _ _ x => x)) fun _ _ x => x)
    cases ok with
    | false => exact wpAny_pure h₄
    | true =>
      refine wpAny_bind (wpAny_mono h₄ (fun x s₅ h₅ => wpAny_bind (wpAny_standAt ?_)) fun _ _ x => x)
      refine wpAny_bind (wpAny_of_eq (hs x) ?_)
      exact wpAny_bind (wpAny_holding (wpAny_mono h₅ (fun it' s₆ h₆ => wpAny_bind (wpAny_mono h₆ (fun _ s₇ h₇ => wpAny_pure h₇) fun _ _ x => x)) fun _ _ x => x))
end
end Mine

namespace Mine
/-- the frame's places and the list that is filled -/
def Own (D : Addr) (own : List Str) (env : Env) (b : Addr) : Prop := b = D ∨ OwnF own env b
/-- where a comprehension stands: out is filled so far -/
structure CS (W : Wd) (hb : Heap) (X : Addr → Prop) (D : Addr) (own : List Str) (env : Env) (δ : TEnv) (out : List PyData) (h : Heap) : Prop where
  wok : W.ok hb
  hk : HK hb h
  fresh : ∀ b, Own D own env b → hb.get? b = none
  acc : ∃ ys m, h.get? D = some (lstO ys m) ∧ RepAll X h out ys.toList
  ts : TS X h env δ
  xin : XIn X h
  xd : X D
section
variable {W : Wd} {hb h h' : Heap} {X X' : Addr → Prop} {D : Addr} {own : List Str} {env : Env} {δ δ' : TEnv} {out : List PyData} {wr : List Addr}
theorem CS.okW (c : CS W hb X D own env δ out h) : W.ok h := W.mono _ _ c.hk c.wok
theorem CS.notD (c : CS W hb X D own env δ out h) : ¬ OwnF own env D := fun q => by
  obtain ⟨ys, m, e, _⟩ := c.acc
  exact ((c.ts.own q).1 ys m).1 e
theorem CS.ownSeq (c : CS W hb X D own env δ out h) : ∀ b, Own D own env b → X b ∨ NotSeq h b := fun b q => q.elim (fun e => .inl (e ▸ c.xd)) fun q => .inr (c.ts.own q).1
theorem CS.weak (c : CS W hb X D own env δ out h) (k : ∀ x r, δ' x = some r → δ x = some r) : CS W hb X D own env δ' out h := ⟨c.wok, c.hk, c.fresh, c.acc, c.ts.weak k, c.xin, c.xd⟩
theorem CS.keeps (c : CS W hb X D own env δ out h) (k : HK h h') : CS W hb X D own env δ out h' :=
  ⟨c.wok, c.hk.trans k, c.fresh, let ⟨ys, m, e, r⟩ := c.acc; ⟨ys, m, k _ _ e, r.keeps k⟩, c.ts.keeps k, c.xin.keeps k, c.xd⟩
/-- wr is laid aside too -/
theorem CS.more (c : CS W hb X D own env δ out h) (ha : ∀ b ∈ wr, IterAt h b) : CS W hb (fun a => X a ∨ a ∈ wr) D own env δ out h := by
  have k : KS2 X (fun a => X a ∨ a ∈ wr) h h := fun b vs n hx => ⟨fun e => ⟨fun q => q.elim hx fun q => ((ha b q).notSeq vs n).1 e, e⟩, fun e => ⟨fun q => q.elim hx fun q => ((ha b q).notSeq vs n).2 e, e⟩⟩
  exact ⟨c.wok, c.hk, c.fresh, let ⟨ys, m, e, r⟩ := c.acc; ⟨ys, m, e, RepAll.mono2 k _ _ r⟩, c.ts.mono k fun _ f => f, fun a q => q.elim (c.xin a) fun q => let ⟨o, _, e, _⟩ := ha a q; ⟨o, e⟩, .inl c.xd⟩
theorem CS.less (c : CS W hb X' D own env δ out h) (hX : ∀ a, X a → X' a) (xd : X D) : CS W hb X D own env δ out h :=
  ⟨c.wok, c.hk, c.fresh, let ⟨ys, m, e, r⟩ := c.acc; ⟨ys, m, e, RepAll.mono (KS.refl X' h) hX _ _ r⟩, c.ts.less hX, fun a q => c.xin a (hX a q), xd⟩
end

/-- what the part of a turn behind its target does: it fills outd in -/
def BodyJ (prog : Program) (w : World) (W : Wd) (n : Nat) (sc : Scope) (own : List Str) (δ : TEnv) (body : Around → (Value → Shared → Prop) → Env → Value → (Shared → Prop) → Shared → Prop) (outd : List PyData) : Prop :=
  ∀ (X : Addr → Prop) (A : Around) (hb : Heap) (D : Addr) (s : Shared) (env : Env) (out : List PyData) (Qt : Shared → Prop) (E : Value → Shared → Prop), Room n A → env.scope = sc → CS W hb X D own env δ out s.heap →
    out.length + outd.length ≤ sizeLine →
    (∀ h' tk, CS W hb X D own env δ (out ++ outd) h' → KO (Own D own env) s.heap h' → Qt { s with heap := h', toks := tk }) → body A E env (.ref D) Qt s

theorem take_flatMap {α β : Type} (f : α → List β) (l : List α) (i : Nat) (d : α) (h : l[i]? = some d) : (l.take (i + 1)).flatMap f = (l.take i).flatMap f ++ f d := by
  rw [List.take_add_one, h]; simp
theorem len_take_flatMap {α β : Type} (f : α → List β) (l : List α) (i : Nat) (d : α) (h : l[i]? = some d) : ((l.take i).flatMap f).length + (f d).length ≤ (l.flatMap f).length := by
  have e : l.flatMap f = (l.take i).flatMap f ++ (f d ++ (l.drop (i + 1)).flatMap f) := by
    have hl : l = l.take i ++ d :: l.drop (i + 1) := by
      have h1 := List.take_append_drop i l
      have h2 : l.drop i = d :: l.drop (i + 1) := by
        obtain ⟨hi, rfl⟩ := List.getElem?_eq_some_iff.mp h
        exact List.drop_eq_getElem_cons hi
      rw [h2] at h1; exact h1.symm
    conv => lhs; rw [hl]
    simp
  rw [e]; simp only [List.length_append]; omega

section
variable {prog : Program} {w : World} {W : Wd} {n : Nat} {sc : Scope} {own : List Str} {δ : TEnv} {A : Around}
theorem loop_comp {X : Addr → Prop} {it : Value} {target elt : Expr} {T : PyData → TEnv → TEnv} {gens : List Comprehension} {scope : Scope} {pos : Pos} {k : Nat} {ds : List PyData} {fp wr : List Addr} {St : Nat → Heap → Prop} {hb : Heap} {D : Addr} {env : Env} {out : List PyData} {s : Shared}
    {outs : PyData → List PyData} {R : Result → Shared → Prop} {body : Around → (Value → Shared → Prop) → Env → Value → (Shared → Prop) → Shared → Prop} (rm : Room n A) (hs : env.scope = sc)
    (S : Src prog w A it target T own sc (fun a => X a ∨ a ∈ wr) ds s.heap fp wr St) (st0 : St 0 s.heap) (hfp : ∀ b ∈ fp, ¬ Own D own env b) (hwr : ∀ b ∈ wr, hb.get? b = none) (hwX : ∀ b ∈ wr, ¬ X b) (cs : CS W hb X D own env δ out s.heap)
    (hδ : ∀ d ∈ ds, ∀ x r, δ x = some r → T d δ x = some r) (hbody : ∀ d ∈ ds, BodyJ prog w W n sc own (T d δ) body (outs d))
    (hlen : out.length + (ds.flatMap outs).length ≤ sizeLine)
    (hturn : ∀ (Q : PySem.Fin → Shared → Prop) (E : Value → Shared → Prop) (s' : Shared), TurnW (model prog w) A E target it env (body A E env (.ref D)) (Q (.done .next)) (Q (.again (.compLoop (.ListComp elt gens scope pos) k it (.ref D) env))) s' →
      wpAny (model prog w) A (compTurn (.ListComp elt gens scope pos) k it (.ref D) env) Q E s')
    (hR : ∀ h' tk, CS W hb X D own env δ (out ++ ds.flatMap outs) h' → KO (fun b => b ∈ wr ∨ Own D own env b) s.heap h' → R (.ok .next) { s with heap := h', toks := tk }) :
    codeAny (model prog w) A (.compLoop (.ListComp elt gens scope pos) k it (.ref D) env) R s := by
  have ownS : ∀ b, Own D own env b → X b ∨ NotSeq s.heap b := cs.ownSeq
  refine codeAny_loop rfl (fun m s' => ∃ i h' tk, s' = { s with heap := h', toks := tk } ∧ i ≤ ds.length ∧ m = ds.length + 1 - i ∧ St i h' ∧ CS W hb (fun a => X a ∨ a ∈ wr) D own env δ (out ++ (ds.take i).flatMap outs) h' ∧ KO (fun b => b ∈ wr ∨ Own D own env b) s.heap h')
    ?_ (ds.length + 1) ⟨0, s.heap, s.toks, rfl, Nat.zero_le _, rfl, st0, by simpa using cs.more (S.alive 0 _ st0), KO.refl _ _⟩
  rintro m s' ⟨i, h, tk, rfl, hi, rfl, st, c, ko⟩
  show wpAny _ A ((compTurn (.ListComp elt gens scope pos) k it (.ref D) env).onRaise (fun x => do noteFrame x env; theTreesLotGoes x)) _ _ _
  refine wpAny_noted (hturn _ _ _ ?_)
  by_cases hlt : i < ds.length
  · have hd : ds[i]? = some ds[i] := List.getElem?_eq_getElem hlt
    have hmem : ds[i] ∈ ds := List.getElem_mem hlt
    generalize ds[i] = d at hd hmem
    have ksI : KS (fun a => X a ∨ a ∈ wr) s.heap h := ko.ks fun b q => q.elim (fun q => .inl (.inr q)) fun q => (ownS b q).elim (fun z => .inl (.inl z)) .inr
    have alive := S.alive i _ st
    refine S.step i d { s with heap := h, toks := tk } env δ _ _ _ hd st hs c.ts (fun b hb q => hfp b hb (.inr q)) ksI c.xin fun h₃ tk₃ st₃ t₃ ko₃ => ?_
    · have ko₃' : KO (fun b => b ∈ wr ∨ OwnF own env b) h h₃ := ko₃
      have oS : ∀ b, b ∈ wr ∨ OwnF own env b → (X b ∨ b ∈ wr) ∨ NotSeq h b := fun b q => q.elim (fun q => .inl (.inr q)) fun q => .inr (c.ts.own q).1
      have ks₃ : KS (fun a => X a ∨ a ∈ wr) h h₃ := ko₃'.ks oS
      have c₃ : CS W hb (fun a => X a ∨ a ∈ wr) D own env (T d δ) (out ++ (ds.take i).flatMap outs) h₃ := by
        refine ⟨c.wok, ko₃'.hk c.hk fun b q => q.elim (hwr b) fun q => c.fresh b (.inr q), c.fresh, ?_, t₃, c.xin.ko ko₃' fun b q => q.elim (fun q => let ⟨o, _, e, _⟩ := S.alive (i + 1) _ st₃ b q; ⟨o, e⟩) fun q => (t₃.own q).2, c.xd⟩
        obtain ⟨ys, m, e, r⟩ := c.acc
        refine ⟨ys, m, ko₃' D _ (fun q => q.elim (fun q => ((alive D q).notSeq ys m).1 e) c.notD) e, RepAll.mono ks₃ (fun _ q => q) _ _ r⟩
      have hl := len_take_flatMap outs ds i d hd
      refine hbody d hmem _ A hb D { s with heap := h₃, toks := tk₃ } env _ _ _ rm hs c₃ (by simp only [List.length_append]; omega) fun h₄ tk₄ c₄ ko₄ => ?_
      refine ⟨rfl, ds.length + 1 - (i + 1), by omega, i + 1, h₄, tk₄, rfl, hlt, rfl, S.frame _ _ _ st₃ fun b hb o e => ko₄ b o (hfp b hb) e, ?_, ?_⟩
      · rw [take_flatMap outs ds i d hd, ← List.append_assoc]
        exact c₄.weak (hδ d hmem)
      · exact fun b o q e => ko₄ b o (fun z => q (.inr z)) (ko₃' b o (fun z => q (z.elim .inl fun z => .inr (.inr z))) (ko b o q e))
  · have hin : i = ds.length := by omega
    subst hin
    rw [List.take_length] at c
    refine S.done _ _ _ st fun h₁ tk₁ k₁ => ?_
    have k₁' : KO (· ∈ wr) h h₁ := k₁
    have alive := S.alive _ _ st
    have ks₁ : KS (fun a => X a ∨ a ∈ wr) h h₁ := k₁'.ks fun b q => .inl (.inr q)
    have hD : D ∉ wr := fun q => by
      obtain ⟨ys, m, e, _⟩ := c.acc
      exact ((alive D q).notSeq ys m).1 e
    refine hR h₁ tk₁ ⟨c.wok, k₁'.hk c.hk hwr, c.fresh, ?_, (c.ts.iter k₁' (fun b q => .inr q) alive).less fun _ q => .inl q, fun a q => ?_, cs.xd⟩ fun b o q e => k₁' b o (fun z => q (.inl z)) (ko b o q e)
    · obtain ⟨ys, m, e, r⟩ := c.acc
      exact ⟨ys, m, k₁' D _ hD e, RepAll.mono ks₁ (fun _ q => .inl q) _ _ r⟩
    · have z : a ∉ wr := fun z => hwX a z q
      obtain ⟨o, e⟩ := c.xin a (.inl q)
      exact ⟨o, k₁' a o z e⟩
end
end Mine

namespace Mine
def SeqAtX (X : Addr → Prop) (h : Heap) (b : Addr) : Prop := ¬ X b ∧ ∃ vs n, h.get? b = some (lstO vs n) ∨ h.get? b = some (tupO vs n)
/-- δ ⊢ e is an iterable that binds target (in a frame of scope scT) to ds, one after the other -/
def It (prog : Program) (w : World) (W : Wd) (n : Nat) (sc : Scope) (δ : TEnv) (scT : Scope) (own : List Str) (e target : Expr) (T : PyData → TEnv → TEnv) (ds : List PyData) : Prop :=
  ∀ (X : Addr → Prop) (A : Around) (s : Shared) (env : Env) (Q : Value → Shared → Prop) (E : Value → Shared → Prop), Room n A → env.scope = sc → W.ok s.heap → TS X s.heap env δ → XIn X s.heap →
    (∀ it fp wr St h' tk, HK s.heap h' → St 0 h' → (∀ b ∈ fp, ∃ o, h'.get? b = some o) → (∀ b ∈ fp, s.heap.get? b = none ∨ SeqAtX X s.heap b) → (∀ b ∈ wr, s.heap.get? b = none) → (∀ b ∈ wr, IterAt h' b) →
      (∀ X' hI, KS2 X X' h' hI → (∀ b ∈ wr, X' b) → Src prog w A it target T own scT X' ds hI fp wr St) → Q it { s with heap := h', toks := tk }) →
    wpAny (model prog w) A (eval e env) (fun x s₁ => wpAny (model prog w) A (pyIter x) Q E s₁) E s
def Trs (prog : Program) (w : World) (W : Wd) (n : Nat) (sc : Scope) (δ : TEnv) (ifs : List Expr) (b : Bool) : Prop :=
  ∀ (X : Addr → Prop) (A : Around) (s : Shared) (env : Env) (Q : Bool → Shared → Prop) (E : Value → Shared → Prop),
    Room n A → env.scope = sc → W.ok s.heap → TS X s.heap env δ → XIn X s.heap →
    (∀ h' tk, HK s.heap h' → Q b { s with heap := h', toks := tk }) → wpAny (model prog w) A (testsT ifs env) Q E s

section
variable {prog : Program} {w : World} {W : Wd} {n : Nat} {sc scT : Scope} {own : List Str} {δ : TEnv}
theorem Trs.nil : Trs prog w W n sc δ [] true := fun _ _ s _ _ _ _ _ _ _ _ hQ => wpAny_tests_nil (hQ s.heap s.toks (HK.refl _))
theorem Trs.one {c : Expr} {b : Bool} (h : Tr prog w W n sc δ c b) : Trs prog w W n sc δ [c] b := fun X A s env Q E rm hs hw t hX hQ => wpAny_tests_one (h X A s env Q E rm hs hw t hX hQ)

theorem seqL {X : Addr → Prop} {h : Heap} {a : Addr} {vs n} (hx : ¬ X a) (e : h.get? a = some (lstO vs n)) : SeqAtX X h a := ⟨hx, vs, n, .inl e⟩

theorem It.list {e : Expr} {x : Str} {p : Pos} {ds : List PyData} (h : Ev prog w W n sc δ e (.dat (.list ds))) (ho : okOwn scT own x = true) : It prog w W n sc δ scT own e (.Name x p) (Tgt (.Name x p)) ds :=
  fun X A s env Q E rm hs hw t hX hQ => h X A s env _ E rm hs hw t hX fun v h₁ tk₁ k₁ r₁ => by
    obtain ⟨a, vs, m, rfl, na, ha, hr⟩ := r₁
    have hl := hr.length
    simp only [Array.length_toList] at hl
    have hne : a ≠ h₁.objs.size := Nat.ne_of_lt (Heap.lt_size ha)
    refine wpAny_pyIter_list (items := vs) ⟨_, ha, rfl, m, rfl⟩ ?_
    have hnone : s.heap.get? h₁.objs.size = none := by
      cases q : s.heap.get? h₁.objs.size with
      | none => rfl
      | some o => have := k₁ _ _ q; rw [get_size] at this; cases this
    have W0 := Walks.list (prog := prog) (w := w) (A := A) rm.handled h₁.objs.size a hne vs
    refine hQ _ [h₁.objs.size, a] [h₁.objs.size] (fun i h => h.IsListIter h₁.objs.size a i ∧ h.IsList a vs) _ _ (k₁.trans (HK.push _ _)) ⟨⟨_, Heap.get?_push_size _ rfl, rfl, rfl⟩, ⟨_, Heap.get?_push_of_some _ ha, rfl, m, rfl⟩⟩ ?_ ?_ ?_ ?_ ?_
    · intro b hb
      simp only [List.mem_cons, List.not_mem_nil, or_false] at hb
      rcases hb with rfl | rfl
      · exact ⟨_, Heap.get?_push_size _ rfl⟩
      · exact ⟨_, Heap.get?_push_of_some _ ha⟩
    · intro b hb
      simp only [List.mem_cons, List.not_mem_nil, or_false] at hb
      rcases hb with rfl | rfl
      · exact .inl hnone
      · cases q : s.heap.get? b with
        | none => exact .inl rfl
        | some o => have := k₁ _ _ q; rw [ha] at this; cases this; exact .inr (seqL na q)
    · intro b hb
      simp only [List.mem_cons, List.not_mem_nil, or_false] at hb
      subst hb; exact hnone
    · intro b hb
      simp only [List.mem_cons, List.not_mem_nil, or_false] at hb
      subst hb; exact ⟨_, _, Heap.get?_push_size _ rfl, rfl⟩
    · intro X' hI k hwr
      rw [hl] at W0
      refine Src.name W0 hwr (fun i h st b hb => ?_) (fun i d v hd hv => ?_) ho
      · simp only [List.mem_cons, List.not_mem_nil, or_false] at hb
        subst hb
        obtain ⟨⟨o, e, _, d⟩, _⟩ := st
        exact ⟨o, _, e, d⟩
      · obtain ⟨u, h1, h2⟩ := hr.get hd
        rw [Array.getElem?_toList, hv] at h1
        cases h1
        exact Rep.mono2 k d v (Rep.keeps h2 (HK.push _ _))

def rangeD (k : Int) : List PyData := (List.range k.toNat).map fun (i : Nat) => PyData.int (i : Int)
theorem rangeD_get {k : Int} {i : Nat} {d : PyData} (h : (rangeD k)[i]? = some d) : i < k.toNat ∧ d = .int (i : Int) := by
  unfold rangeD at h
  rw [List.getElem?_map] at h
  cases q : (List.range k.toNat)[i]? with
  | none => rw [q] at h; cases h
  | some j =>
    rw [q] at h
    obtain ⟨hi, rfl⟩ := List.getElem?_eq_some_iff.mp q
    simp only [List.length_range] at hi
    simp at h
    exact ⟨hi, h.symm⟩
theorem It.range {x : Str} {p pn pos : Pos} {a : Expr} {k : Int} (hr : Ev prog w W n sc δ (.Name "range" pn) (.raw (.type "range"))) (ha : Ev prog w W n sc δ a (.dat (.int k))) (h1 : -(2 ^ 62) ≤ k) (h2 : k < 2 ^ 62) (ho : okOwn scT own x = true)
    (hst : ∀ env, starEach [a] env = [(false, eval a env)] := by intro _; rfl) : It prog w W n sc δ scT own (.Call (.Name "range" pn) [a] [] pos) (.Name x p) (Tgt (.Name x p)) (rangeD k) :=
  fun X A s env Q E rm hs hw t hX hQ => Call_Name rfl (hr X A s env _ E rm hs hw t hX fun f hp1 tk1 k1 e1 => by
    cases e1
    refine PyProof.Rows.callWith_type1 ?_ (by rw [hst]; rfl) rfl
    rw [hst]
    refine Calls.spliced_cons (ha X A _ env _ E rm hs (W.mono _ _ k1 hw) (t.keeps k1) (hX.keeps k1) fun v hp2 tk2 k2 r2 => Calls.spliced_nil ?_)
    obtain ⟨t2, rfl⟩ := r2
    refine call_range_1 (wpAny_pyIter_range (IsRange.new ..) (small_one (by decide) (by decide) h1 h2) ?_)
    have hsz : Builtin.Range.rangeSize 0 k 1 = (k.toNat : Int) := by rw [rangeSize_one]; split <;> omega
    rw [hsz]
    generalize hH : hp2.push { cls := .type "range", data := .fields #[.int 0 _, .int k t2, .int 1 _] } = H
    have kH : HK hp2 H := hH ▸ HK.push _ _
    have hHs : H.objs.size = hp2.objs.size + 1 := by rw [← hH, Heap.size_push]
    have hnone : s.heap.get? H.objs.size = none := by
      cases q : s.heap.get? H.objs.size with
      | none => rfl
      | some o => have := kH _ _ (k2 _ _ (k1 _ _ q)); rw [get_size] at this; cases this
    have W0 := Walks.range (prog := prog) (w := w) (A := A) rm.handled H.objs.size 0 1 k.toNat
    have hlen : (rangeD k).length = k.toNat := by simp [rangeD]
    refine hQ (.ref H.objs.size) [H.objs.size] [H.objs.size] (fun i h => IsRangeIter h H.objs.size (0 + (i : Nat) * 1) ((k.toNat : Int) - (i : Nat)) 1) _ _ (((k1.trans k2).trans kH).trans (HK.push _ _)) ?_ ?_ ?_ ?_ ?_ ?_
    · show IsRangeIter _ _ (0 + ((0 : Nat) : Int) * 1) ((k.toNat : Int) - ((0 : Nat) : Int)) 1
      have e1 : (0 + ((0 : Nat) : Int) * 1) = (0 : Int) := by simp
      have e2 : ((k.toNat : Int) - ((0 : Nat) : Int)) = (k.toNat : Int) := by simp
      rw [e1, e2]
      exact Heap.get?_push_size _ rfl
    · intro b hb
      simp only [List.mem_cons, List.not_mem_nil, or_false] at hb
      subst hb
      exact ⟨_, Heap.get?_push_size _ rfl⟩
    · intro b hb
      simp only [List.mem_cons, List.not_mem_nil, or_false] at hb
      subst hb; exact .inl hnone
    · intro b hb
      simp only [List.mem_cons, List.not_mem_nil, or_false] at hb
      subst hb; exact hnone
    · intro b hb
      simp only [List.mem_cons, List.not_mem_nil, or_false] at hb
      subst hb; exact ⟨_, _, Heap.get?_push_size _ rfl, rfl⟩
    · intro X' hI kk hwr
      rw [← hlen] at W0
      rw [← hlen]
      refine Src.name W0 hwr (fun i h st b hb => ?_) (fun i d v hd hv => ?_) ho
      · simp only [List.mem_cons, List.not_mem_nil, or_false] at hb
        subst hb
        exact ⟨_, _, st, rfl⟩
      · obtain ⟨_, rfl⟩ := rangeD_get hd
        obtain ⟨t', rfl⟩ := hv
        exact ⟨t', by simp⟩)
end
end Mine

namespace Mine
def closFrom (cells : List (Str × Addr)) : List (Str × NameKind) → List (Str × Addr) → List (Str × Addr)
  | [], acc => acc
  | (n, k) :: r, acc => if (k == .free) = true then closFrom cells r ((n, (cells.lookup n).getD 0) :: acc) else closFrom cells r acc
theorem forIn_clos {env : Env} : ∀ (names : List (Str × NameKind)) (acc : List (Str × Addr)) (f : Str × NameKind → List (Str × Addr) → Sem (ForInStep (List (Str × Addr)))),
    (∀ n k c, f (n, k) c = if (k == .free) = true then (do let x ← cellOf env n; pure (.yield ((n, x) :: c))) else pure (.yield c)) →
    (∀ n, (n, NameKind.free) ∈ names → ∃ c, env.cells.lookup n = some c) → forIn names acc f = pure (closFrom env.cells names acc)
  | [], acc, f, _, _ => by rw [List.forIn_nil]; rfl
  | (n, k) :: r, acc, f, hf, h => by
    rw [List.forIn_cons, hf]
    unfold closFrom
    have hr : ∀ n, (n, NameKind.free) ∈ r → ∃ c, env.cells.lookup n = some c := fun n hn => h n (List.mem_cons_of_mem _ hn)
    by_cases hk : (k == NameKind.free) = true
    · obtain ⟨c, hc⟩ := h n (by rw [beq_iff_eq.mp hk]; exact List.mem_cons_self)
      rw [if_pos hk, if_pos hk]
      have e : cellOf env n = pure c := by unfold cellOf; rw [hc]
      rw [e, hc]
      exact forIn_clos r _ f hf hr
    · rw [if_neg hk, if_neg hk]
      exact forIn_clos r _ f hf hr
theorem closureFor_eq {scope : Scope} {env : Env} (h : ∀ n, (n, NameKind.free) ∈ scope.names → ∃ c, env.cells.lookup n = some c) : closureFor scope env = pure (closFrom env.cells scope.names []) := by
  simp only [closureFor]
  rw [forIn_clos scope.names [] _ (fun n k c => by cases hk : k == NameKind.free <;> simp [hk]) h]
  rfl
theorem closFrom_lookup {cells : List (Str × Addr)} {x : Str} : ∀ (names : List (Str × NameKind)) (acc : List (Str × Addr)),
    (closFrom cells names acc).lookup x = if (x, NameKind.free) ∈ names then some ((cells.lookup x).getD 0) else acc.lookup x
  | [], acc => by simp [closFrom]
  | (n, k) :: r, acc => by
    unfold closFrom
    by_cases hk : (k == NameKind.free) = true
    · rw [if_pos hk, closFrom_lookup r]
      have hk' : k = .free := beq_iff_eq.mp hk
      subst hk'
      by_cases hr : (x, NameKind.free) ∈ r
      · rw [if_pos hr, if_pos (List.mem_cons_of_mem _ hr)]
      · rw [if_neg hr]
        by_cases hx : x = n
        · subst hx; rw [if_pos List.mem_cons_self, List.lookup_cons_self]
        · rw [if_neg (by intro q; rcases List.mem_cons.mp q with q | q; exact hx (Prod.mk.inj q).1; exact hr q), List.lookup_cons, beq_eq_false_iff_ne.mpr hx]
    · rw [if_neg hk, closFrom_lookup r]
      have : ((x, NameKind.free) ∈ (n, k) :: r) ↔ (x, NameKind.free) ∈ r := ⟨fun q => by rcases List.mem_cons.mp q with q | q; exact absurd (beq_iff_eq.mpr (Prod.mk.inj q).2.symm) hk; exact q, List.mem_cons_of_mem _⟩
      simp only [this]

def InjL (l : List (Str × Addr)) : Prop := ∀ x y c, l.lookup x = some c → l.lookup y = some c → x = y
theorem lookup_cons' {α : Type} {x n : Str} {c : α} {l : List (Str × α)} : List.lookup x ((n, c) :: l) = if x = n then some c else l.lookup x := by
  rw [List.lookup_cons]
  by_cases h : x = n
  · subst h; simp
  · rw [if_neg h, beq_eq_false_iff_ne.mpr h]
theorem cellsFrom_spec : ∀ (names : List (Str × NameKind)) (h : Heap) (acc : List (Str × Addr)) , InjL acc → (∀ x c, acc.lookup x = some c → c < h.objs.size) →
    InjL (cellsFrom h.objs.size names acc) ∧
    (∀ x c, (cellsFrom h.objs.size names acc).lookup x = some c → (acc.lookup x = some c ∧ (x, NameKind.cell) ∉ names) ∨ (h.objs.size ≤ c ∧ (pushCells h names).IsCell c none ∧ (x, NameKind.cell) ∈ names)) ∧
    (∀ x, (x, NameKind.cell) ∈ names → ∃ c, (cellsFrom h.objs.size names acc).lookup x = some c) ∧
    (∀ x c, (x, NameKind.cell) ∉ names → acc.lookup x = some c → (cellsFrom h.objs.size names acc).lookup x = some c) ∧ (∀ x c, acc.lookup x = some c → ∃ c', (cellsFrom h.objs.size names acc).lookup x = some c')
  | [], h, acc, hi, hl => ⟨hi, fun x c e => .inl ⟨e, by simp⟩, fun x q => by simp at q, fun x c _ e => e, fun x c e => ⟨c, e⟩⟩
  | (n, k) :: r, h, acc, hi, hl => by
    unfold cellsFrom pushCells
    by_cases hk : (k == NameKind.cell) = true
    · rw [if_pos hk, if_pos hk]
      have hk' : k = .cell := beq_iff_eq.mp hk
      subst hk'
      have hsz : (h.push { cls := .type "cell", data := .cell none }).objs.size = h.objs.size + 1 := Heap.size_push ..
      obtain ⟨i1, i2, i3, i4, i5⟩ := cellsFrom_spec r (h.push { cls := .type "cell", data := .cell none }) ((n, h.objs.size) :: acc)
        (fun x y c e1 e2 => by
          rw [lookup_cons'] at e1 e2
          by_cases hx : x = n <;> by_cases hy : y = n
          · rw [hx, hy]
          · rw [if_pos hx] at e1; rw [if_neg hy] at e2; cases e1; exact absurd (hl y _ e2) (Nat.lt_irrefl _)
          · rw [if_neg hx] at e1; rw [if_pos hy] at e2; cases e2; exact absurd (hl x _ e1) (Nat.lt_irrefl _)
          · rw [if_neg hx] at e1; rw [if_neg hy] at e2; exact hi x y c e1 e2)
        (fun x c e => by
          rw [lookup_cons'] at e
          rw [hsz]
          by_cases hx : x = n
          · rw [if_pos hx] at e; cases e; exact Nat.lt_succ_self _
          · rw [if_neg hx] at e; exact Nat.lt_succ_of_lt (hl x c e))
      rw [hsz] at i1 i2 i3 i4 i5
      refine ⟨i1, fun x c e => ?_, fun x q => ?_, fun x c q e => ?_, fun x c e => ?_⟩
      · rcases i2 x c e with ⟨a, b⟩ | ⟨a, b, d⟩
        · rw [lookup_cons'] at a
          by_cases hx : x = n
          · rw [if_pos hx] at a; cases a
            exact .inr ⟨Nat.le_refl _, ⟨_, pushCells_keeps r _ _ _ (Heap.get?_push_size _ rfl), rfl⟩, by rw [hx]; exact List.mem_cons_self⟩
          · rw [if_neg hx] at a
            exact .inl ⟨a, fun q => by rcases List.mem_cons.mp q with q | q; exact hx (Prod.mk.inj q).1; exact b q⟩
        · exact .inr ⟨Nat.le_trans (Nat.le_succ _) a, b, List.mem_cons_of_mem _ d⟩
      · rcases List.mem_cons.mp q with q | q
        · obtain ⟨rfl, _⟩ := Prod.mk.inj q
          exact i5 x h.objs.size (by rw [List.lookup_cons_self])
        · exact i3 x q
      · have hx : x ≠ n := fun z => q (by rw [z]; exact List.mem_cons_self)
        exact i4 x c (fun z => q (List.mem_cons_of_mem _ z)) (by rw [lookup_cons', if_neg hx]; exact e)
      · by_cases hx : x = n
        · exact i5 x h.objs.size (by rw [hx, List.lookup_cons_self])
        · exact i5 x c (by rw [lookup_cons', if_neg hx]; exact e)
    · rw [if_neg hk, if_neg hk]
      have hm : ∀ x, ((x, NameKind.cell) ∈ (n, k) :: r) ↔ (x, NameKind.cell) ∈ r := fun x => ⟨fun q => by rcases List.mem_cons.mp q with q | q; exact absurd (beq_iff_eq.mpr (Prod.mk.inj q).2.symm) hk; exact q, List.mem_cons_of_mem _⟩
      simp only [hm]
      exact cellsFrom_spec r h acc hi hl

theorem lookup_mem_nodup {α : Type} : ∀ {l : List (Str × α)} {x : Str} {k : α}, (l.map Prod.fst).Nodup → (x, k) ∈ l → l.lookup x = some k
  | (n, j) :: r, x, k, hn, hm => by
    rw [lookup_cons']
    simp only [List.map_cons, List.nodup_cons] at hn
    rcases List.mem_cons.mp hm with q | q
    · obtain ⟨rfl, rfl⟩ := Prod.mk.inj q; rw [if_pos rfl]
    · by_cases hx : x = n
      · subst hx; exact absurd (List.mem_map.mpr ⟨(x, k), q, rfl⟩) hn.1
      · rw [if_neg hx]; exact lookup_mem_nodup hn.2 q

/-- the scope of a comprehension in a frame of scope sc -/
def relS (scope sc : Scope) : Scope :=
  { scope with names := scope.names.map fun (n, k) => if (k == .free && sc.kind == .function && sc.names.lookup n == some .cell) then (n, .cell) else (n, k) }
theorem relS_eq (scope : Scope) (env : Env) : relabel scope env = relS scope env.scope := rfl
theorem relS_lookup {sc : Scope} {x : Str} : ∀ (names : List (Str × NameKind)),
    (names.map fun (n, k) => if (k == NameKind.free && sc.kind == .function && sc.names.lookup n == some .cell) then (n, NameKind.cell) else (n, k)).lookup x =
      (names.lookup x).map fun k => if (k == NameKind.free && sc.kind == .function && sc.names.lookup x == some .cell) then NameKind.cell else k
  | [] => rfl
  | (n, k) :: r => by
    rw [List.map_cons, lookup_cons' (l := r)]
    have e : (if (k == NameKind.free && sc.kind == .function && sc.names.lookup n == some .cell) = true then (n, NameKind.cell) else (n, k)) = (n, if (k == NameKind.free && sc.kind == .function && sc.names.lookup n == some .cell) = true then NameKind.cell else k) := by split <;> rfl
    show List.lookup x ((if (k == NameKind.free && sc.kind == .function && sc.names.lookup n == some .cell) = true then (n, NameKind.cell) else (n, k)) :: _) = _
    rw [e, lookup_cons']
    by_cases hx : x = n
    · subst hx; rw [if_pos rfl, if_pos rfl]; rfl
    · rw [if_neg hx, if_neg hx]; exact relS_lookup r
def nodupB : List Str → Bool
  | [] => true
  | x :: r => !r.contains x && nodupB r
theorem nodupB_ok : ∀ {l : List Str}, nodupB l = true → l.Nodup
  | [], _ => List.nodup_nil
  | x :: r, h => by
    unfold nodupB at h
    simp only [Bool.and_eq_true, Bool.not_eq_true'] at h
    refine List.nodup_cons.mpr ⟨fun q => ?_, nodupB_ok h.2⟩
    rw [List.contains_iff_mem.mpr q] at h
    cases h.1
/-- a comprehension's scope in a frame of scope sc: what is read there is kept in cells -/
def okComp (scope sc : Scope) : Bool := scope.kind == .function && nodupB (scope.names.map Prod.fst) && scope.names.all fun x => !(x.2 == .free) || sc.names.lookup x.1 == some .cell || sc.names.lookup x.1 == some .free
def ownC (scope : Scope) : List Str := (scope.names.filter fun x => x.2 == .cell).map Prod.fst
/-- what is known of the names that a comprehension reads -/
def TEnv.only (scope : Scope) (δ : TEnv) : TEnv := fun x => if scope.names.lookup x = some .free then δ x else none

section
variable {M : Model} {A : Around} {E : Value → Shared → Prop} {s : Shared} {X : Addr → Prop} {env : Env} {δ : TEnv} {scope : Scope}
theorem okComp.cases (ho : okComp scope env.scope = true) : scope.kind = .function ∧ (scope.names.map Prod.fst).Nodup ∧ ∀ n, (n, NameKind.free) ∈ scope.names → env.kindOf n = some .cell ∨ env.kindOf n = some .free := by
  unfold okComp at ho
  simp only [Bool.and_eq_true, beq_iff_eq, List.all_eq_true, Bool.or_eq_true, Bool.not_eq_true', beq_eq_false_iff_ne] at ho
  refine ⟨ho.1.1, nodupB_ok ho.1.2, fun n hn => ?_⟩
  rcases ho.2 _ hn with (q | q) | q
  · exact absurd rfl q
  · exact .inl q
  · exact .inr q
theorem TS.clos (t : TS X s.heap env δ) (ho : okComp scope env.scope = true) : closureFor scope env = pure (closFrom env.cells scope.names []) := by
  obtain ⟨ρ, f, _⟩ := t
  refine closureFor_eq fun n hn => ?_
  obtain ⟨c, h, _⟩ := f.cel n ((okComp.cases ho).2.2 n hn)
  exact ⟨c, h⟩
theorem wpAny_newComp {Q : Env → Shared → Prop} (t : TS X s.heap env δ) (ho : okComp scope env.scope = true)
    (hQ : ∀ (cenv : Env) (h' : Heap), HK s.heap h' → s.heap.get? cenv.locals = none → TS X h' { cenv with scope := relabel scope env } (δ.only scope) → (∀ b, OwnF (ownC scope) { cenv with scope := relabel scope env } b → s.heap.get? b = none) →
      Q cenv { s with heap := h' }) :
    wpAny M A (newFunctionEnv scope env.globals (closFrom env.cells scope.names []) [] env.qual none .none (some env)) Q E s := by
  obtain ⟨hk, hnd, hfree⟩ := okComp.cases ho
  obtain ⟨ρ, f, a⟩ := t
  simp only [newFunctionEnv, Option.isSome_some, if_true]
  refine wpAny_bind (wpAny_alloc ?_)
  refine wpAny_bind (wpAny_layCells _ (fun name kind cells => by cases hkc : kind == NameKind.cell <;> simp [hkc]) _ _ _ _ ?_)
  refine wpAny_bind (wpAny_pure (wpAny_pure ?_))
  generalize hH : s.heap.push { cls := .type "dict", data := .dict #[] } = H
  have hsz : H.objs.size = s.heap.objs.size + 1 := by rw [← hH, Heap.size_push]
  have kH : HK s.heap H := hH ▸ HK.push _ _
  have cl1 : ∀ x c, (closFrom env.cells scope.names []).lookup x = some c → (x, NameKind.free) ∈ scope.names ∧ env.cells.lookup x = some c ∧ s.heap.IsCell c (ρ x) := fun x c e => by
    rw [closFrom_lookup] at e
    by_cases q : (x, NameKind.free) ∈ scope.names
    · rw [if_pos q] at e
      obtain ⟨c', h1, h2⟩ := f.cel x (hfree x q)
      rw [h1] at e
      cases e
      exact ⟨q, h1, h2⟩
    · rw [if_neg q] at e; cases e
  obtain ⟨i1, i2, i3, i4, _⟩ := cellsFrom_spec scope.names H (closFrom env.cells scope.names [])
    (fun x y c e1 e2 => f.inj x y c (cl1 x c e1).2.1 (cl1 y c e2).2.1)
    (fun x c e => Nat.lt_trans (cl1 x c e).2.2.lt (by rw [hsz]; exact Nat.lt_succ_self _))
  have kP : HK H (pushCells H scope.names) := fun b o e => pushCells_keeps _ _ b o e
  have fresh : ∀ c, s.heap.objs.size ≤ c → s.heap.get? c = none := fun c hc => by
    cases e : s.heap.get? c with
    | none => rfl
    | some o => exact absurd (Heap.lt_size e) (Nat.not_lt.mpr hc)
  refine hQ _ _ (kH.trans kP) (fresh s.heap.objs.size (Nat.le_refl _)) ?_ ?_
  · refine ⟨fun x => if (x, NameKind.free) ∈ scope.names then ρ x else none, ⟨hk, f.glob, f.bi, ?_, ?_, ?_⟩, fun x r e => ?_⟩
    · refine ⟨fun _ => none, ?_, fun x hx => ?_⟩
      · exact ((Heap.Ns.new s.heap (.type "dict")).keeps (fun b o e => hH ▸ e)).keeps kP
      · have hx' : (relS scope env.scope).names.lookup x = some .local := hx
        unfold relS at hx'
        rw [relS_lookup] at hx'
        by_cases q : (x, NameKind.free) ∈ scope.names
        · rw [lookup_mem_nodup hnd q] at hx'
          simp only [Option.map_some] at hx'
          split at hx' <;> cases hx'
        · simp [q]
    · intro x hx
      have hx' : (relS scope env.scope).names.lookup x = some .cell ∨ (relS scope env.scope).names.lookup x = some .free := hx
      unfold relS at hx'
      simp only [relS_lookup] at hx'
      have hl : scope.names.lookup x = some .free ∨ scope.names.lookup x = some .cell := by
        cases q : scope.names.lookup x with
        | none => rw [q] at hx'; rcases hx' with q | q <;> cases q
        | some k =>
          rw [q] at hx'
          simp only [Option.map_some] at hx'
          split at hx'
          · rename_i hc
            simp only [Bool.and_eq_true, beq_iff_eq] at hc
            rw [hc.1.1]; exact .inl rfl
          · rcases hx' with q | q <;> cases q
            · exact .inr rfl
            · exact .inl rfl
      show ∃ c, (cellsFrom H.objs.size scope.names (closFrom env.cells scope.names [])).lookup x = some c ∧ _
      rcases hl with hl | hl
      · have hm := mem_of_lookup hl
        have hnc : (x, NameKind.cell) ∉ scope.names := fun q => by rw [lookup_mem_nodup hnd q] at hl; cases hl
        obtain ⟨c, h1, h2⟩ := f.cel x (hfree x hm)
        refine ⟨c, i4 x c hnc (by rw [closFrom_lookup, if_pos hm, h1]; rfl), ?_⟩
        simp only [if_pos hm]
        exact h2.keeps (kH.trans kP)
      · have hm := mem_of_lookup hl
        have hnf : (x, NameKind.free) ∉ scope.names := fun q => by rw [lookup_mem_nodup hnd q] at hl; cases hl
        obtain ⟨c, hc⟩ := i3 x hm
        refine ⟨c, hc, ?_⟩
        simp only [if_neg hnf]
        rcases i2 x c hc with ⟨_, q⟩ | ⟨_, q, _⟩
        · exact absurd hm q
        · exact q
    · exact i1
    · unfold TEnv.only at e
      by_cases hl : scope.names.lookup x = some .free
      · rw [if_pos hl] at e
        obtain ⟨v, p, q⟩ := a x r e
        exact ⟨v, (if_pos (mem_of_lookup hl)).trans p, Ent.keeps (kH.trans kP) q⟩
      · rw [if_neg hl] at e; cases e
  · rintro b (rfl | ⟨x, hx, _, hc⟩)
    · exact fresh _ (Nat.le_refl _)
    · have hc' : (cellsFrom H.objs.size scope.names (closFrom env.cells scope.names [])).lookup x = some b := hc
      unfold ownC at hx
      obtain ⟨⟨x', k⟩, hm, rfl⟩ := List.mem_map.mp hx
      simp only [List.mem_filter, beq_iff_eq] at hm
      have hm' : (x', NameKind.cell) ∈ scope.names := by rw [← hm.2]; exact hm.1
      rcases i2 x' b hc' with ⟨_, q⟩ | ⟨q, _, _⟩
      · exact absurd hm' q
      · exact fresh b (Nat.le_trans (by rw [hsz]; exact Nat.le_succ _) q)
end
end Mine

namespace Mine
section
variable {prog : Program} {w : World} {A : Around} {R : Result → Shared → Prop} {s : Shared}
theorem codeAny_compStart_one {elt target iter target' iter' : Expr} {ifs ifs' : List Expr} {scope : Scope} {pos : Pos} {it acc : Value} {env : Env}
    (h0 : codeAny (model prog w) A (.compLoop (.ListComp elt [⟨target, iter, ifs, 0⟩, ⟨target', iter', ifs', 0⟩] scope pos) 1 it acc env) R s)
    (h : wpAny (model prog w) A (pyIter it) (fun it' s' => codeAny (model prog w) A (.compLoop (.ListComp elt [⟨target, iter, ifs, 0⟩, ⟨target', iter', ifs', 0⟩] scope pos) 1 it' acc env) R s')
      (notedBy (model prog w) A env fun x s' => R (.error x) s') s) :
    codeAny (model prog w) A (.compStart (.ListComp elt [⟨target, iter, ifs, 0⟩, ⟨target', iter', ifs', 0⟩] scope pos) 1 it acc env) R s := by
  refine codeAny_of_tree ?_
  show wpAny _ _ ((compStart (.ListComp elt [⟨target, iter, ifs, 0⟩, ⟨target', iter', ifs', 0⟩] scope pos) 1 it acc env).onRaise (fun x => do noteFrame x env; standAt theWindowsPlace)) _ _ s
  refine wpAny_notedAt ?_
  unfold compStart
  show wpAny _ _ (ask >>= _) _ _ s
  refine wpAny_bind (wpAny_askSetting (wpAny_ite ?_))
  split
  · first
      | exact wpAny_bind (wpAny_pure (wpAny_pure (And.intro rfl h0)))
      | exact wpAny_pure (And.intro rfl h0)
  · first
      | exact wpAny_bind (wpAny_rule (wpAny_bind (wpAny_standAt (wpAny_bind (wpAny_mono h (fun it' s' h' => wpAny_pure (And.intro rfl h')) fun _ _ x => x)))))
      | (refine wpAny_bind (wpAny_rule ?_); show wpAny _ _ (standAt iter'.pos >>= _) _ _ s; exact wpAny_bind (wpAny_standAt (wpAny_bind (wpAny_mono h (fun it' s' h' => wpAny_pure (And.intro rfl h')) fun _ _ x => x))))
end

section
variable {prog : Program} {w : World} {W : Wd} {n : Nat} {sc : Scope} {own : List Str} {δ : TEnv}

/-- the append at the end of a turn -/
theorem app_comp {X : Addr → Prop} {A : Around} {hb : Heap} {D : Addr} {s : Shared} {env : Env} {out : List PyData} {v : Value} {d : PyData} {Q : Value → Shared → Prop} {E : Value → Shared → Prop}
    (c : CS W hb X D own env δ out s.heap) (r : Rep X s.heap d v) (hl : out.length ≤ sizeLine)
    (hQ : ∀ h', CS W hb X D own env δ (out ++ [d]) h' → KO (Own D own env) s.heap h' → Q .none { s with heap := h' }) : wpAny (model prog w) A (call (.builtin "list.append") [.ref D, v]) Q E s := by
  obtain ⟨ys, m, e, ra⟩ := c.acc
  have hsz := ra.length
  simp only [Array.length_toList] at hsz
  refine wpAny_list_append_plain (items := ys) ⟨m, e⟩ (fun h' hp hs => ?_) (by rw [hsz]; exact hl)
  obtain ⟨m', e'⟩ := hp
  have ko : KO (fun b => b = D) s.heap h' := fun b o q e => hs.extBut b o q e
  have ks : KS X s.heap h' := ko.ks fun b q => .inl (q ▸ c.xd)
  refine hQ h' ⟨c.wok, ko.hk c.hk fun b q => c.fresh b (.inl q), c.fresh, ⟨_, m', e', ?_⟩, c.ts.mono (ks.two fun _ q => q) fun ρ f => f.ko ko fun b q => .inr ⟨ys, m, q ▸ e⟩, c.xin.ko ko fun b q => ⟨_, q ▸ e'⟩, c.xd⟩ fun b o q e => ko b o (fun z => q (.inl z)) e
  rw [Array.toList_push]
  exact RepAll.append (RepAll.mono ks (fun _ q => q) _ _ ra) ⟨Rep.mono ks (fun _ q => q) _ _ r, trivial⟩

theorem BodyJ.last {elt : Expr} {ifs : List Expr} {b : Bool} {d : PyData} (ht : Trs prog w W n sc δ ifs b) (he : b = true → Ev prog w W n sc δ elt (.dat d)) :
    BodyJ prog w W n sc own δ (fun A E env acc Qt s => LastW (model prog w) A E elt ifs acc env Qt s) (if b = true then [d] else []) := fun X A hb D s env out Qt E rm hs c hlen hQ => by
  show wpAny _ _ _ _ _ _
  refine ht X A s env _ E rm hs c.okW c.ts c.xin fun h₁ tk₁ k₁ => ?_
  cases b with
  | false => exact hQ h₁ tk₁ (by simpa using c.keeps k₁) (k₁.ko _)
  | true =>
    refine he rfl X A _ env _ E rm hs (W.mono _ _ k₁ c.okW) (c.ts.keeps k₁) (c.xin.keeps k₁) fun v h₂ tk₂ k₂ r₂ => ?_
    have c₂ := (c.keeps k₁).keeps k₂
    refine app_comp (s := { s with heap := h₂, toks := tk₂ }) c₂ r₂ (by simp at hlen; omega) fun h₃ c₃ ko₃ => ?_
    have ko₃' : KO (Own D own env) h₂ h₃ := ko₃
    exact hQ h₃ tk₂ c₃ (((k₁.trans k₂).ko _).trans ko₃')

/-- what is fresh, and what a list is, is none of the frame's -/
theorem CS.apart {hb h : Heap} {X : Addr → Prop} {D : Addr} {env : Env} {out : List PyData} (c : CS W hb X D own env δ out h) {b : Addr} (hf : h.get? b = none ∨ SeqAtX X h b) : ¬ Own D own env b := by
  rintro (rfl | q)
  · rcases hf with hf | ⟨hx, _⟩
    · obtain ⟨ys, m, e, _⟩ := c.acc; rw [hf] at e; cases e
    · exact hx c.xd
  · obtain ⟨ns, o, e⟩ := c.ts.own q
    rcases hf with hf | ⟨_, vs, m, hf | hf⟩
    · rw [hf] at e; cases e
    · exact (ns vs m).1 hf
    · exact (ns vs m).2 hf
theorem none_of {hb h : Heap} (k : HK hb h) {b : Addr} (e : h.get? b = none) : hb.get? b = none := by
  cases q : hb.get? b with
  | none => rfl
  | some o => have := k _ _ q; rw [e] at this; cases this

theorem BodyJ.nest {elt target iter target' iter' : Expr} {ifs ifs' : List Expr} {scope : Scope} {pos : Pos} {b : Bool} {T : PyData → TEnv → TEnv} {ds : List PyData} {outs : PyData → List PyData}
    (ht : Trs prog w W n sc δ ifs b) (hi : b = true → It prog w W n sc δ sc own iter' target' T ds) (hδ : b = true → ∀ d ∈ ds, ∀ x r, δ x = some r → T d δ x = some r)
    (hbody : b = true → ∀ d ∈ ds, BodyJ prog w W n sc own (T d δ) (fun A E env acc Qt s => LastW (model prog w) A E elt ifs' acc env Qt s) (outs d)) :
    BodyJ prog w W n sc own δ (fun A E env acc Qt s => NestW (model prog w) A E (.ListComp elt [⟨target, iter, ifs, 0⟩, ⟨target', iter', ifs', 0⟩] scope pos) iter' ifs acc env Qt s) (if b = true then ds.flatMap outs else []) := fun X A hb D s env out Qt E rm hs c hlen hQ => by
  show wpAny _ _ _ _ _ _
  refine ht X A s env _ E rm hs c.okW c.ts c.xin fun h₁ tk₁ k₁ => ?_
  cases b with
  | false => exact hQ h₁ tk₁ (by simpa using c.keeps k₁) (k₁.ko _)
  | true =>
    have c₁ := c.keeps k₁
    refine hi rfl X A { s with heap := h₁, toks := tk₁ } env _ E rm hs c₁.okW c₁.ts c₁.xin fun it fp wr St h₂ tk₂ k₂ st₂ hlt hfp hwr ha S => ?_
    have k₂' : HK h₁ h₂ := k₂
    have c₂ := c₁.keeps k₂'
    have hwr' : ∀ b ∈ wr, h₁.get? b = none := hwr
    have ko2 : ∀ h', KO (fun b => b ∈ wr ∨ Own D own env b) h₂ h' → KO (Own D own env) s.heap h' := fun h' ko b o q e =>
      ko b o (fun z => z.elim (fun z => by have := k₁ b o e; rw [hwr' b z] at this; cases this) q) (k₂' b o (k₁ b o e))
    have X2 : KS2 X (fun a => X a ∨ a ∈ wr) h₂ h₂ := fun b vs n hx => ⟨fun e => ⟨fun q => q.elim hx fun q => ((ha b q).notSeq vs n).1 e, e⟩, fun e => ⟨fun q => q.elim hx fun q => ((ha b q).notSeq vs n).2 e, e⟩⟩
    have SS := S (fun a => X a ∨ a ∈ wr) h₂ X2 fun b q => .inr q
    refine wpAny_runOwn ?_
    rw [Around.mark_none]
    have loop : ∀ s₃ : Shared, s₃ = { s with heap := h₂, toks := tk₂ } → codeAny (model prog w) A (.compLoop (.ListComp elt [⟨target, iter, ifs, 0⟩, ⟨target', iter', ifs', 0⟩] scope pos) 1 it (.ref D) env)
        (fun r s' => match r with | .ok _ => Qt s' | .error e => cameBackBy (model prog w) A env E e s') s₃ := by
      rintro s₃ rfl
      refine loop_comp rm hs SS st₂ (fun b hb' => ?_) (fun b hb' => none_of c₁.hk (hwr' b hb')) (fun b hb' hx => ?_) c₂ (hδ rfl) (hbody rfl) (by simpa using hlen) (fun Q' E' s' ht' => turn_two1 ht') fun h' tk c' ko => ?_
      · have := hfp b hb'
        exact c₁.apart (b := b) this
      · obtain ⟨o, e⟩ := c₁.xin b hx
        rw [hwr' b hb'] at e; cases e
      · exact hQ h' tk (by simpa using c') (ko2 h' ko)
    exact codeAny_compStart_one (loop _ rfl) (SS.self 0 _ _ _ st₂ (loop _ rfl))
end
end Mine

namespace Mine
/-- the same, with nothing said of where the iterator looks -/
def ItC (prog : Program) (w : World) (W : Wd) (n : Nat) (sc : Scope) (δ : TEnv) (scT : Scope) (own : List Str) (e target : Expr) (T : PyData → TEnv → TEnv) (ds : List PyData) : Prop :=
  ∀ (X : Addr → Prop) (A : Around) (s : Shared) (env : Env) (Q : Value → Shared → Prop) (E : Value → Shared → Prop), Room n A → env.scope = sc → W.ok s.heap → TS X s.heap env δ → XIn X s.heap →
    (∀ it fp wr St h' tk, HK s.heap h' → St 0 h' → (∀ b ∈ fp, ∃ o, h'.get? b = some o) → (∀ b ∈ wr, s.heap.get? b = none) → (∀ b ∈ wr, IterAt h' b) →
      (∀ X' hI, KS2 X X' h' hI → (∀ b ∈ wr, X' b) → Src prog w A it target T own scT X' ds hI fp wr St) → Q it { s with heap := h', toks := tk }) →
    wpAny (model prog w) A (eval e env) (fun x s₁ => wpAny (model prog w) A (pyIter x) Q E s₁) E s
section
variable {prog : Program} {w : World} {W : Wd} {n : Nat} {sc : Scope} {δ : TEnv}
theorem It.toC {scT : Scope} {own : List Str} {e target : Expr} {T : PyData → TEnv → TEnv} {ds : List PyData} (h : It prog w W n sc δ scT own e target T ds) : ItC prog w W n sc δ scT own e target T ds :=
  fun X A s env Q E rm hs hw t hX hQ => h X A s env Q E rm hs hw t hX fun it fp wr St h' tk k st hlt _ hwr ha S => hQ it fp wr St h' tk k st hlt hwr ha S

theorem comp_block {elt target iter : Expr} {ifs : List Expr} {rest : List Comprehension} {scope : Scope} {pos pos' : Pos} {T : PyData → TEnv → TEnv} {ds : List PyData} {outs : PyData → List PyData}
    {body : Around → (Value → Shared → Prop) → Env → Value → (Shared → Prop) → Shared → Prop} {use : Option (Value → Sem Unit)}
    {X : Addr → Prop} {A : Around} {s : Shared} {env : Env} {Q : Value → Shared → Prop} {E : Value → Shared → Prop} (rm : Room n A) (hs : env.scope = sc) (hw : W.ok s.heap) (t : TS X s.heap env δ) (hX : XIn X s.heap)
    (ho : okComp scope sc = true) (hi : ItC prog w W n sc δ (relS scope sc) (ownC scope) iter target T ds) (hδ : ∀ d ∈ ds, ∀ x r, (δ.only scope) x = some r → T d (δ.only scope) x = some r)
    (hbody : ∀ d ∈ ds, BodyJ prog w W n (relS scope sc) (ownC scope) (T d (δ.only scope)) body (outs d)) (hlen : (ds.flatMap outs).length ≤ sizeLine)
    (hturn : ∀ (A : Around) (it acc : Value) (env : Env) (Q : PySem.Fin → Shared → Prop) (E : Value → Shared → Prop) (s' : Shared), TurnW (model prog w) A E target it env (body A E env acc) (Q (.done .next)) (Q (.again (.compLoop (.ListComp elt (⟨target, iter, ifs, 0⟩ :: rest) scope pos) 0 it acc env))) s' →
      wpAny (model prog w) A (compTurn (.ListComp elt (⟨target, iter, ifs, 0⟩ :: rest) scope pos) 0 it acc env) Q E s')
    (hfs : ∀ x, foldedSetIterable iter env x = pure x)
    (hQ : ∀ D C h' tk m, HK s.heap h' → Rep X h' (.list (ds.flatMap outs)) (.ref D) → s.heap.get? C = none → h'.Ns C m → compPost (model prog w) A E use Q (.ref D) C (.ok .next) { s with heap := h', toks := tk }) :
    wpAny (model prog w) A (comprehension (.ListComp elt (⟨target, iter, ifs, 0⟩ :: rest) scope pos) scope env pos' (newList []) false (eval iter env) use) Q E s := by
  have ho' : okComp scope env.scope = true := by rw [hs]; exact ho
  obtain ⟨hk, hnd, hfree⟩ := okComp.cases ho'
  refine wpAny_comprehension_free rfl hfs (TS.clos t ho') hk (fun x hx hl => lookup_mem_nodup hnd (by rw [← hl]; exact hx)) ?_
  refine hi X A s env _ E rm hs hw t hX fun it fp wr St h₁ tk₁ k₁ st₁ hlt hwr ha S => ?_
  refine wpAny_newObj_type ?_
  dsimp only
  generalize hD : h₁.objs.size = D
  have hDn : h₁.get? D = none := hD ▸ get_size h₁
  have hDs : s.heap.get? D = none := none_of k₁ hDn
  generalize hH2 : h₁.push { cls := .type "list", dict := none, data := .seq ([] : List Value).toArray } = h₂
  have k₂ : HK h₁ h₂ := hH2 ▸ HK.push _ _
  have hgD : h₂.get? D = some (lstO #[] 0) := by rw [← hH2, ← hD]; exact Heap.get?_push_size _ rfl
  have hnX : ¬ X D := hX.fresh hDs
  have k1D : KS2 X (fun a => X a ∨ a = D) h₁ h₂ := fun b vs m hx => ⟨fun e => ⟨fun q => q.elim hx fun q => (by rw [q, hDn] at e; cases e), k₂ b _ e⟩, fun e => ⟨fun q => q.elim hx fun q => (by rw [q, hDn] at e; cases e), k₂ b _ e⟩⟩
  have t₂ : TS (fun a => X a ∨ a = D) h₂ env δ := (t.keeps k₁).mono k1D fun ρ f => f.keeps k₂
  refine wpAny_newComp (s := { s with heap := h₂, toks := tk₁ }) (X := fun a => X a ∨ a = D) (δ := δ) t₂ ho' fun cenv h₃ k₃ hC t₃ hown => ?_
  have k₃' : HK h₂ h₃ := k₃
  have k13 : HK h₁ h₃ := k₂.trans k₃'
  have k03 : HK s.heap h₃ := k₁.trans k13
  have hC2 : h₂.get? cenv.locals = none := hC
  have hcl : ({ cenv with scope := relabel scope env } : Env).locals = cenv.locals := rfl
  generalize hce : ({ cenv with scope := relabel scope env } : Env) = ce at t₃ hown hcl ⊢
  have hsc : ce.scope = relS scope sc := by rw [← hce, ← hs]; rfl
  have hgD3 : h₃.get? D = some (lstO #[] 0) := k₃' _ _ hgD
  have hown2 : ∀ b, OwnF (ownC scope) ce b → h₂.get? b = none := hown
  have c₃ : CS W s.heap (fun a => X a ∨ a = D) D (ownC scope) ce (δ.only scope) [] h₃ := by
    refine ⟨hw, k03, fun b q => ?_, ⟨#[], 0, hgD3, trivial⟩, t₃, fun a q => ?_, .inr rfl⟩
    · rcases q with rfl | q
      · exact hDs
      · exact none_of (k₁.trans k₂) (hown2 b q)
    · rcases q with q | rfl
      · obtain ⟨o, e⟩ := hX a q; exact ⟨o, k03 a o e⟩
      · exact ⟨_, hgD3⟩
  have k1X : KS2 X (fun a => (X a ∨ a = D) ∨ a ∈ wr) h₁ h₃ := fun b vs m hx =>
    ⟨fun e => ⟨fun q => q.elim (fun q => q.elim hx fun q => (by rw [q, hDn] at e; cases e)) fun q => ((ha b q).notSeq vs m).1 e, k13 b _ e⟩,
     fun e => ⟨fun q => q.elim (fun q => q.elim hx fun q => (by rw [q, hDn] at e; cases e)) fun q => ((ha b q).notSeq vs m).2 e, k13 b _ e⟩⟩
  have SS := S (fun a => (X a ∨ a = D) ∨ a ∈ wr) h₃ k1X fun b q => .inr q
  have st₃ : St 0 h₃ := SS.frame 0 _ _ st₁ fun b _ o e => k13 b o e
  have loop : ∀ s₃ : Shared, s₃ = { s with heap := h₃, toks := tk₁ } → codeAny (model prog w) A (.compLoop (.ListComp elt (⟨target, iter, ifs, 0⟩ :: rest) scope pos) 0 it (.ref D) ce) (compPost (model prog w) A E use Q (.ref D) cenv.locals) s₃ := by
    rintro s₃ rfl
    refine loop_comp rm hsc SS st₃ (fun b hb => ?_) (fun b hb => hwr b hb) (fun b hb q => ?_) c₃ hδ hbody (by simpa using hlen) (fun Q' E' s' ht' => hturn A it (.ref D) ce Q' E' s' ht') fun h' tk c' ko => ?_
    · rintro (q | q)
      · obtain ⟨o, e⟩ := hlt b hb
        rw [q, hDn] at e; cases e
      · obtain ⟨o, e⟩ := hlt b hb
        have := k₂ b o e
        rw [hown2 b q] at this; cases this
    · rcases q with q | rfl
      · obtain ⟨o, e⟩ := hX b q; rw [hwr b hb] at e; cases e
      · obtain ⟨o, _, e, _⟩ := ha b hb; rw [hDn] at e; cases e
    · obtain ⟨ys, m, e, r⟩ := c'.acc
      obtain ⟨ρ, f, _⟩ := c'.ts
      obtain ⟨mm, hmm, _⟩ := f.loc
      refine hQ D cenv.locals h' tk mm c'.hk ⟨D, ys, m, rfl, hnX, e, RepAll.mono (KS.refl _ _) (fun a q => .inl q) _ _ r⟩ (none_of (k₁.trans k₂) hC2) (hcl ▸ hmm)
  exact codeAny_compStart_list (loop _ rfl) (SS.self 0 _ _ _ st₃ (loop _ rfl))

theorem BodyJ.congr {own : List Str} {body : Around → (Value → Shared → Prop) → Env → Value → (Shared → Prop) → Shared → Prop} {o o' : List PyData} (h : BodyJ prog w W n sc own δ body o) (e : o = o') : BodyJ prog w W n sc own δ body o' := e ▸ h

/-- [elt for target in iter if ..] -/
theorem Ev.comp1 {elt target iter : Expr} {ifs : List Expr} {scope : Scope} {pos : Pos} {T : PyData → TEnv → TEnv} {ds : List PyData} (outs : PyData → List PyData)
    (hi : It prog w W n sc δ (relS scope sc) (ownC scope) iter target T ds) (hδ : ∀ d ∈ ds, ∀ x r, (δ.only scope) x = some r → T d (δ.only scope) x = some r)
    (hbody : ∀ d ∈ ds, BodyJ prog w W n (relS scope sc) (ownC scope) (T d (δ.only scope)) (fun A E env acc Qt s => LastW (model prog w) A E elt ifs acc env Qt s) (outs d)) (hlen : (ds.flatMap outs).length ≤ sizeLine)
    (ho : okComp scope sc = true := by rfl) (hfs : ∀ env x, foldedSetIterable iter env x = pure x := by intro _ _; rfl) :
    Ev prog w W n sc δ (.ListComp elt [⟨target, iter, ifs, 0⟩] scope pos) (.dat (.list (ds.flatMap outs))) := fun X A s env Q E rm hs hw t hX hQ => by
  rw [eval_ListComp]
  refine comp_block (use := none) rm hs hw t hX ho hi.toC hδ hbody hlen (fun A it acc env Q E s' h => turn_one h) (hfs env) fun D C h' tk m k r hC hm => ?_
  refine ⟨m, hm, fun h'' hs'' => hQ _ h'' tk (fun b o e => hs''.extBut b o (by rintro rfl; rw [hC] at e; cases e) (k b o e)) ?_⟩
  obtain ⟨oC, es, ep, eC, dC, _⟩ := hm
  have ko : KO (fun b => b = C) h' h'' := fun b o q e => hs''.extBut b o q e
  exact Rep.mono (ko.ks fun b q => .inr (q ▸ .dict eC dC)) (fun _ q => q) _ _ r
/-- [elt for target in iter if .. for target' in iter' if ..] -/
theorem Ev.comp2 {elt target iter target' iter' : Expr} {ifs ifs' : List Expr} {scope : Scope} {pos : Pos} {T : PyData → TEnv → TEnv} {ds : List PyData} (outs : PyData → List PyData)
    (hi : It prog w W n sc δ (relS scope sc) (ownC scope) iter target T ds) (hδ : ∀ d ∈ ds, ∀ x r, (δ.only scope) x = some r → T d (δ.only scope) x = some r)
    (hbody : ∀ d ∈ ds, BodyJ prog w W n (relS scope sc) (ownC scope) (T d (δ.only scope)) (fun A E env acc Qt s => NestW (model prog w) A E (.ListComp elt [⟨target, iter, ifs, 0⟩, ⟨target', iter', ifs', 0⟩] scope pos) iter' ifs acc env Qt s) (outs d)) (hlen : (ds.flatMap outs).length ≤ sizeLine)
    (ho : okComp scope sc = true := by rfl) (hfs : ∀ env x, foldedSetIterable iter env x = pure x := by intro _ _; rfl) (hfs' : ∀ env x, foldedSetIterable iter' env x = pure x := by intro _ _; rfl) :
    Ev prog w W n sc δ (.ListComp elt [⟨target, iter, ifs, 0⟩, ⟨target', iter', ifs', 0⟩] scope pos) (.dat (.list (ds.flatMap outs))) := fun X A s env Q E rm hs hw t hX hQ => by
  rw [eval_ListComp]
  refine comp_block (use := none) rm hs hw t hX ho hi.toC hδ hbody hlen (fun A it acc env Q E s' h => turn_two0 (hfs' env) h) (hfs env) fun D C h' tk m k r hC hm => ?_
  refine ⟨m, hm, fun h'' hs'' => hQ _ h'' tk (fun b o e => hs''.extBut b o (by rintro rfl; rw [hC] at e; cases e) (k b o e)) ?_⟩
  obtain ⟨oC, es, ep, eC, dC, _⟩ := hm
  have ko : KO (fun b => b = C) h' h'' := fun b o q e => hs''.extBut b o q e
  exact Rep.mono (ko.ks fun b q => .inr (q ▸ .dict eC dC)) (fun _ q => q) _ _ r
end
end Mine

namespace Mine
section
variable {prog : Program} {w : World} {W : Wd} {n : Nat} {sc scT : Scope} {own : List Str} {δ : TEnv}

theorem fresh_or {hb h : Heap} {X : Addr → Prop} (k : HK hb h) {a : Addr} {vs : Array Value} {m : Nat} (na : ¬ X a) (e : h.get? a = some (lstO vs m) ∨ h.get? a = some (tupO vs m)) : hb.get? a = none ∨ SeqAtX X hb a := by
  cases q : hb.get? a with
  | none => exact .inl rfl
  | some o =>
    have := k _ _ q
    refine .inr ⟨na, vs, m, ?_⟩
    rcases e with e | e <;> rw [this] at e
    · exact .inl (q.trans e)
    · exact .inr (q.trans e)

theorem It.pairs {e : Expr} {x y : Str} {p q pos : Pos} {k0 : Nat} {ds : List PyData} (h : Ev prog w W n sc δ e (.dat (.list ds))) (hds : ∀ d ∈ ds, ∃ a b, d = .tuple [a, b])
    (hox : okOwn scT own x = true) (hoy : okOwn scT own y = true) : It prog w W n sc δ scT own e (.Tuple [.Name x p, .Name y q] k0 pos) (Tgt (.Tuple [.Name x p, .Name y q] k0 pos)) ds :=
  fun X A s env Q E rm hs hw t hX hQ => h X A s env _ E rm hs hw t hX fun v h₁ tk₁ k₁ r₁ => by
    obtain ⟨a, vs, m, rfl, na, ha, hr⟩ := r₁
    have hl := hr.length
    simp only [Array.length_toList] at hl
    have hne : a ≠ h₁.objs.size := Nat.ne_of_lt (Heap.lt_size ha)
    have hall : ∀ j : Nat, ∃ z : Addr × Array Value, j < vs.size → vs[j]? = some (.ref z.1) ∧ ¬ X z.1 ∧ (∃ m, h₁.get? z.1 = some (tupO z.2 m)) ∧ ∃ a b, ds[j]? = some (.tuple [a, b]) ∧ RepAll X h₁ [a, b] z.2.toList := fun j => by
      by_cases hj : j < vs.size
      · have hj' : j < ds.length := by omega
        have hd : ds[j]? = some ds[j] := List.getElem?_eq_getElem hj'
        obtain ⟨a, b, e⟩ := hds ds[j] (List.getElem_mem hj')
        rw [e] at hd
        obtain ⟨u, h1, h2⟩ := hr.get hd
        obtain ⟨T, us, m', rfl, nT, hT, hru⟩ := h2
        exact ⟨(T, us), fun _ => ⟨by rw [← Array.getElem?_toList]; exact h1, nT, ⟨m', hT⟩, a, b, hd, hru⟩⟩
      · exact ⟨(0, #[]), fun q => absurd q hj⟩
    obtain ⟨f, hf⟩ := Classical.axiomOfChoice hall
    refine wpAny_pyIter_list (items := vs) ⟨_, ha, rfl, m, rfl⟩ ?_
    have hnone : s.heap.get? h₁.objs.size = none := none_of k₁ (get_size h₁)
    have hTI : ∀ j, j < vs.size → (f j).1 ≠ h₁.objs.size := fun j hj => by obtain ⟨_, _, ⟨m, e⟩, _⟩ := hf j hj; exact Nat.ne_of_lt (Heap.lt_size e)
    have W0 := WalksU.listOfTuples (prog := prog) (w := w) (A := A) rm.handled h₁.objs.size a hne vs (fun j => (f j).1) (fun j => (f j).2) (fun j hj => (hf j hj).1) hTI
    refine hQ (.ref h₁.objs.size) (h₁.objs.size :: a :: (List.range vs.size).map fun j => (f j).1) [h₁.objs.size] (fun j h => h.IsListIter h₁.objs.size a j ∧ h.IsList a vs ∧ ∀ k, k < vs.size → h.IsTuple (f k).1 (f k).2) _ _ (k₁.trans (HK.push _ _))
      ⟨⟨_, Heap.get?_push_size _ rfl, rfl, rfl⟩, ⟨_, Heap.get?_push_of_some _ ha, rfl, m, rfl⟩, fun k hk => ?_⟩ ?_ ?_ ?_ ?_ ?_
    · obtain ⟨_, _, ⟨m, e⟩, _⟩ := hf k hk
      exact ⟨_, Heap.get?_push_of_some _ e, rfl, m, rfl⟩
    · intro b hb
      rcases List.mem_cons.mp hb with rfl | hb
      · exact ⟨_, Heap.get?_push_size _ rfl⟩
      rcases List.mem_cons.mp hb with rfl | hb
      · exact ⟨_, Heap.get?_push_of_some _ ha⟩
      · obtain ⟨j, hj, rfl⟩ := List.mem_map.mp hb
        obtain ⟨_, _, ⟨m, e⟩, _⟩ := hf j (List.mem_range.mp hj)
        exact ⟨_, Heap.get?_push_of_some _ e⟩
    · intro b hb
      rcases List.mem_cons.mp hb with rfl | hb
      · exact .inl hnone
      rcases List.mem_cons.mp hb with rfl | hb
      · exact fresh_or k₁ na (.inl ha)
      · obtain ⟨j, hj, rfl⟩ := List.mem_map.mp hb
        obtain ⟨_, nT, ⟨m, e⟩, _⟩ := hf j (List.mem_range.mp hj)
        exact fresh_or k₁ nT (.inr e)
    · intro b hb
      simp only [List.mem_cons, List.not_mem_nil, or_false] at hb
      subst hb; exact hnone
    · intro b hb
      simp only [List.mem_cons, List.not_mem_nil, or_false] at hb
      subst hb; exact ⟨_, _, Heap.get?_push_size _ rfl, rfl⟩
    · intro X' hI k hwr
      refine Src.pair (Pt := fun j v => v = (f j).2) (Mid := fun j T h => (j < vs.size ∧ T = (f j).1) ∧ h.IsListIter h₁.objs.size a (j + 1) ∧ h.IsList a vs ∧ ∀ k, k < vs.size → h.IsTuple (f k).1 (f k).2) rm.handled (by rw [← hl]; exact W0) hwr (fun i h st b hb => ?_) (fun i T h mid b hb => ?_) (fun i d us hd hv => ?_) hox hoy
      · simp only [List.mem_cons, List.not_mem_nil, or_false] at hb
        subst hb
        obtain ⟨⟨o, e, _, d⟩, _⟩ := st
        exact ⟨o, _, e, d⟩
      · simp only [List.mem_cons, List.not_mem_nil, or_false] at hb
        subst hb
        obtain ⟨_, ⟨o, e, _, d⟩, _⟩ := mid
        exact ⟨o, _, e, d⟩
      · subst hv
        have hi : i < vs.size := by have := (List.getElem?_eq_some_iff.mp hd).1; omega
        obtain ⟨_, _, _, a', b', e, r⟩ := hf i hi
        rw [hd] at e
        cases e
        exact ⟨a', b', rfl, RepAll.mono2 k _ _ (r.keeps (HK.push _ _))⟩

def enumD (ds : List PyData) : List PyData := ds.zipIdx.map fun (z : PyData × Nat) => .tuple [.int (z.2 : Int), z.1]
theorem enumD_get {ds : List PyData} {i : Nat} {d : PyData} (h : (enumD ds)[i]? = some d) : ∃ x, ds[i]? = some x ∧ d = .tuple [.int (i : Int), x] := by
  unfold enumD at h
  rw [List.getElem?_map, List.getElem?_zipIdx] at h
  cases q : ds[i]? with
  | none => rw [q] at h; cases h
  | some x => rw [q] at h; simp at h; exact ⟨x, rfl, h.symm⟩
theorem enumD_length (ds : List PyData) : (enumD ds).length = ds.length := by simp [enumD]

theorem It.enum {x y : Str} {p q pn pos pos' : Pos} {k0 : Nat} {a : Expr} {ds : List PyData} (hr : Ev prog w W n sc δ (.Name "enumerate" pn) (.raw (.type "enumerate"))) (h : Ev prog w W n sc δ a (.dat (.list ds)))
    (hox : okOwn scT own x = true) (hoy : okOwn scT own y = true) (hst : ∀ env, starEach [a] env = [(false, eval a env)] := by intro _; rfl) :
    It prog w W n sc δ scT own (.Call (.Name "enumerate" pn) [a] [] pos) (.Tuple [.Name x p, .Name y q] k0 pos') (Tgt (.Tuple [.Name x p, .Name y q] k0 pos')) (enumD ds) :=
  fun X A s env Q E rm hs hw t hX hQ => Call_Name rfl (hr X A s env _ E rm hs hw t hX fun f hp1 tk1 k1 e1 => by
    cases e1
    refine PyProof.Rows.callWith_type1 ?_ (by rw [hst]; rfl) rfl
    rw [hst]
    refine Calls.spliced_cons (h X A _ env _ E rm hs (W.mono _ _ k1 hw) (t.keeps k1) (hX.keeps k1) fun v h₁ tk₁ k₁ r₁ => Calls.spliced_nil ?_)
    obtain ⟨l, vs, m, rfl, na, ha, hr⟩ := r₁
    have hl := hr.length
    simp only [Array.length_toList] at hl
    have k01 : HK s.heap h₁ := k1.trans k₁
    refine call_enumerate_list (items := vs) ⟨_, ha, rfl, m, rfl⟩ fun h₂ he hit hsz k₂ => wpAny_pyIter_enum he ?_
    dsimp only at he hit hsz k₂ ⊢
    have hlt : l < h₁.objs.size := Heap.lt_size ha
    have hs0 : s.heap.get? h₁.objs.size = none := none_of k01 (get_size h₁)
    have hs1 : s.heap.get? (h₁.objs.size + 1) = none := by
      cases q : s.heap.get? (h₁.objs.size + 1) with
      | none => rfl
      | some o => exact absurd (Nat.lt_trans (Nat.lt_succ_self _) (Heap.lt_size (k01 _ _ q))) (Nat.lt_irrefl _)
    have W0 := (WalksT.enumerate (prog := prog) (w := w) (A := A) rm.handled (h₁.objs.size + 1) h₁.objs.size l (Nat.succ_ne_self _) (Nat.ne_of_lt (Nat.lt_succ_of_lt hlt)) (Nat.ne_of_lt hlt) vs).toU
    obtain ⟨oi, ei, ci, di⟩ := id hit
    refine hQ (.ref (h₁.objs.size + 1)) [h₁.objs.size + 1, h₁.objs.size, l] [h₁.objs.size + 1, h₁.objs.size] (fun i h => (∃ old, IsEnum h (h₁.objs.size + 1) h₁.objs.size i old) ∧ h.IsListIter h₁.objs.size l i ∧ h.IsList l vs) _ _ (k01.trans k₂)
      ⟨⟨_, he⟩, hit, ⟨_, k₂ _ _ ha, rfl, m, rfl⟩⟩ ?_ ?_ ?_ ?_ ?_
    · intro b hb
      simp only [List.mem_cons, List.not_mem_nil, or_false] at hb
      rcases hb with rfl | rfl | rfl
      · exact ⟨_, he⟩
      · exact ⟨_, ei⟩
      · exact ⟨_, k₂ _ _ ha⟩
    · intro b hb
      simp only [List.mem_cons, List.not_mem_nil, or_false] at hb
      rcases hb with rfl | rfl | rfl
      · exact .inl hs1
      · exact .inl hs0
      · exact fresh_or k01 na (.inl ha)
    · intro b hb
      simp only [List.mem_cons, List.not_mem_nil, or_false] at hb
      rcases hb with rfl | rfl
      · exact hs1
      · exact hs0
    · intro b hb
      simp only [List.mem_cons, List.not_mem_nil, or_false] at hb
      rcases hb with rfl | rfl
      · exact ⟨_, _, he, rfl⟩
      · exact ⟨_, _, ei, di⟩
    · intro X' hI k hwr
      have W1 := W0
      rw [hl, ← enumD_length ds] at W1
      refine Src.pair rm.handled W1 hwr (fun i h st b hb => ?_) (fun i T h mid b hb => ?_) (fun i d us hd hv => ?_) hox hoy
      · simp only [List.mem_cons, List.not_mem_nil, or_false] at hb
        obtain ⟨⟨old, z⟩, ⟨o, e, _, d⟩, _⟩ := st
        rcases hb with rfl | rfl
        · exact ⟨_, _, z, rfl⟩
        · exact ⟨o, _, e, d⟩
      · simp only [List.mem_cons, List.not_mem_nil, or_false] at hb
        obtain ⟨⟨old, z⟩, ⟨o, e, _, d⟩, _⟩ := mid
        rcases hb with rfl | rfl
        · exact ⟨_, _, z, rfl⟩
        · exact ⟨o, _, e, d⟩
      · obtain ⟨x, hx, rfl⟩ := enumD_get hd
        obtain ⟨t, u, hu, rfl⟩ := hv
        obtain ⟨u', h1, h2⟩ := hr.get hx
        rw [Array.getElem?_toList, hu] at h1
        cases h1
        exact ⟨_, _, rfl, ⟨t, rfl⟩, Rep.mono2 k _ _ (h2.keeps k₂), trivial⟩)

/-- list(range(k)) -/
theorem Ev.listRange {pl pn pos pos' : Pos} {a : Expr} {k : Int} (hl : Ev prog w W n sc δ (.Name "list" pl) (.raw (.type "list"))) (hr : Ev prog w W n sc δ (.Name "range" pn) (.raw (.type "range"))) (ha : Ev prog w W n sc δ a (.dat (.int k)))
    (h1 : -(2 ^ 62) ≤ k) (h2 : k ≤ 2 ^ 24) (hst : ∀ env, starEach [a] env = [(false, eval a env)] := by intro _; rfl)
    (hst' : ∀ env, starEach [.Call (.Name "range" pn) [a] [] pos'] env = [(false, eval (.Call (.Name "range" pn) [a] [] pos') env)] := by intro _; rfl) :
    Ev prog w W n sc δ (.Call (.Name "list" pl) [.Call (.Name "range" pn) [a] [] pos'] [] pos) (.dat (.list (rangeD k))) :=
  fun X A s env Q E rm hs hw t hX hQ => Call_Name rfl (hl X A s env _ E rm hs hw t hX fun f hp0 tk0 k0 e0 => by
    cases e0
    refine PyProof.Rows.callWith_type1 ?_ (by rw [hst']; rfl) rfl
    rw [hst']
    refine Calls.spliced_cons (Call_Name rfl (hr X A _ env _ E rm hs (W.mono _ _ k0 hw) (t.keeps k0) (hX.keeps k0) fun f hp1 tk1 k1 e1 => ?_))
    cases e1
    refine PyProof.Rows.callWith_type1 ?_ (by rw [hst]; rfl) rfl
    rw [hst]
    have k01 := k0.trans k1
    refine Calls.spliced_cons (ha X A _ env _ E rm hs (W.mono _ _ k01 hw) (t.keeps k01) (hX.keeps k01) fun v hp2 tk2 k2 r2 => Calls.spliced_nil ?_)
    obtain ⟨t2, rfl⟩ := r2
    refine call_range_1 (Calls.spliced_nil ?_)
    have hsz : Builtin.Range.rangeSize 0 k 1 = (k.toNat : Int) := by rw [rangeSize_one]; split <;> omega
    refine call_list_range rm.handled (IsRange.new ..) (small_one (by decide) (by decide) h1 (by omega)) hsz (by omega) fun h' tk acc c k3 hg hi => ?_
    have k03 : HK s.heap h' := ((k01.trans k2).trans (HK.push _ _)).trans k3
    refine hQ _ _ _ k03 ⟨_, acc, c, rfl, ?_, hg, ?_⟩
    · exact XIn.new (((hX.keeps k01).keeps k2).keeps (HK.push hp2 _))
    · obtain ⟨hsz', hp⟩ := hi
      refine (?_ : RepAll X h' (rangeD k) acc.toList)
      have gen : ∀ (m : Nat) (ds : List PyData) (us : List Value), ds.length = us.length → (∀ (i : Nat) (d : PyData) (v : Value), ds[i]? = some d → us[i]? = some v → Rep X h' d v) → RepAll X h' ds us := by
        intro m ds
        induction ds with
        | nil => intro us hl _; cases us with | nil => trivial | cons _ _ => cases hl
        | cons d ds ih =>
          intro us hl hr
          cases us with
          | nil => cases hl
          | cons u us => exact ⟨hr 0 d u rfl rfl, ih us (by simpa using hl) fun i d' v' h1 h2 => hr (i + 1) d' v' (by simpa using h1) (by simpa using h2)⟩
      refine gen 0 _ _ (by simp [rangeD, hsz']) fun i d v hd hv => ?_
      obtain ⟨_, rfl⟩ := rangeD_get hd
      rw [Array.getElem?_toList] at hv
      obtain ⟨t, rfl⟩ := hp i v hv
      exact ⟨t, by simp⟩)
end
end Mine

namespace Mine
/-- where a frame stands: hb is the heap at the call, X what is laid aside -/
structure FR (g hb : Heap) (X : Addr → Prop) (sc : Scope) (env : Env) (δ : TEnv) (h : Heap) : Prop where
  scope : env.scope = sc
  base : HK g hb
  hk : HK hb h
  fresh : ∀ b, OwnF (ownC sc) env b → hb.get? b = none
  ts : TS X h env δ
  xin : XIn X h
section
variable {g hb h h' : Heap} {X X' Z : Addr → Prop} {sc : Scope} {env : Env} {δ δ' : TEnv} {wr : List Addr}
theorem FR.gk (f : FR g hb X sc env δ h) : HK g h := f.base.trans f.hk
theorem FR.keeps (f : FR g hb X sc env δ h) (k : HK h h') : FR g hb X sc env δ h' := ⟨f.scope, f.base, f.hk.trans k, f.fresh, f.ts.keeps k, f.xin.keeps k⟩
theorem FR.weak (f : FR g hb X sc env δ h) (k : ∀ x r, δ' x = some r → δ x = some r) : FR g hb X sc env δ' h := ⟨f.scope, f.base, f.hk, f.fresh, f.ts.weak k, f.xin⟩
theorem FR.less (f : FR g hb X' sc env δ h) (hX : ∀ a, X a → X' a) : FR g hb X sc env δ h := ⟨f.scope, f.base, f.hk, f.fresh, f.ts.less hX, fun a q => f.xin a (hX a q)⟩
theorem FR.more (f : FR g hb X sc env δ h) (ha : ∀ b ∈ wr, IterAt h b) : FR g hb (fun a => X a ∨ a ∈ wr) sc env δ h := by
  have k : KS2 X (fun a => X a ∨ a ∈ wr) h h := fun b vs n hx => ⟨fun e => ⟨fun q => q.elim hx fun q => ((ha b q).notSeq vs n).1 e, e⟩, fun e => ⟨fun q => q.elim hx fun q => ((ha b q).notSeq vs n).2 e, e⟩⟩
  exact ⟨f.scope, f.base, f.hk, f.fresh, f.ts.mono k fun _ f => f, fun a q => q.elim (f.xin a) fun q => let ⟨o, _, e, _⟩ := ha a q; ⟨o, e⟩⟩
theorem FR.own (f : FR g hb X sc env δ h) {b : Addr} (q : OwnF (ownC sc) env b) : NotSeq h b ∧ ∃ o, h.get? b = some o := f.ts.own q

theorem FR.store {prog : Program} {w : World} {A : Around} {s : Shared} {x : Str} {v : Value} {r : Ent} {Q : Unit → Shared → Prop} {E : Value → Shared → Prop} (f : FR g hb X sc env δ s.heap) (hx : okOwn sc (ownC sc) x = true) (hv : r.ok X s.heap v)
    (hQ : ∀ h' tk, FR g hb X sc env (δ.put x r) h' → KO (OwnF (ownC sc) env) s.heap h' → Q () { s with heap := h', toks := tk }) : wpAny (model prog w) A (storeName env x v) Q E s := by
  have hx' : okOwn env.scope (ownC sc) x = true := by rw [f.scope]; exact hx
  refine ts_store (r := r) f.ts (okOwn.tgt hx') hv fun h' tk t k ks => ?_
  have ko : KO (OwnF (ownC sc) env) s.heap h' := fun b o q e => k b o (fun z => q (okOwn.slot hx' z)) e
  exact hQ h' tk ⟨f.scope, f.base, ko.hk f.hk f.fresh, f.fresh, t, f.xin.ko ko fun b q => (t.own q).2⟩ ko
end

section
variable {prog : Program} {w : World} {W : Wd} {n : Nat} {sc : Scope} {δ : TEnv} {A : Around} {s : Shared} {g hb : Heap} {X Z : Addr → Prop} {env : Env} {Q : Flow → Shared → Prop} {E : Value → Shared → Prop}
/-- x = e -/
theorem st_assign {x : Str} {e : Expr} {p pos : Pos} {r : Ent} (rm : Room n A) (f : FR g hb X sc env δ s.heap) (hw : W.ok s.heap) (he : Ev prog w W n sc δ e r)
    (hQ : ∀ h' tk, FR g hb X sc env (δ.put x r) h' → KO (OwnF (ownC sc) env) s.heap h' → Q .next { s with heap := h', toks := tk })
    (hx : okOwn sc (ownC sc) x = true := by rfl) (hs : swapsWith e (some (.Name x p)) pos.line env = pure false := by rfl) : wpAny (model prog w) A (exec (.Assign [.Name x p] e pos) env) Q E s :=
  wpAny_Assign_Name (he X A s env _ E rm f.scope hw f.ts f.xin fun v h₁ tk₁ k₁ r₁ => (f.keeps k₁).store (s := { s with heap := h₁, toks := tk₁ }) hx r₁ fun h₂ tk₂ f₂ k₂ => hQ h₂ tk₂ f₂ ((k₁.ko _).trans k₂)) hs
def swapB (sc scope : Scope) (x : Str) (p cpos : Pos) : Bool :=
  (if sc.kind.isAnnotationScope then ScopeKind.function else sc.kind) == .function && sc.names.lookup x == some .local && p.line == cpos.line && !(scope.names.any fun (n, k) => n == x && (k == .local || k == .cell))
theorem swaps_comp {elt : Expr} {gens : List Comprehension} {scope : Scope} {cpos p : Pos} {l : Nat} {x : Str} (hs : env.scope = sc) :
    swapsWith (.ListComp elt gens scope cpos) (some (.Name x p)) l env = pure (swapB sc scope x p cpos) := by
  subst hs; rfl

/-- x = [..], from what the comprehension gives -/
theorem st_comp {elt target iter : Expr} {ifs : List Expr} {rest : List Comprehension} {scope : Scope} {pos cpos p : Pos} {T : PyData → TEnv → TEnv} {ds : List PyData} {outs : PyData → List PyData}
    {body : Around → (Value → Shared → Prop) → Env → Value → (Shared → Prop) → Shared → Prop} {x : Str}
    (rm : Room n A) (f : FR g hb X sc env δ s.heap) (hw : W.ok s.heap)
    (hi : ItC prog w W n sc δ (relS scope sc) (ownC scope) iter target T ds) (hδ : ∀ d ∈ ds, ∀ x r, (δ.only scope) x = some r → T d (δ.only scope) x = some r)
    (hbody : ∀ d ∈ ds, BodyJ prog w W n (relS scope sc) (ownC scope) (T d (δ.only scope)) body (outs d)) (hlen : (ds.flatMap outs).length ≤ sizeLine)
    (hturn : ∀ (A : Around) (it acc : Value) (env : Env) (Q : PySem.Fin → Shared → Prop) (E : Value → Shared → Prop) (s' : Shared), TurnW (model prog w) A E target it env (body A E env acc) (Q (.done .next)) (Q (.again (.compLoop (.ListComp elt (⟨target, iter, ifs, 0⟩ :: rest) scope cpos) 0 it acc env))) s' →
      wpAny (model prog w) A (compTurn (.ListComp elt (⟨target, iter, ifs, 0⟩ :: rest) scope cpos) 0 it acc env) Q E s')
    (hQ : ∀ h' tk, FR g hb X sc env (δ.put x (.dat (.list (ds.flatMap outs)))) h' → KO (OwnF (ownC sc) env) s.heap h' → Q .next { s with heap := h', toks := tk })
    (ho : okComp scope sc = true) (hfs : ∀ env x, foldedSetIterable iter env x = pure x) (hx : okOwn sc (ownC sc) x = true) :
    wpAny (model prog w) A (exec (.Assign [.Name x p] (.ListComp elt (⟨target, iter, ifs, 0⟩ :: rest) scope cpos) pos) env) Q E s := by
  have hsw := swaps_comp (elt := elt) (gens := ⟨target, iter, ifs, 0⟩ :: rest) (scope := scope) (cpos := cpos) (p := p) (l := pos.line) (x := x) f.scope
  have hev : ∀ (Q : Value → Shared → Prop) E, (∀ v h' tk, HK s.heap h' → Rep X h' (.list (ds.flatMap outs)) v → Q v { s with heap := h', toks := tk }) → wpAny (model prog w) A (eval (.ListComp elt (⟨target, iter, ifs, 0⟩ :: rest) scope cpos) env) Q E s := fun Q E hQ => by
    rw [eval_ListComp]
    refine comp_block (use := none) rm f.scope hw f.ts f.xin ho hi hδ hbody hlen hturn (hfs env) fun D C h' tk m k r hC hm => ?_
    refine ⟨m, hm, fun h'' hs'' => hQ _ h'' tk (fun b o e => hs''.extBut b o (by rintro rfl; rw [hC] at e; cases e) (k b o e)) ?_⟩
    obtain ⟨oC, es, ep, eC, dC, _⟩ := hm
    have ko : KO (fun b => b = C) h' h'' := fun b o q e => hs''.extBut b o q e
    exact Rep.mono (ko.ks fun b q => .inr (q ▸ .dict eC dC)) (fun _ q => q) _ _ r
  cases hb' : swapB sc scope x p cpos with
  | false =>
    rw [hb'] at hsw
    exact wpAny_Assign_Name (hev _ _ fun v h₁ tk₁ k₁ r₁ => (f.keeps k₁).store (s := { s with heap := h₁, toks := tk₁ }) (r := .dat (.list (ds.flatMap outs))) hx r₁ fun h₂ tk₂ f₂ k₂ => hQ h₂ tk₂ f₂ ((k₁.ko _).trans k₂)) hsw
  | true =>
    rw [hb'] at hsw
    rw [exec_Assign_Name_used _ _ _ _ hsw]
    refine wpAny_bind (wpAny_standAt (wpAny_bind ?_))
    show wpAny _ A (do let _ ← comprehension (.ListComp elt (⟨target, iter, ifs, 0⟩ :: rest) scope cpos) scope env _ (newList []) false (eval iter env) (some (assign (.Name x p) env))) _ _ s
    refine wpAny_bind (wpAny_mono (comp_block (use := some (assign (.Name x p) env)) (Q := fun _ s' => Q .next s') rm f.scope hw f.ts f.xin ho hi hδ hbody hlen hturn (hfs env) fun D C h' tk m k r hC hm => ?_) (fun _ s' hq => wpAny_pure (wpAny_pure hq)) fun _ _ e => e)
    show wpAny _ A (assign (.Name x p) env (.ref D)) _ _ _
    have hCo : ¬ OwnF (ownC sc) env C := fun q => by obtain ⟨o, e⟩ := (f.own q).2; rw [hC] at e; cases e
    refine wpAny_assign_Name ((f.keeps k).store (s := { s with heap := h', toks := tk }) (r := .dat (.list (ds.flatMap outs))) hx r fun h₂ tk₂ f₂ k₂ => ?_)
    have k₂' : KO (OwnF (ownC sc) env) h' h₂ := k₂
    obtain ⟨oC, es, ep, eC, dC, r3⟩ := hm
    have eC2 := k₂' C _ hCo eC
    refine ⟨m, ⟨oC, es, ep, eC2, dC, r3⟩, fun h₃ hs₃ => ?_⟩
    have ko : KO (fun b => b = C) h₂ h₃ := fun b o q e => hs₃.extBut b o q e
    have ks : ∀ Y, KS Y h₂ h₃ := fun Y => ko.ks fun b q => .inr (q ▸ .dict eC2 dC)
    have hCb : hb.get? C = none := none_of f.hk hC
    have k03 : KO (OwnF (ownC sc) env) s.heap h₃ := fun b o q e => ko b o (fun z => by rw [z, hC] at e; cases e) (k₂' b o q (k b o e))
    refine hQ h₃ tk₂ ⟨f₂.scope, f₂.base, ko.hk f₂.hk fun b q => q ▸ hCb, f₂.fresh, ?_, fun a q => ?_⟩ k03
    · refine f₂.ts.mono ((ks X).two fun _ q => q) fun ρ fs => ⟨fs.kind, fs.glob, fs.bi, ?_, fun y hy => ?_, fs.inj⟩
      · obtain ⟨ml, a, b⟩ := fs.loc
        exact ⟨ml, a.at' fun o e => ko _ o (fun z => hCo (.inl z.symm)) e, b⟩
      · obtain ⟨c, h1, o, e, d⟩ := fs.cel y hy
        exact ⟨c, h1, o, ko c o (fun z => by rw [z, eC2] at e; cases e; rw [dC] at d; cases d) e, d⟩
    · obtain ⟨o, e⟩ := f.xin a q
      have nC : a ≠ C := fun z => by rw [z, hC] at e; cases e
      obtain ⟨o2, e2⟩ := f₂.xin a q
      exact ⟨o2, ko a o2 nC e2⟩

theorem st_comp1 {elt target iter : Expr} {ifs : List Expr} {scope : Scope} {pos cpos p : Pos} {T : PyData → TEnv → TEnv} {ds : List PyData} {x : Str} (outs : PyData → List PyData)
    (rm : Room n A) (f : FR g hb X sc env δ s.heap) (hw : W.ok s.heap)
    (hi : It prog w W n sc δ (relS scope sc) (ownC scope) iter target T ds) (hδ : ∀ d ∈ ds, ∀ x r, (δ.only scope) x = some r → T d (δ.only scope) x = some r)
    (hbody : ∀ d ∈ ds, BodyJ prog w W n (relS scope sc) (ownC scope) (T d (δ.only scope)) (fun A E env acc Qt s => LastW (model prog w) A E elt ifs acc env Qt s) (outs d)) (hlen : (ds.flatMap outs).length ≤ sizeLine)
    (hQ : ∀ h' tk, FR g hb X sc env (δ.put x (.dat (.list (ds.flatMap outs)))) h' → KO (OwnF (ownC sc) env) s.heap h' → Q .next { s with heap := h', toks := tk })
    (ho : okComp scope sc = true := by rfl) (hfs : ∀ env x, foldedSetIterable iter env x = pure x := by intro _ _; rfl) (hx : okOwn sc (ownC sc) x = true := by rfl) :
    wpAny (model prog w) A (exec (.Assign [.Name x p] (.ListComp elt [⟨target, iter, ifs, 0⟩] scope cpos) pos) env) Q E s :=
  st_comp rm f hw hi.toC hδ hbody hlen (fun A it acc env Q E s' h => turn_one h) hQ ho hfs hx
theorem st_comp2 {elt target iter target' iter' : Expr} {ifs ifs' : List Expr} {scope : Scope} {pos cpos p : Pos} {T : PyData → TEnv → TEnv} {ds : List PyData} {x : Str} (outs : PyData → List PyData)
    (rm : Room n A) (f : FR g hb X sc env δ s.heap) (hw : W.ok s.heap)
    (hi : It prog w W n sc δ (relS scope sc) (ownC scope) iter target T ds) (hδ : ∀ d ∈ ds, ∀ x r, (δ.only scope) x = some r → T d (δ.only scope) x = some r)
    (hbody : ∀ d ∈ ds, BodyJ prog w W n (relS scope sc) (ownC scope) (T d (δ.only scope)) (fun A E env acc Qt s => NestW (model prog w) A E (.ListComp elt [⟨target, iter, ifs, 0⟩, ⟨target', iter', ifs', 0⟩] scope cpos) iter' ifs acc env Qt s) (outs d)) (hlen : (ds.flatMap outs).length ≤ sizeLine)
    (hQ : ∀ h' tk, FR g hb X sc env (δ.put x (.dat (.list (ds.flatMap outs)))) h' → KO (OwnF (ownC sc) env) s.heap h' → Q .next { s with heap := h', toks := tk })
    (ho : okComp scope sc = true := by rfl) (hfs : ∀ env x, foldedSetIterable iter env x = pure x := by intro _ _; rfl) (hfs' : ∀ env x, foldedSetIterable iter' env x = pure x := by intro _ _; rfl) (hx : okOwn sc (ownC sc) x = true := by rfl) :
    wpAny (model prog w) A (exec (.Assign [.Name x p] (.ListComp elt [⟨target, iter, ifs, 0⟩, ⟨target', iter', ifs', 0⟩] scope cpos) pos) env) Q E s :=
  st_comp rm f hw hi.toC hδ hbody hlen (fun A it acc env Q E s' h => turn_two0 (hfs' env) h) hQ ho hfs hx

/-- if test: body else: orelse -/
theorem st_if {test : Expr} {body orelse : List Stmt} {pos : Pos} {b : Bool} (rm : Room n A) (f : FR g hb X sc env δ s.heap) (hw : W.ok s.heap) (ht : Tr prog w W n sc δ test b)
    (h1 : b = true → ∀ h' tk, HK s.heap h' → FR g hb X sc env δ h' → wpAny (model prog w) A (execs body env) Q E { s with heap := h', toks := tk })
    (h2 : b = false → ∀ h' tk, HK s.heap h' → FR g hb X sc env δ h' → wpAny (model prog w) A (execs orelse env) Q E { s with heap := h', toks := tk }) : wpAny (model prog w) A (exec (.If test body orelse pos) env) Q E s :=
  wpAny_If (ht X A s env _ E rm f.scope hw f.ts f.xin fun h' tk k => by
    cases b with
    | true => exact h1 rfl h' tk k (f.keeps k)
    | false => exact h2 rfl h' tk k (f.keeps k))
/-- return e -/
theorem st_return {e : Expr} {pos : Pos} {r : Ent} (rm : Room n A) (f : FR g hb X sc env δ s.heap) (hw : W.ok s.heap) (he : Ev prog w W n sc δ e r)
    (hQ : ∀ v h' tk, HK s.heap h' → FR g hb X sc env δ h' → r.ok X h' v → Q (.ret v) { s with heap := h', toks := tk }) : wpAny (model prog w) A (exec (.Return (some e) pos) env) Q E s :=
  wpAny_Return_some (he X A s env _ E rm f.scope hw f.ts f.xin fun v h' tk k r => hQ v h' tk k (f.keeps k) r)
end
end Mine

namespace Mine
section
variable {M : Model} {A : Around} {E : Value → Shared → Prop} {s : Shared}
theorem for_turn {target : Expr} {it : Value} {body orelse : List Stmt} {env : Env} {Q : PySem.Fin → Shared → Prop}
    (h : wpAny M A (pyNext it) (fun r s₁ => match r with
      | none => Q (.again (.block orelse env)) s₁
      | some v => wpAny M A (letOwnedTupleGo target it v) (fun _ s₂ => wpAny M A (assign target env v) (fun _ s₃ => wpAny M A (execs body env) (fun f s₄ => match f with
        | .next => Q (.again (.forLoop target it body orelse env)) s₄
        | .cont => Q (.again (.forLoop target it body orelse env)) s₄
        | .brk => Q (.done .next) s₄
        | .ret v => Q (.done (.ret v)) s₄) E s₃) E s₂) E s₁) E s) : wpAny M A (forTurn target it body orelse env) Q E s := by
  simp only [forTurn]
  refine wpAny_bind (wpAny_standAt (wpAny_bind (wpAny_onRaise (wpAny_mono h (fun r s₁ h₁ => ?_) fun _ _ x => wpAny_standAt x))))
  cases r with
  | none => exact wpAny_pure h₁
  | some v =>
    refine wpAny_bind (wpAny_mono h₁ (fun _ s₂ h₂ => wpAny_bind (wpAny_mono h₂ (fun _ s₃ h₃ => wpAny_bind (wpAny_mono h₃ (fun f s₄ h₄ => ?_) fun _ _ x => x)) fun _ _ x => x)) fun _ _ x => x)
    cases f with
    | next => exact wpAny_pure h₄
    | cont => exact wpAny_pure h₄
    | brk => exact wpAny_pure h₄
    | ret v => exact wpAny_pure h₄
end
section
variable {prog : Program} {w : World} {W : Wd} {n : Nat} {sc : Scope} {δ : TEnv} {A : Around} {s : Shared} {g hb : Heap} {X Z : Addr → Prop} {env : Env} {Q : Flow → Shared → Prop} {E : Value → Shared → Prop}
/-- for target in iter: body, from what the iterable does -/
theorem st_forS {iter target : Expr} {body : List Stmt} {pos : Pos} {T : PyData → TEnv → TEnv} {ds : List PyData} (δs : Nat → TEnv) (I : Nat → Heap → Prop) (Z : Addr → Prop)
    (rm : Room n A) (f : FR g hb X sc env (δs 0) s.heap) (hi : ∀ (Q : Value → Shared → Prop) (E : Value → Shared → Prop), (∀ it fp wr St h' tk, HK s.heap h' → St 0 h' → (∀ b ∈ fp, ¬ OwnF (ownC sc) env b ∧ ¬ Z b) → (∀ b ∈ wr, s.heap.get? b = none) → (∀ b ∈ wr, IterAt h' b) →
      (∀ X' hI, KS2 X X' h' hI → (∀ b ∈ wr, X' b) → Src prog w A it target T (ownC sc) sc X' ds hI fp wr St) → Q it { s with heap := h', toks := tk }) → wpAny (model prog w) A (eval iter env) (fun x s₁ => wpAny (model prog w) A (pyIter x) Q E s₁) E s)
    (hI0 : I 0 s.heap) (hZ : ∀ b, Z b → X b)
    (hI : ∀ i h h' (O : Addr → Prop), I i h → KO O h h' → (∀ b, O b → (s.heap.get? b = none ∧ IterAt h b) ∨ OwnF (ownC sc) env b) → I i h')
    (hbody : ∀ i d X' h tk (Qb : Flow → Shared → Prop) (E' : Value → Shared → Prop), ds[i]? = some d → (∀ b, X b → X' b) → FR g hb X' sc env (T d (δs i)) h → I i h →
      (∀ h' tk', FR g hb X' sc env (δs (i + 1)) h' → I (i + 1) h' → KO (fun b => OwnF (ownC sc) env b ∨ Z b) h h' → Qb .next { s with heap := h', toks := tk' }) → wpAny (model prog w) A (execs body env) Qb E' { s with heap := h, toks := tk })
    (hQ : ∀ h' tk, FR g hb X sc env (δs ds.length) h' → I ds.length h' → Q .next { s with heap := h', toks := tk })
    (hfs : ∀ env x, foldedSetIterable iter env x = pure x := by intro _ _; rfl) : wpAny (model prog w) A (exec (.For target iter body [] pos) env) Q E s := by
  refine wpAny_For (hi _ E fun it fp wr St h₁ tk₁ k₁ st₁ hfp hwr ha S => ?_) (hfs env)
  have f₁ := f.keeps k₁
  have I₁ : I 0 h₁ := hI 0 s.heap h₁ (fun _ => False) hI0 (k₁.ko _) fun b q => q.elim
  have X1 : KS2 X (fun a => X a ∨ a ∈ wr) h₁ h₁ := fun b vs n hx => ⟨fun e => ⟨fun q => q.elim hx fun q => ((ha b q).notSeq vs n).1 e, e⟩, fun e => ⟨fun q => q.elim hx fun q => ((ha b q).notSeq vs n).2 e, e⟩⟩
  have SS := S (fun a => X a ∨ a ∈ wr) h₁ X1 fun b q => .inr q
  have hwX : ∀ b ∈ wr, ¬ X b := fun b hb q => by obtain ⟨o, e⟩ := f.xin b q; rw [hwr b hb] at e; cases e
  have hwb : ∀ b ∈ wr, hb.get? b = none := fun b hb' => none_of f.hk (hwr b hb')
  have hfpo : ∀ b ∈ fp, ¬ OwnF (ownC sc) env b := fun b hb' => (hfp b hb').1
  have hfpz : ∀ b ∈ fp, ¬ Z b := fun b hb' => (hfp b hb').2
  refine codeAny_loop' rfl (fun m s' => ∃ i h tk, s' = { s with heap := h, toks := tk } ∧ i ≤ ds.length ∧ m = ds.length + 1 - i ∧ St i h ∧ FR g hb (fun a => X a ∨ a ∈ wr) sc env (δs i) h ∧ I i h ∧ KO (fun b => b ∈ wr ∨ OwnF (ownC sc) env b ∨ Z b) h₁ h)
    ?_ (ds.length + 1) ⟨0, h₁, tk₁, rfl, Nat.zero_le _, rfl, st₁, f₁.more ha, I₁, KO.refl _ _⟩
  rintro m s' ⟨i, h, tk, rfl, hile, rfl, st, fr, hIi, ko⟩
  show wpAny _ _ ((forTurn target it body [] env).onRaise (fun x => do noteFrame x env; theTreesLotGoes x)) _ _ _
  refine wpAny_noted (for_turn ?_)
  have alive := SS.alive i _ st
  have ksI : KS (fun a => X a ∨ a ∈ wr) h₁ h := ko.ks fun b q => q.elim (fun q => .inl (.inr q)) fun q => q.elim (fun q => .inr (f₁.own q).1) fun q => .inl (.inl (hZ b q))
  by_cases hlt' : i < ds.length
  · have hd : ds[i]? = some ds[i] := List.getElem?_eq_getElem hlt'
    generalize ds[i] = d at hd
    refine SS.step i d { s with heap := h, toks := tk } env (δs i) _ _ _ hd st fr.scope fr.ts hfpo ksI fr.xin fun h₃ tk₃ st₃ t₃ ko₃ => ?_
    · have ko₃' : KO (fun b => b ∈ wr ∨ OwnF (ownC sc) env b) h h₃ := ko₃
      have fr₃ : FR g hb (fun a => X a ∨ a ∈ wr) sc env (T d (δs i)) h₃ := by
        refine ⟨fr.scope, fr.base, ko₃'.hk fr.hk fun b q => q.elim (hwb b) (fr.fresh b), fr.fresh, t₃, fr.xin.ko ko₃' fun b q => q.elim (fun q => let ⟨o, _, e, _⟩ := SS.alive (i + 1) _ st₃ b q; ⟨o, e⟩) fun q => (t₃.own q).2⟩
      have I₃ : I i h₃ := hI i h h₃ _ hIi ko₃' fun b q => q.elim (fun q => .inl ⟨hwr b q, alive b q⟩) .inr
      refine hbody i d _ h₃ tk₃ _ _ hd (fun b q => .inl q) fr₃ I₃ fun h₄ tk₄ fr₄ I₄ ko₄ => (.inl ⟨rfl, ds.length + 1 - (i + 1), by omega, i + 1, h₄, tk₄, rfl, hlt', rfl, ?_, fr₄, I₄, ?_⟩)
      · exact SS.frame _ _ _ st₃ fun b hb' o e => ko₄ b o (fun z => z.elim (hfpo b hb') (hfpz b hb')) e
      · exact fun b o q e => ko₄ b o (fun z => q (.inr z)) (ko₃' b o (fun z => q (z.elim .inl fun z => .inr (.inl z))) (ko b o q e))
  · have hin : i = ds.length := by omega
    subst hin
    refine SS.done { s with heap := h, toks := tk } _ _ st fun h₂ tk₂ k₂ => ?_
    have k₂' : KO (· ∈ wr) h h₂ := k₂
    refine (.inr ⟨rfl, codeAny_block (wpAny_execs_nil ?_)⟩)
    refine hQ h₂ tk₂ ⟨fr.scope, fr.base, k₂'.hk fr.hk hwb, fr.fresh, (fr.ts.iter k₂' (fun b q => .inr q) alive).less fun _ q => .inl q, fun a q => ?_⟩ (hI _ h h₂ _ hIi k₂' fun b q => .inl ⟨hwr b q, alive b q⟩)
    obtain ⟨o, e⟩ := fr.xin a (.inl q)
    exact ⟨o, k₂' a o (fun z => hwX a z q) e⟩
/-- for target in iter: body -/
theorem st_for {iter target : Expr} {body : List Stmt} {pos : Pos} {T : PyData → TEnv → TEnv} {ds : List PyData} (δs : Nat → TEnv) (I : Nat → Heap → Prop) (Z : Addr → Prop)
    (rm : Room n A) (f : FR g hb X sc env (δs 0) s.heap) (hw : W.ok s.heap) (hi : It prog w W n sc (δs 0) sc (ownC sc) iter target T ds)
    (hI0 : I 0 s.heap) (hZ : ∀ b, Z b → X b)
    (hI : ∀ i h h' (O : Addr → Prop), I i h → KO O h h' → (∀ b, O b → (s.heap.get? b = none ∧ IterAt h b) ∨ OwnF (ownC sc) env b) → I i h')
    (hbody : ∀ i d X' h tk (Qb : Flow → Shared → Prop) (E' : Value → Shared → Prop), ds[i]? = some d → (∀ b, X b → X' b) → FR g hb X' sc env (T d (δs i)) h → I i h →
      (∀ h' tk', FR g hb X' sc env (δs (i + 1)) h' → I (i + 1) h' → KO (fun b => OwnF (ownC sc) env b ∨ Z b) h h' → Qb .next { s with heap := h', toks := tk' }) → wpAny (model prog w) A (execs body env) Qb E' { s with heap := h, toks := tk })
    (hQ : ∀ h' tk, FR g hb X sc env (δs ds.length) h' → I ds.length h' → Q .next { s with heap := h', toks := tk })
    (hfs : ∀ env x, foldedSetIterable iter env x = pure x := by intro _ _; rfl) : wpAny (model prog w) A (exec (.For target iter body [] pos) env) Q E s := by
  refine st_forS δs I Z rm f (fun Q E hq => hi X A s env Q E rm f.scope hw f.ts f.xin fun it fp wr St h' tk k st hlt hfp hwr ha S => hq it fp wr St h' tk k st (fun b hb' => ⟨?_, ?_⟩) hwr ha S) hI0 hZ hI hbody hQ hfs
  · intro q
    obtain ⟨ns, o, e⟩ := f.own q
    rcases hfp b hb' with z | ⟨_, vs, m, z | z⟩
    · rw [z] at e; cases e
    · exact (ns vs m).1 z
    · exact (ns vs m).2 z
  · intro q
    rcases hfp b hb' with z | ⟨z, _⟩
    · obtain ⟨o, e⟩ := f.xin b (hZ b q); rw [z] at e; cases e
    · exact z (hZ b q)
end
end Mine

namespace Mine
/-- what is known of the heap ahead of everything -/
structure Gnd (K : Frag) (g : Heap) : Prop where
  x : K.In g
  glob : ∃ mg mb, g.Ns mainGlobals mg ∧ g.Ns builtinsNs mb ∧ (∀ x : Str, x ≠ "__name__" → mb x = bootBuiltins x) ∧
    ∃ bm ob, mg "__builtins__" = some (.ref bm) ∧ bm ≠ builtinsNs ∧ g.get? bm = some ob ∧ ob.cls = .type "module" ∧ ob.dict = some builtinsNs ∧ ob.data = .plain
  nolimit : g.NoLimit
def Wg (g : Heap) : Wd := ⟨fun h => HK g h, fun _ _ k o => o.trans k⟩
theorem gname_main {K : Frag} {g : Heap} {W : Wd} {x : Str} {v : Value} (G : Gnd K g) (hW : ∀ h, W.ok h → HK g h) (e : nsIn K mainGlobals x = some (some v)) : GName W x v := fun h ok => by
  obtain ⟨mg, mb, h1, h2, h3, _⟩ := G.glob
  exact ⟨mg, h1.keeps (hW h ok), .inl (mg_of G.x h1 e)⟩
theorem gname_bi {K : Frag} {g : Heap} {W : Wd} {x : Str} {v : Value} (G : Gnd K g) (hW : ∀ h, W.ok h → HK g h) (e : nsIn K mainGlobals x = some none) (hv : bootBuiltins x = some v) (hn : x ≠ "__name__") : GName W x v := fun h ok => by
  obtain ⟨mg, mb, h1, h2, h3, _⟩ := G.glob
  exact ⟨mg, h1.keeps (hW h ok), .inr ⟨mg_none_of G.x h1 e, mb, h2.keeps (hW h ok), (h3 x hn).trans hv⟩⟩

/-- the function at a, called with what stands for ds, gives d -/
def FnR (prog : Program) (w : World) (g : Heap) (n : Nat) (a : Addr) (ds : List PyData) (d : PyData) : Prop :=
  ∀ (X : Addr → Prop) (A : Around) (s : Shared) (vs : List Value) (Q : Value → Shared → Prop) (E : Value → Shared → Prop), Room n A → HK g s.heap → XIn X s.heap → RepAll X s.heap ds vs →
    (∀ v h' tk, HK s.heap h' → Rep X h' d v → Q v { s with heap := h', toks := tk }) → wpAny (model prog w) A (call (.ref a) vs) Q E s
/-- the body, in a frame of its own that holds δ, gives d -/
def BodyR (prog : Program) (w : World) (g : Heap) (n : Nat) (sc : Scope) (body : List Stmt) (δ : TEnv) (d : PyData) : Prop :=
  ∀ (X : Addr → Prop) (A : Around) (s : Shared) (env : Env) (hb : Heap) (Q : Flow → Shared → Prop) (E : Value → Shared → Prop), Room n A → FR g hb X sc env δ s.heap → XIn X hb →
    (∀ v h' tk, HK hb h' → Rep X h' d v → Q (.ret v) { s with heap := h', toks := tk }) → wpAny (model prog w) A (execs body env) Q E s

section
variable {prog : Program} {w : World} {W : Wd} {n : Nat} {sc : Scope} {δ : TEnv} {g : Heap}
theorem Ev.call {x : Str} {p pos : Pos} {a : Addr} {e : Expr} {rest : List Expr} {ds : List PyData} {d : PyData} {o : Obj} {fd : FuncData} (hW : ∀ h, W.ok h → HK g h) (hf : Ev prog w W n sc δ (.Name x p) (.raw (.ref a))) (ho : g.get? a = some o) (hd : o.data = .func fd)
    (ha : Evs prog w W n sc δ (e :: rest) ds) (hr : FnR prog w g n a ds d) (hst : ∀ env, starEach (e :: rest) env = (false, eval e env) :: starEach rest env := by intro _; rfl) : Ev prog w W n sc δ (.Call (.Name x p) (e :: rest) [] pos) (.dat d) := fun X A s env Q E rm hs hw t hX hQ =>
  Call_Name rfl (hf X A s env _ E rm hs hw t hX fun f h1 tk1 k1 e1 => by
    cases e1
    refine callWith_def (o := o) (fd := fd) hd ?_ (hst env)
    refine ha X A _ env pos _ E rm hs (W.mono _ _ k1 hw) (t.keeps k1) (hX.keeps k1) fun vs h2 tk2 k2 r2 => ?_
    have gk : HK g h2 := (hW _ hw).trans (k1.trans k2)
    refine ⟨gk _ _ ho, ?_⟩
    exact hr X A _ vs Q E rm gk ((hX.keeps k1).keeps k2) r2 fun v h3 tk3 k3 r3 => hQ v h3 tk3 ((k1.trans k2).trans k3) r3)

/-- the frame at the start of a call -/
def bindD : List (Str × PyData) → TEnv → TEnv
  | [], δ => δ
  | (x, d) :: r, δ => bindD r (δ.put x (.dat d))
theorem bind_rep {X : Addr → Prop} {h : Heap} {kindOf : Str → Option NameKind} : ∀ (xs : List Str) (ds : List PyData) (vs : List Value) (δ : TEnv) (m cm : Str → Option Value), RepAll X h ds vs → xs.length = ds.length →
    (∀ x r, δ x = some r → ∃ v, (if kindOf x = some .local then m x else cm x) = some v ∧ r.ok X h v) →
    ∀ x r, bindD (xs.zip ds) δ x = some r → ∃ v, (if kindOf x = some .local then bindL kindOf (xs.zip vs) m x else bindC kindOf (xs.zip vs) cm x) = some v ∧ r.ok X h v
  | [], _, _, δ, m, cm, _, _, hδ => by simpa [bindD, bindL, bindC] using hδ
  | x :: xs, d :: ds, v :: vs, δ, m, cm, hr, hl, hδ => by
    simp only [List.zip_cons_cons, bindD, bindL, bindC]
    refine bind_rep xs ds vs _ _ _ hr.2 (by simpa using hl) fun y r e => ?_
    rcases put_some e with ⟨rfl, rfl⟩ | ⟨hy, e⟩
    · refine ⟨v, ?_, hr.1⟩
      by_cases hk : kindOf y = some .local
      · simp [hk]
      · simp [hk]
    · obtain ⟨u, p, q⟩ := hδ y r e
      refine ⟨u, ?_, q⟩
      by_cases hk : kindOf y = some .local
      · simp only [if_pos hk] at p ⊢
        by_cases hkx : kindOf x = some .local
        · simp [hkx, hy, p]
        · simp [hkx, p]
      · simp only [if_neg hk] at p ⊢
        by_cases hkx : kindOf x = some .local
        · simp [hkx, p]
        · simp [hkx, hy, p]
  | x :: xs, [], _, δ, m, cm, _, hl, _ => by simp at hl
  | x :: xs, d :: ds, [], δ, m, cm, hr, _, _ => hr.elim

theorem FnR.of {K : Frag} {a : Addr} {oc : Value} {od : Option Addr} {osl : Array (Option Value)} {fd : FuncData} {body : List Stmt} {xs : List Str} {ds : List PyData} {d : PyData} (G : Gnd K g) (hl : K.lookup a = some ⟨oc, od, .func fd, osl⟩)
    (hb : BodyR prog w g n fd.scope body (bindD (xs.zip ds) fun _ => none) d)
    (hcode : codeIn K fd.code fd.qualname = true) (hbody : fd.body = .stmts body) (hclo : fd.closure = []) (hglob : fd.globals = mainGlobals) (hbi : fd.builtins = builtinsNs) (hxs : xs.length = ds.length)
    (hbind : ∀ vs : List Value, vs.length = ds.length → bindArgs fd ⟨vs, []⟩ = pure (xs.zip vs))
    (hkind : ∀ x ∈ xs, fd.scope.names.lookup x = some .local ∨ fd.scope.names.lookup x = some .cell) (hfree : ∀ x ∈ fd.scope.names, x.2 ≠ .free)
    (hnd : nodupB (fd.scope.names.map Prod.fst) = true)
    (hco : fd.scope.isCoroutine = false := by rfl) (hgen : fd.scope.isGenerator = false := by rfl) (hk : fd.scope.kind = .function := by rfl) :
    FnR prog w g (n + 1) a ds d := fun X A s vs Q E rm gk hX hr hQ => by
  have hlen := hr.length
  have hnn := nodupB_ok hnd
  obtain ⟨i1, i2, i3, i4, _⟩ := cellsFrom_spec fd.scope.names (s.heap.push { cls := .type "frame", data := .dict #[] }) [] (fun x y c e => by cases e) (fun x c e => by cases e)
  have hsz : (s.heap.push { cls := .type "frame", data := .dict #[] }).objs.size = s.heap.objs.size + 1 := Heap.size_push ..
  rw [hsz] at i1 i2 i3 i4
  refine wpAny_call (codeAny_call_cells (fd := fd) (body := body) (binds := xs.zip vs) (by have := rm.depth; omega) (gk _ _ (G.x _ _ hl)) rfl (G.nolimit.keeps gk) ((codeRec_of G.x hcode).keeps gk) hbody (hbind vs hlen) hclo (fun x hx => ?_) (fun s₁ ic => ?_) hco hgen hk)
  · have hx' : x.1 ∈ xs := (List.of_mem_zip hx).1
    rcases hkind _ hx' with q | q
    · exact .inl q
    · obtain ⟨c, hc⟩ := i3 x.1 (mem_of_lookup q)
      exact .inr ⟨q, by rw [hc]; rfl⟩
  · generalize hce : callEnvC fd s.heap.objs.size a = ce at ic ⊢
    have hsc : ce.scope = fd.scope := by rw [← hce]; rfl
    have hcl : ce.cells = cellsFrom (s.heap.objs.size + 1) fd.scope.names [] := by rw [← hce]; rfl
    have hlo : ce.locals = s.heap.objs.size := by rw [← hce]; rfl
    obtain ⟨h₁, tk₁, rfl⟩ := ic.toInCall.same
    have k₁ : HK s.heap h₁ := ic.toInCall.keep
    have fresh : ∀ c, s.heap.objs.size ≤ c → s.heap.get? c = none := fun c hc => by
      cases e : s.heap.get? c with
      | none => rfl
      | some o => exact absurd (Heap.lt_size e) (Nat.not_lt.mpr hc)
    have fr : FR g s.heap X fd.scope ce (bindD (xs.zip ds) fun _ => none) h₁ := by
      refine ⟨hsc, gk, k₁, ?_, ?_, hX.keeps k₁⟩
      · rintro b (rfl | ⟨x, hx, _, hc⟩)
        · rw [hlo]; exact fresh _ (Nat.le_refl _)
        · rw [hcl] at hc
          rcases i2 x b hc with ⟨q, _⟩ | ⟨q, _, _⟩
          · cases q
          · exact fresh b (Nat.le_trans (Nat.le_succ _) q)
      · refine ⟨fun x => if ce.kindOf x = some .local then bindL ce.kindOf (xs.zip vs) (fun _ => none) x else bindC ce.kindOf (xs.zip vs) (fun _ => none) x, ⟨by rw [hsc]; exact hk, by rw [← hce]; exact hglob, by rw [← hce]; exact hbi, ⟨_, ic.toInCall.ns, fun x hx => by rw [if_pos hx]⟩, fun x hx => ?_, ?_⟩, ?_⟩
        · have hxk : fd.scope.names.lookup x = some .cell := by
            rw [← hsc]
            rcases hx with hx | hx
            · exact hx
            · have := hfree _ (mem_of_lookup (by rw [← hsc]; exact hx : fd.scope.names.lookup x = some .free))
              exact absurd rfl this
          obtain ⟨c, hc⟩ := i3 x (mem_of_lookup hxk)
          rw [← hcl] at hc
          refine ⟨c, hc, ?_⟩
          have hnl : ¬ ce.kindOf x = some .local := by
            have : ce.kindOf x = some .cell := by show ce.scope.names.lookup x = _; rw [hsc]; exact hxk
            rw [this]; exact fun q => by cases q
          simp only [if_neg hnl]
          exact ic.cell x c hc
        · rw [hcl]; exact i1
        · exact bind_rep (kindOf := ce.kindOf) xs ds vs (fun _ => none) (fun _ => none) (fun _ => none) (RepAll.keeps hr k₁) hxs (fun x r e => by cases e)
    exact hb X (A.deeper ce) { s with heap := h₁, toks := tk₁ } ce s.heap _ _ (rm.deeper ce) fr hX fun v h' tk k r => hQ v h' tk k r
end
end Mine

namespace Mine
set_option maxHeartbeats 8000000 in
open_top hd for PySem.Challenge.rw_ie0007_01
end Mine

namespace Mine
def GW (w : World) (g : Heap) : Prop := Gnd (hd.heap_39 w.params) g
abbrev pg : Program := Challenge.rw_ie0007_01.row.prog
def intsD (l : List Int) : PyData := .list (l.map .int)
def outI (f : Int → List PyData) : PyData → List PyData
  | .int i => f i
  | _ => []
theorem flatMap_outI (f : Int → List PyData) (l : List Int) : (l.map PyData.int).flatMap (outI f) = l.flatMap f := by
  induction l with
  | nil => rfl
  | cons a l ih => simp only [List.map_cons, List.flatMap_cons, ih]; rfl
def toI : PyData → Int
  | .int i => i
  | _ => 0
def toL : PyData → List Int
  | .list xs => xs.map toI
  | .tuple xs => xs.map toI
  | _ => []
@[simp] theorem toI_int (i : Int) : toI (.int i) = i := rfl
theorem map_toI (l : List Int) : (l.map PyData.int).map toI = l := by rw [List.map_map]; exact (List.map_congr_left (fun _ _ => rfl)).trans (List.map_id l)
@[simp] theorem toL_ints (l : List Int) : toL (intsD l) = l := map_toI l
theorem mem_lists {α : Type} {f : α → PyData} {l : List α} {P : PyData → Prop} (h : ∀ i ∈ l, P (f i)) : ∀ d ∈ l.map f, P d := fun d hd => by
  obtain ⟨i, hi, rfl⟩ := List.mem_map.mp hd
  exact h i hi
theorem mem_ints {l : List Int} {P : PyData → Prop} (h : ∀ i ∈ l, P (.int i)) : ∀ d ∈ l.map PyData.int, P d := fun d hd => by
  obtain ⟨i, hi, rfl⟩ := List.mem_map.mp hd
  exact h i hi
theorem tgt_new {δ : TEnv} {x : Str} {p : Pos} {ds : List PyData} (h : δ x = none) : ∀ d ∈ ds, ∀ y r, δ y = some r → Tgt (.Name x p) d δ y = some r := fun d _ y r e => by
  show (δ.put x (.dat d)) y = some r
  unfold TEnv.put
  by_cases c : y = x
  · rw [c, h] at e; cases e
  · rw [if_neg c]; exact e
theorem tgt_new2 {δ : TEnv} {x y : Str} {p q pos : Pos} {k : Nat} {ds : List PyData} (h : δ x = none) (h' : δ y = none) : ∀ d ∈ ds, ∀ z r, δ z = some r → Tgt (.Tuple [.Name x p, .Name y q] k pos) d δ z = some r := fun d _ z r e => by
  have hx : z ≠ x := fun c => by rw [c, h] at e; cases e
  have hy : z ≠ y := fun c => by rw [c, h'] at e; cases e
  match d with
  | .tuple [a, b] =>
    show ((δ.put x (.dat a)).put y (.dat b)) z = some r
    unfold TEnv.put
    rw [if_neg hy, if_neg hx]; exact e
  | .tuple [] => exact e
  | .tuple [_] => exact e
  | .tuple (_ :: _ :: _ :: _) => exact e
  | .none => exact e
  | .bool _ => exact e
  | .int _ => exact e
  | .str _ => exact e
  | .list _ => exact e
  | .dict _ => exact e
section
variable {prog : Program} {w : World} {W : Wd} {n : Nat} {sc : Scope} {δ : TEnv}
theorem Ev.cast {e : Expr} {d d' : PyData} (h : Ev prog w W n sc δ e (.dat d)) (e' : d = d') : Ev prog w W n sc δ e (.dat d') := e' ▸ h
theorem Tr.cast {e : Expr} {b b' : Bool} (h : Tr prog w W n sc δ e b) (e' : b = b') : Tr prog w W n sc δ e b' := e' ▸ h
theorem BodyR.leave {W : Wd} {g hb h : Heap} {X : Addr → Prop} {env : Env} (f : FR g hb X sc env δ h) : HK hb h := f.hk
end
theorem eqv_ints_nil (l : List Int) : PyData.eqv (intsD l) (.list []) = l.isEmpty := by cases l <;> rfl
theorem depth_ints (l : List Int) : (intsD l).depth ≤ 1 := by
  have h : ∀ l : List Int, PyData.depthAll (l.map .int) = 0 := fun l => by
    induction l with
    | nil => rfl
    | cons a l ih => simp [PyData.depthAll, PyData.depth, ih]
  show PyData.depthAll _ + 1 ≤ 1
  rw [h]; exact Nat.le_refl _
end Mine

namespace Mine
/-- evaluating elt makes a new object o -/
def NewE (prog : Program) (w : World) (elt : Expr) (o : Obj) : Prop :=
  ∀ (A : Around) (s : Shared) (env : Env) (Q : Value → Shared → Prop) (E : Value → Shared → Prop), Q (.ref s.heap.objs.size) { s with heap := s.heap.push o } → wpAny (model prog w) A (eval elt env) Q E s
def none0 : TEnv := fun _ => none
section
variable {prog : Program} {w : World} {W : Wd} {n : Nat} {sc : Scope} {δ : TEnv} {A : Around} {s : Shared} {X : Addr → Prop} {env : Env} {E : Value → Shared → Prop}
theorem NewE.list {pos : Pos} : NewE prog w (.List [] pos) (lstO #[] 0) := fun A s env Q E h => wpAny_List_spliced (Calls.spliced_nil ⟨Nat.zero_le _, h⟩)
theorem NewE.dict {pos : Pos} : NewE prog w (.Dict [] [] pos) { cls := .type "dict", data := .dict #[] } := fun A s env Q E h => by
  rw [arm_eval_Dict]
  exact wpAny_bind (wpAny_standAt (wpAny_newObj_type h))

/-- the objects of a list of new ones -/
structure NewsL (hb h : Heap) (o : Obj) (as : List Addr) : Prop where
  nodup : as.Nodup
  at' : ∀ a ∈ as, h.get? a = some o
  new : ∀ a ∈ as, hb.get? a = none
  lt : ∀ a ∈ as, ∀ b o, hb.get? b = some o → b < a

theorem news_block {elt iter : Expr} {x : Str} {p : Pos} {o : Obj} {scope : Scope} {pos pos' : Pos} {ds : List PyData} {use : Option (Value → Sem Unit)} {Q : Value → Shared → Prop} (hf : o.isFreed = false)
    (rm : Room n A) (hs : env.scope = sc) (hw : W.ok s.heap) (t : TS X s.heap env δ) (hX : XIn X s.heap)
    (ho : okComp scope sc = true) (hi : It prog w W n sc δ (relS scope sc) (ownC scope) iter (.Name x p) (Tgt (.Name x p)) ds) (he : NewE prog w elt o) (hlen : ds.length ≤ sizeLine)
    (hfs : ∀ x, foldedSetIterable iter env x = pure x)
    (hQ : ∀ D C h' tk m as k, HK s.heap h' → as.length = ds.length → NewsL s.heap h' o as → D ∉ as → C ∉ as → s.heap.get? D = none → h'.get? D = some (lstO (as.map Value.ref).toArray k) → s.heap.get? C = none → h'.Ns C m → compPost (model prog w) A E use Q (.ref D) C (.ok .next) { s with heap := h', toks := tk }) :
    wpAny (model prog w) A (comprehension (.ListComp elt [⟨.Name x p, iter, [], 0⟩] scope pos) scope env pos' (newList []) false (eval iter env) use) Q E s := by
  have ho' : okComp scope env.scope = true := by rw [hs]; exact ho
  obtain ⟨hk, hnd, hfree⟩ := okComp.cases ho'
  refine wpAny_comprehension_free rfl hfs (TS.clos t ho') hk (fun x hx hl => lookup_mem_nodup hnd (by rw [← hl]; exact hx)) ?_
  refine hi X A s env _ E rm hs hw t hX fun it fp wr St h₁ tk₁ k₁ st₁ hlt hfp hwr ha S => ?_
  refine wpAny_newObj_type ?_
  dsimp only
  generalize hD : h₁.objs.size = D
  have hDn : h₁.get? D = none := hD ▸ get_size h₁
  have hDs : s.heap.get? D = none := none_of k₁ hDn
  generalize hH2 : h₁.push { cls := .type "list", dict := none, data := .seq ([] : List Value).toArray } = h₂
  have k₂ : HK h₁ h₂ := hH2 ▸ HK.push _ _
  have hgD : h₂.get? D = some (lstO #[] 0) := by rw [← hH2, ← hD]; exact Heap.get?_push_size _ rfl
  have hnX : ¬ X D := hX.fresh hDs
  have k1D : KS2 X (fun a => X a ∨ a = D) h₁ h₂ := fun b vs m hx => ⟨fun e => ⟨fun q => q.elim hx fun q => (by rw [q, hDn] at e; cases e), k₂ b _ e⟩, fun e => ⟨fun q => q.elim hx fun q => (by rw [q, hDn] at e; cases e), k₂ b _ e⟩⟩
  have t₂ : TS (fun a => X a ∨ a = D) h₂ env δ := (t.keeps k₁).mono k1D fun ρ f => f.keeps k₂
  refine wpAny_newComp (s := { s with heap := h₂, toks := tk₁ }) (X := fun a => X a ∨ a = D) (δ := δ) t₂ ho' fun cenv h₃ k₃ hC t₃ hown => ?_
  have k₃' : HK h₂ h₃ := k₃
  have k13 : HK h₁ h₃ := k₂.trans k₃'
  have k03 : HK s.heap h₃ := k₁.trans k13
  have hC2 : h₂.get? cenv.locals = none := hC
  have hcl : ({ cenv with scope := relabel scope env } : Env).locals = cenv.locals := rfl
  generalize hce : ({ cenv with scope := relabel scope env } : Env) = ce at t₃ hown hcl ⊢
  have hsc : ce.scope = relS scope sc := by rw [← hce, ← hs]; rfl
  have hgD3 : h₃.get? D = some (lstO #[] 0) := k₃' _ _ hgD
  have hown2 : ∀ b, OwnF (ownC scope) ce b → h₂.get? b = none := hown
  have hownD : ¬ OwnF (ownC scope) ce D := fun q => by have := hown2 D q; rw [hgD] at this; cases this
  have hwD : D ∉ wr := fun q => by obtain ⟨o, _, e, _⟩ := ha D q; rw [hDn] at e; cases e
  have k1X : KS2 X (fun a => (X a ∨ a = D) ∨ a ∈ wr) h₁ h₃ := fun b vs m hx =>
    ⟨fun e => ⟨fun q => q.elim (fun q => q.elim hx fun q => (by rw [q, hDn] at e; cases e)) fun q => ((ha b q).notSeq vs m).1 e, k13 b _ e⟩,
     fun e => ⟨fun q => q.elim (fun q => q.elim hx fun q => (by rw [q, hDn] at e; cases e)) fun q => ((ha b q).notSeq vs m).2 e, k13 b _ e⟩⟩
  have SS := S (fun a => (X a ∨ a = D) ∨ a ∈ wr) h₃ k1X fun b q => .inr q
  have st₃ : St 0 h₃ := SS.frame 0 _ _ st₁ fun b _ o e => k13 b o e
  have tn : TS (fun a => (X a ∨ a = D) ∨ a ∈ wr) h₃ ce none0 := by
    obtain ⟨ρ, f, _⟩ := t₃
    exact ⟨ρ, f, fun x r e => by cases e⟩
  have hfpo : ∀ b ∈ fp, ¬ OwnF (ownC scope) ce b := fun b hb q => by
    obtain ⟨o, e⟩ := hlt b hb
    have := k₂ b o e
    rw [hown2 b q] at this; cases this
  have hfpD : D ∉ fp := fun q => by obtain ⟨o, e⟩ := hlt D q; rw [hDn] at e; cases e
  have xin3 : XIn (fun a => (X a ∨ a = D) ∨ a ∈ wr) h₃ := fun a q => by
    rcases q with (q | rfl) | q
    · obtain ⟨o, e⟩ := hX a q; exact ⟨o, k03 a o e⟩
    · exact ⟨_, hgD3⟩
    · obtain ⟨o, _, e, _⟩ := ha a q; exact ⟨o, k13 a o e⟩
  have freshO : ∀ b, b ∈ wr ∨ OwnF (ownC scope) ce b → s.heap.get? b = none := fun b q => q.elim (hwr b) fun q => none_of (k₁.trans k₂) (hown2 b q)
  have loop : ∀ s₃ : Shared, s₃ = { s with heap := h₃, toks := tk₁ } → codeAny (model prog w) A (.compLoop (.ListComp elt [⟨.Name x p, iter, [], 0⟩] scope pos) 0 it (.ref D) ce) (compPost (model prog w) A E use Q (.ref D) cenv.locals) s₃ := by
    rintro s₃ rfl
    refine codeAny_loop rfl (fun m s' => ∃ i h tk as k, s' = { s with heap := h, toks := tk } ∧ i ≤ ds.length ∧ m = ds.length + 1 - i ∧ St i h ∧ TS (fun a => (X a ∨ a = D) ∨ a ∈ wr) h ce none0 ∧ XIn (fun a => (X a ∨ a = D) ∨ a ∈ wr) h ∧ HK s.heap h ∧ KS (fun a => (X a ∨ a = D) ∨ a ∈ wr) h₃ h ∧
        h.get? D = some (lstO (as.map Value.ref).toArray k) ∧ as.length = i ∧ NewsL s.heap h o as ∧ D ∉ as ∧ ∀ a ∈ as, a ∉ wr ∧ ¬ OwnF (ownC scope) ce a)
      ?_ (ds.length + 1) ⟨0, h₃, tk₁, [], 0, rfl, Nat.zero_le _, rfl, st₃, tn, xin3, k03, KS.refl _ _, hgD3, rfl, ⟨List.nodup_nil, fun a q => (by cases q), fun a q => (by cases q), fun a q => (by cases q)⟩, fun q => (by cases q), fun a q => (by cases q)⟩
    rintro m s' ⟨i, h, tk, as, k, rfl, hi, rfl, st, ts, xin, hk, ks, hD', hal, N, hDas, hap⟩
    show wpAny _ A ((compTurn (.ListComp elt [⟨.Name x p, iter, [], 0⟩] scope pos) 0 it (.ref D) ce).onRaise (fun x => do noteFrame x ce; theTreesLotGoes x)) _ _ _
    refine wpAny_noted (turn_one ?_)
    have alive := SS.alive i _ st
    by_cases hlt' : i < ds.length
    · have hd : ds[i]? = some ds[i] := List.getElem?_eq_getElem hlt'
      generalize ds[i] = d at hd
      refine SS.step i d { s with heap := h, toks := tk } ce none0 _ _ _ hd st hsc ts hfpo ks xin fun h₄ tk₄ st₄ t₄ ko₄ => ?_
      have ko₄' : KO (fun b => b ∈ wr ∨ OwnF (ownC scope) ce b) h h₄ := ko₄
      refine wpAny_tests_nil ?_
      rw [if_pos rfl]
      refine he _ _ _ _ _ ?_
      dsimp only
      generalize hH5 : h₄.push o = h₅
      have k45 : HK h₄ h₅ := hH5 ▸ HK.push _ _
      have ha5 : h₅.get? h₄.objs.size = some o := hH5 ▸ Heap.get?_push_size _ hf
      have hD4 : h₄.get? D = some (lstO (as.map Value.ref).toArray k) := ko₄' D _ (fun q => q.elim hwD hownD) hD'
      have hD5 := k45 D _ hD4
      have hne : h₄.objs.size ≠ D := fun q => by rw [← q, get_size] at hD4; cases hD4
      refine wpAny_list_append_plain (items := (as.map Value.ref).toArray) ⟨k, hD5⟩ (fun h₆ hp hs6 => ?_) (by simp only [List.size_toArray, List.length_map]; omega)
      obtain ⟨k6, e6⟩ := hp
      have ko6 : KO (fun b => b = D) h₅ h₆ := fun b o q e => hs6.extBut b o q e
      have hk4 : HK s.heap h₄ := ko₄'.hk hk freshO
      have hk6 : HK s.heap h₆ := ko6.hk (hk4.trans k45) fun b q => q ▸ hDs
      have t6 : TS (fun a => (X a ∨ a = D) ∨ a ∈ wr) h₆ ce none0 := by
        obtain ⟨ρ, f, _⟩ := (t₄.keeps k45).mono ((ko6.ks fun b q => .inl (.inl (.inr q))).two fun _ q => q) fun ρ f => f.ko ko6 fun b q => .inr ⟨_, k, q ▸ hD5⟩
        exact ⟨ρ, f, fun x r e => by cases e⟩
      have alive4 := SS.alive (i + 1) _ st₄
      have x4 : XIn (fun a => (X a ∨ a = D) ∨ a ∈ wr) h₄ := xin.ko ko₄' fun b q => q.elim (fun q => let ⟨o, _, e, _⟩ := alive4 b q; ⟨o, e⟩) fun q => (t₄.own q).2
      refine ⟨rfl, ds.length + 1 - (i + 1), by omega, i + 1, h₆, tk₄, as ++ [h₄.objs.size], k6, rfl, hlt', rfl, ?_, t6, ?_, hk6, ?_, ?_, by simp [hal], ⟨?_, fun a q => ?_, fun a q => ?_, fun a q => ?_⟩, ?_, fun a q => ?_⟩
      · exact SS.frame _ _ _ (SS.frame _ _ _ st₄ fun b hb o e => k45 b o e) fun b hb o e => ko6 b o (fun z => hfpD (z ▸ hb)) e
      · exact (x4.keeps k45).ko ko6 fun b q => ⟨_, q ▸ e6⟩
      · exact (ks.trans (ko₄'.ks fun b q => q.elim (fun q => .inl (.inr q)) fun q => .inr (ts.own q).1)).trans (((k45.ks _)).trans (ko6.ks fun b q => .inl (.inl (.inr q))))
      · rw [e6]; simp
      · refine List.nodup_append.mpr ⟨N.nodup, by simp, fun a ha b hb => ?_⟩
        simp only [List.mem_singleton] at hb
        subst hb
        intro q
        have e1 := ko₄' a _ (fun z => z.elim (hap a ha).1 (hap a ha).2) (N.at' a ha)
        rw [q, get_size] at e1; cases e1
      · rcases List.mem_append.mp q with q | q
        · exact ko6 a _ (fun z => hDas (z ▸ q)) (k45 a _ (ko₄' a _ (fun z => z.elim (hap a q).1 (hap a q).2) (N.at' a q)))
        · simp only [List.mem_singleton] at q; subst q; exact ko6 _ _ hne ha5
      · rcases List.mem_append.mp q with q | q
        · exact N.new a q
        · simp only [List.mem_singleton] at q; subst q; exact none_of hk4 (get_size h₄)
      · rcases List.mem_append.mp q with q | q
        · exact N.lt a q
        · simp only [List.mem_singleton] at q; subst q; exact fun b o e => Heap.lt_size (hk4 b o e)
      · intro q
        rcases List.mem_append.mp q with q | q
        · exact hDas q
        · simp only [List.mem_singleton] at q; exact hne q.symm
      · rcases List.mem_append.mp q with q | q
        · exact hap a q
        · simp only [List.mem_singleton] at q; subst q
          refine ⟨fun z => ?_, fun z => ?_⟩
          · obtain ⟨o, _, e, _⟩ := alive4 _ z; rw [get_size] at e; cases e
          · obtain ⟨o, e⟩ := (t₄.own z).2; rw [get_size] at e; cases e
    · have hin : i = ds.length := by omega
      subst hin
      refine SS.done { s with heap := h, toks := tk } _ _ st fun h₂' tk₂ k₂' => ?_
      have kk : KO (· ∈ wr) h h₂' := k₂'
      obtain ⟨ρ, f, _⟩ := ts.iter kk (fun b q => .inr q) alive
      obtain ⟨mm, hmm, _⟩ := f.loc
      refine hQ D cenv.locals h₂' tk₂ mm as k (kk.hk hk hwr) hal ⟨N.nodup, fun a q => kk a _ (hap a q).1 (N.at' a q), N.new, N.lt⟩ hDas (fun q => ?_) hDs (kk D _ hwD hD') (none_of (k₁.trans k₂) hC2) (hcl ▸ hmm)
      exact (hap _ q).2 (.inl hcl.symm)
  exact codeAny_compStart_list (loop _ rfl) (SS.self 0 _ _ _ st₃ (loop _ rfl))
end
end Mine

namespace Mine
section
variable {prog : Program} {w : World} {W : Wd} {n : Nat} {sc : Scope} {δ : TEnv} {A : Around} {s : Shared} {g hb : Heap} {X Z : Addr → Prop} {env : Env} {Q : Flow → Shared → Prop} {E : Value → Shared → Prop}

theorem NewsL.keeps {hb h h' : Heap} {o : Obj} {as : List Addr} (N : NewsL hb h o as) (k : ∀ a ∈ as, ∀ o, h.get? a = some o → h'.get? a = some o) : NewsL hb h' o as := ⟨N.nodup, fun a q => k a q _ (N.at' a q), N.new, N.lt⟩

/-- what is fresh is laid aside -/
theorem FR.aside {h' : Heap} {Y : Addr → Prop} {h : Heap} (f : FR g hb X sc env δ h) (k : HK h h') (hY : ∀ b, Y b → h.get? b = none ∧ ∃ o, h'.get? b = some o) : FR g hb (fun a => X a ∨ Y a) sc env δ h' := by
  have k2 : KS2 X (fun a => X a ∨ Y a) h h' := fun b vs m hx => ⟨fun e => ⟨fun q => q.elim hx fun q => (by rw [(hY b q).1] at e; cases e), k b _ e⟩, fun e => ⟨fun q => q.elim hx fun q => (by rw [(hY b q).1] at e; cases e), k b _ e⟩⟩
  exact ⟨f.scope, f.base, f.hk.trans k, f.fresh, f.ts.mono k2 fun ρ fs => fs.keeps k, fun a q => q.elim (fun q => let ⟨o, e⟩ := f.xin a q; ⟨o, k a o e⟩) fun q => (hY a q).2⟩

/-- x = [elt for y in iter], each element new -/
theorem st_news {elt iter : Expr} {x y : Str} {o : Obj} {scope : Scope} {pos cpos p py : Pos} {ds : List PyData} (hf : o.isFreed = false)
    (rm : Room n A) (f : FR g hb X sc env δ s.heap) (hw : W.ok s.heap)
    (hi : It prog w W n sc δ (relS scope sc) (ownC scope) iter (.Name y py) (Tgt (.Name y py)) ds) (he : NewE prog w elt o) (hlen : ds.length ≤ sizeLine)
    (hQ : ∀ D as k h' tk, as.length = ds.length → NewsL s.heap h' o as → D ∉ as → s.heap.get? D = none → h'.get? D = some (lstO (as.map Value.ref).toArray k) →
      FR g hb (fun a => X a ∨ (a = D ∨ a ∈ as)) sc env (δ.put x (.raw (.ref D))) h' → KO (OwnF (ownC sc) env) s.heap h' → Q .next { s with heap := h', toks := tk })
    (ho : okComp scope sc = true := by rfl) (hfs : ∀ env x, foldedSetIterable iter env x = pure x := by intro _ _; rfl) (hx : okOwn sc (ownC sc) x = true := by rfl) :
    wpAny (model prog w) A (exec (.Assign [.Name x p] (.ListComp elt [⟨.Name y py, iter, [], 0⟩] scope cpos) pos) env) Q E s := by
  have hsw := swaps_comp (elt := elt) (gens := [⟨.Name y py, iter, [], 0⟩]) (scope := scope) (cpos := cpos) (p := p) (l := pos.line) (x := x) f.scope
  -- storing, and what C becomes
  have store : ∀ D C h' tk m as k, HK s.heap h' → as.length = ds.length → NewsL s.heap h' o as → D ∉ as → C ∉ as → s.heap.get? D = none → h'.get? D = some (lstO (as.map Value.ref).toArray k) → s.heap.get? C = none → h'.Ns C m →
      ∀ (Q' : Unit → Shared → Prop), (∀ h₂ tk₂, h₂.Ns C m → (∀ h₃, Heap.SameBut C h₂ h₃ → Q .next { s with heap := h₃, toks := tk₂ }) → Q' () { s with heap := h₂, toks := tk₂ }) → wpAny (model prog w) A (storeName env x (.ref D)) Q' E { s with heap := h', toks := tk } := by
    intro D C h' tk m as k hk hal N hDas hCas hD hgD hC hm Q' hQ'
    have fY := f.aside (Y := fun a => a = D ∨ a ∈ as) hk fun b q => by
      rcases q with rfl | q
      · exact ⟨hD, _, hgD⟩
      · exact ⟨N.new b q, _, N.at' b q⟩
    have hCo : ¬ OwnF (ownC sc) env C := fun q => by obtain ⟨o, e⟩ := (f.own q).2; rw [hC] at e; cases e
    have hDo : ¬ OwnF (ownC sc) env D := fun q => by obtain ⟨o, e⟩ := (f.own q).2; rw [hD] at e; cases e
    have hao : ∀ a ∈ as, ¬ OwnF (ownC sc) env a := fun a ha q => by obtain ⟨o, e⟩ := (f.own q).2; rw [N.new a ha] at e; cases e
    have hDC : D ≠ C := fun q => by
      obtain ⟨oC, es, ep, eC, dC, _⟩ := hm
      rw [← q, hgD] at eC; cases eC; cases dC
    refine fY.store (s := { s with heap := h', toks := tk }) (r := .raw (.ref D)) hx rfl fun h₂ tk₂ f₂ k₂ => ?_
    have k₂' : KO (OwnF (ownC sc) env) h' h₂ := k₂
    obtain ⟨oC, es, ep, eC, dC, r3⟩ := hm
    have eC2 := k₂' C _ hCo eC
    refine hQ' h₂ tk₂ ⟨oC, es, ep, eC2, dC, r3⟩ fun h₃ hs₃ => ?_
    have ko : KO (fun b => b = C) h₂ h₃ := fun b o q e => hs₃.extBut b o q e
    have ks : ∀ Y, KS Y h₂ h₃ := fun Y => ko.ks fun b q => .inr (q ▸ .dict eC2 dC)
    have hCb : hb.get? C = none := none_of f.hk hC
    have k03 : KO (OwnF (ownC sc) env) s.heap h₃ := fun b o q e => ko b o (fun z => by rw [z, hC] at e; cases e) (k₂' b o q (hk b o e))
    refine hQ D as k h₃ tk₂ hal ⟨N.nodup, fun a q => ko a _ (fun z => hCas (z ▸ q)) (k₂' a _ (hao a q) (N.at' a q)), N.new, N.lt⟩ hDas hD (ko D _ hDC (k₂' D _ hDo hgD)) ⟨f₂.scope, f₂.base, ko.hk f₂.hk fun b q => q ▸ hCb, f₂.fresh, ?_, fun a q => ?_⟩ k03
    · refine f₂.ts.mono ((ks _).two fun _ q => q) fun ρ fs => ⟨fs.kind, fs.glob, fs.bi, ?_, fun y hy => ?_, fs.inj⟩
      · obtain ⟨ml, a, b⟩ := fs.loc
        exact ⟨ml, a.at' fun o e => ko _ o (fun z => hCo (.inl z.symm)) e, b⟩
      · obtain ⟨c, h1, o, e, d⟩ := fs.cel y hy
        exact ⟨c, h1, o, ko c o (fun z => by rw [z, eC2] at e; cases e; rw [dC] at d; cases d) e, d⟩
    · obtain ⟨o2, e2⟩ := f₂.xin a q
      refine ⟨o2, ko a o2 (fun z => ?_) e2⟩
      rcases q with q | q | q
      · obtain ⟨o, e⟩ := f.xin a q; rw [z, hC] at e; cases e
      · exact hDC (q ▸ z)
      · exact hCas (z ▸ q)
  cases hb' : swapB sc scope x p cpos with
  | false =>
    rw [hb'] at hsw
    refine wpAny_Assign_Name ?_ hsw
    rw [eval_ListComp]
    refine news_block (use := none) hf rm f.scope hw f.ts f.xin ho hi he hlen (hfs env) fun D C h' tk m as k hk hal N hDas hCas hD hgD hC hm => ?_
    refine ⟨m, hm, fun h'' hs'' => ?_⟩
    have ko : KO (fun b => b = C) h' h'' := fun b o q e => hs''.extBut b o q e
    have hDC : D ≠ C := fun q => by
      obtain ⟨oC, es, ep, eC, dC, _⟩ := hm
      rw [← q, hgD] at eC; cases eC; cases dC
    have fY := f.aside (h' := h'') (Y := fun a => a = D ∨ a ∈ as) (fun b o e => ko b o (fun z => by rw [z, hC] at e; cases e) (hk b o e)) fun b q => by
      rcases q with rfl | q
      · exact ⟨hD, _, ko _ _ hDC hgD⟩
      · exact ⟨N.new b q, _, ko _ _ (fun z => hCas (z ▸ q)) (N.at' b q)⟩
    have hDo : ¬ OwnF (ownC sc) env D := fun q => by obtain ⟨o, e⟩ := (f.own q).2; rw [hD] at e; cases e
    have hao : ∀ a ∈ as, ¬ OwnF (ownC sc) env a := fun a ha q => by obtain ⟨o, e⟩ := (f.own q).2; rw [N.new a ha] at e; cases e
    refine fY.store (s := { s with heap := h'', toks := tk }) (r := .raw (.ref D)) hx rfl fun h₂ tk₂ f₂ k₂ => ?_
    have k₂' : KO (OwnF (ownC sc) env) h'' h₂ := k₂
    exact hQ D as k h₂ tk₂ hal ⟨N.nodup, fun a q => k₂' a _ (hao a q) (ko a _ (fun z => hCas (z ▸ q)) (N.at' a q)), N.new, N.lt⟩ hDas hD (k₂' D _ hDo (ko D _ hDC hgD)) f₂ fun b o q e => k₂' b o q (ko b o (fun z => by rw [z, hC] at e; cases e) (hk b o e))
  | true =>
    rw [hb'] at hsw
    rw [exec_Assign_Name_used _ _ _ _ hsw]
    refine wpAny_bind (wpAny_standAt (wpAny_bind ?_))
    show wpAny _ A (do let _ ← comprehension (.ListComp elt [⟨.Name y py, iter, [], 0⟩] scope cpos) scope env _ (newList []) false (eval iter env) (some (assign (.Name x p) env))) _ _ s
    refine wpAny_bind (wpAny_mono (news_block (use := some (assign (.Name x p) env)) (Q := fun _ s' => Q .next s') hf rm f.scope hw f.ts f.xin ho hi he hlen (hfs env) fun D C h' tk m as k hk hal N hDas hCas hD hgD hC hm => ?_) (fun _ s' hq => wpAny_pure (wpAny_pure hq)) fun _ _ e => e)
    show wpAny _ A (assign (.Name x p) env (.ref D)) _ _ _
    refine wpAny_assign_Name (store D C h' tk m as k hk hal N hDas hCas hD hgD hC hm _ fun h₂ tk₂ hn hq => ⟨m, hn, fun h₃ hs₃ => hq h₃ hs₃⟩)

/-- l[i], where l is a list of references -/
theorem Ev.itemRaw {v i : Expr} {pos : Pos} {D : Addr} {as : List Addr} {k : Nat} {j : Int} {a : Addr} (hD : ∀ h, W.ok h → h.get? D = some (lstO (as.map Value.ref).toArray k)) (h1 : Ev prog w W n sc δ v (.raw (.ref D))) (h2 : Ev prog w W n sc δ i (.dat (.int j))) (h0 : 0 ≤ j) (hj : j < 2 ^ 63) (hx : as[j.toNat]? = some a)
    (hs' : ∀ o j, subscripted i false o j = operate [o, j] (getItem o j) := by intro _ _; with_unfolding_all rfl) : Ev prog w W n sc δ (.Subscript v i pos) (.raw (.ref a)) := fun X A s env Q E rm hs hw t hX hQ =>
  Subscript_ (h1 X A s env _ E rm hs hw t hX fun u ha tk k1 r1 => h2 X A _ env _ E rm hs (W.mono _ _ k1 hw) (t.keeps k1) (hX.keeps k1) fun b hb tk2 k2 r2 => by
    obtain ⟨t', rfl⟩ := r2
    cases r1
    have hl := hD _ (W.mono _ _ (k1.trans k2) hw)
    exact tail_any (T := "list") ⟨_, hl, rfl⟩ slot_list_getitem.lookup (wpAny_getItem_list (items := (as.map Value.ref).toArray) ⟨_, hl, rfl, k, rfl⟩ h0 hj (x := .ref a) (by rw [List.getElem?_toArray, List.getElem?_map, hx]; rfl) (hQ _ _ _ (k1.trans k2) rfl)) (hs' _ _))

/-- o.append(e), where o is a list of our own -/
theorem st_append {o elt : Expr} {apos pos epos : Pos} {a : Addr} {its : Array Value} {k : Nat} {d : PyData} (rm : Room n A) (f : FR g hb X sc env δ s.heap) (hw : W.ok s.heap) (eo : Ev prog w W n sc δ o (.raw (.ref a))) (ee : Ev prog w W n sc δ elt (.dat d))
    (ha : s.heap.get? a = some (lstO its k)) (hX : X a) (hba : hb.get? a = none) (hsz : its.size ≤ sizeLine)
    (hQ : ∀ h' tk v, FR g hb X sc env δ h' → KO (fun b => b = a) s.heap h' → h'.get? a = some (lstO (its.push v) (k + 1)) → Rep X h' d v → Q .next { s with heap := h', toks := tk })
    (hbase : attributeBase o "append" env (eval o env) = eval o env := by rfl) (hline : (apos.endLine == pos.line) = true := by rfl) (hi : interactive env = false)
    (hst : ∀ env, starEach [elt] env = [(false, eval elt env)] := by intro _; rfl) : wpAny (model prog w) A (exec (.Expr (.Call (.Attribute o "append" apos) [elt] [] pos) epos) env) Q E s := by
  refine wpAny_Expr_any ?_ hi (by rfl)
  refine wpAny_Call_append hbase (by rw [hst]; rfl) hline (by rw [hst]; rfl) ?_
  refine eo X A s env _ E rm f.scope hw f.ts f.xin fun v h₁ tk₁ k₁ r₁ => ?_
  cases r₁
  refine ⟨a, its, rfl, ⟨_, k, k₁ _ _ ha, rfl, rfl, rfl⟩, ?_⟩
  refine ee X A { s with heap := h₁, toks := tk₁ } env _ E rm f.scope (W.mono _ _ k₁ hw) (f.ts.keeps k₁) (f.xin.keeps k₁) fun v h₂ tk₂ k₂ r₂ => ?_
  have k12 : HK s.heap h₂ := k₁.trans k₂
  have ha2 := k12 _ _ ha
  refine append_at (D := a) (hsz := hsz) ha2 fun h₃ hs₃ e₃ => ?_
  have ko : KO (fun b => b = a) h₂ h₃ := fun b o q e => hs₃.extBut b o q e
  have f₂ := f.keeps k12
  have ks : KS X h₂ h₃ := ko.ks fun b q => .inl (q ▸ hX)
  refine hQ h₃ tk₂ v ⟨f.scope, f.base, ko.hk f₂.hk fun b q => q ▸ hba, f.fresh, f₂.ts.mono (ks.two fun _ q => q) fun ρ fs => fs.ko ko fun b q => .inr ⟨its, k, q ▸ ha2⟩, f₂.xin.ko ko fun b q => ⟨_, q ▸ e₃⟩⟩ (fun b o q e => ko b o q (k12 b o e)) e₃ (Rep.mono ks (fun _ q => q) _ _ r₂)
end
end Mine

namespace Mine
section
variable {prog : Program} {w : World} {W : Wd} {n : Nat} {sc : Scope} {δ : TEnv} {A : Around} {s : Shared} {g hb : Heap} {X Z : Addr → Prop} {env : Env} {Q : Flow → Shared → Prop} {E : Value → Shared → Prop}
theorem put_comm {δ : TEnv} {x y : Str} {a b : Ent} (h : x ≠ y) : ∀ z r, ((δ.put x a).put y b) z = some r → ((δ.put y b).put x a) z = some r := fun z r e => by
  unfold TEnv.put at e ⊢
  by_cases h1 : z = y
  · rw [if_pos h1] at e; rw [if_neg (fun q => h (q.symm.trans h1)), if_pos h1]; exact e
  · rw [if_neg h1] at e; rw [if_neg h1]; exact e
/-- x, y = e1, e2 -/
theorem st_pair {x y : Str} {p q tp vp pos : Pos} {k k' : Nat} {e1 e2 : Expr} (rm : Room n A) (f : FR g hb X sc env δ s.heap) (hxy : x ≠ y)
    (h : wpAny (model prog w) A (eval e1 env) (fun v1 s1 => wpAny (model prog w) A (eval e2 env) (fun v2 s2 => ∃ X' h2 tk2 r1 r2, s2 = { s with heap := h2, toks := tk2 } ∧ FR g hb X' sc env δ h2 ∧ r1.ok X' h2 v1 ∧ r2.ok X' h2 v2 ∧
      ∀ h' tk, FR g hb X' sc env ((δ.put x r1).put y r2) h' → KO (OwnF (ownC sc) env) h2 h' → Q .next { s with heap := h', toks := tk }) E s1) E s)
    (hsw : swappedStores [.Tuple [.Name x p, .Name y q] k tp] (.Tuple [e1, e2] k' vp) env = pure none ∨ swappedStores [.Tuple [.Name x p, .Name y q] k tp] (.Tuple [e1, e2] k' vp) env = pure (some [x, y]))
    (hx : okOwn sc (ownC sc) x = true := by rfl) (hy : okOwn sc (ownC sc) y = true := by rfl)
    (hst : starEach [e1, e2] env = [(false, eval e1 env), (false, eval e2 env)] := by rfl) : wpAny (model prog w) A (exec (.Assign [.Tuple [.Name x p, .Name y q] k tp] (.Tuple [e1, e2] k' vp) pos) env) Q E s := by
  have ev : ∀ (Q' : Value → Shared → Prop), (∀ T a b X' h2 h3 tk3 r1 r2, FR g hb X' sc env δ h3 → HK h2 h3 → r1.ok X' h3 a → r2.ok X' h3 b → h3.get? T = some (tupO #[a, b] 0) → (∀ h' tk, FR g hb X' sc env ((δ.put x r1).put y r2) h' → KO (OwnF (ownC sc) env) h2 h' → Q .next { s with heap := h', toks := tk }) → Q' (.ref T) { s with heap := h3, toks := tk3 }) →
      wpAny (model prog w) A (eval (.Tuple [e1, e2] k' vp) env) Q' E s := fun Q' hQ' => by
    refine wpAny_Tuple_spliced ?_
    rw [hst]
    refine Calls.spliced_cons (wpAny_mono h (fun v1 s1 h1 => Calls.spliced_cons (wpAny_mono h1 (fun v2 s2 h2 => Calls.spliced_nil ?_) fun _ _ x => x)) fun _ _ x => x)
    obtain ⟨X', hp2, tk2, r1, r2, rfl, f2, o1, o2, hq⟩ := h2
    refine ⟨by simp [sizeLine], ?_⟩
    exact hQ' _ v1 v2 X' hp2 _ _ r1 r2 (f2.keeps (HK.push _ _)) (HK.push _ _) (Ent.keeps (HK.push _ _) o1) (Ent.keeps (HK.push _ _) o2) (Heap.get?_push_size _ rfl) hq
  rcases hsw with hsw | hsw
  · refine wpAny_Assign_stores (ev _ fun T a b X' h2 h3 tk3 r1 r2 f3 k3 o1 o2 hT hq => ?_) rfl hsw
    show wpAny _ _ (assign (.Tuple [.Name x p, .Name y q] k tp) env (.ref T)) _ _ _
    refine wpAny_assign_Tuple (items := #[a, b]) rm.handled ⟨_, hT, rfl, 0, rfl⟩ rfl rfl fun h4 k4 => ?_
    have k4' : HK h3 h4 := fun b o e => k4 b o (fun q => by rw [q, get_size] at e; cases e) e
    show wpAny _ _ (assignInOrder [assign (.Name x p) env, assign (.Name y q) env] [a, b]) _ _ _
    refine wpAny_bind (wpAny_holding (wpAny_assign_Name ((f3.keeps k4').store (s := { s with heap := h4, toks := tk3 }) (r := r1) hx (Ent.keeps k4' o1) fun h5 tk5 f5 k5 => ?_)))
    have k5' : KO (OwnF (ownC sc) env) h4 h5 := k5
    have o2' : r2.ok X' h5 b := Ent.mono (k5'.ks fun b q => .inr ((f3.keeps k4').own q).1) (fun _ q => q) (Ent.keeps k4' o2)
    refine wpAny_bind (wpAny_holding (wpAny_assign_Name (f5.store (s := { s with heap := h5, toks := tk5 }) (r := r2) hy o2' fun h6 tk6 f6 k6 => ?_)))
    have k6' : KO (OwnF (ownC sc) env) h5 h6 := k6
    exact wpAny_pure (hq h6 tk6 f6 (((k3.trans k4').ko _).trans (k5'.trans k6')))
  · rw [exec_Assign_arm]
    refine wpAny_bind (wpAny_standAt (wpAny_bind (wpAny_of_eq (a := false) rfl ?_)))
    rw [if_neg (by decide)]
    refine wpAny_bind (ev _ fun T a b X' h2 h3 tk3 r1 r2 f3 k3 o1 o2 hT hq => ?_)
    rw [hsw]
    refine wpAny_bind (wpAny_pure ?_)
    show wpAny _ _ (do rule "assign.swapped-stores"; let items ← unpackItems (.ref T) 2 none; assignInOrder [bindName env y, bindName env x] items.reverse; (pure Flow.next : Sem Flow)) _ _ _
    refine wpAny_bind (wpAny_rule (wpAny_bind (wpAny_unpackItems_tuple (items := #[a, b]) rm.handled ⟨_, hT, rfl, 0, rfl⟩ fun h4 k4 => ?_)))
    have k4' : HK h3 h4 := fun b o e => k4 b o (fun q => by rw [q, get_size] at e; cases e) e
    show wpAny _ _ (do assignInOrder [bindName env y, bindName env x] [b, a]; (pure Flow.next : Sem Flow)) _ _ _
    refine wpAny_bind (wpAny_bind (wpAny_holding (wpAny_bindName ((f3.keeps k4').store (s := { s with heap := h4, toks := tk3 }) (r := r2) hy (Ent.keeps k4' o2) fun h5 tk5 f5 k5 => ?_))))
    have k5' : KO (OwnF (ownC sc) env) h4 h5 := k5
    have o1' : r1.ok X' h5 a := Ent.mono (k5'.ks fun b q => .inr ((f3.keeps k4').own q).1) (fun _ q => q) (Ent.keeps k4' o1)
    refine wpAny_bind (wpAny_holding (wpAny_bindName (f5.store (s := { s with heap := h5, toks := tk5 }) (r := r1) hx o1' fun h6 tk6 f6 k6 => ?_)))
    have k6' : KO (OwnF (ownC sc) env) h5 h6 := k6
    exact wpAny_pure (wpAny_pure (hq h6 tk6 (f6.weak (put_comm hxy)) (((k3.trans k4').ko _).trans (k5'.trans k6'))))
end
end Mine

namespace Mine
def toV : Value → Int
  | .int i _ => i
  | _ => 0
/-- the dict at a holds m, ints by ints -/
def DI (w : World) (h : Heap) (a : Addr) (m : List (Int × Int)) : Prop :=
  ∃ kvs : List (Int × Value), h.DictOf (intKind pg w) a kvs ∧ m = kvs.map (fun kv => (kv.1, toV kv.2)) ∧ ∀ kv ∈ kvs, ∃ t, kv.2 = .int (toV kv.2) t
theorem swapped_scope {env env' : Env} (h : env.scope = env'.scope) (ts : List Expr) (v : Expr) : swappedStores ts v env = swappedStores ts v env' := by
  unfold swappedStores Env.blockKind Env.kindOf
  rw [h]
def env0 (sc : Scope) : Env := { scope := sc, locals := 0, globals := 0, cells := [], qual := Str.ofString "", func := none, code := .none, frame := none, builtins := 0 }
def look (m : List (Int × Int)) (k : Int) : Option Int := (m.find? fun kv => decide (kv.1 = k)).map (·.2)
theorem DI.at {w : World} {h h' : Heap} {a : Addr} {m : List (Int × Int)} (x : DI w h a m) (k : ∀ o, h.get? a = some o → h'.get? a = some o) : DI w h' a m :=
  let ⟨kvs, ⟨o, es, ep, ho, r⟩, e, q⟩ := x; ⟨kvs, ⟨o, es, ep, k _ ho, r⟩, e, q⟩
theorem DI.keeps {w : World} {h h' : Heap} {a : Addr} {m : List (Int × Int)} (x : DI w h a m) (k : HK h h') : DI w h' a m := x.at fun o e => k _ o e
theorem DI.notSeq {w : World} {h : Heap} {a : Addr} {m : List (Int × Int)} (x : DI w h a m) : NotSeq h a := let ⟨_, ⟨o, es, ep, ho, _, hd, _⟩, _⟩ := x; .dict ho hd
theorem DI.notIter {w : World} {h : Heap} {a : Addr} {m : List (Int × Int)} (x : DI w h a m) : ¬ IterAt h a := fun ⟨o', vs, e', d'⟩ => by
  obtain ⟨_, ⟨o, es, ep, ho, _, hd, _⟩, _⟩ := x
  rw [ho] at e'; cases e'; rw [hd] at d'; cases d'
theorem DI.some {w : World} {h : Heap} {a : Addr} {m : List (Int × Int)} (x : DI w h a m) : ∃ o, h.get? a = some o := let ⟨_, ⟨o, es, ep, ho, _⟩, _⟩ := x; ⟨o, ho⟩
theorem look_value {kvs : List (Int × Value)} (k : Int) : look (kvs.map (fun kv => (kv.1, toV kv.2))) k = (valueAt kvs k).map toV := by
  unfold look valueAt
  induction kvs with
  | nil => rfl
  | cons kv kvs ih =>
    simp only [List.map_cons, List.find?_cons]
    by_cases h : kv.1 = k
    · simp [h]
    · simp only [decide_eq_false h]
      exact ih
theorem valueAt_mem {kvs : List (Int × Value)} {k : Int} {v : Value} (h : valueAt kvs k = some v) : (k, v) ∈ kvs := by
  unfold valueAt at h
  cases q : kvs.find? (fun kv => decide (kv.1 = k)) with
  | none => rw [q] at h; cases h
  | some kv =>
    rw [q] at h
    cases h
    have h1 := List.mem_of_find?_eq_some q
    have h2 := List.find?_some q
    simp only [decide_eq_true_eq] at h2
    rw [← h2]; exact h1
section
variable {w : World} {W : Wd} {n : Nat} {sc : Scope} {δ : TEnv} {A : Around} {s : Shared} {g hb : Heap} {X Z : Addr → Prop} {env : Env} {Q : Flow → Shared → Prop} {E : Value → Shared → Prop}
theorem int_is (k : Int) (t : Tok) : (intKind pg w).is k (.int k t) = true := by simp [intKind, Value.isInt]
/-- d[k] -/
theorem Ev.dictItem {v i : Expr} {pos : Pos} {a : Addr} {m : List (Int × Int)} {k x : Int} (hD : ∀ h, W.ok h → DI w h a m) (h1 : Ev pg w W n sc δ v (.raw (.ref a))) (h2 : Ev pg w W n sc δ i (.dat (.int k))) (hx : look m k = some x)
    (hs' : ∀ o j, subscripted i false o j = operate [o, j] (getItem o j) := by intro _ _; with_unfolding_all rfl) : Ev pg w W n sc δ (.Subscript v i pos) (.dat (.int x)) := fun X A s env Q E rm hs hw t hX hQ =>
  Subscript_ (h1 X A s env _ E rm hs hw t hX fun u ha tk k1 r1 => h2 X A _ env _ E rm hs (W.mono _ _ k1 hw) (t.keeps k1) (hX.keeps k1) fun b hb tk2 k2 r2 => by
    obtain ⟨t', rfl⟩ := r2
    cases r1
    obtain ⟨kvs, hd, e, q⟩ := hD _ (W.mono _ _ (k1.trans k2) hw)
    rw [e, look_value] at hx
    cases hv : valueAt kvs k with
    | none => rw [hv] at hx; cases hx
    | some y =>
      rw [hv] at hx
      cases hx
      obtain ⟨t, ht⟩ := q _ (valueAt_mem hv)
      refine tail_any (T := "dict") hd.mapOf.typeIs slot_dict_getitem.lookup (wpAny_getItem_of (knd := intKind pg w) (v := y) (int_is k t') hd.mapOf hv ?_) (hs' _ _)
      exact hQ _ hb _ (k1.trans k2) ⟨t, ht⟩)
/-- k in d -/
theorem Tr.inDict {l r : Expr} {pos : Pos} {a : Addr} {m : List (Int × Int)} {k : Int} (hD : ∀ h, W.ok h → DI w h a m) (ha1 : (a == sysModules) = false) (h1 : Ev pg w W n sc δ l (.dat (.int k))) (h2 : Ev pg w W n sc δ r (.raw (.ref a)))
    (hm : behindInMarks .In r = false := by with_unfolding_all rfl) : Tr pg w W n sc δ (.Compare l [.In] [r] pos) (look m k).isSome := fun X A s env Q E rm hs hw t hX hQ =>
  wpAny_isTrue_Compare1 (h1 X A s env _ E rm hs hw t hX fun u hp1 tk1 k1 r1 => h2 X A _ env _ E rm hs (W.mono _ _ k1 hw) (t.keeps k1) (hX.keeps k1) fun b hp2 tk2 k2 r2 => by
    obtain ⟨t', rfl⟩ := r1
    cases r2
    obtain ⟨kvs, hd, e, q⟩ := hD _ (W.mono _ _ (k1.trans k2) hw)
    refine wpAny_in_of (knd := intKind pg w) (int_is k t') ha1 hd.mapOf (wpAny_truthy_bool ?_)
    have : (look m k).isSome = (valueAt kvs k).isSome := by rw [e, look_value]; cases valueAt kvs k <;> rfl
    rw [← this]
    exact hQ hp2 _ (k1.trans k2)) hm

theorem stored_new {kvs : List (Int × Value)} {k : Int} {v : Value} (h : valueAt kvs k = none) : stored kvs k v = kvs ++ [(k, v)] := by
  unfold stored
  rw [if_neg]
  intro q
  rw [List.any_eq_true] at q
  obtain ⟨kv, h1, h2⟩ := q
  unfold valueAt at h
  cases z : kvs.find? (fun kv => decide (kv.1 = k)) with
  | none => exact absurd h2 (by simpa using List.find?_eq_none.mp z kv h1)
  | some _ => rw [z] at h; cases h
/-- d[k] = e, where k is new in d, a dict of our own -/
theorem st_setNew {o i e : Expr} {spos pos : Pos} {a : Addr} {m : List (Int × Int)} {k x : Int} (rm : Room n A) (f : FR g hb X sc env δ s.heap) (hw : W.ok s.heap) (hD : ∀ h, W.ok h → DI w h a m) (ee : Ev pg w W n sc δ e (.dat (.int x))) (eo : Ev pg w W n sc δ o (.raw (.ref a)))
    (ei : Ev pg w W n sc δ i (.dat (.int k))) (hk : look m k = none) (hX : X a) (hba : hb.get? a = none) (hao : ¬ OwnF (ownC sc) env a) (hsz : m.length ≤ sizeLine)
    (hQ : ∀ h' tk, FR g hb X sc env δ h' → KO (fun b => b = a) s.heap h' → DI w h' a (m ++ [(k, x)]) → Q .next { s with heap := h', toks := tk })
    (hs : swapsWithSole [.Subscript o i spos] e pos.line env = pure false := by rfl) (hw' : swappedStores [.Subscript o i spos] e env = pure none := by rfl)
    (har : ∀ v, assign (.Subscript o i spos) env v = (do
      let ov ← holding [v] (eval o env)
      let iv ← holding [v, ov] (eval i env)
      standAt spos
      holding [v, ov, iv] (setItem ov iv v)
      release [v, ov, iv] []) := by intro _; rfl) : wpAny (model pg w) A (exec (.Assign [.Subscript o i spos] e pos) env) Q E s := by
  refine wpAny_Assign_stores ?_ hs hw'
  refine ee X A s env _ E rm f.scope hw f.ts f.xin fun v h₁ tk₁ k₁ r₁ => ?_
  show wpAny _ _ (assign (.Subscript o i spos) env v) _ _ _
  rw [har]
  refine wpAny_bind (wpAny_holding (eo X A _ env _ E rm f.scope (W.mono _ _ k₁ hw) (f.ts.keeps k₁) (f.xin.keeps k₁) fun ov h₂ tk₂ k₂ r₂ => ?_))
  cases r₂
  have k12 := k₁.trans k₂
  refine wpAny_bind (wpAny_holding (ei X A _ env _ E rm f.scope (W.mono _ _ k12 hw) (f.ts.keeps k12) (f.xin.keeps k12) fun iv h₃ tk₃ k₃ r₃ => ?_))
  obtain ⟨t', rfl⟩ := r₃
  have k13 := k12.trans k₃
  obtain ⟨t, rfl⟩ := r₁
  obtain ⟨kvs, hd, hm, hq⟩ := hD _ (W.mono _ _ k13 hw)
  have hl : kvs.length = m.length := by rw [hm, List.length_map]
  have hvn : valueAt kvs k = none := by
    rw [hm, look_value] at hk
    cases z : valueAt kvs k with
    | none => rfl
    | some _ => rw [z] at hk; cases hk
  refine wpAny_bind (wpAny_standAt (wpAny_bind (wpAny_holding (wpAny_setItem_pairs (knd := intKind pg w) (int_is k t') hd (fun h₄ hd₄ hs₄ => ?_) (by rw [hl]; exact hsz)))))
  refine wpAny_releaseD ?_
  rw [stored_new hvn] at hd₄
  have ko : KO (fun b => b = a) h₃ h₄ := fun b o q e => hs₄.extBut b o q e
  have f₃ := f.keeps k13
  have ns : NotSeq h₃ a := DI.notSeq ⟨kvs, hd, hm, hq⟩
  have ks : KS X h₃ h₄ := ko.ks fun b q => .inr (q ▸ ns)
  refine hQ h₄ _ ⟨f.scope, f.base, ko.hk f₃.hk fun b q => q ▸ hba, f.fresh, f₃.ts.mono (ks.two fun _ q => q) fun ρ fs => ⟨fs.kind, fs.glob, fs.bi, ?_, fun y hy => ?_, fs.inj⟩, f₃.xin.ko ko fun b q => ?_⟩ (fun b o q e => ko b o q (k13 b o e)) ⟨kvs ++ [(k, .int x t)], hd₄, ?_, fun kv hkv => ?_⟩
  · obtain ⟨ml, a', b⟩ := fs.loc
    exact ⟨ml, a'.at' fun o e => ko _ o (fun z => hao (.inl z.symm)) e, b⟩
  · obtain ⟨c, h1, o, e, d⟩ := fs.cel y hy
    refine ⟨c, h1, o, ko c o (fun z => ?_) e, d⟩
    obtain ⟨o2, es, ep, e2, _, d2, _⟩ := hd
    rw [z, e2] at e; cases e; rw [d2] at d; cases d
  · obtain ⟨o, es, ep, ho, _⟩ := hd₄; exact ⟨o, q ▸ ho⟩
  · rw [List.map_append, ← hm]; rfl
  · rcases List.mem_append.mp hkv with z | z
    · exact hq kv z
    · simp only [List.mem_singleton] at z; subst z; exact ⟨t, rfl⟩

/-- max(d.values()) -/
theorem Ev.maxValues {x y : Str} {p py apos cpos pos : Pos} {a : Addr} {m : List (Int × Int)} (hD : ∀ h, W.ok h → DI w h a m) (ha1 : (a == sysModules) = false) (hm0 : m ≠ []) (hf : Ev pg w W n sc δ (.Name x p) (.raw (.builtin "max"))) (ho : Ev pg w W n sc δ (.Name y py) (.raw (.ref a)))
    (hline : (apos.endLine == cpos.line) = true := by rfl) (hbase : ∀ env, attributeBase (.Name y py) "values" env (eval (.Name y py) env) = eval (.Name y py) env := by intro _; rfl)
    (hst : ∀ env, starEach [.Call (.Attribute (.Name y py) "values" apos) [] [] cpos] env = [(false, eval (.Call (.Attribute (.Name y py) "values" apos) [] [] cpos) env)] := by intro _; rfl) :
    Ev pg w W n sc δ (.Call (.Name x p) [.Call (.Attribute (.Name y py) "values" apos) [] [] cpos] [] pos) (.dat (.int (maxL (m.map Prod.snd)))) := fun X A s env Q E rm hs hw t hX hQ =>
  Call_Name rfl (hf X A s env _ E rm hs hw t hX fun fv h1 tk1 k1 e1 => by
    cases e1
    refine callWith_builtin1 ?_ (by rw [hst]; rfl) rfl
    rw [hst]
    refine Calls.spliced_cons ?_
    refine wpAny_Call_method (T := "dict") (id := "dict.values") (hbase env) rfl hline PySem.F.plainAttrs_dict PySem.F.slot_dict_values PySem.F.type_dict_values ?_
    refine ho X A _ env _ E rm hs (W.mono _ _ k1 hw) (t.keeps k1) (hX.keeps k1) fun u h2 tk2 k2 r2 => ?_
    cases r2
    have k02 := k1.trans k2
    obtain ⟨kvs, hd, hm, hq⟩ := hD _ (W.mono _ _ k02 hw)
    refine ⟨hd.mapOf.typeIs, hd.mapOf.noDict, ?_⟩
    show wpAny _ _ (callWith cpos (.builtin "dict.values") [.ref a] [] []) _ E _
    refine method_meetsIn PySem.F.slot_dict_values PySem.F.entry_dict_values rfl (PyProof.Rows.evalArgs_none ⟨rfl, hd.mapOf.typeIs, PySem.F.args_dict_values_1 _, _, meets_dict_values (intKind pg w) a ha1, ⟨kvs, hd⟩, ?_⟩)
    refine Calls.spliced_nil ?_
    dsimp only
    generalize hH : h2.push { cls := .type "dict_values", data := .fields #[.ref a] } = H
    have kH : HK h2 H := hH ▸ HK.push _ _
    have hv : H.IsValuesView h2.objs.size a := ⟨_, hH ▸ Heap.get?_push_size _ rfl, rfl, rfl⟩
    obtain ⟨ep, hda⟩ := hd.dictAt
    have hda' : H.DictAt (intKind pg w) a kvs ep := hda.keep kH
    have hl : kvs.length = m.length := by rw [hm, List.length_map]
    have hpos : 0 < m.length := List.length_pos_iff.mpr hm0
    refine call_max_walk (wpAny_pyIter_values (knd := intKind pg w) hv hda' ?_)
    have hne : a ≠ H.objs.size := by obtain ⟨o, _, e, _⟩ := hda'; exact Nat.ne_of_lt (Heap.lt_size e)
    have cmp : CmpOf pg w A.in1 .Gt (fun i v => ∃ k, kvs[i]? = some (k, v)) (fun i j => decide ((m.map Prod.snd).getD j 0 < (m.map Prod.snd).getD i 0)) := fun i j vi vj s Q E hi hj hQ => by
      obtain ⟨ki, ei⟩ := hi
      obtain ⟨kj, ej⟩ := hj
      obtain ⟨ti, hti⟩ := hq _ (List.mem_of_getElem? ei)
      obtain ⟨tj, htj⟩ := hq _ (List.mem_of_getElem? ej)
      have gi : (m.map Prod.snd).getD i 0 = toV vi := by rw [hm, List.map_map, List.getD_eq_getElem?_getD, List.getElem?_map, ei]; rfl
      have gj : (m.map Prod.snd).getD j 0 = toV vj := by rw [hm, List.map_map, List.getD_eq_getElem?_getD, List.getElem?_map, ej]; rfl
      dsimp only at hti htj
      dsimp only at hQ
      rw [gi, gj] at hQ
      rw [hti, htj]
      exact PyProof.Rows.gt_int hQ
    refine ⟨_, _, _, _, _, _, _, rfl, Walks.dictValues (A := A.in1) rm.handled H.objs.size a hne kvs ep, ⟨⟨_, Heap.get?_push_size _ rfl, rfl, rfl⟩, hda'.push _⟩, ?_, by omega, cmp, ?_⟩
    · intro b hb
      simp only [List.mem_cons, List.not_mem_nil, or_false] at hb
      show b < (H.push _).objs.size
      rw [Heap.size_push]
      rcases hb with rfl | rfl
      · exact Nat.lt_succ_self _
      · exact Nat.lt_succ_of_lt hda'.lt_size
    · intro v h' tk hv hk
      obtain ⟨k, ev⟩ := hv
      obtain ⟨t, ht⟩ := hq _ (List.mem_of_getElem? ev)
      refine hQ v h' tk ((k02.trans kH).trans (hk_wr (s := ⟨H, s.gens, s.drawn, 0, s.os⟩) (fun b hb => by simpa using hb) hk)) ⟨t, ?_⟩
      dsimp only at ht
      rw [ht]
      have e1 := argMax (m.map Prod.snd) (kvs.length - 1) (by rw [List.length_map]; omega)
      rw [List.take_of_length_le (by rw [List.length_map]; omega)] at e1
      rw [← e1]
      congr 1
      rw [hm, List.map_map, List.getD_eq_getElem?_getD, List.getElem?_map]
      rw [hm, List.map_map] at ev
      rw [ev]; rfl)
end
end Mine

namespace Mine
/-- ints and texts as keys -/
abbrev Mix := Int ⊕ Str
def isMix : Mix → Value → Bool
  | .inl i, v => Value.isInt i v
  | .inr x, v => Value.isStrOf x v
theorem isMix_cases {k : Mix} {v : Value} (h : isMix k v = true) : (∃ i t, k = .inl i ∧ v = .int i t) ∨ (∃ x t, k = .inr x ∧ v = .str x t) := by
  cases k with
  | inl i => obtain ⟨t, rfl⟩ := Value.isInt_shape h; exact .inl ⟨i, t, rfl, rfl⟩
  | inr x => obtain ⟨t, rfl⟩ := Value.isStrOf_shape h; exact .inr ⟨x, t, rfl, rfl⟩
section
variable {prog : Program} {w : World} {A : Around} {E : Value → Shared → Prop} {s : Shared}
theorem eqBool_int_str {a : Int} {t : Tok} {b : Str} {u : Tok} {Q : Bool → Shared → Prop} (h : Q false s) : wpAny (model prog w) A (eqBool (.int a t) (.str b u)) Q E s := by
  unfold eqBool
  refine wpAny_holding ?_
  rw [if_neg (by intro q; have := eq_of_beq q; cases this)]
  show wpAny _ _ (richCompare .Eq (Value.int a t) (Value.str b u) >>= fun r => truthOfDropped r) _ _ _
  exact wpAny_bind (PySem.EqMixed.eq_int_str (wpAny_truthy_bool h))
theorem eqBool_str_int {a : Str} {t : Tok} {b : Int} {u : Tok} {Q : Bool → Shared → Prop} (h : Q false s) : wpAny (model prog w) A (eqBool (.str a t) (.int b u)) Q E s := by
  unfold eqBool
  refine wpAny_holding ?_
  rw [if_neg (by intro q; have := eq_of_beq q; cases this)]
  show wpAny _ _ (richCompare .Eq (Value.str a t) (Value.int b u) >>= fun r => truthOfDropped r) _ _ _
  exact wpAny_bind (PySem.EqMixed.eq_str_int (wpAny_truthy_bool h))
end
def mixKind (prog : Program) (w : World) : KeyKind prog w Mix where
  is := isMix
  hash := fun k => match k with
    | .inl i => (intKind prog w).hash i
    | .inr x => (strKind prog w).hash x
  inj := fun v a b ha hb => by
    rcases isMix_cases ha with ⟨i, t, rfl, rfl⟩ | ⟨x, t, rfl, rfl⟩ <;> rcases isMix_cases hb with ⟨j, u, rfl, e⟩ | ⟨y, u, rfl, e⟩ <;> cases e <;> rfl
  byValue := fun k v h => by rcases isMix_cases h with ⟨i, t, rfl, rfl⟩ | ⟨x, t, rfl, rfl⟩ <;> rfl
  pyHash := fun {A E s k v Q} hv h => by
    rcases isMix_cases hv with ⟨i, t, rfl, rfl⟩ | ⟨x, t, rfl, rfl⟩
    · exact (intKind prog w).pyHash (k := i) hv h
    · exact (strKind prog w).pyHash (k := x) hv h
  eqBool := fun {A E s a b u v Q} hu hv h => by
    rcases isMix_cases hu with ⟨i, t, rfl, rfl⟩ | ⟨x, t, rfl, rfl⟩ <;> rcases isMix_cases hv with ⟨j, t', rfl, rfl⟩ | ⟨y, t', rfl, rfl⟩
    · exact (intKind prog w).eqBool (a := i) (b := j) hu hv (by simpa using h)
    · exact eqBool_int_str (by simpa using h)
    · exact eqBool_str_int (by simpa using h)
    · exact (strKind prog w).eqBool (a := x) (b := y) hu hv (by simpa using h)
  «strs» := fun k x t v h => by
    rcases isMix_cases h with ⟨i, u, rfl, e⟩ | ⟨y, u, rfl, e⟩
    · cases e
    · cases e; exact (strKind prog w).«strs» x x t v h
end Mine

namespace Mine
/-- a dict's object with the entries es -/
def RawD (h : Heap) (d : Addr) (es : Array DictEntry) (ep : Nat) : Prop := ∃ o, h.get? d = some o ∧ o.cls = .type "dict" ∧ o.dict = none ∧ o.data = .dict es ep
theorem RawD.at {h h' : Heap} {d : Addr} {es : Array DictEntry} {ep : Nat} (x : RawD h d es ep) (k : ∀ o, h.get? d = some o → h'.get? d = some o) : RawD h' d es ep := let ⟨o, e, r⟩ := x; ⟨o, k o e, r⟩
theorem RawD.typeIs {s : Shared} {d : Addr} {es : Array DictEntry} {ep : Nat} (x : RawD s.heap d es ep) : s.TypeIs (.ref d) "dict" := let ⟨o, e, c, _⟩ := x; ⟨o, e, c⟩
theorem RawD.noDict {h : Heap} {d : Addr} {es : Array DictEntry} {ep : Nat} (x : RawD h d es ep) : ∀ a, Value.ref d = .ref a → ∃ ob, h.get? a = some ob ∧ ob.dict = none := fun a e => by cases e; obtain ⟨o, e, _, n, _⟩ := x; exact ⟨o, e, n⟩
section
variable {prog : Program} {w : World} {A : Around} {E : Value → Shared → Prop} {s : Shared} {env : Env}

theorem items_meets (d : Addr) (hd : (d == sysModules) = false) : MeetsIn prog w (Builtin.«dict.items» ⟨[.ref d], []⟩) (fun _ R s => (∃ es ep, RawD s.heap d es ep) ∧
    R (.ok (.ret (.ref s.heap.objs.size))) { s with heap := s.heap.push { cls := .type "dict_items", data := .fields #[.ref d] } }) :=
  .of_wp fun A R s ⟨⟨es, ep, hm⟩, h⟩ => by
    unfold Builtin.«dict.items»
    refine wpAny_bind ?_
    unfold Builtin.Dict.noArgs
    refine wpAny_bind (wpAny_notOrdered_dict hm.typeIs ?_)
    show wpAny _ _ (pure d) _ _ s
    refine wpAny_pure ?_
    show wpAny _ _ (Builtin.Dict.showsAll d >>= _) _ _ s
    unfold Builtin.Dict.showsAll
    rw [if_neg (by rw [hd]; exact Bool.false_ne_true)]
    exact wpAny_bind (wpAny_pure (wpAny_bind (wpAny_newObj_type (wpAny_pure ⟨_, rfl, h⟩))))
theorem values_meets (d : Addr) (hd : (d == sysModules) = false) : MeetsIn prog w (Builtin.«dict.values» ⟨[.ref d], []⟩) (fun _ R s => (∃ es ep, RawD s.heap d es ep) ∧
    R (.ok (.ret (.ref s.heap.objs.size))) { s with heap := s.heap.push { cls := .type "dict_values", data := .fields #[.ref d] } }) :=
  .of_wp fun A R s ⟨⟨es, ep, hm⟩, h⟩ => by
    refine wpAny_bind ?_
    unfold Builtin.Dict.noArgs
    refine wpAny_bind (wpAny_notOrdered_dict hm.typeIs ?_)
    show wpAny _ _ (pure d) _ _ s
    refine wpAny_pure ?_
    show wpAny _ _ (Builtin.Dict.showsAll d >>= _) _ _ s
    unfold Builtin.Dict.showsAll
    rw [if_neg (by rw [hd]; exact Bool.false_ne_true)]
    exact wpAny_bind (wpAny_pure (wpAny_bind (wpAny_newObj_type (wpAny_pure ⟨_, rfl, h⟩))))

theorem items_iter {v d : Addr} {es : Array DictEntry} {ep : Nat} {Q : Value → Shared → Prop} (hv : s.heap.IsItemsView v d) (hm : RawD s.heap d es ep)
    (hQ : Q (.ref s.heap.objs.size) { s with heap := s.heap.push { cls := .type "dict_itemiterator", data := .fields #[.none, .bool false, .ref d, .int 0 0, .int es.size 0, .int ep 0, .none, .none] } }) :
    wpAny (model prog w) A (pyIter (.ref v)) Q E s := by
  obtain ⟨ov, hov, hcv, hdv⟩ := id hv
  obtain ⟨o, ho, _, _, hdat⟩ := hm
  refine wpAny_pyIter_slot hv.typeIs PySem.F.slot_dict_items_iter (wpAny_call_entry PySem.F.slot_dict_items_iter hv.typeIs PySem.F.entry_dict_items_iter ?_ (PySem.F.args_dict_items_iter_1 _))
  unfold Builtin.«dict_items.__iter__»
  refine wpAny_bind (wpAny_pure ?_)
  refine wpAny_bind ?_
  unfold Builtin.Dict_items.dictOf
  refine wpAny_bind (wpAny_field hov hdv (x := .ref d) rfl (wpAny_pure ?_))
  refine wpAny_bind ?_
  unfold Builtin.Dict_items.newIterator
  refine wpAny_bind (wpAny_dictEntries ho hdat (wpAny_bind (wpAny_dictEpoch ho hdat ?_)))
  have hown : Builtin.Dict_items.ownsTuple "dict_itemiterator" = true := by decide
  simp only [hown, if_true]
  refine wpAny_newObj_type (wpAny_pure ⟨_, rfl, "dict_itemiterator", _, ⟨_, Heap.get?_push_size _ rfl, rfl⟩, PySem.F.slot_dict_itemiterator_next.lookup, ?_⟩)
    (by simp only [sizeOk, Builtin.Dict_items.ownedTupleFields, List.size_toArray, List.length_append, List.length_cons, List.length_nil, sizeLine_eq]; omega)
  simpa [rawInt, Builtin.Dict_items.ownedTupleFields] using hQ
theorem values_iter {v d : Addr} {es : Array DictEntry} {ep : Nat} {Q : Value → Shared → Prop} (hv : s.heap.IsValuesView v d) (hm : RawD s.heap d es ep)
    (hQ : Q (.ref s.heap.objs.size) { s with heap := s.heap.push { cls := .type "dict_valueiterator", data := .fields #[.ref d, .int 0 0, .int es.size 0, .int ep 0] } }) :
    wpAny (model prog w) A (pyIter (.ref v)) Q E s := by
  obtain ⟨ov, hov, hcv, hdv⟩ := id hv
  obtain ⟨o, ho, _, _, hdat⟩ := hm
  refine wpAny_pyIter_slot hv.typeIs PySem.F.slot_dict_values_iter (wpAny_call_entry PySem.F.slot_dict_values_iter hv.typeIs PySem.F.entry_dict_values_iter ?_ (PySem.F.args_dict_values_iter_1 _))
  unfold Builtin.«dict_values.__iter__»
  refine wpAny_bind (wpAny_pure ?_)
  refine wpAny_bind ?_
  unfold Builtin.Dict_items.dictOf
  refine wpAny_bind (wpAny_field hov hdv (x := .ref d) rfl (wpAny_pure ?_))
  refine wpAny_bind ?_
  unfold Builtin.Dict_items.newIterator
  refine wpAny_bind (wpAny_dictEntries ho hdat (wpAny_bind (wpAny_dictEpoch ho hdat ?_)))
  have hown : Builtin.Dict_items.ownsTuple "dict_valueiterator" = false := by decide
  simp only [hown, Bool.false_eq_true, if_false]
  refine wpAny_newObj_type (wpAny_pure ⟨_, rfl, "dict_valueiterator", _, ⟨_, Heap.get?_push_size _ rfl, rfl⟩, PySem.F.slot_dict_valueiterator_next.lookup, ?_⟩)
  simpa [rawInt] using hQ

theorem items_next {it d : Addr} {i ep : Nat} {es : Array DictEntry} {e : DictEntry} {ok ov : Value} {Q : Option Value → Shared → Prop} (hit : IsItemIter s.heap it d i es.size ep ok ov)
    (hm : RawD s.heap d es ep) (hx : es[i]? = some e)
    (hQ : ∀ h', IsItemIterOut h' it d (i + 1) es.size ep e.key e.val s.heap.objs.size → h'.get? s.heap.objs.size = some (tupO #[e.key, e.val] 0) → h'.objs.size = s.heap.objs.size + 1 →
      (∀ b o, b ≠ it → s.heap.get? b = some o → h'.get? b = some o) → Q (some (.ref s.heap.objs.size)) { s with heap := h' }) :
    wpAny (model prog w) A (pyNext (.ref it)) Q E s := by
  obtain ⟨hp, g, dr, tk, os⟩ := s
  obtain ⟨od, hod, _, _, hdd⟩ := id hm
  obtain ⟨hlt, he⟩ := Array.getElem?_eq_some_iff.mp hx
  have hT : Shared.TypeIs ⟨hp, g, dr, tk, os⟩ (.ref it) "dict_itemiterator" := ⟨_, hit, rfl⟩
  have hil : it < hp.objs.size := Heap.lt_size hit
  have hown : Builtin.Dict_items.ownsTuple "dict_itemiterator" = true := by decide
  unfold pyNext
  refine wpAny_bind (wpAny_attempt (wpAny_callSpecial?_slot (name := Str.ofString "__next__") hT PySem.F.slot_dict_itemiterator_next
    (wpAny_call_entry PySem.F.slot_dict_itemiterator_next hT PySem.F.entry_dict_itemiterator_next ?_ (PySem.F.args_dict_itemiterator_next_1 _))))
  refine wpAny_bind (wpAny_pure (wpAny_bind (wpAny_bind ?_)))
  first | refine wpAny_bind (wpAny_typeNameOfWhole_itemiter hT (wpAny_pure ?_)) | refine wpAny_bind (wpAny_typeNameOf_itemiter hT (wpAny_pure ?_))
  refine wpAny_bind (wpAny_fieldsOf hit rfl ?_)
  simp only [hown, if_true]
  show wpAny _ _ (if (Value.ref d == Value.none) = true then _ else _) _ _ _
  rw [if_neg (show ¬ ((Value.ref d == Value.none) = true) from Bool.false_ne_true)]
  refine wpAny_bind (wpAny_pure (wpAny_bind (wpAny_dictEntries hod hdd ?_)))
  rw [if_neg (by simp)]
  refine wpAny_bind (wpAny_pure (wpAny_bind (wpAny_dictEpoch hod hdd ?_)))
  rw [if_neg (by simp)]
  refine wpAny_pure ?_
  simp only [show ¬ ((i : Int) < 0) from by omega, if_false, Int.toNat_natCast, hx]
  refine wpAny_bind ?_
  first | refine wpAny_bind (wpAny_typeNameOfWhole_itemiter hT (wpAny_pure ?_)) | refine wpAny_bind (wpAny_typeNameOf_itemiter hT (wpAny_pure ?_))
  refine wpAny_bind (wpAny_isOneOf_itemiter hT ?_)
  show wpAny _ _ (setField (.ref it) 3 (rawInt ((i : Int) + 1)) >>= _) _ _ ⟨hp, g, dr, tk, os⟩
  refine wpAny_bind (wpAny_setField_rec hit (by simp) fun h₁ he₁ hs₁ => ?_)
  replace hs₁ : Heap.SameBut it hp h₁ := hs₁
  replace he₁ : IsItemIter h₁ it d (i + 1) es.size ep ok ov := by
    have e : ((i + 1 : Nat) : Int) = (i : Int) + 1 := by omega
    unfold IsItemIter; rw [e]; simpa [rawInt] using he₁
  have hT₁ : Shared.TypeIs ⟨h₁, g, dr, tk, os⟩ (.ref it) "dict_itemiterator" := ⟨_, he₁, rfl⟩
  refine wpAny_bind (wpAny_holding (wpAny_bind (wpAny_isOneOf_itemiter hT₁ (wpAny_bind (wpAny_isOneOf_itemiter hT₁ ?_)))))
  show wpAny _ _ (Builtin.Dict_items.pairFromOwner (.ref it) 6 e.key e.val) _ _ ⟨h₁, g, dr, tk, os⟩
  unfold Builtin.Dict_items.pairFromOwner
  refine wpAny_bind (wpAny_newTuple ?_)
  have hz₁ : h₁.objs.size = hp.objs.size := hs₁.1
  generalize hh₂ : h₁.push { cls := .type "tuple", data := .seq [e.key, e.val].toArray } = h₂
  have he₂ : IsItemIter h₂ it d (i + 1) es.size ep ok ov := hh₂ ▸ Heap.get?_push_of_some _ he₁
  have ht₂ : h₂.get? hp.objs.size = some (tupO #[e.key, e.val] 0) := by rw [← hh₂, ← hz₁]; exact Heap.get?_push_size _ rfl
  have hz₂ : h₂.objs.size = hp.objs.size + 1 := by rw [← hh₂, Heap.size_push, hz₁]
  have hk₂ : ∀ b o, b ≠ it → hp.get? b = some o → h₂.get? b = some o := fun b o hb q => by rw [← hh₂]; exact Heap.get?_push_of_some _ (hs₁.extBut b o hb q)
  show wpAny _ _ (Builtin.Dict_items.ownedTupleIsFree (.ref it) >>= _) _ _ ⟨h₂, g, dr, tk, os⟩
  rw [hz₁]
  unfold Builtin.Dict_items.ownedTupleIsFree
  refine wpAny_bind (wpAny_bind (wpAny_field he₂ rfl (x := .none) rfl (wpAny_pure ?_)))
  simp only [if_true]
  refine wpAny_bind (wpAny_field he₂ rfl (x := ok) rfl (wpAny_bind (wpAny_field he₂ rfl (x := ov) rfl ?_)))
  refine wpAny_bind (wpAny_setField_rec he₂ (by simp) fun h₃ he₃ hs₃ => ?_)
  replace hs₃ : Heap.SameBut it h₂ h₃ := hs₃
  replace he₃ : IsItemIter h₃ it d (i + 1) es.size ep e.key ov := he₃
  refine wpAny_bind (wpAny_setField_rec he₃ (by simp) fun h₄ he₄ hs₄ => ?_)
  replace hs₄ : Heap.SameBut it h₃ h₄ := hs₄
  replace he₄ : IsItemIter h₄ it d (i + 1) es.size ep e.key e.val := he₄
  refine wpAny_bind (wpAny_setField_rec he₄ (by simp) fun h₅ he₅ hs₅ => ?_)
  replace hs₅ : Heap.SameBut it h₄ h₅ := hs₅
  replace he₅ : IsItemIterOut h₅ it d (i + 1) es.size ep e.key e.val hp.objs.size := he₅
  refine wpAny_bind (wpAny_setField_rec he₅ (by simp) fun h₆ he₆ hs₆ => ?_)
  replace hs₆ : Heap.SameBut it h₅ h₆ := hs₆
  replace he₆ : IsItemIterOut h₆ it d (i + 1) es.size ep e.key e.val hp.objs.size := he₆
  have k26 : ∀ b o, b ≠ it → h₂.get? b = some o → h₆.get? b = some o := fun b o hb q => hs₆.extBut b o hb (hs₅.extBut b o hb (hs₄.extBut b o hb (hs₃.extBut b o hb q)))
  exact wpAny_bind (wpAny_letGo (wpAny_pure (wpAny_pure ⟨_, rfl, wpAny_pure (hQ h₆ he₆ (k26 _ _ (Nat.ne_of_gt hil) ht₂) (by show h₆.objs.size = _; rw [hs₆.1, hs₅.1, hs₄.1, hs₃.1, hz₂]) fun b o hb q => k26 b o hb (hk₂ b o hb q))⟩)))
theorem items_done {it d : Addr} {ep : Nat} {es : Array DictEntry} {ok ov : Value} {Q : Option Value → Shared → Prop} (hh : A.handled = none) (hit : IsItemIter s.heap it d es.size es.size ep ok ov)
    (hm : RawD s.heap d es ep) (hQ : ∀ h', Heap.ExtBut it s.heap h' → Q none { s with heap := h' }) : wpAny (model prog w) A (pyNext (.ref it)) Q E s := by
  obtain ⟨od, hod, _, _, hdd⟩ := id hm
  have hT : s.TypeIs (.ref it) "dict_itemiterator" := ⟨_, hit, rfl⟩
  have hown : Builtin.Dict_items.ownsTuple "dict_itemiterator" = true := by decide
  unfold pyNext
  refine wpAny_bind (wpAny_attempt (wpAny_callSpecial?_slot (name := Str.ofString "__next__") hT PySem.F.slot_dict_itemiterator_next
    (wpAny_call_entry PySem.F.slot_dict_itemiterator_next hT PySem.F.entry_dict_itemiterator_next ?_ (PySem.F.args_dict_itemiterator_next_1 _))))
  refine wpAny_bind (wpAny_pure (wpAny_bind (wpAny_bind ?_)))
  first | refine wpAny_bind (wpAny_typeNameOfWhole_itemiter hT (wpAny_pure ?_)) | refine wpAny_bind (wpAny_typeNameOf_itemiter hT (wpAny_pure ?_))
  refine wpAny_bind (wpAny_fieldsOf hit rfl ?_)
  simp only [hown, if_true]
  show wpAny _ _ (if (Value.ref d == Value.none) = true then _ else _) _ _ s
  rw [if_neg (show ¬ ((Value.ref d == Value.none) = true) from Bool.false_ne_true)]
  refine wpAny_bind (wpAny_pure (wpAny_bind (wpAny_dictEntries hod hdd ?_)))
  rw [if_neg (by simp)]
  refine wpAny_bind (wpAny_pure (wpAny_bind (wpAny_dictEpoch hod hdd ?_)))
  rw [if_neg (by simp)]
  refine wpAny_pure ?_
  simp only [show ¬ ((es.size : Int) < 0) from by omega, if_false, Int.toNat_natCast, Array.getElem?_eq_none (Nat.le_refl es.size)]
  refine wpAny_bind ?_
  first | refine wpAny_bind (wpAny_typeNameOfWhole_itemiter hT (wpAny_pure ?_)) | refine wpAny_bind (wpAny_typeNameOf_itemiter hT (wpAny_pure ?_))
  show wpAny _ _ (setField (.ref it) 2 .none >>= _) _ _ s
  refine wpAny_bind (wpAny_setField hit rfl (by simp) ?_)
  show wpAny _ _ (newExc (.type "StopIteration") [] >>= _) _ _ _
  refine wpAny_bind ?_
  simp only [newExc, newTuple]
  refine wpAny_bind (wpAny_newObj_type ?_ (by size_fits))
  refine wpAny_bind (m := firstArgMember _ _) (wpAny_of_eq (a := Value.none) (by first | rfl | (simp only [firstArgMember]; rfl)) ?_)
  refine wpAny_newObj_type ?_ (by size_fits)
  simp only [raiseNew]
  refine wpAny_bind (wpAny_handled ?_)
  rw [show A.in1.handled = none from hh]
  refine wpAny_bind (wpAny_pure (wpAny_throw ?_))
  refine wpAny_bind (wpAny_isInstance (T := "StopIteration") (b := true) ⟨_, Heap.get?_push_size _ rfl, rfl⟩ isSubtype_stop ?_)
  exact wpAny_pure (hQ _ (((Heap.SameBut.update ..).extBut.push _).push _))
theorem values_next {it d : Addr} {i ep : Nat} {es : Array DictEntry} {e : DictEntry} {Q : Option Value → Shared → Prop} (hit : s.heap.IsValIter it d i es.size ep)
    (hm : RawD s.heap d es ep) (hx : es[i]? = some e) (hQ : ∀ h', h'.IsValIter it d (i + 1) es.size ep → Heap.SameBut it s.heap h' → Q (some e.val) { s with heap := h' }) :
    wpAny (model prog w) A (pyNext (.ref it)) Q E s := by
  obtain ⟨o, ho, hc, hd⟩ := id hit
  obtain ⟨od, hod, _, _, hdd⟩ := id hm
  have hown : Builtin.Dict_items.ownsTuple "dict_valueiterator" = false := by decide
  unfold pyNext
  refine wpAny_bind (wpAny_attempt (wpAny_callSpecial?_slot (name := Str.ofString "__next__") hit.typeIs PySem.F.slot_dict_valueiterator_next
    (wpAny_call_entry PySem.F.slot_dict_valueiterator_next hit.typeIs PySem.F.entry_dict_valueiterator_next ?_ (PySem.F.args_dict_valueiterator_next_1 _))))
  refine wpAny_bind (wpAny_pure (wpAny_bind (wpAny_bind ?_)))
  first | refine wpAny_bind (wpAny_typeNameOfWhole_valiter hit.typeIs (wpAny_pure ?_)) | refine wpAny_bind (wpAny_typeNameOf_valiter hit.typeIs (wpAny_pure ?_))
  refine wpAny_bind (wpAny_fieldsOf ho hd ?_)
  simp only [hown, Bool.false_eq_true, if_false]
  show wpAny _ _ (if (Value.ref d == Value.none) = true then _ else _) _ _ s
  rw [if_neg (show ¬ ((Value.ref d == Value.none) = true) from Bool.false_ne_true)]
  refine wpAny_bind (wpAny_pure (wpAny_bind (wpAny_dictEntries hod hdd ?_)))
  rw [if_neg (by simp)]
  refine wpAny_bind (wpAny_pure (wpAny_bind (wpAny_dictEpoch hod hdd ?_)))
  rw [if_neg (by simp)]
  refine wpAny_pure ?_
  simp only [show ¬ ((i : Int) < 0) from by omega, if_false, Int.toNat_natCast, hx]
  refine wpAny_bind ?_
  first | refine wpAny_bind (wpAny_typeNameOfWhole_valiter hit.typeIs (wpAny_pure ?_)) | refine wpAny_bind (wpAny_typeNameOf_valiter hit.typeIs (wpAny_pure ?_))
  refine wpAny_bind (wpAny_isOneOf_valiter hit.typeIs ?_)
  show wpAny _ _ (setField (.ref it) 1 (rawInt ((i : Int) + 1)) >>= _) _ _ s
  refine wpAny_bind (wpAny_setField ho hd (by simp) ?_)
  have hit' : (s.heap.update it (Obj.mapFields (·.setIfInBounds 1 (rawInt ((i : Int) + 1))))).IsValIter it d (i + 1) es.size ep :=
    ⟨_, Heap.get?_update_self _ ho (Obj.isFreed_of_fields (Obj.data_mapFields hd _)), (Obj.cls_mapFields ..).trans hc, by rw [Obj.data_mapFields hd]; simp [rawInt]⟩
  refine wpAny_bind (wpAny_holding (wpAny_bind ?_))
  refine wpAny_isOneOf_valiter (s := { s with heap := s.heap.update it (Obj.mapFields (·.setIfInBounds 1 (rawInt ((i : Int) + 1)))) }) hit'.typeIs ?_
  refine wpAny_bind (wpAny_isOneOf_valiter (s := { s with heap := s.heap.update it (Obj.mapFields (·.setIfInBounds 1 (rawInt ((i : Int) + 1)))) }) hit'.typeIs ?_)
  show wpAny _ _ (pure e.val) _ _ _
  exact wpAny_pure (wpAny_pure ⟨_, rfl, wpAny_pure (hQ _ hit' (Heap.SameBut.update ..))⟩)
theorem values_done {it d : Addr} {ep : Nat} {es : Array DictEntry} {Q : Option Value → Shared → Prop} (hh : A.handled = none) (hit : s.heap.IsValIter it d es.size es.size ep)
    (hm : RawD s.heap d es ep) (hQ : ∀ h', Heap.ExtBut it s.heap h' → Q none { s with heap := h' }) : wpAny (model prog w) A (pyNext (.ref it)) Q E s := by
  obtain ⟨o, ho, hc, hd⟩ := id hit
  obtain ⟨od, hod, _, _, hdd⟩ := id hm
  have hown : Builtin.Dict_items.ownsTuple "dict_valueiterator" = false := by decide
  unfold pyNext
  refine wpAny_bind (wpAny_attempt (wpAny_callSpecial?_slot (name := Str.ofString "__next__") hit.typeIs PySem.F.slot_dict_valueiterator_next
    (wpAny_call_entry PySem.F.slot_dict_valueiterator_next hit.typeIs PySem.F.entry_dict_valueiterator_next ?_ (PySem.F.args_dict_valueiterator_next_1 _))))
  refine wpAny_bind (wpAny_pure (wpAny_bind (wpAny_bind ?_)))
  first | refine wpAny_bind (wpAny_typeNameOfWhole_valiter hit.typeIs (wpAny_pure ?_)) | refine wpAny_bind (wpAny_typeNameOf_valiter hit.typeIs (wpAny_pure ?_))
  refine wpAny_bind (wpAny_fieldsOf ho hd ?_)
  simp only [hown, Bool.false_eq_true, if_false]
  show wpAny _ _ (if (Value.ref d == Value.none) = true then _ else _) _ _ s
  rw [if_neg (show ¬ ((Value.ref d == Value.none) = true) from Bool.false_ne_true)]
  refine wpAny_bind (wpAny_pure (wpAny_bind (wpAny_dictEntries hod hdd ?_)))
  rw [if_neg (by simp)]
  refine wpAny_bind (wpAny_pure (wpAny_bind (wpAny_dictEpoch hod hdd ?_)))
  rw [if_neg (by simp)]
  refine wpAny_pure ?_
  simp only [show ¬ ((es.size : Int) < 0) from by omega, if_false, Int.toNat_natCast, Array.getElem?_eq_none (Nat.le_refl es.size)]
  refine wpAny_bind ?_
  first | refine wpAny_bind (wpAny_typeNameOfWhole_valiter hit.typeIs (wpAny_pure ?_)) | refine wpAny_bind (wpAny_typeNameOf_valiter hit.typeIs (wpAny_pure ?_))
  show wpAny _ _ (setField (.ref it) 0 .none >>= _) _ _ s
  refine wpAny_bind (wpAny_setField ho hd (by simp) ?_)
  show wpAny _ _ (newExc (.type "StopIteration") [] >>= _) _ _ _
  refine wpAny_bind ?_
  simp only [newExc, newTuple]
  refine wpAny_bind (wpAny_newObj_type ?_ (by size_fits))
  refine wpAny_bind (m := firstArgMember _ _) (wpAny_of_eq (a := Value.none) (by first | rfl | (simp only [firstArgMember]; rfl)) ?_)
  refine wpAny_newObj_type ?_ (by size_fits)
  simp only [raiseNew]
  refine wpAny_bind (wpAny_handled ?_)
  rw [show A.in1.handled = none from hh]
  refine wpAny_bind (wpAny_pure (wpAny_throw ?_))
  refine wpAny_bind (wpAny_isInstance (T := "StopIteration") (b := true) ⟨_, Heap.get?_push_size _ rfl, rfl⟩ isSubtype_stop ?_)
  exact wpAny_pure (hQ _ (((Heap.SameBut.update ..).extBut.push _).push _))
end
end Mine

namespace Mine
section
variable {prog : Program} {w : World} {A : Around}
theorem Src.nameG {I : Addr} {x : Str} {p : Pos} {T : PyData → TEnv → TEnv} {own : List Str} {sc : Scope} {X : Addr → Prop} {ds : List PyData} {hI : Heap} {fp wr : List Addr} {P : Nat → Value → Prop} {St : Nat → Heap → Prop}
    (W : Walks prog w A I fp wr ds.length P St) (hX : ∀ b ∈ wr, X b) (ha : ∀ i h, St i h → ∀ b ∈ wr, IterAt h b) (hP : ∀ i d v, ds[i]? = some d → P i v → ∀ δ, T d δ = δ.put x (.raw v)) (ho : okOwn sc own x = true) :
    Src prog w A (.ref I) (.Name x p) T own sc X ds hI fp wr St where
  sub := W.sub
  inX := hX
  frame := W.frame
  alive := ha
  self := W.self
  done := fun s Q E st hQ => W.done s Q E st fun h' tk k => hQ h' tk (ko_of k)
  step := fun i d s env δ Qn B E hd st hs t hfp hk hxi hQ => by
    have hi : i < ds.length := (List.getElem?_eq_some_iff.mp hd).1
    subst hs
    refine W.item i s _ E hi st fun v h₁ tk₁ hv st₁ k₁ => ?_
    have ko₁ : KO (· ∈ wr) s.heap h₁ := ko_of k₁
    have t₁ : TS X h₁ env δ := t.iter ko₁ hX (ha i _ st)
    have e := hP i d v hd hv δ
    show wpAny (model prog w) A (letOwnedTupleGo (.Name x p) (.ref I) v) _ E _
    refine wpAny_pure (wpAny_assign_Name (ts_store (r := .raw v) t₁ (okOwn.tgt ho) rfl fun h₂ tk₂ t₂ k₂ _ => ?_))
    refine hQ h₂ tk₂ (W.frame _ _ _ st₁ fun b hb o e => k₂ b o (fun q => hfp b hb (okOwn.slot ho q)) e) (e ▸ t₂) fun b o n e => k₂ b o (fun q => n (.inr (okOwn.slot ho q))) (ko₁ b o (fun q => n (.inl q)) e)

theorem Src.pairG {I : Addr} {x y : Str} {p q pos : Pos} {k0 : Nat} {T : PyData → TEnv → TEnv} {own : List Str} {sc : Scope} {X : Addr → Prop} {ds : List PyData} {hI : Heap} {fp wr : List Addr} {Pt : Nat → Array Value → Prop} {St : Nat → Heap → Prop} {Mid : Nat → Addr → Heap → Prop}
    (hh : A.handled = none) (W : WalksU prog w A I fp wr ds.length Pt St Mid) (hX : ∀ b ∈ wr, X b) (ha : ∀ i h, St i h → ∀ b ∈ wr, IterAt h b) (hm : ∀ i T h, Mid i T h → ∀ b ∈ wr, IterAt h b)
    (hP : ∀ i d vs, ds[i]? = some d → Pt i vs → ∃ u v, vs = #[u, v] ∧ ∀ δ, T d δ = (δ.put x (.raw u)).put y (.raw v)) (hox : okOwn sc own x = true) (hoy : okOwn sc own y = true) :
    Src prog w A (.ref I) (.Tuple [.Name x p, .Name y q] k0 pos) T own sc X ds hI fp wr St where
  sub := W.sub
  inX := hX
  frame := W.frame
  alive := ha
  self := W.self
  done := fun s Q E st hQ => W.done s Q E st fun h' tk k => hQ h' tk (ko_of k)
  step := fun i d s env δ Qn B E hd st hs t hfp hk hxi hQ => by
    have hi : i < ds.length := (List.getElem?_eq_some_iff.mp hd).1
    subst hs
    refine W.item i s _ E hi st fun T' vs h₁ tk₁ hv hT mid k₁ => ?_
    have ko₁ : KO (· ∈ wr) s.heap h₁ := ko_of k₁
    have t₁ : TS X h₁ env δ := t.iter ko₁ hX (ha i _ st)
    obtain ⟨u, v, rfl, e⟩ := hP i d vs hd hv
    have hTw : T' ∉ wr := W.apart i T' h₁ mid
    refine W.go _ _ _ i T' _ _ E mid fun h₂ st₂ k₂ => ?_
    have ko₂ : KO (· ∈ wr) h₁ h₂ := ko_of k₂
    have t₂ : TS X h₂ env δ := t₁.iter ko₂ hX (hm i T' _ mid)
    have hT₂ : h₂.IsTuple T' #[u, v] := hT.at fun o e => k₂ T' o hTw e
    refine wpAny_assign_Tuple (items := #[u, v]) hh hT₂ rfl (by rfl) fun h₃ k₃ => ?_
    have hk₃ : HK h₂ h₃ := fun c o e => k₃ c o (fun q => by subst q; rw [show h₂.get? h₂.objs.size = none from get_size h₂] at e; cases e) e
    have t₃ := t₂.keeps hk₃
    show wpAny (model prog w) A (assignInOrder [assign (.Name x p) env, assign (.Name y q) env] [u, v]) _ E _
    unfold assignInOrder
    refine wpAny_bind (wpAny_holding (wpAny_assign_Name (ts_store (r := .raw u) t₃ (okOwn.tgt hox) rfl fun h₄ tk₄ t₄ k₄ ks₄ => ?_)))
    unfold assignInOrder
    refine wpAny_bind (wpAny_holding (wpAny_assign_Name (ts_store (r := .raw v) t₄ (okOwn.tgt hoy) rfl fun h₅ tk₅ t₅ k₅ ks₅ => wpAny_pure ?_)))
    refine hQ h₅ tk₅ (W.frame _ _ _ st₂ fun c hc o e => k₅ c o (fun z => hfp c hc (okOwn.slot hoy z)) (k₄ c o (fun z => hfp c hc (okOwn.slot hox z)) (hk₃ c o e))) (e δ ▸ t₅) fun c o n e =>
      k₅ c o (fun z => n (.inr (okOwn.slot hoy z))) (k₄ c o (fun z => n (.inr (okOwn.slot hox z))) (hk₃ c o (ko₂ c o (fun z => n (.inl z)) (ko₁ c o (fun z => n (.inl z)) e))))

theorem itemsWalk (hh : A.handled = none) (I d : Addr) (hne : d ≠ I) (es : Array DictEntry) (ep : Nat) :
    WalksU prog w A I [I, d] [I] es.size (fun i vs => ∃ e, es[i]? = some e ∧ vs = #[e.key, e.val]) (fun i h => (∃ ok ov, IsItemIter h I d i es.size ep ok ov) ∧ RawD h d es ep)
      (fun i T h => (∃ ok ov, IsItemIterOut h I d (i + 1) es.size ep ok ov T) ∧ RawD h d es ep ∧ T ≠ I) where
  sub := fun b hb => by simp at hb; simp [hb]
  frame := fun _ _ _ st hk => ⟨let ⟨ok, ov, e⟩ := st.1; ⟨ok, ov, hk I (by simp) _ e⟩, st.2.at fun o e => hk d (by simp) o e⟩
  item := fun i s Q E hi st hQ => by
    obtain ⟨⟨ok, ov, hit⟩, hm⟩ := st
    have hx : es[i]? = some es[i] := Array.getElem?_eq_getElem hi
    refine items_next hit hm hx fun h' ho ht hz hk => ?_
    have hil : I < s.heap.objs.size := Heap.lt_size hit
    exact hQ s.heap.objs.size #[es[i].key, es[i].val] h' s.toks ⟨_, hx, rfl⟩ ⟨_, ht, rfl, 0, rfl⟩ ⟨⟨_, _, ho⟩, hm.at fun o e => hk d o hne e, Nat.ne_of_gt hil⟩ fun b o hb e => hk b o (fun q => hb (by simp [q])) e
  go := fun elts k pos i T s Q E hm hQ => by
    obtain ⟨⟨ok, ov, ho⟩, hd, hT⟩ := hm
    refine wpAny_letOwnedTupleGo_items ho fun h' he' hs' => ?_
    exact hQ h' ⟨⟨_, _, he'⟩, hd.at fun o e => hs'.extBut d o hne e⟩ fun b o hb e => hs'.extBut b o (fun q => hb (by simp [q])) e
  apart := fun i T h hm hb => by
    simp only [List.mem_cons, List.not_mem_nil, or_false] at hb
    exact hm.2.2 hb
  done := fun s Q E st hQ => by
    obtain ⟨⟨ok, ov, hit⟩, hm⟩ := st
    exact items_done hh hit hm fun h' he' => hQ h' s.toks fun b o hb e => he' b o (fun q => hb (by simp [q])) e
  self := fun i s Q E st hQ => by
    obtain ⟨⟨ok, ov, hit⟩, hm⟩ := st
    exact kcp_self hit hQ
theorem valuesWalk (hh : A.handled = none) (I d : Addr) (hne : d ≠ I) (es : Array DictEntry) (ep : Nat) :
    Walks prog w A I [I, d] [I] es.size (fun i v => ∃ e, es[i]? = some e ∧ v = e.val) (fun i h => h.IsValIter I d i es.size ep ∧ RawD h d es ep) where
  sub := fun b hb => by simp at hb; simp [hb]
  frame := fun _ _ _ st hk => ⟨let ⟨o, e, r⟩ := st.1; ⟨o, hk I (by simp) o e, r⟩, st.2.at fun o e => hk d (by simp) o e⟩
  item := fun i s Q E hi st hQ => by
    have hx : es[i]? = some es[i] := Array.getElem?_eq_getElem hi
    refine values_next st.1 st.2 hx fun h' hit' hs' => ?_
    exact hQ _ h' s.toks ⟨_, hx, rfl⟩ ⟨hit', st.2.at fun o e => hs'.extBut d o hne e⟩ fun b o hb e => hs'.extBut b o (fun h => hb (by simp [h])) e
  done := fun s Q E st hQ => values_done hh st.1 st.2 fun h' he' => hQ h' s.toks fun b o hb e => he' b o (fun h => hb (by simp [h])) e
  self := fun _ _ _ _ st hQ => wpAny_pyIter_valiter st.1 hQ
end

/-- a call, up to the body -/
def EntAll (X : Addr → Prop) (h : Heap) : List Ent → List Value → Prop
  | [], [] => True
  | r :: rs, v :: vs => r.ok X h v ∧ EntAll X h rs vs
  | _, _ => False
theorem EntAll.keeps {X : Addr → Prop} {h h' : Heap} (k : HK h h') : ∀ {rs : List Ent} {vs : List Value}, EntAll X h rs vs → EntAll X h' rs vs
  | [], [], _ => trivial
  | r :: rs, v :: vs, x => ⟨Ent.keeps k x.1, EntAll.keeps k x.2⟩
theorem EntAll.length {X : Addr → Prop} {h : Heap} : ∀ {rs : List Ent} {vs : List Value}, EntAll X h rs vs → vs.length = rs.length
  | [], [], _ => rfl
  | r :: rs, v :: vs, x => by simp [EntAll.length x.2]
def bindE : List (Str × Ent) → TEnv → TEnv
  | [], δ => δ
  | (x, r) :: l, δ => bindE l (δ.put x r)
theorem bindE_rep {X : Addr → Prop} {h : Heap} {kindOf : Str → Option NameKind} : ∀ (xs : List Str) (rs : List Ent) (vs : List Value) (δ : TEnv) (m cm : Str → Option Value), EntAll X h rs vs → xs.length = rs.length →
    (∀ x r, δ x = some r → ∃ v, (if kindOf x = some .local then m x else cm x) = some v ∧ r.ok X h v) →
    ∀ x r, bindE (xs.zip rs) δ x = some r → ∃ v, (if kindOf x = some .local then bindL kindOf (xs.zip vs) m x else bindC kindOf (xs.zip vs) cm x) = some v ∧ r.ok X h v
  | [], _, _, δ, m, cm, _, _, hδ => by simpa [bindE, bindL, bindC] using hδ
  | x :: xs, d :: ds, v :: vs, δ, m, cm, hr, hl, hδ => by
    simp only [List.zip_cons_cons, bindE, bindL, bindC]
    refine bindE_rep xs ds vs _ _ _ hr.2 (by simpa using hl) fun y r e => ?_
    rcases put_some e with ⟨rfl, rfl⟩ | ⟨hy, e⟩
    · refine ⟨v, ?_, hr.1⟩
      by_cases hk : kindOf y = some .local
      · simp [hk]
      · simp [hk]
    · obtain ⟨u, p, q⟩ := hδ y r e
      refine ⟨u, ?_, q⟩
      by_cases hk : kindOf y = some .local
      · simp only [if_pos hk] at p ⊢
        by_cases hkx : kindOf x = some .local
        · simp [hkx, hy, p]
        · simp [hkx, p]
      · simp only [if_neg hk] at p ⊢
        by_cases hkx : kindOf x = some .local
        · simp [hkx, p]
        · simp [hkx, hy, p]
  | x :: xs, [], _, δ, m, cm, _, hl, _ => by simp at hl
  | x :: xs, d :: ds, [], δ, m, cm, hr, _, _ => hr.elim
theorem enter {prog : Program} {w : World} {g : Heap} {n : Nat} {K : Frag} {a : Addr} {oc : Value} {od : Option Addr} {osl : Array (Option Value)} {fd : FuncData} {body : List Stmt} {xs : List Str} {rs : List Ent} (G : Gnd K g) (hl : K.lookup a = some ⟨oc, od, .func fd, osl⟩)
    {X : Addr → Prop} {A : Around} {s : Shared} {vs : List Value} {Q : Value → Shared → Prop} {E : Value → Shared → Prop} (rm : Room (n + 1) A) (gk : HK g s.heap) (hX : XIn X s.heap) (hr : EntAll X s.heap rs vs)
    (h : ∀ (A' : Around) (env : Env) h₁ tk₁ (E' : Value → Shared → Prop), Room n A' → FR g s.heap X fd.scope env (bindE (xs.zip rs) none0) h₁ → env.code = fd.code →
      wpAny (model prog w) A' (execs body env) (fun f s' => Q (match f with | .ret v => v | _ => .none) s') E' { s with heap := h₁, toks := tk₁ })
    (hcode : codeIn K fd.code fd.qualname = true) (hbody : fd.body = .stmts body) (hclo : fd.closure = []) (hglob : fd.globals = mainGlobals) (hbi : fd.builtins = builtinsNs) (hxs : xs.length = rs.length)
    (hbind : ∀ vs : List Value, vs.length = rs.length → bindArgs fd ⟨vs, []⟩ = pure (xs.zip vs))
    (hkind : ∀ x ∈ xs, fd.scope.names.lookup x = some .local ∨ fd.scope.names.lookup x = some .cell) (hfree : ∀ x ∈ fd.scope.names, x.2 ≠ .free)
    (hnd : nodupB (fd.scope.names.map Prod.fst) = true)
    (hco : fd.scope.isCoroutine = false := by rfl) (hgen : fd.scope.isGenerator = false := by rfl) (hk : fd.scope.kind = .function := by rfl) : wpAny (model prog w) A (call (.ref a) vs) Q E s := by
  have hlen := hr.length
  have hnn := nodupB_ok hnd
  obtain ⟨i1, i2, i3, i4, _⟩ := cellsFrom_spec fd.scope.names (s.heap.push { cls := .type "frame", data := .dict #[] }) [] (fun x y c e => by cases e) (fun x c e => by cases e)
  have hsz : (s.heap.push { cls := .type "frame", data := .dict #[] }).objs.size = s.heap.objs.size + 1 := Heap.size_push ..
  rw [hsz] at i1 i2 i3 i4
  refine wpAny_call (codeAny_call_cells (fd := fd) (body := body) (binds := xs.zip vs) (by have := rm.depth; omega) (gk _ _ (G.x _ _ hl)) rfl (G.nolimit.keeps gk) ((codeRec_of G.x hcode).keeps gk) hbody (hbind vs hlen) hclo (fun x hx => ?_) (fun s₁ ic => ?_) hco hgen hk)
  · have hx' : x.1 ∈ xs := (List.of_mem_zip hx).1
    rcases hkind _ hx' with q | q
    · exact .inl q
    · obtain ⟨c, hc⟩ := i3 x.1 (mem_of_lookup q)
      exact .inr ⟨q, by rw [hc]; rfl⟩
  · generalize hce : callEnvC fd s.heap.objs.size a = ce at ic ⊢
    have hsc : ce.scope = fd.scope := by rw [← hce]; rfl
    have hcl : ce.cells = cellsFrom (s.heap.objs.size + 1) fd.scope.names [] := by rw [← hce]; rfl
    have hlo : ce.locals = s.heap.objs.size := by rw [← hce]; rfl
    obtain ⟨h₁, tk₁, rfl⟩ := ic.toInCall.same
    have k₁ : HK s.heap h₁ := ic.toInCall.keep
    have fresh : ∀ c, s.heap.objs.size ≤ c → s.heap.get? c = none := fun c hc => by
      cases e : s.heap.get? c with
      | none => rfl
      | some o => exact absurd (Heap.lt_size e) (Nat.not_lt.mpr hc)
    have fr : FR g s.heap X fd.scope ce (bindE (xs.zip rs) none0) h₁ := by
      refine ⟨hsc, gk, k₁, ?_, ?_, hX.keeps k₁⟩
      · rintro b (rfl | ⟨x, hx, _, hc⟩)
        · rw [hlo]; exact fresh _ (Nat.le_refl _)
        · rw [hcl] at hc
          rcases i2 x b hc with ⟨q, _⟩ | ⟨q, _, _⟩
          · cases q
          · exact fresh b (Nat.le_trans (Nat.le_succ _) q)
      · refine ⟨fun x => if ce.kindOf x = some .local then bindL ce.kindOf (xs.zip vs) (fun _ => none) x else bindC ce.kindOf (xs.zip vs) (fun _ => none) x, ⟨by rw [hsc]; exact hk, by rw [← hce]; exact hglob, by rw [← hce]; exact hbi, ⟨_, ic.toInCall.ns, fun x hx => by rw [if_pos hx]⟩, fun x hx => ?_, ?_⟩, ?_⟩
        · have hxk : fd.scope.names.lookup x = some .cell := by
            rw [← hsc]
            rcases hx with hx | hx
            · exact hx
            · have := hfree _ (mem_of_lookup (by rw [← hsc]; exact hx : fd.scope.names.lookup x = some .free))
              exact absurd rfl this
          obtain ⟨c, hc⟩ := i3 x (mem_of_lookup hxk)
          rw [← hcl] at hc
          refine ⟨c, hc, ?_⟩
          have hnl : ¬ ce.kindOf x = some .local := by
            have : ce.kindOf x = some .cell := by show ce.scope.names.lookup x = _; rw [hsc]; exact hxk
            rw [this]; exact fun q => by cases q
          simp only [if_neg hnl]
          exact ic.cell x c hc
        · rw [hcl]; exact i1
        · exact bindE_rep (kindOf := ce.kindOf) xs rs vs none0 (fun _ => none) (fun _ => none) (EntAll.keeps k₁ hr) hxs (fun x r e => by cases e)
    exact h (A.deeper ce) ce h₁ tk₁ _ (rm.deeper ce) fr (by rw [← hce]; rfl)
end Mine

namespace Mine
abbrev tkd (w : World) : HeapKind pg w (List Mix) := tupleKind (mixKind pg w)
abbrev Xs := List (List Mix × Addr × Value)
def keyT (k : Int) : List Mix := [.inr (Str.ofString "tied"), .inl k, .inr (Str.ofString "place")]
/-- no tuple stands there -/
def NoTup (h : Heap) (b : Addr) : Prop := ∀ o vs n, h.get? b = some o → o.cls = .type "tuple" → o.data = .seq vs n → False
theorem NoTup.iter {h : Heap} {b : Addr} (x : IterAt h b) : NoTup h b := fun o vs n e c d => by obtain ⟨o', vs', e', d'⟩ := x; rw [e] at e'; cases e'; rw [d] at d'; cases d'
theorem NoTup.none {h : Heap} {b : Addr} (x : h.get? b = none) : NoTup h b := fun o vs n e => by rw [x] at e; cases e
theorem NoTup.list {h : Heap} {b : Addr} {vs : Array Value} {n : Nat} (x : h.get? b = some (lstO vs n)) : NoTup h b := fun o vs n e c d => by
  rw [x] at e; cases e
  have c' : Value.type "list" = Value.type "tuple" := c
  injection c' with c'
  exact absurd c' (by decide)
theorem NoTup.own {g hb h : Heap} {X : Addr → Prop} {sc : Scope} {env : Env} {δ : TEnv} (f : FR g hb X sc env δ h) {b : Addr} (q : OwnF (ownC sc) env b) : NoTup h b := fun o vs n e c d => by
  obtain ⟨ρ, fs, _⟩ := f.ts
  rcases q with rfl | ⟨x, _, hk, hc⟩
  · obtain ⟨m, ⟨o', es, ep, e', d', _⟩, _⟩ := fs.loc
    rw [e] at e'; cases e'; rw [d] at d'; cases d'
  · obtain ⟨c', h1, h2⟩ := fs.cel x (.inl hk)
    rw [hc] at h1; cases h1
    obtain ⟨o', e', d'⟩ := h2
    rw [e] at e'; cases e'; rw [d] at d'; cases d'
section
variable {w : World}
theorem DictOfH.notTup {h : Heap} {d : Addr} {xs : Xs} (x : h.DictOfH (tkd w) d xs) : NoTup h d := fun o vs n e c dd => by obtain ⟨o', es, ep, e', _, d', _⟩ := x; rw [e] at e'; cases e'; rw [dd] at d'; cases d'
theorem DictOfH.ko {h h' : Heap} {d : Addr} {xs : Xs} {O : Addr → Prop} (x : h.DictOfH (tkd w) d xs) (k : KO O h h') (hd : ¬ O d) (ht : ∀ b, O b → NoTup h b) : h'.DictOfH (tkd w) d xs := by
  obtain ⟨o, es, ep, e, c, dd, he, hk, hn⟩ := x
  refine ⟨o, es, ep, k d o hd e, c, dd, he, fun y hy => ?_, hn⟩
  obtain ⟨o', items, m, e', c', d', hi⟩ := hk y hy
  exact ⟨o', items, m, k _ o' (fun q => ht _ q o' items m e' c' d') e', c', d', hi⟩
theorem DictOfH.keeps {h h' : Heap} {d : Addr} {xs : Xs} (x : h.DictOfH (tkd w) d xs) (k : HK h h') : h'.DictOfH (tkd w) d xs := DictOfH.ko x (k.ko fun _ => False) id fun _ q => q.elim
theorem IsTupleKey.ko {h h' : Heap} {ks : List Mix} {a : Addr} {O : Addr → Prop} (x : (tkd w).is h ks a) (k : KO O h h') (ht : ∀ b, O b → NoTup h b) : (tkd w).is h' ks a := by
  obtain ⟨o', items, m, e', c', d', hi⟩ := x
  exact ⟨o', items, m, k _ o' (fun q => ht _ q o' items m e' c' d') e', c', d', hi⟩
theorem DictOfH.raw {h : Heap} {d : Addr} {xs : Xs} (x : h.DictOfH (tkd w) d xs) : ∃ es ep, RawD h d es ep ∧ es.toList = xs.map (entryOfKey (tkd w)) := by
  obtain ⟨o, es, ep, e, c, dd, he, hk, hn⟩ := x
  exact ⟨es, ep, ⟨o, e, c.1, c.2.1, dd⟩, he⟩
theorem DictOfH.some {h : Heap} {d : Addr} {xs : Xs} (x : h.DictOfH (tkd w) d xs) : ∃ o, h.get? d = some o := let ⟨o, _, _, e, _⟩ := x; ⟨o, e⟩
theorem DictOfH.notIter {h : Heap} {d : Addr} {xs : Xs} (x : h.DictOfH (tkd w) d xs) : ¬ IterAt h d := fun ⟨o', vs, e', d'⟩ => by obtain ⟨o, es, ep, e, _, dd, _⟩ := x; rw [e] at e'; cases e'; rw [dd] at d'; cases d'
theorem DictOfH.notSeq {h : Heap} {d : Addr} {xs : Xs} (x : h.DictOfH (tkd w) d xs) : NotSeq h d := let ⟨_, _, _, e, _, dd, _⟩ := x; .dict e dd
/-- the dict at d holds 1 under each («tied», k, «place») -/
def DT (w : World) (h : Heap) (d : Addr) (ks : List Int) : Prop := ∃ xs : Xs, h.DictOfH (tkd w) d xs ∧ xs.map (·.1) = ks.map keyT ∧ ∀ x ∈ xs, ∃ t, x.2.2 = .int 1 t
theorem DT.ko {h h' : Heap} {d : Addr} {ks : List Int} {O : Addr → Prop} (x : DT w h d ks) (k : KO O h h') (hd : ¬ O d) (ht : ∀ b, O b → NoTup h b) : DT w h' d ks := let ⟨xs, a, b, c⟩ := x; ⟨xs, DictOfH.ko a k hd ht, b, c⟩
theorem DT.keeps {h h' : Heap} {d : Addr} {ks : List Int} (x : DT w h d ks) (k : HK h h') : DT w h' d ks := let ⟨xs, a, b, c⟩ := x; ⟨xs, DictOfH.keeps a k, b, c⟩
theorem keyT_inj {a b : Int} (h : keyT a = keyT b) : a = b := by
  unfold keyT at h
  simp only [List.cons.injEq, Sum.inl.injEq, and_true, true_and] at h
  exact h
theorem Room.in1lt {n : Nat} {A : Around} (r : Room n A) : (tkd w).room A.in1 := by
  have := r.units
  show A.units + 1 < cLine
  omega

variable {W : Wd} {n : Nat} {sc : Scope} {δ : TEnv} {A : Around} {s : Shared} {g hb : Heap} {X Z : Addr → Prop} {env : Env} {Q : Flow → Shared → Prop} {E : Value → Shared → Prop}
/-- d[k] = e, where k, a tuple, is new in d, a dict of our own -/
theorem st_setH {o i e : Expr} {spos pos : Pos} {D a : Addr} {xs : Xs} {k : List Mix} {v : Value} (rm : Room n A) (f : FR g hb X sc env δ s.heap) (hw : W.ok s.heap) (ee : Ev pg w W n sc δ e (.raw v)) (eo : Ev pg w W n sc δ o (.raw (.ref D)))
    (ei : Ev pg w W n sc δ i (.raw (.ref a))) (hd : s.heap.DictOfH (tkd w) D xs) (hkey : (tkd w).is s.heap k a) (hk : atKey xs k = none) (hba : hb.get? D = none) (hao : ¬ OwnF (ownC sc) env D) (hsz : xs.length ≤ sizeLine)
    (hQ : ∀ h' tk, FR g hb X sc env δ h' → KO (fun b => b = D) s.heap h' → h'.DictOfH (tkd w) D (xs ++ [(k, a, v)]) → Q .next { s with heap := h', toks := tk })
    (hs : swapsWithSole [.Subscript o i spos] e pos.line env = pure false := by rfl) (hw' : swappedStores [.Subscript o i spos] e env = pure none := by rfl)
    (har : ∀ v, assign (.Subscript o i spos) env v = (do
      let ov ← holding [v] (eval o env)
      let iv ← holding [v, ov] (eval i env)
      standAt spos
      holding [v, ov, iv] (setItem ov iv v)
      release [v, ov, iv] []) := by intro _; rfl) : wpAny (model pg w) A (exec (.Assign [.Subscript o i spos] e pos) env) Q E s := by
  refine wpAny_Assign_stores ?_ hs hw'
  refine ee X A s env _ E rm f.scope hw f.ts f.xin fun v' h₁ tk₁ k₁ r₁ => ?_
  cases r₁
  show wpAny _ _ (assign (.Subscript o i spos) env v) _ _ _
  rw [har]
  refine wpAny_bind (wpAny_holding (eo X A _ env _ E rm f.scope (W.mono _ _ k₁ hw) (f.ts.keeps k₁) (f.xin.keeps k₁) fun ov h₂ tk₂ k₂ r₂ => ?_))
  cases r₂
  have k12 := k₁.trans k₂
  refine wpAny_bind (wpAny_holding (ei X A _ env _ E rm f.scope (W.mono _ _ k12 hw) (f.ts.keeps k12) (f.xin.keeps k12) fun iv h₃ tk₃ k₃ r₃ => ?_))
  cases r₃
  have k13 := k12.trans k₃
  have hd3 := DictOfH.keeps hd k13
  refine wpAny_bind (wpAny_standAt (wpAny_bind (wpAny_holding (wpAny_setItem_heap (knd := tkd w) (k := k) rm.in1lt (IsTupleKey.ko hkey (k13.ko fun _ => False) fun _ q => q.elim) hd3 (fun h₄ hd₄ hs₄ => ?_) hsz))))
  refine wpAny_releaseD ?_
  rw [storedH_new hk] at hd₄
  have ko : KO (fun b => b = D) h₃ h₄ := fun b o q e => hs₄.extBut b o q e
  have f₃ := f.keeps k13
  have ns := DictOfH.notSeq hd3
  have ks : KS X h₃ h₄ := ko.ks fun b q => .inr (q ▸ ns)
  refine hQ h₄ _ ⟨f.scope, f.base, ko.hk f₃.hk fun b q => q ▸ hba, f.fresh, f₃.ts.mono (ks.two fun _ q => q) fun ρ fs => ⟨fs.kind, fs.glob, fs.bi, ?_, fun y hy => ?_, fs.inj⟩, f₃.xin.ko ko fun b q => q ▸ DictOfH.some hd₄⟩ (fun b o q e => ko b o q (k13 b o e)) hd₄
  · obtain ⟨ml, a', b⟩ := fs.loc
    exact ⟨ml, a'.at' fun o e => ko _ o (fun z => hao (.inl z.symm)) e, b⟩
  · obtain ⟨c, h1, o, e, d⟩ := fs.cel y hy
    refine ⟨c, h1, o, ko c o (fun z => ?_) e, d⟩
    obtain ⟨o2, es, ep, e2, _, d2, _⟩ := hd3
    rw [z, e2] at e; cases e; rw [d2] at d; cases d

theorem FR.aside0 {Y : Addr → Prop} {h : Heap} (f : FR g hb X sc env δ h) (hY : ∀ b, Y b → NotSeq h b ∧ ∃ o, h.get? b = some o) : FR g hb (fun a => X a ∨ Y a) sc env δ h := by
  have k2 : KS2 X (fun a => X a ∨ Y a) h h := fun b vs m hx => ⟨fun e => ⟨fun q => q.elim hx fun q => ((hY b q).1 vs m).1 e, e⟩, fun e => ⟨fun q => q.elim hx fun q => ((hY b q).1 vs m).2 e, e⟩⟩
  exact ⟨f.scope, f.base, f.hk, f.fresh, f.ts.mono k2 fun ρ fs => fs, fun a q => q.elim (f.xin a) fun q => (hY a q).2⟩
/-- what an items loop binds -/
def entT (es : Array DictEntry) (x y : Str) (d : PyData) (δ : TEnv) : TEnv := match es[(toI d).toNat]? with
  | some e => (δ.put x (.raw e.key)).put y (.raw e.val)
  | none => δ
theorem items_src {o : Expr} {x y : Str} {p q apos cpos tpos : Pos} {k0 : Nat} {d : Addr} {es : Array DictEntry} {ep : Nat} (rm : Room n A) (f : FR g hb X sc env δ s.heap) (hw : W.ok s.heap) (eo : Ev pg w W n sc δ o (.raw (.ref d))) (hd : RawD s.heap d es ep) (hds : (d == sysModules) = false)
    (hdo : ¬ OwnF (ownC sc) env d ∧ ¬ Z d) (hZ : ∀ b, Z b → X b) (hox : okOwn sc (ownC sc) x = true) (hoy : okOwn sc (ownC sc) y = true) (hbase : attributeBase o "items" env (eval o env) = eval o env := by rfl) (hline : (apos.endLine == cpos.line) = true := by rfl) :
    ∀ (Q : Value → Shared → Prop) (E : Value → Shared → Prop), (∀ it fp wr St h' tk, HK s.heap h' → St 0 h' → (∀ b ∈ fp, ¬ OwnF (ownC sc) env b ∧ ¬ Z b) → (∀ b ∈ wr, s.heap.get? b = none) → (∀ b ∈ wr, IterAt h' b) →
      (∀ X' hI, KS2 X X' h' hI → (∀ b ∈ wr, X' b) → Src pg w A it (.Tuple [.Name x p, .Name y q] k0 tpos) (entT es x y) (ownC sc) sc X' (rangeD es.size) hI fp wr St) → Q it { s with heap := h', toks := tk }) →
      wpAny (model pg w) A (eval (.Call (.Attribute o "items" apos) [] [] cpos) env) (fun x s₁ => wpAny (model pg w) A (pyIter x) Q E s₁) E s := fun Q E hQ => by
  refine wpAny_Call_method (T := "dict") (id := "dict.items") hbase rfl hline PySem.F.plainAttrs_dict PySem.F.slot_dict_items PySem.F.type_dict_items ?_
  refine eo X A s env _ E rm f.scope hw f.ts f.xin fun u h₁ tk₁ k₁ r₁ => ?_
  cases r₁
  have hd1 : RawD h₁ d es ep := hd.at fun o e => k₁ d o e
  refine ⟨hd1.typeIs (s := { s with heap := h₁, toks := tk₁ }), hd1.noDict, ?_⟩
  show wpAny _ _ (callWith cpos (.builtin "dict.items") [.ref d] [] []) _ E _
  refine method_meetsIn PySem.F.slot_dict_items PySem.F.entry_dict_items rfl (PyProof.Rows.evalArgs_none ⟨rfl, hd1.typeIs (s := { s with heap := h₁, toks := tk₁ }), PySem.F.args_dict_items_1 _, _, items_meets d hds, ⟨es, ep, hd1⟩, ?_⟩)
  dsimp only
  generalize hH : h₁.push { cls := .type "dict_items", data := .fields #[.ref d] } = H
  have kH : HK h₁ H := hH ▸ HK.push _ _
  have hv : H.IsItemsView h₁.objs.size d := ⟨_, hH ▸ Heap.get?_push_size _ rfl, rfl, rfl⟩
  have hdH : RawD H d es ep := hd1.at fun o e => kH d o e
  refine items_iter (s := { s with heap := H, toks := tk₁ }) hv hdH ?_
  dsimp only
  generalize hH2 : H.push { cls := .type "dict_itemiterator", data := .fields #[.none, .bool false, .ref d, .int 0 0, .int es.size 0, .int ep 0, .none, .none] } = H2
  have kH2 : HK H H2 := hH2 ▸ HK.push _ _
  have hit : IsItemIter H2 H.objs.size d 0 es.size ep .none .none := hH2 ▸ Heap.get?_push_size _ rfl
  have hnone : s.heap.get? H.objs.size = none := none_of (k₁.trans kH) (get_size H)
  have hne : d ≠ H.objs.size := by obtain ⟨o, e, _⟩ := hdH; exact Nat.ne_of_lt (Heap.lt_size e)
  have hlen : (rangeD es.size).length = es.size := by simp [rangeD]
  refine hQ (.ref H.objs.size) [H.objs.size, d] [H.objs.size] (fun i h => (∃ ok ov, IsItemIter h H.objs.size d i es.size ep ok ov) ∧ RawD h d es ep) H2 tk₁ ((k₁.trans kH).trans kH2) ⟨⟨_, _, hit⟩, hdH.at fun o e => kH2 d o e⟩ (fun b hb' => ?_) (fun b hb' => ?_) (fun b hb' => ?_) fun X' hI k hwr => ?_
  · simp only [List.mem_cons, List.not_mem_nil, or_false] at hb'
    rcases hb' with rfl | rfl
    · refine ⟨fun q => ?_, fun q => ?_⟩
      · obtain ⟨o, e⟩ := (f.own q).2; rw [hnone] at e; cases e
      · obtain ⟨o, e⟩ := f.xin _ (hZ _ q); rw [hnone] at e; cases e
    · exact hdo
  · simp only [List.mem_cons, List.not_mem_nil, or_false] at hb'
    subst hb'; exact hnone
  · simp only [List.mem_cons, List.not_mem_nil, or_false] at hb'
    subst hb'; exact ⟨_, _, hit, rfl⟩
  · have W0 := itemsWalk (prog := pg) (w := w) (A := A) rm.handled H.objs.size d hne es ep
    have e1 : es.size = (rangeD es.size).length := hlen.symm
    refine Src.pairG (T := entT es x y) (Pt := fun i vs => ∃ e, es[i]? = some e ∧ vs = #[e.key, e.val]) (Mid := fun i T h => (∃ ok ov, IsItemIterOut h H.objs.size d (i + 1) es.size ep ok ov T) ∧ RawD h d es ep ∧ T ≠ H.objs.size) rm.handled (by rw [hlen]; exact W0) hwr (fun i h st b hb' => ?_) (fun i T h mid b hb' => ?_) (fun i d' vs hd' hv' => ?_) hox hoy
    · simp only [List.mem_cons, List.not_mem_nil, or_false] at hb'
      obtain ⟨⟨ok, ov, z⟩, _⟩ := st
      subst hb'; exact ⟨_, _, z, rfl⟩
    · simp only [List.mem_cons, List.not_mem_nil, or_false] at hb'
      obtain ⟨⟨ok, ov, z⟩, _⟩ := mid
      subst hb'; exact ⟨_, _, z, rfl⟩
    · obtain ⟨e, he, rfl⟩ := hv'
      obtain ⟨_, rfl⟩ := rangeD_get hd'
      refine ⟨_, _, rfl, fun δ => ?_⟩
      show (match es[((i : Int)).toNat]? with | some e => (δ.put x (.raw e.key)).put y (.raw e.val) | none => δ) = _
      rw [Int.toNat_natCast, he]
/-- what a values loop binds -/
def valT (es : Array DictEntry) (x : Str) (d : PyData) (δ : TEnv) : TEnv := match es[(toI d).toNat]? with
  | some e => δ.put x (.raw e.val)
  | none => δ
theorem values_src {o : Expr} {x : Str} {p apos cpos : Pos} {d : Addr} {es : Array DictEntry} {ep : Nat} (rm : Room n A) (f : FR g hb X sc env δ s.heap) (hw : W.ok s.heap) (eo : Ev pg w W n sc δ o (.raw (.ref d))) (hd : RawD s.heap d es ep) (hds : (d == sysModules) = false)
    (hdo : ¬ OwnF (ownC sc) env d ∧ ¬ Z d) (hZ : ∀ b, Z b → X b) (hox : okOwn sc (ownC sc) x = true) (hbase : attributeBase o "values" env (eval o env) = eval o env := by rfl) (hline : (apos.endLine == cpos.line) = true := by rfl) :
    ∀ (Q : Value → Shared → Prop) (E : Value → Shared → Prop), (∀ it fp wr St h' tk, HK s.heap h' → St 0 h' → (∀ b ∈ fp, ¬ OwnF (ownC sc) env b ∧ ¬ Z b) → (∀ b ∈ wr, s.heap.get? b = none) → (∀ b ∈ wr, IterAt h' b) →
      (∀ X' hI, KS2 X X' h' hI → (∀ b ∈ wr, X' b) → Src pg w A it (.Name x p) (valT es x) (ownC sc) sc X' (rangeD es.size) hI fp wr St) → Q it { s with heap := h', toks := tk }) →
      wpAny (model pg w) A (eval (.Call (.Attribute o "values" apos) [] [] cpos) env) (fun x s₁ => wpAny (model pg w) A (pyIter x) Q E s₁) E s := fun Q E hQ => by
  refine wpAny_Call_method (T := "dict") (id := "dict.values") hbase rfl hline PySem.F.plainAttrs_dict PySem.F.slot_dict_values PySem.F.type_dict_values ?_
  refine eo X A s env _ E rm f.scope hw f.ts f.xin fun u h₁ tk₁ k₁ r₁ => ?_
  cases r₁
  have hd1 : RawD h₁ d es ep := hd.at fun o e => k₁ d o e
  refine ⟨hd1.typeIs (s := { s with heap := h₁, toks := tk₁ }), hd1.noDict, ?_⟩
  show wpAny _ _ (callWith cpos (.builtin "dict.values") [.ref d] [] []) _ E _
  refine method_meetsIn PySem.F.slot_dict_values PySem.F.entry_dict_values rfl (PyProof.Rows.evalArgs_none ⟨rfl, hd1.typeIs (s := { s with heap := h₁, toks := tk₁ }), PySem.F.args_dict_values_1 _, _, values_meets d hds, ⟨es, ep, hd1⟩, ?_⟩)
  dsimp only
  generalize hH : h₁.push { cls := .type "dict_values", data := .fields #[.ref d] } = H
  have kH : HK h₁ H := hH ▸ HK.push _ _
  have hv : H.IsValuesView h₁.objs.size d := ⟨_, hH ▸ Heap.get?_push_size _ rfl, rfl, rfl⟩
  have hdH : RawD H d es ep := hd1.at fun o e => kH d o e
  refine values_iter (s := { s with heap := H, toks := tk₁ }) hv hdH ?_
  dsimp only
  generalize hH2 : H.push { cls := .type "dict_valueiterator", data := .fields #[.ref d, .int 0 0, .int es.size 0, .int ep 0] } = H2
  have kH2 : HK H H2 := hH2 ▸ HK.push _ _
  have hit : H2.IsValIter H.objs.size d 0 es.size ep := ⟨_, hH2 ▸ Heap.get?_push_size _ rfl, rfl, rfl⟩
  have hnone : s.heap.get? H.objs.size = none := none_of (k₁.trans kH) (get_size H)
  have hne : d ≠ H.objs.size := by obtain ⟨o, e, _⟩ := hdH; exact Nat.ne_of_lt (Heap.lt_size e)
  have hlen : (rangeD es.size).length = es.size := by simp [rangeD]
  refine hQ (.ref H.objs.size) [H.objs.size, d] [H.objs.size] (fun i h => h.IsValIter H.objs.size d i es.size ep ∧ RawD h d es ep) H2 tk₁ ((k₁.trans kH).trans kH2) ⟨hit, hdH.at fun o e => kH2 d o e⟩ (fun b hb' => ?_) (fun b hb' => ?_) (fun b hb' => ?_) fun X' hI k hwr => ?_
  · simp only [List.mem_cons, List.not_mem_nil, or_false] at hb'
    rcases hb' with rfl | rfl
    · refine ⟨fun q => ?_, fun q => ?_⟩
      · obtain ⟨o, e⟩ := (f.own q).2; rw [hnone] at e; cases e
      · obtain ⟨o, e⟩ := f.xin _ (hZ _ q); rw [hnone] at e; cases e
    · exact hdo
  · simp only [List.mem_cons, List.not_mem_nil, or_false] at hb'
    subst hb'; exact hnone
  · simp only [List.mem_cons, List.not_mem_nil, or_false] at hb'
    subst hb'; obtain ⟨o, e, _, dd⟩ := hit; exact ⟨_, _, e, dd⟩
  · have W0 := valuesWalk (prog := pg) (w := w) (A := A) rm.handled H.objs.size d hne es ep
    refine Src.nameG (T := valT es x) (P := fun i v => ∃ e, es[i]? = some e ∧ v = e.val) (by rw [hlen]; exact W0) hwr (fun i h st b hb' => ?_) (fun i d' v hd' hv' δ => ?_) hox
    · simp only [List.mem_cons, List.not_mem_nil, or_false] at hb'
      obtain ⟨⟨o, e, _, dd⟩, _⟩ := st
      subst hb'; exact ⟨_, _, e, dd⟩
    · obtain ⟨e, he, rfl⟩ := hv'
      obtain ⟨_, rfl⟩ := rangeD_get hd'
      show (match es[((i : Int)).toNat]? with | some e => δ.put x (.raw e.val) | none => δ) = _
      rw [Int.toNat_natCast, he]
end
end Mine

namespace Mine
section
variable {g hb h h' : Heap} {X Z : Addr → Prop} {sc : Scope} {env : Env} {δ : TEnv}
theorem hide_hk (hb : Heap) (l : List Addr) : HK (hideAll hb l) hb := fun _ _ e => of_hideAll l e
theorem FR.hide (f : FR g hb X sc env δ h) {l : List Addr} (hl : ∀ a ∈ l, g.get? a = none) : FR g (hideAll hb l) X sc env δ h :=
  ⟨f.scope, fun b o e => hideAll_get l (f.base b o e) fun q => (by rw [hl b q] at e; cases e), (hide_hk hb l).trans f.hk, fun b q => none_of (hide_hk hb l) (f.fresh b q), f.ts, f.xin⟩
theorem FR.mut {O : Addr → Prop} (f : FR g hb X sc env δ h) (ko : KO O h h') (hb0 : ∀ b, O b → hb.get? b = none) (hX : ∀ b, O b → X b ∨ NotSeq h b) (hfs : ∀ b, O b → IterAt h b ∨ ∃ vs n, h.get? b = some (lstO vs n)) (ex : ∀ b, O b → ∃ o, h'.get? b = some o) : FR g hb X sc env δ h' := by
  have ks : KS X h h' := ko.ks hX
  exact ⟨f.scope, f.base, ko.hk f.hk hb0, f.fresh, f.ts.mono (ks.two fun _ q => q) fun ρ fs => fs.ko ko hfs, f.xin.ko ko ex⟩
end
section
variable {prog : Program} {w : World} {W : Wd} {n : Nat} {sc : Scope} {δ : TEnv} {A : Around} {s : Shared} {g hb : Heap} {X Z : Addr → Prop} {env : Env} {Q : Flow → Shared → Prop} {E : Value → Shared → Prop}
theorem Tr.int {e : Expr} {i : Int} (h : Ev prog w W n sc δ e (.dat (.int i))) (he : ∀ env whole, isTrue e env whole = (do let v ← whole; standAt e.pos; holding [v] (truthy v)) := by intro _ _; rfl) : Tr prog w W n sc δ e (i != 0) :=
  fun X A s env Q E rm hs hw t hX hQ => wpAny_isTrue_value (h X A s env _ E rm hs hw t hX fun v h' tk k r => by
    obtain ⟨t', rfl⟩ := r
    exact PyProof.Rows.truthy_int (hQ h' tk k)) (he env _)
theorem Tr.list {e : Expr} {ds : List PyData} (h : Ev prog w W n sc δ e (.dat (.list ds))) (hz : ds.length < 2 ^ 62) (he : ∀ env whole, isTrue e env whole = (do let v ← whole; standAt e.pos; holding [v] (truthy v)) := by intro _ _; rfl) : Tr prog w W n sc δ e (!ds.isEmpty) :=
  fun X A s env Q E rm hs hw t hX hQ => wpAny_isTrue_value (h X A s env _ E rm hs hw t hX fun v h' tk k r => by
    obtain ⟨l, vs, m, rfl, _, hl, hr⟩ := r
    have h1 := hr.length
    simp only [Array.length_toList] at h1
    refine wpAny_truthy_list (items := vs) ⟨_, hl, rfl, m, rfl⟩ (by omega) ?_
    have : (!ds.isEmpty) = !vs.isEmpty := by
      unfold Array.isEmpty
      cases ds with
      | nil => simp at h1; simp [h1]
      | cons d ds => simp only [List.length_cons] at h1; simp; intro q; rw [q] at h1; simp at h1
    have h2 := hQ h' (tk + 1 + 1) k
    rw [this] at h2
    exact h2) (he env _)

/-- def name(..): body, within a function -/
theorem st_def {K : Frag} {name : Str} {params : Arguments} {body : List Stmt} {scope : Scope} {pos : Pos} {c P : Addr} (G : Gnd K g) (f : FR g hb X sc env δ s.heap) (C : CodeHd g c P) (hcode : env.code = .ref c) (hP : s.heap.get? P = some (tabObj #[])) (hbP : hb.get? P = none) (hgP : g.get? P = none) (hXP : X P)
    (hd0 : params.defaults = []) (hk0 : params.kw_defaults = []) (ha : annTrees params none env = []) (ho : okComp scope sc = true) (hname : okOwn sc (ownC sc) name = true)
    (hQ : ∀ F c' qual ctv doc pm h' tk oF, FR g hb X sc env (δ.put name (.raw (.ref F))) h' → KO (fun b => b = P ∨ OwnF (ownC sc) env b) s.heap h' → s.heap.get? F = none → oF = fnMade name qual params body scope (closFrom env.cells scope.names []) doc pm c' ctv → h'.get? F = some oF → h'.CodeRec (.ref c') qual →
      (∃ ps, h'.get? P = some (tabObj ps)) → Q .next { s with heap := h', toks := tk }) :
    wpAny (model prog w) A (exec (.FunctionDef name params body [] none [] scope none name pos) env) Q E s := by
  obtain ⟨mg, mb, g1, g2, g3, bm, ob, b1, b2, b3, b4, b5, b6⟩ := G.glob
  have gk := f.gk
  have ho' : okComp scope env.scope = true := by rw [f.scope]; exact ho
  have hcl := TS.clos f.ts ho'
  have hge : env.globals = mainGlobals := by obtain ⟨ρ, fs, _⟩ := f.ts; exact fs.glob
  have hmP : mainGlobals ≠ P := fun q => by obtain ⟨o, es, ep, e, hd, _⟩ := g1; rw [q, hgP] at e; cases e
  have hbP' : bm ≠ P := fun q => by rw [q, hgP] at b3; cases b3
  have hbG : bm ≠ mainGlobals := fun q => by
    obtain ⟨o, es, ep, e, hd, _⟩ := g1
    rw [q, e] at b3; cases b3; rw [hd] at b6; cases b6
  refine nestDef_K hd0 hk0 ha (makeFunction_K (mg := mg) hcl hge (g1.keeps gk) hcode (C.keeps gk) hP trivial rfl hmP ⟨bm, ob, b1, b2, hbG, hbP', gk _ _ b3, b4, b5, b6⟩ fun c' ctv doc h' tk hx hge' hlt hrec htb => ?_)
  generalize hF : h'.objs.size = F
  generalize hH : h'.push (fnMade name (qualnameIn env name name) params body scope (closFrom env.cells scope.names []) doc ((mg "__name__").getD .none) c' ctv) = H
  have kH : HK h' H := hH ▸ HK.push _ _
  have ko : KO (fun b => b = P) s.heap h' := fun b o q e => hx b o q e
  have itP : IterAt s.heap P := ⟨_, _, hP, rfl⟩
  have f1 : FR g hb X sc env δ h' := f.mut ko (fun b q => q ▸ hbP) (fun b q => .inl (q ▸ hXP)) (fun b q => .inl (q ▸ itP)) fun b q => ⟨_, q ▸ htb⟩
  have f2 := f1.keeps kH
  have hFs : s.heap.get? F = none := by
    cases q : s.heap.get? F with
    | none => rfl
    | some o =>
      by_cases hz : F = P
      · have := Heap.lt_size htb; rw [hF, hz] at this; exact absurd this (Nat.lt_irrefl _)
      · have := ko F o hz q; rw [← hF, get_size] at this; cases this
  have hFg : H.get? F = some (fnMade name (qualnameIn env name name) params body scope (closFrom env.cells scope.names []) doc ((mg "__name__").getD .none) c' ctv) := by rw [← hH, ← hF]; exact Heap.get?_push_size _ rfl
  have hFo : ¬ OwnF (ownC sc) env F := fun q => by obtain ⟨o, e⟩ := (f1.own q).2; rw [← hF, get_size] at e; cases e
  have hPo : ¬ OwnF (ownC sc) env P := fun q => by
    obtain ⟨ρ, fs, _⟩ := f.ts
    rcases q with q | ⟨x, _, hk, hc⟩
    · obtain ⟨m, ⟨o', es, ep, e', d', _⟩, _⟩ := fs.loc
      rw [← q, hP] at e'; cases e'; cases d'
    · obtain ⟨c', h1, h2⟩ := fs.cel x (.inl hk)
      rw [hc] at h1; cases h1
      obtain ⟨o', e', d'⟩ := h2
      rw [hP] at e'; cases e'; cases d'
  refine f2.store (s := { s with heap := H, toks := tk }) (r := .raw (.ref F)) hname rfl fun h3 tk3 f3 k3 => ?_
  have k3' : KO (OwnF (ownC sc) env) H h3 := k3
  obtain ⟨c2, oc, vs, t, e2, hoc, hd, hv⟩ := hrec
  cases e2
  have hocO : ¬ OwnF (ownC sc) env c' := fun q => by
    have := f.own q
    obtain ⟨o, e⟩ := this.2
    exact absurd (Heap.lt_size e) (Nat.not_lt.mpr hge')
  refine hQ F c' (qualnameIn env name name) ctv doc ((mg "__name__").getD .none) h3 tk3 _ f3 (fun b o q e => k3' b o (fun z => q (.inr z)) (kH b o (ko b o (fun z => q (.inl z)) e))) hFs rfl (k3' _ _ hFo hFg) ⟨c', oc, vs, t, rfl, k3' _ _ hocO (kH _ _ hoc), hd, hv⟩ ⟨_, k3' _ _ hPo (kH _ _ htb)⟩

/-- a call of a function with a closure, up to the body; envo is the frame that it was made in -/
theorem enterC {a : Addr} {oc : Value} {od : Option Addr} {osl : Array (Option Value)} {fd : FuncData} {body : List Stmt} {xs : List Str} {rs : List Ent} {envo : Env} {δo : TEnv} {vs : List Value} {Q : Value → Shared → Prop}
    (ho : s.heap.get? a = some ⟨oc, od, .func fd, osl⟩) (hlim : s.heap.NoLimit) (hcd : s.heap.CodeRec fd.code fd.qualname) (rm : Room (n + 1) A) (gk : HK g s.heap) (hX : XIn X s.heap) (hr : EntAll X s.heap rs vs) (to : TS X s.heap envo δo)
    (hcl : fd.closure = closFrom envo.cells fd.scope.names []) (hok : okComp fd.scope envo.scope = true) (hcell : fd.scope.names.all (fun x => !(x.2 == .cell)) = true)
    (h : ∀ (A' : Around) (env : Env) h₁ tk₁ (E' : Value → Shared → Prop), Room n A' → FR g s.heap X fd.scope env (bindE (xs.zip rs) (δo.only fd.scope)) h₁ →
      wpAny (model prog w) A' (execs body env) (fun f s' => Q (match f with | .ret v => v | _ => .none) s') E' { s with heap := h₁, toks := tk₁ })
    (hbody : fd.body = .stmts body) (hglob : fd.globals = mainGlobals) (hbi : fd.builtins = builtinsNs) (hxs : xs.length = rs.length)
    (hbind : ∀ vs : List Value, vs.length = rs.length → bindArgs fd ⟨vs, []⟩ = pure (xs.zip vs))
    (hkind' : (xs.all fun x => fd.scope.names.lookup x == some .local) = true)
    (hco : fd.scope.isCoroutine = false := by rfl) (hgen : fd.scope.isGenerator = false := by rfl) (hk : fd.scope.kind = .function := by rfl) : wpAny (model prog w) A (call (.ref a) vs) Q E s := by
  have hlen := hr.length
  obtain ⟨_, hnd, hfree⟩ := okComp.cases hok
  have hkind : ∀ x ∈ xs, fd.scope.names.lookup x = some .local := fun x hx => beq_iff_eq.mp (List.all_eq_true.mp hkind' x hx)
  have hnc : ∀ x ∈ fd.scope.names, x.2 ≠ .cell := fun x hx => by
    have := List.all_eq_true.mp hcell x hx
    simpa using this
  refine wpAny_call (codeAny_call_def (fd := fd) (body := body) (binds := xs.zip vs) (by have := rm.depth; omega) ho rfl hlim hcd hbody (BindsTo.of_eq (hbind vs hlen)) hnc (fun x hx => hkind _ (List.of_mem_zip hx).1) (fun h₁ hns k₁ => ?_) hco hgen hk)
  generalize hce : callEnv fd s.heap.objs.size a = ce at ⊢
  have hsc : ce.scope = fd.scope := by rw [← hce]; rfl
  have hcells : ce.cells = closFrom envo.cells fd.scope.names [] := by rw [← hce]; exact hcl
  have hlo : ce.locals = s.heap.objs.size := by rw [← hce]; rfl
  have fresh : ∀ c, s.heap.objs.size ≤ c → s.heap.get? c = none := fun c hc => by
    cases e : s.heap.get? c with
    | none => rfl
    | some o => exact absurd (Heap.lt_size e) (Nat.not_lt.mpr hc)
  obtain ⟨ρo, fo, ao⟩ := to
  have ownNone : ∀ x, (x, NameKind.cell) ∉ fd.scope.names := fun x q => hnc _ q rfl
  have kindC : ∀ x, ce.kindOf x = some .free ∨ ce.kindOf x = some .cell → (x, NameKind.free) ∈ fd.scope.names := fun x hx => by
    have e : ce.kindOf x = fd.scope.names.lookup x := by show ce.scope.names.lookup x = _; rw [hsc]
    rw [e] at hx
    rcases hx with hx | hx
    · exact mem_of_lookup hx
    · exact absurd (mem_of_lookup hx) (ownNone x)
  have lk : ∀ x c, ce.cells.lookup x = some c → (x, NameKind.free) ∈ fd.scope.names ∧ envo.cells.lookup x = some c ∧ s.heap.IsCell c (ρo x) := fun x c e => by
    rw [hcells, closFrom_lookup] at e
    by_cases q : (x, NameKind.free) ∈ fd.scope.names
    · rw [if_pos q] at e
      obtain ⟨c', h1, h2⟩ := fo.cel x (hfree x q)
      rw [h1] at e
      cases e
      exact ⟨q, h1, h2⟩
    · rw [if_neg q] at e; cases e
  have fr : FR g s.heap X fd.scope ce (bindE (xs.zip rs) (δo.only fd.scope)) h₁ := by
    refine ⟨hsc, gk, k₁, ?_, ?_, hX.keeps k₁⟩
    · rintro b (rfl | ⟨x, _, hk, _⟩)
      · rw [hlo]; exact fresh _ (Nat.le_refl _)
      · have := mem_of_lookup (show fd.scope.names.lookup x = some .cell by rw [← hsc]; exact hk)
        exact absurd this (ownNone x)
    · have bl : ∀ x, bindL ce.kindOf (xs.zip vs) (fun _ => none) x = (xs.zip vs).reverse.lookup x := by
        have gen : ∀ (l : List (Str × Value)) (m : Str → Option Value), (∀ p ∈ l, ce.kindOf p.1 = some .local) → ∀ x, bindL ce.kindOf l m x = (l.reverse.lookup x).or (m x) := fun l => by
          induction l with
          | nil => intro m _ x; simp [bindL]
          | cons p l ih =>
            intro m hl x
            obtain ⟨y, v⟩ := p
            simp only [bindL]
            rw [if_pos (hl _ List.mem_cons_self), ih _ (fun p hp => hl p (List.mem_cons_of_mem _ hp))]
            rw [List.reverse_cons, List.lookup_append]
            cases l.reverse.lookup x with
            | some u => simp
            | none =>
              simp only [Option.none_or]
              by_cases hxy : x = y
              · subst hxy; simp
              · simp [List.lookup_cons, beq_eq_false_iff_ne.mpr hxy, hxy]
        intro x
        rw [gen _ _ (fun p hp => by show ce.scope.names.lookup _ = _; rw [hsc]; exact hkind _ (List.of_mem_zip hp).1)]
        simp
      refine ⟨fun x => if ce.kindOf x = some .local then bindL ce.kindOf (xs.zip vs) (fun _ => none) x else if (x, NameKind.free) ∈ fd.scope.names then ρo x else none, ⟨by rw [hsc]; exact hk, by rw [← hce]; exact hglob, by rw [← hce]; exact hbi, ⟨_, hlo ▸ hns, fun x hx => by rw [if_pos hx, bl]⟩, fun x hx => ?_, ?_⟩, ?_⟩
      · have hm := kindC x hx.symm
        obtain ⟨c, h1, h2⟩ := fo.cel x (hfree x hm)
        refine ⟨c, by rw [hcells, closFrom_lookup, if_pos hm, h1]; rfl, ?_⟩
        have hnl : ¬ ce.kindOf x = some .local := by rcases hx with q | q <;> rw [q] <;> exact fun z => by cases z
        simp only [if_neg hnl, if_pos hm]
        exact h2.keeps k₁
      · intro x y c e1 e2
        exact fo.inj x y c (lk x c e1).2.1 (lk y c e2).2.1
      · have := bindE_rep (kindOf := ce.kindOf) xs rs vs (δo.only fd.scope) (fun _ => none) (fun x => if (x, NameKind.free) ∈ fd.scope.names then ρo x else none) (EntAll.keeps k₁ hr) hxs (fun x r e => by
          unfold TEnv.only at e
          by_cases hl : fd.scope.names.lookup x = some .free
          · rw [if_pos hl] at e
            obtain ⟨v, p, q⟩ := ao x r e
            have hnl : ¬ ce.kindOf x = some .local := by
              have : ce.kindOf x = some .free := by show ce.scope.names.lookup x = _; rw [hsc]; exact hl
              rw [this]; exact fun z => by cases z
            exact ⟨v, by rw [if_neg hnl, if_pos (mem_of_lookup hl)]; exact p, Ent.keeps k₁ q⟩
          · rw [if_neg hl] at e; cases e)
        intro x r e
        obtain ⟨v, p, q⟩ := this x r e
        refine ⟨v, ?_, q⟩
        by_cases hl : ce.kindOf x = some .local
        · rw [if_pos hl] at p
          exact (if_pos hl).trans p
        · rw [if_neg hl] at p
          refine (if_neg hl).trans ?_
          have bc : ∀ (l : List (Str × Value)) (m : Str → Option Value), (∀ p ∈ l, ce.kindOf p.1 = some .local) → bindC ce.kindOf l m = m := fun l => by
            induction l with
            | nil => intro m _; rfl
            | cons p l ih =>
              intro m hl
              obtain ⟨y, v⟩ := p
              simp only [bindC]
              rw [if_pos (hl _ List.mem_cons_self)]
              exact ih _ fun p hp => hl p (List.mem_cons_of_mem _ hp)
          rw [bc _ _ (fun p hp => by show ce.scope.names.lookup _ = _; rw [hsc]; exact hkind _ (List.of_mem_zip hp).1)] at p
          exact p
  exact h (A.deeper ce) ce h₁ _ _ (rm.deeper ce) fr
end
end Mine

namespace Mine
def orders : Nat → List Int → List (List Int)
  | 0, _ => [[]]
  | n + 1, ps => ps.flatMap fun one => (orders n (ps.filter fun other => other != one)).map fun rest => [one] ++ rest
theorem orders_bound : ∀ (n : Nat) (ps : List Int), ps.length ≤ 5 → n ≤ 5 → (orders n ps).length ≤ 5 ^ n
  | 0, ps, _, _ => by simp [orders]
  | n + 1, ps, h, hn => by
    unfold orders
    rw [List.length_flatMap]
    have : ∀ l : List Int, (∀ x ∈ l, True) → (l.map fun one => ((orders n (ps.filter fun other => other != one)).map fun rest => [one] ++ rest).length).sum ≤ l.length * 5 ^ n := fun l => by
      induction l with
      | nil => intro _; simp
      | cons a l ih =>
        intro _
        simp only [List.map_cons, List.sum_cons, List.length_cons, List.length_map]
        have h1 := orders_bound n (ps.filter fun other => other != a) (Nat.le_trans (List.length_filter_le _ _) h) (by omega)
        have h2 := ih (fun _ _ => trivial)
        simp only [List.length_map] at h2
        rw [Nat.succ_mul]; omega
    have := this ps (fun _ _ => trivial)
    refine Nat.le_trans this ?_
    rw [Nat.pow_succ, Nat.mul_comm]
    exact Nat.mul_le_mul_left _ h
theorem flat_filter (one : Int) (ps : List Int) : (ps.map PyData.int).flatMap (fun d => if (!(toI d == one)) = true then [d] else []) = (ps.filter fun other => other != one).map .int := by
  induction ps with
  | nil => rfl
  | cons a l ih =>
    simp only [List.map_cons, List.flatMap_cons, toI_int, ih, List.filter_cons]
    by_cases h : a = one
    · simp [h]
    · simp [h]
theorem filter_ne_length {one : Int} : ∀ {ps : List Int} {m : Nat}, ps.Nodup → one ∈ ps → ps.length = m + 1 → (ps.filter fun other => other != one).length = m
  | a :: l, m, hn, hm, hl => by
    simp only [List.nodup_cons] at hn
    simp only [List.length_cons, Nat.add_right_cancel_iff] at hl
    by_cases h : a = one
    · subst h
      have : (l.filter fun other => other != a) = l := List.filter_eq_self.mpr fun x hx => by simp; intro q; exact hn.1 (q ▸ hx)
      simp [this, hl]
    · rcases List.mem_cons.mp hm with q | q
      · exact absurd q.symm h
      · have hpos : 0 < l.length := List.length_pos_of_mem q
        have := filter_ne_length (m := l.length - 1) hn.2 q (by omega)
        simp [h, this]; omega
theorem flat_one {α : Type} {f : α → PyData} {g : PyData → PyData} (l : List α) : (l.map f).flatMap (fun d => [g d]) = l.map fun x => g (f x) := by
  induction l with
  | nil => rfl
  | cons a l ih => simp only [List.map_cons, List.flatMap_cons, ih]; rfl
theorem orders_len : ∀ (n : Nat) (ps rest : List Int), rest ∈ orders n ps → rest.length = n
  | 0, _, rest, h => by
    simp only [orders, List.mem_singleton] at h
    rw [h]; rfl
  | n + 1, ps, rest, h => by
    simp only [orders, List.mem_flatMap, List.mem_map] at h
    obtain ⟨a, _, r, hr, rfl⟩ := h
    have := orders_len n _ r hr
    simp [this]
theorem orders_flat (m : Nat) (ps : List Int) : (ps.map PyData.int).flatMap (fun d => (orders m (ps.filter fun other => other != toI d)).map fun rest => intsD ([toI d] ++ rest)) = (orders (m + 1) ps).map intsD := by
  show _ = (ps.flatMap fun one => (orders m (ps.filter fun other => other != one)).map fun rest => [one] ++ rest).map intsD
  rw [List.map_flatMap, List.flatMap_map]
  congr 1
  funext one
  rw [List.map_map]; rfl
section
variable {w : World} {g : Heap}
theorem orders_ok (G : GW w g) : ∀ (n : Nat) (ps : List Int), ps.length = n → n ≤ 5 → ps.Nodup → FnR pg w g (n + 2) 47 [intsD ps] (.list ((orders n ps).map intsD)) := fun n => by
  induction n with
  | zero =>
    intro ps hl hn5 hn
    have : ps = [] := by cases ps with | nil => rfl | cons _ _ => cases hl
    subst this
    refine FnR.of G (xs := [Str.ofString "places"]) (by rfl) ?_ (by rfl) (by rfl) (by rfl) (by rfl) (by rfl) (by rfl) (fun vs hvs => ?_) (by decide) (by decide) (by rfl)
    · intro X A s env hb Q E rm f hX hQ
      refine wpAny_execs_cons (st_if (W := Wg g) (n := 1) (b := true) rm f f.gk (Tr.cmp (d₁ := intsD []) (d₂ := .list []) (Ev.name (by rfl) (by rfl)) (Ev.list .nil (by decide)) (CmpR.eq (by decide))) (fun hb1 h' tk k f => ?_) (fun hb1 h' tk k f => by cases hb1))
      refine wpAny_execs_cons (st_return (W := Wg g) (n := 1) rm f f.gk (Ev.list (.cons (Ev.list .nil (by decide)) .nil) (by decide)) fun v h' tk k f r => ?_)
      exact hQ v h' tk f.hk r
    · match vs, hvs with
      | [v], _ => rfl
  | succ m ih =>
    intro ps hl hn5 hn
    have hne : ps.isEmpty = false := by cases ps with | nil => cases hl | cons _ _ => rfl
    refine FnR.of G (xs := [Str.ofString "places"]) (by rfl) ?_ (by rfl) (by rfl) (by rfl) (by rfl) (by rfl) (by rfl) (fun vs hvs => ?_) (by decide) (by decide) (by rfl)
    · intro X A s env hb Q E rm f hX hQ
      refine wpAny_execs_cons (st_if (W := Wg g) (n := m + 2) (b := false) rm f f.gk (Tr.cast (Tr.cmp (d₁ := intsD ps) (d₂ := .list []) (Ev.name (by rfl) (by rfl)) (Ev.list .nil (by decide)) (CmpR.eq (Nat.le_trans (depth_ints ps) (by decide)))) ((eqv_ints_nil ps).trans hne)) (fun hb1 => by cases hb1) (fun hb1 h' tk k f => ?_))
      refine wpAny_execs_nil (wpAny_execs_cons (st_return (W := Wg g) (n := m + 2) (r := .dat (.list ((orders (m + 1) ps).map intsD))) rm f f.gk (Ev.cast (Ev.comp2 (ds := ps.map .int) (T := Tgt (.Name (Str.ofString "one") _)) (fun d => (orders m (ps.filter fun other => other != toI d)).map fun rest => intsD ([toI d] ++ rest))
            (It.list (Ev.name (by rfl) (by rfl)) (by rfl)) (tgt_new (by rfl)) (mem_lists fun one hone => ?_) ?_) ?_) fun v h' tk k f r => hQ v h' tk f.hk r))
      · refine BodyJ.congr (BodyJ.nest (b := true) (outs := fun d => [intsD ([one] ++ toL d)]) .nil (fun _ => It.list (ds := (orders m (ps.filter fun other => other != one)).map intsD) (Ev.call (fun h ok => ok) (Ev.gname (gname_main G (fun h ok => ok) (by rfl)) (by rfl)) (G.x _ _ (by rfl)) rfl (.cons (d := intsD (ps.filter fun other => other != one)) ?_ .nil) (ih _ ?_ (by omega) (hn.filter _))) (by rfl))
          (fun _ => tgt_new (by rfl)) (fun _ => mem_lists fun rest hrest => ?_)) ?_
        · refine Ev.cast (Ev.comp1 (ds := ps.map .int) (T := Tgt (.Name (Str.ofString "other") _)) (fun d => if (!(toI d == one)) = true then [d] else []) (It.list (Ev.name (by rfl) (by rfl)) (by rfl)) (tgt_new (by rfl)) (mem_lists fun other _ => ?_) ?_) ?_
          · exact BodyJ.last (b := !(other == one)) (.one (Tr.cmp (d₁ := .int other) (d₂ := .int one) (Ev.name (by rfl) (by rfl)) (Ev.name (by rfl) (by rfl)) (CmpR.ne (Nat.zero_le _) (Nat.zero_le _)))) fun _ => Ev.name (by rfl) (by rfl)
          · rw [flat_filter]
            simp only [List.length_map]
            exact Nat.le_trans (List.length_filter_le _ _) (by rw [hl]; exact Nat.le_trans hn5 (by decide))
          · rw [flat_filter]; rfl
        · exact filter_ne_length hn hone hl
        · refine BodyJ.congr (BodyJ.last (b := true) .nil fun _ => Ev.binop (d₁ := .list [.int one]) (d₂ := intsD rest) (d := intsD ([one] ++ rest)) (Ev.list (.cons (Ev.name (by rfl) (by rfl)) .nil) (show 1 ≤ sizeLine by decide)) (Ev.name (by rfl) (by rfl)) ?_) (by rw [toL_ints]; rfl)
          refine BinR.addList (xs := [.int one]) (ys := rest.map .int) ?_
          rw [List.length_map, orders_len m _ rest hrest]
          exact Nat.le_trans (show 1 + m ≤ 6 by omega) (by decide)
        · rw [if_pos rfl, flat_one]
          simp only [toL_ints, toI_int]
      · rw [orders_flat, List.length_map]
        exact Nat.le_trans (orders_bound (m + 1) ps (by omega) hn5) (Nat.le_trans (Nat.pow_le_pow_right (by decide) hn5) (by decide))
      · rw [orders_flat]
    · match vs, hvs with
      | [v], _ => rfl
end
end Mine

namespace Mine
def tupD (l : List Int) : PyData := .tuple (l.map .int)
@[simp] theorem toL_tup (l : List Int) : toL (tupD l) = l := map_toI l
def rangeL (k : Int) : List Int := (List.range k.toNat).map fun (i : Nat) => (i : Int)
theorem rangeD_eq (k : Int) : rangeD k = (rangeL k).map .int := by unfold rangeD rangeL; rw [List.map_map]; rfl
theorem mem_rangeL {k c : Int} : c ∈ rangeL k ↔ 0 ≤ c ∧ c < k := by
  unfold rangeL
  simp only [List.mem_map, List.mem_range]
  constructor
  · rintro ⟨i, hi, rfl⟩; omega
  · rintro ⟨h1, h2⟩; exact ⟨c.toNat, by omega, by omega⟩
/-- the colour is taken by a place ahead -/
def clash (rows : List (List Int)) (place : Int) (way : List Int) (colour : Int) : List Int :=
  (rows.getD place.toNat []).filter fun other => decide (other < place) && (way.getD other.toNat 0 == colour)
def fewStep (rows : List (List Int)) (place : Int) (ways : List (List Int)) : List (List Int) :=
  ways.flatMap fun way => ((rangeL (2 + maxL ([0 - 1] ++ way))).filter fun colour => (clash rows place way colour).isEmpty).map fun colour => way ++ [colour]
def fewWays (rows : List (List Int)) : Nat → List (List Int)
  | 0 => [[]]
  | n + 1 => fewStep rows (n : Int) (fewWays rows n)
def fewest (rows : List (List Int)) : Int := minL ((fewWays rows 5).map fun way => 1 + maxL way)
def rowsOk (rows : List (List Int)) : Prop := rows.length = 5 ∧ ∀ r ∈ rows, r.length ≤ 5 ∧ ∀ c ∈ r, 0 ≤ c ∧ c < 5
def rowsD (rows : List (List Int)) : PyData := .list (rows.map intsD)

theorem maxL_le {b : Int} : ∀ {l : List Int}, l ≠ [] → (∀ c ∈ l, c ≤ b) → maxL l ≤ b := by
  have gen : ∀ (xs : List Int) (x : Int), x ≤ b → (∀ c ∈ xs, c ≤ b) → xs.foldl max x ≤ b := fun xs => by
    induction xs with
    | nil => intro x hx _; exact hx
    | cons a l ih => intro x hx h; exact ih _ (Int.max_le.mpr ⟨hx, h a List.mem_cons_self⟩) fun c hc => h c (List.mem_cons_of_mem _ hc)
  intro l hne h
  cases l with
  | nil => exact absurd rfl hne
  | cons a l => exact gen l a (h a List.mem_cons_self) fun c hc => h c (List.mem_cons_of_mem _ hc)
theorem maxL_ge {c : Int} : ∀ {l : List Int}, c ∈ l → c ≤ maxL l := by
  have gen : ∀ (xs : List Int) (x : Int), x ≤ xs.foldl max x ∧ ∀ c ∈ xs, c ≤ xs.foldl max x := fun xs => by
    induction xs with
    | nil => intro x; exact ⟨Int.le_refl _, fun c hc => by cases hc⟩
    | cons a l ih =>
      intro x
      obtain ⟨h1, h2⟩ := ih (max x a)
      refine ⟨Int.le_trans (Int.le_max_left _ _) h1, fun c hc => ?_⟩
      rcases List.mem_cons.mp hc with rfl | hc
      · exact Int.le_trans (Int.le_max_right _ _) h1
      · exact h2 c hc
  intro l h
  cases l with
  | nil => cases h
  | cons a l =>
    rcases List.mem_cons.mp h with rfl | h
    · exact (gen l c).1
    · exact (gen l a).2 c h
theorem ways_ok (rows : List (List Int)) : ∀ n : Nat, ∀ way ∈ fewWays rows n, way.length = n ∧ ∀ c ∈ way, 0 ≤ c ∧ c < n
  | 0, way, h => by
    simp only [fewWays, List.mem_singleton] at h
    subst h; exact ⟨rfl, fun c hc => by cases hc⟩
  | n + 1, way, h => by
    simp only [fewWays, fewStep, List.mem_flatMap, List.mem_map, List.mem_filter] at h
    obtain ⟨w', hw', c', ⟨hc', _⟩, rfl⟩ := h
    obtain ⟨h1, h2⟩ := ways_ok rows n w' hw'
    have := mem_rangeL.mp hc'
    have hm : maxL ([0 - 1] ++ w') ≤ n - 1 := maxL_le (by simp) fun c hc => by
      simp only [List.cons_append, List.nil_append, List.mem_cons] at hc
      rcases hc with rfl | hc
      · omega
      · have := h2 c hc; omega
    refine ⟨by simp [h1], fun c hc => ?_⟩
    simp only [List.mem_append, List.mem_singleton] at hc
    rcases hc with hc | rfl
    · have := h2 c hc; omega
    · omega

theorem ways_max (rows : List (List Int)) {n : Nat} {way : List Int} (h : way ∈ fewWays rows n) : maxL ([0 - 1] ++ way) ≤ n - 1 := by
  obtain ⟨h1, h2⟩ := ways_ok rows n way h
  refine maxL_le (by simp) fun c hc => ?_
  simp only [List.cons_append, List.nil_append, List.mem_cons] at hc
  rcases hc with rfl | hc
  · omega
  · have := h2 c hc; omega
theorem ways_ne {rows : List (List Int)} (hr : rowsOk rows) : ∀ {n : Nat}, n ≤ 5 → fewWays rows n ≠ []
  | 0, _ => by simp [fewWays]
  | n + 1, hn => fun q => by
    have ih := ways_ne hr (n := n) (by omega)
    obtain ⟨way, hw⟩ := List.exists_mem_of_ne_nil _ ih
    obtain ⟨w1, w2⟩ := ways_ok rows n way hw
    have h1 : -1 ≤ maxL ([0 - 1] ++ way) := maxL_ge (by simp)
    have mem : way ++ [1 + maxL ([0 - 1] ++ way)] ∈ fewWays rows (n + 1) := by
      simp only [fewWays, fewStep, List.mem_flatMap, List.mem_map, List.mem_filter]
      refine ⟨way, hw, _, ⟨mem_rangeL.mpr ⟨by omega, by omega⟩, ?_⟩, rfl⟩
      rw [List.isEmpty_iff]
      unfold clash
      rw [List.filter_eq_nil_iff]
      intro other ho hh
      simp only [Bool.and_eq_true, decide_eq_true_eq, beq_iff_eq] at hh
      obtain ⟨hlt, he⟩ := hh
      have h0 : 0 ≤ other := by
        have hl : ((n : Int)).toNat < rows.length := by rw [hr.1]; omega
        rw [List.getD_eq_getElem?_getD, List.getElem?_eq_getElem hl] at ho
        exact ((hr.2 _ (List.getElem_mem hl)).2 other ho).1
      have hlw : other.toNat < way.length := by omega
      rw [List.getD_eq_getElem?_getD, List.getElem?_eq_getElem hlw] at he
      have := maxL_ge (l := [0 - 1] ++ way) (c := way[other.toNat]) (by simp)
      simp only [Option.getD_some] at he
      omega
    rw [q] at mem; cases mem
theorem len_flatMap_le {α β : Type} {f : α → List β} {k : Nat} : ∀ {l : List α}, (∀ x ∈ l, (f x).length ≤ k) → (l.flatMap f).length ≤ l.length * k
  | [], _ => by simp
  | a :: l, h => by
    have := len_flatMap_le (l := l) (f := f) (k := k) fun x hx => h x (List.mem_cons_of_mem _ hx)
    have h0 := h a List.mem_cons_self
    simp only [List.flatMap_cons, List.length_append, List.length_cons, Nat.succ_mul]
    omega
theorem rangeL_length (k : Int) : (rangeL k).length = k.toNat := by simp [rangeL]
theorem ways_len (rows : List (List Int)) : ∀ n : Nat, n ≤ 5 → (fewWays rows n).length ≤ 5 ^ n
  | 0, _ => by simp [fewWays]
  | n + 1, hn => by
    have h0 := ways_len rows n (by omega)
    have : (fewWays rows (n + 1)).length ≤ (fewWays rows n).length * 5 := by
      refine len_flatMap_le fun way hw => ?_
      rw [List.length_map]
      refine Nat.le_trans (List.length_filter_le _ _) ?_
      rw [rangeL_length]
      have := ways_max rows hw
      omega
    rw [Nat.pow_succ]
    exact Nat.le_trans this (Nat.mul_le_mul_right _ h0)
theorem put_loop {δ : TEnv} {x y : Str} {a b c : Ent} (h : δ y = none) : ∀ z r, (δ.put x c) z = some r → (((δ.put x a).put y b).put x c) z = some r := fun z r e => by
  rcases put_some e with ⟨rfl, rfl⟩ | ⟨h1, h2⟩
  · exact if_pos rfl
  · have hy : z ≠ y := fun q => by rw [q, h] at h2; cases h2
    unfold TEnv.put
    rw [if_neg h1, if_neg hy, if_neg h1]; exact h2
theorem eqv_ints_empty (l : List Int) : PyData.eqv (.list (l.map .int)) (.list []) = l.isEmpty := by cases l <;> rfl
theorem flat_filterI {p : Int → Bool} (l : List Int) : (l.map PyData.int).flatMap (fun d => if p (toI d) = true then [d] else []) = (l.filter p).map .int := by
  induction l with
  | nil => rfl
  | cons a l ih =>
    simp only [List.map_cons, List.flatMap_cons, toI_int, ih, List.filter_cons]
    by_cases h : p a = true <;> simp [h]
theorem flat_filterG {p : Int → Bool} {f : Int → PyData} (l : List Int) : (l.map PyData.int).flatMap (fun d => if p (toI d) = true then [f (toI d)] else []) = (l.filter p).map f := by
  induction l with
  | nil => rfl
  | cons a l ih =>
    simp only [List.map_cons, List.flatMap_cons, toI_int, ih, List.filter_cons]
    by_cases h : p a = true <;> simp [h]
theorem step_flat (rows : List (List Int)) (place : Int) (ways : List (List Int)) :
    (ways.map tupD).flatMap (fun d => ((rangeL (2 + maxL ([0 - 1] ++ toL d))).map .int).flatMap fun e => if (clash rows place (toL d) (toI e)).isEmpty = true then [tupD (toL d ++ [toI e])] else []) = (fewStep rows place ways).map tupD := by
  unfold fewStep
  rw [List.map_flatMap, List.flatMap_map]
  congr 1
  funext way
  simp only [toL_tup]
  rw [flat_filterG (p := fun c => (clash rows place way c).isEmpty) (f := fun c => tupD (way ++ [c])), List.map_map]
  rfl
theorem rows_row {rows : List (List Int)} (h : rowsOk rows) {i : Nat} (hi : i < 5) : (rows.map intsD)[i]? = some (intsD (rows.getD i [])) ∧ (rows.getD i []).length ≤ 5 ∧ ∀ c ∈ rows.getD i [], 0 ≤ c ∧ c < 5 := by
  have hl : i < rows.length := by rw [h.1]; exact hi
  have e : rows[i]? = some rows[i] := List.getElem?_eq_getElem hl
  rw [List.getElem?_map, List.getD_eq_getElem?_getD, e]
  exact ⟨rfl, h.2 _ (List.getElem_mem hl)⟩
section
variable {w : World} {g : Heap}
theorem fewest_ok (G : GW w g) (rows : List (List Int)) (hr : rowsOk rows) (n : Nat) : FnR pg w g (n + 1) 62 [rowsD rows] (.int (fewest rows)) := by
  refine FnR.of G (xs := [Str.ofString "rows"]) (by rfl) ?_ (by rfl) (by rfl) (by rfl) (by rfl) (by rfl) (by rfl) (fun vs hvs => ?_) (by decide) (by decide) (by rfl)
  · intro X A s env hb Q E rm f hX hQ
    have hW : ∀ h, (Wg g).ok h → HK g h := fun h ok => ok
    have nRange : GName (Wg g) (Str.ofString "range") (.type "range") := gname_bi G hW (by rfl) (by rfl) (by decide)
    have nMax : GName (Wg g) (Str.ofString "max") (.builtin "max") := gname_bi G hW (by rfl) (by rfl) (by decide)
    have nMin : GName (Wg g) (Str.ofString "min") (.builtin "min") := gname_bi G hW (by rfl) (by rfl) (by decide)
    refine wpAny_execs_cons (st_assign (W := Wg g) (n := n) (r := .dat (.list ((fewWays rows 0).map tupD))) rm f f.gk (Ev.list (.cons (Ev.tuple .nil (by decide)) .nil) (show 1 ≤ sizeLine by decide)) fun h₁ tk₁ f₁ _ => ?_)
    refine wpAny_execs_cons (st_for (W := Wg g) (n := n) (ds := rangeD 5) (T := Tgt (.Name (Str.ofString "place") _)) (fun i => TEnv.put _ (Str.ofString "ways") (.dat (.list ((fewWays rows i).map tupD)))) (fun _ _ => True) (fun _ => False) rm f₁ f₁.gk (It.range (k := 5) (Ev.gname nRange (by rfl)) Ev.int (by decide) (by decide) (by rfl))
      trivial (fun _ q => q.elim) (fun _ _ _ _ _ _ _ => trivial) (fun i d X' h tk Qb E' hd hXX f₂ _ hQb => ?_) fun h₃ tk₃ f₃ _ => ?_)
    · obtain ⟨hi, rfl⟩ := rangeD_get hd
      have hi5 : i < 5 := hi
      obtain ⟨row1, row2, row3⟩ := rows_row hr hi5
      refine wpAny_execs_cons (st_comp2 (W := Wg g) (n := n) (ds := (fewWays rows i).map tupD) (T := Tgt (.Name (Str.ofString "way") _)) (fun d => ((rangeL (2 + maxL ([0 - 1] ++ toL d))).map .int).flatMap fun e => if (clash rows i (toL d) (toI e)).isEmpty = true then [tupD (toL d ++ [toI e])] else []) rm f₂ f₂.gk
        (It.list (Ev.name (by rfl) (by rfl)) (by rfl)) (tgt_new (by rfl)) (mem_lists fun way hway => ?_) ?_ fun h₄ tk₄ f₄ k₄ => wpAny_execs_nil ?_)
      · obtain ⟨w1, w2⟩ := ways_ok rows i way hway
        have wm := ways_max rows hway
        refine BodyJ.congr (BodyJ.nest (b := true) (ds := (rangeL (2 + maxL ([0 - 1] ++ way))).map .int) (T := Tgt (.Name (Str.ofString "colour") _)) (outs := fun e => if (clash rows i way (toI e)).isEmpty = true then [tupD (way ++ [toI e])] else []) .nil
          (fun _ => by
            rw [← rangeD_eq]
            refine It.range (Ev.gname nRange (by rfl)) (Ev.binop (d₁ := .int 2) (d₂ := .int (maxL ([0 - 1] ++ way))) Ev.int (Ev.call1 (d₁ := tupD ([0 - 1] ++ way)) (Ev.gname nMax (by rfl)) (Ev.binop (d₁ := .tuple [.int (0 - 1)]) (d₂ := tupD way) (Ev.tuple (.cons (Ev.binop (d₁ := .int 0) (d₂ := .int 1) Ev.int Ev.int (BinR.sub _ _)) .nil) (show 1 ≤ sizeLine by decide)) (Ev.name (by rfl) (by rfl)) (BinR.addTuple (xs := [.int (0 - 1)]) (ys := way.map .int) ?_)) (F1R.maxT (by simp))) (BinR.add _ _)) ?_ ?_ (by rfl)
            · rw [List.length_map, w1]; exact Nat.le_trans (show 1 + i ≤ 6 by omega) (by decide)
            · have := maxL_ge (l := [0 - 1] ++ way) (c := 0 - 1) (by simp); omega
            · omega)
          (fun _ => tgt_new (by rfl)) (fun _ => mem_lists fun colour hc => ?_)) ?_
        · refine BodyJ.last (.one (Tr.cast (Tr.cmp (d₁ := .list ((clash rows i way colour).map .int)) (d₂ := .list []) (Ev.cast (Ev.comp1 (ds := (rows.getD i []).map .int) (T := Tgt (.Name (Str.ofString "other") _)) (fun d => if (decide (toI d < i) && (way.getD (toI d).toNat 0 == colour)) = true then [d] else [])
            (It.list (Ev.item (k := (i : Int)) (xs := rows.map intsD) (Ev.name (by rfl) (by rfl)) (Ev.name (by rfl) (by rfl)) (by omega) (by omega) row1) (by rfl)) (tgt_new (by rfl)) (mem_lists fun other ho => ?_) ?_) ?_) (Ev.list .nil (by decide)) (CmpR.eq ?_)) (eqv_ints_empty _))) fun _ => Ev.binop (d₁ := tupD way) (d₂ := .tuple [.int colour]) (Ev.name (by rfl) (by rfl)) (Ev.tuple (.cons (Ev.name (by rfl) (by rfl)) .nil) (show 1 ≤ sizeLine by decide)) ?_
          · obtain ⟨o1, o2⟩ := row3 other ho
            refine BodyJ.last (.one (Tr.cast (Tr.boolop (TrAll.and_cons (Tr.cmp (d₁ := .int other) (d₂ := .int i) (Ev.name (by rfl) (by rfl)) (Ev.name (by rfl) (by rfl)) (CmpR.lt _ _)) fun hlt => TrAll.and_cons (Tr.cmp (d₁ := .int (way.getD other.toNat 0)) (d₂ := .int colour) (Ev.itemT (k := other) (xs := way.map .int) (Ev.name (by rfl) (by rfl)) (Ev.name (by rfl) (by rfl)) o1 (by omega) ?_) (Ev.name (by rfl) (by rfl)) (CmpR.eq (Nat.zero_le _))) fun _ => TrAll.and_nil)) ?_)) fun _ => Ev.name (by rfl) (by rfl)
            · have hlt' : other < i := of_decide_eq_true hlt
              have : other.toNat < way.length := by omega
              rw [List.getElem?_map, List.getD_eq_getElem?_getD, List.getElem?_eq_getElem this]; rfl
            · rw [Bool.and_true]; rfl
          · rw [flat_filterI (p := fun other => decide (other < i) && (way.getD other.toNat 0 == colour)), List.length_map]
            exact Nat.le_trans (List.length_filter_le _ _) (Nat.le_trans row2 (by decide))
          · rw [flat_filterI (p := fun other => decide (other < i) && (way.getD other.toNat 0 == colour))]; rfl
          · exact Nat.le_trans (depth_ints _) (by decide)
          · have h := BinR.addTuple (prog := pg) (w := w) (n := n) (xs := way.map PyData.int) (ys := [PyData.int colour]) (by rw [List.length_map, w1]; exact Nat.le_trans (show i + 1 ≤ 6 by omega) (by decide))
            rw [show way.map PyData.int ++ [PyData.int colour] = (way ++ [colour]).map PyData.int by simp] at h
            exact h
        · rw [if_pos rfl, toL_tup]
      · rw [step_flat, List.length_map]
        exact Nat.le_trans (ways_len rows (i + 1) (by omega)) (Nat.le_trans (Nat.pow_le_pow_right (by decide) (show i + 1 ≤ 5 by omega)) (by decide))
      · rw [step_flat] at f₄
        exact hQb h₄ tk₄ (f₄.weak (put_loop (by rfl))) trivial (k₄.more fun b q => .inl q)
    · have hne : ((fewWays rows 5).map fun way => 1 + maxL way) ≠ [] := fun q => ways_ne hr (n := 5) (by omega) (List.map_eq_nil_iff.mp q)
      refine wpAny_execs_cons (st_return (W := Wg g) (n := n) (r := .dat (.int (fewest rows))) rm f₃ f₃.gk (Ev.call1 (d₁ := .list (((fewWays rows 5).map fun way => 1 + maxL way).map .int)) (Ev.gname nMin (by rfl)) (Ev.cast (Ev.comp1 (ds := (fewWays rows 5).map tupD) (T := Tgt (.Name (Str.ofString "way") _)) (fun d => [.int (1 + maxL (toL d))]) (It.list (Ev.name (by rfl) (by rfl)) (by rfl)) (tgt_new (by rfl)) (mem_lists fun way hway => ?_) ?_) ?_) (F1R.min hne)) fun v h' tk k f r => hQ v h' tk f.hk r)
      · obtain ⟨w1, w2⟩ := ways_ok rows 5 way hway
        refine BodyJ.congr (BodyJ.last (b := true) .nil fun _ => Ev.binop (d₁ := .int 1) (d₂ := .int (maxL way)) Ev.int (Ev.call1 (d₁ := tupD way) (Ev.gname nMax (by rfl)) (Ev.name (by rfl) (by rfl)) (F1R.maxT (fun q => by rw [q] at w1; cases w1))) (BinR.add _ _)) ?_
        rw [if_pos rfl, toL_tup]
      · rw [flat_one, List.length_map]
        exact Nat.le_trans (ways_len rows 5 (by omega)) (by decide)
      · rw [flat_one, List.map_map]
        simp only [toL_tup]; rfl
  · match vs, hvs with
    | [v], _ => rfl
end
end Mine

namespace Mine
def tiesD (ties : List (Int × Int)) : PyData := .list (ties.map fun t => .tuple [.int t.1, .int t.2])
def tie1 (rows : List (List Int)) (t : Int × Int) : List (List Int) := (rows.modify t.1.toNat (· ++ [t.2])).modify t.2.toNat (· ++ [t.1])
def tied (ties : List (Int × Int)) : List (List Int) := ties.foldl tie1 (List.replicate 5 [])
def tiesOk (ties : List (Int × Int)) : Prop := ties.length ≤ 20 ∧ ∀ t ∈ ties, (0 ≤ t.1 ∧ t.1 < 5) ∧ 0 ≤ t.2 ∧ t.2 < 5
theorem tie1_length (rows : List (List Int)) (t : Int × Int) : (tie1 rows t).length = rows.length := by simp [tie1]
theorem tied_length (ties : List (Int × Int)) : (tied ties).length = 5 := by
  have gen : ∀ (l : List (Int × Int)) (rows : List (List Int)), (l.foldl tie1 rows).length = rows.length := fun l => by
    induction l with
    | nil => intro rows; rfl
    | cons t l ih => intro rows; rw [List.foldl_cons, ih, tie1_length]
  rw [tied, gen]; rfl
theorem tied_take {ties : List (Int × Int)} {i : Nat} {t : Int × Int} (h : ties[i]? = some t) : tied (ties.take (i + 1)) = tie1 (tied (ties.take i)) t := by
  unfold tied
  rw [List.take_add_one, h, List.foldl_append]; rfl
/-- ints in a list's values -/
def IV (l : List Int) (vs : List Value) : Prop := ∀ (X : Addr → Prop) (h : Heap), RepAll X h (l.map .int) vs
theorem IV.nil : IV [] [] := fun _ _ => trivial
theorem IV.push {l : List Int} {vs : Array Value} {i : Int} {v : Value} (h : IV l vs.toList) {X : Addr → Prop} {hp : Heap} (hv : Rep X hp (.int i) v) : IV (l ++ [i]) (vs.push v).toList := fun X' h' => by
  obtain ⟨t, rfl⟩ := hv
  rw [Array.toList_push, List.map_append]
  exact (h X' h').append ⟨⟨t, rfl⟩, trivial⟩
theorem IV.length {l : List Int} {vs : List Value} (h : IV l vs) : vs.length = l.length := by
  have := (h (fun _ => False) ⟨#[], default⟩).length
  simpa using this
/-- the lists at as hold rows -/
def RowsAt (h : Heap) (as : List Addr) (rows : List (List Int)) : Prop := ∀ j a, as[j]? = some a → ∃ its k, h.get? a = some (lstO its k) ∧ IV (rows.getD j []) its.toList
theorem RowsAt.push {h h' : Heap} {as : List Addr} {rows : List (List Int)} (r : RowsAt h as rows) (hn : as.Nodup) {j : Nat} {a : Addr} {its : Array Value} {k : Nat} {v : Value} {i : Int} (ha : as[j]? = some a) (hj : j < rows.length) (e : h.get? a = some (lstO its k)) (iv : IV (rows.getD j []) its.toList)
    (ko : KO (fun b => b = a) h h') (e' : h'.get? a = some (lstO (its.push v) (k + 1))) {X : Addr → Prop} {hp : Heap} (hv : Rep X hp (.int i) v) : RowsAt h' as (rows.modify j (· ++ [i])) := fun j' a' ha' => by
  by_cases hjj : j' = j
  · subst hjj
    rw [ha] at ha'; cases ha'
    refine ⟨_, _, e', ?_⟩
    rw [List.getD_eq_getElem?_getD, List.getElem?_modify, List.getElem?_eq_getElem hj]
    rw [List.getD_eq_getElem?_getD, List.getElem?_eq_getElem hj] at iv
    simpa using iv.push hv
  · have hne : a' ≠ a := fun q => by
      subst q
      obtain ⟨h1, e1⟩ := List.getElem?_eq_some_iff.mp ha
      obtain ⟨h2, e2⟩ := List.getElem?_eq_some_iff.mp ha'
      exact hjj ((List.getElem?_inj h2 hn).mp (ha'.trans ha.symm))
    obtain ⟨its', k', e2, iv2⟩ := r j' a' ha'
    refine ⟨its', k', ko a' _ hne e2, ?_⟩
    rw [List.getD_eq_getElem?_getD, List.getElem?_modify]
    rw [List.getD_eq_getElem?_getD] at iv2
    have e3 : ((fun a => if j = j' then a ++ [i] else a) <$> rows[j']?) = rows[j']? := by cases rows[j']? <;> simp [Ne.symm hjj]
    rw [e3]; exact iv2

def Wl (g : Heap) (D : Addr) (as : List Addr) (k : Nat) : Wd := ⟨fun h => HK g h ∧ h.get? D = some (lstO (as.map Value.ref).toArray k), fun _ _ kk o => ⟨o.1.trans kk, kk _ _ o.2⟩⟩
theorem FR.notI {g hb h : Heap} {X : Addr → Prop} {sc : Scope} {env : Env} {δ : TEnv} (f : FR g hb X sc env δ h) (hk : sc.kind = .function) : interactive env = false := by
  unfold interactive; rw [f.scope, hk]; rfl
theorem RowsAt.rep {h : Heap} {X : Addr → Prop} {as : List Addr} {rows : List (List Int)} (r : RowsAt h as rows) (hl : as.length = rows.length) (hX : ∀ a ∈ as, ¬ X a) : RepAll X h (rows.map intsD) (as.map Value.ref) := by
  induction as generalizing rows with
  | nil => cases rows with | nil => trivial | cons _ _ => cases hl
  | cons a as ih =>
    cases rows with
    | nil => cases hl
    | cons l rows =>
      obtain ⟨its, k, e, iv⟩ := r 0 a rfl
      refine ⟨⟨a, its, k, rfl, hX a List.mem_cons_self, e, iv X h⟩, ih (fun j a' ha' => ?_) (by simpa using hl) fun a' ha' => hX a' (List.mem_cons_of_mem _ ha')⟩
      have := r (j + 1) a' (by simpa using ha')
      simpa using this
theorem modify_lens (rows : List (List Int)) (j : Nat) (i : Int) : ∀ n : Nat, (∀ j, (rows.getD j []).length ≤ n) → ∀ j', ((rows.modify j (· ++ [i])).getD j' []).length ≤ n + 1 := fun n h j' => by
  have := h j'
  rw [List.getD_eq_getElem?_getD] at this
  rw [List.getD_eq_getElem?_getD, List.getElem?_modify]
  cases q : rows[j']? with
  | none => simp
  | some l =>
    rw [q] at this
    simp only [Option.getD_some] at this
    show (if j = j' then l ++ [i] else l).length ≤ n + 1
    split
    · simp; omega
    · omega
theorem tied_lens (ties : List (Int × Int)) : ∀ i : Nat, ∀ j, ((tied (ties.take i)).getD j []).length ≤ 2 * i
  | 0, j => by
    have : tied (ties.take 0) = List.replicate 5 [] := rfl
    rw [this, List.getD_eq_getElem?_getD, List.getElem?_replicate]
    split <;> simp
  | i + 1, j => by
    cases q : ties[i]? with
    | none =>
      have : ties.take (i + 1) = ties.take i := by rw [List.take_add_one, q]; simp
      rw [this]
      have := tied_lens ties i j; omega
    | some t =>
      rw [tied_take q]
      exact modify_lens _ _ _ (2 * i + 1) (modify_lens _ _ _ (2 * i) (tied_lens ties i)) j
section
variable {w : World} {g : Heap}
theorem tied_ok (G : GW w g) (ties : List (Int × Int)) (ht : tiesOk ties) (n : Nat) : FnR pg w g (n + 1) 52 [tiesD ties] (rowsD (tied ties)) := by
  refine FnR.of G (xs := [Str.ofString "ties"]) (by rfl) ?_ (by rfl) (by rfl) (by rfl) (by rfl) (by rfl) (by rfl) (fun vs hvs => ?_) (by decide) (by decide) (by rfl)
  · intro X A s env hb Q E rm f hX hQ
    have hW : ∀ h, (Wg g).ok h → HK g h := fun h ok => ok
    have nRange : GName (Wg g) (Str.ofString "range") (.type "range") := gname_bi G hW (by rfl) (by rfl) (by decide)
    refine wpAny_execs_cons (st_news (W := Wg g) (n := n) (o := lstO #[] 0) (ds := rangeD 5) rfl rm f f.gk (It.range (k := 5) (Ev.gname nRange (by rfl)) Ev.int (by decide) (by decide) (by rfl)) NewE.list (by decide) fun D as kD h₁ tk₁ hal N hDas hDs hgD f₁ _ => ?_)
    have hal5 : as.length = 5 := hal
    have hDb : hb.get? D = none := none_of f.hk hDs
    have hab : ∀ a ∈ as, hb.get? a = none := fun a q => none_of f.hk (N.new a q)
    have hao : ∀ a ∈ as, ¬ OwnF (ownC _) env a := fun a q z => by obtain ⟨ns, _⟩ := f₁.own z; exact (ns _ _).1 (N.at' a q)
    have hDo : ¬ OwnF (ownC _) env D := fun z => by obtain ⟨ns, _⟩ := f₁.own z; exact (ns _ _).1 hgD
    refine wpAny_execs_cons (st_for (W := Wg g) (n := n) (ds := ties.map fun t => .tuple [.int t.1, .int t.2]) (T := Tgt (.Tuple [.Name (Str.ofString "one") _, .Name (Str.ofString "other") _] _ _)) (fun _ => TEnv.put _ (Str.ofString "rows") (.raw (.ref D)))
      (fun i h => h.get? D = some (lstO (as.map Value.ref).toArray kD) ∧ RowsAt h as (tied (ties.take i))) (fun b => b ∈ as) rm f₁ f₁.gk (It.pairs (Ev.name (by rfl) (by rfl)) (mem_lists fun t _ => ⟨_, _, rfl⟩) (by rfl) (by rfl))
      ⟨hgD, fun j a ha => ?_⟩ (fun b q => .inr (.inr q)) (fun i h h' O hI ko hO => ?_) (fun i d X' h tk Qb E' hd hXX f₂ hI hQb => ?_) fun h₃ tk₃ f₃ hI => ?_)
    · refine ⟨#[], 0, N.at' a (List.mem_of_getElem? ha), ?_⟩
      have hj := (List.getElem?_eq_some_iff.mp ha).1
      rw [hal5] at hj
      have : (tied (ties.take 0)).getD j [] = [] := by
        show (List.replicate 5 ([] : List Int)).getD j [] = []
        rw [List.getD_eq_getElem?_getD, List.getElem?_replicate, if_pos hj]; rfl
      rw [this]; exact IV.nil
    · have keep : ∀ b o, h.get? b = some o → (∃ vs m, o = lstO vs m) → (b = D ∨ b ∈ as) → h'.get? b = some o := fun b o e ho hb' => by
        refine ko b o (fun q => ?_) e
        rcases hO b q with ⟨_, z⟩ | z
        · obtain ⟨vs, m, rfl⟩ := ho
          exact (z.notSeq vs m).1 e
        · exact hb'.elim (fun e => hDo (e ▸ z)) fun e => hao b e z
      refine ⟨keep D _ hI.1 ⟨_, _, rfl⟩ (.inl rfl), fun j a ha => ?_⟩
      obtain ⟨its, k, e, iv⟩ := hI.2 j a ha
      exact ⟨its, k, keep a _ e ⟨_, _, rfl⟩ (.inr (List.mem_of_getElem? ha)), iv⟩
    · rw [List.getElem?_map] at hd
      cases ht' : ties[i]? with
      | none => rw [ht'] at hd; cases hd
      | some t =>
        rw [ht'] at hd
        cases hd
        obtain ⟨a, b⟩ := t
        obtain ⟨⟨a0, a5⟩, b0, b5⟩ := ht.2 _ (List.mem_of_getElem? ht')
        have hil : i < ties.length := (List.getElem?_eq_some_iff.mp ht').1
        have hi20 : i < 20 := Nat.lt_of_lt_of_le hil ht.1
        dsimp only at a0 a5 b0 b5
        obtain ⟨adA, hA⟩ : ∃ x, as[a.toNat]? = some x := ⟨_, List.getElem?_eq_getElem (by omega)⟩
        obtain ⟨adB, hB⟩ : ∃ x, as[b.toNat]? = some x := ⟨_, List.getElem?_eq_getElem (by omega)⟩
        obtain ⟨its, k, e, iv⟩ := hI.2 _ _ hA
        have hmA : adA ∈ as := List.mem_of_getElem? hA
        have hmB : adB ∈ as := List.mem_of_getElem? hB
        have l1 : its.size ≤ sizeLine := by
          have h1 := iv.length
          have h2 := tied_lens ties i a.toNat
          simp only [Array.length_toList] at h1
          exact Nat.le_trans (show its.size ≤ 40 by omega) (by decide)
        have len5 : (tied (ties.take i)).length = 5 := tied_length _
        refine wpAny_execs_cons (st_append (W := Wl g D as kD) (n := n) (d := .int b) (a := adA) rm f₂ ⟨f₂.gk, hI.1⟩ (Ev.itemRaw (fun h ok => ok.2) (Ev.name (by rfl) (by rfl)) (Ev.name (by rfl) (by rfl)) a0 (by omega) hA) (Ev.name (by rfl) (by rfl)) e (hXX _ (.inr (.inr hmA))) (hab _ hmA) l1 (fun h₄ tk₄ v f₄ ko₄ e₄ r₄ => ?_) (by rfl) (by rfl) (f₂.notI (by rfl)))
        have R4 := hI.2.push N.nodup hA (by omega) e iv ko₄ e₄ r₄
        have hD4 : h₄.get? D = some (lstO (as.map Value.ref).toArray kD) := ko₄ D _ (fun q => hDas (q ▸ hmA)) hI.1
        obtain ⟨its5, k5, e5, iv5⟩ := R4 _ _ hB
        have l5 : its5.size ≤ sizeLine := by
          have h1 := iv5.length
          have h2 := modify_lens _ a.toNat b (2 * i) (tied_lens ties i) b.toNat
          simp only [Array.length_toList] at h1
          exact Nat.le_trans (show its5.size ≤ 41 by omega) (by decide)
        refine wpAny_execs_cons (st_append (W := Wl g D as kD) (n := n) (d := .int a) (a := adB) rm f₄ ⟨f₄.gk, hD4⟩ (Ev.itemRaw (fun h ok => ok.2) (Ev.name (by rfl) (by rfl)) (Ev.name (by rfl) (by rfl)) b0 (by omega) hB) (Ev.name (by rfl) (by rfl)) e5 (hXX _ (.inr (.inr hmB))) (hab _ hmB) l5 (fun h₆ tk₆ v₆ f₆ ko₆ e₆ r₆ => ?_) (by rfl) (by rfl) (f₂.notI (by rfl)))
        refine wpAny_execs_nil (hQb h₆ tk₆ (f₆.weak (tgt_new2 (ds := [_]) (by rfl) (by rfl) _ List.mem_cons_self)) ⟨ko₆ D _ (fun q => hDas (q ▸ hmB)) hD4, ?_⟩ fun b' o q e => ?_)
        · rw [tied_take ht']
          exact R4.push N.nodup hB (by rw [List.length_modify]; omega) e5 iv5 ko₆ e₆ r₆
        · exact ko₆ b' o (fun z => q (.inr (z ▸ hmB))) (ko₄ b' o (fun z => q (.inr (z ▸ hmA))) e)
    · refine wpAny_execs_cons (st_return (W := Wg g) (n := n) (r := .raw (.ref D)) rm f₃ f₃.gk (Ev.name (by rfl) (by rfl)) fun v h' tk k f r => ?_)
      cases r
      refine hQ _ h' tk f.hk ⟨D, _, kD, rfl, hX.fresh hDb, k _ _ hI.1, ?_⟩
      have hR : RowsAt h' as (tied ties) := fun j a ha => by
        obtain ⟨its, k2, e, iv⟩ := hI.2 j a ha
        refine ⟨its, k2, k _ _ e, ?_⟩
        rw [List.length_map, List.take_length] at iv
        exact iv
      have := hR.rep (X := X) (by rw [hal5, tied_length]) fun a q => hX.fresh (hab a q)
      simpa using this
  · match vs, hvs with
    | [v], _ => rfl
end
end Mine

namespace Mine
abbrev Mp := List (Int × Int)
def known (m : Mp) (row : List Int) : List Int := (row.filter fun o => (look m o).isSome).map fun o => (look m o).getD 0
def free5 (taken : List Int) : List Int := (rangeL 5).filter fun c => !taken.any fun t => t == c
def longStep (rows : List (List Int)) (st : Mp × Mp) (place : Int) : Mp × Mp :=
  (st.1 ++ [(place, 1 + maxL ([0] ++ known st.1 (rows.getD place.toNat [])))], st.2 ++ [(place, (free5 (known st.2 (rows.getD place.toNat []))).headD 0)])
def longRun (rows : List (List Int)) (order : List Int) : Mp × Mp := order.foldl (longStep rows) ([], [])
def longest (rows : List (List Int)) (order : List Int) : Int × Int := (maxL ((longRun rows order).1.map Prod.snd), 1 + maxL ((longRun rows order).2.map Prod.snd))
def rowsOk4 (rows : List (List Int)) : Prop := rows.length = 5 ∧ ∀ r ∈ rows, r.length ≤ 4 ∧ ∀ c ∈ r, 0 ≤ c ∧ c < 5
theorem rowsOk4.ok {rows : List (List Int)} (h : rowsOk4 rows) : rowsOk rows := ⟨h.1, fun r hr => ⟨Nat.le_succ_of_le (h.2 r hr).1, (h.2 r hr).2⟩⟩
theorem longRun_take {rows : List (List Int)} {order : List Int} {i : Nat} {p : Int} (h : order[i]? = some p) : longRun rows (order.take (i + 1)) = longStep rows (longRun rows (order.take i)) p := by
  unfold longRun
  rw [List.take_add_one, h, List.foldl_append]; rfl
theorem longRun_keys (rows : List (List Int)) (order : List Int) : (longRun rows order).1.map Prod.fst = order ∧ (longRun rows order).2.map Prod.fst = order := by
  have gen : ∀ (l : List Int) (st : Mp × Mp), (l.foldl (longStep rows) st).1.map Prod.fst = st.1.map Prod.fst ++ l ∧ (l.foldl (longStep rows) st).2.map Prod.fst = st.2.map Prod.fst ++ l := fun l => by
    induction l with
    | nil => intro st; simp
    | cons a l ih =>
      intro st
      rw [List.foldl_cons]
      obtain ⟨h1, h2⟩ := ih (longStep rows st a)
      rw [h1, h2]
      simp [longStep]
  have := gen order ([], [])
  simpa [longRun] using this
theorem look_none {m : Mp} {k : Int} (h : k ∉ m.map Prod.fst) : look m k = none := by
  unfold look
  have : m.find? (fun kv => decide (kv.1 = k)) = none := by
    rw [List.find?_eq_none]
    intro kv hkv
    simp only [decide_eq_true_eq]
    intro q
    exact h (List.mem_map.mpr ⟨kv, hkv, q⟩)
  rw [this]; rfl
theorem nodup_le {α : Type} [DecidableEq α] : ∀ {xs l : List α}, xs.Nodup → (∀ x ∈ xs, x ∈ l) → xs.length ≤ l.length
  | [], _, _, _ => Nat.zero_le _
  | x :: xs, l, hn, hs => by
    simp only [List.nodup_cons] at hn
    have hx : x ∈ l := hs x List.mem_cons_self
    have ih := nodup_le (xs := xs) (l := l.erase x) hn.2 fun y hy => (List.mem_erase_of_ne (fun q => by subst q; exact hn.1 hy)).mpr (hs y (List.mem_cons_of_mem _ hy))
    have hl := List.length_erase_of_mem hx
    have : 0 < l.length := List.length_pos_of_mem hx
    simp only [List.length_cons]; omega
theorem free5_ne {taken : List Int} (h : taken.length ≤ 4) : free5 taken ≠ [] := fun q => by
  unfold free5 at q
  rw [List.filter_eq_nil_iff] at q
  have : (rangeL 5).length ≤ taken.length := nodup_le (by decide) fun x hx => by
    have := q x hx
    simp only [Bool.not_eq_true', Bool.not_eq_false, List.any_eq_true, beq_iff_eq] at this
    obtain ⟨y, hy, rfl⟩ := this
    exact hy
  rw [rangeL_length] at this
  have e : (5 : Int).toNat = 5 := rfl
  omega
theorem known_le (m : Mp) (row : List Int) : (known m row).length ≤ row.length := by
  unfold known; rw [List.length_map]; exact List.length_filter_le _ _
theorem any_ints (taken : List Int) (c : Int) : (taken.map PyData.int).any (fun y => PyData.eqv y (.int c)) = taken.any fun t => t == c := by
  rw [List.any_map]; rfl
theorem look_get {m : Mp} {k : Int} (h : (look m k).isSome = true) : look m k = some ((look m k).getD 0) := by
  cases q : look m k with
  | none => rw [q] at h; cases h
  | some x => rfl
theorem put_two {δ : TEnv} {y z : Str} {a b : Ent} (hy : δ y = none) (hz : δ z = none) : ∀ x r, δ x = some r → ((δ.put y a).put z b) x = some r := fun x r e => by
  have h1 : x ≠ y := fun q => by rw [q, hy] at e; cases e
  have h2 : x ≠ z := fun q => by rw [q, hz] at e; cases e
  unfold TEnv.put
  rw [if_neg h2, if_neg h1]; exact e
theorem known_flat (m : Mp) (row : List Int) : (row.map PyData.int).flatMap (fun d => if (look m (toI d)).isSome = true then [PyData.int ((look m (toI d)).getD 0)] else []) = (known m row).map .int := by
  rw [flat_filterG (p := fun o => (look m o).isSome) (f := fun o => PyData.int ((look m o).getD 0))]
  unfold known; rw [List.map_map]; rfl
def W2 (w : World) (g : Heap) (a1 a2 : Addr) (m1 m2 : Mp) : Wd := ⟨fun h => HK g h ∧ DI w h a1 m1 ∧ DI w h a2 m2, fun _ _ k o => ⟨o.1.trans k, o.2.1.keeps k, o.2.2.keeps k⟩⟩
section
variable {w : World} {g : Heap}
theorem longest_ok (G : GW w g) (rows : List (List Int)) (hr : rowsOk4 rows) (order : List Int) (hn : order.Nodup) (ho : order ≠ []) (ho5 : ∀ p ∈ order, 0 ≤ p ∧ p < 5) (n : Nat) :
    FnR pg w g (n + 1) 57 [intsD order, rowsD rows] (.tuple [.int (longest rows order).1, .int (longest rows order).2]) := by
  refine FnR.of G (xs := [Str.ofString "order", Str.ofString "rows"]) (by rfl) ?_ (by rfl) (by rfl) (by rfl) (by rfl) (by rfl) (by rfl) (fun vs hvs => ?_) (by decide) (by decide) (by rfl)
  · intro X A s env hb Q E rm f hX hQ
    have hW : ∀ h, (Wg g).ok h → HK g h := fun h ok => ok
    have n5 : order.length ≤ 5 := by
      have := nodup_le (xs := order) (l := rangeL 5) hn fun p hp => mem_rangeL.mpr (ho5 p hp)
      rw [rangeL_length] at this; exact this
    -- the dicts
    have big : ∀ h, HK g h → 67 < h.objs.size := fun h k => Heap.lt_size (k _ _ (G.x 67 _ (by rfl)))
    generalize ha1 : s.heap.objs.size = a1
    have ha1n : s.heap.get? a1 = none := ha1 ▸ get_size _
    have ha1s : (a1 == sysModules) = false := by
      have := big _ f.gk
      rw [ha1] at this
      exact beq_eq_false_iff_ne.mpr fun q => by rw [q] at this; exact absurd this (by decide)
    generalize hH1 : s.heap.push { cls := .type "dict", data := .dict #[] } = H1
    have kH1 : HK s.heap H1 := hH1 ▸ HK.push _ _
    have d1 : DI w H1 a1 [] := ⟨[], by rw [← hH1, ← ha1]; exact Heap.DictOf.new _, rfl, fun kv h => by cases h⟩
    generalize ha2 : H1.objs.size = a2
    have ha2n1 : H1.get? a2 = none := ha2 ▸ get_size _
    have ha2n : s.heap.get? a2 = none := none_of kH1 ha2n1
    have ha2s : (a2 == sysModules) = false := by
      have := big _ (f.gk.trans kH1)
      rw [ha2] at this
      exact beq_eq_false_iff_ne.mpr fun q => by rw [q] at this; exact absurd this (by decide)
    generalize hH2 : H1.push { cls := .type "dict", data := .dict #[] } = H2
    have kH2 : HK H1 H2 := hH2 ▸ HK.push _ _
    have d2 : DI w H2 a2 [] := ⟨[], by rw [← hH2, ← ha2]; exact Heap.DictOf.new _, rfl, fun kv h => by cases h⟩
    have d1' : DI w H2 a1 [] := d1.keeps kH2
    have a12 : a1 ≠ a2 := fun q => by obtain ⟨o, e⟩ := d1.some; rw [q, ha2n1] at e; cases e
    have f₂ := f.aside (Y := fun b => b = a1 ∨ b = a2) (kH1.trans kH2) fun b q => by
      rcases q with rfl | rfl
      · exact ⟨ha1n, d1'.some⟩
      · exact ⟨ha2n, d2.some⟩
    have own1 : ¬ OwnF (ownC _) env a1 := fun q => by obtain ⟨o, e⟩ := (f.own q).2; rw [ha1n] at e; cases e
    have own2 : ¬ OwnF (ownC _) env a2 := fun q => by obtain ⟨o, e⟩ := (f.own q).2; rw [ha2n] at e; cases e
    have hb1 : hb.get? a1 = none := none_of f.hk ha1n
    have hb2 : hb.get? a2 = none := none_of f.hk ha2n
    refine wpAny_execs_cons (st_pair (g := g) (hb := hb) (n := n) rm f (by decide) (NewE.dict _ _ _ _ _ ?_) (.inl ((swapped_scope (env' := env0 _) f.scope _ _).trans rfl)))
    refine NewE.dict _ _ _ _ _ ⟨fun b => X b ∨ (b = a1 ∨ b = a2), H2, s.toks, .raw (.ref a1), .raw (.ref a2), ?_, f₂, ?_, ?_, fun h₃ tk₃ f₃ k₃ => ?_⟩
    · dsimp only
      rw [hH1, hH2]
    · rw [ha1]; rfl
    · dsimp only
      rw [hH1, ha2]; rfl
    have k₃' : KO (OwnF (ownC _) env) H2 h₃ := k₃
    have e1 : DI w h₃ a1 [] := d1'.at fun o e => k₃' a1 o own1 e
    have e2 : DI w h₃ a2 [] := d2.at fun o e => k₃' a2 o own2 e
    have nRange : GName (Wg g) (Str.ofString "range") (.type "range") := gname_bi G hW (by rfl) (by rfl) (by decide)
    refine wpAny_execs_cons (st_for (W := Wg g) (n := n) (ds := order.map .int) (T := Tgt (.Name (Str.ofString "place") _)) (fun _ => TEnv.put (TEnv.put _ (Str.ofString "long") (.raw (.ref a1))) (Str.ofString "colours") (.raw (.ref a2)))
      (fun i h => DI w h a1 (longRun rows (order.take i)).1 ∧ DI w h a2 (longRun rows (order.take i)).2) (fun b => b = a1 ∨ b = a2) rm f₃ f₃.gk (It.list (Ev.name (by rfl) (by rfl)) (by rfl))
      ⟨e1, e2⟩ (fun b q => .inr q) (fun i h h' O hI ko hO => ⟨hI.1.at fun o e => ko _ o (fun q => (hO _ q).elim (fun z => hI.1.notIter z.2) own1) e, hI.2.at fun o e => ko _ o (fun q => (hO _ q).elim (fun z => hI.2.notIter z.2) own2) e⟩)
      (fun i d X' h tk Qb E' hd hXX f₄ hI hQb => ?_) fun h₅ tk₅ f₅ hI => ?_)
    · rw [List.getElem?_map] at hd
      cases hp : order[i]? with
      | none => rw [hp] at hd; cases hd
      | some place =>
        rw [hp] at hd
        cases hd
        obtain ⟨p0, p5⟩ := ho5 place (List.mem_of_getElem? hp)
        have hil : i < order.length := (List.getElem?_eq_some_iff.mp hp).1
        obtain ⟨row1, row2, row3⟩ := rows_row hr.ok (i := place.toNat) (by omega)
        have row4 : (rows.getD place.toNat []).length ≤ 4 := by
          have hl : place.toNat < rows.length := by rw [hr.1]; omega
          rw [List.getD_eq_getElem?_getD, List.getElem?_eq_getElem hl]
          exact (hr.2 _ (List.getElem_mem hl)).1
        generalize hst : longRun rows (order.take i) = st at hI
        obtain ⟨lg, co⟩ := st
        have hk := longRun_keys rows (order.take i)
        rw [hst] at hk
        have hnew : place ∉ order.take i := by
          intro q
          obtain ⟨j, hj, e⟩ := List.mem_iff_getElem.mp q
          have hj' : j < i := by rw [List.length_take] at hj; omega
          rw [List.getElem_take] at e
          have e2 : order[j]? = some place := by rw [List.getElem?_eq_getElem (by omega), e]
          have := (List.getElem?_inj (by omega) hn).mp (e2.trans hp.symm)
          omega
        have lenT : (order.take i).length ≤ 5 := by rw [List.length_take]; omega
        have lenL : lg.length ≤ sizeLine := by
          have := congrArg List.length hk.1
          rw [List.length_map] at this
          rw [this]; exact Nat.le_trans lenT (by decide)
        have lenC : co.length ≤ sizeLine := by
          have := congrArg List.length hk.2
          rw [List.length_map] at this
          rw [this]; exact Nat.le_trans lenT (by decide)
        have W2W : ∀ {m1 m2 : Mp} h, (W2 w g a1 a2 m1 m2).ok h → HK g h := fun h ok => ok.1
        have nMax : ∀ {m1 m2 : Mp}, GName (W2 w g a1 a2 m1 m2) (Str.ofString "max") (.builtin "max") := gname_bi G W2W (by rfl) (by rfl) (by decide)
        have nRange2 : ∀ {m1 m2 : Mp}, GName (W2 w g a1 a2 m1 m2) (Str.ofString "range") (.type "range") := gname_bi G W2W (by rfl) (by rfl) (by decide)
        refine wpAny_execs_cons (st_setNew (w := w) (W := W2 w g a1 a2 lg co) (n := n) (a := a1) (m := lg) (k := place) (x := 1 + maxL ([0] ++ known lg (rows.getD place.toNat []))) rm f₄ ⟨f₄.gk, hI⟩ (fun h ok => ok.2.1) ?_ (Ev.name (by rfl) (by rfl)) (Ev.name (by rfl) (by rfl)) (look_none (by rw [hk.1]; exact hnew)) (hXX _ (.inr (.inl rfl))) hb1 own1 lenL fun h₆ tk₆ f₆ ko₆ d₆ => ?_)
        · refine Ev.binop (d₁ := .int 1) (d₂ := .int (maxL ([0] ++ known lg (rows.getD place.toNat [])))) Ev.int (Ev.call1 (d₁ := intsD ([0] ++ known lg (rows.getD place.toNat []))) (Ev.gname nMax (by rfl)) (Ev.binop (d₁ := .list [.int 0]) (d₂ := intsD (known lg (rows.getD place.toNat []))) (Ev.list (.cons Ev.int .nil) (show 1 ≤ sizeLine by decide))
            (Ev.cast (Ev.comp1 (ds := (rows.getD place.toNat []).map .int) (T := Tgt (.Name (Str.ofString "other") _)) (fun d => if (look lg (toI d)).isSome = true then [.int ((look lg (toI d)).getD 0)] else []) (It.list (Ev.item (k := place) (xs := rows.map intsD) (Ev.name (by rfl) (by rfl)) (Ev.name (by rfl) (by rfl)) p0 (by omega) row1) (by rfl)) (tgt_new (by rfl))
              (mem_lists fun other _ => BodyJ.last (.one (Tr.inDict (fun h ok => ok.2.1) ha1s (Ev.name (by rfl) (by rfl)) (Ev.name (by rfl) (by rfl)))) fun hs => Ev.dictItem (fun h ok => ok.2.1) (Ev.name (by rfl) (by rfl)) (Ev.name (by rfl) (by rfl)) (look_get hs)) ?_) (congrArg PyData.list (known_flat lg _))) ?_) (F1R.max (by simp))) (BinR.add _ _)
          · rw [known_flat, List.length_map]; exact Nat.le_trans (known_le _ _) (Nat.le_trans row4 (by decide))
          · refine BinR.addList (xs := [.int 0]) (ys := (known lg (rows.getD place.toNat [])).map .int) ?_
            have := known_le lg (rows.getD place.toNat [])
            rw [List.length_map]
            exact Nat.le_trans (show 1 + _ ≤ 6 by omega) (by decide)
        have d₆' : DI w h₆ a2 co := hI.2.at fun o e => ko₆ a2 o (fun q => a12 q.symm) e
        generalize hlg : lg ++ [(place, 1 + maxL ([0] ++ known lg (rows.getD place.toNat [])))] = lg' at d₆
        refine wpAny_execs_cons (st_comp1 (W := W2 w g a1 a2 lg' co) (n := n) (ds := (rows.getD place.toNat []).map .int) (T := Tgt (.Name (Str.ofString "other") _)) (fun d => if (look co (toI d)).isSome = true then [.int ((look co (toI d)).getD 0)] else []) rm f₆ ⟨f₆.gk, d₆, d₆'⟩
          (It.list (Ev.item (k := place) (xs := rows.map intsD) (Ev.name (by rfl) (by rfl)) (Ev.name (by rfl) (by rfl)) p0 (by omega) row1) (by rfl)) (tgt_new (by rfl))
          (mem_lists fun other _ => BodyJ.last (.one (Tr.inDict (fun h ok => ok.2.2) ha2s (Ev.name (by rfl) (by rfl)) (Ev.name (by rfl) (by rfl)))) fun hs => Ev.dictItem (fun h ok => ok.2.2) (Ev.name (by rfl) (by rfl)) (Ev.name (by rfl) (by rfl)) (look_get hs)) (by rw [known_flat, List.length_map]; exact Nat.le_trans (known_le _ _) (Nat.le_trans row4 (by decide))) fun h₇ tk₇ f₇ k₇ => ?_)
        rw [known_flat] at f₇
        have k₇' : KO (OwnF (ownC _) env) h₆ h₇ := k₇
        have d₇ : DI w h₇ a1 lg' := d₆.at fun o e => k₇' a1 o own1 e
        have d₇' : DI w h₇ a2 co := d₆'.at fun o e => k₇' a2 o own2 e
        have hfree := free5_ne (taken := known co (rows.getD place.toNat [])) (Nat.le_trans (known_le _ _) row4)
        refine wpAny_execs_cons (st_setNew (w := w) (W := W2 w g a1 a2 lg' co) (n := n) (a := a2) (m := co) (k := place) (x := (free5 (known co (rows.getD place.toNat []))).headD 0) rm f₇ ⟨f₇.gk, d₇, d₇'⟩ (fun h ok => ok.2.2) ?_ (Ev.name (by rfl) (by rfl)) (Ev.name (by rfl) (by rfl)) (look_none (by rw [hk.2]; exact hnew)) (hXX _ (.inr (.inr rfl))) hb2 own2 lenC fun h₈ tk₈ f₈ ko₈ d₈ => ?_)
        · refine Ev.item (k := 0) (xs := (free5 (known co (rows.getD place.toNat []))).map .int) (Ev.cast (Ev.comp1 (ds := rangeD 5) (T := Tgt (.Name (Str.ofString "colour") _)) (fun d => if (!(known co (rows.getD place.toNat [])).any fun t => t == toI d) = true then [d] else []) (It.range (k := 5) (Ev.gname nRange2 (by rfl)) Ev.int (by decide) (by decide) (by rfl)) (tgt_new (by rfl)) ?_ ?_) ?_) Ev.int (by decide) (by decide) ?_
          · rw [rangeD_eq]
            exact mem_lists fun c _ => BodyJ.last (.one (Tr.cast (Tr.cmp (d₁ := .int c) (d₂ := .list ((known co (rows.getD place.toNat [])).map .int)) (Ev.name (by rfl) (by rfl)) (Ev.name (by rfl) (by rfl)) (CmpR.notIn (Nat.zero_le _))) (by rw [any_ints]; rfl))) fun _ => Ev.name (by rfl) (by rfl)
          · rw [rangeD_eq, flat_filterI (p := fun c => !(known co (rows.getD place.toNat [])).any fun t => t == c), List.length_map]
            exact Nat.le_trans (List.length_filter_le _ _) (by decide)
          · rw [rangeD_eq, flat_filterI (p := fun c => !(known co (rows.getD place.toNat [])).any fun t => t == c)]; rfl
          · rw [List.getElem?_map]
            cases q : free5 (known co (rows.getD place.toNat [])) with
            | nil => exact absurd q hfree
            | cons x xs => rfl
        · have d₈' : DI w h₈ a1 lg' := d₇.at fun o e => ko₈ a1 o (fun q => a12 q) e
          refine wpAny_execs_nil (hQb h₈ tk₈ (f₈.weak ?_) ⟨?_, ?_⟩ fun b' o q e => ?_)
          · exact put_two (by rfl) (by rfl)
          · rw [longRun_take hp, hst, longStep]; dsimp only; rw [hlg]; exact d₈'
          · rw [longRun_take hp, hst, longStep]; exact d₈
          · exact ko₈ b' o (fun z => q (.inr (.inr z))) (k₇' b' o (fun z => q (.inl z)) (ko₆ b' o (fun z => q (.inr (.inl z))) e))
    · have key := longRun_keys rows order
      have ne1 : (longRun rows order).1 ≠ [] := fun q => ho (by rw [← key.1, q]; rfl)
      have ne2 : (longRun rows order).2 ≠ [] := fun q => ho (by rw [← key.2, q]; rfl)
      rw [List.length_map, List.take_length] at hI
      have W2W : ∀ {m1 m2 : Mp} h, (W2 w g a1 a2 m1 m2).ok h → HK g h := fun h ok => ok.1
      have nMax : ∀ {m1 m2 : Mp}, GName (W2 w g a1 a2 m1 m2) (Str.ofString "max") (.builtin "max") := gname_bi G W2W (by rfl) (by rfl) (by decide)
      refine wpAny_execs_cons (st_return (W := W2 w g a1 a2 (longRun rows order).1 (longRun rows order).2) (n := n) (r := .dat (.tuple [.int (longest rows order).1, .int (longest rows order).2])) rm f₅ ⟨f₅.gk, hI⟩
        (Ev.tuple (.cons (Ev.maxValues (fun h ok => ok.2.1) ha1s ne1 (Ev.gname nMax (by rfl)) (Ev.name (by rfl) (by rfl))) (.cons (Ev.binop (d₁ := .int 1) (d₂ := .int (maxL ((longRun rows order).2.map Prod.snd))) Ev.int (Ev.maxValues (fun h ok => ok.2.2) ha2s ne2 (Ev.gname nMax (by rfl)) (Ev.name (by rfl) (by rfl))) (BinR.add _ _)) .nil)) (show 2 ≤ sizeLine by decide)) fun v h' tk k f r => ?_)
      exact hQ v h' tk f.hk (Rep.mono (KS.refl _ _) (fun _ q => .inl q) _ _ r)
  · match vs, hvs with
    | [v, u], _ => rfl
end
end Mine

namespace Mine
section
variable {w : World} {g : Heap}
theorem DictOfH.ko' {h h' : Heap} {d : Addr} {xs : Xs} {O : Addr → Prop} (x : h.DictOfH (tkd w) d xs) (k : KO O h h') (hd : ¬ O d) (ht : ∀ y ∈ xs, ¬ O y.2.1) : h'.DictOfH (tkd w) d xs := by
  obtain ⟨o, es, ep, e, c, dd, he, hk, hn⟩ := x
  refine ⟨o, es, ep, k d o hd e, c, dd, he, fun y hy => ?_, hn⟩
  obtain ⟨o', items, m, e', c', d', hi⟩ := hk y hy
  exact ⟨o', items, m, k _ o' (ht y hy) e', c', d', hi⟩
theorem DictOfH.key {h : Heap} {d : Addr} {xs : Xs} (x : h.DictOfH (tkd w) d xs) {y : List Mix × Addr × Value} (hy : y ∈ xs) : (tkd w).is h y.1 y.2.1 := let ⟨_, _, _, _, _, _, _, hk, _⟩ := x; hk y hy
theorem notTup_key {h : Heap} {ks : List Mix} {a : Addr} (x : (tkd w).is h ks a) (n : NoTup h a) : False := by
  obtain ⟨o', items, m, e', c', d', hi⟩ := x
  exact n o' items m e' c' d'
theorem DictOfH.stay {h h' hh : Heap} {O : Addr → Prop} {d : Addr} {xs : Xs} {own : List Str} {env : Env} (hx : h.DictOfH (tkd w) d xs) (ko : KO O h h') (hO : ∀ b, O b → (hh.get? b = none ∧ IterAt h b) ∨ OwnF own env b) (ho : ¬ OwnF own env d) (hko : ∀ x ∈ xs, ¬ OwnF own env x.2.1) : h'.DictOfH (tkd w) d xs :=
  DictOfH.ko' hx ko (fun q => (hO _ q).elim (fun z => DictOfH.notIter hx z.2) ho) fun y hy q => (hO _ q).elim (fun z => notTup_key (DictOfH.key hx hy) (NoTup.iter z.2)) (hko y hy)
theorem atKey_take {xs ys : Xs} {i : Nat} {x : List Mix × Addr × Value} (hn : ((ys ++ xs).map (·.1)).Nodup) (hx : xs[i]? = some x) : atKey (ys ++ xs.take i) x.1 = none := by
  refine atKey_none_of_get fun j p hj => ?_
  have hi := (List.getElem?_eq_some_iff.mp hx).1
  have e1 : (ys ++ xs)[ys.length + i]? = some x := by rw [List.getElem?_append_right (by omega)]; simpa using hx
  have hj' : j < (ys ++ xs.take i).length := (List.getElem?_eq_some_iff.mp hj).1
  rw [List.length_append, List.length_take] at hj'
  have e2 : (ys ++ xs)[j]? = some (x.1, p) := by
    rcases Nat.lt_or_ge j ys.length with h | h
    · rw [List.getElem?_append_left h] at hj ⊢; exact hj
    · rw [List.getElem?_append_right h] at hj ⊢
      rw [List.getElem?_take] at hj
      split at hj
      · exact hj
      · cases hj
  have := idxH_unique hn e1 (k := x.1) (p := x.2) (q := p) e2
  omega
theorem entT_eq {es : Array DictEntry} {xs : Xs} {x y : Str} {i : Nat} {z : List Mix × Addr × Value} (he : es.toList = xs.map (entryOfKey (tkd w))) (hz : xs[i]? = some z) (δ : TEnv) : entT es x y (.int (i : Int)) δ = (δ.put x (.raw (.ref z.2.1))).put y (.raw z.2.2) := by
  have : es[i]? = some (entryOfKey (tkd w) z) := by rw [entry_at he, hz]; rfl
  show (match es[((i : Int)).toNat]? with | some e => (δ.put x (.raw e.key)).put y (.raw e.val) | none => δ) = _
  rw [Int.toNat_natCast, this]
  rfl
theorem valT_eq {es : Array DictEntry} {xs : Xs} {x : Str} {i : Nat} {z : List Mix × Addr × Value} (he : es.toList = xs.map (entryOfKey (tkd w))) (hz : xs[i]? = some z) (δ : TEnv) : valT es x (.int (i : Int)) δ = δ.put x (.raw z.2.2) := by
  have : es[i]? = some (entryOfKey (tkd w) z) := by rw [entry_at he, hz]; rfl
  show (match es[((i : Int)).toNat]? with | some e => δ.put x (.raw e.val) | none => δ) = _
  rw [Int.toNat_natCast, this]
  rfl

theorem count_ok (G : GW w g) {n : Nat} {X : Addr → Prop} {A : Around} {s : Shared} {a : Addr} {ks : List Int} {Q : Value → Shared → Prop} {E : Value → Shared → Prop} (rm : Room (n + 1) A) (gk : HK g s.heap) (hX : XIn X s.heap) (hd : DT w s.heap a ks) (ha1 : (a == sysModules) = false)
    (hQ : ∀ v h' tk, HK s.heap h' → Rep X h' (.int ks.length) v → Q v { s with heap := h', toks := tk }) : wpAny (model pg w) A (call (.ref 28) [.ref a]) Q E s := by
  obtain ⟨xs, hxs, hks, hone⟩ := hd
  have hlen : xs.length = ks.length := by have := congrArg List.length hks; simpa using this
  refine enter G (rs := [.raw (.ref a)]) (xs := [Str.ofString "callers"]) (by rfl) rm gk hX ⟨rfl, trivial⟩ (fun A' env h₁ tk₁ E' rm' f _ => ?_) (by rfl) (by rfl) (by rfl) (by rfl) (by rfl) (by rfl) (fun vs hvs => ?_) (by decide) (by decide) (by rfl)
  · obtain ⟨es, ep, hraw, hes⟩ := DictOfH.raw hxs
    have hsz : es.size = xs.length := size_of_entries hes
    have hao : ¬ OwnF (ownC _) env a := fun q => by obtain ⟨o, e, _⟩ := hraw; have := f.fresh a q; rw [e] at this; cases this
    have hraw1 : RawD h₁ a es ep := hraw.at fun o e => f.hk a o e
    refine wpAny_execs_cons (st_assign (W := Wg g) (n := n) (r := .dat (.int 0)) rm' f f.gk Ev.int fun h₂ tk₂ f₂ k₂ => ?_)
    have k₂' : KO (OwnF (ownC _) env) h₁ h₂ := k₂
    have hraw2 : RawD h₂ a es ep := hraw1.at fun o e => k₂' a o hao e
    refine wpAny_execs_cons (st_forS (n := n) (ds := rangeD es.size) (T := valT es (Str.ofString "calls")) (fun i => TEnv.put _ (Str.ofString "nc") (.dat (.int i))) (fun _ _ => True) (fun _ => False) rm' f₂
      (values_src (W := Wg g) rm' f₂ f₂.gk (Ev.name (by rfl) (by rfl)) hraw2 ha1 ⟨hao, id⟩ (fun _ q => q.elim) (by rfl) (by rfl)) trivial (fun _ q => q.elim) (fun _ _ _ _ _ _ _ => trivial) (fun i d X' h tk Qb Eb hdd hXX f₃ _ hQb => ?_) fun h₃ tk₃ f₃ _ => ?_)
    · obtain ⟨hi, rfl⟩ := rangeD_get hdd
      have hi' : i < xs.length := by rw [← hsz]; simpa using hi
      obtain ⟨z, hz⟩ : ∃ z, xs[i]? = some z := ⟨_, List.getElem?_eq_getElem hi'⟩
      rw [valT_eq hes hz] at f₃
      obtain ⟨t, ht⟩ := hone z (List.mem_of_getElem? hz)
      rw [ht] at f₃
      refine wpAny_execs_cons (wpAny_AugAssign_Name (ts_load f₃.ts (r := .dat (.int i)) (by rfl) (by rw [Env.kindOf, f₃.scope]; exact .inl rfl) (by rfl) fun v hv => ?_))
      obtain ⟨t0, rfl⟩ := hv
      refine (Ev.name (W := Wg g) (n := n) (r := .raw (.int 1 t)) (by rfl) (by rfl)) X' A' _ env _ _ rm' f₃.scope f₃.gk f₃.ts f₃.xin fun v h₄ tk₄ k₄ r₄ => ?_
      cases r₄
      refine iadd_int ?_
      refine (f₃.keeps k₄).store (s := { s with heap := h₄, toks := tk₄ + 1 }) (r := .dat (.int ((i : Int) + 1))) (by rfl) ⟨_, rfl⟩ fun h₅ tk₅ f₅ k₅ => ?_
      have k₅' : KO (OwnF (ownC _) env) h₄ h₅ := k₅
      exact wpAny_execs_nil (hQb h₅ tk₅ (f₅.weak (put_loop (by rfl))) trivial fun b o q e => k₅' b o (fun z => q (.inl z)) (k₄ b o e))
    · have hl2 : (rangeD (es.size : Int)).length = ks.length := by rw [← hlen, ← hsz]; simp [rangeD]
      refine wpAny_execs_cons (st_return (W := Wg g) (n := n) (r := .dat (.int ks.length)) rm' f₃ f₃.gk (Ev.cast (Ev.name (by rfl) (by rfl)) (by rw [hl2])) fun v h' tk k f r => hQ v h' tk f.hk r)
  · match vs, hvs with
    | [v], _ => rfl

theorem add_ok (G : GW w g) {n : Nat} {X : Addr → Prop} {A : Around} {s : Shared} {a1 a2 : Addr} {ks : List Int} {k : Int} {Q : Value → Shared → Prop} {E : Value → Shared → Prop} (rm : Room (n + 1) A) (gk : HK g s.heap) (hX : XIn X s.heap)
    (hd1 : DT w s.heap a1 ks) (hd2 : DT w s.heap a2 [k]) (hk : k ∉ ks) (hk5 : ks.length ≤ 20) (ha1 : (a1 == sysModules) = false) (ha2 : (a2 == sysModules) = false)
    (hQ : ∀ a h' tk, HK s.heap h' → DT w h' a (ks ++ [k]) → s.heap.get? a = none → 67 < a → Q (.ref a) { s with heap := h', toks := tk }) : wpAny (model pg w) A (call (.ref 21) [.ref a1, .ref a2]) Q E s := by
  obtain ⟨xs1, hxs1, hks1, hone1⟩ := hd1
  obtain ⟨xs2, hxs2, hks2, hone2⟩ := hd2
  have hlen1 : xs1.length = ks.length := by have := congrArg List.length hks1; simpa using this
  have hlen2 : xs2.length = 1 := by have := congrArg List.length hks2; simpa using this
  have n1 : (xs1.map (·.1)).Nodup := by obtain ⟨_, _, _, _, _, _, _, _, hn⟩ := hxs1; exact hn
  have n12 : ((xs1 ++ xs2).map (·.1)).Nodup := by
    rw [List.map_append, hks1, hks2]
    refine List.nodup_append.mpr ⟨hks1 ▸ n1, by simp, fun x hx y hy => ?_⟩
    simp only [List.map_cons, List.map_nil, List.mem_singleton] at hy
    subst hy
    obtain ⟨z, hz, rfl⟩ := List.mem_map.mp hx
    exact fun q => hk (keyT_inj q ▸ hz)
  refine enter G (rs := [.raw (.ref a1), .raw (.ref a2)]) (xs := [Str.ofString "target", Str.ofString "source"]) (by rfl) rm gk hX ⟨rfl, rfl, trivial⟩ (fun A' env h₁ tk₁ E' rm' f _ => ?_) (by rfl) (by rfl) (by rfl) (by rfl) (by rfl) (by rfl) (fun vs hvs => ?_) (by decide) (by decide) (by rfl)
  · have keyOwn : ∀ x ∈ xs1 ++ xs2, ¬ OwnF (ownC _) env x.2.1 := fun x hx q => by
      have hf := f.fresh _ q
      have : (tkd w).is s.heap x.1 x.2.1 := (List.mem_append.mp hx).elim (DictOfH.key hxs1) (DictOfH.key hxs2)
      obtain ⟨o', _, _, e', _⟩ := this
      rw [e'] at hf; cases hf
    have dOwn1 : ¬ OwnF (ownC _) env a1 := fun q => by obtain ⟨o, e⟩ := DictOfH.some hxs1; have := f.fresh _ q; rw [e] at this; cases this
    have dOwn2 : ¬ OwnF (ownC _) env a2 := fun q => by obtain ⟨o, e⟩ := DictOfH.some hxs2; have := f.fresh _ q; rw [e] at this; cases this
    generalize hD : h₁.objs.size = D
    have hDn : h₁.get? D = none := hD ▸ get_size _
    have hDs : s.heap.get? D = none := none_of f.hk hDn
    have hD67 : 67 < D := hD ▸ Heap.lt_size (f.gk _ _ (G.x 67 _ (by rfl)))
    have hDsys : (D == sysModules) = false := beq_eq_false_iff_ne.mpr fun q => by rw [q] at hD67; exact absurd hD67 (by decide)
    have hDo : ¬ OwnF (ownC _) env D := fun q => by obtain ⟨o, e⟩ := (f.own q).2; rw [hDn] at e; cases e
    generalize hH : h₁.push { cls := .type "dict", data := .dict #[] } = H
    have kH : HK h₁ H := hH ▸ HK.push _ _
    have hDD : H.DictOfH (tkd w) D [] := by rw [← hH, ← hD]; exact Heap.DictOfH.new _
    have fH := f.keeps kH
    refine wpAny_execs_cons (wpAny_Assign_Name (NewE.dict _ _ _ _ _ ?_))
    dsimp only
    rw [hH, hD]
    refine fH.store (s := { s with heap := H, toks := tk₁ }) (r := .raw (.ref D)) (by rfl) rfl fun h₂ tk₂ f₂ k₂ => ?_
    have k₂' : KO (OwnF (ownC _) env) H h₂ := k₂
    have key1 : ∀ x ∈ xs1, ¬ OwnF (ownC _) env x.2.1 := fun x hx => keyOwn x (List.mem_append_left _ hx)
    have key2 : ∀ x ∈ xs2, ¬ OwnF (ownC _) env x.2.1 := fun x hx => keyOwn x (List.mem_append_right _ hx)
    have e1 : h₂.DictOfH (tkd w) a1 xs1 := DictOfH.ko' (DictOfH.keeps hxs1 (f.hk.trans kH)) k₂' dOwn1 key1
    have e2 : h₂.DictOfH (tkd w) a2 xs2 := DictOfH.ko' (DictOfH.keeps hxs2 (f.hk.trans kH)) k₂' dOwn2 key2
    have eD : h₂.DictOfH (tkd w) D [] := DictOfH.ko' hDD k₂' hDo fun y hy => by cases hy
    have a1D : a1 ≠ D := fun q => by obtain ⟨o, e⟩ := DictOfH.some hxs1; rw [q, hDs] at e; cases e
    have a2D : a2 ≠ D := fun q => by obtain ⟨o, e⟩ := DictOfH.some hxs2; rw [q, hDs] at e; cases e
    have set : ∀ {h h' : Heap} {d : Addr} {xs ys : Xs}, h.DictOfH (tkd w) d xs → KO (fun b => b = D) h h' → h.DictOfH (tkd w) D ys → d ≠ D → h'.DictOfH (tkd w) d xs := fun hx ko hy hne => DictOfH.ko hx ko hne fun b q => q ▸ DictOfH.notTup hy
    obtain ⟨es1, ep1, raw1, hes1⟩ := DictOfH.raw e1
    have hsz1 : es1.size = xs1.length := size_of_entries hes1
    refine wpAny_execs_cons (st_forS (n := n) (ds := rangeD es1.size) (T := entT es1 (Str.ofString "func") (Str.ofString "caller")) (fun _ => TEnv.put _ (Str.ofString "new_callers") (.raw (.ref D))) (fun i h => h.DictOfH (tkd w) D (xs1.take i) ∧ h.DictOfH (tkd w) a1 xs1 ∧ h.DictOfH (tkd w) a2 xs2) (fun b => b = D) rm' (f₂.aside0 (Y := fun b => b = D) fun b q => q ▸ ⟨DictOfH.notSeq eD, DictOfH.some eD⟩)
      (items_src (W := Wg g) (X := fun b => X b ∨ b = D) rm' (f₂.aside0 (Y := fun b => b = D) fun b q => q ▸ ⟨DictOfH.notSeq eD, DictOfH.some eD⟩) f₂.gk (Ev.name (by rfl) (by rfl)) raw1 ha1 ⟨dOwn1, a1D⟩ (fun _ q => .inr q) (by rfl) (by rfl)) ⟨eD, e1, e2⟩ (fun _ q => .inr q)
      (fun i h h' O hI ko hO => ⟨DictOfH.stay hI.1 ko hO hDo fun x hx => key1 x (List.mem_of_mem_take hx), DictOfH.stay hI.2.1 ko hO dOwn1 key1, DictOfH.stay hI.2.2 ko hO dOwn2 key2⟩) (fun i d X' h tk Qb Eb hdd hXX f₃ hI hQb => ?_) fun h₃ tk₃ f₃ hI => ?_)
    · obtain ⟨hi, rfl⟩ := rangeD_get hdd
      have hi' : i < xs1.length := by rw [← hsz1]; simpa using hi
      obtain ⟨z, hz⟩ : ∃ z, xs1[i]? = some z := ⟨_, List.getElem?_eq_getElem hi'⟩
      rw [entT_eq hes1 hz] at f₃
      refine wpAny_execs_cons (st_setH (W := Wg g) (n := n) rm' f₃ f₃.gk (Ev.name (by rfl) (by rfl)) (Ev.name (by rfl) (by rfl)) (Ev.name (by rfl) (by rfl)) hI.1 (DictOfH.key hI.2.1 (List.mem_of_getElem? hz)) ?_ hDs hDo ?_ fun h₄ tk₄ f₄ ko₄ d₄ => ?_)
      · have := atKey_take (ys := []) (xs := xs1) (by simpa using n1) hz
        simpa using this
      · rw [List.length_take]; exact Nat.le_trans (show min i xs1.length ≤ 20 by omega) (by decide)
      · refine wpAny_execs_nil (hQb h₄ tk₄ (f₄.weak (put_two (by rfl) (by rfl))) ⟨?_, set hI.2.1 ko₄ hI.1 a1D, set hI.2.2 ko₄ hI.1 a2D⟩ fun b o q e => ko₄ b o (fun z => q (.inr z)) e)
        rw [List.take_add_one, hz]; exact d₄
    · have hl1 : (rangeD (es1.size : Int)).length = xs1.length := by rw [← hsz1]; simp [rangeD]
      rw [hl1, List.take_length] at hI
      obtain ⟨es2, ep2, raw2, hes2⟩ := DictOfH.raw hI.2.2
      have hsz2 : es2.size = xs2.length := size_of_entries hes2
      refine wpAny_execs_cons (st_forS (n := n) (ds := rangeD es2.size) (T := entT es2 (Str.ofString "func") (Str.ofString "caller")) (fun _ => TEnv.put _ (Str.ofString "new_callers") (.raw (.ref D))) (fun i h => h.DictOfH (tkd w) D (xs1 ++ xs2.take i) ∧ h.DictOfH (tkd w) a2 xs2) (fun b => b = D) rm' f₃
        (items_src (W := Wg g) rm' f₃ f₃.gk (Ev.name (by rfl) (by rfl)) raw2 ha2 ⟨dOwn2, a2D⟩ (fun _ q => .inr q) (by rfl) (by rfl)) ⟨by simpa using hI.1, hI.2.2⟩ (fun _ q => .inr q)
        (fun i h h' O hI ko hO => ⟨DictOfH.stay hI.1 ko hO hDo fun x hx => keyOwn x ((List.mem_append.mp hx).elim (List.mem_append_left _) fun q => List.mem_append_right _ (List.mem_of_mem_take q)), DictOfH.stay hI.2 ko hO dOwn2 key2⟩) (fun i d X' h tk Qb Eb hdd hXX f₄ hI hQb => ?_) fun h₄ tk₄ f₄ hI => ?_)
      · obtain ⟨hi, rfl⟩ := rangeD_get hdd
        have hi' : i < xs2.length := by rw [← hsz2]; simpa using hi
        obtain ⟨z, hz⟩ : ∃ z, xs2[i]? = some z := ⟨_, List.getElem?_eq_getElem hi'⟩
        rw [entT_eq hes2 hz] at f₄
        have hnew := atKey_take n12 hz
        have hkey := DictOfH.key hI.2 (List.mem_of_getElem? hz)
        refine wpAny_execs_cons (wpAny_If (wpAny_isTrue_Compare1 ((Ev.name (W := Wg g) (n := n) (r := .raw (.ref z.2.1)) (by rfl) (by rfl)) X' A' _ env _ _ rm' f₄.scope f₄.gk f₄.ts f₄.xin fun u h₅ tk₅ k₅ r₅ => ?_)))
        cases r₅
        refine (Ev.name (W := Wg g) (n := n) (r := .raw (.ref D)) (by rfl) (by rfl)) X' A' _ env _ _ rm' f₄.scope (f₄.gk.trans k₅) (f₄.ts.keeps k₅) (f₄.xin.keeps k₅) fun u h₆ tk₆ k₆ r₆ => ?_
        cases r₆
        have k56 := k₅.trans k₆
        refine wpAny_in_heap (knd := tkd w) rm'.in1lt (IsTupleKey.ko hkey (k56.ko fun _ => False) fun _ q => q.elim) hDsys (DictOfH.keeps hI.1 k56) (wpAny_truthy_bool ?_)
        rw [hnew]
        show wpAny _ _ (execs _ env) _ _ _
        have f₆ := f₄.keeps k56
        refine wpAny_execs_cons (st_setH (W := Wg g) (n := n) rm' f₆ f₆.gk (Ev.name (by rfl) (by rfl)) (Ev.name (by rfl) (by rfl)) (Ev.name (by rfl) (by rfl)) (DictOfH.keeps hI.1 k56) (IsTupleKey.ko hkey (k56.ko fun _ => False) fun _ q => q.elim) hnew hDs hDo ?_ fun h₇ tk₇ f₇ ko₇ d₇ => ?_)
        · rw [List.length_append, List.length_take]; exact Nat.le_trans (show xs1.length + min i xs2.length ≤ 21 by omega) (by decide)
        · refine wpAny_execs_nil (wpAny_execs_nil (hQb h₇ tk₇ (f₇.weak (put_two (by rfl) (by rfl))) ⟨?_, set (DictOfH.keeps hI.2 k56) ko₇ (DictOfH.keeps hI.1 k56) a2D⟩ fun b o q e => ko₇ b o (fun z => q (.inr z)) (k56 b o e)))
          rw [List.take_add_one, hz, ← List.append_assoc]; exact d₇
      · have hl2 : (rangeD (es2.size : Int)).length = xs2.length := by rw [← hsz2]; simp [rangeD]
        rw [hl2, List.take_length] at hI
        refine wpAny_execs_cons (st_return (W := Wg g) (n := n) (r := .raw (.ref D)) rm' f₄ f₄.gk (Ev.name (by rfl) (by rfl)) fun v h' tk k f r => ?_)
        cases r
        refine hQ D h' tk f.hk ⟨xs1 ++ xs2, DictOfH.keeps hI.1 k, by rw [List.map_append, List.map_append, hks1, hks2], fun x hx => (List.mem_append.mp hx).elim (hone1 x) (hone2 x)⟩ hDs hD67
  · match vs, hvs with
    | [v, u], _ => rfl
end
end Mine

namespace Mine
def val2 : List Int → Int
  | [] => 0
  | x :: xs => x + 2 * val2 xs
theorem val2_append : ∀ (a b : List Int), val2 (a ++ b) = val2 b * 2 ^ a.length + val2 a
  | [], b => by simp [val2]
  | x :: xs, b => by
    simp only [List.cons_append, val2, val2_append xs b, List.length_cons, Int.pow_succ]
    rw [Int.mul_add, ← Int.mul_assoc, Int.mul_comm 2 (val2 b), Int.mul_assoc, Int.mul_comm 2 (2 ^ xs.length), ← Int.mul_assoc]
    omega
theorem val2_bound : ∀ {l : List Int}, (∀ x ∈ l, 0 ≤ x ∧ x ≤ 1) → 0 ≤ val2 l ∧ val2 l < 2 ^ l.length
  | [], _ => by simp [val2]
  | x :: xs, h => by
    have ih := val2_bound (l := xs) fun y hy => h y (List.mem_cons_of_mem _ hy)
    have := h x List.mem_cons_self
    simp only [val2, List.length_cons, Int.pow_succ]
    omega
def FnW (prog : Program) (w : World) (W : Wd) (n : Nat) (a : Addr) (ds : List PyData) (d : PyData) : Prop :=
  ∀ (X : Addr → Prop) (A : Around) (s : Shared) (vs : List Value) (Q : Value → Shared → Prop) (E : Value → Shared → Prop), Room n A → W.ok s.heap → XIn X s.heap → RepAll X s.heap ds vs →
    (∀ v h' tk, HK s.heap h' → Rep X h' d v → Q v { s with heap := h', toks := tk }) → wpAny (model prog w) A (call (.ref a) vs) Q E s
section
variable {prog : Program} {w : World} {W : Wd} {n : Nat} {sc : Scope} {δ : TEnv}
theorem Ev.callW {x : Str} {p pos : Pos} {a : Addr} {e : Expr} {rest : List Expr} {ds : List PyData} {d : PyData} {o : Obj} {fd : FuncData} (hf : Ev prog w W n sc δ (.Name x p) (.raw (.ref a))) (ho : ∀ h, W.ok h → h.get? a = some o) (hd : o.data = .func fd)
    (ha : Evs prog w W n sc δ (e :: rest) ds) (hr : FnW prog w W n a ds d) (hst : ∀ env, starEach (e :: rest) env = (false, eval e env) :: starEach rest env := by intro _; rfl) : Ev prog w W n sc δ (.Call (.Name x p) (e :: rest) [] pos) (.dat d) := fun X A s env Q E rm hs hw t hX hQ =>
  Call_Name rfl (hf X A s env _ E rm hs hw t hX fun f h1 tk1 k1 e1 => by
    cases e1
    refine callWith_def (o := o) (fd := fd) hd ?_ (hst env)
    refine ha X A _ env pos _ E rm hs (W.mono _ _ k1 hw) (t.keeps k1) (hX.keeps k1) fun vs h2 tk2 k2 r2 => ?_
    have ok2 := W.mono _ _ (k1.trans k2) hw
    refine ⟨ho _ ok2, ?_⟩
    exact hr X A _ vs Q E rm ok2 ((hX.keeps k1).keeps k2) r2 fun v h3 tk3 k3 r3 => hQ v h3 tk3 ((k1.trans k2).trans k3) r3)
theorem FnW.less {m n : Nat} {a : Addr} {ds : List PyData} {d : PyData} (h : FnW prog w W n a ds d) (hm : n ≤ m) : FnW prog w W m a ds d := fun X A s vs Q E rm => h X A s vs Q E (rm.less hm)
/-- l[i], ints in a list that is known by its place -/
theorem Ev.itemIV {v i : Expr} {pos : Pos} {D : Addr} {vs : Array Value} {m : Nat} {l : List Int} {j : Int} {x : Int} (hD : ∀ h, W.ok h → h.get? D = some (lstO vs m)) (iv : IV l vs.toList) (h1 : Ev prog w W n sc δ v (.raw (.ref D))) (h2 : Ev prog w W n sc δ i (.dat (.int j))) (h0 : 0 ≤ j) (hj : j < 2 ^ 63) (hx : l[j.toNat]? = some x)
    (hs' : ∀ o j, subscripted i false o j = operate [o, j] (getItem o j) := by intro _ _; with_unfolding_all rfl) : Ev prog w W n sc δ (.Subscript v i pos) (.dat (.int x)) := fun X A s env Q E rm hs hw t hX hQ =>
  Subscript_ (h1 X A s env _ E rm hs hw t hX fun u ha tk k1 r1 => h2 X A _ env _ E rm hs (W.mono _ _ k1 hw) (t.keeps k1) (hX.keeps k1) fun b hb tk2 k2 r2 => by
    obtain ⟨t', rfl⟩ := r2
    cases r1
    have hl := hD _ (W.mono _ _ (k1.trans k2) hw)
    obtain ⟨u, h1, h2⟩ := (iv X hb).get (i := j.toNat) (d := .int x) (by rw [List.getElem?_map, hx]; rfl)
    exact tail_any (T := "list") ⟨_, hl, rfl⟩ slot_list_getitem.lookup (wpAny_getItem_list (items := vs) ⟨_, hl, rfl, m, rfl⟩ h0 hj (by simpa using h1) (hQ _ _ _ (k1.trans k2) h2)) (hs' _ _))
end
def simpleE (r : Ent) : Prop := (∃ v, r = .raw v) ∨ ∃ i, r = .dat (.int i)
theorem TS.any {X X' : Addr → Prop} {h : Heap} {env : Env} {δ : TEnv} (t : TS X h env δ) (hs : ∀ x r, δ x = some r → simpleE r) : TS X' h env δ :=
  let ⟨ρ, f, a⟩ := t; ⟨ρ, f, fun x r e => let ⟨v, p, q⟩ := a x r e; ⟨v, p, by rcases hs x r e with ⟨u, rfl⟩ | ⟨i, rfl⟩ <;> exact q⟩⟩
theorem TS.toRaw {X : Addr → Prop} {h : Heap} {env : Env} {δ : TEnv} {x : Str} {ds : List PyData} (t : TS X h env δ) (hx : δ x = some (.dat (.list ds))) : ∃ D vs m, ¬ X D ∧ h.get? D = some (lstO vs m) ∧ RepAll X h ds vs.toList ∧ TS X h env (δ.put x (.raw (.ref D))) := by
  obtain ⟨ρ, f, a⟩ := t
  obtain ⟨v, p, D, vs, m, rfl, nX, e, r⟩ := a x _ hx
  refine ⟨D, vs, m, nX, e, r, ρ, f, fun y r' e' => ?_⟩
  rcases put_some e' with ⟨rfl, rfl⟩ | ⟨_, e'⟩
  · exact ⟨_, p, rfl⟩
  · exact a y r' e'
theorem IV.of {X : Addr → Prop} {h : Heap} : ∀ {l : List Int} {vs : List Value}, RepAll X h (l.map .int) vs → IV l vs
  | [], [], _ => fun _ _ => trivial
  | i :: l, v :: vs, r => fun X' h' => ⟨r.1, IV.of (l := l) (vs := vs) r.2 X' h'⟩
theorem put3_simple {x y z : Str} {a b c : Ent} (ha : simpleE a) (hb : simpleE b) (hc : simpleE c) : ∀ u r, (((none0.put x a).put y b).put z c) u = some r → simpleE r := fun u r e => by
  rcases put_some e with ⟨_, rfl⟩ | ⟨_, e⟩
  · exact hc
  rcases put_some e with ⟨_, rfl⟩ | ⟨_, e⟩
  · exact hb
  rcases put_some e with ⟨_, rfl⟩ | ⟨_, e⟩
  · exact ha
  · cases e
theorem seg_split (l : List Int) (L m k : Nat) (hm : m ≤ k) : (l.drop L).take k = (l.drop L).take m ++ (l.drop (L + m)).take (k - m) := by
  have : k = m + (k - m) := by omega
  conv => lhs; rw [this]
  rw [List.take_add, List.drop_drop]
section
variable {w : World} {g : Heap}
theorem digits_ok (G : GW w g) (C : CodeHd g 41 37) (hg37 : g.get? 37 = none) (l : List Int) (hl : l ≠ []) (hl16 : l.length ≤ 16) (h01 : ∀ x ∈ l, 0 ≤ x ∧ x ≤ 1) {n : Nat} {X : Addr → Prop} {A : Around} {s : Shared} {vs : List Value} {Q : Value → Shared → Prop} {E : Value → Shared → Prop}
    (rm : Room (n + 30) A) (gk : HK g s.heap) (hX : XIn X s.heap) (hr : RepAll X s.heap [intsD l, .int 1] vs) (h37 : s.heap.get? 37 = some (tabObj #[])) (hX37 : X 37)
    (hQ : ∀ h' tk t, KO (fun b => b = 37) s.heap h' → (∃ ps, h'.get? 37 = some (tabObj ps)) → Q (.int (val2 l) t) { s with heap := h', toks := tk }) : wpAny (model pg w) A (call (.ref 42) vs) Q E s := by
  refine enter G (n := n + 29) (rs := [.dat (intsD l), .dat (.int 1)]) (xs := [Str.ofString "digits", Str.ofString "n"]) (by rfl) rm gk hX (by match vs, hr with | [u, v], r => exact ⟨r.1, r.2.1, trivial⟩) (fun A' env h₁ tk₁ E' rm' f hcode => ?_) (by rfl) (by rfl) (by rfl) (by rfl) (by rfl) (by rfl) (fun vs hvs => ?_) (by decide) (by decide) (by rfl)
  · have f' := f.hide (l := [37]) (by intro a ha; simp only [List.mem_singleton] at ha; rw [ha]; exact hg37)
    refine wpAny_execs_cons (st_def G f' C hcode (f.hk _ _ h37) (hideAll_none _ (by simp)) hg37 hX37 (by rfl) (by rfl) (by rfl) (by rfl) (by rfl) fun F c' qual ctv doc pm h₂ tk₂ oF f₂ ko₂ hFs hoF hF hrec hps => ?_)
    obtain ⟨D, us, m, nXD, hD, hrD, t₂⟩ := f₂.ts.toRaw (x := Str.ofString "digits") (by rfl)
    have iv : IV l us.toList := IV.of hrD
    have hdig : ∀ k : Nat, 1 ≤ k → ∀ L : Nat, L + k ≤ l.length → FnW pg w (Wg h₂) (k + 1) F [.int L, .int ((L : Int) + k)] (.int (val2 ((l.drop L).take k))) := fun k => by
      induction k using Nat.strongRecOn with
      | ind k ih =>
        intro hk L hL X' A' s' vs' Q' E' rm2 ok2 hX2 hr2 hQ2
        have td : TS X' s'.heap env (((none0.put (Str.ofString "digits") (.raw (.ref D))).put (Str.ofString "n") (.dat (.int 1))).put (Str.ofString "inner") (.raw (.ref F))) := by
          refine ((t₂.keeps ok2).weak fun x r e => ?_).any (put3_simple (.inl ⟨_, rfl⟩) (.inr ⟨_, rfl⟩) (.inl ⟨_, rfl⟩))
          rcases put_some e with ⟨rfl, rfl⟩ | ⟨_, e⟩
          · rfl
          rcases put_some e with ⟨rfl, rfl⟩ | ⟨_, e⟩
          · rfl
          rcases put_some e with ⟨rfl, rfl⟩ | ⟨_, e⟩
          · rfl
          · cases e
        have hF' : s'.heap.get? F = some oF := ok2 _ _ hF
        subst hoF
        refine enterC (n := k) (g := h₂) (xs := [Str.ofString "L", Str.ofString "R"]) (rs := [.dat (.int L), .dat (.int ((L : Int) + k))]) (envo := env) hF' (G.nolimit.keeps (f₂.gk.trans ok2)) (hrec.keeps ok2) rm2 ok2 hX2 (by match vs', hr2 with | [u, v], r => exact ⟨r.1, r.2.1, trivial⟩) td rfl (by rw [f₂.scope]; rfl) (by rfl) (fun A2 env2 h₃ tk₃ E2 rm3 f3 => ?_) (by rfl) (by rfl) (by rfl) (by rfl) (fun vs hvs => ?_) (by rfl)
        · refine wpAny_execs_cons (st_if (W := Wg h₂) (n := k) (b := decide (k = 1)) rm3 f3 f3.gk (Tr.cast (Tr.cmp (d₁ := .int ((L : Int) + 1)) (d₂ := .int ((L : Int) + k)) (Ev.binop (d₁ := .int L) (d₂ := .int 1) (Ev.name (by rfl) (by rfl)) Ev.int (BinR.add _ _)) (Ev.name (by rfl) (by rfl)) (CmpR.eq (Nat.zero_le _))) ?_) (fun hb h₄ tk₄ k₄ f₄ => ?_) (fun hb h₄ tk₄ k₄ f₄ => ?_))
          · show (((L : Int) + 1) == ((L : Int) + k)) = decide (k = 1)
            by_cases h1 : k = 1
            · subst h1; simp
            · rw [decide_eq_false h1]
              exact beq_eq_false_iff_ne.mpr (by omega)
          · have hk1 : k = 1 := of_decide_eq_true hb
            subst hk1
            have hx : l[L]? = some l[L] := List.getElem?_eq_getElem (by omega)
            refine wpAny_execs_cons (st_return (W := Wg h₂) (n := 1) (r := .dat (.int l[L])) rm3 f₄ f₄.gk (Ev.itemIV (fun h ok => ok _ _ hD) iv (Ev.name (by rfl) (by rfl)) (Ev.name (by rfl) (by rfl)) (by omega) (by omega) (by simpa using hx)) fun v h' tk k5 f5 r5 => hQ2 v h' tk f5.hk ?_)
            have : (l.drop L).take 1 = [l[L]] := by rw [List.drop_eq_getElem_cons (by omega)]; rfl
            rw [this]
            show Rep X' h' (.int (l[L] + 2 * 0)) v
            rw [show l[L] + 2 * 0 = l[L] by omega]; exact r5
          · have hk2 : 2 ≤ k := by have := of_decide_eq_false hb; omega
            refine wpAny_execs_nil (wpAny_execs_cons (st_assign (W := Wg h₂) (n := k) (r := .dat (.int ((L : Int) + (k / 2 : Nat)))) rm3 f₄ f₄.gk (Ev.cast (Ev.binop (d₁ := .int ((L : Int) + ((L : Int) + k))) (d₂ := .int 1) (Ev.binop (d₁ := .int L) (d₂ := .int ((L : Int) + k)) (Ev.name (by rfl) (by rfl)) (Ev.name (by rfl) (by rfl)) (BinR.add _ _)) Ev.int (BinR.shr (by decide))) ?_) fun h₅ tk₅ f₅ _ => ?_))
            · congr 1
              show ((L : Int) + ((L : Int) + k)).fdiv (2 ^ 1) = (L : Int) + (k / 2 : Nat)
              rw [Int.fdiv_eq_ediv_of_nonneg _ (by decide)]
              omega
            refine wpAny_execs_cons (st_assign (W := Wg h₂) (n := k) (r := .dat (.int ((k / 2 : Nat) : Int))) rm3 f₅ f₅.gk (Ev.cast (Ev.binop (d₁ := .int (((L : Int) + (k / 2 : Nat)) - L)) (d₂ := .int 1) (Ev.binop (d₁ := .int ((L : Int) + (k / 2 : Nat))) (d₂ := .int L) (Ev.name (by rfl) (by rfl)) (Ev.name (by rfl) (by rfl)) (BinR.sub _ _)) (Ev.name (by rfl) (by rfl)) (BinR.mul ?_)) ?_) fun h₆ tk₆ f₆ _ => ?_)
            · exact .of_right (by decide)
            · congr 1; omega
            have e1 : ((L : Int) + (k / 2 : Nat)) = ((L + k / 2 : Nat) : Int) := by omega
            have e2 : ((L : Int) + k) = ((L + k / 2 : Nat) : Int) + ((k - k / 2 : Nat) : Int) := by omega
            have i1 := (ih (k - k / 2) (by omega) (by omega) (L + k / 2) (by omega)).less (show k - k / 2 + 1 ≤ k by omega)
            have i2 := (ih (k / 2) (by omega) (by omega) L (by omega)).less (show k / 2 + 1 ≤ k by omega)
            rw [← e2, ← e1] at i1
            refine wpAny_execs_cons (st_return (W := Wg h₂) (n := k) (r := .dat (.int (val2 ((l.drop L).take k)))) rm3 f₆ f₆.gk (Ev.cast (Ev.binop (d₁ := .int (val2 ((l.drop (L + k / 2)).take (k - k / 2)) * 2 ^ ((k / 2 : Nat) : Int).toNat)) (d₂ := .int (val2 ((l.drop L).take (k / 2))))
              (Ev.binop (d₁ := .int (val2 ((l.drop (L + k / 2)).take (k - k / 2)))) (d₂ := .int ((k / 2 : Nat) : Int)) (Ev.callW (Ev.name (by rfl) (by rfl)) (fun h ok => ok _ _ hF) rfl (.cons (Ev.name (by rfl) (by rfl)) (.cons (Ev.name (by rfl) (by rfl)) .nil)) i1) (Ev.name (by rfl) (by rfl)) (BinR.shl (by omega) (by omega) ?_))
              (Ev.callW (Ev.name (by rfl) (by rfl)) (fun h ok => ok _ _ hF) rfl (.cons (Ev.name (by rfl) (by rfl)) (.cons (Ev.name (by rfl) (by rfl)) .nil)) i2) (BinR.add _ _)) ?_) fun v h' tk k7 f7 r7 => hQ2 v h' tk f7.hk r7)
            · have := val2_bound (l := (l.drop (L + k / 2)).take (k - k / 2)) fun x hx => h01 x (List.mem_of_mem_drop (List.mem_of_mem_take hx))
              have hlen : ((l.drop (L + k / 2)).take (k - k / 2)).length ≤ 16 := by rw [List.length_take, List.length_drop]; omega
              have h2 : (2 : Int) ^ ((l.drop (L + k / 2)).take (k - k / 2)).length ≤ 2 ^ 16 := by
                have := Nat.pow_le_pow_right (show 0 < 2 by decide) hlen
                exact_mod_cast this
              omega
            · congr 1
              rw [seg_split l L (k / 2) k (by omega), val2_append, List.length_take, List.length_drop, Int.toNat_natCast, Nat.min_eq_left (by omega)]
        · match vs, hvs with
          | [v, u], _ => rfl
    have hW : ∀ h, (Wg h₂).ok h → HK g h := fun h ok => f₂.gk.trans ok
    have nLen : GName (Wg h₂) (Str.ofString "len") (.builtin "len") := gname_bi G hW (by rfl) (by rfl) (by decide)
    have hmain := (hdig l.length (List.length_pos_iff.mpr hl) 0 (by omega)).less (show l.length + 1 ≤ n + 29 by omega)
    rw [show ((0 : Nat) : Int) + (l.length : Int) = (l.length : Int) by omega, List.drop_zero, List.take_length] at hmain
    refine wpAny_execs_cons (st_return (W := Wg h₂) (n := n + 29) (r := .dat (.int (val2 l))) rm' f₂ (HK.refl _) (Ev.ifexp (b := true) (Tr.cast (Tr.list (ds := l.map .int) (Ev.name (by rfl) (by rfl)) ?_) ?_)
      (fun _ => Ev.callW (Ev.name (by rfl) (by rfl)) (fun h ok => ok _ _ hF) (by rw [hoF]) (.cons Ev.int (.cons (Ev.call1 (d₁ := intsD l) (Ev.gname nLen (by rfl)) (Ev.name (by rfl) (by rfl)) (F1R.len (xs := l.map .int) ?_)) .nil)) (by rw [List.length_map]; exact hmain)) (fun q => by cases q)) fun v h' tk k5 f5 r5 => ?_)
    · rw [List.length_map]; omega
    · cases l with
      | nil => exact absurd rfl hl
      | cons a b => rfl
    · rw [List.length_map]; omega
    · obtain ⟨t, rfl⟩ := r5
      obtain ⟨ps, hp⟩ := hps
      exact hQ h' tk t (fun b o q e => k5 b o (ko₂ b o (fun z => z.elim q fun z => by have := f.fresh b z; rw [e] at this; cases this) (f.hk b o e))) ⟨ps, k5 _ _ hp⟩
  · match vs, hvs with
    | [v, u], _ => rfl
end
end Mine

namespace Mine
def bits (k x : Nat) : List Int := (List.range k).map fun i => ((x / 2 ^ i % 2 : Nat) : Int)
theorem bits_len (k x : Nat) : (bits k x).length = k := by simp [bits]
theorem xor_fact : ∀ x : Nat, x < 1024 → ∀ m : Nat, m < 6 → Builtin.bitXor (x : Int) (((x / 2 ^ m : Nat) : Int) * 2 ^ m) = ((x % 2 ^ m : Nat) : Int) := by decide +kernel
theorem bits_split : ∀ k : Nat, k < 11 → ∀ x : Nat, x < 1024 → bits k x = bits (k / 2) (x % 2 ^ (k / 2)) ++ bits (k - k / 2) (x / 2 ^ (k / 2)) := by decide +kernel
theorem nbits_le : ∀ a : Nat, a < 1024 → Builtin.Int.intBits (a : Int) ≤ 10 ∧ a < 2 ^ Builtin.Int.intBits (a : Int) := by decide +kernel
def nb (a : Nat) : Nat := Builtin.Int.intBits (a : Int)
/-- k places of l, from L on, are b -/
def putAt2 (l : List Int) (L : Nat) (b : List Int) : List Int := l.take L ++ b ++ l.drop (L + b.length)
theorem putAt2_len {l : List Int} {L : Nat} {b : List Int} (h : L + b.length ≤ l.length) : (putAt2 l L b).length = l.length := by
  unfold putAt2; simp only [List.length_append, List.length_take, List.length_drop]; omega
theorem putAt2_two {l : List Int} {L : Nat} {a b : List Int} (h : L + a.length + b.length ≤ l.length) : putAt2 (putAt2 l L a) (L + a.length) b = putAt2 l L (a ++ b) := by
  unfold putAt2
  have e1 : (l.take L).length = L := by rw [List.length_take]; omega
  have e2 : (l.take L ++ a).length = L + a.length := by rw [List.length_append, e1]
  have t1 : (l.take L ++ a ++ l.drop (L + a.length)).take (L + a.length) = l.take L ++ a := by
    rw [← e2]; exact List.take_left
  have t2 : (l.take L ++ a ++ l.drop (L + a.length)).drop (L + a.length + b.length) = l.drop (L + (a ++ b).length) := by
    rw [List.drop_append, List.drop_eq_nil_of_le (by rw [e2]; omega), List.nil_append, e2, List.drop_drop]
    congr 1
    rw [List.length_append]; omega
  rw [t1, t2]
  simp
section
variable {prog : Program} {w : World} {W : Wd} {n : Nat} {sc : Scope} {δ : TEnv} {A : Around} {s : Shared} {g hb : Heap} {X Z : Addr → Prop} {env : Env} {Q : Flow → Shared → Prop} {E : Value → Shared → Prop}
/-- l[i] = e, l a list of our own -/
theorem st_setList {o i e : Expr} {spos pos : Pos} {D : Addr} {its : Array Value} {m : Nat} {j : Int} {r : Ent} (rm : Room n A) (f : FR g hb X sc env δ s.heap) (hw : W.ok s.heap) (ee : Ev prog w W n sc δ e r) (eo : Ev prog w W n sc δ o (.raw (.ref D)))
    (ei : Ev prog w W n sc δ i (.dat (.int j))) (hD : s.heap.get? D = some (lstO its m)) (h0 : 0 ≤ j) (hj : j < its.size) (hs63 : its.size < 2 ^ 62) (hX : X D) (hba : hb.get? D = none)
    (hQ : ∀ h' tk v, FR g hb X sc env δ h' → KO (fun b => b = D) s.heap h' → h'.get? D = some (lstO (its.setIfInBounds j.toNat v) m) → r.ok X h' v → Q .next { s with heap := h', toks := tk })
    (hs : swapsWithSole [.Subscript o i spos] e pos.line env = pure false := by rfl) (hw' : swappedStores [.Subscript o i spos] e env = pure none := by rfl)
    (har : ∀ v, assign (.Subscript o i spos) env v = (do
      let ov ← holding [v] (eval o env)
      let iv ← holding [v, ov] (eval i env)
      standAt spos
      holding [v, ov, iv] (setItem ov iv v)
      release [v, ov, iv] []) := by intro _; rfl) : wpAny (model prog w) A (exec (.Assign [.Subscript o i spos] e pos) env) Q E s := by
  refine wpAny_Assign_stores ?_ hs hw'
  refine ee X A s env _ E rm f.scope hw f.ts f.xin fun v h₁ tk₁ k₁ r₁ => ?_
  show wpAny _ _ (assign (.Subscript o i spos) env v) _ _ _
  rw [har]
  refine wpAny_bind (wpAny_holding (eo X A _ env _ E rm f.scope (W.mono _ _ k₁ hw) (f.ts.keeps k₁) (f.xin.keeps k₁) fun ov h₂ tk₂ k₂ r₂ => ?_))
  cases r₂
  have k12 := k₁.trans k₂
  refine wpAny_bind (wpAny_holding (ei X A _ env _ E rm f.scope (W.mono _ _ k12 hw) (f.ts.keeps k12) (f.xin.keeps k12) fun iv h₃ tk₃ k₃ r₃ => ?_))
  obtain ⟨t', rfl⟩ := r₃
  have k13 := k12.trans k₃
  have hD3 := k13 _ _ hD
  refine wpAny_bind (wpAny_standAt (wpAny_bind (wpAny_holding (ki_setAt (n := m) hD3 h0 (by omega) hj ?_))))
  refine wpAny_releaseD ?_
  generalize hH : h₃.update D (Obj.mapSeq (·.setIfInBounds j.toNat v)) = H
  have hs4 : Heap.SameBut D h₃ H := hH ▸ Heap.SameBut.update ..
  have ko : KO (fun b => b = D) h₃ H := fun b o q e => hs4.extBut b o q e
  have e4 : H.get? D = some (lstO (its.setIfInBounds j.toNat v) m) := by
    have e : Obj.mapSeq (·.setIfInBounds j.toNat v) (lstO its m) = lstO (its.setIfInBounds j.toNat v) m := by simp [Obj.mapSeq]
    rw [← hH, Heap.get?_update_self _ hD3 (by rw [e]; rfl), e]
  have f₃ := f.keeps k13
  have f4 : FR g hb X sc env δ H := f₃.mut ko (fun b q => q ▸ hba) (fun b q => .inl (q ▸ hX)) (fun b q => .inr ⟨its, m, q ▸ hD3⟩) fun b q => ⟨_, q ▸ e4⟩
  refine hQ H tk₃ v f4 (fun b o q e => ko b o q (k13 b o e)) e4 ?_
  exact Ent.mono (ko.ks fun b q => .inl (q ▸ hX)) (fun _ q => q) (Ent.keeps (k₂.trans k₃) r₁)

/-- f(..), dropped -/
theorem st_callF {x : Str} {p pos epos : Pos} {a : Addr} {e : Expr} {rest : List Expr} {ds : List PyData} {o : Obj} {fd : FuncData} (rm : Room n A) (f : FR g hb X sc env δ s.heap) (hw : W.ok s.heap) (hf : Ev prog w W n sc δ (.Name x p) (.raw (.ref a))) (ho : ∀ h, W.ok h → h.get? a = some o) (hd : o.data = .func fd)
    (ha : Evs prog w W n sc δ (e :: rest) ds) (hi : interactive env = false)
    (hQ : ∀ vs h' tk (E' : Value → Shared → Prop), HK s.heap h' → RepAll X h' ds vs → wpAny (model prog w) A (call (.ref a) vs) (fun _ => Q .next) E' { s with heap := h', toks := tk })
    (hst : ∀ env, starEach (e :: rest) env = (false, eval e env) :: starEach rest env := by intro _; rfl) : wpAny (model prog w) A (exec (.Expr (.Call (.Name x p) (e :: rest) [] pos) epos) env) Q E s := by
  refine wpAny_Expr_any ?_ hi (by rfl)
  refine Call_Name rfl (hf X A s env _ E rm f.scope hw f.ts f.xin fun fv h1 tk1 k1 e1 => ?_)
  cases e1
  refine callWith_def (o := o) (fd := fd) hd ?_ (hst env)
  refine ha X A _ env pos _ E rm f.scope (W.mono _ _ k1 hw) (f.ts.keeps k1) (f.xin.keeps k1) fun vs h2 tk2 k2 r2 => ?_
  exact ⟨ho _ (W.mono _ _ (k1.trans k2) hw), hQ vs h2 tk2 E (k1.trans k2) r2⟩

/-- [d] * k, a new list -/
theorem mul_new {e1 e2 : Expr} {pos : Pos} {d : PyData} {k : Int} {Q : Value → Shared → Prop} (rm : Room n A) (hs : env.scope = sc) (hw : W.ok s.heap) (t : TS X s.heap env δ) (hX : XIn X s.heap) (h1 : Ev prog w W n sc δ e1 (.dat (.list [d]))) (h2 : Ev prog w W n sc δ e2 (.dat (.int k))) (hlo : -(2 ^ 63 : Int) ≤ k) (hhi : k ≤ 2 ^ 24)
    (hQ : ∀ D h' tk us m, HK s.heap h' → s.heap.get? D = none → h'.get? D = some (lstO us m) → RepAll X h' (List.replicate k.toNat d) us.toList → Q (.ref D) { s with heap := h', toks := tk }) : wpAny (model prog w) A (eval (.BinOp e1 .Mult e2 pos) env) Q E s := by
  refine wpAny_BinOp (h1 X A s env _ E rm hs hw t hX fun a ha tk k1 r1 => h2 X A _ env _ E rm hs (W.mono _ _ k1 hw) (t.keeps k1) (hX.keeps k1) fun b hb tk2 k2 r2 => ?_)
  obtain ⟨a, vs, m, rfl, _, ha', hr⟩ := Rep.keeps r1 k2
  obtain ⟨u, rfl⟩ := r2
  have hl := hr.length
  obtain ⟨v, hv⟩ : ∃ v, vs = #[v] := by
    obtain ⟨l⟩ := vs
    match l, hl with
    | [v], _ => exact ⟨v, rfl⟩
  subst hv
  refine wpAny_binaryOp_repeat_ref (T := "list") (U := "int") (by decide) ⟨_, ha', rfl⟩ (fun s' => typeIs_int s' k u) noFill_list_mul PySem.F.fills_int_mul PySem.F.slot_int_rmul repeat_list PySem.F.slot_int_index.lookup
    (call_meets PySem.F.slot_int_rmul (typeIs_int _ k u) PySem.F.entry_int_rmul (PySem.F.args_int_rmul_2 _ _) (lm_int_rmul_list_any k u a #[v] m _ _)
      ⟨ha', rfl, ⟨_, ha', rfl⟩, call_meets PySem.F.slot_list_mul ⟨_, ha', rfl⟩ PySem.F.entry_list_mul (PySem.F.args_list_mul_2 _ _)
        (lm_list_mul_any a #[v] m _ _ k u (by simp [Builtin.List.listFitsIndex]; omega) (by simp; omega) (by simp [Builtin.List.listTooLong, sizeLine]; omega))
        ⟨ha', ?_⟩⟩)
  refine hQ _ _ _ _ _ ((k1.trans k2).trans (HK.push _ _)) (none_of (k1.trans k2) (get_size _)) (Heap.get?_push_size _ rfl) ?_
  refine RepAll.keeps ?_ (HK.push _ _)
  simp only [listMul_foldl, List.isEmpty_toArray, List.isEmpty_cons, Bool.false_eq_true, if_false, List.nil_append]
  have := RepAll.replicate hr.1 k.toNat
  simpa [lm_rep_flat_one] using this

/-- a.bit_length() -/
theorem Ev.bitLength {o : Expr} {apos pos : Pos} {a : Int} (h : Ev prog w W n sc δ o (.dat (.int a))) (he : ∀ env, ∃ pl : Sem Bool, eval (.Call (.Attribute o (Str.ofString "bit_length") apos) [] [] pos) env = (do
      let ov ← eval o env
      standAt apos.atName
      let (f, first) ← holding [ov] (getMethod ov (Str.ofString "bit_length") pl)
      callWith pos f first (backTo pos (starEach [] env)) []) := by intro _; exact ⟨_, rfl⟩) : Ev prog w W n sc δ (.Call (.Attribute o (Str.ofString "bit_length") apos) [] [] pos) (.dat (.int (Builtin.Int.intBits a))) := fun X A s env Q E rm hs hw t hX hQ => by
  obtain ⟨pl, he⟩ := he env
  refine MethodCall_ (pl := pl) (h X A s env _ E rm hs hw t hX fun v h' tk k r => ?_) he
  obtain ⟨t', rfl⟩ := r
  refine getMethod_int_bit_length (callWith_method0 (call_int_bit_length ?_))
  exact hQ _ h' _ k ⟨_, rfl⟩
/-- len(l), l a list that is known by its place -/
theorem Ev.lenRaw {x : Str} {p pos : Pos} {a : Expr} {D : Addr} {vs : Array Value} {m : Nat} (hD : ∀ h, W.ok h → h.get? D = some (lstO vs m)) (hf : Ev prog w W n sc δ (.Name x p) (.raw (.builtin "len"))) (ha : Ev prog w W n sc δ a (.raw (.ref D))) (hz : vs.size < 2 ^ 62)
    (hst : ∀ env, starEach [a] env = [(false, eval a env)] := by intro _; rfl) : Ev prog w W n sc δ (.Call (.Name x p) [a] [] pos) (.dat (.int vs.size)) := fun X A s env Q E rm hs hw t hX hQ =>
  Call_Name rfl (hf X A s env _ E rm hs hw t hX fun f h1 tk1 k1 e1 => by
    cases e1
    refine callWith_builtin1 ?_ (by rw [hst]; rfl) rfl
    rw [hst]
    refine Calls.spliced_cons (ha X A _ env _ E rm hs (W.mono _ _ k1 hw) (t.keeps k1) (hX.keeps k1) fun v h2 tk2 k2 r2 => Calls.spliced_nil ?_)
    cases r2
    have hl := hD _ (W.mono _ _ (k1.trans k2) hw)
    exact Calls.call_len_list (items := vs) ⟨_, hl, rfl, m, rfl⟩ (by omega) (hQ _ _ _ (k1.trans k2) ⟨_, rfl⟩))
end
end Mine

namespace Mine
theorem RepAll.set {X : Addr → Prop} {h : Heap} : ∀ {ds : List PyData} {vs : List Value} {d : PyData} {v : Value} (i : Nat), RepAll X h ds vs → Rep X h d v → RepAll X h (ds.set i d) (vs.set i v)
  | [], [], _, _, _, _, _ => trivial
  | d :: ds, v :: vs, _, _, 0, r, r' => ⟨r', r.2⟩
  | d :: ds, v :: vs, _, _, i + 1, r, r' => ⟨r.1, RepAll.set i r.2 r'⟩
theorem IV.set {l : List Int} {vs : Array Value} {i : Nat} {x : Int} {v : Value} {X : Addr → Prop} {h : Heap} (iv : IV l vs.toList) (r : Rep X h (.int x) v) : IV (l.set i x) (vs.setIfInBounds i v).toList := fun X' h' => by
  obtain ⟨t, rfl⟩ := r
  rw [Array.toList_setIfInBounds, List.map_set]
  exact RepAll.set i (iv X' h') ⟨t, rfl⟩
theorem putAt2_one {l : List Int} {L : Nat} {x : Int} (h : L < l.length) : putAt2 l L [x] = l.set L x := by
  unfold putAt2
  rw [List.set_eq_take_append_cons_drop, if_pos h]
  simp
theorem hide_ko (h : Heap) (D : Addr) : KO (fun b => b = D) h (hideAll h [D]) := fun b o q e => hideAll_get _ e (by simpa using q)
theorem ko_of_hide {h h' : Heap} {D : Addr} (k : HK (hideAll h [D]) h') : KO (fun b => b = D) h h' := fun b o q e => k b o (hide_ko h D b o q e)
section
variable {w : World} {g : Heap}
theorem int2_ok (G : GW w g) (C : CodeHd g 34 30) (hg30 : g.get? 30 = none) (a : Nat) (ha : a < 1024) {n : Nat} {X : Addr → Prop} {A : Around} {s : Shared} {vs : List Value} {Q : Value → Shared → Prop} {E : Value → Shared → Prop}
    (rm : Room (n + 30) A) (gk : HK g s.heap) (hX : XIn X s.heap) (hr : RepAll X s.heap [.int a, .int 1] vs) (h30 : s.heap.get? 30 = some (tabObj #[])) (hX30 : X 30)
    (hQ : ∀ v h' tk, KO (fun b => b = 30) s.heap h' → (∃ ps, h'.get? 30 = some (tabObj ps)) → Rep X h' (intsD (bits (nb a) a)) v → Q v { s with heap := h', toks := tk }) : wpAny (model pg w) A (call (.ref 35) vs) Q E s := by
  obtain ⟨nb10, nblt⟩ := nbits_le a ha
  refine enter G (n := n + 29) (rs := [.dat (.int a), .dat (.int 1)]) (xs := [Str.ofString "a", Str.ofString "n"]) (by rfl) rm gk hX (by match vs, hr with | [u, v], r => exact ⟨r.1, r.2.1, trivial⟩) (fun A' env h₁ tk₁ E' rm' f hcode => ?_) (by rfl) (by rfl) (by rfl) (by rfl) (by rfl) (by rfl) (fun vs hvs => ?_) (by decide) (by decide) (by rfl)
  · have f' := f.hide (l := [30]) (by intro a ha; simp only [List.mem_singleton] at ha; rw [ha]; exact hg30)
    have hW : ∀ h, (Wg g).ok h → HK g h := fun h ok => ok
    refine wpAny_execs_cons (wpAny_Assign_Name (mul_new (W := Wg g) (n := n + 29) (d := .int 0) (k := (nb a : Int)) rm' f'.scope f'.gk f'.ts f'.xin (Ev.list (.cons Ev.int .nil) (show 1 ≤ sizeLine by decide)) (Ev.cast (Ev.binop (d₁ := .int ((nb a : Int) + 1 - 1)) (d₂ := .int 1) (Ev.binop (d₁ := .int ((nb a : Int) + 1)) (d₂ := .int 1) (Ev.binop (d₁ := .int (nb a : Int)) (d₂ := .int 1) (Ev.bitLength (a := (a : Int)) (Ev.name (by rfl) (by rfl))) (Ev.name (by rfl) (by rfl)) (BinR.add _ _)) Ev.int (BinR.sub _ _)) (Ev.name (by rfl) (by rfl)) (BinR.div (by decide) (by decide))) ?_) (by omega) ?_ fun D h₂ tk₂ us m k₂ hDn hD hrD => ?_))
    · congr 1
      rw [show ((nb a : Int) + 1 - 1) = (nb a : Int) by omega]
      rw [Int.fdiv_eq_ediv_of_nonneg _ (by decide)]; omega
    · have : (nb a : Int) ≤ 10 := by unfold nb; omega
      omega
    have hD1 : h₁.get? D = none := hDn
    have hDs : s.heap.get? D = none := none_of f.hk hD1
    have hD30 : D ≠ 30 := fun q => by rw [q, h30] at hDs; cases hDs
    have fa := f'.aside (Y := fun b => b = D) k₂ fun b q => q ▸ ⟨hD1, _, hD⟩
    have hDo : ¬ OwnF (ownC _) env D := fun q => by obtain ⟨o, e⟩ := (f.own q).2; rw [hD1] at e; cases e
    refine fa.store (s := { s with heap := h₂, toks := tk₂ }) (r := .raw (.ref D)) (by rfl) rfl fun h₃ tk₃ f₃ k₃ => ?_
    have k₃' : KO (OwnF (ownC _) env) h₂ h₃ := k₃
    have hD3 : h₃.get? D = some (lstO us m) := k₃' D _ hDo hD
    have iv0 : IV (List.replicate (nb a) 0) us.toList := by
      have : List.replicate (nb a) (PyData.int 0) = (List.replicate (nb a) (0 : Int)).map .int := by rw [List.map_replicate]
      exact IV.of (X := fun b => X b) (h := h₂) (by rw [← this]; simpa using hrD)
    have h30o : ¬ OwnF (ownC _) env 30 := fun q => by have := f.fresh _ q; rw [h30] at this; cases this
    refine wpAny_execs_cons (st_def G f₃ C hcode (k₃' _ _ h30o (k₂ _ _ (f.hk _ _ h30))) (hideAll_none _ (by simp)) hg30 (.inl hX30) (by rfl) (by rfl) (by rfl) (by rfl) (by rfl) fun F c' qual ctv doc pm h₄ tk₄ oF f₄ ko₄ hFs hoF hF hrec hps => ?_)
    have ko₄' : KO (fun b => b = 30 ∨ OwnF (ownC _) env b) h₃ h₄ := ko₄
    have hD4 : h₄.get? D = some (lstO us m) := ko₄' D _ (fun q => q.elim hD30 hDo) hD3
    have hDb : (hideAll s.heap [30]).get? D = none := none_of (hide_hk _ _) hDs
    have hDg : g.get? D = none := none_of gk hDs
    generalize hgD : hideAll h₄ [D] = gD
    have gDn : gD.get? D = none := hgD ▸ hideAll_none _ (by simp)
    have gDh : HK gD h₄ := hgD ▸ hide_hk h₄ [D]
    have ggD : HK g gD := fun b o e => hgD ▸ hideAll_get [D] (f₄.gk b o e) fun q => by simp only [List.mem_singleton] at q; rw [q, hDg] at e; cases e
    have hFD : F ≠ D := fun q => by rw [q, hD3] at hFs; cases hFs
    have FgD : gD.get? F = some oF := hgD ▸ hideAll_get [D] hF (by simpa using hFD)
    have recD : gD.CodeRec (.ref c') qual := by
      obtain ⟨c2, oc, vs, t, e2, hoc, hd, hv⟩ := hrec
      refine ⟨c2, oc, vs, t, e2, hgD ▸ hideAll_get [D] hoc fun q => ?_, hd, hv⟩
      simp only [List.mem_singleton] at q
      rw [q, hD4] at hoc; cases hoc; cases hd
    have tD : TS (fun _ => False) gD env (((none0.put (Str.ofString "a_digits") (.raw (.ref D))).put (Str.ofString "n") (.dat (.int 1))).put (Str.ofString "inner") (.raw (.ref F))) := by
      have t4 : TS (fun _ => False) h₄ env (((none0.put (Str.ofString "a_digits") (.raw (.ref D))).put (Str.ofString "n") (.dat (.int 1))).put (Str.ofString "inner") (.raw (.ref F))) := by
        refine (f₄.ts.weak fun x r e => ?_).any (put3_simple (.inl ⟨_, rfl⟩) (.inr ⟨_, rfl⟩) (.inl ⟨_, rfl⟩))
        rcases put_some e with ⟨rfl, rfl⟩ | ⟨_, e⟩
        · rfl
        rcases put_some e with ⟨rfl, rfl⟩ | ⟨_, e⟩
        · rfl
        rcases put_some e with ⟨rfl, rfl⟩ | ⟨_, e⟩
        · rfl
        · cases e
      obtain ⟨ρ, fs, at4⟩ := t4
      refine ⟨ρ, fs.ko (O := fun b => b = D) (hgD ▸ hide_ko h₄ D) fun b q => .inr ⟨us, m, q ▸ hD4⟩, fun x r e => ?_⟩
      obtain ⟨v, p, q⟩ := at4 x r e
      refine ⟨v, p, ?_⟩
      rcases put3_simple (.inl ⟨_, rfl⟩) (.inr ⟨_, rfl⟩) (.inl ⟨_, rfl⟩) x r e with ⟨u, rfl⟩ | ⟨i, rfl⟩ <;> exact q
    have hin : ∀ k : Nat, 1 ≤ k → k < 11 → ∀ (L : Nat) (X' : Addr → Prop) (A' : Around) (s' : Shared) (l : List Int) (its : Array Value) (m' x : Nat) (vs' : List Value) (Q' : Value → Shared → Prop) (E' : Value → Shared → Prop), Room (k + 1) A' → HK gD s'.heap → XIn X' s'.heap → X' D →
        s'.heap.get? D = some (lstO its m') → IV l its.toList → L + k ≤ l.length → l.length ≤ 16 → x < 2 ^ k → x < 1024 → RepAll X' s'.heap [.int x, .int L, .int ((L : Int) + k)] vs' →
        (∀ h' tk its' m2, KO (fun b => b = D) s'.heap h' → h'.get? D = some (lstO its' m2) → IV (putAt2 l L (bits k x)) its'.toList → Q' .none { s' with heap := h', toks := tk }) → wpAny (model pg w) A' (call (.ref F) vs') Q' E' s' := fun k => by
      induction k using Nat.strongRecOn with
      | ind k ih =>
        intro hk hk11 L X' A2 s' l its m' x vs' Q' E2 rm2 ok2 hX2 hXD hDs' iv hLk hl16 hx2 hx hr2 hQ2
        have hsz : its.size = l.length := by have := iv.length; simpa using this
        have hF' : s'.heap.get? F = some oF := ok2 _ _ FgD
        have hoF2 := hoF
        subst hoF2
        refine enterC (n := k) (g := gD) (xs := [Str.ofString "x", Str.ofString "L", Str.ofString "R"]) (rs := [.dat (.int x), .dat (.int L), .dat (.int ((L : Int) + k))]) (envo := env) hF' (G.nolimit.keeps (ggD.trans ok2)) (recD.keeps ok2) rm2 ok2 hX2 (by match vs', hr2 with | [u, v, z], r => exact ⟨r.1, r.2.1, r.2.2.1, trivial⟩) ((tD.keeps ok2).any (X' := X') (put3_simple (.inl ⟨_, rfl⟩) (.inr ⟨_, rfl⟩) (.inl ⟨_, rfl⟩))) rfl (by rw [f₄.scope]; rfl) (by rfl) (fun A3 env2 h₅ tk₅ E3 rm3 f5 => ?_) (by rfl) (by rfl) (by rfl) (by rfl) (fun vs hvs => ?_) (by rfl)
        · have f5' := f5.hide (l := [D]) (by intro a ha; simp only [List.mem_singleton] at ha; rw [ha]; exact gDn)
          have hb0 : (hideAll s'.heap [D]).get? D = none := hideAll_none _ (by simp)
          refine wpAny_execs_cons (st_if (W := Wg gD) (n := k) (b := decide (k = 1)) rm3 f5' f5'.gk (Tr.cast (Tr.cmp (d₁ := .int ((L : Int) + 1)) (d₂ := .int ((L : Int) + k)) (Ev.binop (d₁ := .int L) (d₂ := .int 1) (Ev.name (by rfl) (by rfl)) Ev.int (BinR.add _ _)) (Ev.name (by rfl) (by rfl)) (CmpR.eq (Nat.zero_le _))) ?_) (fun hb h₆ tk₆ k₆ f₆ => ?_) (fun hb h₆ tk₆ k₆ f₆ => ?_))
          · show (((L : Int) + 1) == ((L : Int) + k)) = decide (k = 1)
            by_cases h1 : k = 1
            · subst h1; simp
            · rw [decide_eq_false h1]
              exact beq_eq_false_iff_ne.mpr (by omega)
          · have hk1 : k = 1 := of_decide_eq_true hb
            subst hk1
            refine wpAny_execs_cons (st_setList (W := Wg gD) (n := 1) (r := .dat (.int x)) (j := (L : Int)) rm3 f₆ f₆.gk (Ev.name (by rfl) (by rfl)) (Ev.name (by rfl) (by rfl)) (Ev.name (by rfl) (by rfl)) (k₆ _ _ (f5.hk _ _ hDs')) (by omega) (by omega) (by omega) hXD hb0 fun h₇ tk₇ v f₇ ko₇ d₇ r₇ => ?_)
            refine wpAny_execs_cons (wpAny_Return_none ?_)
            refine hQ2 h₇ tk₇ _ _ (ko_of_hide f₇.hk) d₇ ?_
            have e1 : bits 1 x = [(x : Int)] := by
              have : x % 2 = x := Nat.mod_eq_of_lt (by omega)
              show [((x / 2 ^ 0 % 2 : Nat) : Int)] = [(x : Int)]
              rw [Nat.pow_zero, Nat.div_one, this]
            rw [e1, putAt2_one (by omega), Int.toNat_natCast]
            exact iv.set (X := X') (h := h₇) r₇
          · have hk2 : 2 ≤ k := by have := of_decide_eq_false hb; omega
            have km : k / 2 < 6 := by omega
            refine wpAny_execs_nil (wpAny_execs_cons (st_assign (W := Wg gD) (n := k) (r := .dat (.int ((L : Int) + (k / 2 : Nat)))) rm3 f₆ f₆.gk (Ev.cast (Ev.binop (d₁ := .int ((L : Int) + ((L : Int) + k))) (d₂ := .int 1) (Ev.binop (d₁ := .int L) (d₂ := .int ((L : Int) + k)) (Ev.name (by rfl) (by rfl)) (Ev.name (by rfl) (by rfl)) (BinR.add _ _)) Ev.int (BinR.shr (by decide))) ?_) fun h₇ tk₇ f₇ k₇ => ?_))
            · congr 1
              show ((L : Int) + ((L : Int) + k)).fdiv (2 ^ 1) = (L : Int) + (k / 2 : Nat)
              rw [Int.fdiv_eq_ediv_of_nonneg _ (by decide)]
              omega
            refine wpAny_execs_cons (st_assign (W := Wg gD) (n := k) (r := .dat (.int ((k / 2 : Nat) : Int))) rm3 f₇ f₇.gk (Ev.cast (Ev.binop (d₁ := .int (((L : Int) + (k / 2 : Nat)) - L)) (d₂ := .int 1) (Ev.binop (d₁ := .int ((L : Int) + (k / 2 : Nat))) (d₂ := .int L) (Ev.name (by rfl) (by rfl)) (Ev.name (by rfl) (by rfl)) (BinR.sub _ _)) (Ev.name (by rfl) (by rfl)) (BinR.mul (.of_right (by decide)))) ?_) fun h₈ tk₈ f₈ k₈ => ?_)
            · congr 1; omega
            refine wpAny_execs_cons (st_assign (W := Wg gD) (n := k) (r := .dat (.int ((x / 2 ^ (k / 2) : Nat) : Int))) rm3 f₈ f₈.gk (Ev.cast (Ev.binop (d₁ := .int x) (d₂ := .int ((k / 2 : Nat) : Int)) (Ev.name (by rfl) (by rfl)) (Ev.name (by rfl) (by rfl)) (BinR.shr (by omega))) ?_) fun h₉ tk₉ f₉ k₉ => ?_)
            · congr 1
              rw [Int.toNat_natCast, Int.fdiv_eq_ediv_of_nonneg _ (Int.le_of_lt (Int.pow_pos (by decide)))]
              rw [Int.natCast_ediv, Int.natCast_pow]; rfl
            have xu : x / 2 ^ (k / 2) ≤ x := Nat.div_le_self _ _
            refine wpAny_execs_cons (st_assign (W := Wg gD) (n := k) (r := .dat (.int ((x % 2 ^ (k / 2) : Nat) : Int))) rm3 f₉ f₉.gk (Ev.cast (Ev.binop (d₁ := .int x) (d₂ := .int (((x / 2 ^ (k / 2) : Nat) : Int) * 2 ^ ((k / 2 : Nat) : Int).toNat)) (Ev.name (by rfl) (by rfl)) (Ev.binop (d₁ := .int ((x / 2 ^ (k / 2) : Nat) : Int)) (d₂ := .int ((k / 2 : Nat) : Int)) (Ev.name (by rfl) (by rfl)) (Ev.name (by rfl) (by rfl)) (BinR.shl (by omega) (by omega) (by rw [Int.natAbs_natCast]; exact Nat.lt_of_le_of_lt xu (Nat.lt_trans hx (by decide))))) (BinR.xor _ _)) ?_) fun h₁₀ tk₁₀ f₁₀ k₁₀ => ?_)
            · congr 1
              rw [Int.toNat_natCast]
              exact xor_fact x hx (k / 2) km
            have hDo2 : ¬ OwnF (ownC _) env2 D := fun q => by have := f5.fresh D q; rw [hDs'] at this; cases this
            have z7 : KO (OwnF (ownC _) env2) h₆ h₇ := k₇
            have z8 : KO (OwnF (ownC _) env2) h₇ h₈ := k₈
            have z9 : KO (OwnF (ownC _) env2) h₈ h₉ := k₉
            have z10 : KO (OwnF (ownC _) env2) h₉ h₁₀ := k₁₀
            have dst : h₁₀.get? D = some (lstO its m') := z10 _ _ hDo2 (z9 _ _ hDo2 (z8 _ _ hDo2 (z7 _ _ hDo2 (k₆ _ _ (f5.hk _ _ hDs')))))
            have e1 : ((L : Int) + (k / 2 : Nat)) = ((L + k / 2 : Nat) : Int) := by omega
            have e2 : ((L : Int) + k) = ((L + k / 2 : Nat) : Int) + ((k - k / 2 : Nat) : Int) := by omega
            have hmod : x % 2 ^ (k / 2) < 2 ^ (k / 2) := Nat.mod_lt _ (Nat.pow_pos (by decide))
            have hdiv : x / 2 ^ (k / 2) < 2 ^ (k - k / 2) := by
              refine Nat.div_lt_of_lt_mul ?_
              rw [← Nat.pow_add, show k / 2 + (k - k / 2) = k by omega]; exact hx2
            refine wpAny_execs_cons (st_callF (W := Wg gD) (n := k) (ds := [.int ((x % 2 ^ (k / 2) : Nat) : Int), .int L, .int ((L : Int) + (k / 2 : Nat))]) rm3 f₁₀ f₁₀.gk (Ev.name (by rfl) (by rfl)) (fun h ok => ok _ _ FgD) rfl (.cons (Ev.name (by rfl) (by rfl)) (.cons (Ev.name (by rfl) (by rfl)) (.cons (Ev.name (by rfl) (by rfl)) .nil))) (f₁₀.notI (by rfl)) fun vs1 h₁₁ tk₁₁ E4 k₁₁ r₁₁ => ?_)
            have k₁₁' : HK h₁₀ h₁₁ := k₁₁
            refine ih (k / 2) (by omega) (by omega) (by omega) L X' A3 _ l its m' (x % 2 ^ (k / 2)) vs1 _ _ (rm3.less (by omega)) (f₁₀.gk.trans k₁₁') (f₁₀.xin.keeps k₁₁') hXD (k₁₁' _ _ dst) iv (by omega) hl16 hmod (Nat.lt_of_le_of_lt (Nat.mod_le _ _) hx) r₁₁ fun h₁₂ tk₁₂ its2 m2 ko₁₂ d₁₂ iv₁₂ => ?_
            have ko₁₂' : KO (fun b => b = D) h₁₁ h₁₂ := ko₁₂
            have f₁₂ := (f₁₀.keeps k₁₁').mut ko₁₂' (fun b q => q ▸ hb0) (fun b q => .inl (q ▸ hXD)) (fun b q => .inr ⟨_, _, q ▸ (k₁₁' _ _ dst)⟩) fun b q => ⟨_, q ▸ d₁₂⟩
            have len2 : (putAt2 l L (bits (k / 2) (x % 2 ^ (k / 2)))).length = l.length := putAt2_len (by rw [bits_len]; omega)
            refine wpAny_execs_cons (st_callF (W := Wg gD) (n := k) (s := { s' with heap := h₁₂, toks := tk₁₂ }) (ds := [.int ((x / 2 ^ (k / 2) : Nat) : Int), .int ((L : Int) + (k / 2 : Nat)), .int ((L : Int) + k)]) rm3 f₁₂ f₁₂.gk (Ev.name (by rfl) (by rfl)) (fun h ok => ok _ _ FgD) rfl (.cons (Ev.name (by rfl) (by rfl)) (.cons (Ev.name (by rfl) (by rfl)) (.cons (Ev.name (by rfl) (by rfl)) .nil))) (f₁₂.notI (by rfl)) fun vs2 h₁₃ tk₁₃ E5 k₁₃ r₁₃ => ?_)
            have k₁₃' : HK h₁₂ h₁₃ := k₁₃
            rw [e1, e2] at r₁₃
            refine ih (k - k / 2) (by omega) (by omega) (by omega) (L + k / 2) X' A3 _ _ its2 m2 (x / 2 ^ (k / 2)) vs2 _ _ (rm3.less (by omega)) (f₁₂.gk.trans k₁₃') (f₁₂.xin.keeps k₁₃') hXD (k₁₃' _ _ d₁₂) iv₁₂ (by rw [len2]; omega) (by rw [len2]; exact hl16) hdiv (Nat.lt_of_le_of_lt xu hx) r₁₃ fun h₁₄ tk₁₄ its4 m4 ko₁₄ d₁₄ iv₁₄ => ?_
            have ko₁₄' : KO (fun b => b = D) h₁₃ h₁₄ := ko₁₄
            have f₁₄ := (f₁₂.keeps k₁₃').mut ko₁₄' (fun b q => q ▸ hb0) (fun b q => .inl (q ▸ hXD)) (fun b q => .inr ⟨_, _, q ▸ (k₁₃' _ _ d₁₂)⟩) fun b q => ⟨_, q ▸ d₁₄⟩
            refine wpAny_execs_nil (hQ2 h₁₄ tk₁₄ its4 m4 (ko_of_hide f₁₄.hk) d₁₄ ?_)
            have two := putAt2_two (l := l) (L := L) (a := bits (k / 2) (x % 2 ^ (k / 2))) (b := bits (k - k / 2) (x / 2 ^ (k / 2))) (by rw [bits_len, bits_len]; omega)
            rw [bits_len, ← bits_split k hk11 x hx] at two
            rw [← two]; exact iv₁₄
        · match vs, hvs with
          | [v, u, z], _ => rfl
    obtain ⟨ps, hps⟩ := hps
    have fin : ∀ {sc2 : Scope} {δ2 : TEnv} (h : Heap) (tk : Nat) (its : Array Value) (m' : Nat), FR g (hideAll s.heap [30]) (fun b => X b ∨ b = D) sc2 env δ2 h → h.get? D = some (lstO its m') → IV (bits (nb a) a) its.toList → h.get? 30 = some (tabObj ps) → Q (.ref D) { s with heap := h, toks := tk } :=
      fun h tk its m' fh hDh ivh h30h => hQ _ h tk (ko_of_hide fh.hk) ⟨ps, h30h⟩ ⟨D, its, m', rfl, hX.fresh hDs, hDh, ivh X h⟩
    have hsz : us.size = nb a := by have := iv0.length; simpa using this
    have hW4 : ∀ h, (Wg h₄).ok h → HK g h := fun h ok => f₄.gk.trans ok
    have nLen : GName (Wg h₄) (Str.ofString "len") (.builtin "len") := gname_bi G hW4 (by rfl) (by rfl) (by decide)
    refine wpAny_execs_cons (st_if (W := Wg h₄) (n := n + 29) (b := ((a : Int) != 0)) rm' f₄ (HK.refl _) (Tr.int (Ev.name (by rfl) (by rfl))) (fun hb h₅ tk₅ k₅ f₅ => ?_) (fun hb h₅ tk₅ k₅ f₅ => ?_))
    · have ha0 : a ≠ 0 := fun q => by subst q; exact absurd hb (by decide)
      have hn1 : 1 ≤ nb a := by
        unfold nb Builtin.Int.intBits
        rw [if_neg (by simpa using ha0)]; omega
      have k₅' : HK h₄ h₅ := k₅
      refine wpAny_execs_cons (st_callF (W := Wg h₄) (n := n + 29) (ds := [.int a, .int 0, .int us.size]) rm' f₅ k₅' (Ev.name (by rfl) (by rfl)) (fun h ok => ok _ _ hF) (by rw [hoF]) (.cons (Ev.name (by rfl) (by rfl)) (.cons Ev.int (.cons (Ev.lenRaw (fun h ok => ok _ _ hD4) (Ev.gname nLen (by rfl)) (Ev.name (by rfl) (by rfl)) (by unfold nb at hsz; omega)) .nil))) (f₅.notI (by rfl)) fun vs1 h₆ tk₆ E4 k₆ r₆ => ?_)
      have k₆' : HK h₅ h₆ := k₆
      have e0 : (us.size : Int) = ((0 : Nat) : Int) + (nb a : Int) := by rw [hsz]; omega
      rw [e0] at r₆
      refine hin (nb a) hn1 (by unfold nb; omega) 0 (fun b => X b ∨ b = D) A' _ (List.replicate (nb a) 0) us m a vs1 _ _ (rm'.less (by unfold nb; omega)) ((gDh.trans k₅').trans k₆') (f₅.xin.keeps k₆') (.inr rfl) (k₆' _ _ (k₅' _ _ hD4)) iv0 (by rw [List.length_replicate]; omega) (by rw [List.length_replicate]; unfold nb; omega) nblt ha r₆ fun h₇ tk₇ its7 m7 ko₇ d₇ iv₇ => ?_
      have ko₇' : KO (fun b => b = D) h₆ h₇ := ko₇
      have f₇ := (f₅.keeps k₆').mut ko₇' (fun b q => q ▸ hDb) (fun b q => .inl (.inr q)) (fun b q => .inr ⟨_, _, q ▸ (k₆' _ _ (k₅' _ _ hD4))⟩) fun b q => ⟨_, q ▸ d₇⟩
      refine wpAny_execs_nil (wpAny_execs_cons (st_return (W := Wg g) (n := n + 29) (s := { s with heap := h₇, toks := tk₇ }) (r := .raw (.ref D)) rm' f₇ f₇.gk (Ev.name (by rfl) (by rfl)) fun v h' tk' k8 f8 r8 => ?_))
      cases r8
      have k8' : HK h₇ h' := k8
      refine fin h' tk' its7 m7 f8 (k8' _ _ d₇) ?_ (k8' _ _ (ko₇' _ _ (fun q => hD30 q.symm) (k₆' _ _ (k₅' _ _ hps))))
      have : putAt2 (List.replicate (nb a) 0) 0 (bits (nb a) a) = bits (nb a) a := by
        unfold putAt2
        rw [bits_len, List.take_zero, List.drop_eq_nil_of_le (by rw [List.length_replicate]; omega)]; simp
      rw [this] at iv₇; exact iv₇
    · have ha0 : a = 0 := by
        cases a with
        | zero => rfl
        | succ a => exact absurd hb (by simp; omega)
      subst ha0
      refine wpAny_execs_nil (wpAny_execs_cons (st_return (W := Wg g) (n := n + 29) (r := .raw (.ref D)) rm' f₅ f₅.gk (Ev.name (by rfl) (by rfl)) fun v h' tk' k8 f8 r8 => ?_))
      cases r8
      have k8' : HK h₅ h' := k8
      have k₅' : HK h₄ h₅ := k₅
      exact fin h' tk' us m f8 (k8' _ _ (k₅' _ _ hD4)) iv0 (k8' _ _ (k₅' _ _ hps))
  · match vs, hvs with
    | [v, u], _ => rfl
end
end Mine

namespace Mine
theorem mix_str {prog : Program} {w : World} (x : Str) (t : Tok) : (mixKind prog w).is (.inr x) (.str x t) = true := by
  show Value.isStrOf x (.str x t) = true
  simp [Value.isStrOf]
theorem mix_int {prog : Program} {w : World} (i : Int) (t : Tok) : (mixKind prog w).is (.inl i) (.int i t) = true := by
  show Value.isInt i (.int i t) = true
  simp [Value.isInt]
section
variable {w : World} {W : Wd} {n : Nat} {sc : Scope} {δ : TEnv} {A : Around} {s : Shared} {g hb : Heap} {X Z : Addr → Prop} {env : Env} {E : Value → Shared → Prop}
/-- «or» as a value -/
theorem Ev.or2 {e1 e2 : Expr} {pos : Pos} {b : Bool} {r : Ent} (h1 : Ev pg w W n sc δ e1 (.dat (.bool b))) (ht : b = true → r = .dat (.bool true)) (h2 : b = false → Ev pg w W n sc δ e2 r)
    (he : ∀ env, evalEach [e1, e2] env = [eval e1 env, eval e2 env] := by intro _; rfl) : Ev pg w W n sc δ (.BoolOp .Or [e1, e2] pos) r := fun X A s env Q E rm hs hw t hX hQ => by
  rw [arm_eval_BoolOp, he]
  show wpAny _ _ (do
    let v ← eval e1 env
    standAt pos
    let t ← holding [v] (truthy v)
    match BoolOp.Or, t with
    | .And, false | .Or, true => pure v
    | _, _ => boolOp pos .Or [eval e2 env]) _ _ _
  refine wpAny_bind (h1 X A s env _ E rm hs hw t hX fun v h' tk k r1 => wpAny_bind (wpAny_standAt (wpAny_bind (wpAny_holding ?_))))
  cases r1
  refine wpAny_truthy_bool ?_
  cases b with
  | true => exact wpAny_pure (hQ _ h' tk k (by rw [ht rfl]; rfl))
  | false => exact h2 rfl X A _ env Q E rm hs (W.mono _ _ k hw) (t.keeps k) (hX.keeps k) fun u h'' tk' k' r' => hQ u h'' tk' (k.trans k') r'

/-- an operation, its left side by hand -/
theorem binop_wp {l r : Expr} {op : Operator} {pos : Pos} {d₁ d₂ d : PyData} {Q : Value → Shared → Prop} (rm : Room n A) (f : FR g hb X sc env δ s.heap)
    (h1 : wpAny (model pg w) A (eval l env) (fun a s₁ => Rep X s₁.heap d₁ a ∧ W.ok s₁.heap ∧ TS X s₁.heap env δ ∧ XIn X s₁.heap ∧ ∀ v h' tk, HK s₁.heap h' → Rep X h' d v → Q v { s₁ with heap := h', toks := tk }) E s)
    (h2 : Ev pg w W n sc δ r (.dat d₂)) (h3 : BinR pg w n op d₁ d₂ d) : wpAny (model pg w) A (eval (.BinOp l op r pos) env) Q E s :=
  wpAny_BinOp (wpAny_mono h1 (fun a s₁ ⟨r1, hw, t, hX, hQ⟩ => h2 X A s₁ env _ E rm f.scope hw t hX fun b hb tk2 k2 r2 =>
    h3 X A _ a b Q E rm (hX.keeps k2) (Rep.keeps r1 k2) r2 fun v h' tk3 k3 r3 => hQ v h' tk3 (k2.trans k3) r3) fun _ _ x => x)
/-- v[:k], v by hand -/
theorem upto_wp {v u : Expr} {p pos : Pos} {xs : List PyData} {k : Nat} {Q : Value → Shared → Prop} (rm : Room n A) (f : FR g hb X sc env δ s.heap)
    (h1 : wpAny (model pg w) A (eval v env) (fun a s₁ => Rep X s₁.heap (.list xs) a ∧ W.ok s₁.heap ∧ TS X s₁.heap env δ ∧ XIn X s₁.heap ∧ ∀ v h' tk, HK s₁.heap h' → Rep X h' (.list (xs.take k)) v → Q v { s₁ with heap := h', toks := tk }) E s)
    (h2 : Ev pg w W n sc δ u (.dat (.int k))) (hz : xs.length ≤ sizeLine) : wpAny (model pg w) A (eval (.Subscript v (.Slice none (some u) none p) pos) env) Q E s :=
  Subscript_ (wpAny_mono h1 (fun a s₁ ⟨r1, hw, t, hX, hQ⟩ => wpAny_Slice (wpAny_pure (h2 X A s₁ env _ E rm f.scope hw t hX fun b hb tk2 k2 r2 => wpAny_pure (by
    obtain ⟨u, rfl⟩ := r2
    obtain ⟨l, vs, m, rfl, nl, hl, hr⟩ := Rep.keeps r1 k2
    have hlen := hr.length
    have hl' : (hb.push { cls := .type "slice", data := .fields #[.none, .int k u, .none] }).get? l = some (lstO vs m) := Heap.get?_push_of_some _ hl
    refine tail_any (ops := [_, _]) (T := "list") ⟨_, hl', rfl⟩ slot_list_getitem.lookup (wpAny_getItem_list_slice (items := vs) (lo := none) (hi := some (k : Int)) (st := none) ⟨_, hl', rfl, m, rfl⟩ (Heap.IsSliceOf.new ..) .none (.int _ _) .none (by simp)
      (hQ _ _ _ (k2.trans ((HK.push _ _).trans (HK.push _ _))) ?_) (by simp only [Array.length_toList] at hlen; omega)) rfl
    rw [slicePick_upto']
    exact Rep.newList ((hX.keeps k2).keeps (HK.push _ _)) ((hr.take k).keeps (HK.push _ _)))))) fun _ _ x => x)

/-- a call with one argument, known by its value -/
theorem Ev.callV {x : Str} {p pos : Pos} {a : Addr} {arg : Expr} {u : Value} {d : PyData} {o : Obj} {fd : FuncData} (hf : Ev pg w W n sc δ (.Name x p) (.raw (.ref a))) (ho : ∀ h, W.ok h → h.get? a = some o) (hd : o.data = .func fd) (ha : Ev pg w W n sc δ arg (.raw u))
    (hr : ∀ (X : Addr → Prop) (A : Around) (s : Shared) (Q : Value → Shared → Prop) (E : Value → Shared → Prop), Room n A → W.ok s.heap → XIn X s.heap → (∀ v h' tk, HK s.heap h' → Rep X h' d v → Q v { s with heap := h', toks := tk }) → wpAny (model pg w) A (PySem.call (.ref a) [u]) Q E s)
    (hst : ∀ env, starEach [arg] env = [(false, eval arg env)] := by intro _; rfl) : Ev pg w W n sc δ (.Call (.Name x p) [arg] [] pos) (.dat d) := fun X A s env Q E rm hs hw t hX hQ =>
  Call_Name rfl (hf X A s env _ E rm hs hw t hX fun f h1 tk1 k1 e1 => by
    cases e1
    refine callWith_def (o := o) (fd := fd) hd ?_ (by rw [hst]; rfl)
    rw [hst]
    refine Calls.spliced_cons (ha X A _ env _ E rm hs (W.mono _ _ k1 hw) (t.keeps k1) (hX.keeps k1) fun v h2 tk2 k2 r2 => Calls.spliced_nil ?_)
    cases r2
    have ok2 := W.mono _ _ (k1.trans k2) hw
    exact ⟨ho _ ok2, hr X A _ Q E rm ok2 ((hX.keeps k1).keeps k2) fun v h3 tk3 k3 r3 => hQ v h3 tk3 ((k1.trans k2).trans k3) r3⟩)

/-- {(«tied», k, «place»): 1}, a new dict -/
theorem dict_new {xb : Str} {c1 c2 c3 : Nat} {p1 p2 p3 tp p4 dp : Pos} {k0 : Nat} {k : Int} {Q : Value → Shared → Prop} (rm : Room n A) (hs : env.scope = sc) (hw : W.ok s.heap) (t : TS X s.heap env δ) (hX : XIn X s.heap) (hk : Ev pg w W n sc δ (.Name xb p2) (.dat (.int k)))
    (hQ : ∀ a h' tk, HK s.heap h' → s.heap.get? a = none → (∀ b o, s.heap.get? b = some o → b < a) → DT w h' a [k] → Q (.ref a) { s with heap := h', toks := tk }) :
    wpAny (model pg w) A (eval (.Dict [some (.Tuple [.Constant (.str (Str.ofString "tied")) c1 p1, .Name xb p2, .Constant (.str (Str.ofString "place")) c2 p3] k0 tp)] [.Constant (.int 1) c3 p4] dp) env) Q E s := by
  rw [arm_eval_Dict]
  have hshape : (evalEachOpt [some (.Tuple [.Constant (.str (Str.ofString "tied")) c1 p1, .Name xb p2, .Constant (.str (Str.ofString "place")) c2 p3] k0 tp)] env).zip ((evalEach [.Constant (.int 1) c3 p4] env).map fun v => do let x ← v; standAt dp; pure x)
      = [(eval (.Tuple [.Constant (.str (Str.ofString "tied")) c1 p1, .Name xb p2, .Constant (.str (Str.ofString "place")) c2 p3] k0 tp) env, (do let x ← eval (.Constant (.int 1) c3 p4) env; standAt dp; pure x : Sem Value))].map fun p => (some p.1, p.2) := rfl
  rw [hshape, dictDisplay_pairs _ (by simp) (by simp)]
  refine wpAny_bind (wpAny_standAt (wpAny_bind ?_))
  unfold subDict
  refine wpAny_bind (wpAny_alloc ?_)
  dsimp only
  generalize hD : s.heap.objs.size = D
  have hDn : s.heap.get? D = none := hD ▸ get_size _
  generalize hH : s.heap.push { cls := .type "dict", data := .dict #[] } = H
  have kH : HK s.heap H := hH ▸ HK.push _ _
  have hDD : H.DictOfH (tkd w) D [] := by rw [← hH, ← hD]; exact Heap.DictOfH.new _
  refine wpAny_bind (wpAny_holding ?_)
  rw [if_pos (by simp)]
  refine wpAny_bind (evalPairs_cons (wpAny_Tuple_spliced ?_))
  rw [show starEach [.Constant (.str (Str.ofString "tied")) c1 p1, .Name xb p2, .Constant (.str (Str.ofString "place")) c2 p3] env = [(false, eval (.Constant (.str (Str.ofString "tied")) c1 p1) env), (false, eval (.Name xb p2) env), (false, eval (.Constant (.str (Str.ofString "place")) c2 p3) env)] from rfl]
  refine Calls.spliced_cons (wpAny_Constant_str (k := c1) (pos := p1) (Calls.spliced_cons (hk X A _ env _ E rm hs (W.mono _ _ kH hw) (t.keeps kH) (hX.keeps kH) fun v h2 tk2 k2 r2 => Calls.spliced_cons (wpAny_Constant_str (k := c2) (pos := p3) (Calls.spliced_nil ⟨by simp [sizeLine], ?_⟩)))))
  obtain ⟨t2, rfl⟩ := r2
  dsimp only
  generalize hT : h2.objs.size = T
  generalize hH3 : h2.push { cls := .type "tuple", data := .seq [.str (Str.ofString "tied") s.toks, .int k t2, .str (Str.ofString "place") tk2].toArray } = H3
  have k3 : HK h2 H3 := hH3 ▸ HK.push _ _
  have k2' : HK H h2 := k2
  have hkey : (tkd w).is H3 (keyT k) T := by
    refine ⟨_, #[.str (Str.ofString "tied") s.toks, .int k t2, .str (Str.ofString "place") tk2], 0, (by rw [← hH3, ← hT]; exact Heap.get?_push_size _ rfl), rfl, rfl, ?_⟩
    exact .cons (mix_str _ _) (.cons (mix_int _ _) (.cons (mix_str _ _) .nil))
  refine wpAny_bind (wpAny_Constant_int (wpAny_bind (wpAny_standAt (wpAny_pure (evalPairs_nil ?_)))))
  refine wpAny_holding (wpAny_bind ?_)
  rw [List.forIn_cons]
  refine wpAny_bind (wpAny_bind ?_)
  refine wpAny_dictSet_heap (knd := tkd w) (k := keyT k) (xs := []) (by show A.units < cLine; have := rm.units; omega) hkey (DictOfH.keeps hDD (k2'.trans k3)) (fun h4 hd4 hs4 => wpAny_pure ?_) (by simp)
  dsimp only
  rw [List.forIn_nil]
  refine wpAny_pure (wpAny_pure (wpAny_pure (wpAny_pure ?_)))
  have ko : KO (fun b => b = D) H3 h4 := fun b o q e => hs4.extBut b o q e
  refine hQ D h4 _ (fun b o e => ko b o (fun q => by rw [q, hDn] at e; cases e) (k3 b o (k2' b o (kH b o e)))) hDn (fun b o e => hD ▸ Heap.lt_size e) ⟨_, hd4, rfl, fun x hx => ?_⟩
  rw [storedH_new rfl] at hx
  simp only [List.nil_append, List.mem_singleton] at hx
  subst hx
  exact ⟨_, rfl⟩

/-- calls[a] = add_callers(calls[a], {(«tied», b, «place»): 1}) -/
theorem st_link {Q : Flow → Shared → Prop} {xc xa xb xf : Str} {c1 c2 c3 k0 : Nat} {q1 q2 q3 q4 q5 p1 p2 p3 tp p4 dp sp1 sp2 cp pos : Pos} {DC : Addr} {refs : List Addr} {kC : Nat} {i j : Int} {a1 : Addr} {ks : List Int} (G : GW w g) (rm : Room (n + 1) A) (f : FR g hb X sc env δ s.heap)
    (hc : Ev pg w (Wl g DC refs kC) (n + 1) sc δ (.Name xc q1) (.raw (.ref DC))) (hc' : Ev pg w (Wl g DC refs kC) (n + 1) sc δ (.Name xc q2) (.raw (.ref DC))) (ha : Ev pg w (Wl g DC refs kC) (n + 1) sc δ (.Name xa q3) (.dat (.int i))) (ha' : Ev pg w (Wl g DC refs kC) (n + 1) sc δ (.Name xa q4) (.dat (.int i)))
    (hbv : Ev pg w (Wl g DC refs kC) (n + 1) sc δ (.Name xb p2) (.dat (.int j))) (hf : Ev pg w (Wl g DC refs kC) (n + 1) sc δ (.Name xf q5) (.raw (.ref 21)))
    (hD : s.heap.get? DC = some (lstO (refs.map Value.ref).toArray kC)) (hi0 : 0 ≤ i) (hi5 : i < refs.length) (hr5 : refs.length ≤ 10) (hai : refs[i.toNat]? = some a1) (hdt : DT w s.heap a1 ks) (ha1 : (a1 == sysModules) = false) (hjk : j ∉ ks) (hks : ks.length ≤ 20)
    (hX : X DC) (hba : hb.get? DC = none)
    (hQ : ∀ h' tk a', FR g hb X sc env δ h' → KO (fun b => b = DC) s.heap h' → s.heap.get? a' = none → 67 < a' → h'.get? DC = some (lstO ((refs.set i.toNat a').map Value.ref).toArray kC) → DT w h' a' (ks ++ [j]) → Q .next { s with heap := h', toks := tk }) :
    wpAny (model pg w) A (exec (.Assign [.Subscript (.Name xc q2) (.Name xa q4) sp1] (.Call (.Name xf q5) [.Subscript (.Name xc q1) (.Name xa q3) sp2, .Dict [some (.Tuple [.Constant (.str (Str.ofString "tied")) c1 p1, .Name xb p2, .Constant (.str (Str.ofString "place")) c2 p3] k0 tp)] [.Constant (.int 1) c3 p4] dp] [] cp) pos) env) Q E s := by
  have hw : (Wl g DC refs kC).ok s.heap := ⟨f.gk, hD⟩
  refine wpAny_Assign_stores ?_ rfl rfl
  refine Call_Name rfl (hf X A s env _ E rm f.scope hw f.ts f.xin fun fv h1 tk1 k1 e1 => ?_)
  cases e1
  obtain ⟨o21, fd21, ho21, hd21⟩ : ∃ o fd, g.get? 21 = some o ∧ o.data = .func fd := ⟨_, _, G.x 21 _ (by rfl), rfl⟩
  refine callWith_def (o := o21) (fd := fd21) hd21 ?_ rfl
  · rw [show starEach [.Subscript (.Name xc q1) (.Name xa q3) sp2, .Dict [some (.Tuple [.Constant (.str (Str.ofString "tied")) c1 p1, .Name xb p2, .Constant (.str (Str.ofString "place")) c2 p3] k0 tp)] [.Constant (.int 1) c3 p4] dp] env = [(false, eval (.Subscript (.Name xc q1) (.Name xa q3) sp2) env), (false, eval (.Dict [some (.Tuple [.Constant (.str (Str.ofString "tied")) c1 p1, .Name xb p2, .Constant (.str (Str.ofString "place")) c2 p3] k0 tp)] [.Constant (.int 1) c3 p4] dp) env)] from rfl]
    refine Calls.spliced_cons ((Ev.itemRaw (W := Wl g DC refs kC) (fun h ok => ok.2) hc ha hi0 (by omega) hai) X A _ env _ E rm f.scope ((Wl g DC refs kC).mono _ _ k1 hw) (f.ts.keeps k1) (f.xin.keeps k1) fun v2 h2 tk2 k2 r2 => ?_)
    cases r2
    have k12 := k1.trans k2
    refine Calls.spliced_cons (dict_new (W := Wl g DC refs kC) rm f.scope ((Wl g DC refs kC).mono _ _ k12 hw) (f.ts.keeps k12) (f.xin.keeps k12) hbv fun a2 h3 tk3 k3 ha2n ha2lt hdt2 => Calls.spliced_nil ?_)
    have k3' : HK h2 h3 := k3
    have k13 := k12.trans k3'
    have g3 : HK g h3 := f.gk.trans k13
    refine ⟨g3 _ _ ho21, ?_⟩
    have ha2s : (a2 == sysModules) = false := by
      have : 67 < a2 := ha2lt 67 _ ((f.gk.trans k12) _ _ (G.x 67 _ (by rfl)))
      exact beq_eq_false_iff_ne.mpr fun q => by rw [q] at this; exact absurd this (by decide)
    refine add_ok G rm g3 (f.xin.keeps k13) (hdt.keeps k13) hdt2 hjk hks ha1 ha2s fun a' h4 tk4 k4 hdt4 ha'n ha'67 => ?_
    have k4' : HK h3 h4 := k4
    have k14 := k13.trans k4'
    have ha's : s.heap.get? a' = none := none_of k13 ha'n
    show wpAny _ _ (assign (.Subscript (.Name xc q2) (.Name xa q4) sp1) env (.ref a')) _ _ _
    rw [show assign (.Subscript (.Name xc q2) (.Name xa q4) sp1) env (.ref a') = (do
      let ov ← holding [.ref a'] (eval (.Name xc q2) env)
      let iv ← holding [.ref a', ov] (eval (.Name xa q4) env)
      standAt sp1
      holding [.ref a', ov, iv] (setItem ov iv (.ref a'))
      release [.ref a', ov, iv] []) from rfl]
    refine wpAny_bind (wpAny_holding (hc' X A _ env _ E rm f.scope ((Wl g DC refs kC).mono _ _ k14 hw) (f.ts.keeps k14) (f.xin.keeps k14) fun ov h5 tk5 k5 r5 => ?_))
    cases r5
    have k15 := k14.trans k5
    refine wpAny_bind (wpAny_holding (ha' X A _ env _ E rm f.scope ((Wl g DC refs kC).mono _ _ k15 hw) (f.ts.keeps k15) (f.xin.keeps k15) fun iv h6 tk6 k6 r6 => ?_))
    obtain ⟨t', rfl⟩ := r6
    have k16 := k15.trans k6
    have hD6 := k16 _ _ hD
    refine wpAny_bind (wpAny_standAt (wpAny_bind (wpAny_holding (ki_setAt (n := kC) hD6 hi0 (by omega) (by simp; omega) ?_))))
    refine wpAny_releaseD ?_
    generalize hH : h6.update DC (Obj.mapSeq (·.setIfInBounds i.toNat (.ref a'))) = H
    have hs7 : Heap.SameBut DC h6 H := hH ▸ Heap.SameBut.update ..
    have ko : KO (fun b => b = DC) h6 H := fun b o q e => hs7.extBut b o q e
    have e7 : H.get? DC = some (lstO ((refs.set i.toNat a').map Value.ref).toArray kC) := by
      have e : Obj.mapSeq (·.setIfInBounds i.toNat (.ref a')) (lstO (refs.map Value.ref).toArray kC) = lstO ((refs.set i.toNat a').map Value.ref).toArray kC := by
        simp [Obj.mapSeq, List.map_set]
      rw [← hH, Heap.get?_update_self _ hD6 (by rw [e]; rfl), e]
    have f6 := f.keeps k16
    have f7 : FR g hb X sc env δ H := f6.mut ko (fun b q => q ▸ hba) (fun b q => .inl (q ▸ hX)) (fun b q => .inr ⟨_, kC, q ▸ hD6⟩) fun b q => ⟨_, q ▸ e7⟩
    refine hQ H tk6 a' f7 (fun b o q e => ko b o q (k16 b o e)) ha's ha'67 e7 ((hdt4.keeps (k5.trans k6)).ko ko (fun q => ?_) fun b q => q ▸ NoTup.list hD6)
    rw [q, hD] at ha's; cases ha's
end
end Mine

namespace Mine
def ownL (sc : Scope) (env : Env) : List Addr := env.locals :: (ownC sc).filterMap fun x => env.cells.lookup x
section
variable {g hb h : Heap} {X : Addr → Prop} {sc : Scope} {env : Env} {δ : TEnv}
theorem FR.ownIter (f : FR g hb X sc env δ h) {b : Addr} (q : OwnF (ownC sc) env b) : ¬ IterAt h b := fun ⟨o2, vs, e2, d2⟩ => by
  obtain ⟨ρ, fs, _⟩ := f.ts
  rcases q with rfl | ⟨x, _, hk, hc⟩
  · obtain ⟨m, ⟨o', es, ep, e', d', _⟩, _⟩ := fs.loc
    rw [e2] at e'; cases e'; rw [d2] at d'; cases d'
  · obtain ⟨c', h1, h2⟩ := fs.cel x (.inl hk)
    rw [hc] at h1; cases h1
    obtain ⟨o', e', d'⟩ := h2
    rw [e2] at e'; cases e'; rw [d2] at d'; cases d'
theorem FR.ownL (f : FR g hb X sc env δ h) (hnd : nodupB (sc.names.map Prod.fst) = true) : ∀ b, b ∈ Mine.ownL sc env → OwnF (ownC sc) env b := fun b hb' => by
  rcases List.mem_cons.mp hb' with rfl | hb'
  · exact .inl rfl
  · obtain ⟨x, hx, hc⟩ := List.mem_filterMap.mp hb'
    refine .inr ⟨x, hx, ?_, hc⟩
    unfold ownC at hx
    obtain ⟨⟨y, k⟩, hm, rfl⟩ := List.mem_map.mp hx
    simp only [List.mem_filter, beq_iff_eq] at hm
    show env.scope.names.lookup y = some .cell
    rw [f.scope]
    have := lookup_mem_nodup (nodupB_ok hnd) hm.1
    rw [hm.2] at this; exact this
/-- the frame, from here on -/
theorem FR.rebase (f : FR g hb X sc env δ h) (hnd : nodupB (sc.names.map Prod.fst) = true) : FR g (hideAll h (Mine.ownL sc env)) X sc env δ h := by
  have own := f.ownL hnd
  refine ⟨f.scope, fun b o e => hideAll_get _ (f.gk b o e) fun q => ?_, hide_hk _ _, fun b q => hideAll_none _ ?_, f.ts, f.xin⟩
  · have := none_of f.base (f.fresh b (own b q)); rw [e] at this; cases this
  · rcases q with rfl | ⟨x, hx, _, hc⟩
    · exact List.mem_cons_self
    · exact List.mem_cons_of_mem _ (List.mem_filterMap.mpr ⟨x, hx, hc⟩)
end
section
variable {w : World} {W : Wd} {n : Nat} {sc scT : Scope} {own : List Str} {δ : TEnv}
/-- what a loop over references binds -/
def refT (refs : List Addr) (x : Str) (d : PyData) (δ : TEnv) : TEnv := match refs[(toI d).toNat]? with
  | some a => δ.put x (.raw (.ref a))
  | none => δ
theorem ItC.refs {e : Expr} {x : Str} {p : Pos} {D : Addr} {refs : List Addr} {m : Nat} (hD : ∀ h, W.ok h → h.get? D = some (lstO (refs.map Value.ref).toArray m)) (h : Ev pg w W n sc δ e (.raw (.ref D))) (ho : okOwn scT own x = true) :
    ItC pg w W n sc δ scT own e (.Name x p) (refT refs x) (rangeD refs.length) :=
  fun X A s env Q E rm hs hw t hX hQ => h X A s env _ E rm hs hw t hX fun v h₁ tk₁ k₁ r₁ => by
    cases r₁
    have ha := hD _ (W.mono _ _ k₁ hw)
    have hne : D ≠ h₁.objs.size := Nat.ne_of_lt (Heap.lt_size ha)
    refine wpAny_pyIter_list (items := (refs.map Value.ref).toArray) ⟨_, ha, rfl, m, rfl⟩ ?_
    have hnone : s.heap.get? h₁.objs.size = none := none_of k₁ (get_size h₁)
    have W0 := Walks.list (prog := pg) (w := w) (A := A) rm.handled h₁.objs.size D hne (refs.map Value.ref).toArray
    refine hQ (.ref h₁.objs.size) [h₁.objs.size, D] [h₁.objs.size] (fun i h => h.IsListIter h₁.objs.size D i ∧ h.IsList D (refs.map Value.ref).toArray) _ _ (k₁.trans (HK.push _ _)) ⟨⟨_, Heap.get?_push_size _ rfl, rfl, rfl⟩, ⟨_, Heap.get?_push_of_some _ ha, rfl, m, rfl⟩⟩ ?_ ?_ ?_ ?_
    · intro b hb
      simp only [List.mem_cons, List.not_mem_nil, or_false] at hb
      rcases hb with rfl | rfl
      · exact ⟨_, Heap.get?_push_size _ rfl⟩
      · exact ⟨_, Heap.get?_push_of_some _ ha⟩
    · intro b hb
      simp only [List.mem_cons, List.not_mem_nil, or_false] at hb
      subst hb; exact hnone
    · intro b hb
      simp only [List.mem_cons, List.not_mem_nil, or_false] at hb
      subst hb; exact ⟨_, _, Heap.get?_push_size _ rfl, rfl⟩
    · intro X' hI k hwr
      have hl : (refs.map Value.ref).toArray.size = (rangeD refs.length).length := by simp [rangeD]
      rw [hl] at W0
      refine Src.nameG (T := refT refs x) W0 hwr (fun i h st b hb => ?_) (fun i d v hd hv δ => ?_) ho
      · simp only [List.mem_cons, List.not_mem_nil, or_false] at hb
        subst hb
        obtain ⟨⟨o, e, _, d⟩, _⟩ := st
        exact ⟨o, _, e, d⟩
      · obtain ⟨hi, rfl⟩ := rangeD_get hd
        rw [List.getElem?_toArray, List.getElem?_map] at hv
        cases q : refs[i]? with
        | none => rw [q] at hv; cases hv
        | some a =>
          rw [q] at hv
          cases hv
          show (match refs[((i : Int)).toNat]? with | some a => δ.put x (.raw (.ref a)) | none => δ) = _
          rw [Int.toNat_natCast, q]
end
end Mine

namespace Mine
abbrev Tie := Int × Int
def tup (t : Tie) : PyData := .tuple [.int t.1, .int t.2]
def toP : PyData → Tie
  | .tuple [.int a, .int b] => (a, b)
  | _ => (0, 0)
@[simp] theorem toP_tup (t : Tie) : toP (tup t) = t := rfl
def hasT (ts : List Tie) (p : Tie) : Bool := ts.any fun t => (t.1 == p.1) && ((t.2 == p.2) && true)
def pairsL : List Tie := (rangeL 5).flatMap fun other => (rangeL other).map fun one => (one, other)
def figs (a : Nat) : List Int := (bits (nb a) a ++ List.replicate 10 0).take 10
def ties (a : Nat) : List Tie := (pairsL.zipIdx.filter fun t => (figs a).getD t.2 0 == 1).map Prod.fst
def lacks (a : Nat) : List Tie := pairsL.filter fun p => !hasT (ties a) p
def rowsA (a : Nat) : List (List Int) := tied (ties a)
def counts (a : Nat) : List Int := (rowsA a).map fun r => (r.length : Int)
def told (a : Nat) : List Tie := (orders 5 (rangeL 5)).map (longest (rowsA a))
def lotOf (lot : Int) : List Int := (rangeL 5).filter fun place => (lot.fdiv (2 ^ place.toNat)).fmod 2 == 1
def lotsL : List (List Int) := (rangeL 32).map lotOf
def gaps (ts : List Tie) (lot : List Int) : List Int := lot.flatMap fun one => (lot.filter fun other => decide (one < other) && (!hasT ts (one, other) && true)).map fun _ => 1
def cliques (a : Nat) : List Int := (lotsL.filter fun lot => (gaps (ties a) lot).isEmpty).map fun lot => (lot.length : Int)
/-- the ties one by one are new to the rows -/
def freshT : List Tie → List (List Int) → Bool
  | [], _ => true
  | t :: r, rows => !(rows.getD t.1.toNat []).contains t.2 && !((rows.modify t.1.toNat (· ++ [t.2])).getD t.2.toNat []).contains t.1 && freshT r (tie1 rows t)
/-- what the plain law is to tell of the number a -/
structure LawF (a : Nat) : Prop where
  figs : val2 (figs a) = a
  rows : rowsOk4 (rowsA a)
  lackRows : rowsOk (tied (lacks a))
  moreRows : rowsOk (tied (ties a ++ (lacks a).take 1))
  fresh : freshT (ties a) (List.replicate 5 []) = true
  sum : (counts a).sum = 2 * ((ties a).length : Int)
  longs : minL ((told a).map Prod.fst) = fewest (rowsA a)
  greedy : minL ((told a).map Prod.snd) = fewest (rowsA a)
  most : fewest (rowsA a) ≤ 1 + maxL (counts a)
  worst : maxL ((told a).map Prod.snd) ≤ 1 + maxL (counts a)
  clique : maxL (cliques a) ≤ fewest (rowsA a)
  both : fewest (rowsA a) + fewest (tied (lacks a)) ≤ 6
  prod : 5 ≤ fewest (rowsA a) * fewest (tied (lacks a))
  one : lacks a = [] ∨ fewest (tied (ties a ++ (lacks a).take 1)) - fewest (rowsA a) = 0 ∨ fewest (tied (ties a ++ (lacks a).take 1)) - fewest (rowsA a) = 1
theorem pairs_ok : ∀ t ∈ pairsL, (0 ≤ t.1 ∧ t.1 < 5) ∧ 0 ≤ t.2 ∧ t.2 < 5 := by decide
theorem ties_mem {a : Nat} {t : Tie} (h : t ∈ ties a) : t ∈ pairsL := by
  unfold ties at h
  obtain ⟨⟨p, i⟩, hm, rfl⟩ := List.mem_map.mp h
  have := (List.mem_filter.mp hm).1
  exact (List.mem_zipIdx' this).2 ▸ List.getElem_mem _
theorem lacks_mem {a : Nat} {t : Tie} (h : t ∈ lacks a) : t ∈ pairsL := (List.mem_filter.mp h).1
theorem ties_len (a : Nat) : (ties a).length ≤ 10 := by
  unfold ties
  rw [List.length_map]
  refine Nat.le_trans (List.length_filter_le _ _) ?_
  rw [List.length_zipIdx]; decide
theorem lacks_len (a : Nat) : (lacks a).length ≤ 10 := Nat.le_trans (List.length_filter_le _ _) (by decide)
theorem ties_ok (a : Nat) : tiesOk (ties a) := ⟨Nat.le_trans (ties_len a) (by decide), fun t h => pairs_ok t (ties_mem h)⟩
theorem lacks_ok (a : Nat) : tiesOk (lacks a) := ⟨Nat.le_trans (lacks_len a) (by decide), fun t h => pairs_ok t (lacks_mem h)⟩
theorem more_ok (a : Nat) : tiesOk (ties a ++ (lacks a).take 1) := by
  refine ⟨?_, fun t h => ?_⟩
  · have := ties_len a
    rw [List.length_append, List.length_take]; omega
  · rcases List.mem_append.mp h with h | h
    · exact pairs_ok t (ties_mem h)
    · exact pairs_ok t (lacks_mem (List.mem_of_mem_take h))
theorem tiesD_eq (ts : List Tie) : tiesD ts = .list (ts.map tup) := rfl
theorem any_tup (ts : List Tie) (p : Tie) : (ts.map tup).any (fun y => PyData.eqv y (tup p)) = hasT ts p := by
  rw [List.any_map]; rfl
theorem figs_len (a : Nat) : (figs a).length = 10 := by unfold figs; simp
theorem figs_01 (a : Nat) : ∀ x ∈ figs a, 0 ≤ x ∧ x ≤ 1 := fun x h => by
  unfold figs at h
  rcases List.mem_append.mp (List.mem_of_mem_take h) with h | h
  · unfold bits at h
    obtain ⟨i, _, rfl⟩ := List.mem_map.mp h
    omega
  · rw [(List.mem_replicate.mp h).2]; decide
theorem depth_tup (t : Tie) : (tup t).depth ≤ 60 := by show max 0 (max 0 0) + 1 ≤ 60; decide
def outT (f : Int → PyData → List PyData) : PyData → List PyData
  | .tuple [.int i, x] => f i x
  | _ => []
theorem enum_eq (l : List Tie) : enumD (l.map tup) = l.zipIdx.map fun t => .tuple [.int (t.2 : Int), tup t.1] := by
  unfold enumD
  rw [List.zipIdx_map, List.map_map]; rfl
theorem enum_flat (p : Nat → Bool) (l : List Tie) : (enumD (l.map tup)).flatMap (outT fun i x => if p i.toNat = true then [x] else []) = ((l.zipIdx.filter fun t => p t.2).map Prod.fst).map tup := by
  rw [enum_eq]
  have gen : ∀ z : List (Tie × Nat), (z.map fun t => PyData.tuple [.int (t.2 : Int), tup t.1]).flatMap (outT fun i x => if p i.toNat = true then [x] else []) = ((z.filter fun t => p t.2).map Prod.fst).map tup := fun z => by
    induction z with
    | nil => rfl
    | cons t z ih =>
      rw [List.map_cons, List.flatMap_cons, ih, List.filter_cons]
      show (if p ((t.2 : Int)).toNat = true then [tup t.1] else []) ++ _ = _
      rw [Int.toNat_natCast]
      by_cases h : p t.2 = true <;> simp [h]
  exact gen _
theorem filter_tup (p : Tie → Bool) (l : List Tie) : (l.map tup).flatMap (fun d => if p (toP d) = true then [d] else []) = (l.filter p).map tup := by
  induction l with
  | nil => rfl
  | cons t l ih =>
    rw [List.map_cons, List.flatMap_cons, ih, List.filter_cons, toP_tup]
    by_cases h : p t = true <;> simp [h]
theorem told_len (a : Nat) : (told a).length ≤ 3125 := by
  unfold told; rw [List.length_map]
  exact orders_bound 5 _ (by decide) (by decide)
theorem orders_ne : ∀ {n : Nat} {ps : List Int}, ps.length = n → ps.Nodup → orders n ps ≠ []
  | 0, _, _, _ => by simp [orders]
  | n + 1, [], h, _ => by cases h
  | n + 1, p :: ps, h, hn => fun q => by
    have ih := orders_ne (n := n) (ps := (p :: ps).filter fun other => other != p) (filter_ne_length hn List.mem_cons_self h) (hn.filter _)
    unfold orders at q
    rw [List.flatMap_eq_nil_iff] at q
    have := q p List.mem_cons_self
    exact ih (List.map_eq_nil_iff.mp this)
theorem orders_perm : ∀ {n : Nat} {ps : List Int}, ps.length = n → ps.Nodup → ∀ o ∈ orders n ps, o.Nodup ∧ ∀ x ∈ o, x ∈ ps
  | 0, ps, _, _, o, h => by
    simp only [orders, List.mem_singleton] at h
    subst h; exact ⟨List.nodup_nil, fun x hx => by cases hx⟩
  | n + 1, ps, hl, hn, o, h => by
    simp only [orders, List.mem_flatMap, List.mem_map] at h
    obtain ⟨one, ho, r, hr, rfl⟩ := h
    obtain ⟨h1, h2⟩ := orders_perm (n := n) (ps := ps.filter fun other => other != one) (filter_ne_length hn ho hl) (hn.filter _) r hr
    refine ⟨?_, fun x hx => ?_⟩
    · show (one :: r).Nodup
      refine List.nodup_cons.mpr ⟨fun q => ?_, h1⟩
      have := List.mem_filter.mp (h2 one q)
      simp at this
    · rcases List.mem_cons.mp hx with rfl | hx
      · exact ho
      · exact (List.mem_filter.mp (h2 x hx)).1
end Mine

namespace Mine
/-- the dicts at refs hold rows; none of it is the frame's own -/
def RI (w : World) (hb : Heap) (DC : Addr) (sc : Scope) (env : Env) (h : Heap) (refs : List Addr) (rows : List (List Int)) : Prop :=
  ∀ j b, refs[j]? = some b → (∃ xs : Xs, h.DictOfH (tkd w) b xs ∧ xs.map (·.1) = (rows.getD j []).map keyT ∧ (∀ x ∈ xs, ∃ t, x.2.2 = .int 1 t) ∧ ∀ x ∈ xs, ¬ OwnF (ownC sc) env x.2.1) ∧ (b == sysModules) = false ∧ b ≠ DC ∧ ¬ OwnF (ownC sc) env b
section
variable {w : World} {hb h h' : Heap} {DC : Addr} {sc : Scope} {env : Env} {refs : List Addr} {rows : List (List Int)}
theorem RI.dt (r : RI w hb DC sc env h refs rows) {j : Nat} {b : Addr} (e : refs[j]? = some b) : DT w h b (rows.getD j []) := let ⟨⟨xs, a, c, d, _⟩, _⟩ := r j b e; ⟨xs, a, c, d⟩
theorem RI.stay (r : RI w hb DC sc env h refs rows) {O : Addr → Prop} {hh : Heap} (ko : KO O h h') (hO : ∀ b, O b → (hh.get? b = none ∧ IterAt h b) ∨ OwnF (ownC sc) env b) : RI w hb DC sc env h' refs rows := fun j b e => by
  obtain ⟨⟨xs, a, c, d, k⟩, s, n, o⟩ := r j b e
  exact ⟨⟨xs, DictOfH.stay a ko hO o k, c, d, k⟩, s, n, o⟩
theorem RI.keeps (r : RI w hb DC sc env h refs rows) (k : HK h h') : RI w hb DC sc env h' refs rows := fun j b e => by
  obtain ⟨⟨xs, a, c, d, o⟩, s⟩ := r j b e
  exact ⟨⟨xs, DictOfH.keeps a k, c, d, o⟩, s⟩
theorem RI.link {g : Heap} {X : Addr → Prop} {δ : TEnv} {vs : Array Value} {m : Nat} (r : RI w hb DC sc env h refs rows) (f' : FR g hb X sc env δ h') (ko : KO (fun b => b = DC) h h') (hD : h.get? DC = some (lstO vs m)) {i : Nat} {a' : Addr} {ks : List Int} (hi : i < rows.length) (hks : rows.getD i [] = ks) {x : Int} (hd : DT w h' a' (ks ++ [x])) (han : h.get? a' = none) (ha : 67 < a')
    (hao : ¬ OwnF (ownC sc) env a') : RI w hb DC sc env h' (refs.set i a') (rows.modify i (· ++ [x])) := fun j b e => by
  by_cases hj : i = j
  · subst hj
    have hlt : i < refs.length := by have := (List.getElem?_eq_some_iff.mp e).1; simpa using this
    rw [List.getElem?_set_self hlt] at e
    cases e
    obtain ⟨xs, a, c, d⟩ := hd
    refine ⟨⟨xs, a, ?_, d, fun x hx q => notTup_key (DictOfH.key a hx) (NoTup.own f' q)⟩, beq_eq_false_iff_ne.mpr fun q => by rw [q] at ha; exact absurd ha (by decide), fun q => (by rw [q, hD] at han; cases han), hao⟩
    rw [List.getD_eq_getElem?_getD, List.getElem?_modify, List.getElem?_eq_getElem hi]
    rw [List.getD_eq_getElem?_getD, List.getElem?_eq_getElem hi] at hks
    simp only [Option.getD_some] at hks
    simp only [Option.map_eq_map, Option.map_some, if_true, Option.getD_some, hks]
    exact c
  · rw [List.getElem?_set_ne hj] at e
    obtain ⟨⟨xs, a, c, d, o⟩, s, n, ob⟩ := r j b e
    refine ⟨⟨xs, DictOfH.ko a ko n fun b q => q ▸ NoTup.list hD, ?_, d, o⟩, s, n, ob⟩
    rw [c, List.getD_eq_getElem?_getD, List.getD_eq_getElem?_getD, List.getElem?_modify]
    congr 2
    cases rows[j]? <;> simp [hj]
end
theorem fresh_at : ∀ {ts : List Tie} {rows : List (List Int)}, freshT ts rows = true → ∀ {i : Nat} {t : Tie}, ts[i]? = some t →
    t.2 ∉ ((ts.take i).foldl tie1 rows).getD t.1.toNat [] ∧ t.1 ∉ (((ts.take i).foldl tie1 rows).modify t.1.toNat (· ++ [t.2])).getD t.2.toNat []
  | t :: ts, rows, h, 0, _, e => by
    simp only [List.getElem?_cons_zero, Option.some.injEq] at e
    subst e
    simp only [freshT, Bool.and_eq_true, Bool.not_eq_true'] at h
    refine ⟨fun q => ?_, fun q => ?_⟩
    · have h1 := h.1.1
      have q' : t.2 ∈ rows.getD t.1.toNat [] := q
      rw [List.contains_iff_mem.mpr q'] at h1; cases h1
    · have h1 := h.1.2
      have q' : t.1 ∈ (rows.modify t.1.toNat (· ++ [t.2])).getD t.2.toNat [] := q
      rw [List.contains_iff_mem.mpr q'] at h1; cases h1
  | t :: ts, rows, h, i + 1, u, e => by
    simp only [freshT, Bool.and_eq_true] at h
    have := fresh_at h.2 (i := i) (t := u) (by simpa using e)
    simpa using this
/-- the list of references and the dicts behind it -/
def Wc (w : World) (g : Heap) (DC : Addr) (refs : List Addr) (kC : Nat) (rows : List (List Int)) : Wd :=
  ⟨fun h => HK g h ∧ h.get? DC = some (lstO (refs.map Value.ref).toArray kC) ∧ ∀ j b, refs[j]? = some b → DT w h b (rows.getD j []), fun _ _ k o => ⟨o.1.trans k, k _ _ o.2.1, fun j b e => (o.2.2 j b e).keeps k⟩⟩
theorem refT_eq {refs : List Addr} {x : Str} {i : Nat} {b : Addr} (e : refs[i]? = some b) (δ : TEnv) : refT refs x (.int (i : Int)) δ = δ.put x (.raw (.ref b)) := by
  show (match refs[((i : Int)).toNat]? with | some a => δ.put x (.raw (.ref a)) | none => δ) = _
  rw [Int.toNat_natCast, e]
theorem counts_flat {rows : List (List Int)} (h : rows.length = 5) : (rangeD 5).flatMap (fun d => [PyData.int ((rows.getD (toI d).toNat []).length : Int)]) = (rows.map fun r => (r.length : Int)).map .int := by
  match rows, h with
  | [a, b, c, d, e], _ => rfl
end Mine

namespace Mine
theorem eqv_ints_refl : ∀ xs : List Int, PyData.eqv (.list (xs.map .int)) (.list (xs.map .int)) = true := fun xs => by
  show PyData.eqvAll (xs.map .int) (xs.map .int) = true
  induction xs with
  | nil => rfl
  | cons x xs ih =>
    show (PyData.eqv (.int x) (.int x) && PyData.eqvAll (xs.map .int) (xs.map .int)) = true
    rw [ih, Bool.and_true]
    show (x == x) = true
    simp
theorem FnR.less {prog : Program} {w : World} {g : Heap} {m n : Nat} {a : Addr} {ds : List PyData} {d : PyData} (h : FnR prog w g n a ds d) (hm : n ≤ m) : FnR prog w g m a ds d := fun X A s vs Q E rm => h X A s vs Q E (rm.less hm)
theorem flat_fst (l : List Tie) : (l.map tup).flatMap (fun d => [PyData.int (toP d).1]) = (l.map Prod.fst).map .int := by
  rw [flat_one, List.map_map]; rfl
theorem flat_snd (l : List Tie) : (l.map tup).flatMap (fun d => [PyData.int (toP d).2]) = (l.map Prod.snd).map .int := by
  rw [flat_one, List.map_map]; rfl
theorem minL_mem : ∀ {l : List Int}, l ≠ [] → minL l ∈ l := by
  have gen : ∀ (xs : List Int) (x : Int), xs.foldl min x = x ∨ xs.foldl min x ∈ xs := fun xs => by
    induction xs with
    | nil => intro x; exact .inl rfl
    | cons a l ih =>
      intro x
      rcases ih (min x a) with h | h
      · rw [List.foldl_cons, h]
        by_cases hx : x ≤ a
        · exact .inl (Int.min_eq_left hx)
        · exact .inr (by rw [Int.min_eq_right (by omega)]; exact List.mem_cons_self)
      · exact .inr (List.mem_cons_of_mem _ h)
  intro l h
  cases l with
  | nil => exact absurd rfl h
  | cons a l =>
    rcases gen l a with h | h
    · show l.foldl min a ∈ _
      rw [h]; exact List.mem_cons_self
    · exact List.mem_cons_of_mem _ h
theorem fewest_bound {rows : List (List Int)} (hr : rowsOk rows) : 1 ≤ fewest rows ∧ fewest rows ≤ 5 := by
  have hne : ((fewWays rows 5).map fun way => 1 + maxL way) ≠ [] := fun q => ways_ne hr (n := 5) (by omega) (List.map_eq_nil_iff.mp q)
  obtain ⟨way, hw, e⟩ := List.mem_map.mp (minL_mem hne)
  obtain ⟨w1, w2⟩ := ways_ok rows 5 way hw
  have hwne : way ≠ [] := fun q => by rw [q] at w1; cases w1
  have h1 : maxL way ≤ 4 := maxL_le hwne fun c hc => by have := w2 c hc; omega
  have h2 : 0 ≤ maxL way := by
    cases way with
    | nil => exact absurd rfl hwne
    | cons c cs =>
      have := maxL_ge (c := c) (l := c :: cs) List.mem_cons_self
      have := (w2 c List.mem_cons_self).1
      omega
  unfold fewest
  rw [← e]
  exact ⟨by omega, by omega⟩
theorem intBits_small {a : Int} (h0 : 0 ≤ a) (h5 : a ≤ 8) : Builtin.Int.intBits a ≤ 64 := by
  have : a = 0 ∨ a = 1 ∨ a = 2 ∨ a = 3 ∨ a = 4 ∨ a = 5 ∨ a = 6 ∨ a = 7 ∨ a = 8 := by omega
  rcases this with rfl | rfl | rfl | rfl | rfl | rfl | rfl | rfl | rfl <;> decide
theorem eqv_tups_empty (l : List Tie) : PyData.eqv (.list (l.map tup)) (.list []) = l.isEmpty := by cases l <;> rfl
theorem toL_lot (l : List Int) : toL (intsD l) = l := toL_ints l
theorem lot_flat : (rangeD 32).flatMap (fun d => [intsD (lotOf (toI d))]) = lotsL.map intsD := by
  rw [rangeD_eq, flat_one, lotsL, List.map_map]; rfl
theorem lotOf_flat (lot : Int) : (rangeD 5).flatMap (fun d => if ((lot.fdiv (2 ^ (toI d).toNat)).fmod 2 == 1) = true then [d] else []) = (lotOf lot).map .int := by
  rw [rangeD_eq, flat_filterI (p := fun place => (lot.fdiv (2 ^ place.toNat)).fmod 2 == 1)]; rfl
theorem gaps_flat (ts : List Tie) (lot : List Int) : (lot.map PyData.int).flatMap (fun d => (lot.map PyData.int).flatMap fun e => if (decide (toI d < toI e) && (!hasT ts (toI d, toI e) && true)) = true then [PyData.int 1] else []) = (gaps ts lot).map .int := by
  unfold gaps
  rw [List.map_flatMap, List.flatMap_map]
  congr 1
  funext one
  rw [toI_int, flat_filterG (p := fun other => decide (one < other) && (!hasT ts (one, other) && true)) (f := fun _ => PyData.int 1), List.map_map]
  rfl
theorem cliques_flat (a : Nat) : (lotsL.map intsD).flatMap (fun d => if (gaps (ties a) (toL d)).isEmpty = true then [PyData.int ((toL d).length : Int)] else []) = (cliques a).map .int := by
  unfold cliques
  generalize lotsL = ls
  induction ls with
  | nil => rfl
  | cons l ls ih =>
    rw [List.map_cons, List.flatMap_cons, ih, List.filter_cons, toL_ints]
    by_cases h : (gaps (ties a) l).isEmpty = true <;> simp [h]
theorem cliques_ne (a : Nat) : cliques a ≠ [] := fun q => by
  unfold cliques at q
  have hm : ([] : List Int) ∈ lotsL := by
    have : lotOf 0 = [] := by decide
    unfold lotsL
    exact List.mem_map.mpr ⟨0, mem_rangeL.mpr ⟨by decide, by decide⟩, this⟩
  have hf : ([] : List Int) ∈ lotsL.filter fun lot => (gaps (ties a) lot).isEmpty := List.mem_filter.mpr ⟨hm, rfl⟩
  rw [List.map_eq_nil_iff.mp q] at hf
  cases hf
theorem lot_mem {lot : List Int} (h : lot ∈ lotsL) : lot.length ≤ 5 ∧ ∀ p ∈ lot, 0 ≤ p ∧ p < 5 := by
  unfold lotsL at h
  obtain ⟨i, _, rfl⟩ := List.mem_map.mp h
  unfold lotOf
  refine ⟨Nat.le_trans (List.length_filter_le _ _) (by decide), fun p hp => mem_rangeL.mp (List.mem_filter.mp hp).1⟩
theorem told_flat (a : Nat) : ((orders 5 (rangeL 5)).map intsD).flatMap (fun d => [tup (longest (rowsA a) (toL d))]) = (told a).map tup := by
  rw [flat_one, told, List.map_map]
  simp only [toL_ints]; rfl
theorem told_ne (a : Nat) : told a ≠ [] := fun q => orders_ne (n := 5) (ps := rangeL 5) (by decide) (by decide) (List.map_eq_nil_iff.mp q)
end Mine

namespace Mine
/-- the walk of law's body -/
def LawBody (w : World) (g : Heap) (sc : Scope) (body : List Stmt) : Prop :=
  ∀ (a : Nat) (A : Around) (s : Shared) (env : Env) (X : Addr → Prop) (l : Addr) (its : Array Value) (xs : List Int) (Q : Flow → Shared → Prop) (E : Value → Shared → Prop), a < 1024 → LawF a → Room 100 A → X 30 → X 37 →
    FR g g X sc env (none0.put (Str.ofString "script") (.raw (.ref l))) s.heap → g.IsList l its → its.size = xs.length → (∀ (i : Nat) (v : Value), its[i]? = some v → ∃ t, v = Value.int (xs.getD i 0) t) → (if xs.sum < 0 then -xs.sum else xs.sum).fmod 1024 = (a : Int) →
    s.heap.get? 30 = some (tabObj #[]) → s.heap.get? 37 = some (tabObj #[]) →
    (∀ h' tk, HK g h' → (∃ ps, h'.get? 30 = some (tabObj ps)) → (∃ ps, h'.get? 37 = some (tabObj ps)) → Q (.ret (.bool true)) { s with heap := h', toks := tk }) → wpAny (model pg w) A (execs body env) Q E s
def Law67 (w : World) (g : Heap) : Prop := ∃ oc od osl fd body, (hd.heap_39 w.params).lookup 67 = some ⟨oc, od, .func fd, osl⟩ ∧ fd.body = .stmts body ∧ LawBody w g fd.scope body
theorem Ev.sumRaw {w : World} {W : Wd} {n : Nat} {sc : Scope} {δ : TEnv} {x : Str} {p pos : Pos} {e : Expr} {l : Addr} {its : Array Value} {xs : List Int} (hL : ∀ h, W.ok h → h.IsList l its) (hs : its.size = xs.length) (hv : ∀ (i : Nat) (v : Value), its[i]? = some v → ∃ t, v = Value.int (xs.getD i 0) t)
    (hf : Ev pg w W n sc δ (.Name x p) (.raw (.builtin "sum"))) (ha : Ev pg w W n sc δ e (.raw (.ref l))) (hst : ∀ env, starEach [e] env = [(false, eval e env)] := by intro _; rfl) : Ev pg w W n sc δ (.Call (.Name x p) [e] [] pos) (.dat (.int xs.sum)) := fun X A s env Q E rm hs' hw t hX hQ =>
  Call_Name rfl (hf X A s env _ E rm hs' hw t hX fun f h1 tk1 k1 e1 => by
    cases e1
    refine callWith_builtin1 ?_ (by rw [hst]; rfl) rfl
    rw [hst]
    refine Calls.spliced_cons (ha X A _ env _ E rm hs' (W.mono _ _ k1 hw) (t.keeps k1) (hX.keeps k1) fun v h2 tk2 k2 r2 => Calls.spliced_nil ?_)
    cases r2
    have k02 := k1.trans k2
    have hl := hL _ (W.mono _ _ k02 hw)
    obtain ⟨o, ho, hc, m, hd⟩ := id hl
    have hne : l ≠ h2.objs.size := Nat.ne_of_lt (Heap.lt_size ho)
    refine call_sum_walkG (wpAny_pyIter_list (items := its) hl ?_)
    refine ⟨_, _, _, _, _, _, fun i => xs.getD i 0, rfl, Walks.list (A := A.in1) rm.handled h2.objs.size l hne its, ⟨⟨_, Heap.get?_push_size _ rfl, rfl, rfl⟩, ⟨_, Heap.get?_push_of_some _ ho, hc, m, hd⟩⟩, ?_, ?_, ?_⟩
    · intro b hb
      simp only [List.mem_cons, List.not_mem_nil, or_false] at hb
      have := Heap.lt_size ho
      show b < (h2.push _).objs.size
      rw [Heap.size_push]
      rcases hb with rfl | rfl
      · exact Nat.lt_succ_self _
      · exact Nat.lt_succ_of_lt this
    · exact hv
    · intro h' tk t' hk
      rw [hs, preSum_take xs _ (Nat.le_refl _), List.take_length]
      exact hQ _ h' tk (k02.trans (hk_wr (s := ⟨h2, s.gens, s.drawn, 0, s.os⟩) (fun b hb => by simpa using hb) hk)) ⟨_, rfl⟩)
section
variable {w : World} {g : Heap}
set_option maxHeartbeats 8000000 in
theorem law_walk (G : GW w g) (C41 : CodeHd g 41 37) (C34 : CodeHd g 34 30) (g30 : g.get? 30 = none) (g37 : g.get? 37 = none) : Law67 w g := by
  refine ⟨_, _, _, _, _, by rfl, by rfl, ?_⟩
  unfold LawBody
  intro a A s env X l its xs Q E ha F rm X30 X37 f0 hL hsz hv hnum h30 h37 hQ
  have hW : ∀ h, (Wg g).ok h → HK g h := fun h ok => ok
  have nRange : GName (Wg g) (Str.ofString "range") (.type "range") := gname_bi G hW (by rfl) (by rfl) (by decide)
  have nAbs : GName (Wg g) (Str.ofString "abs") (.builtin "abs") := gname_bi G hW (by rfl) (by rfl) (by decide)
  have nSum : GName (Wg g) (Str.ofString "sum") (.builtin "sum") := gname_bi G hW (by rfl) (by rfl) (by decide)
  have nMax : GName (Wg g) (Str.ofString "max") (.builtin "max") := gname_bi G hW (by rfl) (by rfl) (by decide)
  have nMin : GName (Wg g) (Str.ofString "min") (.builtin "min") := gname_bi G hW (by rfl) (by rfl) (by decide)
  have nLen : GName (Wg g) (Str.ofString "len") (.builtin "len") := gname_bi G hW (by rfl) (by rfl) (by decide)
  have nList : GName (Wg g) (Str.ofString "list") (.type "list") := gname_bi G hW (by rfl) (by rfl) (by decide)
  have nEnum : GName (Wg g) (Str.ofString "enumerate") (.type "enumerate") := gname_bi G hW (by rfl) (by rfl) (by decide)
  have it30 : IterAt s.heap 30 := ⟨_, _, h30, rfl⟩
  have it37 : IterAt s.heap 37 := ⟨_, _, h37, rfl⟩
  have o30 : ¬ OwnF (ownC _) env 30 := fun q => f0.ownIter q it30
  have o37 : ¬ OwnF (ownC _) env 37 := fun q => f0.ownIter q it37
  -- pairs
  refine wpAny_execs_cons (st_comp2 (W := Wg g) (n := 100) (ds := (rangeL 5).map .int) (T := Tgt (.Name (Str.ofString "other") _)) (fun d => ((rangeL (toI d)).map .int).flatMap fun e => [tup (toI e, toI d)]) rm f0 f0.gk
    (by rw [← rangeD_eq]; exact It.range (k := 5) (Ev.gname nRange (by rfl)) Ev.int (by decide) (by decide) (by rfl)) (tgt_new (by rfl)) (mem_lists fun other ho => ?_) ?_ fun h₁ tk₁ f₁ k₁ => ?_)
  · have := mem_rangeL.mp ho
    refine BodyJ.congr (BodyJ.nest (b := true) (ds := (rangeL other).map .int) (T := Tgt (.Name (Str.ofString "one") _)) (outs := fun e => [tup (toI e, other)]) .nil (fun _ => by rw [← rangeD_eq]; exact It.range (k := other) (Ev.gname nRange (by rfl)) (Ev.name (by rfl) (by rfl)) (by omega) (by omega) (by rfl)) (fun _ => tgt_new (by rfl)) (fun _ => mem_lists fun one h1 => ?_)) (if_pos rfl)
    exact BodyJ.congr (BodyJ.last (b := true) .nil fun _ => Ev.tuple (.cons (Ev.name (by rfl) (by rfl)) (.cons (Ev.name (by rfl) (by rfl)) .nil)) (show 2 ≤ sizeLine by decide)) rfl
  · decide
  have pairsE : ((rangeL 5).map PyData.int).flatMap (fun d => ((rangeL (toI d)).map PyData.int).flatMap fun e => [tup (toI e, toI d)]) = pairsL.map tup := by rfl
  rw [pairsE] at f₁
  have k₁' : KO (OwnF (ownC _) env) s.heap h₁ := k₁
  have e30 : h₁.get? 30 = some (tabObj #[]) := k₁' _ _ o30 h30
  have e37 : h₁.get? 37 = some (tabObj #[]) := k₁' _ _ o37 h37
  -- number
  refine wpAny_execs_cons (st_assign (W := Wg g) (n := 100) (r := .dat (.int a)) rm f₁ f₁.gk (Ev.cast (Ev.binop (d₁ := .int (if xs.sum < 0 then -xs.sum else xs.sum)) (d₂ := .int 1024) (Ev.call1 (d₁ := .int xs.sum) (Ev.gname nAbs (by rfl)) (Ev.sumRaw (fun h ok => let ⟨o, e, c, n, d⟩ := hL; ⟨o, ok _ _ e, c, n, d⟩) hsz hv (Ev.gname nSum (by rfl)) (Ev.name (by rfl) (by rfl))) (F1R.abs _)) Ev.int (BinR.mod (by decide))) (by rw [hnum])) fun h₂ tk₂ f₂ k₂ => ?_)
  have k₂' : KO (OwnF (ownC _) env) h₁ h₂ := k₂
  have e30 : h₂.get? 30 = some (tabObj #[]) := k₂' _ _ o30 e30
  have e37 : h₂.get? 37 = some (tabObj #[]) := k₂' _ _ o37 e37
  -- figures
  have nbl : nb a ≤ 10 := (nbits_le a ha).1
  obtain ⟨o35, fd35, ho35, hd35⟩ : ∃ o fd, g.get? 35 = some o ∧ o.data = .func fd := ⟨_, _, G.x 35 _ (by rfl), rfl⟩
  obtain ⟨o42, fd42, ho42, hd42⟩ : ∃ o fd, g.get? 42 = some o ∧ o.data = .func fd := ⟨_, _, G.x 42 _ (by rfl), rfl⟩
  have n35 : GName (Wg g) (Str.ofString "_int2digits") (.ref 35) := gname_main G hW (by rfl)
  have n42 : GName (Wg g) (Str.ofString "_digits2int") (.ref 42) := gname_main G hW (by rfl)
  refine wpAny_execs_cons (wpAny_Assign_Name (upto_wp (W := Wg g) (n := 100) (X := X) (xs := (bits (nb a) a ++ List.replicate 10 0).map .int) (k := 10) rm f₂ ?_ Ev.int (by rw [List.length_map, List.length_append, bits_len, List.length_replicate]; exact Nat.le_trans (show nb a + 10 ≤ 20 by omega) (by decide))))
  refine binop_wp (W := Wg g) (n := 100) (X := X) (d₁ := intsD (bits (nb a) a)) (d₂ := .list (List.replicate 10 (.int 0))) (d := .list ((bits (nb a) a ++ List.replicate 10 0).map .int)) rm f₂ ?_ (Ev.binop (d₁ := .list [.int 0]) (d₂ := .int 10) (Ev.list (.cons Ev.int .nil) (show 1 ≤ sizeLine by decide)) Ev.int (BinR.mulList1 (k := 10) (by decide) (by decide))) (by
    have h := BinR.addList (prog := pg) (w := w) (n := 100) (xs := (bits (nb a) a).map PyData.int) (ys := List.replicate 10 (PyData.int 0)) (by rw [List.length_map, bits_len, List.length_replicate]; exact Nat.le_trans (show nb a + 10 ≤ 20 by omega) (by decide))
    rw [show (bits (nb a) a).map PyData.int ++ List.replicate 10 (PyData.int 0) = (bits (nb a) a ++ List.replicate 10 0).map .int by rw [List.map_append, List.map_replicate]] at h
    exact h)
  refine Call_Name rfl ((Ev.gname n35 (by rfl)) X A _ env _ _ rm f₂.scope f₂.gk f₂.ts f₂.xin fun fv h₃ tk₃ k₃ e₃ => ?_)
  cases e₃
  have k₃' : HK h₂ h₃ := k₃
  have f₃ := f₂.keeps k₃'
  refine callWith_def (o := o35) (fd := fd35) hd35 ?_ rfl
  refine (Evs.cons (W := Wg g) (n := 100) (d := .int a) (Ev.name (by rfl) (by rfl)) (.cons (d := .int 1) Ev.int .nil)) X A _ env _ _ _ rm f₃.scope f₃.gk f₃.ts f₃.xin fun vs h₄ tk₄ k₄ r₄ => ?_
  have k₄' : HK h₃ h₄ := k₄
  have f₄ := f₃.keeps k₄'
  refine ⟨f₄.gk _ _ ho35, ?_⟩
  refine int2_ok G C34 g30 a ha (n := 70) rm f₄.gk f₄.xin r₄ (k₄' _ _ (k₃' _ _ e30)) X30 fun v h₅ tk₅ ko₅ gr30 r₅ => ?_
  have ko₅' : KO (fun b => b = 30) h₄ h₅ := ko₅
  have e37 : h₅.get? 37 = some (tabObj #[]) := ko₅' _ _ (by decide) (k₄' _ _ (k₃' _ _ e37))
  obtain ⟨ps30, gr30⟩ := gr30
  have f₅ := f₄.mut ko₅' (fun b q => q ▸ g30) (fun b q => .inl (q ▸ X30)) (fun b q => .inl (q ▸ ⟨_, _, k₄' _ _ (k₃' _ _ e30), rfl⟩)) fun b q => ⟨_, q ▸ gr30⟩
  refine ⟨r₅, f₅.gk, f₅.ts, f₅.xin, fun v6 h₆ tk₆ k₆ r₆ => ⟨r₆, f₅.gk.trans k₆, f₅.ts.keeps k₆, f₅.xin.keeps k₆, fun v7 h₇ tk₇ k₇ r₇ => ?_⟩⟩
  have k57 : HK h₅ h₇ := HK.trans k₆ k₇
  refine (f₅.keeps k57).store (s := { s with heap := h₇, toks := tk₇ }) (r := .dat (intsD (figs a))) (by rfl) (by rw [← List.map_take] at r₇; exact r₇) fun h₈ tk₈ f₈ k₈ => ?_
  have k₈' : KO (OwnF (ownC _) env) h₇ h₈ := k₈
  have e37 : h₈.get? 37 = some (tabObj #[]) := k₈' _ _ o37 (k57 _ _ e37)
  have e30 : h₈.get? 30 = some (tabObj ps30) := k₈' _ _ o30 (k57 _ _ gr30)
  -- the figures tell the number
  refine wpAny_execs_cons (wpAny_If (wpAny_isTrue_Compare1 (Call_Name rfl ((Ev.gname n42 (by rfl)) X A _ env _ _ rm f₈.scope f₈.gk f₈.ts f₈.xin fun fv h₉ tk₉ k₉ e₉ => ?_))))
  cases e₉
  have k₉' : HK h₈ h₉ := k₉
  have f₉ := f₈.keeps k₉'
  refine callWith_def (o := o42) (fd := fd42) hd42 ?_ rfl
  refine (Evs.cons (W := Wg g) (n := 100) (d := intsD (figs a)) (Ev.name (by rfl) (by rfl)) (.cons (d := .int 1) Ev.int .nil)) X A _ env _ _ _ rm f₉.scope f₉.gk f₉.ts f₉.xin fun vs h₁₀ tk₁₀ k₁₀ r₁₀ => ?_
  have k₁₀' : HK h₉ h₁₀ := k₁₀
  have f₁₀ := f₉.keeps k₁₀'
  refine ⟨f₁₀.gk _ _ ho42, ?_⟩
  refine digits_ok G C41 g37 (figs a) (fun q => by have := figs_len a; rw [q] at this; cases this) (by rw [figs_len]; decide) (figs_01 a) (n := 70) rm f₁₀.gk f₁₀.xin r₁₀ (k₁₀' _ _ (k₉' _ _ e37)) X37 fun h₁₁ tk₁₁ t₁₁ ko₁₁ gr37 => ?_
  have ko₁₁' : KO (fun b => b = 37) h₁₀ h₁₁ := ko₁₁
  obtain ⟨ps37, gr37⟩ := gr37
  have e30 : h₁₁.get? 30 = some (tabObj ps30) := ko₁₁' _ _ (by decide) (k₁₀' _ _ (k₉' _ _ e30))
  have f₁₁ := f₁₀.mut ko₁₁' (fun b q => q ▸ g37) (fun b q => .inl (q ▸ X37)) (fun b q => .inl (q ▸ ⟨_, _, k₁₀' _ _ (k₉' _ _ e37), rfl⟩)) fun b q => ⟨_, q ▸ gr37⟩
  refine (Ev.name (W := Wg g) (n := 100) (r := .dat (.int a)) (by rfl) (by rfl)) X A _ env _ _ rm f₁₁.scope f₁₁.gk f₁₁.ts f₁₁.xin fun v h₁₂ tk₁₂ k₁₂ r₁₂ => ?_
  obtain ⟨t₁₂, rfl⟩ := r₁₂
  have k₁₂' : HK h₁₁ h₁₂ := k₁₂
  rw [F.figs]
  refine CmpR.ne (n := 100) (d₁ := .int a) (d₂ := .int a) (Nat.zero_le _) (Nat.zero_le _) X A _ _ _ _ _ rm (f₁₁.xin.keeps k₁₂') ⟨_, rfl⟩ ⟨_, rfl⟩ fun h₁₃ tk₁₃ k₁₃ => wpAny_truthy_bool ?_
  have k₁₃' : HK h₁₂ h₁₃ := k₁₃
  have hfalse : (!PyData.eqv (.int (a : Int)) (.int (a : Int))) = false := by show (!((a : Int) == (a : Int))) = false; simp
  rw [hfalse]
  refine wpAny_execs_nil ?_
  have f₁₃ := f₁₁.keeps (k₁₂'.trans k₁₃')
  have e30 : h₁₃.get? 30 = some (tabObj ps30) := k₁₃' _ _ (k₁₂' _ _ e30)
  have e37 : h₁₃.get? 37 = some (tabObj ps37) := k₁₃' _ _ (k₁₂' _ _ gr37)
  have gr30 : IterAt h₁₃ 30 := ⟨_, _, e30, rfl⟩
  have gr37 : IterAt h₁₃ 37 := ⟨_, _, e37, rfl⟩
  have o30 : ¬ OwnF (ownC _) env 30 := fun q => f₁₃.ownIter q gr30
  have o37 : ¬ OwnF (ownC _) env 37 := fun q => f₁₃.ownIter q gr37
  obtain ⟨hb13, hb30, hb37, f₁₃⟩ : ∃ hb13 : Heap, hb13.get? 30 = some (tabObj ps30) ∧ hb13.get? 37 = some (tabObj ps37) ∧ FR g hb13 X _ env _ h₁₃ :=
    ⟨_, hideAll_get _ e30 (fun q => o30 (f₁₃.ownL (by rfl) _ q)), hideAll_get _ e37 (fun q => o37 (f₁₃.ownL (by rfl) _ q)), f₁₃.rebase (by rfl)⟩
  -- ties
  refine wpAny_execs_cons (st_comp1 (W := Wg g) (n := 100) (ds := enumD (pairsL.map tup)) (T := Tgt (.Tuple [.Name (Str.ofString "k") _, .Name (Str.ofString "pair") _] _ _)) (outT fun i x => if ((figs a).getD i.toNat 0 == 1) = true then [x] else []) rm f₁₃ f₁₃.gk
    (It.enum (Ev.gname nEnum (by rfl)) (Ev.name (by rfl) (by rfl)) (by rfl) (by rfl)) (tgt_new2 (by rfl) (by rfl)) ?_ ?_ fun h₁₄ tk₁₄ f₁₄ k₁₄ => ?_)
  · rw [enum_eq]
    refine mem_lists fun t ht => ?_
    have hi := List.mem_zipIdx' ht
    have hi10 : t.2 < 10 := hi.1
    have hx : (figs a)[t.2]? = some ((figs a).getD t.2 0) := by
      rw [List.getD_eq_getElem?_getD, List.getElem?_eq_getElem (by rw [figs_len]; exact hi10)]; rfl
    refine BodyJ.last (b := ((figs a).getD t.2 0 == 1)) (.one (Tr.cmp (d₁ := .int ((figs a).getD t.2 0)) (d₂ := .int 1) (Ev.item (k := (t.2 : Int)) (xs := (figs a).map .int) (Ev.name (by rfl) (by rfl)) (Ev.name (by rfl) (by rfl)) (by omega) (by omega) (by rw [Int.toNat_natCast, List.getElem?_map, hx]; rfl)) Ev.int (CmpR.eq (Nat.zero_le _)))) fun _ => Ev.name (by rfl) (by rfl)
  · rw [enum_flat (fun i => (figs a).getD i 0 == 1), List.length_map]
    exact Nat.le_trans (ties_len a) (by decide)
  rw [enum_flat (fun i => (figs a).getD i 0 == 1)] at f₁₄
  replace f₁₄ : FR g _ X _ env ((_ : TEnv).put (Str.ofString "ties") (.dat (.list ((ties a).map tup)))) h₁₄ := f₁₄
  have k₁₄' : KO (OwnF (ownC _) env) h₁₃ h₁₄ := k₁₄
  -- lacks
  refine wpAny_execs_cons (st_comp1 (W := Wg g) (n := 100) (ds := pairsL.map tup) (T := Tgt (.Name (Str.ofString "pair") _)) (fun d => if (!hasT (ties a) (toP d)) = true then [d] else []) rm f₁₄ f₁₄.gk
    (It.list (Ev.name (by rfl) (by rfl)) (by rfl)) (tgt_new (by rfl)) (mem_lists fun t ht => BodyJ.last (.one (Tr.cast (Tr.cmp (d₁ := tup t) (d₂ := .list ((ties a).map tup)) (Ev.name (by rfl) (by rfl)) (Ev.name (by rfl) (by rfl)) (CmpR.notIn (depth_tup t))) (by rw [any_tup]; rfl))) fun _ => Ev.name (by rfl) (by rfl)) ?_ fun h₁₅ tk₁₅ f₁₅ k₁₅ => ?_)
  · rw [filter_tup (fun p => !hasT (ties a) p), List.length_map]
    exact Nat.le_trans (lacks_len a) (by decide)
  rw [filter_tup (fun p => !hasT (ties a) p)] at f₁₅
  replace f₁₅ : FR g _ X _ env ((_ : TEnv).put (Str.ofString "lacks") (.dat (.list ((lacks a).map tup)))) h₁₅ := f₁₅
  have k₁₅' : KO (OwnF (ownC _) env) h₁₄ h₁₅ := k₁₅
  -- rows, calls
  have nTied : GName (Wg g) (Str.ofString "_law_tied") (.ref 52) := gname_main G hW (by rfl)
  obtain ⟨o52, fd52, ho52, hd52⟩ : ∃ o fd, g.get? 52 = some o ∧ o.data = .func fd := ⟨_, _, G.x 52 _ (by rfl), rfl⟩
  have hlt67 : ∀ {h : Heap}, HK g h → 67 < h.objs.size := fun k => Heap.lt_size (k _ _ (G.x 67 _ (by rfl)))
  refine wpAny_execs_cons (st_pair (n := 100) rm f₁₅ (by decide) ((Ev.call (W := Wg g) (n := 100) hW (Ev.gname nTied (by rfl)) ho52 hd52 (.cons (d := tiesD (ties a)) (Ev.name (by rfl) (by rfl)) .nil) (tied_ok G (ties a) (ties_ok a) 99)) X A _ env _ _ rm f₁₅.scope f₁₅.gk f₁₅.ts f₁₅.xin fun v1 h₁₆ tk₁₆ k₁₆ r₁₆ => ?_) (.inl ((swapped_scope (env' := env0 _) f₁₅.scope _ _).trans rfl)))
  have k₁₆' : HK h₁₅ h₁₆ := k₁₆
  have f₁₆ := f₁₅.keeps k₁₆'
  rw [eval_ListComp]
  refine news_block (W := Wg g) (n := 100) (o := { cls := .type "dict", data := .dict #[] }) (ds := rangeD 5) (use := none) rfl rm f₁₆.scope f₁₆.gk f₁₆.ts f₁₆.xin (by rfl) (It.range (k := 5) (Ev.gname nRange (by rfl)) Ev.int (by decide) (by decide) (by rfl)) NewE.dict (by decide) (fun _ => rfl) fun DC C h₁₇ tk₁₇ m as kC k₁₇ hal N hDas hCas hDs hgD hCs hm => ?_
  refine ⟨m, hm, fun h₁₈ hs₁₈ => ?_⟩
  have k₁₇' : HK h₁₆ h₁₇ := k₁₇
  have koC : KO (fun b => b = C) h₁₇ h₁₈ := fun b o q e => hs₁₈.extBut b o q e
  have k₁₈ : HK h₁₆ h₁₈ := fun b o e => koC b o (fun q => by have hc : h₁₆.get? C = none := hCs; rw [q, hc] at e; cases e) (k₁₇' b o e)
  have hDC : DC ≠ C := fun q => by
    obtain ⟨oC, es, ep, eC, dC, _⟩ := hm
    rw [← q, hgD] at eC; cases eC; cases dC
  have hgD18 : h₁₈.get? DC = some (lstO (as.map Value.ref).toArray kC) := koC _ _ hDC hgD
  have hat18 : ∀ b ∈ as, h₁₈.get? b = some { cls := .type "dict", data := .dict #[] } := fun b q => koC _ _ (fun z => hCas (z ▸ q)) (N.at' b q)
  have hDs' : h₁₆.get? DC = none := hDs
  have hnew : ∀ b ∈ as, h₁₆.get? b = none := fun b q => N.new b q
  have f₁₈ := f₁₆.aside (Y := fun b => b = DC ∨ b ∈ as) k₁₈ fun b q => by
    rcases q with rfl | q
    · exact ⟨hDs', _, hgD18⟩
    · exact ⟨hnew b q, _, hat18 b q⟩
  have r₁₈ : Rep (fun b => X b ∨ (b = DC ∨ b ∈ as)) h₁₈ (rowsD (rowsA a)) v1 := by
    refine Rep.mono2 (X := X) (h := h₁₆) (fun b vs n hx => ⟨fun e => ⟨fun q => ?_, k₁₈ b _ e⟩, fun e => ⟨fun q => ?_, k₁₈ b _ e⟩⟩) _ _ r₁₆
    · rcases q with q | rfl | q
      · exact hx q
      · rw [hDs'] at e; cases e
      · rw [hnew b q] at e; cases e
    · rcases q with q | rfl | q
      · exact hx q
      · rw [hDs'] at e; cases e
      · rw [hnew b q] at e; cases e
  refine ⟨fun b => X b ∨ (b = DC ∨ b ∈ as), h₁₈, tk₁₇, .dat (rowsD (rowsA a)), .raw (.ref DC), rfl, f₁₈, r₁₈, rfl, fun h₁₉ tk₁₉ f₁₉ k₁₉ => ?_⟩
  have k₁₉' : KO (OwnF (ownC _) env) h₁₈ h₁₉ := k₁₉
  have oDC : ¬ OwnF (ownC _) env DC := fun q => by obtain ⟨o, e⟩ := (f₁₆.own q).2; rw [hDs'] at e; cases e
  have oas : ∀ b ∈ as, ¬ OwnF (ownC _) env b := fun b hb q => by obtain ⟨o, e⟩ := (f₁₆.own q).2; rw [hnew b hb] at e; cases e
  have hgD19 : h₁₉.get? DC = some (lstO (as.map Value.ref).toArray kC) := k₁₉' _ _ oDC hgD18
  have hal5 : as.length = 5 := hal
  have bDC : hb13.get? DC = none := none_of f₁₆.hk hDs'
  have sys_of : ∀ b ∈ as, (b == sysModules) = false := fun b q => by
    have := N.lt b q 67 _ (f₁₆.gk _ _ (G.x 67 _ (by rfl)))
    exact beq_eq_false_iff_ne.mpr fun z => by rw [z] at this; exact absurd this (by decide)
  have ri0 : RI w hb13 DC _ env h₁₉ as (List.replicate 5 []) := fun j b e => by
    have hb' := List.mem_of_getElem? e
    have hj : j < 5 := by have := (List.getElem?_eq_some_iff.mp e).1; omega
    have hgd : (List.replicate 5 ([] : List Int)).getD j [] = [] := by
      rw [List.getD_eq_getElem?_getD, List.getElem?_replicate, if_pos hj]; rfl
    refine ⟨⟨[], ⟨_, #[], 0, k₁₉' _ _ (oas b hb') (hat18 b hb'), ⟨rfl, rfl, rfl⟩, rfl, rfl, fun _ hx => (by simp at hx), List.nodup_nil⟩, by rw [hgd]; rfl, fun x hx => (by simp at hx), fun x hx => (by simp at hx)⟩, sys_of b hb', fun q => hDas (q ▸ hb'), oas b hb'⟩
  -- the calls, tie by tie
  have nAdd : GName (Wg g) (Str.ofString "add_callers") (.ref 21) := gname_main G hW (by rfl)
  refine wpAny_execs_cons (st_for (W := Wg g) (n := 100) (ds := (ties a).map tup) (T := Tgt (.Tuple [.Name (Str.ofString "one") _, .Name (Str.ofString "other") _] _ _)) (fun _ => ((_ : TEnv).put (Str.ofString "rows") (.dat (rowsD (rowsA a)))).put (Str.ofString "calls") (.raw (.ref DC)))
    (fun i h => ∃ refs : List Addr, refs.length = 5 ∧ h.get? DC = some (lstO (refs.map Value.ref).toArray kC) ∧ RI w hb13 DC _ env h refs (((ties a).take i).foldl tie1 (List.replicate 5 []))) (fun b => b = DC) rm f₁₉ f₁₉.gk
    (It.pairs (Ev.name (by rfl) (by rfl)) (mem_lists fun t _ => ⟨_, _, rfl⟩) (by rfl) (by rfl)) ⟨as, hal5, hgD19, ri0⟩ (fun b q => .inr (.inl q))
    (fun i h h' O hI ko hO => ?_) (fun i d X' h tk Qb E' hd hXX f₂₀ hI hQb => ?_) fun h₂₁ tk₂₁ f₂₁ hI => ?_)
  · obtain ⟨refs, h5, hD, ri⟩ := hI
    exact ⟨refs, h5, ko _ _ (fun q => (hO _ q).elim (fun z => (z.2.notSeq _ _).1 hD) oDC) hD, ri.stay ko hO⟩
  · obtain ⟨refs, h5, hD, ri⟩ := hI
    rw [List.getElem?_map] at hd
    cases ht : (ties a)[i]? with
    | none => rw [ht] at hd; cases hd
    | some t =>
      rw [ht] at hd
      cases hd
      obtain ⟨p, q⟩ := t
      have hmem := List.mem_of_getElem? ht
      obtain ⟨⟨p0, p5⟩, q0, q5⟩ := pairs_ok _ (ties_mem hmem)
      dsimp only at p0 p5 q0 q5
      have hi10 : i < 10 := Nat.lt_of_lt_of_le (List.getElem?_eq_some_iff.mp ht).1 (ties_len a)
      obtain ⟨fr1, fr2⟩ := fresh_at F.fresh ht
      dsimp only at fr1 fr2
      have rl := tied_lens (ties a) i
      have rlen : (((ties a).take i).foldl tie1 (List.replicate 5 [])).length = 5 := tied_length _
      generalize hrows : ((ties a).take i).foldl tie1 (List.replicate 5 []) = rws at ri fr1 fr2 rlen
      have rl' : ∀ j, (rws.getD j []).length ≤ 2 * i := fun j => by have := rl j; rw [tied, hrows] at this; exact this
      obtain ⟨b1, hb1⟩ : ∃ b, refs[p.toNat]? = some b := ⟨_, List.getElem?_eq_getElem (by omega)⟩
      refine wpAny_execs_cons (st_link (n := 99) (refs := refs) (kC := kC) (i := p) (j := q) G rm f₂₀ (Ev.name (by rfl) (by rfl)) (Ev.name (by rfl) (by rfl)) (Ev.name (by rfl) (by rfl)) (Ev.name (by rfl) (by rfl)) (Ev.name (by rfl) (by rfl)) (Ev.gname (gname_main G (fun h ok => ok.1) (by rfl)) (by rfl)) hD p0 (by omega) (by omega) hb1 (ri.dt hb1) (ri _ _ hb1).2.1 fr1 (by have := rl' p.toNat; omega) (hXX _ (.inr (.inl rfl))) bDC fun h₂ tk₂ a' f₂ ko₂ han ha67 hD2 hdt2 => ?_)
      have oa' : ¬ OwnF (ownC _) env a' := fun z => by obtain ⟨o, e⟩ := (f₂₀.own z).2; have hn : h.get? a' = none := han; rw [hn] at e; cases e
      have ri2 := ri.link f₂ ko₂ hD (i := p.toNat) (by omega) rfl hdt2 han ha67 oa'
      obtain ⟨b2, hb2⟩ : ∃ b, (refs.set p.toNat a')[q.toNat]? = some b := ⟨_, List.getElem?_eq_getElem (by rw [List.length_set]; omega)⟩
      refine wpAny_execs_cons (st_link (n := 99) (s := { s with heap := h₂, toks := tk₂ }) (refs := refs.set p.toNat a') (kC := kC) (i := q) (j := p) G rm f₂ (Ev.name (by rfl) (by rfl)) (Ev.name (by rfl) (by rfl)) (Ev.name (by rfl) (by rfl)) (Ev.name (by rfl) (by rfl)) (Ev.name (by rfl) (by rfl)) (Ev.gname (gname_main G (fun h ok => ok.1) (by rfl)) (by rfl)) hD2 q0 (by rw [List.length_set]; omega) (by rw [List.length_set]; omega) hb2 (ri2.dt hb2) (ri2 _ _ hb2).2.1 fr2 (by have := modify_lens rws p.toNat q (2 * i) rl' q.toNat; omega) (hXX _ (.inr (.inl rfl))) bDC fun h₃ tk₃ a'' f₃ ko₃ han3 ha673 hD3 hdt3 => ?_)
      have oa'' : ¬ OwnF (ownC _) env a'' := fun z => by obtain ⟨o, e⟩ := (f₂.own z).2; have hn : h₂.get? a'' = none := han3; rw [hn] at e; cases e
      have ri3 := ri2.link f₃ ko₃ hD2 (i := q.toNat) (by rw [List.length_modify]; omega) rfl hdt3 han3 ha673 oa''
      have ko₂' : KO (fun b => b = DC) h h₂ := ko₂
      have ko₃' : KO (fun b => b = DC) h₂ h₃ := ko₃
      refine wpAny_execs_nil (hQb h₃ tk₃ (f₃.weak (tgt_new2 (ds := [_]) (by rfl) (by rfl) _ List.mem_cons_self)) ⟨(refs.set p.toNat a').set q.toNat a'', by rw [List.length_set, List.length_set]; exact h5, hD3, ?_⟩ fun b o z e => ko₃' b o (fun y => z (.inr y)) (ko₂' b o (fun y => z (.inr y)) e))
      rw [List.take_add_one, ht, List.foldl_append, hrows]
      exact ri3
  obtain ⟨refs, h5, hD21, ri⟩ := hI
  rw [List.length_map, List.take_length] at ri
  replace ri : RI w hb13 DC _ env h₂₁ refs (rowsA a) := ri
  have rA5 : (rowsA a).length = 5 := tied_length _
  -- counts
  have hWc : ∀ h, (Wc w g DC refs kC (rowsA a)).ok h → HK g h := fun h ok => ok.1
  obtain ⟨o28, fd28, ho28, hd28⟩ : ∃ o fd, g.get? 28 = some o ∧ o.data = .func fd := ⟨_, _, G.x 28 _ (by rfl), rfl⟩
  refine wpAny_execs_cons (st_comp (W := Wc w g DC refs kC (rowsA a)) (n := 100) (ds := rangeD refs.length) (T := refT refs (Str.ofString "row")) (outs := fun d => [.int (((rowsA a).getD (toI d).toNat []).length : Int)]) rm f₂₁ ⟨f₂₁.gk, hD21, fun j b e => ri.dt e⟩
    (ItC.refs (fun h ok => ok.2.1) (Ev.name (by rfl) (by rfl)) (by rfl)) ?_ ?_ ?_ (fun A it acc env Q E s' h => turn_one h) (fun h₂₂ tk₂₂ f₂₂ k₂₂ => ?_) (by rfl) (fun _ _ => rfl) (by rfl))
  · rw [rangeD_eq]
    refine mem_lists fun i hi => ?_
    have := mem_rangeL.mp hi
    obtain ⟨b, hb⟩ : ∃ b, refs[i.toNat]? = some b := ⟨_, List.getElem?_eq_getElem (by omega)⟩
    intro x r e
    have hT := refT_eq (x := Str.ofString "row") hb
    rw [Int.toNat_of_nonneg this.1] at hT
    rw [hT]
    unfold TEnv.put
    by_cases hx : x = Str.ofString "row"
    · subst hx; exact absurd e (by intro z; cases z)
    · rw [if_neg hx]; exact e
  · rw [rangeD_eq]
    refine mem_lists fun i hi => ?_
    have := mem_rangeL.mp hi
    obtain ⟨b, hb⟩ : ∃ b, refs[i.toNat]? = some b := ⟨_, List.getElem?_eq_getElem (by omega)⟩
    have hT := refT_eq (x := Str.ofString "row") hb
    rw [Int.toNat_of_nonneg this.1] at hT
    rw [hT]
    refine BodyJ.congr (BodyJ.last (b := true) .nil fun _ => Ev.callV (d := .int (((rowsA a).getD i.toNat []).length : Int)) (Ev.gname (gname_main G hWc (by rfl)) (by rfl)) (fun h ok => ok.1 _ _ ho28) hd28 (Ev.name (by rfl) (by rfl)) fun X A s Q E rm ok hX hQ => count_ok G (n := 99) rm ok.1 hX (ok.2.2 _ _ hb) (ri _ _ hb).2.1 hQ) rfl
  · rw [h5]
    show ((rangeD 5).flatMap _).length ≤ sizeLine
    rw [counts_flat rA5]
    simp only [List.length_map, rA5]; decide
  rw [h5] at f₂₂
  have cf := counts_flat rA5
  rw [show ((rangeD ((5 : Nat) : Int)).flatMap fun d => [PyData.int (((rowsA a).getD (toI d).toNat []).length : Int)]) = (counts a).map .int from cf] at f₂₂
  have hcl : (counts a).length = 5 := by unfold counts; rw [List.length_map]; exact rA5
  have hcne : counts a ≠ [] := fun q => by rw [q] at hcl; cases hcl
  have hrl : ∀ r ∈ rowsA a, r.length < 2 ^ 62 := fun r hr => Nat.lt_of_le_of_lt (F.rows.2 r hr).1 (by decide)
  have htl : ((ties a).map tup).length < 2 ^ 62 := by rw [List.length_map]; exact Nat.lt_of_le_of_lt (ties_len a) (by decide)
  -- the counts are the rows' lengths
  refine wpAny_execs_cons (st_if (W := Wg g) (n := 100) (b := false) rm f₂₂ f₂₂.gk (Tr.cast (Tr.boolop (TrAll.or_cons (Tr.cmp (d₁ := .int (counts a).sum) (d₂ := .int (2 * ((ties a).length : Int))) (Ev.call1 (d₁ := .list ((counts a).map .int)) (Ev.gname nSum (by rfl)) (Ev.name (by rfl) (by rfl)) (F1R.sum _)) (Ev.binop (d₁ := .int 2) (d₂ := .int ((ties a).length : Int)) Ev.int (Ev.cast (Ev.call1 (d₁ := .list ((ties a).map tup)) (Ev.gname nLen (by rfl)) (Ev.name (by rfl) (by rfl)) (F1R.len htl)) (by rw [List.length_map])) (BinR.mul (.of_left (by decide)))) (CmpR.ne (Nat.zero_le _) (Nat.zero_le _)))
    fun _ => TrAll.or_cons (Tr.cmp (d₁ := .list ((counts a).map .int)) (d₂ := .list ((counts a).map .int)) (Ev.cast (Ev.comp1 (ds := (rowsA a).map intsD) (T := Tgt (.Name (Str.ofString "row") _)) (fun d => [.int ((toL d).length : Int)]) (It.list (Ev.name (by rfl) (by rfl)) (by rfl)) (tgt_new (by rfl)) (mem_lists fun r hr => BodyJ.congr (BodyJ.last (b := true) .nil fun _ => Ev.call1 (d₁ := intsD r) (Ev.gname nLen (by rfl)) (Ev.name (by rfl) (by rfl)) (F1R.len (xs := r.map .int) (by rw [List.length_map]; exact hrl r hr))) (by rw [if_pos rfl, toL_ints, List.length_map])) ?_) ?_) (Ev.name (by rfl) (by rfl)) (CmpR.ne (Nat.le_trans (depth_ints _) (by decide)) (Nat.le_trans (depth_ints _) (by decide)))) fun _ => TrAll.or_nil)) ?_) (fun hb => by cases hb) fun _ h₂₃ tk₂₃ k₂₃ f₂₃ => wpAny_execs_nil ?_)
  · rw [flat_one, List.length_map, rA5]; decide
  · congr 1
    rw [flat_one, counts, List.map_map]
    simp only [toL_ints]; rfl
  · rw [eqv_ints_refl]
    show ((!((counts a).sum == 2 * ((ties a).length : Int))) || ((!true) || false)) = false
    rw [F.sum]; simp
  have k₂₃' : HK h₂₂ h₂₃ := k₂₃
  -- fewest, others
  have nFew : GName (Wg g) (Str.ofString "_law_fewest") (.ref 62) := gname_main G hW (by rfl)
  obtain ⟨o62, fd62, ho62, hd62⟩ : ∃ o fd, g.get? 62 = some o ∧ o.data = .func fd := ⟨_, _, G.x 62 _ (by rfl), rfl⟩
  have fewA := fewest_ok G (rowsA a) F.rows.ok 99
  have fewL := fewest_ok G (tied (lacks a)) F.lackRows 99
  have fewM := fewest_ok G (tied (ties a ++ (lacks a).take 1)) F.moreRows 99
  refine wpAny_execs_cons (st_pair (n := 100) (s := { s with heap := h₂₃, toks := tk₂₃ }) rm f₂₃ (by decide) ((Ev.call (W := Wg g) (n := 100) hW (Ev.gname nFew (by rfl)) ho62 hd62 (.cons (d := rowsD (rowsA a)) (Ev.name (by rfl) (by rfl)) .nil) fewA) _ A _ env _ _ rm f₂₃.scope f₂₃.gk f₂₃.ts f₂₃.xin fun v1 h₂₄ tk₂₄ k₂₄ r₂₄ => ?_) (.inr ((swapped_scope (env' := env0 _) f₂₃.scope _ _).trans rfl)))
  have k₂₄' : HK h₂₃ h₂₄ := k₂₄
  have f₂₄ := f₂₃.keeps k₂₄'
  refine (Ev.call (W := Wg g) (n := 100) hW (Ev.gname nFew (by rfl)) ho62 hd62 (.cons (d := rowsD (tied (lacks a))) (Ev.call hW (Ev.gname nTied (by rfl)) ho52 hd52 (.cons (d := tiesD (lacks a)) (Ev.name (by rfl) (by rfl)) .nil) (tied_ok G (lacks a) (lacks_ok a) 99)) .nil) fewL) _ A _ env _ _ rm f₂₄.scope f₂₄.gk f₂₄.ts f₂₄.xin fun v2 h₂₅ tk₂₅ k₂₅ r₂₅ => ?_
  have k₂₅' : HK h₂₄ h₂₅ := k₂₅
  refine ⟨_, h₂₅, tk₂₅, .dat (.int (fewest (rowsA a))), .dat (.int (fewest (tied (lacks a)))), rfl, f₂₄.keeps k₂₅', Rep.keeps r₂₄ k₂₅', r₂₅, fun h₂₆ tk₂₆ f₂₆ k₂₆ => ?_⟩
  -- told
  have nOrd : GName (Wg g) (Str.ofString "_law_orders") (.ref 47) := gname_main G hW (by rfl)
  obtain ⟨o47, fd47, ho47, hd47⟩ : ∃ o fd, g.get? 47 = some o ∧ o.data = .func fd := ⟨_, _, G.x 47 _ (by rfl), rfl⟩
  have nLong : GName (Wg g) (Str.ofString "_law_longest") (.ref 57) := gname_main G hW (by rfl)
  obtain ⟨o57, fd57, ho57, hd57⟩ : ∃ o fd, g.get? 57 = some o ∧ o.data = .func fd := ⟨_, _, G.x 57 _ (by rfl), rfl⟩
  have ordOk := FnR.less (m := 100) (orders_ok G 5 (rangeL 5) (by decide) (by decide) (by decide)) (by decide)
  refine wpAny_execs_cons (st_comp1 (W := Wg g) (n := 100) (s := { s with heap := h₂₆, toks := tk₂₆ }) (ds := (orders 5 (rangeL 5)).map intsD) (T := Tgt (.Name (Str.ofString "order") _)) (fun d => [tup (longest (rowsA a) (toL d))]) rm f₂₆ f₂₆.gk
    (It.list (Ev.call hW (Ev.gname nOrd (by rfl)) ho47 hd47 (.cons (d := intsD (rangeL 5)) (Ev.cast (Ev.listRange (k := 5) (Ev.gname nList (by rfl)) (Ev.gname nRange (by rfl)) Ev.int (by decide) (by decide)) (by rw [rangeD_eq]; rfl)) .nil) ordOk) (by rfl)) (tgt_new (by rfl)) (mem_lists fun o ho => ?_) ?_ fun h₂₇ tk₂₇ f₂₇ k₂₇ => ?_)
  · obtain ⟨on, op⟩ := orders_perm (n := 5) (ps := rangeL 5) (by decide) (by decide) o ho
    have ol := orders_len 5 _ o ho
    refine BodyJ.congr (BodyJ.last (b := true) .nil fun _ => Ev.call hW (Ev.gname nLong (by rfl)) ho57 hd57 (.cons (d := intsD o) (Ev.name (by rfl) (by rfl)) (.cons (d := rowsD (rowsA a)) (Ev.name (by rfl) (by rfl)) .nil)) (longest_ok G (rowsA a) F.rows o on (fun q => by rw [q] at ol; cases ol) (fun p hp => mem_rangeL.mp (op p hp)) 99)) (by rw [if_pos rfl, toL_ints]; rfl)
  · rw [told_flat, List.length_map]; exact Nat.le_trans (told_len a) (by decide)
  rw [told_flat] at f₂₇
  replace f₂₇ : FR g hb13 _ _ env ((_ : TEnv).put (Str.ofString "told") (.dat (.list ((told a).map tup)))) h₂₇ := f₂₇
  have tne1 : (told a).map Prod.fst ≠ [] := fun q => told_ne a (List.map_eq_nil_iff.mp q)
  have tne2 : (told a).map Prod.snd ≠ [] := fun q => told_ne a (List.map_eq_nil_iff.mp q)
  have tl1 : (((told a).map Prod.fst).map PyData.int).length ≤ sizeLine := by rw [List.length_map, List.length_map]; exact Nat.le_trans (told_len a) (by decide)
  have tl2 : (((told a).map Prod.snd).map PyData.int).length ≤ sizeLine := by rw [List.length_map, List.length_map]; exact Nat.le_trans (told_len a) (by decide)
  -- the fewest is told
  refine wpAny_execs_cons (st_if (W := Wg g) (n := 100) (s := { s with heap := h₂₇, toks := tk₂₇ }) (b := false) rm f₂₇ f₂₇.gk (Tr.cast (Tr.boolop (TrAll.or_cons (Tr.cmp (d₁ := .int (minL ((told a).map Prod.fst))) (d₂ := .int (fewest (rowsA a))) (Ev.call1 (d₁ := .list (((told a).map Prod.fst).map .int)) (Ev.gname nMin (by rfl)) (Ev.cast (Ev.comp1 (ds := (told a).map tup) (T := Tgt (.Tuple [.Name (Str.ofString "long") _, .Name (Str.ofString "colours") _] _ _)) (fun d => [.int (toP d).1]) (It.pairs (Ev.name (by rfl) (by rfl)) (mem_lists fun t _ => ⟨_, _, rfl⟩) (by rfl) (by rfl)) (tgt_new2 (by rfl) (by rfl)) (mem_lists fun t _ => BodyJ.congr (BodyJ.last (b := true) .nil fun _ => Ev.name (by rfl) (by rfl)) (by rw [if_pos rfl]; rfl)) (by rw [flat_fst]; exact tl1)) (by rw [flat_fst])) (F1R.min tne1)) (Ev.name (by rfl) (by rfl)) (CmpR.ne (Nat.zero_le _) (Nat.zero_le _)))
    fun _ => TrAll.or_cons (Tr.cmp (d₁ := .int (minL ((told a).map Prod.snd))) (d₂ := .int (fewest (rowsA a))) (Ev.call1 (d₁ := .list (((told a).map Prod.snd).map .int)) (Ev.gname nMin (by rfl)) (Ev.cast (Ev.comp1 (ds := (told a).map tup) (T := Tgt (.Tuple [.Name (Str.ofString "long") _, .Name (Str.ofString "colours") _] _ _)) (fun d => [.int (toP d).2]) (It.pairs (Ev.name (by rfl) (by rfl)) (mem_lists fun t _ => ⟨_, _, rfl⟩) (by rfl) (by rfl)) (tgt_new2 (by rfl) (by rfl)) (mem_lists fun t _ => BodyJ.congr (BodyJ.last (b := true) .nil fun _ => Ev.name (by rfl) (by rfl)) (by rw [if_pos rfl]; rfl)) (by rw [flat_snd]; exact tl2)) (by rw [flat_snd])) (F1R.min tne2)) (Ev.name (by rfl) (by rfl)) (CmpR.ne (Nat.zero_le _) (Nat.zero_le _))) fun _ => TrAll.or_nil)) ?_) (fun hb => by cases hb) fun _ h₂₈ tk₂₈ k₂₈ f₂₈ => wpAny_execs_nil ?_)
  · show ((!(minL ((told a).map Prod.fst) == fewest (rowsA a))) || ((!(minL ((told a).map Prod.snd) == fewest (rowsA a))) || false)) = false
    rw [F.longs, F.greedy]; simp
  -- no more than the most ties and one
  refine wpAny_execs_cons (st_if (W := Wg g) (n := 100) (b := false) rm f₂₈ f₂₈.gk (Tr.cast (Tr.boolop (TrAll.or_cons (Tr.cmp (d₁ := .int (fewest (rowsA a))) (d₂ := .int (1 + maxL (counts a))) (Ev.name (by rfl) (by rfl)) (Ev.binop (d₁ := .int 1) (d₂ := .int (maxL (counts a))) Ev.int (Ev.call1 (d₁ := .list ((counts a).map .int)) (Ev.gname nMax (by rfl)) (Ev.name (by rfl) (by rfl)) (F1R.max hcne)) (BinR.add _ _)) (CmpR.gt _ _))
    fun _ => TrAll.or_cons (Tr.cmp (d₁ := .int (maxL ((told a).map Prod.snd))) (d₂ := .int (1 + maxL (counts a))) (Ev.call1 (d₁ := .list (((told a).map Prod.snd).map .int)) (Ev.gname nMax (by rfl)) (Ev.cast (Ev.comp1 (ds := (told a).map tup) (T := Tgt (.Tuple [.Name (Str.ofString "long") _, .Name (Str.ofString "colours") _] _ _)) (fun d => [.int (toP d).2]) (It.pairs (Ev.name (by rfl) (by rfl)) (mem_lists fun t _ => ⟨_, _, rfl⟩) (by rfl) (by rfl)) (tgt_new2 (by rfl) (by rfl)) (mem_lists fun t _ => BodyJ.congr (BodyJ.last (b := true) .nil fun _ => Ev.name (by rfl) (by rfl)) (by rw [if_pos rfl]; rfl)) (by rw [flat_snd]; exact tl2)) (by rw [flat_snd])) (F1R.max tne2)) (Ev.binop (d₁ := .int 1) (d₂ := .int (maxL (counts a))) Ev.int (Ev.call1 (d₁ := .list ((counts a).map .int)) (Ev.gname nMax (by rfl)) (Ev.name (by rfl) (by rfl)) (F1R.max hcne)) (BinR.add _ _)) (CmpR.gt _ _)) fun _ => TrAll.or_nil)) ?_) (fun hb => by cases hb) fun _ h₂₉ tk₂₉ k₂₉ f₂₉ => wpAny_execs_nil ?_)
  · rw [decide_eq_false (by have := F.most; omega), decide_eq_false (by have := F.worst; omega)]; rfl
  -- lots
  refine wpAny_execs_cons (st_comp1 (W := Wg g) (n := 100) (s := { s with heap := h₂₉, toks := tk₂₉ }) (ds := rangeD 32) (T := Tgt (.Name (Str.ofString "lot") _)) (fun d => [intsD (lotOf (toI d))]) rm f₂₉ f₂₉.gk (It.range (k := 32) (Ev.gname nRange (by rfl)) Ev.int (by decide) (by decide) (by rfl)) (tgt_new (by rfl)) ?_ ?_ fun h₃₀ tk₃₀ f₃₀ k₃₀ => ?_)
  · rw [rangeD_eq]
    refine mem_lists fun lot hlot => ?_
    have hl32 := mem_rangeL.mp hlot
    refine BodyJ.congr (BodyJ.last (b := true) .nil fun _ => Ev.cast (d' := intsD (lotOf lot)) (Ev.comp1 (ds := rangeD 5) (T := Tgt (.Name (Str.ofString "place") _)) (fun d => if ((lot.fdiv (2 ^ (toI d).toNat)).fmod 2 == 1) = true then [d] else []) (It.range (k := 5) (Ev.gname nRange (by rfl)) Ev.int (by decide) (by decide) (by rfl)) (tgt_new (by rfl)) ?_ ?_) ?_) rfl
    · rw [rangeD_eq]
      refine mem_lists fun place hp => ?_
      have hp5 := mem_rangeL.mp hp
      have hpw : 1 ≤ (2 : Int) ^ place.toNat ∧ (2 : Int) ^ place.toNat ≤ 16 := by
        have : place = 0 ∨ place = 1 ∨ place = 2 ∨ place = 3 ∨ place = 4 := by omega
        rcases this with rfl | rfl | rfl | rfl | rfl <;> decide
      refine BodyJ.last (b := ((lot.fdiv (2 ^ place.toNat)).fmod 2 == 1)) (.one (Tr.cmp (d₁ := .int ((lot.fdiv (2 ^ place.toNat)).fmod 2)) (d₂ := .int 1) (Ev.binop (d₁ := .int (lot.fdiv (2 ^ place.toNat))) (d₂ := .int 2) (Ev.binop (d₁ := .int lot) (d₂ := .int (2 ^ place.toNat)) (Ev.name (by rfl) (by rfl)) (Ev.binop (d₁ := .int 2) (d₂ := .int place) Ev.int (Ev.name (by rfl) (by rfl)) (BinR.pow (by omega) (by omega) (by decide))) (BinR.div (by omega) (by omega))) Ev.int (BinR.mod (by decide))) Ev.int (CmpR.eq (Nat.zero_le _)))) fun _ => Ev.name (by rfl) (by rfl)
    · rw [lotOf_flat, List.length_map]
      exact Nat.le_trans (List.length_filter_le _ _) (by decide)
    · rw [lotOf_flat]; rfl
  · rw [lot_flat, List.length_map]; decide
  rw [lot_flat] at f₃₀
  replace f₃₀ : FR g hb13 _ _ env ((_ : TEnv).put (Str.ofString "lots") (.dat (.list (lotsL.map intsD)))) h₃₀ := f₃₀
  -- no fewer than a lot all tied
  refine wpAny_execs_cons (st_if (W := Wg g) (n := 100) (s := { s with heap := h₃₀, toks := tk₃₀ }) (b := false) rm f₃₀ f₃₀.gk (Tr.cast (Tr.cmp (d₁ := .int (fewest (rowsA a))) (d₂ := .int (maxL (cliques a))) (Ev.name (by rfl) (by rfl)) (Ev.call1 (d₁ := .list ((cliques a).map .int)) (Ev.gname nMax (by rfl)) (Ev.cast (Ev.comp1 (ds := lotsL.map intsD) (T := Tgt (.Name (Str.ofString "lot") _)) (fun d => if (gaps (ties a) (toL d)).isEmpty = true then [.int ((toL d).length : Int)] else []) (It.list (Ev.name (by rfl) (by rfl)) (by rfl)) (tgt_new (by rfl)) (mem_lists fun lot hlot => ?_) ?_) ?_) (F1R.max (cliques_ne a))) (CmpR.lt _ _)) ?_) (fun hb => by cases hb) fun _ h₃₁ tk₃₁ k₃₁ f₃₁ => wpAny_execs_nil ?_)
  · obtain ⟨ll, lm⟩ := lot_mem hlot
    refine BodyJ.congr (BodyJ.last (b := (gaps (ties a) lot).isEmpty) (d := .int (lot.length : Int)) (.one (Tr.cast (Tr.cmp (d₁ := .list ((gaps (ties a) lot).map .int)) (d₂ := .list []) (Ev.cast (Ev.comp2 (ds := lot.map .int) (T := Tgt (.Name (Str.ofString "one") _)) (fun d => (lot.map PyData.int).flatMap fun e => if (decide (toI d < toI e) && (!hasT (ties a) (toI d, toI e) && true)) = true then [PyData.int 1] else [])
        (It.list (ds := lot.map .int) (Ev.name (by rfl) (by rfl)) (by rfl)) (tgt_new (by rfl)) (mem_lists fun one _ => ?_) ?_) ?_) (Ev.list .nil (by decide)) (CmpR.eq (Nat.le_trans (depth_ints _) (by decide)))) (eqv_ints_empty _))) fun _ => Ev.cast (Ev.call1 (d₁ := intsD lot) (Ev.gname nLen (by rfl)) (Ev.name (by rfl) (by rfl)) (F1R.len (xs := lot.map .int) (by rw [List.length_map]; exact Nat.lt_of_le_of_lt ll (by decide)))) (by rw [List.length_map])) (by rw [toL_ints])
    · refine BodyJ.congr (BodyJ.nest (b := true) (ds := lot.map .int) (T := Tgt (.Name (Str.ofString "other") _)) (outs := fun e => if (decide (one < toI e) && (!hasT (ties a) (one, toI e) && true)) = true then [PyData.int 1] else []) .nil (fun _ => It.list (Ev.name (by rfl) (by rfl)) (by rfl)) (fun _ => tgt_new (by rfl)) (fun _ => mem_lists fun other _ => ?_)) (if_pos rfl)
      refine BodyJ.last (b := (decide (one < other) && (!hasT (ties a) (one, other) && true))) (.one (Tr.cast (Tr.boolop (TrAll.and_cons (Tr.cmp (d₁ := .int one) (d₂ := .int other) (Ev.name (by rfl) (by rfl)) (Ev.name (by rfl) (by rfl)) (CmpR.lt _ _)) fun _ => TrAll.and_cons (Tr.cmp (d₁ := tup (one, other)) (d₂ := .list ((ties a).map tup)) (Ev.tuple (.cons (Ev.name (by rfl) (by rfl)) (.cons (Ev.name (by rfl) (by rfl)) .nil)) (show 2 ≤ sizeLine by decide)) (Ev.name (by rfl) (by rfl)) (CmpR.notIn (depth_tup _))) fun _ => TrAll.and_nil)) (by rw [any_tup]))) fun _ => Ev.int
    · rw [gaps_flat, List.length_map]
      have : (gaps (ties a) lot).length ≤ lot.length * 5 := len_flatMap_le fun x _ => by rw [List.length_map]; exact Nat.le_trans (List.length_filter_le _ _) ll
      exact Nat.le_trans this (Nat.le_trans (Nat.mul_le_mul_right 5 ll) (by decide))
    · rw [gaps_flat]
  · rw [cliques_flat, List.length_map]
    unfold cliques
    rw [List.length_map]
    exact Nat.le_trans (List.length_filter_le _ _) (by decide)
  · rw [cliques_flat]
  · exact decide_eq_false (by have := F.clique; omega)
  -- both numbers together
  obtain ⟨fb1, fb5⟩ := fewest_bound F.rows.ok
  refine wpAny_execs_cons (st_if (W := Wg g) (n := 100) (s := { s with heap := h₃₁, toks := tk₃₁ }) (b := false) rm f₃₁ f₃₁.gk (Tr.cast (Tr.boolop (TrAll.or_cons (Tr.cmp (d₁ := .int (fewest (rowsA a) + fewest (tied (lacks a)))) (d₂ := .int 6) (Ev.binop (d₁ := .int (fewest (rowsA a))) (d₂ := .int (fewest (tied (lacks a)))) (Ev.name (by rfl) (by rfl)) (Ev.name (by rfl) (by rfl)) (BinR.add _ _)) Ev.int (CmpR.gt _ _))
    fun _ => TrAll.or_cons (Tr.cmp (d₁ := .int (fewest (rowsA a) * fewest (tied (lacks a)))) (d₂ := .int 5) (Ev.binop (d₁ := .int (fewest (rowsA a))) (d₂ := .int (fewest (tied (lacks a)))) (Ev.name (by rfl) (by rfl)) (Ev.name (by rfl) (by rfl)) (BinR.mul (.of_left (intBits_small (by omega) (by omega))))) Ev.int (CmpR.lt _ _)) fun _ => TrAll.or_nil)) ?_) (fun hb => by cases hb) fun _ h₃₂ tk₃₂ k₃₂ f₃₂ => wpAny_execs_nil ?_)
  · have h1 := F.both
    have h2 := F.prod
    rw [decide_eq_false (by omega), decide_eq_false (by omega)]; rfl
  -- the first tie lacking, put in
  have ll10 := lacks_len a
  have tl10 := ties_len a
  refine wpAny_execs_cons (st_return (W := Wg g) (n := 100) (s := { s with heap := h₃₂, toks := tk₃₂ }) (r := .dat (.bool true)) rm f₃₂ f₃₂.gk (Ev.or2 (b := (lacks a).isEmpty) (Ev.cast (Ev.cmp (d₁ := .list ((lacks a).map tup)) (d₂ := .list []) (Ev.name (by rfl) (by rfl)) (Ev.list .nil (by decide)) (CmpR.eq ?_)) (by rw [eqv_tups_empty])) (fun _ => rfl) fun hne => Ev.cast (Ev.cmp (d₁ := .int (fewest (tied (ties a ++ (lacks a).take 1)) - fewest (rowsA a))) (d₂ := .tuple [.int 0, .int 1])
    (Ev.binop (d₁ := .int (fewest (tied (ties a ++ (lacks a).take 1)))) (d₂ := .int (fewest (rowsA a))) (Ev.call hW (Ev.gname nFew (by rfl)) ho62 hd62 (.cons (d := rowsD (tied (ties a ++ (lacks a).take 1))) (Ev.call hW (Ev.gname nTied (by rfl)) ho52 hd52 (.cons (d := tiesD (ties a ++ (lacks a).take 1)) (Ev.cast (d := .list ((ties a).map tup ++ ((lacks a).map tup).take 1)) (Ev.binop (d₁ := .list ((ties a).map tup)) (d₂ := .list (((lacks a).map tup).take 1)) (Ev.name (by rfl) (by rfl)) (Ev.upto (k := 1) (Ev.name (by rfl) (by rfl)) Ev.int ?_) (BinR.addList ?_)) ?_) .nil) (tied_ok G _ (more_ok a) 99)) .nil) fewM) (Ev.name (by rfl) (by rfl)) (BinR.sub _ _))
    (Ev.tuple (.cons Ev.int (.cons Ev.int .nil)) (show 2 ≤ sizeLine by decide)) (CmpR.isInT (Nat.zero_le _))) ?_) fun v h' tk k f r => ?_)
  · have : ∀ l : List Tie, PyData.depthAll (l.map tup) ≤ 1 := fun l => by
      induction l with
      | nil => exact Nat.zero_le _
      | cons t l ih => exact Nat.max_le.mpr ⟨by show max 0 (max 0 0) + 1 ≤ 1; decide, ih⟩
    exact Nat.le_trans (Nat.succ_le_succ (this _)) (by decide)
  · rw [List.length_map]; exact Nat.le_trans ll10 (by decide)
  · rw [List.length_map, List.length_take, List.length_map]; exact Nat.le_trans (show (ties a).length + min 1 (lacks a).length ≤ 20 by omega) (by decide)
  · rw [tiesD_eq, List.map_append, List.map_take]
  · refine congrArg PyData.bool ?_
    have h1 := F.one
    generalize fewest (tied (ties a ++ (lacks a).take 1)) - fewest (rowsA a) = D at h1 ⊢
    rcases h1 with h1 | rfl | rfl
    · rw [h1] at hne; cases hne
    · rfl
    · rfl
  · cases r
    exact hQ h' tk (f.base.trans f.hk) ⟨ps30, f.hk _ _ hb30⟩ ⟨ps37, f.hk _ _ hb37⟩
end
end Mine

namespace Mine
theorem minL_le {x : Int} : ∀ {l : List Int}, x ∈ l → minL l ≤ x := by
  have gen : ∀ (xs : List Int) (y : Int), xs.foldl min y ≤ y ∧ ∀ c ∈ xs, xs.foldl min y ≤ c := fun xs => by
    induction xs with
    | nil => intro y; exact ⟨Int.le_refl _, fun c hc => by cases hc⟩
    | cons a l ih =>
      intro y
      obtain ⟨h1, h2⟩ := ih (min y a)
      refine ⟨Int.le_trans h1 (Int.min_le_left _ _), fun c hc => ?_⟩
      rcases List.mem_cons.mp hc with rfl | hc
      · exact Int.le_trans h1 (Int.min_le_right _ _)
      · exact h2 c hc
  intro l h
  cases l with
  | nil => cases h
  | cons a l =>
    rcases List.mem_cons.mp h with rfl | h
    · exact (gen l x).1
    · exact (gen l a).2 x h
theorem getD_row {rows : List (List Int)} (hr : rowsOk rows) (p : Nat) : ∀ c ∈ rows.getD p [], 0 ≤ c ∧ c < 5 := fun c hc => by
  rw [List.getD_eq_getElem?_getD] at hc
  cases q : rows[p]? with
  | none => rw [q] at hc; cases hc
  | some r => rw [q] at hc; exact (hr.2 r (List.mem_of_getElem? q)).2 c hc
/-- any colouring of the places gives one of the ways, with no more colours -/
theorem way_of {rows : List (List Int)} (hr : rowsOk rows) {c : Int → Int} {k : Int} (hc : ∀ p, 0 ≤ p → p < 5 → 0 ≤ c p ∧ c p < k) (hp : ∀ p q, 0 ≤ p → p < 5 → q ∈ rows.getD p.toNat [] → q < p → c q ≠ c p) :
    ∀ n : Nat, n ≤ 5 → ∃ way ∈ fewWays rows n, ∃ r : Int → Int, (∀ j : Nat, j < n → r (way.getD j 0) = c j) ∧ (∀ s t, 0 ≤ s → s < 1 + maxL ([0 - 1] ++ way) → 0 ≤ t → t < 1 + maxL ([0 - 1] ++ way) → r s = r t → s = t) ∧ ∀ t, 0 ≤ t → t < 1 + maxL ([0 - 1] ++ way) → 0 ≤ r t ∧ r t < k
  | 0, _ => ⟨[], by simp [fewWays], fun _ => 0, fun j hj => by omega, fun s t h1 h2 => by (have : maxL ([0 - 1] ++ ([] : List Int)) = -1 := rfl); omega, fun t h1 h2 => by (have : maxL ([0 - 1] ++ ([] : List Int)) = -1 := rfl); omega⟩
  | n + 1, hn => by
    obtain ⟨way, hw, r, h1, h2, h3⟩ := way_of hr hc hp n (by omega)
    obtain ⟨w1, w2⟩ := ways_ok rows n way hw
    have hM0 : -1 ≤ maxL ([0 - 1] ++ way) := maxL_ge (by simp)
    generalize hM : maxL ([0 - 1] ++ way) = M at h2 h3 hM0
    have wlt : ∀ j : Nat, j < n → 0 ≤ way.getD j 0 ∧ way.getD j 0 ≤ M := fun j hj => by
      have hjw : j < way.length := by omega
      rw [List.getD_eq_getElem?_getD, List.getElem?_eq_getElem hjw]
      exact ⟨(w2 _ (List.getElem_mem hjw)).1, hM ▸ maxL_ge (by simp)⟩
    have step : ∀ t, 0 ≤ t → t < 2 + M → (∀ j : Nat, j < n → (j : Int) ∈ rows.getD n [] → way.getD j 0 ≠ t) → way ++ [t] ∈ fewWays rows (n + 1) := fun t ht0 htM hcl => by
      simp only [fewWays, fewStep, List.mem_flatMap, List.mem_map, List.mem_filter]
      refine ⟨way, hw, t, ⟨mem_rangeL.mpr ⟨ht0, by rw [hM]; exact htM⟩, ?_⟩, rfl⟩
      rw [List.isEmpty_iff]
      unfold clash
      rw [List.filter_eq_nil_iff]
      intro other ho hh
      simp only [Bool.and_eq_true, decide_eq_true_eq, beq_iff_eq] at hh
      rw [Int.toNat_natCast] at ho
      have o0 := (getD_row hr n other ho).1
      refine hcl other.toNat (by omega) ?_ hh.2
      rw [Int.toNat_of_nonneg o0]; exact ho
    have snoc : ∀ t, maxL ([0 - 1] ++ (way ++ [t])) = max M t := fun t => by
      rw [← List.append_assoc, maxL_snoc (by simp), hM]
    have getOld : ∀ (t : Int) (j : Nat), j < n → (way ++ [t]).getD j 0 = way.getD j 0 := fun t j hj => by
      rw [List.getD_eq_getElem?_getD, List.getD_eq_getElem?_getD, List.getElem?_append_left (by omega)]
    have getNew : ∀ t : Int, (way ++ [t]).getD n 0 = t := fun t => by
      rw [List.getD_eq_getElem?_getD, List.getElem?_append_right (by omega), w1]; simp
    have cn := hc (n : Int) (by omega) (by omega)
    by_cases h : ∃ t, 0 ≤ t ∧ t < 1 + M ∧ r t = c n
    · obtain ⟨t, t0, tM, hrt⟩ := h
      have hmax : max M t = M := by omega
      refine ⟨way ++ [t], step t t0 (by omega) (fun j hj hm q => ?_), r, fun j hj => ?_, ?_, ?_⟩
      · have := hp (n : Int) (j : Int) (by omega) (by omega) (by rw [Int.toNat_natCast]; exact hm) (by omega)
        exact this (by rw [← h1 j hj, q, hrt])
      · by_cases hjn : j < n
        · rw [getOld t j hjn]; exact h1 j hjn
        · have : j = n := by omega
          subst this
          rw [getNew]; exact hrt
      · rw [snoc, hmax]; exact h2
      · rw [snoc, hmax]; exact h3
    · have hmax : max M (1 + M) = 1 + M := by omega
      refine ⟨way ++ [1 + M], step (1 + M) (by omega) (by omega) (fun j hj hm q => ?_), fun s => if s = 1 + M then c n else r s, fun j hj => ?_, ?_, ?_⟩
      · have := (wlt j hj).2; omega
      · by_cases hjn : j < n
        · rw [getOld _ j hjn]
          show (if way.getD j 0 = 1 + M then c n else r (way.getD j 0)) = c j
          rw [if_neg (by have := (wlt j hjn).2; omega)]; exact h1 j hjn
        · have : j = n := by omega
          subst this
          rw [getNew]; exact if_pos rfl
      · rw [snoc, hmax]
        intro s t s0 sM t0 tM e
        by_cases hs : s = 1 + M <;> by_cases ht : t = 1 + M
        · omega
        · simp only [if_pos hs, if_neg ht] at e
          exact absurd ⟨t, t0, by omega, e.symm⟩ h
        · simp only [if_neg hs, if_pos ht] at e
          exact absurd ⟨s, s0, by omega, e⟩ h
        · simp only [if_neg hs, if_neg ht] at e
          exact h2 s t s0 (by omega) t0 (by omega) e
      · rw [snoc, hmax]
        intro t t0 tM
        by_cases ht : t = 1 + M
        · simp only [if_pos ht]; exact cn
        · simp only [if_neg ht]; exact h3 t t0 (by omega)
theorem map_nodup {r : Int → Int} : ∀ {l : List Int}, l.Nodup → (∀ s ∈ l, ∀ t ∈ l, r s = r t → s = t) → (l.map r).Nodup
  | [], _, _ => List.nodup_nil
  | a :: l, hn, h => by
    simp only [List.nodup_cons] at hn
    rw [List.map_cons, List.nodup_cons]
    refine ⟨fun q => ?_, map_nodup hn.2 fun s hs t ht => h s (List.mem_cons_of_mem _ hs) t (List.mem_cons_of_mem _ ht)⟩
    obtain ⟨b, hb, e⟩ := List.mem_map.mp q
    exact hn.1 (h b (List.mem_cons_of_mem _ hb) a List.mem_cons_self e ▸ hb)
theorem rangeL_nodup (k : Int) : (rangeL k).Nodup := by
  unfold rangeL
  have gen : ∀ l : List Nat, l.Nodup → (l.map fun (i : Nat) => (i : Int)).Nodup := fun l => by
    induction l with
    | nil => intro _; exact List.nodup_nil
    | cons a l ih =>
      intro hn
      simp only [List.nodup_cons] at hn
      rw [List.map_cons, List.nodup_cons]
      refine ⟨fun q => ?_, ih hn.2⟩
      obtain ⟨b, hb, e⟩ := List.mem_map.mp q
      exact hn.1 ((by omega : b = a) ▸ hb)
  exact gen _ List.nodup_range
theorem fewest_le {rows : List (List Int)} (hr : rowsOk rows) {c : Int → Int} {k : Int} (hc : ∀ p, 0 ≤ p → p < 5 → 0 ≤ c p ∧ c p < k) (hp : ∀ p q, 0 ≤ p → p < 5 → q ∈ rows.getD p.toNat [] → q < p → c q ≠ c p) : fewest rows ≤ k := by
  obtain ⟨way, hw, r, h1, h2, h3⟩ := way_of hr hc hp 5 (Nat.le_refl _)
  obtain ⟨w1, w2⟩ := ways_ok rows 5 way hw
  have hne : way ≠ [] := fun q => by rw [q] at w1; cases w1
  have hle : maxL way ≤ maxL ([0 - 1] ++ way) := maxL_le hne fun x hx => maxL_ge (by simp [hx])
  have hf : fewest rows ≤ 1 + maxL way := minL_le (List.mem_map.mpr ⟨way, hw, rfl⟩)
  have hk : 0 ≤ k := by have := hc 0 (by decide) (by decide); omega
  have pig : ((rangeL (1 + maxL ([0 - 1] ++ way))).map r).length ≤ (rangeL k).length :=
    nodup_le (map_nodup (rangeL_nodup _) fun s hs t ht e => h2 s t (mem_rangeL.mp hs).1 (mem_rangeL.mp hs).2 (mem_rangeL.mp ht).1 (mem_rangeL.mp ht).2 e) fun x hx => by
      obtain ⟨t, ht, rfl⟩ := List.mem_map.mp hx
      exact mem_rangeL.mpr (h3 t (mem_rangeL.mp ht).1 (mem_rangeL.mp ht).2)
  rw [List.length_map, rangeL_length, rangeL_length] at pig
  omega
end Mine

namespace Mine
abbrev Rw (rows : List (List Int)) (p : Int) : List Int := rows.getD p.toNat []
def runStep (f : Mp → List Int → Int) (rows : List (List Int)) (m : Mp) (p : Int) : Mp := m ++ [(p, f m (Rw rows p))]
def run (f : Mp → List Int → Int) (rows : List (List Int)) (order : List Int) : Mp := order.foldl (runStep f rows) []
def fL (m : Mp) (row : List Int) : Int := 1 + maxL ([0] ++ known m row)
def fG (m : Mp) (row : List Int) : Int := (free5 (known m row)).headD 0
theorem longRun_eq (rows : List (List Int)) (order : List Int) : longRun rows order = (run fL rows order, run fG rows order) := by
  have gen : ∀ (l : List Int) (a b : Mp), l.foldl (longStep rows) (a, b) = (l.foldl (runStep fL rows) a, l.foldl (runStep fG rows) b) := fun l => by
    induction l with
    | nil => intro a b; rfl
    | cons p l ih => intro a b; exact ih _ _
  exact gen order [] []
theorem look_append (m : Mp) (k v p : Int) : look (m ++ [(k, v)]) p = (look m p).or (if k = p then some v else none) := by
  unfold look
  rw [List.find?_append]
  cases m.find? (fun kv => decide (kv.1 = p)) with
  | some x => rfl
  | none =>
    by_cases h : k = p <;> simp [h]
theorem look_mem {m : Mp} {p x : Int} (h : look m p = some x) : (p, x) ∈ m := by
  unfold look at h
  cases q : m.find? (fun kv => decide (kv.1 = p)) with
  | none => rw [q] at h; cases h
  | some kv =>
    rw [q] at h
    cases h
    have h1 := List.mem_of_find?_eq_some q
    have h2 := List.find?_some q
    simp only [decide_eq_true_eq] at h2
    rw [← h2]; exact h1
theorem look_some {m : Mp} {p : Int} (h : p ∈ m.map Prod.fst) : ∃ x, look m p = some x := by
  unfold look
  cases q : m.find? (fun kv => decide (kv.1 = p)) with
  | some kv => exact ⟨_, rfl⟩
  | none =>
    obtain ⟨kv, h1, h2⟩ := List.mem_map.mp h
    have := List.find?_eq_none.mp q kv h1
    simp [h2] at this
theorem known_mem {m : Mp} {row : List Int} {q x : Int} (hq : q ∈ row) (h : look m q = some x) : x ∈ known m row := by
  unfold known
  refine List.mem_map.mpr ⟨q, List.mem_filter.mpr ⟨hq, by rw [h]; rfl⟩, by rw [h]; rfl⟩
/-- places next to one another have other values -/
theorem run_ok {f : Mp → List Int → Int} {rows : List (List Int)} (hf : ∀ m p, ∀ x ∈ known m (Rw rows p), f m (Rw rows p) ≠ x) (sym : ∀ p q, 0 ≤ p → q ∈ Rw rows p → p ∈ Rw rows q) (irr : ∀ p, 0 ≤ p → p ∉ Rw rows p) {order : List Int} (hn : order.Nodup) (ho : ∀ p ∈ order, 0 ≤ p) :
    ∀ p q x y, look (run f rows order) p = some x → look (run f rows order) q = some y → q ∈ Rw rows p → x ≠ y := by
  have gen : ∀ (l : List Int) (m : Mp), l.Nodup → (∀ k ∈ l, look m k = none ∧ 0 ≤ k) → (∀ p x, look m p = some x → 0 ≤ p) → (∀ p q x y, look m p = some x → look m q = some y → q ∈ Rw rows p → x ≠ y) →
      ∀ p q x y, look (l.foldl (runStep f rows) m) p = some x → look (l.foldl (runStep f rows) m) q = some y → q ∈ Rw rows p → x ≠ y := fun l => by
    induction l with
    | nil => intro m _ _ _ h; exact h
    | cons k l ih =>
      intro m hn hk hm0 h
      simp only [List.nodup_cons] at hn
      refine ih _ hn.2 (fun k' hk' => ⟨?_, (hk k' (List.mem_cons_of_mem _ hk')).2⟩) (fun p x hx => ?_) ?_
      · show look (m ++ [(k, _)]) k' = none
        rw [look_append, (hk k' (List.mem_cons_of_mem _ hk')).1, if_neg (fun (q : k = k') => hn.1 (by rw [q]; exact hk'))]; rfl
      · replace hx : look (m ++ [(k, f m (Rw rows k))]) p = some x := hx
        rw [look_append] at hx
        by_cases hp : k = p
        · exact hp ▸ (hk k List.mem_cons_self).2
        · rw [if_neg hp, Option.or_none] at hx; exact hm0 p x hx
      · intro p q x y hx hy hq
        replace hx : look (m ++ [(k, f m (Rw rows k))]) p = some x := hx
        replace hy : look (m ++ [(k, f m (Rw rows k))]) q = some y := hy
        rw [look_append] at hx hy
        have hk0 := (hk k List.mem_cons_self).1
        by_cases hp : k = p
        · subst hp
          rw [hk0, if_pos rfl] at hx
          cases hx
          by_cases hq' : k = q
          · subst hq'; exact absurd hq (irr _ (hk k List.mem_cons_self).2)
          · rw [if_neg hq', Option.or_none] at hy
            exact hf m k y (known_mem hq hy)
        · rw [if_neg hp, Option.or_none] at hx
          by_cases hq' : k = q
          · subst hq'
            rw [hk0, if_pos rfl] at hy
            cases hy
            exact fun e => hf m k x (known_mem (sym _ _ (hm0 p x hx) hq) hx) e.symm
          · rw [if_neg hq', Option.or_none] at hy
            exact h p q x y hx hy hq
  exact gen order [] hn (fun k hk => ⟨rfl, ho k hk⟩) (fun p x hx => by cases hx) (fun p q x y hx => by cases hx)
theorem run_keys (f : Mp → List Int → Int) (rows : List (List Int)) (order : List Int) : (run f rows order).map Prod.fst = order := by
  have gen : ∀ (l : List Int) (m : Mp), (l.foldl (runStep f rows) m).map Prod.fst = m.map Prod.fst ++ l := fun l => by
    induction l with
    | nil => intro m; simp
    | cons a l ih => intro m; rw [List.foldl_cons, ih]; simp [runStep]
  simpa [run] using gen order []
theorem run_mem {f : Mp → List Int → Int} {rows : List (List Int)} {order : List Int} : ∀ kv ∈ run f rows order, ∃ m, kv.2 = f m (Rw rows kv.1) := by
  have gen : ∀ (l : List Int) (m : Mp), (∀ kv ∈ m, ∃ m', kv.2 = f m' (Rw rows kv.1)) → ∀ kv ∈ l.foldl (runStep f rows) m, ∃ m', kv.2 = f m' (Rw rows kv.1) := fun l => by
    induction l with
    | nil => intro m h; exact h
    | cons a l ih =>
      intro m h
      refine ih _ fun kv hkv => ?_
      rcases List.mem_append.mp hkv with q | q
      · exact h kv q
      · simp only [List.mem_singleton] at q; subst q; exact ⟨m, rfl⟩
  exact gen order [] fun kv h => by cases h
theorem fL_ne (m : Mp) (row : List Int) : ∀ x ∈ known m row, fL m row ≠ x := fun x hx q => by
  have := maxL_ge (c := x) (l := [0] ++ known m row) (by simp [hx])
  unfold fL at q; omega
theorem fL_ge (m : Mp) (row : List Int) : 1 ≤ fL m row := by
  have := maxL_ge (c := 0) (l := [0] ++ known m row) (by simp)
  unfold fL; omega
theorem fG_mem {m : Mp} {row : List Int} (h : row.length ≤ 4) : fG m row ∈ free5 (known m row) := by
  unfold fG
  have := free5_ne (Nat.le_trans (known_le m row) h)
  cases q : free5 (known m row) with
  | nil => exact absurd q this
  | cons x xs => simp
theorem fG_ne {m : Mp} {row : List Int} (h : row.length ≤ 4) : ∀ x ∈ known m row, fG m row ≠ x := fun x hx q => by
  have := fG_mem (m := m) h
  rw [q] at this
  unfold free5 at this
  have h2 := (List.mem_filter.mp this).2
  simp only [Bool.not_eq_true', List.any_eq_false, beq_iff_eq] at h2
  exact h2 x hx rfl
theorem fG_ge {m : Mp} {row : List Int} (h : row.length ≤ 4) : 0 ≤ fG m row := (mem_rangeL.mp (List.mem_filter.mp (fG_mem (m := m) h)).1).1
theorem head_le (taken : List Int) : (free5 taken).headD 0 ≤ taken.length := by
  have hr : rangeL 5 = [0, 1, 2, 3, 4] := by decide
  have mem : ∀ c : Int, (taken.any fun t => t == c) = true → c ∈ taken := fun c h => by
    obtain ⟨t, ht, e⟩ := List.any_eq_true.mp h
    rw [← eq_of_beq e]; exact ht
  have pig : ∀ l : List Int, l.Nodup → (∀ c ∈ l, c ∈ taken) → l.length ≤ taken.length := fun l hn h => nodup_le hn h
  unfold free5
  rw [hr]
  cases b0 : taken.any fun t => t == 0 with
  | false => simp [List.filter_cons, b0]
  | true =>
    have m0 := mem 0 b0
    cases b1 : taken.any fun t => t == 1 with
    | false =>
      have := pig [0] (by decide) (by simp [m0])
      simp only [List.filter_cons, b0, b1, Bool.not_true, Bool.not_false, if_true, Bool.false_eq_true, if_false, List.headD_cons]
      simp only [List.length_cons, List.length_nil] at this; omega
    | true =>
      have m1 := mem 1 b1
      cases b2 : taken.any fun t => t == 2 with
      | false =>
        have := pig [0, 1] (by decide) (by simp [m0, m1])
        simp only [List.filter_cons, b0, b1, b2, Bool.not_true, Bool.not_false, if_true, Bool.false_eq_true, if_false, List.headD_cons]
        simp only [List.length_cons, List.length_nil] at this; omega
      | true =>
        have m2 := mem 2 b2
        cases b3 : taken.any fun t => t == 3 with
        | false =>
          have := pig [0, 1, 2] (by decide) (by simp [m0, m1, m2])
          simp only [List.filter_cons, b0, b1, b2, b3, Bool.not_true, Bool.not_false, if_true, Bool.false_eq_true, if_false, List.headD_cons]
          simp only [List.length_cons, List.length_nil] at this; omega
        | true =>
          have m3 := mem 3 b3
          cases b4 : taken.any fun t => t == 4 with
          | false =>
            have := pig [0, 1, 2, 3] (by decide) (by simp [m0, m1, m2, m3])
            simp only [List.filter_cons, b0, b1, b2, b3, b4, Bool.not_true, Bool.not_false, if_true, Bool.false_eq_true, if_false, List.headD_cons]
            simp only [List.length_cons, List.length_nil] at this; omega
          | true =>
            simp [List.filter_cons, b0, b1, b2, b3, b4]
theorem fG_le (m : Mp) (row : List Int) : fG m row ≤ row.length := by
  have h1 := head_le (known m row)
  have h2 := known_le m row
  unfold fG; omega
theorem Rw_len {rows : List (List Int)} (hr : rowsOk4 rows) (p : Int) : (Rw rows p).length ≤ 4 := by
  show (rows.getD p.toNat []).length ≤ 4
  rw [List.getD_eq_getElem?_getD]
  cases q : rows[p.toNat]? with
  | none => simp
  | some r => exact (hr.2 r (List.mem_of_getElem? q)).1
theorem full_mem {order : List Int} (hn : order.Nodup) (hl : order.length = 5) (hs : ∀ x ∈ order, x ∈ rangeL 5) {p : Int} (h0 : 0 ≤ p) (h5 : p < 5) : p ∈ order := by
  refine Classical.byContradiction fun h => ?_
  have : (p :: order).length ≤ (rangeL 5).length := nodup_le (List.nodup_cons.mpr ⟨h, hn⟩) fun x hx => by
    rcases List.mem_cons.mp hx with rfl | hx
    · exact mem_rangeL.mpr ⟨h0, h5⟩
    · exact hs x hx
  rw [rangeL_length, List.length_cons, hl] at this
  exact absurd this (by decide)
/-- every order's numbers are no fewer than the fewest -/
theorem run_ge {f : Mp → List Int → Int} {rows : List (List Int)} {lo : Int} (hr : rowsOk rows) (hf : ∀ m p, ∀ x ∈ known m (Rw rows p), f m (Rw rows p) ≠ x) (hlo : ∀ m p, lo ≤ f m (Rw rows p)) (sym : ∀ p q, 0 ≤ p → q ∈ Rw rows p → p ∈ Rw rows q) (irr : ∀ p, 0 ≤ p → p ∉ Rw rows p) {order : List Int} (hn : order.Nodup) (hl : order.length = 5) (hs : ∀ x ∈ order, x ∈ rangeL 5) :
    fewest rows ≤ 1 + maxL ((run f rows order).map Prod.snd) - lo := by
  have hlook : ∀ p, 0 ≤ p → p < 5 → ∃ x, look (run f rows order) p = some x ∧ lo ≤ x ∧ x ≤ maxL ((run f rows order).map Prod.snd) := fun p h0 h5 => by
    obtain ⟨x, hx⟩ := look_some (m := run f rows order) (p := p) (by rw [run_keys]; exact full_mem hn hl hs h0 h5)
    have hm := look_mem hx
    obtain ⟨m, hv⟩ := run_mem _ hm
    exact ⟨x, hx, by have := hlo m p; simp only at hv; rw [hv]; exact this, maxL_ge (List.mem_map.mpr ⟨_, hm, rfl⟩)⟩
  refine fewest_le hr (c := fun p => (look (run f rows order) p).getD 0 - lo) (fun p h0 h5 => ?_) fun p q h0 h5 hq hlt => ?_
  · obtain ⟨x, hx, h1, h2⟩ := hlook p h0 h5
    simp only [hx, Option.getD_some]; omega
  · have q0 := (getD_row hr p.toNat q hq).1
    obtain ⟨x, hx, _⟩ := hlook p h0 h5
    obtain ⟨y, hy, _⟩ := hlook q q0 (by omega)
    have := run_ok hf sym irr hn (fun p hp => (mem_rangeL.mp (hs p hp)).1) p q x y hx hy hq
    simp only [hx, hy, Option.getD_some]; omega
end Mine

namespace Mine
def tab1 : Nat := 4045975257626787644539032207181177291476390544861074681445190168378462915808620214949565104182630840129342669609573806246449144043336267175074299703602005202421482959667725901567785750473627837548098064671716020435757814049794382266153922074823412270466066398203783419855815881982177710306017216715624930593123629074203251171384561570065541254582539195480357731986881628467828562948436694674143519434638067525670880250101491791801580725121257590519347713015814430503557648292169102803582602454198910606793578734016091046252885884309976556511950409498318824284051288642222477140615293859934049878782201137709583377812870327776867703480852563130428930172927400294145695270284127348671371852693564584656994158719508779526582389435035431076359464897864939936202621614801229918938853917690568468753681260997946632510772198818236811001445252418187355683257203908578567114966961417091026549294467910685173175288561100729237526619281
def tab2 : Nat := 933687024106836967547808958414612389191465719096008943272644426846422829825369900225895131065188601362276531166639648747313455980941632358123318023817808356184246610575478464043787089114664044783522816120442424993254557851547703696965081986666766675642475999222254091257630285336391427677537484769157214894065279653887022344370700510971672152508892289227135353413186950213058768303480597928610220797514106116865066660032740993543862020437272249767122355292130202004290000537296311136991013070292262170232656458323118719599216752048491930020211337409988769937982883146665008289612581189104809563387956132412524427911571867353358027516351951666903333162596066888994533594452394170602756998881881809865239446207836496831660063444211256777191206657249256542806240476713336002422991082887008087380161349728126448483815013671736788219690693135350479890510528765562014429458110706209434776621350950342329640692254454003560103430437
def tab3 : Nat := 4148274922693998935627764471518196122134434397775898319181625759453076868953772651844929976054455159357495277688906517775399446233001267479972106599376815973454931266626630879922087960289777373179903785064131858170404943673113255878218202723877354008842731919111966284855533089005094555733236775858792333807030537634611699864350317073248599901711711964885017132786904076935500751082078093435565902283666792237971909119154903477985512151034152315182538076980365381334584228386842429197556318102977101611055208235577592389311341226089674675785263686198085222807484281801325603251384909737662577067972348116096846479710180960164005159465640647090620083959330030430799137266807166794978714573112368608980418519695629843193511802560787212737535041684947402419789094315576747263151516030735808686752043995368393920883697338776999136752652432957206046525541416075548278518077235655012786404922964780398331610805641083479021419603602
def digit (t a : Nat) : Int := ((t / 2 ^ (3 * a) % 8 : Nat) : Int)
def okB (n : Nat) (rows : List (List Int)) : Bool := rows.length == 5 && rows.all fun r => decide (r.length ≤ n) && r.all fun c => decide (0 ≤ c) && decide (c < 5)
def symB (rows : List (List Int)) : Bool := (rangeL 5).all fun p => (Rw rows p).all fun q => (Rw rows q).contains p && !(q == p)
def adjB (ts : List Tie) (rows : List (List Int)) : Bool := ts.all fun t => (Rw rows t.1).contains t.2 && (Rw rows t.2).contains t.1
def bestWay (rows : List (List Int)) (k : Int) : List Int := ((fewWays rows 5).find? fun way => decide (1 + maxL way ≤ k)).getD []
def ordOf (rows : List (List Int)) (k : Int) : List Int := (rangeL 5).flatMap fun c => (rangeL 5).filter fun p => (bestWay rows k).getD p.toNat 0 == c
def certB (rows : List (List Int)) (k : Int) : Bool := (orders 5 (rangeL 5)).contains (ordOf rows k) && decide ((longest rows (ordOf rows k)).1 ≤ k) && decide ((longest rows (ordOf rows k)).2 ≤ k)
def sumB (a : Nat) : Bool := (counts a).sum == 2 * ((ties a).length : Int)
def chk (a : Nat) : Bool :=
  (val2 (figs a) == (a : Int)) && okB 4 (rowsA a) && okB 5 (tied (lacks a)) && okB 5 (tied (ties a ++ (lacks a).take 1)) && freshT (ties a) (List.replicate 5 []) && sumB a && symB (rowsA a) && adjB (ties a) (rowsA a) &&
  (fewest (rowsA a) == digit tab1 a) && (fewest (tied (lacks a)) == digit tab2 a) && (fewest (tied (ties a ++ (lacks a).take 1)) == digit tab3 a) && certB (rowsA a) (digit tab1 a) &&
  decide (digit tab1 a + digit tab2 a ≤ 6) && decide (5 ≤ digit tab1 a * digit tab2 a) && ((lacks a).isEmpty || (digit tab3 a - digit tab1 a == 0) || (digit tab3 a - digit tab1 a == 1))
theorem chk0 : ((List.range 16).all fun i => chk (16 * 0 + i)) = true := by decide +kernel
theorem chk1 : ((List.range 16).all fun i => chk (16 * 1 + i)) = true := by decide +kernel
theorem chk2 : ((List.range 16).all fun i => chk (16 * 2 + i)) = true := by decide +kernel
theorem chk3 : ((List.range 16).all fun i => chk (16 * 3 + i)) = true := by decide +kernel
theorem chk4 : ((List.range 16).all fun i => chk (16 * 4 + i)) = true := by decide +kernel
theorem chk5 : ((List.range 16).all fun i => chk (16 * 5 + i)) = true := by decide +kernel
theorem chk6 : ((List.range 16).all fun i => chk (16 * 6 + i)) = true := by decide +kernel
theorem chk7 : ((List.range 16).all fun i => chk (16 * 7 + i)) = true := by decide +kernel
theorem chk8 : ((List.range 16).all fun i => chk (16 * 8 + i)) = true := by decide +kernel
theorem chk9 : ((List.range 16).all fun i => chk (16 * 9 + i)) = true := by decide +kernel
theorem chk10 : ((List.range 16).all fun i => chk (16 * 10 + i)) = true := by decide +kernel
theorem chk11 : ((List.range 16).all fun i => chk (16 * 11 + i)) = true := by decide +kernel
theorem chk12 : ((List.range 16).all fun i => chk (16 * 12 + i)) = true := by decide +kernel
theorem chk13 : ((List.range 16).all fun i => chk (16 * 13 + i)) = true := by decide +kernel
theorem chk14 : ((List.range 16).all fun i => chk (16 * 14 + i)) = true := by decide +kernel
theorem chk15 : ((List.range 16).all fun i => chk (16 * 15 + i)) = true := by decide +kernel
theorem chk16 : ((List.range 16).all fun i => chk (16 * 16 + i)) = true := by decide +kernel
theorem chk17 : ((List.range 16).all fun i => chk (16 * 17 + i)) = true := by decide +kernel
theorem chk18 : ((List.range 16).all fun i => chk (16 * 18 + i)) = true := by decide +kernel
theorem chk19 : ((List.range 16).all fun i => chk (16 * 19 + i)) = true := by decide +kernel
theorem chk20 : ((List.range 16).all fun i => chk (16 * 20 + i)) = true := by decide +kernel
theorem chk21 : ((List.range 16).all fun i => chk (16 * 21 + i)) = true := by decide +kernel
theorem chk22 : ((List.range 16).all fun i => chk (16 * 22 + i)) = true := by decide +kernel
theorem chk23 : ((List.range 16).all fun i => chk (16 * 23 + i)) = true := by decide +kernel
theorem chk24 : ((List.range 16).all fun i => chk (16 * 24 + i)) = true := by decide +kernel
theorem chk25 : ((List.range 16).all fun i => chk (16 * 25 + i)) = true := by decide +kernel
theorem chk26 : ((List.range 16).all fun i => chk (16 * 26 + i)) = true := by decide +kernel
theorem chk27 : ((List.range 16).all fun i => chk (16 * 27 + i)) = true := by decide +kernel
theorem chk28 : ((List.range 16).all fun i => chk (16 * 28 + i)) = true := by decide +kernel
theorem chk29 : ((List.range 16).all fun i => chk (16 * 29 + i)) = true := by decide +kernel
theorem chk30 : ((List.range 16).all fun i => chk (16 * 30 + i)) = true := by decide +kernel
theorem chk31 : ((List.range 16).all fun i => chk (16 * 31 + i)) = true := by decide +kernel
theorem chk32 : ((List.range 16).all fun i => chk (16 * 32 + i)) = true := by decide +kernel
theorem chk33 : ((List.range 16).all fun i => chk (16 * 33 + i)) = true := by decide +kernel
theorem chk34 : ((List.range 16).all fun i => chk (16 * 34 + i)) = true := by decide +kernel
theorem chk35 : ((List.range 16).all fun i => chk (16 * 35 + i)) = true := by decide +kernel
theorem chk36 : ((List.range 16).all fun i => chk (16 * 36 + i)) = true := by decide +kernel
theorem chk37 : ((List.range 16).all fun i => chk (16 * 37 + i)) = true := by decide +kernel
theorem chk38 : ((List.range 16).all fun i => chk (16 * 38 + i)) = true := by decide +kernel
theorem chk39 : ((List.range 16).all fun i => chk (16 * 39 + i)) = true := by decide +kernel
theorem chk40 : ((List.range 16).all fun i => chk (16 * 40 + i)) = true := by decide +kernel
theorem chk41 : ((List.range 16).all fun i => chk (16 * 41 + i)) = true := by decide +kernel
theorem chk42 : ((List.range 16).all fun i => chk (16 * 42 + i)) = true := by decide +kernel
theorem chk43 : ((List.range 16).all fun i => chk (16 * 43 + i)) = true := by decide +kernel
theorem chk44 : ((List.range 16).all fun i => chk (16 * 44 + i)) = true := by decide +kernel
theorem chk45 : ((List.range 16).all fun i => chk (16 * 45 + i)) = true := by decide +kernel
theorem chk46 : ((List.range 16).all fun i => chk (16 * 46 + i)) = true := by decide +kernel
theorem chk47 : ((List.range 16).all fun i => chk (16 * 47 + i)) = true := by decide +kernel
theorem chk48 : ((List.range 16).all fun i => chk (16 * 48 + i)) = true := by decide +kernel
theorem chk49 : ((List.range 16).all fun i => chk (16 * 49 + i)) = true := by decide +kernel
theorem chk50 : ((List.range 16).all fun i => chk (16 * 50 + i)) = true := by decide +kernel
theorem chk51 : ((List.range 16).all fun i => chk (16 * 51 + i)) = true := by decide +kernel
theorem chk52 : ((List.range 16).all fun i => chk (16 * 52 + i)) = true := by decide +kernel
theorem chk53 : ((List.range 16).all fun i => chk (16 * 53 + i)) = true := by decide +kernel
theorem chk54 : ((List.range 16).all fun i => chk (16 * 54 + i)) = true := by decide +kernel
theorem chk55 : ((List.range 16).all fun i => chk (16 * 55 + i)) = true := by decide +kernel
theorem chk56 : ((List.range 16).all fun i => chk (16 * 56 + i)) = true := by decide +kernel
theorem chk57 : ((List.range 16).all fun i => chk (16 * 57 + i)) = true := by decide +kernel
theorem chk58 : ((List.range 16).all fun i => chk (16 * 58 + i)) = true := by decide +kernel
theorem chk59 : ((List.range 16).all fun i => chk (16 * 59 + i)) = true := by decide +kernel
theorem chk60 : ((List.range 16).all fun i => chk (16 * 60 + i)) = true := by decide +kernel
theorem chk61 : ((List.range 16).all fun i => chk (16 * 61 + i)) = true := by decide +kernel
theorem chk62 : ((List.range 16).all fun i => chk (16 * 62 + i)) = true := by decide +kernel
theorem chk63 : ((List.range 16).all fun i => chk (16 * 63 + i)) = true := by decide +kernel
end Mine

namespace Mine
theorem okB_spec {n : Nat} {rows : List (List Int)} (h : okB n rows = true) : rows.length = 5 ∧ ∀ r ∈ rows, r.length ≤ n ∧ ∀ c ∈ r, 0 ≤ c ∧ c < 5 := by
  unfold okB at h
  simp only [Bool.and_eq_true, beq_iff_eq, List.all_eq_true, decide_eq_true_eq] at h
  exact ⟨h.1, fun r hr => ⟨(h.2 r hr).1, (h.2 r hr).2⟩⟩
theorem symB_spec {rows : List (List Int)} (hl : rows.length = 5) (h : symB rows = true) : (∀ p q, 0 ≤ p → q ∈ Rw rows p → p ∈ Rw rows q) ∧ ∀ p, 0 ≤ p → p ∉ Rw rows p := by
  unfold symB at h
  simp only [List.all_eq_true, Bool.and_eq_true, Bool.not_eq_true', beq_eq_false_iff_ne] at h
  have key : ∀ p q, 0 ≤ p → q ∈ Rw rows p → (Rw rows q).contains p = true ∧ q ≠ p := fun p q h0 hq => by
    by_cases h5 : p < 5
    · exact h p (mem_rangeL.mpr ⟨h0, h5⟩) q hq
    · have : Rw rows p = [] := by
        show rows.getD p.toNat [] = []
        rw [List.getD_eq_getElem?_getD, List.getElem?_eq_none (by omega)]; rfl
      rw [this] at hq; cases hq
  exact ⟨fun p q h0 hq => List.contains_iff_mem.mp (key p q h0 hq).1, fun p h0 hq => (key p p h0 hq).2 rfl⟩
/-- tied places have other colours in every way -/
theorem way_proper {rows : List (List Int)} (hr : rowsOk rows) : ∀ n : Nat, n ≤ 5 → ∀ way ∈ fewWays rows n, ∀ p q : Nat, p < n → q < p → (q : Int) ∈ rows.getD p [] → way.getD q 0 ≠ way.getD p 0
  | 0, _, way, h, p, q, hp, _, _ => by omega
  | n + 1, hn, way, h, p, q, hp, hq, hm => by
    simp only [fewWays, fewStep, List.mem_flatMap, List.mem_map, List.mem_filter] at h
    obtain ⟨w', hw', c', ⟨_, hcl⟩, rfl⟩ := h
    obtain ⟨h1, _⟩ := ways_ok rows n w' hw'
    have old : ∀ j : Nat, j < n → (w' ++ [c']).getD j 0 = w'.getD j 0 := fun j hj => by
      rw [List.getD_eq_getElem?_getD, List.getD_eq_getElem?_getD, List.getElem?_append_left (by omega)]
    by_cases hpn : p < n
    · rw [old q (by omega), old p hpn]
      exact way_proper hr n (by omega) w' hw' p q hpn hq hm
    · have : p = n := by omega
      subst this
      have new : (w' ++ [c']).getD p 0 = c' := by rw [List.getD_eq_getElem?_getD, List.getElem?_append_right (by omega), h1]; simp
      rw [old q hq, new]
      intro e
      rw [List.isEmpty_iff] at hcl
      unfold clash at hcl
      rw [Int.toNat_natCast, List.filter_eq_nil_iff] at hcl
      refine hcl (q : Int) hm ?_
      simp only [Bool.and_eq_true, decide_eq_true_eq, beq_iff_eq, Int.toNat_natCast]
      exact ⟨by omega, e⟩
theorem hasT_mem {ts : List Tie} {p : Tie} (h : hasT ts p = true) : p ∈ ts := by
  unfold hasT at h
  obtain ⟨t, ht, e⟩ := List.any_eq_true.mp h
  simp only [Bool.and_eq_true, beq_iff_eq, and_true] at e
  have : t = p := Prod.ext e.1 e.2
  rw [← this]; exact ht
theorem lot_nodup {lot : List Int} (h : lot ∈ lotsL) : lot.Nodup := by
  unfold lotsL at h
  obtain ⟨i, _, rfl⟩ := List.mem_map.mp h
  unfold lotOf
  exact (rangeL_nodup 5).filter _
theorem clique_le {a : Nat} (hr : rowsOk (rowsA a)) (hadj : adjB (ties a) (rowsA a) = true) : maxL (cliques a) ≤ fewest (rowsA a) := by
  have adj : ∀ t ∈ ties a, t.2 ∈ Rw (rowsA a) t.1 ∧ t.1 ∈ Rw (rowsA a) t.2 := fun t ht => by
    unfold adjB at hadj
    have := List.all_eq_true.mp hadj t ht
    simp only [Bool.and_eq_true] at this
    exact ⟨List.contains_iff_mem.mp this.1, List.contains_iff_mem.mp this.2⟩
  refine maxL_le (cliques_ne a) fun c hc => ?_
  unfold cliques at hc
  obtain ⟨lot, hlot, rfl⟩ := List.mem_map.mp hc
  obtain ⟨hlm, hg⟩ := List.mem_filter.mp hlot
  obtain ⟨_, lm⟩ := lot_mem hlm
  rw [List.isEmpty_iff] at hg
  have tied' : ∀ p ∈ lot, ∀ q ∈ lot, p < q → (p, q) ∈ ties a := fun p hp q hq hlt => by
    unfold gaps at hg
    rw [List.flatMap_eq_nil_iff] at hg
    have := List.map_eq_nil_iff.mp (hg p hp)
    rw [List.filter_eq_nil_iff] at this
    have h2 := this q hq
    simp only [Bool.and_true, Bool.and_eq_true, decide_eq_true_eq, Bool.not_eq_true', not_and, Bool.not_eq_false] at h2
    exact hasT_mem (h2 hlt)
  have hne : ((fewWays (rowsA a) 5).map fun way => 1 + maxL way) ≠ [] := fun q => ways_ne hr (n := 5) (by omega) (List.map_eq_nil_iff.mp q)
  obtain ⟨way, hw, e⟩ := List.mem_map.mp (minL_mem hne)
  obtain ⟨w1, w2⟩ := ways_ok (rowsA a) 5 way hw
  have prop := way_proper hr 5 (Nat.le_refl _) way hw
  have ne : ∀ p ∈ lot, ∀ q ∈ lot, p < q → way.getD p.toNat 0 ≠ way.getD q.toNat 0 := fun p hp q hq hlt => by
    have := (adj _ (tied' p hp q hq hlt)).2
    have p0 := (lm p hp).1
    have q0 := lm q hq
    refine prop q.toNat p.toNat (by omega) (by omega) ?_
    rw [Int.toNat_of_nonneg p0]; exact this
  have pig : (lot.map fun p => way.getD p.toNat 0).length ≤ (rangeL (1 + maxL way)).length :=
    nodup_le (map_nodup (lot_nodup hlm) fun p hp q hq e => by
      rcases Int.lt_trichotomy p q with h | h | h
      · exact absurd e (ne p hp q hq h)
      · exact h
      · exact absurd e.symm (ne q hq p hp h)) fun x hx => by
      obtain ⟨p, hp, rfl⟩ := List.mem_map.mp hx
      have hlt : p.toNat < way.length := by have := lm p hp; omega
      rw [List.getD_eq_getElem?_getD, List.getElem?_eq_getElem hlt]
      exact mem_rangeL.mpr ⟨(w2 _ (List.getElem_mem hlt)).1, by have := maxL_ge (List.getElem_mem hlt); simp only [Option.getD_some]; omega⟩
  rw [List.length_map, rangeL_length] at pig
  have hb := (fewest_bound hr).1
  unfold fewest at hb ⊢
  rw [← e] at hb ⊢
  omega
theorem lawF_of {a : Nat} (h : chk a = true) : LawF a := by
  unfold chk at h
  simp only [Bool.and_eq_true, Bool.or_eq_true, beq_iff_eq, decide_eq_true_eq, List.isEmpty_iff] at h
  obtain ⟨⟨⟨⟨⟨⟨⟨⟨⟨⟨⟨⟨⟨⟨c1, c2⟩, c3⟩, c4⟩, c5⟩, c6⟩, c7⟩, c8⟩, c9⟩, c10⟩, c11⟩, c12⟩, c13⟩, c14⟩, c15⟩ := h
  have r4 : rowsOk4 (rowsA a) := okB_spec c2
  have rok := r4.ok
  obtain ⟨sym, irr⟩ := symB_spec r4.1 c7
  unfold certB at c12
  simp only [Bool.and_eq_true, decide_eq_true_eq] at c12
  obtain ⟨⟨o1, o2⟩, o3⟩ := c12
  have omem := List.contains_iff_mem.mp o1
  rw [← c9] at o2 o3 omem c13 c14 c15
  have tm : longest (rowsA a) (ordOf (rowsA a) (fewest (rowsA a))) ∈ told a := List.mem_map.mpr ⟨_, omem, rfl⟩
  have ge : ∀ t ∈ told a, fewest (rowsA a) ≤ t.1 ∧ fewest (rowsA a) ≤ t.2 ∧ t.2 ≤ 1 + maxL (counts a) := fun t ht => by
    obtain ⟨o, ho, rfl⟩ := List.mem_map.mp ht
    obtain ⟨on, os⟩ := orders_perm (n := 5) (ps := rangeL 5) (by decide) (by decide) o ho
    have ol := orders_len 5 _ o ho
    have g1 := run_ge (f := fL) rok (fun m p => fL_ne m _) (fun m p => fL_ge m _) sym irr on ol os
    have g2 := run_ge (f := fG) rok (fun m p => fG_ne (Rw_len r4 p)) (fun m p => fG_ge (Rw_len r4 p)) sym irr on ol os
    have g3 : maxL ((run fG (rowsA a) o).map Prod.snd) ≤ maxL (counts a) := by
      refine maxL_le (fun q => ?_) fun v hv => ?_
      · have := congrArg List.length (run_keys fG (rowsA a) o)
        rw [List.length_map] at this
        have h2 := congrArg List.length q
        rw [List.length_map, this, ol] at h2
        cases h2
      · obtain ⟨kv, hkv, rfl⟩ := List.mem_map.mp hv
        obtain ⟨m, e⟩ := run_mem kv hkv
        rw [e]
        have hk : kv.1 ∈ o := by rw [← run_keys fG (rowsA a) o]; exact List.mem_map.mpr ⟨kv, hkv, rfl⟩
        have hb := mem_rangeL.mp (os _ hk)
        have hlt : kv.1.toNat < (rowsA a).length := by rw [r4.1]; omega
        have hrow : Rw (rowsA a) kv.1 = (rowsA a)[kv.1.toNat] := by
          show (rowsA a).getD kv.1.toNat [] = _
          rw [List.getD_eq_getElem?_getD, List.getElem?_eq_getElem hlt]; rfl
        refine Int.le_trans (fG_le m _) (maxL_ge ?_)
        rw [hrow]
        exact List.mem_map.mpr ⟨_, List.getElem_mem hlt, rfl⟩
    unfold longest
    rw [longRun_eq]
    dsimp only
    exact ⟨by omega, by omega, by omega⟩
  have ne1 : (told a).map Prod.fst ≠ [] := fun q => told_ne a (List.map_eq_nil_iff.mp q)
  have ne2 : (told a).map Prod.snd ≠ [] := fun q => told_ne a (List.map_eq_nil_iff.mp q)
  have longs : minL ((told a).map Prod.fst) = fewest (rowsA a) := by
    obtain ⟨t, ht, e⟩ := List.mem_map.mp (minL_mem ne1)
    have h1 := minL_le (List.mem_map.mpr ⟨_, tm, rfl⟩ : (longest (rowsA a) (ordOf (rowsA a) (fewest (rowsA a)))).1 ∈ (told a).map Prod.fst)
    have h2 := (ge t ht).1
    omega
  have greedy : minL ((told a).map Prod.snd) = fewest (rowsA a) := by
    obtain ⟨t, ht, e⟩ := List.mem_map.mp (minL_mem ne2)
    have h1 := minL_le (List.mem_map.mpr ⟨_, tm, rfl⟩ : (longest (rowsA a) (ordOf (rowsA a) (fewest (rowsA a)))).2 ∈ (told a).map Prod.snd)
    have h2 := (ge t ht).2.1
    omega
  have worst : maxL ((told a).map Prod.snd) ≤ 1 + maxL (counts a) := maxL_le ne2 fun x hx => by
    obtain ⟨t, ht, rfl⟩ := List.mem_map.mp hx
    exact (ge t ht).2.2
  refine ⟨c1, r4, okB_spec c3, okB_spec c4, c5, ?_, longs, greedy, ?_, worst, clique_le rok c8, ?_, ?_, ?_⟩
  · unfold sumB at c6
    exact eq_of_beq c6
  · have := (ge _ tm).2.1
    have h2 := (ge _ tm).2.2
    omega
  · rw [c10]; exact c13
  · rw [c10]; exact c14
  · rw [c11]
    rcases c15 with (h | h) | h
    · exact .inl h
    · exact .inr (.inl h)
    · exact .inr (.inr h)
theorem chk_all (a : Nat) (ha : a < 1024) : chk a = true := by
  have e : a = 16 * (a / 16) + a % 16 := by omega
  have hm : a % 16 < 16 := Nat.mod_lt _ (by decide)
  have hd : a / 16 < 64 := by omega
  rw [e]
  generalize a % 16 = i at hm
  generalize a / 16 = j at hd
  have mem : i ∈ List.range 16 := List.mem_range.mpr hm
  match j, hd with
  | 0, _ => exact List.all_eq_true.mp chk0 i mem
  | 1, _ => exact List.all_eq_true.mp chk1 i mem
  | 2, _ => exact List.all_eq_true.mp chk2 i mem
  | 3, _ => exact List.all_eq_true.mp chk3 i mem
  | 4, _ => exact List.all_eq_true.mp chk4 i mem
  | 5, _ => exact List.all_eq_true.mp chk5 i mem
  | 6, _ => exact List.all_eq_true.mp chk6 i mem
  | 7, _ => exact List.all_eq_true.mp chk7 i mem
  | 8, _ => exact List.all_eq_true.mp chk8 i mem
  | 9, _ => exact List.all_eq_true.mp chk9 i mem
  | 10, _ => exact List.all_eq_true.mp chk10 i mem
  | 11, _ => exact List.all_eq_true.mp chk11 i mem
  | 12, _ => exact List.all_eq_true.mp chk12 i mem
  | 13, _ => exact List.all_eq_true.mp chk13 i mem
  | 14, _ => exact List.all_eq_true.mp chk14 i mem
  | 15, _ => exact List.all_eq_true.mp chk15 i mem
  | 16, _ => exact List.all_eq_true.mp chk16 i mem
  | 17, _ => exact List.all_eq_true.mp chk17 i mem
  | 18, _ => exact List.all_eq_true.mp chk18 i mem
  | 19, _ => exact List.all_eq_true.mp chk19 i mem
  | 20, _ => exact List.all_eq_true.mp chk20 i mem
  | 21, _ => exact List.all_eq_true.mp chk21 i mem
  | 22, _ => exact List.all_eq_true.mp chk22 i mem
  | 23, _ => exact List.all_eq_true.mp chk23 i mem
  | 24, _ => exact List.all_eq_true.mp chk24 i mem
  | 25, _ => exact List.all_eq_true.mp chk25 i mem
  | 26, _ => exact List.all_eq_true.mp chk26 i mem
  | 27, _ => exact List.all_eq_true.mp chk27 i mem
  | 28, _ => exact List.all_eq_true.mp chk28 i mem
  | 29, _ => exact List.all_eq_true.mp chk29 i mem
  | 30, _ => exact List.all_eq_true.mp chk30 i mem
  | 31, _ => exact List.all_eq_true.mp chk31 i mem
  | 32, _ => exact List.all_eq_true.mp chk32 i mem
  | 33, _ => exact List.all_eq_true.mp chk33 i mem
  | 34, _ => exact List.all_eq_true.mp chk34 i mem
  | 35, _ => exact List.all_eq_true.mp chk35 i mem
  | 36, _ => exact List.all_eq_true.mp chk36 i mem
  | 37, _ => exact List.all_eq_true.mp chk37 i mem
  | 38, _ => exact List.all_eq_true.mp chk38 i mem
  | 39, _ => exact List.all_eq_true.mp chk39 i mem
  | 40, _ => exact List.all_eq_true.mp chk40 i mem
  | 41, _ => exact List.all_eq_true.mp chk41 i mem
  | 42, _ => exact List.all_eq_true.mp chk42 i mem
  | 43, _ => exact List.all_eq_true.mp chk43 i mem
  | 44, _ => exact List.all_eq_true.mp chk44 i mem
  | 45, _ => exact List.all_eq_true.mp chk45 i mem
  | 46, _ => exact List.all_eq_true.mp chk46 i mem
  | 47, _ => exact List.all_eq_true.mp chk47 i mem
  | 48, _ => exact List.all_eq_true.mp chk48 i mem
  | 49, _ => exact List.all_eq_true.mp chk49 i mem
  | 50, _ => exact List.all_eq_true.mp chk50 i mem
  | 51, _ => exact List.all_eq_true.mp chk51 i mem
  | 52, _ => exact List.all_eq_true.mp chk52 i mem
  | 53, _ => exact List.all_eq_true.mp chk53 i mem
  | 54, _ => exact List.all_eq_true.mp chk54 i mem
  | 55, _ => exact List.all_eq_true.mp chk55 i mem
  | 56, _ => exact List.all_eq_true.mp chk56 i mem
  | 57, _ => exact List.all_eq_true.mp chk57 i mem
  | 58, _ => exact List.all_eq_true.mp chk58 i mem
  | 59, _ => exact List.all_eq_true.mp chk59 i mem
  | 60, _ => exact List.all_eq_true.mp chk60 i mem
  | 61, _ => exact List.all_eq_true.mp chk61 i mem
  | 62, _ => exact List.all_eq_true.mp chk62 i mem
  | 63, _ => exact List.all_eq_true.mp chk63 i mem
  | k + 64, h => exact absurd h (by omega)
theorem lawF (a : Nat) (ha : a < 1024) : LawF a := lawF_of (chk_all a ha)
end Mine

namespace Mine
theorem law_walk' {w : World} {g : Heap} (G : GW w g) (C41 : CodeHd g 41 37) (C34 : CodeHd g 34 30) (g30 : g.get? 30 = none) (g37 : g.get? 37 = none) {oc : Value} {od : Option Addr} {osl : Array (Option Value)} {fd : FuncData} {body : List Stmt}
    (h : (hd.heap_39 w.params).lookup 67 = some ⟨oc, od, .func fd, osl⟩) (hb : fd.body = .stmts body) : LawBody w g fd.scope body := by
  obtain ⟨oc', od', osl', fd', body', hl, hb', LB⟩ := law_walk G C41 C34 g30 g37
  rw [hl] at h
  cases h
  rw [hb'] at hb
  cases hb
  exact LB
theorem ints_at : ∀ {vs : List Value} {xs : List Int}, IntsAre vs xs → vs.length = xs.length ∧ ∀ (i : Nat) (v : Value), vs[i]? = some v → ∃ t, v = Value.int (xs.getD i 0) t
  | _, _, .nil => ⟨rfl, fun i v e => by simp at e⟩
  | _, _, .cons n t h => by
    obtain ⟨h1, h2⟩ := ints_at h
    refine ⟨by simp [h1], fun i v e => ?_⟩
    cases i with
    | zero => simp at e; subst e; exact ⟨t, by simp⟩
    | succ i => simpa using h2 i v (by simpa using e)
/-- the frame of law -/
theorem law_frame {g h₁ : Heap} {L fa : Addr} {cd : Value} {m : Str → Option Value} {nm : Str} {sc : Scope} {l : Addr} {X : Addr → Prop} (F : Fr g L h₁ m) (hk : sc.kind = .function) (hm : ∀ x, x ≠ Str.ofString "script" → sc.names.lookup x = some .local → m x = none ∨ True) (hms : m (Str.ofString "script") = some (.ref l)) (hsl : sc.names.lookup (Str.ofString "script") = some .local)
    (hc : ∀ x, (x, NameKind.cell) ∈ sc.names → ∃ c v, (cellsFrom (L + 1) sc.names []).lookup x = some c ∧ h₁.IsCell c v) (hfree : ∀ p ∈ sc.names, p.2 ≠ .free) (hX : XIn X h₁) :
    FR g g X sc (envOfC nm sc L fa cd) (none0.put (Str.ofString "script") (.raw (.ref l))) h₁ := by
  have inj : InjL (cellsFrom (L + 1) sc.names []) ∧ ∀ x c, (cellsFrom (L + 1) sc.names []).lookup x = some c → L + 1 ≤ c := by
    have hz : ∃ H : Heap, H.objs.size = L + 1 := ⟨⟨Array.replicate (L + 1) default, default⟩, by simp⟩
    obtain ⟨H, hH⟩ := hz
    obtain ⟨i1, i2, _⟩ := cellsFrom_spec sc.names H [] (fun x y c e => by cases e) (fun x c e => by cases e)
    rw [hH] at i1 i2
    refine ⟨i1, fun x c e => ?_⟩
    rcases i2 x c e with ⟨q, _⟩ | ⟨q, _⟩
    · cases q
    · exact q
  have fresh : ∀ b, L ≤ b → g.get? b = none := fun b hb => Heap.get?_none_of_le (Nat.le_trans F.above hb)
  refine ⟨rfl, HK.refl _, F.keep, ?_, ?_, hX⟩
  · rintro b (rfl | ⟨x, _, _, hc'⟩)
    · exact fresh _ (Nat.le_refl _)
    · exact fresh _ (Nat.le_trans (Nat.le_succ _) (inj.2 x b hc'))
  · have hcell : ∀ x, ∃ v, (x, NameKind.cell) ∈ sc.names → ∃ c, (cellsFrom (L + 1) sc.names []).lookup x = some c ∧ h₁.IsCell c v := fun x => by
      by_cases h : (x, NameKind.cell) ∈ sc.names
      · obtain ⟨c, v, h1, h2⟩ := hc x h; exact ⟨v, fun _ => ⟨c, h1, h2⟩⟩
      · exact ⟨none, fun q => absurd q h⟩
    obtain ⟨cv, hcv⟩ := Classical.axiomOfChoice hcell
    refine ⟨fun x => if sc.names.lookup x = some .local then m x else cv x, ⟨hk, rfl, rfl, ⟨m, F.ns, fun x hx => (if_pos hx).symm⟩, fun x hx => ?_, inj.1⟩, fun x r e => ?_⟩
    · have hx' : sc.names.lookup x = some .cell := by
        rcases hx with hx | hx
        · exact hx
        · exact absurd rfl (hfree _ (mem_of_lookup (show sc.names.lookup x = some .free from hx)))
      obtain ⟨c, h1, h2⟩ := hcv x (mem_of_lookup hx')
      refine ⟨c, h1, ?_⟩
      rw [if_neg (by rw [hx']; exact fun q => by cases q)]
      exact h2
    · rcases put_some e with ⟨rfl, rfl⟩ | ⟨_, e⟩
      · exact ⟨_, (if_pos hsl).trans hms, rfl⟩
      · cases e
end Mine

namespace Mine
set_option maxHeartbeats 8000000 in
theorem cw : PySem.Challenge.rw_ie0007_01.Holds := hd (by
  k_go0
  all_goals try k_fold
  rename_i w s₀ s₁ mg mb GG Y fa o pm cd doc ho hcd hgens MX V T B TE TW xs hs hlay0 hL1 hr1 hl2 w7 w6 l vs w3 hL2 ra w1 r0 hI hr hc1 hc2 hD h₁ tk₁ o3 o2 o1 e3 e2 e1 X0 KX TT BB FF C41 NN l0
  have G : GW w (ghostOf s₁.heap [(41, 37), (34, 30)]) := ⟨KX, ⟨mg, mb, TT.g, TT.b, TT.builtins, TT.bmain⟩, TT.nolimit⟩
  have N37 := NN (37, tabObj #[]) (by simp [tabNews])
  have N30 := NN (30, tabObj #[]) (by simp [tabNews])
  have NL1 := NN (s₁.heap.objs.size + 1, o1) (by simp)
  have NL2 := NN (s₁.heap.objs.size + 1 + 1, o2) (by simp)
  have NL3 := NN (s₁.heap.objs.size + 1 + 1 + 1, o3) (by simp)
  obtain ⟨hlen, hval⟩ := ints_at hI
  have LB := law_walk' G C41 codeHd N30.2.2 N37.2.2 (by rfl) (by rfl)
  have h0 : 0 ≤ (if xs.sum < 0 then -xs.sum else xs.sum) := by split <;> omega
  have hnum : (if xs.sum < 0 then -xs.sum else xs.sum).fmod 1024 = (((if xs.sum < 0 then -xs.sum else xs.sum).fmod 1024).toNat : Int) := by
    rw [Int.fmod_eq_emod_of_nonneg _ (by decide)]; omega
  have ha : ((if xs.sum < 0 then -xs.sum else xs.sum).fmod 1024).toNat < 1024 := by
    rw [Int.fmod_eq_emod_of_nonneg _ (by decide)]; omega
  refine LB ((if xs.sum < 0 then -xs.sum else xs.sum).fmod 1024).toNat _ _ _ (fun b => b = 30 ∨ b = 37) l vs.toArray xs _ _ ha (lawF _ ha) ?_ (.inl rfl) (.inr rfl) ?_ lifted (by simpa using hlen) (fun i v e => hval i v (by simpa using e)) hnum N30.1 N37.1 (fun h' tk k g30 g37 => ?_)
  · exact ⟨rfl, by show 1 + claimMargin + 1 + 100 < recursionLimit; decide, by show 4 + 3 + 3 * 100 + 100 ≤ cLine; decide⟩
  · refine law_frame FF (by rfl) (fun _ _ _ => .inr trivial) (by rfl) (by rfl) (fun x hx => ?_) (by decide) (fun b hb => ?_)
    · have hx' : x ∈ ownC _ := List.mem_map.mpr ⟨(x, .cell), List.mem_filter.mpr ⟨hx, rfl⟩, rfl⟩
      have e : ∀ x, x ∈ [Str.ofString "figures", Str.ofString "ties", Str.ofString "rows"] → x = Str.ofString "figures" ∨ x = Str.ofString "ties" ∨ x = Str.ofString "rows" := fun x h => by simpa using h
      rcases e x hx' with rfl | rfl | rfl
      · exact ⟨s₁.heap.objs.size + 1, _, by rfl, ⟨o1, NL1.1, e1⟩⟩
      · exact ⟨s₁.heap.objs.size + 1 + 1, _, by rfl, ⟨o2, NL2.1, e2⟩⟩
      · exact ⟨s₁.heap.objs.size + 1 + 1 + 1, _, by rfl, ⟨o3, NL3.1, e3⟩⟩
    · rcases hb with rfl | rfl
      · exact ⟨_, N30.1⟩
      · exact ⟨_, N37.1⟩
  · refine ⟨⟨.inl ⟨.bool true, .bool true, [], rfl, fun _ => rfl, ReadsW.bool _, ?_, fun _ => ⟨List.nodup_nil, fun a q => (by cases q)⟩⟩, k, rfl, hgens⟩, g37, g30, trivial⟩
    wrow_post)
end Mine
set_option maxHeartbeats 8000000 in
theorem PySem.Challenge.cw_ie0007_01_holds : PySem.Challenge.rw_ie0007_01.Holds :=
  Mine.cw
