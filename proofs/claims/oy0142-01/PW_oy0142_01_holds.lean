import PyProof.Rows.All
import Wide.All
import OpenK.AllK
import Wide.FinOn
import PySem.Challenge.RW_oy0142_01
section
open PySem PySem.W PyProof.Rows
set_option Elab.async false
set_option maxRecDepth 100000
set_option maxHeartbeats 8000000
namespace Mine
/-- the text without the rows that no part of the head pins -/
def view : Program := { PySem.Challenge.pw_oy0142_01 with main := { PySem.Challenge.pw_oy0142_01.main with body := (PySem.Challenge.pw_oy0142_01.main.body.zipIdx.filter fun p => !([0, 3, 5, 6, 29] : List Nat).contains p.2).map (·.1) } }
def looseL : List Str := [Str.ofString "_initial_missing", Str.ofString "reduce", Str.ofString "_filemode_table"]
/-- the top's run, over a runner R and a table T -/
noncomputable def topQ (R : (String → Option Builtin) → Program → World → Nat → Option Value → Nat → Shared → Thread → Option Shared) (T : String → Option Builtin) (p : Program) (w : World) (N : Nat) (s₀ : Shared) : Option Shared :=
  match s₀.heap.isNs mainGlobals && s₀.gens.size == 0 with
  | true => (R T p w s₀.heap.objs.size (s₀.heap.nsMap mainGlobals "__annotations__") N s₀ (topStub p)).bind fun s₁ => match staticsOk (importedModules p.main.body) s₀.heap s₁.heap && namesBound p s₁.heap && gensDone s₁ && laidKept s₀.heap s₁.heap with
      | true => some s₁
      | false => none
  | false => none
/-- the top's run from the library's booted heap, by any three that are the library's own (its quick twins) -/
theorem leftO_boot {R : (String → Option Builtin) → Program → World → Nat → Option Value → Nat → Shared → Thread → Option Shared} (hR : topRun = R) {T : String → Option Builtin} (hT : treeTable = T) {S} (hS : openSeen = S)
    {p q : Program} {loose : List Str} {Xt : Shared → Bool} {α : Type} {Yf : Shared → α} {Ya : World → α} {N : Nat} {g0 : Bool}
    (e : opening p = plainProg p.main.scope.names) (hN : Nat.ble 600 N = true) (f : ∀ s, fenceModules? p s = some s)
    (h : ∀ (w : World) (os : OsState), (topQ R T p w N ⟨boot_heap w.params, Array.mk [], boot_drawn, boot_toks, os⟩).map (fun s => (S q loose (importedModules p.main.body) Xt g0 s, Yf s)) = some (openGood q loose, Ya w)) : LeftO p q loose Xt Yf Ya N g0 := fun w => by
  subst hR hT hS
  obtain ⟨⟨hp, gs, d, k, os⟩, h1, h2⟩ := Option.map_eq_some_iff.mp (boot_open e hN f w)
  cases h2
  unfold openEnds
  rw [h1]
  exact h w os
local macro_rules | `(tactic| o_law) => `(tactic| refine holds_law (by
  first
  | (rw [PySem.W.Fast.te9446332074065402090]
     delta PySem.W.Fast.tw9446332074065402090
     delta PySem.W.Fast.tw17960256430627541270
     delta PySem.W.Fast.tw2436336058641802641
     delta PySem.W.Fast.tw12908688711261696721)
  | delta OpenLaw.wellSaid OpenRow.wellSaid OpenRow.partSaid looksOpen
  repeat' (with_reducible refine look_both ?_ ?_)
  all_goals decide +kernel) fun said => ?_)
local macro_rules | `(tactic| o_head $H) => do
  let hl := Lean.mkIdent `hl
  let hw := Lean.mkIdent `hw
  let hc := Lean.mkIdent `hc
  `(tactic| (refine holds_open (q := Mine.view) (loose := Mine.looseL) (Xt := fun s => xlAt Mine.view [] s && recOk [] s) (XP := XL Mine.view []) (Yf := Hook.obs $H) (Ya := Hook.val $H) (YP := Hook.says $H) (N := 2498) ?$hl (Hook.of $H) (Hook.keeps $H) (fun s e => xl_of s (Bool.and_eq_true_iff.mp e).1) XL.keeps (by rfl) (by rfl) (by rfl) (fun s e => recFacts_of (Bool.and_eq_true_iff.mp e).2) (by rfl) (by first | assumption | decide +kernel) (by decide +kernel) ⟨rfl, rfl, rfl, rfl, rfl, by decide +kernel⟩ ?$hw ?$hc; first | exact Mine.leftO_boot PySem.W.Fast.te14082659384304107361 PySem.W.Fast.te14364793385576792824 PySem.W.Fast.te4187177175401517315 (by kernel_rfl) (by rfl) (fun s => by kernel_rfl) fun w os => by kernel_rfl | exact Mine.leftO_boot rfl rfl rfl (by kernel_rfl) (by rfl) (fun s => by kernel_rfl) fun w os => by kernel_rfl))
open_top hd for PySem.Challenge.rw_oy0142_01
end Mine
end

section
open PySem PySem.W PyProof.Rows
set_option Elab.async false
set_option maxRecDepth 100000
namespace Mine

/-- pure data -/
inductive D where
  | none
  | bool (b : Bool)
  | int (i : Int)
  | str (s : Str)
  | list (xs : List D)
  | tuple (xs : List D)
  | rule (f : Str) (b : Bool)
  | ent (id : Nat) (ag ru : List D) (de : D)
  | fn (a : Addr)
  | own (xs : List D)

noncomputable def big : Nat := 1048576
/-- a short text of ascii signs -/
noncomputable def AscOk (s : Str) : Prop := s.length ≤ big ∧ ∀ c ∈ s.cps.toList, c < 128

/-- what stands (frozen objects), where the records lie, how many there are -/
structure Wd where
  P : Addr → Option Obj
  η : Nat → Addr
  k : Nat

noncomputable abbrev listO (vs : List Value) (n : Nat) : Obj := { cls := .type "list", data := .seq vs.toArray n }
noncomputable abbrev tupleO (vs : List Value) (n : Nat) : Obj := { cls := .type "tuple", data := .seq vs.toArray n }
noncomputable abbrev entCls : Addr := 52
noncomputable abbrev TB : Addr := 128

noncomputable def p0 : Params := { strHash := fun _ => 0, shareClass := fun _ => 0, mergeTok := fun t => t, idOf := fun _ => 0, idOfShared := fun _ _ => 0, followText := fun _ => false, idOfImm := fun _ => 0 }
/-- the data of the text's function at an address of the top -/
noncomputable def fdAt (a : Addr) : FuncData := match (hd.heap_39 p0).lookup a with
  | some o => (match o.data with | .func f => f | _ => default)
  | none => default
noncomputable def bodyOf (f : FuncData) : List Stmt := match f.body with | .stmts b => b | .expr _ => []

/-- the two lambdas of _law_rule -/
noncomputable def lamOf : Stmt → Option (Arguments × Expr × Scope × Pos)
  | .Assign _ (.Lambda a e sc p) _ => some (a, e, sc, p)
  | _ => none
noncomputable def lam (i : Nat) : Arguments × Expr × Scope × Pos := (((bodyOf (fdAt 133))[i]?).bind lamOf).getD ⟨default, default, default, default⟩
noncomputable abbrev lamQ : Str := Str.ofString "_law_rule.<locals>.<lambda>"
noncomputable def lamFd (i : Nat) (c : Addr) (cd ct : Value) : FuncData :=
  kla_fn (Str.ofString "<lambda>") lamQ (lam i).1 (lam i).2.1 (lam i).2.2.1 [(Str.ofString "front", c)] (.str (Str.ofString "law_oy0142_01") 360) cd ct

noncomputable def NsIn (P : Addr → Option Obj) (a : Addr) (m : Str → Option Value) : Prop :=
  ∃ es ep, P a = some { cls := .type "dict", data := .dict es ep } ∧ StrKeys es ∧ ∀ name, nsFind es name = m name
noncomputable def CodeIn (P : Addr → Option Obj) (cd : Value) (q : Str) : Prop := ∃ c o vs t, cd = .ref c ∧ P c = some o ∧ o.data = .fields vs ∧ vs[1]? = some (.str q t)

noncomputable def entMap (va vr vd : Value) : Str → Option Value := fun x =>
  if x = Str.ofString "useragents" then some va else if x = Str.ofString "rulelines" then some vr
  else if x = Str.ofString "delay" then some vd else if x = Str.ofString "req_rate" then some .none else none
noncomputable def EntAt (P : Addr → Option Obj) (a : Addr) (va vr vd : Value) : Prop :=
  ∃ d, P a = some { cls := .ref entCls, dict := some d } ∧ NsIn P d (entMap va vr vd) ∧ a ≠ d
noncomputable def ruleMap (g : Addr) (b : Bool) : Str → Option Value := fun x =>
  if x = Str.ofString "applies_to" then some (.ref g) else if x = Str.ofString "allowance" then some (.bool b) else none
noncomputable def RuleAt (P : Addr → Option Obj) (a : Addr) (f : Str) (b : Bool) : Prop :=
  ∃ d g c t cd1 cd2 ct1 ct2, P a = some { cls := .type "function", dict := some d, data := .func (lamFd 0 c cd1 ct1) } ∧
    P g = some { cls := .type "function", data := .func (lamFd 1 c cd2 ct2) } ∧ NsIn P d (ruleMap g b) ∧
    (∃ oc, P c = some oc ∧ oc.data = .cell (some (.str f t))) ∧ CodeIn P cd1 lamQ ∧ CodeIn P cd2 lamQ

mutual
inductive Rep (W : Wd) : Value → D → Prop
  | none : Rep W .none .none
  | bool (b) : Rep W (.bool b) (.bool b)
  | int (i t) : Rep W (.int i t) (.int i)
  | str {s} (t) : AscOk s → Rep W (.str s t) (.str s)
  | list {a vs n xs} : W.P a = some (listO vs n) → vs.length ≤ big → RepL W vs xs → Rep W (.ref a) (.list xs)
  | tuple {a vs n xs} : W.P a = some (tupleO vs n) → vs.length ≤ big → RepL W vs xs → Rep W (.ref a) (.tuple xs)
  | rule {a f b} : RuleAt W.P a f b → AscOk f → Rep W (.ref a) (.rule f b)
  | ent {id va vr vd ag ru de} : id < W.k → EntAt W.P (W.η id) va vr vd → Rep W va (.list ag) → Rep W vr (.list ru) → Rep W vd de → Rep W (.ref (W.η id)) (.ent id ag ru de)
  | fn (a) : Rep W (.ref a) (.fn a)
inductive RepL (W : Wd) : List Value → List D → Prop
  | nil : RepL W [] []
  | cons {v vs d ds} : Rep W v d → RepL W vs ds → RepL W (v :: vs) (d :: ds)
end

/-- one world grows into another, over a heap: what is newly frozen did not live there -/
structure Wle (W W' : Wd) (h : Heap) : Prop where
  sub : ∀ a o, W.P a = some o → W'.P a = some o
  new : ∀ a o, W'.P a = some o → W.P a = some o ∨ h.get? a = none
  eta : ∀ i, i < W.k → W'.η i = W.η i
  k : W.k ≤ W'.k

theorem Wle.refl (W : Wd) (h : Heap) : Wle W W h := ⟨fun _ _ e => e, fun _ _ e => .inl e, fun _ _ => rfl, Nat.le_refl _⟩
theorem Wle.trans {W W' W'' : Wd} {h h' : Heap} (x : Wle W W' h) (y : Wle W' W'' h') (hh : ∀ a, h'.get? a = none → h.get? a = none) : Wle W W'' h :=
  ⟨fun a o e => y.sub a o (x.sub a o e), fun a o e => (y.new a o e).elim (x.new a o) fun q => .inr (hh a q),
    fun i hi => (y.eta i (Nat.lt_of_lt_of_le hi x.k)).trans (x.eta i hi), Nat.le_trans x.k y.k⟩

theorem NsIn.mono {P P' : Addr → Option Obj} {a m} (x : NsIn P a m) (h : ∀ a o, P a = some o → P' a = some o) : NsIn P' a m :=
  let ⟨es, ep, e, r⟩ := x; ⟨es, ep, h _ _ e, r⟩
theorem CodeIn.mono {P P' : Addr → Option Obj} {a m} (x : CodeIn P a m) (h : ∀ a o, P a = some o → P' a = some o) : CodeIn P' a m :=
  let ⟨c, o, vs, t, e, e2, r⟩ := x; ⟨c, o, vs, t, e, h _ _ e2, r⟩
theorem EntAt.mono {P P' : Addr → Option Obj} {a va vr vd} (x : EntAt P a va vr vd) (h : ∀ a o, P a = some o → P' a = some o) : EntAt P' a va vr vd :=
  let ⟨d, e, n, r⟩ := x; ⟨d, h _ _ e, n.mono h, r⟩
theorem RuleAt.mono {P P' : Addr → Option Obj} {a f b} (x : RuleAt P a f b) (h : ∀ a o, P a = some o → P' a = some o) : RuleAt P' a f b :=
  let ⟨d, g, c, t, cd1, cd2, ct1, ct2, e1, e2, e3, e4, e5, e6⟩ := x
  ⟨d, g, c, t, cd1, cd2, ct1, ct2, h _ _ e1, h _ _ e2, e3.mono h, (let ⟨oc, q1, q2⟩ := e4; ⟨oc, h _ _ q1, q2⟩), e5.mono h, e6.mono h⟩

mutual
theorem Rep.mono {W W' : Wd} {h : Heap} (le : Wle W W' h) : ∀ {v : Value} {d : D}, Rep W v d → Rep W' v d
  | _, _, .none => .none
  | _, _, .bool b => .bool b
  | _, _, .int i t => .int i t
  | _, _, .str t h => .str t h
  | _, _, .list h1 h2 h3 => .list (le.sub _ _ h1) h2 (h3.mono le)
  | _, _, .tuple h1 h2 h3 => .tuple (le.sub _ _ h1) h2 (h3.mono le)
  | _, _, .rule h1 h2 => .rule (h1.mono le.sub) h2
  | _, _, .ent h1 h2 h3 h4 h5 => by
      rw [← le.eta _ h1]
      exact .ent (Nat.lt_of_lt_of_le h1 le.k) (by rw [le.eta _ h1]; exact h2.mono le.sub) (h3.mono le) (h4.mono le) (h5.mono le)
  | _, _, .fn a => .fn a
theorem RepL.mono {W W' : Wd} {h : Heap} (le : Wle W W' h) : ∀ {vs : List Value} {ds : List D}, RepL W vs ds → RepL W' vs ds
  | _, _, .nil => .nil
  | _, _, .cons h t => .cons (h.mono le) (t.mono le)
end

theorem RepL.length {W : Wd} : ∀ {vs : List Value} {ds : List D}, RepL W vs ds → vs.length = ds.length
  | _, _, .nil => rfl
  | _, _, .cons _ t => by simp [t.length]
theorem RepL.append {W : Wd} : ∀ {vs ws : List Value} {ds es : List D}, RepL W vs ds → RepL W ws es → RepL W (vs ++ ws) (ds ++ es)
  | _, _, _, _, .nil, h => h
  | _, _, _, _, .cons a t, h => .cons a (t.append h)
theorem RepL.get {W : Wd} : ∀ {vs : List Value} {ds : List D}, RepL W vs ds → ∀ (i : Nat) (d : D), ds[i]? = some d → ∃ v, vs[i]? = some v ∧ Rep W v d
  | _, _, .nil, i, d, h => by simp at h
  | _, _, .cons a t, 0, d, h => by simp at h; subst h; exact ⟨_, by simp, a⟩
  | _, _, .cons a t, i + 1, d, h => by simpa using t.get i d (by simpa using h)
theorem RepL.get' {W : Wd} : ∀ {vs : List Value} {ds : List D}, RepL W vs ds → ∀ (i : Nat) (v : Value), vs[i]? = some v → ∃ d, ds[i]? = some d ∧ Rep W v d
  | _, _, .nil, i, d, h => by simp at h
  | _, _, .cons a t, 0, d, h => by simp at h; subst h; exact ⟨_, by simp, a⟩
  | _, _, .cons a t, i + 1, d, h => by simpa using t.get' i d (by simpa using h)
theorem RepL.take {W : Wd} : ∀ {vs : List Value} {ds : List D}, RepL W vs ds → ∀ n, RepL W (vs.take n) (ds.take n)
  | _, _, .nil, n => by simpa using RepL.nil
  | _, _, .cons a t, 0 => .nil
  | _, _, .cons a t, n + 1 => .cons a (t.take n)
theorem RepL.drop {W : Wd} : ∀ {vs : List Value} {ds : List D}, RepL W vs ds → ∀ n, RepL W (vs.drop n) (ds.drop n)
  | _, _, .nil, n => by simpa using RepL.nil
  | _, _, .cons a t, 0 => .cons a t
  | _, _, .cons a t, n + 1 => by simpa using t.drop n
theorem RepL.reverse {W : Wd} : ∀ {vs : List Value} {ds : List D}, RepL W vs ds → RepL W vs.reverse ds.reverse
  | _, _, .nil => .nil
  | _, _, .cons a t => by simpa using t.reverse.append (.cons a .nil)

/-- the table of _law_rule's nested codes: empty, or both lambdas are in it -/
noncomputable def lamPos (i : Nat) : Pos := (lam i).2.2.2
noncomputable def TabGood (P : Addr → Option Obj) (ps : Array Value) : Prop :=
  ps = #[] ∨ (∃ c1, ps = #[rawInt (lamPos 0).line, rawInt (lamPos 0).col, .ref c1] ∧ CodeIn P (.ref c1) lamQ) ∨ ∃ c1 c2, ps = #[rawInt (lamPos 0).line, rawInt (lamPos 0).col, .ref c1, rawInt (lamPos 1).line, rawInt (lamPos 1).col, .ref c2] ∧ CodeIn P (.ref c1) lamQ ∧ CodeIn P (.ref c2) lamQ
theorem TabGood.mono {P P' : Addr → Option Obj} {ps} (x : TabGood P ps) (h : ∀ a o, P a = some o → P' a = some o) : TabGood P' ps := by
  rcases x with x | ⟨c1, e, r1⟩ | ⟨c1, c2, e, r1, r2⟩
  · exact .inl x
  · exact .inr (.inl ⟨c1, e, r1.mono h⟩)
  · exact .inr (.inr ⟨c1, c2, e, r1.mono h, r2.mono h⟩)

/-- what the walk keeps between all its steps -/
structure Inv (G : Heap) (W : Wd) (s : Shared) : Prop where
  sub : ∀ a o, W.P a = some o → s.heap.get? a = some o
  ground : ∀ a o, G.get? a = some o → W.P a = some o
  tab : ∃ ps, s.heap.get? TB = some (tabObj ps) ∧ TabGood W.P ps
  tabP : W.P TB = none
  inj : ∀ i j, i < W.k → j < W.k → W.η i = W.η j → i = j
  ent : ∀ i, i < W.k → ∃ o, W.P (W.η i) = some o

structure Ext (G : Heap) (W : Wd) (s : Shared) (W' : Wd) (s' : Shared) : Prop where
  same : ∃ h' tk, s' = { s with heap := h', toks := tk }
  keep : ∀ b o, b ≠ TB → s.heap.get? b = some o → s'.heap.get? b = some o
  le : Wle W W' s.heap
  inv : Inv G W' s'

theorem Ext.refl {G : Heap} {W : Wd} {s : Shared} (i : Inv G W s) : Ext G W s W s := ⟨⟨_, _, rfl⟩, fun _ _ _ e => e, .refl .., i⟩
theorem Ext.dead {G : Heap} {W W' : Wd} {s s' : Shared} (x : Ext G W s W' s') {a : Addr} (h : s'.heap.get? a = none) : s.heap.get? a = none := by
  cases e : s.heap.get? a with
  | none => rfl
  | some o =>
    by_cases q : a = TB
    · obtain ⟨ps, h1, _⟩ := x.inv.tab
      rw [q] at h; rw [h] at h1; cases h1
    · rw [x.keep a o q e] at h; cases h
theorem Ext.trans {G : Heap} {W W' W'' : Wd} {s s' s'' : Shared} (x : Ext G W s W' s') (y : Ext G W' s' W'' s'') : Ext G W s W'' s'' := by
  have hh := fun a h => x.dead (a := a) h
  obtain ⟨h1, t1, rfl⟩ := x.same
  obtain ⟨h2, t2, rfl⟩ := y.same
  exact ⟨⟨_, _, rfl⟩, fun b o hb e => y.keep b o hb (x.keep b o hb e), x.le.trans y.le hh, y.inv⟩

/-- a heap changed at X alone -/
theorem Inv.change {G : Heap} {W : Wd} {s : Shared} {h' : Heap} {tk : Nat} (X : List Addr) (i : Inv G W s) (hk : ∀ b o, b ∉ X → s.heap.get? b = some o → h'.get? b = some o) (hX : ∀ b ∈ X, W.P b = none) (hT : TB ∉ X) : Inv G W { s with heap := h', toks := tk } where
  sub := fun a o e => hk a o (fun q => by rw [hX a q] at e; cases e) (i.sub a o e)
  ground := i.ground
  tab := let ⟨ps, h1, h2⟩ := i.tab; ⟨ps, hk _ _ hT h1, h2⟩
  tabP := i.tabP
  inj := i.inj
  ent := i.ent
theorem Inv.keeps {G : Heap} {W : Wd} {s : Shared} {h' : Heap} {tk : Nat} (i : Inv G W s) (hk : ∀ b o, s.heap.get? b = some o → h'.get? b = some o) : Inv G W { s with heap := h', toks := tk } :=
  i.change [] (fun b o _ e => hk b o e) (fun _ h => nomatch h) (fun h => nomatch h)
theorem Ext.keeps {G : Heap} {W : Wd} {s : Shared} {h' : Heap} {tk : Nat} (i : Inv G W s) (hk : ∀ b o, s.heap.get? b = some o → h'.get? b = some o) : Ext G W s W { s with heap := h', toks := tk } :=
  ⟨⟨_, _, rfl⟩, fun b o _ e => hk b o e, .refl .., i.keeps hk⟩
theorem Ext.toks {G : Heap} {W : Wd} {s : Shared} (i : Inv G W s) (tk : Nat) : Ext G W s W { s with toks := tk } := Ext.keeps i (fun _ _ e => e)
theorem Ext.push {G : Heap} {W : Wd} {s : Shared} (i : Inv G W s) (o : Obj) (tk : Nat) : Ext G W s W { s with heap := s.heap.push o, toks := tk } :=
  Ext.keeps i (fun _ _ e => Heap.get?_push_of_some _ e)

/-- a live object, frozen -/
noncomputable def Wd.put (W : Wd) (a : Addr) (o : Obj) : Wd := { W with P := fun b => if b = a then some o else W.P b }
theorem Wle.put {W : Wd} {a : Addr} {o : Obj} {h : Heap} (hp : W.P a = none) (hn : h.get? a = none) : Wle W (W.put a o) h where
  sub := fun b o' e => by
    show (if b = a then some o else W.P b) = _
    rw [if_neg (fun q => by rw [q, hp] at e; cases e)]; exact e
  new := fun b o' e => by
    by_cases q : b = a
    · exact .inr (q ▸ hn)
    · have : (if b = a then some o else W.P b) = some o' := e
      rw [if_neg q] at this; exact .inl this
  eta := fun _ _ => rfl
  k := Nat.le_refl _
theorem Inv.none_of {G : Heap} {W : Wd} {s : Shared} (i : Inv G W s) {a : Addr} (h : s.heap.get? a = none) : W.P a = none := by
  cases e : W.P a with
  | none => rfl
  | some o => rw [i.sub a o e] at h; cases h
theorem Heap.new_none (h : Heap) : h.get? h.objs.size = none := by
  cases e : h.get? h.objs.size with
  | none => rfl
  | some o => exact absurd (Heap.lt_size e) (Nat.lt_irrefl _)
theorem Inv.put {G : Heap} {W : Wd} {s : Shared} (i : Inv G W s) {a : Addr} {o : Obj} (h : s.heap.get? a = some o) (hp : W.P a = none) (hT : a ≠ TB) : Inv G (W.put a o) s where
  sub := fun b o' e => by
    have : (if b = a then some o else W.P b) = some o' := e
    by_cases q : b = a
    · rw [if_pos q] at this; cases this; subst q; exact h
    · rw [if_neg q] at this; exact i.sub _ _ this
  ground := fun b o' e => by
    have e1 := i.ground b o' e
    show (if b = a then some o else W.P b) = _
    rw [if_neg (fun q => by rw [q, hp] at e1; cases e1)]; exact e1
  tab := let ⟨ps, h1, h2⟩ := i.tab; ⟨ps, h1, h2.mono fun b o' e => by
    show (if b = a then some o else W.P b) = _
    rw [if_neg (fun q => by rw [q, hp] at e; cases e)]; exact e⟩
  tabP := by
    show (if TB = a then some o else W.P TB) = none
    rw [if_neg (Ne.symm hT)]; exact i.tabP
  inj := i.inj
  ent := fun j hj => by
    obtain ⟨o', e⟩ := i.ent j hj
    refine ⟨o', ?_⟩
    show (if W.η j = a then some o else W.P (W.η j)) = _
    rw [if_neg (fun q => by rw [q, hp] at e; cases e)]; exact e
theorem Inv.size_ne_TB {G : Heap} {W : Wd} {s : Shared} (i : Inv G W s) : s.heap.objs.size ≠ TB := fun q => by
  obtain ⟨ps, h1, _⟩ := i.tab
  rw [← q, Heap.new_none] at h1; cases h1
theorem Ext.alloc {G : Heap} {W : Wd} {s : Shared} (i : Inv G W s) (o : Obj) (hf : o.isFreed = false) (tk : Nat) : Ext G W s (W.put s.heap.objs.size o) { s with heap := s.heap.push o, toks := tk } := by
  have le : Wle W (W.put s.heap.objs.size o) s.heap := .put (i.none_of (Heap.new_none _)) (Heap.new_none _)
  have x := Ext.push i o tk
  exact ⟨x.same, x.keep, le, x.inv.put (Heap.get?_push_size _ hf) (i.none_of (Heap.new_none _)) i.size_ne_TB⟩
theorem Wd.put_self (W : Wd) (a : Addr) (o : Obj) : (W.put a o).P a = some o := by simp [Wd.put]

/-- room above a call -/
noncomputable def FrOk (A : Around) : Prop := ∃ env l, A.frames = some (env :: l) ∧ env.scope.isGenerator = false ∧ env.scope.isCoroutine = false ∧ env.builtins = builtinsNs ∧ env.globals = mainGlobals
noncomputable def Room (A : Around) (n : Nat) : Prop := A.handled = none ∧ A.depth + n < 900 ∧ A.units + 8 * n + 400 < 9000 ∧ FrOk A
theorem Room.le {A : Around} {n m : Nat} (h : Room A n) (hm : m ≤ n) : Room A m := ⟨h.1, by have := h.2.1; omega, by have := h.2.2.1; omega, h.2.2.2⟩
theorem Room.deeper {A : Around} {n : Nat} (h : Room A (n + 1)) (env : Env) (h1 : env.scope.isGenerator = false) (h2 : env.scope.isCoroutine = false) (h3 : env.builtins = builtinsNs) (h4 : env.globals = mainGlobals) : Room (A.deeper env) n :=
  ⟨h.1, by have := h.2.1; show A.depth + 1 + n < 900; omega, by have := h.2.2.1; show A.units + 3 + 8 * n + 400 < 9000; omega, by
    obtain ⟨e, l, hf, _⟩ := h.2.2.2
    exact ⟨env, e :: l, by show A.frames.map (env :: ·) = _; rw [hf]; rfl, h1, h2, h3, h4⟩⟩
theorem Room.in1 {A : Around} {n : Nat} (h : Room A (n + 1)) : Room A.in1 n := ⟨h.1, by have := h.2.1; show A.depth + n < 900; omega, by have := h.2.2.1; show A.units + 1 + 8 * n + 400 < 9000; omega, h.2.2.2⟩
theorem Room.depth {A : Around} {n : Nat} (h : Room A n) : A.depth < recursionLimit := by have := h.2.1; show A.depth < 1000; omega
theorem Room.units {A : Around} {n : Nat} (h : Room A n) : A.units + 500 < cLine := by have := h.2.2.1; show A.units + 500 < 9900; omega

noncomputable abbrev Rho := Str → Option D
noncomputable def upd (ρ : Rho) (x : Str) (d : D) : Rho := fun y => if y = x then some d else ρ y

/-- a variable's value: frozen data, or a list that this frame alone holds and grows -/
noncomputable def RepV (W : Wd) (ow : List Addr) (s : Shared) (v : Value) : D → Prop
  | .own xs => ∃ a vs n, v = .ref a ∧ a ∈ ow ∧ s.heap.get? a = some (listO vs n) ∧ vs.length ≤ big ∧ RepL W vs xs
  | d => Rep W v d

structure EnvOk (env : Env) (ρ : Rho) (W : Wd) (ow : List Addr) (s : Shared) : Prop where
  kind : env.scope.kind = .function
  glob : env.globals = mainGlobals
  blt : env.builtins = builtinsNs
  ns : ∃ m, s.heap.Ns env.locals m ∧ ∀ x d, ρ x = some d → env.kindOf x = some .local → ∃ v, m x = some v ∧ RepV W ow s v d
  cell : ∀ x, (env.kindOf x = some .cell ∨ env.kindOf x = some .free) → ∃ c vo, env.cells.lookup x = some c ∧ s.heap.IsCell c vo ∧ ∀ d, ρ x = some d → ∃ v, vo = some v ∧ RepV W ow s v d
  apart : ∀ x y c, env.cells.lookup x = some c → env.cells.lookup y = some c → x = y
  cellP : ∀ x c, env.cells.lookup x = some c → W.P c = none ∧ ∃ vo, s.heap.IsCell c vo
  locP : W.P env.locals = none
  owP : ∀ a ∈ ow, W.P a = none ∧ ∃ vs n, s.heap.get? a = some (listO vs n)

theorem RepV.ext {W W' : Wd} {ow : List Addr} {s s' : Shared} {v : Value} {d : D} {h : Heap} (r : RepV W ow s v d) (le : Wle W W' h) (hk : ∀ a vs n, a ∈ ow → s.heap.get? a = some (listO vs n) → s'.heap.get? a = some (listO vs n)) : RepV W' ow s' v d := by
  cases d with
  | own xs =>
    obtain ⟨a, vs, n, e, ho, hl, hb, r⟩ := r
    exact ⟨a, vs, n, e, ho, hk a vs n ho hl, hb, r.mono le⟩
  | _ => exact Rep.mono le r

theorem not_tab_of_ne {h : Heap} {a : Addr} {o : Obj} {ps : Array Value} (e : h.get? a = some o) (t : h.get? TB = some (tabObj ps)) (hd : ∀ vs, o.data ≠ .fields vs) : a ≠ TB := fun q => by
  subst q; rw [e] at t; cases t; exact hd _ rfl
/-- the frame's own places -/
noncomputable def Own (env : Env) (ow : List Addr) (b : Addr) : Prop := b = env.locals ∨ (∃ x, env.cells.lookup x = some b) ∨ b ∈ ow
theorem EnvOk.own_live {env : Env} {ρ : Rho} {W : Wd} {ow : List Addr} {s : Shared} (x : EnvOk env ρ W ow s) {b : Addr} (h : Own env ow b) : ∃ o, s.heap.get? b = some o ∧ (∀ vs, o.data ≠ .fields vs) ∧ W.P b = none := by
  rcases h with rfl | ⟨y, hy⟩ | h
  · obtain ⟨m, ⟨o, es, ep, ho, hd, _⟩, _⟩ := x.ns
    exact ⟨o, ho, (by intro vs h; rw [hd] at h; cases h), x.locP⟩
  · obtain ⟨h1, vo, o, h2, h3⟩ := x.cellP y b hy
    exact ⟨o, h2, (by intro vs h; rw [h3] at h; cases h), h1⟩
  · obtain ⟨h1, vs, n, h2⟩ := x.owP b h
    exact ⟨_, h2, (by intro vs h; cases h), h1⟩

/-- the frame's places stand, the world grows -/
theorem EnvOk.stand {env : Env} {ρ : Rho} {W W' : Wd} {ow : List Addr} {s s' : Shared} (x : EnvOk env ρ W ow s) (le : Wle W W' s.heap) (hk : ∀ b o, Own env ow b → s.heap.get? b = some o → s'.heap.get? b = some o) : EnvOk env ρ W' ow s' := by
  have hP : ∀ b, Own env ow b → W'.P b = none := fun b hb => by
    obtain ⟨o, h1, _, h2⟩ := x.own_live hb
    cases q : W'.P b with
    | none => rfl
    | some o' => rcases le.new _ _ q with z | z
                 · rw [h2] at z; cases z
                 · rw [h1] at z; cases z
  have rv : ∀ v d, RepV W ow s v d → RepV W' ow s' v d := fun v d h => h.ext le fun a vs n ha q => hk a _ (.inr (.inr ha)) q
  obtain ⟨m, hn, hm⟩ := x.ns
  obtain ⟨oL, es, ep, ho, hd, r⟩ := id hn
  refine ⟨x.kind, x.glob, x.blt, ⟨m, ⟨oL, es, ep, hk _ _ (.inl rfl) ho, hd, r⟩, fun y d h1 h2 => let ⟨v, h3, h4⟩ := hm y d h1 h2; ⟨v, h3, rv v d h4⟩⟩, ?_, x.apart, ?_, hP _ (.inl rfl), ?_⟩
  · intro y hy
    obtain ⟨c, vo, h1, ⟨oc, h2, h3⟩, h4⟩ := x.cell y hy
    exact ⟨c, vo, h1, ⟨oc, hk _ _ (.inr (.inl ⟨y, h1⟩)) h2, h3⟩, fun d hd => let ⟨v, h5, h6⟩ := h4 d hd; ⟨v, h5, rv v d h6⟩⟩
  · intro y c hc
    obtain ⟨h1, vo, oc, h2, h3⟩ := x.cellP y c hc
    exact ⟨hP c (.inr (.inl ⟨y, hc⟩)), vo, oc, hk _ _ (.inr (.inl ⟨y, hc⟩)) h2, h3⟩
  · intro a ha
    obtain ⟨h1, vs, n, h2⟩ := x.owP a ha
    exact ⟨hP a (.inr (.inr ha)), vs, n, hk a _ (.inr (.inr ha)) h2⟩
theorem EnvOk.ext {G : Heap} {env : Env} {ρ : Rho} {W W' : Wd} {ow : List Addr} {s s' : Shared} (x : EnvOk env ρ W ow s) (i : Inv G W s) (e : Ext G W s W' s') : EnvOk env ρ W' ow s' := by
  obtain ⟨ps, hT, _⟩ := i.tab
  refine x.stand e.le fun b o hb q => ?_
  obtain ⟨o', h1, h2, _⟩ := x.own_live hb
  exact e.keep b o (not_tab_of_ne h1 hT h2) q

/-! what stands behind a value, by its datum -/
section
variable {W : Wd} {v : Value}
theorem rep_none (r : Rep W v .none) : v = .none := by cases r; rfl
theorem rep_fn {a : Addr} (r : Rep W v (.fn a)) : v = .ref a := by cases r; rfl
theorem rep_own {xs : List D} (r : Rep W v (.own xs)) : False := by cases r
theorem rep_int {i : Int} (r : Rep W v (.int i)) : ∃ t, v = .int i t := by cases r; exact ⟨_, rfl⟩
theorem rep_bool {b : Bool} (r : Rep W v (.bool b)) : v = .bool b := by cases r; rfl
theorem rep_str {s : Str} (r : Rep W v (.str s)) : ∃ t, v = .str s t ∧ AscOk s := by cases r; exact ⟨_, rfl, ‹_›⟩
theorem rep_list {xs : List D} (r : Rep W v (.list xs)) : ∃ a vs n, v = .ref a ∧ W.P a = some (listO vs n) ∧ vs.length ≤ big ∧ RepL W vs xs := by cases r; exact ⟨_, _, _, rfl, ‹_›, ‹_›, ‹_›⟩
theorem rep_tuple {xs : List D} (r : Rep W v (.tuple xs)) : ∃ a vs n, v = .ref a ∧ W.P a = some (tupleO vs n) ∧ vs.length ≤ big ∧ RepL W vs xs := by cases r; exact ⟨_, _, _, rfl, ‹_›, ‹_›, ‹_›⟩
theorem rep_rule {f : Str} {b : Bool} (r : Rep W v (.rule f b)) : ∃ a, v = .ref a ∧ RuleAt W.P a f b ∧ AscOk f := by cases r; exact ⟨_, rfl, ‹_›, ‹_›⟩
theorem rep_ent {id : Nat} {ag ru : List D} {de : D} (r : Rep W v (.ent id ag ru de)) : ∃ va vr vd, v = .ref (W.η id) ∧ id < W.k ∧ EntAt W.P (W.η id) va vr vd ∧ Rep W va (.list ag) ∧ Rep W vr (.list ru) ∧ Rep W vd de := by
  cases r with | ent h1 h2 h3 h4 h5 => exact ⟨_, _, _, rfl, h1, h2, h3, h4, h5⟩
theorem repL_cons {vs : List Value} {d : D} {ds : List D} (r : RepL W vs (d :: ds)) : ∃ v ws, vs = v :: ws ∧ Rep W v d ∧ RepL W ws ds := by cases r; exact ⟨_, _, rfl, ‹_›, ‹_›⟩
theorem repL_nil {vs : List Value} (r : RepL W vs []) : vs = [] := by cases r; rfl
end
end Mine
end

section
open PySem PySem.W PySem.Calls PyProof.Rows
set_option Elab.async false
set_option maxRecDepth 100000
set_option linter.unusedVariables false
namespace Mine

structure Gnd (prog : Program) (w : World) (G : Heap) (mg mb : Str → Option Value) : Prop where
  g : G.Ns mainGlobals mg
  b : G.Ns builtinsNs mb
  nolimit : G.NoLimit
  seer : G.NoSeer
  builtins : ∀ x : Str, x ≠ "__name__" → mb x = bootBuiltins x
  bmain : ∃ bm ob, mg "__builtins__" = some (.ref bm) ∧ bm ≠ builtinsNs ∧ G.get? bm = some ob ∧ ob.cls = .type "module" ∧ ob.dict = some builtinsNs ∧ ob.data = .plain
  X : (hd.heap_39 w.params).In G
  ch : CodeHd G 132 TB
  tree : prog.given.tree = none

noncomputable abbrev Ex := Rho → Nat → Option (D × Nat)
noncomputable abbrev Tx := Rho → Nat → Option (Bool × Nat)
noncomputable abbrev Lx := Rho → Nat → Option (List D × Nat)

section
variable (prog : Program) (w : World) (G : Heap)
/-- the expression's value is f -/
noncomputable def SE (n : Nat) (sc : Scope) (e : Expr) (f : Ex) : Prop :=
  ∀ (A : Around) (env : Env) (ρ : Rho) (W : Wd) (ow : List Addr) (s : Shared) (Q : Value → Shared → Prop) (E : Value → Shared → Prop), Room A n → env.scope = sc → EnvOk env ρ W ow s → Inv G W s →
    ∀ d k', f ρ W.k = some (d, k') → (∀ v W' s', Ext G W s W' s' → W'.k = k' → Rep W' v d → Q v s') → wpAny (model prog w) A (eval e env) Q E s
noncomputable def ST (n : Nat) (sc : Scope) (e : Expr) (f : Tx) : Prop :=
  ∀ (A : Around) (env : Env) (ρ : Rho) (W : Wd) (ow : List Addr) (s : Shared) (Q : Bool → Shared → Prop) (E : Value → Shared → Prop), Room A n → env.scope = sc → EnvOk env ρ W ow s → Inv G W s →
    ∀ d k', f ρ W.k = some (d, k') → (∀ W' s', Ext G W s W' s' → W'.k = k' → Q d s') → wpAny (model prog w) A (isTrue e env (eval e env)) Q E s
noncomputable def SL (n : Nat) (sc : Scope) (es : List Expr) (f : Lx) : Prop :=
  ∀ (A : Around) (env : Env) (ρ : Rho) (W : Wd) (ow : List Addr) (s : Shared) (pos : Pos) (Q : List Value → Shared → Prop) (E : Value → Shared → Prop), Room A n → env.scope = sc → EnvOk env ρ W ow s → Inv G W s →
    ∀ ds k', f ρ W.k = some (ds, k') → (∀ vs W' s', Ext G W s W' s' → W'.k = k' → RepL W' vs ds → vs.length = es.length → Q vs s') → wpAny (model prog w) A (spliced (backTo pos (starEach es env))) Q E s
end

theorem nsIn_val {K : Frag} {h : Heap} {mg : Str → Option Value} {a : Addr} {n : Str} {r : Option Value} (X : K.In h) (G : h.Ns a mg) (e : nsIn K a n = some r) : mg n = r := by
  obtain ⟨o, es, ep, ho, hd, _, hf⟩ := G
  unfold nsIn at e
  split at e
  · rename_i c d es' n' sl q
    have := X _ _ q
    rw [ho] at this
    cases this
    cases hd
    rw [← hf n]
    simp only [nsFind, findBy]
    have hl : es.find? (fun x => x.key.isStr n) = es.toList.find? (fun x => x.key.isStr n) := by simp
    split at e
    · rename_i x hx
      cases e
      rw [hl, hx]; rfl
    · rename_i hx
      rw [hl, hx]
      split at e
      · cases e
      · cases e; rfl
  · cases e

section
variable {prog : Program} {w : World} {G : Heap} {mg mb : Str → Option Value} {n : Nat} {sc : Scope}

theorem Inv.sub0 {W : Wd} {s : Shared} (i : Inv G W s) : ∀ b o, G.get? b = some o → s.heap.get? b = some o := fun b o e => i.sub b o (i.ground b o e)

/-! constants -/
noncomputable def litE (d : D) : Ex := fun _ k => some (d, k)
theorem se_none {k pos} : SE prog w G n sc (.Constant .none k pos) (litE .none) := fun A env ρ W ow s Q E hR hs he hi d k' hf hQ => by
  cases hf; exact wpAny_Constant_none (hQ _ _ _ (.refl hi) rfl .none)
theorem se_bool {b k pos} : SE prog w G n sc (.Constant (.bool b) k pos) (litE (.bool b)) := fun A env ρ W ow s Q E hR hs he hi d k' hf hQ => by
  cases hf; exact wpAny_Constant_bool (hQ _ _ _ (.refl hi) rfl (.bool b))
theorem se_int {i k pos} : SE prog w G n sc (.Constant (.int i) k pos) (litE (.int i)) := fun A env ρ W ow s Q E hR hs he hi d k' hf hQ => by
  cases hf; exact wpAny_Constant_int (hQ _ _ _ (.toks hi _) rfl (.int _ _))
noncomputable def ascB (s : Str) : Bool := decide (s.length ≤ 1000) && s.cps.toList.all (fun c => decide (c < 128))
theorem ascB_ok {s : Str} (h : ascB s = true) : AscOk s := by
  simp only [ascB, Bool.and_eq_true, decide_eq_true_eq, List.all_eq_true] at h
  exact ⟨Nat.le_trans h.1 (by unfold big; omega), h.2⟩
theorem se_str {x : Str} {k pos} (h : ascB x = true) : SE prog w G n sc (.Constant (.str x) k pos) (litE (.str x)) := fun A env ρ W ow s Q E hR hs he hi d k' hf hQ => by
  cases hf; exact wpAny_Constant_str (hQ _ _ _ (.toks hi _) rfl (.str _ (ascB_ok h)))

/-! names -/
noncomputable def varE (x : Str) : Ex := fun ρ k => match ρ x with
  | some (.own _) => none
  | some d => some (d, k)
  | none => none
theorem varE_some {x : Str} {ρ : Rho} {k k' : Nat} {d : D} (h : varE x ρ k = some (d, k')) : ρ x = some d ∧ k' = k ∧ ∀ xs, d ≠ .own xs := by
  unfold varE at h
  split at h
  · cases h
  · rename_i d' hne e
    cases h
    exact ⟨e, rfl, fun xs q => hne xs q⟩
  · cases h
theorem repV_rep {W : Wd} {ow : List Addr} {s : Shared} {v : Value} {d : D} (h : RepV W ow s v d) (hd : ∀ xs, d ≠ .own xs) : Rep W v d := by
  cases d with
  | own xs => exact absurd rfl (hd xs)
  | _ => exact h

noncomputable def isVar (sc : Scope) (x : Str) : Bool := match sc.names.lookup x with
  | some .local | some .cell | some .free => true
  | _ => false
theorem ld {A : Around} {env : Env} {ρ : Rho} {W : Wd} {ow : List Addr} {s : Shared} {x : Str} {d : D} {Q : Value → Shared → Prop} {E : Value → Shared → Prop} (he : EnvOk env ρ W ow s) (hv : isVar env.scope x = true) (hx : ρ x = some d)
    (hn : (x == ("__classdict__" : Str)) = false) (h : ∀ v, RepV W ow s v d → Q v s) : wpAny (model prog w) A (loadName env x) Q E s := by
  unfold isVar at hv
  split at hv
  · rename_i hk
    obtain ⟨m, hns, hm⟩ := he.ns
    obtain ⟨v, h1, h2⟩ := hm x d hx hk
    exact wpAny_loadName_local he.kind hk hns h1 (h v h2)
  · rename_i hk
    obtain ⟨c, vo, h1, h2, h3⟩ := he.cell x (.inl hk)
    obtain ⟨v, rfl, h4⟩ := h3 d hx
    exact wpAny_loadName_cell he.kind hk h1 h2 (h v h4)
  · rename_i hk
    obtain ⟨c, vo, h1, h2, h3⟩ := he.cell x (.inr hk)
    obtain ⟨v, rfl, h4⟩ := h3 d hx
    exact wpAny_loadName_free he.kind hk h1 h2 (h v h4) hn
  · cases hv
theorem se_var {x : Str} {pos} (hv : isVar sc x = true) (hn : (x == ("__classdict__" : Str)) = false) (hd : (x == ("__debug__" : Str)) = false) : SE prog w G n sc (.Name x pos) (varE x) := fun A env ρ W ow s Q E hR hs he hi d k' hf hQ => by
  obtain ⟨hx, rfl, hno⟩ := varE_some hf
  exact wpAny_Name (ld he (hs ▸ hv) hx hn fun v hr => hQ v W s (.refl hi) rfl (repV_rep hr hno)) hd
noncomputable def isGlob (sc : Scope) (x : Str) : Bool := sc.names.lookup x == some .globalImplicit
theorem isGlob_kind {env : Env} {x : Str} (hs : env.scope = sc) (h : isGlob sc x = true) : env.kindOf x = some .globalImplicit := by
  subst hs; exact eq_of_beq h
/-- a def of the text by its name -/
theorem glob_fn {A : Around} {env : Env} {ρ : Rho} {W : Wd} {ow : List Addr} {s : Shared} {x : Str} {v : Value} {pos : Pos} {Q : Value → Shared → Prop} {E : Value → Shared → Prop} (gn : Gnd prog w G mg mb) (he : EnvOk env ρ W ow s) (hi : Inv G W s) (hs : env.scope = sc) (hg : isGlob sc x = true)
    (hx : nsIn (hd.heap_39 w.params) mainGlobals x = some (some v)) (hd : (x == ("__debug__" : Str)) = false) (h : Q v s) : wpAny (model prog w) A (eval (.Name x pos) env) Q E s := by
  have hns : s.heap.Ns env.globals mg := by rw [he.glob]; exact gn.g.keeps hi.sub0
  exact Name_function_global he.kind (isGlob_kind hs hg) (loadGlobal_global hns (nsIn_val gn.X gn.g hx) h) hd
theorem se_fn {x : Str} {a : Addr} {pos} (gn : Gnd prog w G mg mb) (hg : isGlob sc x = true) (hx : nsIn (hd.heap_39 w.params) mainGlobals x = some (some (.ref a))) (hd : (x == ("__debug__" : Str)) = false) :
    SE prog w G n sc (.Name x pos) (litE (.fn a)) := fun A env ρ W ow s Q E hR hs he hi d k' hf hQ => by
  cases hf; exact glob_fn gn he hi hs hg hx hd (hQ _ _ _ (.refl hi) rfl (.fn a))
/-- a built-in by its name -/
theorem glob_bi {A : Around} {env : Env} {ρ : Rho} {W : Wd} {ow : List Addr} {s : Shared} {x : Str} {v : Value} {pos : Pos} {Q : Value → Shared → Prop} {E : Value → Shared → Prop} (gn : Gnd prog w G mg mb) (he : EnvOk env ρ W ow s) (hi : Inv G W s) (hs : env.scope = sc) (hg : isGlob sc x = true)
    (hx : nsIn (hd.heap_39 w.params) mainGlobals x = some none) (hb : bootBuiltins x = some v) (hne : x ≠ "__name__") (hd : (x == ("__debug__" : Str)) = false) (h : Q v s) : wpAny (model prog w) A (eval (.Name x pos) env) Q E s := by
  have hns : s.heap.Ns env.globals mg := by rw [he.glob]; exact gn.g.keeps hi.sub0
  have hbs : s.heap.Ns env.builtins mb := by rw [he.blt]; exact gn.b.keeps hi.sub0
  exact Name_function_global he.kind (isGlob_kind hs hg) (loadGlobal_builtin hns (nsIn_val gn.X gn.g hx) hbs ((gn.builtins x hne).trans hb) h) hd
end
end Mine
end

section
open PySem PySem.W PySem.Calls PyProof.Rows
set_option Elab.async false
set_option maxRecDepth 100000
set_option linter.unusedVariables false
namespace Mine
section
variable {prog : Program} {w : World} {G : Heap} {mg mb : Str → Option Value} {n : Nat} {sc : Scope}

/-! operators -/
noncomputable def int2 (a b : D) (f : Int → Int → Option D) : Option D := match a with
  | .int i => (match b with
    | .int j => f i j
    | _ => none)
  | _ => none
noncomputable def addD (a b : D) : Option D := match a with
  | .int a => (match b with
    | .int b => some (.int (a + b))
    | _ => none)
  | .str x => (match b with
    | .str y => if x.length + y.length ≤ big then some (.str (x ++ y)) else none
    | _ => none)
  | .list xs => (match b with
    | .list ys => if xs.length + ys.length ≤ big then some (.list (xs ++ ys)) else none
    | _ => none)
  | _ => none
noncomputable def binD (op : Operator) (a b : D) : Option D := match op with
  | .Add => addD a b
  | .Sub => int2 a b fun a b => some (.int (a - b))
  | .Mult => int2 a b fun a b => if b.natAbs < 2 ^ 60 then some (.int (a * b)) else none
  | .FloorDiv => int2 a b fun a b => if b = 0 then none else some (.int (a.fdiv b))
  | .Mod => int2 a b fun a b => if b = 0 then none else some (.int (a.fmod b))
  | .Pow => int2 a b fun a b => if 0 ≤ b ∧ b ≤ 64 ∧ a.natAbs ≤ 64 then some (.int (a ^ b.toNat)) else none
  | .BitAnd => int2 a b fun a b => some (.int (Builtin.bitAnd a b))
  | _ => none
theorem int2_some {W : Wd} {a b d : D} {va vb : Value} {f : Int → Int → Option D} (h : int2 a b f = some d) (ha : Rep W va a) (hb : Rep W vb b) : ∃ i s j t, va = .int i s ∧ vb = .int j t ∧ f i j = some d := by
  cases a with
  | int i => cases b with
    | int j =>
      obtain ⟨s, rfl⟩ := rep_int ha
      obtain ⟨t, rfl⟩ := rep_int hb
      exact ⟨i, s, j, t, rfl, rfl, h⟩
    | _ => exact nomatch h
  | _ => exact nomatch h

theorem ascOk_append {x y : Str} (hx : AscOk x) (hy : AscOk y) (h : x.length + y.length ≤ big) : AscOk (x ++ y) := by
  refine ⟨by rw [strLen_append]; exact h, fun c hc => ?_⟩
  have : (x ++ y).cps = x.cps ++ y.cps := rfl
  rw [this, Array.toList_append, List.mem_append] at hc
  exact hc.elim (hx.2 c) (hy.2 c)
theorem big_le : big ≤ sizeLine := by decide

theorem isList_of {W : Wd} {s : Shared} {a : Addr} {vs : List Value} {m : Nat} (hi : Inv G W s) (h : W.P a = some (listO vs m)) : s.heap.IsList a vs.toArray := ⟨_, hi.sub _ _ h, rfl, m, rfl⟩
theorem isTuple_of {W : Wd} {s : Shared} {a : Addr} {vs : List Value} {m : Nat} (hi : Inv G W s) (h : W.P a = some (tupleO vs m)) : s.heap.IsTuple a vs.toArray := ⟨_, hi.sub _ _ h, rfl, m, rfl⟩

/-- a new list of represented items -/
theorem rep_newList {W : Wd} {s : Shared} {vs : List Value} {ds : List D} (hi : Inv G W s) (h : RepL W vs ds) (hb : vs.length ≤ big) (m : Nat) :
    Rep (W.put s.heap.objs.size (listO vs m)) (.ref s.heap.objs.size) (.list ds) :=
  .list (Wd.put_self ..) hb (h.mono (.put (h := s.heap) (hi.none_of (Heap.new_none _)) (Heap.new_none _)))
theorem rep_newTuple {W : Wd} {s : Shared} {vs : List Value} {ds : List D} (hi : Inv G W s) (h : RepL W vs ds) (hb : vs.length ≤ big) (m : Nat) :
    Rep (W.put s.heap.objs.size (tupleO vs m)) (.ref s.heap.objs.size) (.tuple ds) :=
  .tuple (Wd.put_self ..) hb (h.mono (.put (h := s.heap) (hi.none_of (Heap.new_none _)) (Heap.new_none _)))

theorem pylong {A : Around} {W : Wd} {s : Shared} (gn : Gnd prog w G mg mb) (hi : Inv G W s) (hR : Room A n) : PylongRoom (model prog w) A s := by
  obtain ⟨env, l, h1, h2, h3, h4, h5⟩ := hR.2.2.2
  exact PylongRoom.of (gn.nolimit.keeps hi.sub0) (by have := hR.2.1; show A.depth + 100 < 1000; omega) (SeerAt.of (gn.seer.keeps hi.sub0) gn.tree h1 h2 h3 h4 h5)

theorem bin_ok {A : Around} {W : Wd} {s : Shared} {op : Operator} {a b d : D} {va vb : Value} {Q : Value → Shared → Prop} {E : Value → Shared → Prop} (gn : Gnd prog w G mg mb) (hR : Room A n) (hi : Inv G W s) (h : binD op a b = some d) (ha : Rep W va a) (hb : Rep W vb b)
    (hQ : ∀ v W' s', Ext G W s W' s' → W'.k = W.k → Rep W' v d → Q v s') : wpAny (model prog w) A (binaryOp op va vb) Q E s := by
  unfold binD at h
  split at h
  · cases a with
    | int i => cases b with
      | int j =>
        obtain ⟨x, rfl⟩ := rep_int ha
        obtain ⟨y, rfl⟩ := rep_int hb
        cases h; exact wpAny_add_int (hQ _ _ _ (.toks hi _) rfl (.int _ _))
      | _ => exact nomatch h
    | str x => cases b with
      | str y =>
        obtain ⟨t, rfl, hx⟩ := rep_str ha
        obtain ⟨u, rfl, hy⟩ := rep_str hb
        unfold addD at h
        dsimp only at h
        split at h
        · rename_i hl; cases h
          exact add_str (fun t' tk => hQ _ _ _ (.toks hi _) rfl (.str _ (ascOk_append hx hy hl))) (Nat.le_trans hl big_le)
        · cases h
      | _ => exact nomatch h
    | list xs => cases b with
      | list ys =>
        obtain ⟨x, vs, k1, rfl, p1, p2, p3⟩ := rep_list ha
        obtain ⟨y, ws, k2, rfl, q1, q2, q3⟩ := rep_list hb
        unfold addD at h
        dsimp only at h
        split at h
        · rename_i hl; cases h
          have hl' := hl
          rw [← p3.length, ← q3.length] at hl'
          refine PySem.P.add_list (hi.sub _ _ p1) (hi.sub _ _ q1) ?_ (by simpa using Nat.le_trans hl' big_le)
          refine hQ _ _ _ (Ext.alloc (tk := s.toks) hi _ rfl) rfl ?_
          have := rep_newList (m := 0) hi (p3.append q3) (by rw [List.length_append]; exact hl')
          simpa [listO] using this
        · cases h
      | _ => exact nomatch h
    | _ => exact nomatch h
  · obtain ⟨x, t, y, u, rfl, rfl, h⟩ := int2_some h ha hb
    cases h; exact sub_int (hQ _ _ _ (.toks hi _) rfl (.int _ _))
  · obtain ⟨x, t, y, u, rfl, rfl, h⟩ := int2_some h ha hb
    split at h
    · rename_i hl; cases h; exact PyProof.Rows.mul_int (hQ _ _ _ (.toks hi _) rfl (.int _ _)) (.of_right (intBits_le_64 (by omega) (by omega)))
    · cases h
  · obtain ⟨x, t, y, u, rfl, rfl, h⟩ := int2_some h ha hb
    split at h
    · cases h
    · rename_i hl; cases h; exact floordiv_int hl (hQ _ _ _ (.toks hi _) rfl (.int _ _)) (.inr (pylong gn hi hR))
  · obtain ⟨x, t, y, u, rfl, rfl, h⟩ := int2_some h ha hb
    split at h
    · cases h
    · rename_i hl; cases h; exact mod_int' hl (hQ _ _ _ (.toks hi _) rfl (.int _ _))
  · obtain ⟨x, t, y, u, rfl, rfl, h⟩ := int2_some h ha hb
    split at h
    · rename_i hl; cases h; exact pow_int_small hl.1 (by omega) (by omega) (hQ _ _ _ (.toks hi _) rfl (.int _ _))
    · cases h
  · obtain ⟨x, t, y, u, rfl, rfl, h⟩ := int2_some h ha hb
    cases h; exact and_int (hQ _ _ _ (.toks hi _) rfl (.int _ _))
  · cases h

noncomputable def binE (op : Operator) (f g : Ex) : Ex := fun ρ k => match f ρ k with
  | none => none
  | some (a, k1) => match g ρ k1 with
    | none => none
    | some (b, k2) => match binD op a b with
      | none => none
      | some d => some (d, k2)
theorem binE_some {op : Operator} {f g : Ex} {ρ : Rho} {k k' : Nat} {d : D} (h : binE op f g ρ k = some (d, k')) : ∃ a k1 b, f ρ k = some (a, k1) ∧ g ρ k1 = some (b, k') ∧ binD op a b = some d := by
  unfold binE at h
  split at h
  · cases h
  · rename_i a k1 h1
    split at h
    · cases h
    · rename_i b k2 h2
      split at h
      · cases h
      · rename_i d' h3; cases h; exact ⟨a, k1, b, h1, h2, h3⟩

theorem se_bin {l r : Expr} {op pos} {f g : Ex} (gn : Gnd prog w G mg mb) (hl : SE prog w G n sc l f) (hr : SE prog w G n sc r g) : SE prog w G n sc (.BinOp l op r pos) (binE op f g) := fun A env ρ W ow s Q E hR hs he hi d k' hf hQ => by
  obtain ⟨a, k1, b, h1, h2, h3⟩ := binE_some hf
  refine wpAny_BinOp (hl A env ρ W ow s _ E hR hs he hi a k1 h1 fun va W1 s1 x1 e1 r1 => ?_)
  subst e1
  refine hr A env ρ W1 ow s1 _ E hR hs (he.ext hi x1) x1.inv b k' h2 fun vb W2 s2 x2 e2 r2 => ?_
  subst e2
  exact bin_ok gn hR x2.inv h3 (r1.mono x2.le) r2 fun v W3 s3 x3 e3 r3 => hQ v W3 s3 ((x1.trans x2).trans x3) e3 r3

noncomputable def negE (f : Ex) : Ex := fun ρ k => match f ρ k with
  | some (.int i, k') => some (.int (-i), k')
  | _ => none
theorem se_neg {x : Expr} {pos} {f : Ex} (hx : SE prog w G n sc x f) : SE prog w G n sc (.UnaryOp .USub x pos) (negE f) := fun A env ρ W ow s Q E hR hs he hi d k' hf hQ => by
  unfold negE at hf
  split at hf
  · rename_i i k1 h1; cases hf
    refine wpAny_UnaryOp (hx A env ρ W ow s _ E hR hs he hi _ _ h1 fun v W1 s1 x1 e1 r1 => ?_)
    cases r1
    exact PyProof.Rows.neg_int (hQ _ _ _ (x1.trans (.toks x1.inv _)) e1 (.int _ _))
  · cases hf

/-! truth -/
noncomputable def truthD : D → Option Bool
  | .bool b => some b
  | .int i => some (i != 0)
  | _ => none
theorem truth_ok {A : Around} {W : Wd} {s : Shared} {d : D} {b : Bool} {v : Value} {Q : Bool → Shared → Prop} {E : Value → Shared → Prop} (h : truthD d = some b) (r : Rep W v d) (hQ : Q b s) : wpAny (model prog w) A (truthy v) Q E s := by
  unfold truthD at h
  split at h
  · cases h; cases r; exact wpAny_truthy_bool hQ
  · cases h; cases r; exact PyProof.Rows.truthy_int hQ
  · cases h
end
end Mine
end

section
open PySem PySem.W PySem.Calls PyProof.Rows PySem.SeqAt
set_option Elab.async false
set_option maxRecDepth 100000
set_option linter.unusedVariables false
namespace Mine
section
variable {prog : Program} {w : World} {G : Heap} {mg mb : Str → Option Value} {n : Nat} {sc : Scope}

/-! comparisons -/
noncomputable def mapO {α : Type} (f : D → Option α) : List D → Option (List α)
  | [] => some []
  | x :: xs => match f x with
    | none => none
    | some y => match mapO f xs with
      | none => none
      | some ys => some (y :: ys)
noncomputable def toPy : Nat → D → Option PyData
  | _, .none => some .none
  | _, .bool b => some (.bool b)
  | _, .int i => some (.int i)
  | _, .str x => some (.str x)
  | m + 1, .list xs => (mapO (toPy m) xs).map .list
  | m + 1, .tuple xs => (mapO (toPy m) xs).map .tuple
  | _, _ => none
theorem toPy_none (m : Nat) : toPy m .none = some .none := by cases m <;> rfl
theorem toPy_bool (m : Nat) (b : Bool) : toPy m (.bool b) = some (.bool b) := by cases m <;> rfl
theorem toPy_int (m : Nat) (i : Int) : toPy m (.int i) = some (.int i) := by cases m <;> rfl
theorem toPy_str (m : Nat) (x : Str) : toPy m (.str x) = some (.str x) := by cases m <;> rfl
theorem strOk_of {x : Str} (h : AscOk x) : PyData.strOk x = true := by
  unfold PyData.strOk
  rw [Array.all_eq_true']
  intro c hc
  have := h.2 c (by simpa using hc)
  simp only [decide_eq_true_eq]; omega
theorem reads_ok {W : Wd} {s : Shared} (hi : Inv G W s) : ∀ (m : Nat) (d : D) (v : Value) (p : PyData), toPy m d = some p → Rep W v d → ∃ as, Reads s.heap v p as ∧ p.canLay0 = true ∧ p.depth ≤ m := by
  have key : ∀ (m : Nat), (∀ (d : D) (v : Value) (p : PyData), toPy m d = some p → Rep W v d → ∃ as, Reads s.heap v p as ∧ p.canLay0 = true ∧ p.depth ≤ m) →
      ∀ (xs : List D) (vs : List Value) (ps : List PyData), mapO (toPy m) xs = some ps → RepL W vs xs → ∃ as, ReadsAll s.heap vs ps as ∧ PyData.canLayAll0 ps = true ∧ PyData.depthAll ps ≤ m := by
    intro m ih xs
    induction xs with
    | nil => intro vs ps h r; cases repL_nil r; cases h; exact ⟨[], .nil, rfl, Nat.zero_le _⟩
    | cons x xs ihx =>
      intro vs ps h r
      obtain ⟨v, vs, rfl, r1, r2⟩ := repL_cons r
      unfold mapO at h
      split at h
      · cases h
      · rename_i y hy
        split at h
        · cases h
        · rename_i ys hys
          cases h
          obtain ⟨as, h1, h2, h3⟩ := ih _ _ _ hy r1
          obtain ⟨bs, h4, h5, h6⟩ := ihx _ _ hys r2
          exact ⟨as ++ bs, .cons h1 h4, by rw [PyData.canLayAll0, h2, h5]; rfl, by rw [PyData.depthAll]; omega⟩
  have flat : ∀ (m : Nat) (d : D) (v : Value) (p : PyData), (∀ xs, d ≠ .list xs) → (∀ xs, d ≠ .tuple xs) → toPy m d = some p → Rep W v d → ∃ as, Reads s.heap v p as ∧ p.canLay0 = true ∧ p.depth ≤ m := by
    intro m d v p n1 n2 h r
    cases d with
    | none => cases (toPy_none m).symm.trans h; rw [rep_none r]; exact ⟨[], .none, rfl, Nat.zero_le _⟩
    | bool b => cases (toPy_bool m b).symm.trans h; rw [rep_bool r]; exact ⟨[], .bool _, rfl, Nat.zero_le _⟩
    | int i => cases (toPy_int m i).symm.trans h; obtain ⟨t, rfl⟩ := rep_int r; exact ⟨[], .int _ _, rfl, Nat.zero_le _⟩
    | str x => cases (toPy_str m x).symm.trans h; obtain ⟨t, rfl, h1⟩ := rep_str r; exact ⟨[], .str _ _, by rw [PyData.canLay0]; exact strOk_of h1, Nat.zero_le _⟩
    | list xs => exact absurd rfl (n1 xs)
    | tuple xs => exact absurd rfl (n2 xs)
    | rule f b => cases m <;> exact nomatch h
    | ent i ag ru de => cases m <;> exact nomatch h
    | fn a => cases m <;> exact nomatch h
    | own xs => cases m <;> exact nomatch h
  intro m
  induction m with
  | zero =>
    intro d v p h r
    refine flat 0 d v p (fun xs e => ?_) (fun xs e => ?_) h r
    · subst e; exact nomatch h
    · subst e; exact nomatch h
  | succ m ih =>
    intro d v p h r
    by_cases n1 : ∃ xs, d = .list xs
    · obtain ⟨xs, rfl⟩ := n1
      obtain ⟨ps, h1, rfl⟩ := Option.map_eq_some_iff.mp (show (mapO (toPy m) xs).map .list = some p from h)
      obtain ⟨a, vs, n, rfl, p1, p2, p3⟩ := rep_list r
      obtain ⟨as, h2, h3, h4⟩ := key m ih _ _ _ h1 p3
      exact ⟨_, .list (hi.sub _ _ p1) rfl rfl (by simpa using h2), by rw [PyData.canLay0]; exact h3, by rw [PyData.depth]; omega⟩
    by_cases n2 : ∃ xs, d = .tuple xs
    · obtain ⟨xs, rfl⟩ := n2
      obtain ⟨ps, h1, rfl⟩ := Option.map_eq_some_iff.mp (show (mapO (toPy m) xs).map .tuple = some p from h)
      obtain ⟨a, vs, n, rfl, p1, p2, p3⟩ := rep_tuple r
      obtain ⟨as, h2, h3, h4⟩ := key m ih _ _ _ h1 p3
      exact ⟨_, .tuple (hi.sub _ _ p1) rfl rfl (by simpa using h2), by rw [PyData.canLay0]; exact h3, by rw [PyData.depth]; omega⟩
    exact flat _ d v p (fun xs e => n1 ⟨xs, e⟩) (fun xs e => n2 ⟨xs, e⟩) h r

noncomputable def isNoneD : D → Bool
  | .none => true
  | _ => false
noncomputable def eqD (a b : D) : Option Bool := match toPy 6 a, toPy 6 b with
  | some x, some y => some (PyData.eqv x y)
  | _, _ => none
noncomputable def inD (a b : D) : Option Bool := match toPy 6 a, toPy 6 b with
  | some x, some (.list ys) => some (ys.any fun y => PyData.eqv y x)
  | _, _ => none
noncomputable def int2B (a b : D) (f : Int → Int → Bool) : Option Bool := match a with
  | .int i => (match b with
    | .int j => some (f i j)
    | _ => none)
  | _ => none
noncomputable def isNotD (a b : D) : Option Bool := match b with
  | .none => some (!isNoneD a)
  | .ent j _ _ _ => (match a with
    | .ent i _ _ _ => some (decide (i ≠ j))
    | _ => none)
  | _ => none
noncomputable def cmpD (op : CmpOp) (a b : D) : Option Bool := match op with
  | .Eq => eqD a b
  | .NotEq => (eqD a b).map (!·)
  | .In => inD a b
  | .NotIn => (inD a b).map (!·)
  | .Lt => int2B a b fun a b => decide (a < b)
  | .Gt => int2B a b fun a b => decide (b < a)
  | .Is => (match b with
    | .none => some (isNoneD a)
    | _ => none)
  | .IsNot => isNotD a b
  | _ => none
theorem int2B_some {W : Wd} {a b : D} {c : Bool} {va vb : Value} {f : Int → Int → Bool} (h : int2B a b f = some c) (ha : Rep W va a) (hb : Rep W vb b) : ∃ i s j t, va = .int i s ∧ vb = .int j t ∧ c = f i j := by
  cases a with
  | int i => cases b with
    | int j =>
      obtain ⟨s, rfl⟩ := rep_int ha
      obtain ⟨t, rfl⟩ := rep_int hb
      exact ⟨i, s, j, t, rfl, rfl, (Option.some.inj h).symm⟩
    | _ => exact nomatch h
  | _ => exact nomatch h
theorem rep_isNone {W : Wd} {v : Value} {d : D} (r : Rep W v d) : (v == .none) = isNoneD d := by cases r <;> rfl

theorem eqD_some {a b : D} {c : Bool} (h : eqD a b = some c) : ∃ x y, toPy 6 a = some x ∧ toPy 6 b = some y ∧ c = PyData.eqv x y := by
  unfold eqD at h
  split at h
  · rename_i x y h1 h2; cases h; exact ⟨x, y, h1, h2, rfl⟩
  · cases h
theorem inD_some {a b : D} {c : Bool} (h : inD a b = some c) : ∃ x ys, toPy 6 a = some x ∧ toPy 6 b = some (.list ys) ∧ c = ys.any fun y => PyData.eqv y x := by
  unfold inD at h
  split at h
  · rename_i x ys h1 h2; cases h; exact ⟨x, ys, h1, h2, rfl⟩
  · cases h

theorem isNot_ent {A : Around} {W : Wd} {s : Shared} {i j : Nat} {a1 b1 a2 b2 : List D} {e1 e2 : D} {c : Bool} {va vb : Value} {Q : Value → Shared → Prop} {E : Value → Shared → Prop} (hi : Inv G W s) (h : c = decide (i ≠ j)) (ha : Rep W va (.ent i a1 b1 e1)) (hb : Rep W vb (.ent j a2 b2 e2))
    (hQ : Q (.bool c) s) : wpAny (model prog w) A (compareOp .IsNot va vb) Q E s := by
  obtain ⟨_, _, _, rfl, p1, ⟨d1, e1, _⟩, _⟩ := rep_ent ha
  obtain ⟨_, _, _, rfl, q1, ⟨d2, e2, _⟩, _⟩ := rep_ent hb
  subst h
  show wpAny _ _ (do return Value.bool (!(← isSame (.ref (W.η i)) (.ref (W.η j))))) _ _ _
  refine wpAny_bind ?_
  by_cases hij : i = j
  · subst hij
    have : isSame (.ref (W.η i)) (.ref (W.η i)) = pure true := by
      show (if (W.η i == W.η i) = true then pure true else _) = _
      rw [if_pos (by simp)]
    rw [this]
    exact wpAny_pure (wpAny_pure (by simpa using hQ))
  · refine wpAny_isSame_ref_other' (fun q => hij (hi.inj _ _ p1 q1 q)) (hi.sub _ _ e1) (hi.sub _ _ e2) (by simp) ?_
    exact wpAny_pure (by simpa [hij] using hQ)

theorem cmp_ok {A : Around} {W : Wd} {s : Shared} {op : CmpOp} {a b : D} {c : Bool} {va vb : Value} {Q : Value → Shared → Prop} {E : Value → Shared → Prop} (hR : Room A n) (hi : Inv G W s) (h : cmpD op a b = some c) (ha : Rep W va a) (hb : Rep W vb b)
    (hQ : Q (.bool c) s) : wpAny (model prog w) A (compareOp op va vb) Q E s := by
  have hu := hR.units
  unfold cmpD at h
  split at h
  · obtain ⟨x, y, h1, h2, rfl⟩ := eqD_some h
    obtain ⟨as, r1, c1, d1⟩ := reads_ok hi _ _ _ _ h1 ha
    obtain ⟨bs, r2, c2, d2⟩ := reads_ok hi _ _ _ _ h2 hb
    exact compareEq_reads r1 r2 c1 c2 (by omega) hQ
  · obtain ⟨c', h', rfl⟩ := Option.map_eq_some_iff.mp h
    obtain ⟨x, y, h1, h2, rfl⟩ := eqD_some h'
    obtain ⟨as, r1, c1, d1⟩ := reads_ok hi _ _ _ _ h1 ha
    obtain ⟨bs, r2, c2, d2⟩ := reads_ok hi _ _ _ _ h2 hb
    exact compareNe_reads r1 r2 c1 c2 (by omega) hQ
  · obtain ⟨x, ys, h1, h2, rfl⟩ := inD_some h
    obtain ⟨as, r1, c1, d1⟩ := reads_ok hi _ _ _ _ h1 ha
    obtain ⟨bs, r2, c2, d2⟩ := reads_ok hi _ _ _ _ h2 hb
    rw [PyData.depth] at d2
    exact in_list_reads r2 r1 (by rw [PyData.canLay0] at c2; exact c2) c1 (by omega) hQ
  · obtain ⟨c', h', rfl⟩ := Option.map_eq_some_iff.mp h
    obtain ⟨x, ys, h1, h2, rfl⟩ := inD_some h'
    obtain ⟨as, r1, c1, d1⟩ := reads_ok hi _ _ _ _ h1 ha
    obtain ⟨bs, r2, c2, d2⟩ := reads_ok hi _ _ _ _ h2 hb
    rw [PyData.depth] at d2
    exact notIn_list_reads r2 r1 (by rw [PyData.canLay0] at c2; exact c2) c1 (by omega) hQ
  · obtain ⟨x, t, y, u, rfl, rfl, rfl⟩ := int2B_some h ha hb
    exact PyProof.Rows.lt_int hQ
  · obtain ⟨x, t, y, u, rfl, rfl, rfl⟩ := int2B_some h ha hb
    exact PyProof.Rows.gt_int hQ
  · cases b with
    | none => rw [rep_none hb]; cases h; exact is_none (by rw [rep_isNone ha]; exact hQ)
    | _ => exact nomatch h
  · cases b with
    | none => rw [rep_none hb]; cases h; exact isNot_none (by rw [rep_isNone ha]; exact hQ)
    | ent j => cases a with
      | ent i => exact isNot_ent hi (Option.some.inj h).symm ha hb hQ
      | _ => exact nomatch h
    | _ => exact nomatch h
  · cases h

noncomputable def cmpE (op : CmpOp) (f g : Ex) : Tx := fun ρ k => match f ρ k with
  | none => none
  | some (a, k1) => match g ρ k1 with
    | none => none
    | some (b, k2) => match cmpD op a b with
      | none => none
      | some c => some (c, k2)
theorem cmpE_some {op : CmpOp} {f g : Ex} {ρ : Rho} {k k' : Nat} {d : Bool} (h : cmpE op f g ρ k = some (d, k')) : ∃ a k1 b, f ρ k = some (a, k1) ∧ g ρ k1 = some (b, k') ∧ cmpD op a b = some d := by
  unfold cmpE at h
  split at h
  · cases h
  · rename_i a k1 h1
    split at h
    · cases h
    · rename_i b k2 h2
      split at h
      · cases h
      · rename_i d' h3; cases h; exact ⟨a, k1, b, h1, h2, h3⟩
/-- a test's value as data -/
noncomputable def boolE (f : Tx) : Ex := fun ρ k => match f ρ k with
  | none => none
  | some (b, k') => some (.bool b, k')
theorem boolE_some {f : Tx} {ρ : Rho} {k k' : Nat} {d : D} (h : boolE f ρ k = some (d, k')) : ∃ b, d = .bool b ∧ f ρ k = some (b, k') := by
  unfold boolE at h
  split at h
  · cases h
  · rename_i b k1 h1; cases h; exact ⟨b, rfl, h1⟩

theorem se_cmp {l r : Expr} {op pos} {f g : Ex} (hl : SE prog w G n sc l f) (hr : SE prog w G n sc r g) (hm : behindInMarks op r = false) : SE prog w G n sc (.Compare l [op] [r] pos) (boolE (cmpE op f g)) := fun A env ρ W ow s Q E hR hs he hi d k' hf hQ => by
  obtain ⟨c, rfl, hf2⟩ := boolE_some hf
  obtain ⟨a, k1, b, h1, h2, h3⟩ := cmpE_some hf2
  refine wpAny_Compare1 (hl A env ρ W ow s _ E hR hs he hi a k1 h1 fun va W1 s1 x1 e1 r1 => ?_) hm
  subst e1
  refine hr A env ρ W1 ow s1 _ E hR hs (he.ext hi x1) x1.inv b k' h2 fun vb W2 s2 x2 e2 r2 => ?_
  exact cmp_ok hR x2.inv h3 (r1.mono x2.le) r2 (hQ _ W2 s2 (x1.trans x2) e2 (.bool _))
theorem st_cmp {l r : Expr} {op pos} {f g : Ex} (hl : SE prog w G n sc l f) (hr : SE prog w G n sc r g) (hm : behindInMarks op r = false) : ST prog w G n sc (.Compare l [op] [r] pos) (cmpE op f g) := fun A env ρ W ow s Q E hR hs he hi d k' hf hQ => by
  obtain ⟨a, k1, b, h1, h2, h3⟩ := cmpE_some hf
  refine wpAny_isTrue_Compare1 (hl A env ρ W ow s _ E hR hs he hi a k1 h1 fun va W1 s1 x1 e1 r1 => ?_) hm
  subst e1
  refine hr A env ρ W1 ow s1 _ E hR hs (he.ext hi x1) x1.inv b k' h2 fun vb W2 s2 x2 e2 r2 => ?_
  exact cmp_ok hR x2.inv h3 (r1.mono x2.le) r2 (wpAny_truthy_bool (hQ W2 s2 (x1.trans x2) e2))

noncomputable def truthE (f : Ex) : Tx := fun ρ k => match f ρ k with
  | none => none
  | some (d, k') => match truthD d with
    | none => none
    | some b => some (b, k')
theorem truthE_some {f : Ex} {ρ : Rho} {k k' : Nat} {b : Bool} (h : truthE f ρ k = some (b, k')) : ∃ d, f ρ k = some (d, k') ∧ truthD d = some b := by
  unfold truthE at h
  split at h
  · cases h
  · rename_i d k1 h1
    split at h
    · cases h
    · rename_i b' h2; cases h; exact ⟨d, h1, h2⟩
/-- a test that is a plain value -/
theorem st_val {e : Expr} {f : Ex} (hx : SE prog w G n sc e f) (hp : ∀ env whole, isTrue e env whole = (do let v ← whole; standAt e.pos; holding [v] (truthy v))) : ST prog w G n sc e (truthE f) := fun A env ρ W ow s Q E hR hs he hi b k' hf hQ => by
  obtain ⟨d, h1, h2⟩ := truthE_some hf
  exact wpAny_isTrue_value (hx A env ρ W ow s _ E hR hs he hi d k' h1 fun v W1 s1 x1 e1 r1 => truth_ok h2 r1 (hQ W1 s1 x1 e1)) (hp _ _)
noncomputable def notT (f : Tx) : Tx := fun ρ k => match f ρ k with
  | none => none
  | some (b, k') => some (!b, k')
theorem st_not {x : Expr} {pos} {f : Tx} (hx : ST prog w G n sc x f) : ST prog w G n sc (.UnaryOp .Not x pos) (notT f) := fun A env ρ W ow s Q E hR hs he hi b k' hf hQ => by
  unfold notT at hf
  split at hf
  · cases hf
  · rename_i c k1 h1; cases hf
    exact PyProof.Rows.isTrue_not (hx A env ρ W ow s _ E hR hs he hi c _ h1 fun W1 s1 x1 e1 => hQ W1 s1 x1 e1)
noncomputable def andT (f g : Tx) : Tx := fun ρ k => match f ρ k with
  | none => none
  | some (false, k') => some (false, k')
  | some (true, k') => g ρ k'
theorem st_and {x y : Expr} {pos} {f g : Tx} (hx : ST prog w G n sc x f) (hy : ST prog w G n sc y g) : ST prog w G n sc (.BoolOp .And [x, y] pos) (andT f g) := fun A env ρ W ow s Q E hR hs he hi b k' hf hQ => by
  unfold andT at hf
  refine wpAny_isTrue_BoolOp (wpAny_allTrue_And_cons ?_)
  split at hf
  · cases hf
  · rename_i k1 h1; cases hf
    exact hx A env ρ W ow s _ E hR hs he hi _ _ h1 fun W1 s1 x1 e1 => hQ W1 s1 x1 e1
  · rename_i k1 h1
    refine hx A env ρ W ow s _ E hR hs he hi _ _ h1 fun W1 s1 x1 e1 => ?_
    subst e1
    simp only [if_true]
    refine wpAny_allTrue_And_cons (hy A env ρ W1 ow s1 _ E hR hs (he.ext hi x1) x1.inv _ _ hf fun W2 s2 x2 e2 => ?_)
    cases b
    · exact hQ W2 s2 (x1.trans x2) e2
    · exact wpAny_allTrue_And_nil (hQ W2 s2 (x1.trans x2) e2)
/-- or of two values -/
noncomputable def orE (f g : Ex) : Ex := fun ρ k => match f ρ k with
  | none => none
  | some (d, k') => match truthD d with
    | none => none
    | some true => some (d, k')
    | some false => g ρ k'
theorem se_or {x y : Expr} {pos} {f g : Ex} (hx : SE prog w G n sc x f) (hy : SE prog w G n sc y g) : SE prog w G n sc (.BoolOp .Or [x, y] pos) (orE f g) := fun A env ρ W ow s Q E hR hs he hi d k' hf hQ => by
  unfold orE at hf
  refine wpAny_Or2 ?_
  split at hf
  · cases hf
  · rename_i a k1 h1
    refine hx A env ρ W ow s _ E hR hs he hi _ _ h1 fun v W1 s1 x1 e1 r1 => ?_
    subst e1
    split at hf
    · cases hf
    · rename_i h2; cases hf
      exact truth_ok h2 r1 (hQ v W1 s1 x1 rfl r1)
    · rename_i h2
      exact truth_ok h2 r1 (hy A env ρ W1 ow s1 _ E hR hs (he.ext hi x1) x1.inv _ _ hf fun v2 W2 s2 x2 e2 r2 => hQ v2 W2 s2 (x1.trans x2) e2 r2)
noncomputable def iteE (t : Tx) (f g : Ex) : Ex := fun ρ k => match t ρ k with
  | none => none
  | some (true, k') => f ρ k'
  | some (false, k') => g ρ k'
theorem se_ite {t x y : Expr} {pos} {ft : Tx} {f g : Ex} (ht : ST prog w G n sc t ft) (hx : SE prog w G n sc x f) (hy : SE prog w G n sc y g) : SE prog w G n sc (.IfExp t x y pos) (iteE ft f g) := fun A env ρ W ow s Q E hR hs he hi d k' hf hQ => by
  unfold iteE at hf
  split at hf
  · cases hf
  · rename_i k1 h1
    refine wpAny_IfExp (ht A env ρ W ow s _ E hR hs he hi _ _ h1 fun W1 s1 x1 e1 => ?_)
    subst e1
    exact hx A env ρ W1 ow s1 _ E hR hs (he.ext hi x1) x1.inv _ _ hf fun v2 W2 s2 x2 e2 r2 => hQ v2 W2 s2 (x1.trans x2) e2 r2
  · rename_i k1 h1
    refine wpAny_IfExp (ht A env ρ W ow s _ E hR hs he hi _ _ h1 fun W1 s1 x1 e1 => ?_)
    subst e1
    exact hy A env ρ W1 ow s1 _ E hR hs (he.ext hi x1) x1.inv _ _ hf fun v2 W2 s2 x2 e2 r2 => hQ v2 W2 s2 (x1.trans x2) e2 r2

/-! lists of expressions, displays -/
noncomputable def nilL : Lx := fun _ k => some ([], k)
noncomputable def consL (f : Ex) (g : Lx) : Lx := fun ρ k => match f ρ k with
  | none => none
  | some (d, k1) => match g ρ k1 with
    | none => none
    | some (ds, k2) => some (d :: ds, k2)
theorem sl_nil : SL prog w G n sc [] nilL := fun A env ρ W ow s pos Q E hR hs he hi ds k' hf hQ => by
  cases hf; exact wpAny_items_nil (hQ _ _ _ (.refl hi) rfl .nil rfl)
theorem sl_cons {e : Expr} {es : List Expr} {f : Ex} {g : Lx} (h : SE prog w G n sc e f) (hr : SL prog w G n sc es g) (hst : ∀ env, starEach (e :: es) env = (false, eval e env) :: starEach es env) : SL prog w G n sc (e :: es) (consL f g) :=
  fun A env ρ W ow s pos Q E hR hs he hi ds k' hf hQ => by
  unfold consL at hf
  split at hf
  · cases hf
  · rename_i d k1 h1
    split at hf
    · cases hf
    · rename_i ds' k2 h2
      cases hf
      refine wpAny_items_cons (h A env ρ W ow s _ E hR hs he hi d k1 h1 fun v W1 s1 x1 e1 r1 => ?_) (hst env)
      subst e1
      refine hr A env ρ W1 ow s1 pos _ E hR hs (he.ext hi x1) x1.inv ds' _ h2 fun vs W2 s2 x2 e2 r2 l2 => ?_
      exact hQ _ W2 s2 (x1.trans x2) e2 (.cons (r1.mono x2.le) r2) (by simp [l2])
noncomputable def listE (g : Lx) : Ex := fun ρ k => match g ρ k with
  | none => none
  | some (ds, k') => some (.list ds, k')
noncomputable def tupE (g : Lx) : Ex := fun ρ k => match g ρ k with
  | none => none
  | some (ds, k') => some (.tuple ds, k')
theorem se_list {es : List Expr} {pos} {g : Lx} (h : SL prog w G n sc es g) (hb : es.length ≤ 1000) : SE prog w G n sc (.List es pos) (listE g) := fun A env ρ W ow s Q E hR hs he hi d k' hf hQ => by
  unfold listE at hf
  split at hf
  · cases hf
  · rename_i ds k1 h1; cases hf
    refine wpAny_List (h A env ρ W ow s pos _ E hR hs he hi ds _ h1 fun vs W1 s1 x1 e1 r1 l1 => ?_)
    have hb' : vs.length ≤ big := by rw [l1]; exact Nat.le_trans hb (by decide)
    exact ⟨Nat.le_trans hb' big_le, hQ _ _ _ (x1.trans (Ext.alloc (tk := s1.toks) x1.inv _ rfl)) e1 (rep_newList (m := 0) x1.inv r1 hb')⟩
theorem se_tuple {es : List Expr} {m pos} {g : Lx} (h : SL prog w G n sc es g) (hb : es.length ≤ 1000) : SE prog w G n sc (.Tuple es m pos) (tupE g) := fun A env ρ W ow s Q E hR hs he hi d k' hf hQ => by
  unfold tupE at hf
  split at hf
  · cases hf
  · rename_i ds k1 h1; cases hf
    refine wpAny_Tuple (h A env ρ W ow s pos _ E hR hs he hi ds _ h1 fun vs W1 s1 x1 e1 r1 l1 => ?_)
    have hb' : vs.length ≤ big := by rw [l1]; exact Nat.le_trans hb (by decide)
    exact ⟨Nat.le_trans hb' big_le, hQ _ _ _ (x1.trans (Ext.alloc (tk := s1.toks) x1.inv _ rfl)) e1 (rep_newTuple (m := 0) x1.inv r1 hb')⟩
end
end Mine
end

section
open PySem PySem.W PySem.Calls PyProof.Rows PySem.SeqAt
set_option Elab.async false
set_option maxRecDepth 100000
set_option linter.unusedVariables false
namespace Mine
section
variable {prog : Program} {w : World} {G : Heap} {mg mb : Str → Option Value} {n : Nat} {sc : Scope}

/-! items -/
noncomputable def idxD : D → D → Option D
  | .list xs, .int i => if 0 ≤ i ∧ i < 2 ^ 62 then xs[i.toNat]? else none
  | .str x, .int i => if 0 ≤ i ∧ i < 2 ^ 62 then (x.cps.toList[i.toNat]?).map fun c => .str ⟨#[c]⟩ else none
  | _, _ => none
noncomputable def idxE (f g : Ex) : Ex := fun ρ k => match f ρ k with
  | none => none
  | some (a, k1) => match g ρ k1 with
    | none => none
    | some (b, k2) => match idxD a b with
      | none => none
      | some d => some (d, k2)
theorem idxE_some {f g : Ex} {ρ : Rho} {k k' : Nat} {d : D} (h : idxE f g ρ k = some (d, k')) : ∃ a k1 b, f ρ k = some (a, k1) ∧ g ρ k1 = some (b, k') ∧ idxD a b = some d := by
  unfold idxE at h
  split at h
  · cases h
  · rename_i a k1 h1
    split at h
    · cases h
    · rename_i b k2 h2
      split at h
      · cases h
      · rename_i d' h3; cases h; exact ⟨a, k1, b, h1, h2, h3⟩
theorem se_idx {v i : Expr} {pos} {f g : Ex} (hv : SE prog w G n sc v f) (hx : SE prog w G n sc i g) (hs' : ∀ o j, subscripted i false o j = operate [o, j] (getItem o j)) : SE prog w G n sc (.Subscript v i pos) (idxE f g) := fun A env ρ W ow s Q E hR hs he hi d k' hf hQ => by
  obtain ⟨a, k1, b, h1, h2, h3⟩ := idxE_some hf
  refine Subscript_ (hv A env ρ W ow s _ E hR hs he hi a k1 h1 fun va W1 s1 x1 e1 r1 => ?_)
  subst e1
  refine hx A env ρ W1 ow s1 _ E hR hs (he.ext hi x1) x1.inv b k' h2 fun vb W2 s2 x2 e2 r2 => ?_
  have r1' := r1.mono x2.le
  unfold idxD at h3
  split at h3
  · split at h3
    · rename_i hb
      obtain ⟨t, rfl⟩ := rep_int r2
      obtain ⟨_, _, _, rfl, p1, p2, p3⟩ := rep_list r1'
      obtain ⟨v', hv', r3⟩ := p3.get _ _ h3
      refine tail_any (isList_of x2.inv p1).typeIs list_getitem_lookup (wpAny_getItem_list (isList_of x2.inv p1) hb.1 (by omega) (by simpa using hv') (hQ _ _ _ (x1.trans x2) e2 r3)) (hs' _ _)
    · cases h3
  · split at h3
    · rename_i x ii hb
      obtain ⟨c, h4, rfl⟩ := Option.map_eq_some_iff.mp h3
      obtain ⟨t, rfl⟩ := rep_int r2
      obtain ⟨u, rfl, hx⟩ := rep_str r1'
      have hlt : ii.toNat < x.cps.size := by simpa using (List.getElem?_eq_some_iff.mp h4).1
      refine tail_any (typeIs_str _ _ _) F.slot_str_getitem.lookup (PyProof.Rows.getItem_str (c := c) ?_ ?_ ?_) (hs' _ _)
      · have h1 : decide (ii < -(2 ^ 63 : Int)) = false := decide_eq_false (by omega)
        have h2 : decide (ii ≥ (2 ^ 63 : Int)) = false := decide_eq_false (by omega)
        rw [h1, h2]; rfl
      · unfold seqIndex?
        have : ¬ ii < 0 := by omega
        rw [if_neg this]
        have h5 : (decide (0 ≤ ii) && decide (ii < (x.length : Int))) = true := by
          simp only [Bool.and_eq_true, decide_eq_true_eq]; exact ⟨hb.1, by show ii < (x.cps.size : Int); omega⟩
        simp only [h5, if_true, Option.bind_some]
        simpa using h4
      · refine hQ _ _ _ ((x1.trans x2).trans (.toks x2.inv _)) e2 (.str _ ⟨by show 1 ≤ big; decide, fun c' hc' => ?_⟩)
        simp at hc'; subst hc'
        exact hx.2 _ (List.mem_of_getElem? h4)
    · cases h3
  · cases h3

/-! slices -/
noncomputable def strTake (x : Str) (m : Nat) : Str := ⟨(x.cps.toList.take m).toArray⟩
noncomputable def strDrop (x : Str) (m : Nat) : Str := ⟨(x.cps.toList.drop m).toArray⟩
theorem ascOk_take {x : Str} (h : AscOk x) (m : Nat) : AscOk (strTake x m) :=
  ⟨Nat.le_trans (by show (x.cps.toList.take m).toArray.size ≤ x.cps.size; simp; omega) h.1, fun c hc => h.2 c (List.mem_of_mem_take (by simpa [strTake] using hc))⟩
theorem ascOk_drop {x : Str} (h : AscOk x) (m : Nat) : AscOk (strDrop x m) :=
  ⟨Nat.le_trans (by show (x.cps.toList.drop m).toArray.size ≤ x.cps.size; simp) h.1, fun c hc => h.2 c (List.mem_of_mem_drop (by simpa [strDrop] using hc))⟩

theorem made_take {x : Str} {t u : Tok} {m : Nat} {s : Shared} {Q : Value → Shared → Prop} (hx : AscOk x) (h : ∀ t' tk, Q (.str (strTake x m) t') { s with toks := tk }) : (sliceMade x t none (some ((m : Int), u)) none).post Q s := by
  have hp : slicePicked x none (some ((m : Int), u)) none = (List.range (min m x.length)).map (0 + ·) := by
    show Builtin.Str.strSliceIndices none (some (m : Int)) 1 x.length = _
    unfold Builtin.Str.strSliceIndices
    have e : (max 0 (min (if (m : Int) < 0 then (m : Int) + (x.length : Int) else (m : Int)) (x.length : Int))) = ((min m x.length : Nat) : Int) := by
      rw [if_neg (by omega)]; omega
    show sliceRange 0 (max 0 (min (if (m : Int) < 0 then (m : Int) + (x.length : Int) else (m : Int)) (x.length : Int))) 1 = _
    rw [e]
    exact sliceRange_one 0 (min m x.length)
  have hpick : (slicePicked x none (some ((m : Int), u)) none).filterMap (x.cps[·]?) = x.cps.toList.take m := by
    rw [hp, pick_run]
    have : min m x.length = min m x.cps.toList.length := by simp [PySem.Str.length]
    rw [List.drop_zero, this]
    exact List.take_eq_take_iff.mpr (by omega)
  unfold sliceMade
  split
  · rename_i hc
    have hlen : min m x.length = x.length := by
      have := (Bool.and_eq_true_iff.mp hc).2
      rw [hp] at this; simpa using this
    have e : strTake x m = x := by
      unfold strTake
      rw [List.take_of_length_le (by have : x.cps.toList.length = x.length := by simp [PySem.Str.length]
                                     omega)]
    have := h t s.toks
    rw [e] at this
    exact this
  · rw [hpick]
    exact ⟨Nat.le_trans (ascOk_take hx m).1 big_le, h _ _⟩

theorem made_drop {x : Str} {t u : Tok} {m : Nat} {s : Shared} {Q : Value → Shared → Prop} (hx : AscOk x) (h : ∀ t' tk, Q (.str (strDrop x m) t') { s with toks := tk }) : (sliceMade x t (some ((m : Int), u)) none none).post Q s := by
  have hp : slicePicked x (some ((m : Int), u)) none none = (List.range (x.length - min m x.length)).map (min m x.length + ·) := by
    show Builtin.Str.strSliceIndices (some (m : Int)) none 1 x.length = _
    unfold Builtin.Str.strSliceIndices
    have e : (max 0 (min (if (m : Int) < 0 then (m : Int) + (x.length : Int) else (m : Int)) (x.length : Int))) = ((min m x.length : Nat) : Int) := by
      rw [if_neg (by omega)]; omega
    show sliceRange (max 0 (min (if (m : Int) < 0 then (m : Int) + (x.length : Int) else (m : Int)) (x.length : Int))) (x.length : Int) 1 = _
    rw [e]
    exact sliceRange_one (min m x.length) x.length
  have hpick : (slicePicked x (some ((m : Int), u)) none none).filterMap (x.cps[·]?) = x.cps.toList.drop m := by
    rw [hp, pick_run]
    have h0 : x.length = x.cps.toList.length := by simp [PySem.Str.length]
    rw [List.take_of_length_le (by rw [List.length_drop]; omega)]
    by_cases hm : m ≤ x.length
    · rw [Nat.min_eq_left hm]
    · rw [Nat.min_eq_right (by omega), List.drop_eq_nil_of_le (by omega), List.drop_eq_nil_of_le (by omega)]
  unfold sliceMade
  split
  · rename_i hc
    have hlen : x.length - min m x.length = x.length := by
      have := (Bool.and_eq_true_iff.mp hc).2
      rw [hp] at this; simpa using this
    have e : strDrop x m = x := by
      unfold strDrop
      have : m = 0 ∨ x.length = 0 := by omega
      rcases this with h1 | h1
      · subst h1; simp
      · have h0 : x.cps.toList.length = 0 := by simpa [PySem.Str.length] using h1
        have : x.cps.toList = [] := List.length_eq_zero_iff.mp h0
        cases x; simp_all
    have := h t s.toks
    rw [e] at this
    exact this
  · rw [hpick]
    exact ⟨Nat.le_trans (ascOk_drop hx m).1 big_le, h _ _⟩

noncomputable def hiD : D → D → Option D
  | .list xs, .int j => if 0 ≤ j then some (.list (xs.take j.toNat)) else none
  | .str x, .int j => if 0 ≤ j then some (.str (strTake x j.toNat)) else none
  | _, _ => none
noncomputable def loD : D → D → Option D
  | .list xs, .int j => if 0 ≤ j then some (.list (xs.drop j.toNat)) else none
  | .str x, .int j => if 0 ≤ j then some (.str (strDrop x j.toNat)) else none
  | _, _ => none
noncomputable def twoE (op : D → D → Option D) (f g : Ex) : Ex := fun ρ k => match f ρ k with
  | none => none
  | some (a, k1) => match g ρ k1 with
    | none => none
    | some (b, k2) => match op a b with
      | none => none
      | some d => some (d, k2)
theorem twoE_some {op : D → D → Option D} {f g : Ex} {ρ : Rho} {k k' : Nat} {d : D} (h : twoE op f g ρ k = some (d, k')) : ∃ a k1 b, f ρ k = some (a, k1) ∧ g ρ k1 = some (b, k') ∧ op a b = some d := by
  unfold twoE at h
  split at h
  · cases h
  · rename_i a k1 h1
    split at h
    · cases h
    · rename_i b k2 h2
      split at h
      · cases h
      · rename_i d' h3; cases h; exact ⟨a, k1, b, h1, h2, h3⟩
noncomputable abbrev sliceO (l u st : Value) : Obj := { cls := .type "slice", data := .fields #[l, u, st] }
theorem se_hi {v e : Expr} {p pos} {f g : Ex} (hv : SE prog w G n sc v f) (hx : SE prog w G n sc e g) : SE prog w G n sc (.Subscript v (.Slice none (some e) none p) pos) (twoE hiD f g) := fun A env ρ W ow s Q E hR hs he hi d k' hf hQ => by
  obtain ⟨a, k1, b, h1, h2, h3⟩ := twoE_some hf
  refine Subscript_ (hv A env ρ W ow s _ E hR hs he hi a k1 h1 fun va W1 s1 x1 e1 r1 => ?_)
  subst e1
  refine wpAny_Slice ?_
  rw [evalPart_none, evalPart_some]
  refine wpAny_pure (hx A env ρ W1 ow s1 _ E hR hs (he.ext hi x1) x1.inv b k' h2 fun vb W2 s2 x2 e2 r2 => ?_)
  refine wpAny_pure ?_
  have r1' := r1.mono x2.le
  have x3 := Ext.push x2.inv (sliceO .none vb .none) s2.toks
  have hp := x3.inv
  have hsl : ({ s2 with heap := s2.heap.push (sliceO .none vb .none) } : Shared).heap.IsSliceOf s2.heap.objs.size .none vb .none := Heap.IsSliceOf.new ..
  unfold hiD at h3
  split at h3
  · rename_i xs j
    split at h3
    · rename_i hj; cases h3
      obtain ⟨jj, rfl⟩ : ∃ jj : Nat, j = (jj : Int) := ⟨j.toNat, by omega⟩
      obtain ⟨t, rfl⟩ := rep_int r2
      obtain ⟨l, vs, m, rfl, p1, p2, p3⟩ := rep_list r1'
      refine tail_any (isList_of hp p1).typeIs list_getitem_lookup (wpAny_getItem_list_slice (lo := none) (hi := some (jj : Int)) (st := none) (isList_of hp p1) hsl .none (.int _ _) .none (by simp) ?_ (by simpa using Nat.le_trans p2 big_le)) rfl
      rw [slicePick_upto']
      refine hQ _ _ _ (((x1.trans x2).trans x3).trans (Ext.alloc (tk := s2.toks) hp _ rfl)) e2 ?_
      have := rep_newList (m := 0) hp (p3.take jj) (by rw [List.length_take]; omega)
      simpa using this
    · cases h3
  · rename_i x j
    split at h3
    · rename_i hj; cases h3
      obtain ⟨jj, rfl⟩ : ∃ jj : Nat, j = (jj : Int) := ⟨j.toNat, by omega⟩
      obtain ⟨t, rfl⟩ := rep_int r2
      obtain ⟨u, rfl, hx'⟩ := rep_str r1'
      refine tail_any (typeIs_str _ _ _) F.slot_str_getitem.lookup (wpAny_getItem_str_slice (l := none) (u := some ((jj : Int), t)) (st := none) ⟨_, Heap.get?_push_size _ rfl, rfl, rfl⟩ rfl ?_) rfl
      refine made_take hx' fun t' tk => ?_
      exact hQ _ _ _ (((x1.trans x2).trans x3).trans (.toks hp _)) e2 (.str _ (ascOk_take hx' _))
    · cases h3
  · cases h3
theorem se_lo {v e : Expr} {p pos} {f g : Ex} (hv : SE prog w G n sc v f) (hx : SE prog w G n sc e g) : SE prog w G n sc (.Subscript v (.Slice (some e) none none p) pos) (twoE loD f g) := fun A env ρ W ow s Q E hR hs he hi d k' hf hQ => by
  obtain ⟨a, k1, b, h1, h2, h3⟩ := twoE_some hf
  refine Subscript_ (hv A env ρ W ow s _ E hR hs he hi a k1 h1 fun va W1 s1 x1 e1 r1 => ?_)
  subst e1
  refine wpAny_Slice ?_
  rw [evalPart_some]
  refine hx A env ρ W1 ow s1 _ E hR hs (he.ext hi x1) x1.inv b k' h2 fun vb W2 s2 x2 e2 r2 => ?_
  rw [evalPart_none]
  refine wpAny_pure (wpAny_pure ?_)
  have r1' := r1.mono x2.le
  have x3 := Ext.push x2.inv (sliceO vb .none .none) s2.toks
  have hp := x3.inv
  have hsl : ({ s2 with heap := s2.heap.push (sliceO vb .none .none) } : Shared).heap.IsSliceOf s2.heap.objs.size vb .none .none := Heap.IsSliceOf.new ..
  unfold loD at h3
  split at h3
  · rename_i xs j
    split at h3
    · rename_i hj; cases h3
      obtain ⟨jj, rfl⟩ : ∃ jj : Nat, j = (jj : Int) := ⟨j.toNat, by omega⟩
      obtain ⟨t, rfl⟩ := rep_int r2
      obtain ⟨l, vs, m, rfl, p1, p2, p3⟩ := rep_list r1'
      refine tail_any (isList_of hp p1).typeIs list_getitem_lookup (wpAny_getItem_list_slice (lo := some (jj : Int)) (hi := none) (st := none) (isList_of hp p1) hsl (.int _ _) .none .none (by simp) ?_ (by simpa using Nat.le_trans p2 big_le)) rfl
      rw [slicePick_from']
      refine hQ _ _ _ (((x1.trans x2).trans x3).trans (Ext.alloc (tk := s2.toks) hp _ rfl)) e2 ?_
      have := rep_newList (m := 0) hp (p3.drop jj) (by rw [List.length_drop]; omega)
      simpa using this
    · cases h3
  · rename_i x j
    split at h3
    · rename_i hj; cases h3
      obtain ⟨jj, rfl⟩ : ∃ jj : Nat, j = (jj : Int) := ⟨j.toNat, by omega⟩
      obtain ⟨t, rfl⟩ := rep_int r2
      obtain ⟨u, rfl, hx'⟩ := rep_str r1'
      refine tail_any (typeIs_str _ _ _) F.slot_str_getitem.lookup (wpAny_getItem_str_slice (l := some ((jj : Int), t)) (u := none) (st := none) ⟨_, Heap.get?_push_size _ rfl, rfl, rfl⟩ rfl ?_) rfl
      refine made_drop hx' fun t' tk => ?_
      exact hQ _ _ _ (((x1.trans x2).trans x3).trans (.toks hp _)) e2 (.str _ (ascOk_drop hx' _))
    · cases h3
  · cases h3
noncomputable def revE (f : Ex) : Ex := fun ρ k => match f ρ k with
  | some (.list xs, k') => some (.list xs.reverse, k')
  | _ => none
theorem se_rev {v : Expr} {q p p1 p2 pos} {f : Ex} (hv : SE prog w G n sc v f) : SE prog w G n sc (.Subscript v (.Slice none none (some (.UnaryOp .USub (.Constant (.int 1) q p1) p2)) p) pos) (revE f) := fun A env ρ W ow s Q E hR hs he hi d k' hf hQ => by
  unfold revE at hf
  split at hf
  · rename_i xs k1 h1; cases hf
    refine Subscript_ (hv A env ρ W ow s _ E hR hs he hi _ _ h1 fun va W1 s1 x1 e1 r1 => ?_)
    subst e1
    refine wpAny_Slice ?_
    rw [evalPart_none, evalPart_some]
    refine wpAny_pure (wpAny_pure ?_)
    refine se_neg se_int A env ρ W1 ow s1 _ E hR hs (he.ext hi x1) x1.inv _ _ rfl fun vb W2 s2 x2 e2 r2 => ?_
    obtain ⟨t, rfl⟩ := rep_int r2
    have r1' := r1.mono x2.le
    have x3 := Ext.push x2.inv (sliceO .none .none (.int (-1) t)) s2.toks
    have hp := x3.inv
    have hsl : ({ s2 with heap := s2.heap.push (sliceO .none .none (.int (-1) t)) } : Shared).heap.IsSliceOf s2.heap.objs.size .none .none (.int (-1) t) := Heap.IsSliceOf.new ..
    obtain ⟨l, vs, m, rfl, p1, p2, p3⟩ := rep_list r1'
    refine tail_any (isList_of hp p1).typeIs list_getitem_lookup (wpAny_getItem_list_slice (lo := none) (hi := none) (st := some (-1)) (isList_of hp p1) hsl .none .none (.int _ _) (by simp) ?_ (by simpa using Nat.le_trans p2 big_le)) rfl
    rw [krv_pick]
    refine hQ _ _ _ (((x1.trans x2).trans x3).trans (Ext.alloc (tk := s2.toks) hp _ rfl)) e2 ?_
    have := rep_newList (m := 0) hp p3.reverse (by rw [List.length_reverse]; exact p2)
    simpa using this
  · cases hf
end
end Mine
end

section
open PySem PySem.W PySem.Calls PyProof.Rows PySem.SeqAt
set_option Elab.async false
set_option maxRecDepth 100000
set_option linter.unusedVariables false
namespace Mine
section
variable {prog : Program} {w : World} {G : Heap} {mg mb : Str → Option Value} {n : Nat} {sc : Scope}

/-! stores -/
noncomputable def bindOk (sc : Scope) (x : Str) : Bool := match sc.names.lookup x with
  | some .local | some .cell => true
  | _ => false
theorem own_ne_TB {env : Env} {ρ : Rho} {W : Wd} {ow : List Addr} {s : Shared} {b : Addr} (he : EnvOk env ρ W ow s) (hi : Inv G W s) (h : Own env ow b) : b ≠ TB := by
  obtain ⟨ps, hT, _⟩ := hi.tab
  obtain ⟨o, h1, h2, _⟩ := he.own_live h
  exact not_tab_of_ne h1 hT h2
theorem ow_ne {env : Env} {ρ : Rho} {W : Wd} {ow : List Addr} {s : Shared} {b a : Addr} (he : EnvOk env ρ W ow s) (h : Own env [] b) (ha : a ∈ ow) : a ≠ b := by
  obtain ⟨_, vs, m, h1⟩ := he.owP a ha
  rintro rfl
  rcases h with rfl | ⟨y, hy⟩ | h
  · obtain ⟨m', ⟨o, es, ep, ho, hd, _⟩, _⟩ := he.ns
    rw [h1] at ho; cases ho; cases hd
  · obtain ⟨_, vo, o, h2, h3⟩ := he.cellP y a hy
    rw [h1] at h2; cases h2; cases h3
  · cases h

/-- the place of a name -/
noncomputable def Pl (env : Env) (x : Str) (b : Addr) : Prop := (env.kindOf x = some .local ∧ b = env.locals) ∨ (env.kindOf x = some .cell ∧ env.cells.lookup x = some b)
noncomputable def OwnN (env : Env) (N : List Str) (b : Addr) : Prop := ∃ x ∈ N, Pl env x b
theorem OwnN.own {env : Env} {N : List Str} {ow : List Addr} {b : Addr} (h : OwnN env N b) : Own env ow b := by
  obtain ⟨x, _, h | h⟩ := h
  · exact .inl h.2
  · exact .inr (.inl ⟨x, h.2⟩)

theorem st_ok {A : Around} {env : Env} {ρ : Rho} {W : Wd} {ow : List Addr} {s : Shared} {x : Str} {d : D} {v : Value} {Q : Unit → Shared → Prop} {E : Value → Shared → Prop} (he : EnvOk env ρ W ow s) (hi : Inv G W s) (hb : bindOk env.scope x = true) (hr : RepV W ow s v d)
    (h : ∀ h' tk, (∀ b o, ¬ Pl env x b → s.heap.get? b = some o → h'.get? b = some o) → (∀ b, h'.get? b = none → s.heap.get? b = none) → EnvOk env (upd ρ x d) W ow { s with heap := h', toks := tk } → Inv G W { s with heap := h', toks := tk } → Q () { s with heap := h', toks := tk }) :
    wpAny (model prog w) A (storeName env x v) Q E s := by
  obtain ⟨m, hn, hm⟩ := he.ns
  have hnL := hn
  unfold bindOk at hb
  split at hb
  · rename_i hk
    refine wpAny_storeName_local hk hn (fun h' hn' hs' => ?_) (by rw [he.kind]; rfl)
    have hkeep : ∀ b o, b ∉ [env.locals] → s.heap.get? b = some o → h'.get? b = some o := fun b o hb e => hs'.extBut b o (by simpa using hb) e
    have rv : ∀ v d, RepV W ow s v d → RepV W ow { s with heap := h', toks := s.toks + 1 } v d := fun v d r => r.ext (.refl _ s.heap) fun a vs m ha q => hs'.extBut a _ (ow_ne he (.inl rfl) ha) q
    refine h h' (s.toks + 1) (fun b o hb e => hs'.extBut b o (fun q => hb (.inl ⟨hk, q⟩)) e) (fun b hb => ?_) ⟨he.kind, he.glob, he.blt, ⟨_, hn', fun y d' h1 h2 => ?_⟩, fun y hy => ?_, he.apart, fun y c hc => ?_, he.locP, fun a ha => ?_⟩ (hi.change [env.locals] hkeep (by simpa using he.locP) (by simpa using (own_ne_TB he hi (.inl rfl)).symm))
    · by_cases q : b = env.locals
      · obtain ⟨o, es, ep, ho, _⟩ := hn'
        rw [q, ho] at hb; cases hb
      · rw [hs'.2 b q] at hb; exact hb
    · by_cases q : y = x
      · subst q
        have : d' = d := by simpa [upd] using h1.symm
        subst this
        exact ⟨v, by simp, rv _ _ hr⟩
      · have h1' : ρ y = some d' := by simpa [upd, q] using h1
        obtain ⟨v', h3, h4⟩ := hm y d' h1' h2
        exact ⟨v', by simpa [q] using h3, rv _ _ h4⟩
    · obtain ⟨c, vo, h1, ⟨oc, h2, h2'⟩, h3⟩ := he.cell y hy
      have hne : y ≠ x := by
        rintro rfl
        have hk' : env.kindOf y = some .local := hk
        rcases hy with hy | hy <;> (rw [hk'] at hy; cases hy)
      refine ⟨c, vo, h1, ⟨oc, hs'.extBut _ _ (fun q => ?_) h2, h2'⟩, fun d' hd' => ?_⟩
      · obtain ⟨o, es, ep, ho, hd, _⟩ := hnL
        rw [q, ho] at h2; cases h2; rw [hd] at h2'; cases h2'
      · have : ρ y = some d' := by simpa [upd, hne] using hd'
        obtain ⟨v', h4, h5⟩ := h3 d' this
        exact ⟨v', h4, rv _ _ h5⟩
    · obtain ⟨h1, vo, oc, h2, h2'⟩ := he.cellP y c hc
      refine ⟨h1, vo, oc, hs'.extBut _ _ (fun q => ?_) h2, h2'⟩
      obtain ⟨o, es, ep, ho, hd, _⟩ := hnL
      rw [q, ho] at h2; cases h2; rw [hd] at h2'; cases h2'
    · obtain ⟨h1, vs, m', h2⟩ := he.owP a ha
      exact ⟨h1, vs, m', hs'.extBut _ _ (ow_ne he (.inl rfl) ha) h2⟩
  · rename_i hk
    obtain ⟨c, vo, hc, hcell, _⟩ := he.cell x (.inl hk)
    refine wpAny_storeName_cell he.kind hk hc hcell fun h' hc' hs' => ?_
    have hoc : Own env [] c := .inr (.inl ⟨x, hc⟩)
    have hkeep : ∀ b o, b ∉ [c] → s.heap.get? b = some o → h'.get? b = some o := fun b o hb e => hs'.extBut b o (by simpa using hb) e
    have rv : ∀ v d, RepV W ow s v d → RepV W ow { s with heap := h', toks := s.toks } v d := fun v d r => r.ext (.refl _ s.heap) fun a vs m ha q => hs'.extBut a _ (ow_ne he hoc ha) q
    have hLc : env.locals ≠ c := fun q => by
      obtain ⟨o, es, ep, ho, hd, _⟩ := hnL
      obtain ⟨oc, h2, h2'⟩ := hcell
      rw [q, h2] at ho; cases ho; rw [hd] at h2'; cases h2'
    refine h h' s.toks (fun b o hb e => hs'.extBut b o (fun q => hb (.inr ⟨hk, q ▸ hc⟩)) e) (fun b hb => ?_) ⟨he.kind, he.glob, he.blt, ⟨m, hn.sameBut hs' hLc, fun y d' h1 h2 => ?_⟩, fun y hy => ?_, he.apart, fun y c' hc2 => ?_, he.locP, fun a ha => ?_⟩ (hi.change [c] hkeep (by simpa using (he.cellP x c hc).1) (by simpa using (own_ne_TB he hi (.inr (.inl ⟨x, hc⟩))).symm))
    · by_cases q : b = c
      · obtain ⟨o, ho, _⟩ := hc'
        rw [q, ho] at hb; cases hb
      · rw [hs'.2 b q] at hb; exact hb
    · have hne : y ≠ x := by
        rintro rfl
        have hk' : env.kindOf y = some .cell := hk
        rw [hk'] at h2; cases h2
      have h1' : ρ y = some d' := by simpa [upd, hne] using h1
      obtain ⟨v', h3, h4⟩ := hm y d' h1' h2
      exact ⟨v', h3, rv _ _ h4⟩
    · by_cases q : y = x
      · subst q
        refine ⟨c, some v, hc, hc', fun d' hd' => ?_⟩
        have : d' = d := by simpa [upd] using hd'.symm
        subst this
        exact ⟨v, rfl, rv _ _ hr⟩
      · obtain ⟨c2, vo2, h1, h2, h3⟩ := he.cell y hy
        have hcc : c2 ≠ c := fun e => q (he.apart y x c (e ▸ h1) hc)
        refine ⟨c2, vo2, h1, h2.sameBut hs' hcc, fun d' hd' => ?_⟩
        have : ρ y = some d' := by simpa [upd, q] using hd'
        obtain ⟨v', h4, h5⟩ := h3 d' this
        exact ⟨v', h4, rv _ _ h5⟩
    · obtain ⟨h1, vo', h2⟩ := he.cellP y c' hc2
      by_cases q : c' = c
      · subst q; exact ⟨h1, some v, hc'⟩
      · exact ⟨h1, vo', h2.sameBut hs' q⟩
    · obtain ⟨h1, vs, m', h2⟩ := he.owP a ha
      exact ⟨h1, vs, m', hs'.extBut _ _ (ow_ne he hoc ha) h2⟩
  · cases hb
end
end Mine
end

section
open PySem PySem.W PySem.Calls PyProof.Rows PySem.SeqAt
set_option Elab.async false
set_option maxRecDepth 100000
set_option linter.unusedVariables false
namespace Mine
section
variable {prog : Program} {w : World} {A : Around} {E : Value → Shared → Prop} {s : Shared} {env : Env} {elt target iter : Expr} {ifs : List Expr} {gens : List Comprehension} {scope : Scope} {pos : Pos} {depth : Nat} {it acc : Value}

noncomputable abbrev testsT (ifs : List Expr) (env : Env) : Sem Bool := forIn ifs true fun c r => if r = true then do let ok ← isTrue c env (eval c env); pure (ForInStep.yield ok) else pure (ForInStep.yield r)

theorem turn_last {Q : Fin → Shared → Prop} (hg : gens[depth]? = some ⟨target, iter, ifs, 0⟩) (hn : gens[depth + 1]? = none)
    (h : wpAny (model prog w) A (pyNext it) (fun r s₁ => match r with
      | none => Q (.done .next) s₁
      | some v => wpAny (model prog w) A (letOwnedTupleGo target it v) (fun _ s₂ => wpAny (model prog w) A (assign target env v) (fun _ s₃ =>
          wpAny (model prog w) A (testsT ifs env) (fun ok s₄ => if ok = true then
              wpAny (model prog w) A (eval elt env) (fun x s₅ => wpAny (model prog w) A (call (.builtin "list.append") [acc, x]) (fun _ s₆ => Q (.again (.compLoop (.ListComp elt gens scope pos) depth it acc env)) s₆) E s₅) E s₄
            else Q (.again (.compLoop (.ListComp elt gens scope pos) depth it acc env)) s₄) E s₃) E s₂) E s₁) E s) :
    wpAny (model prog w) A (compTurn (.ListComp elt gens scope pos) depth it acc env) Q E s := by
  unfold compTurn
  simp only [hg, hn]
  refine wpAny_bind (wpAny_standAt (wpAny_bind (wpAny_mono h (fun r s₁ h₁ => ?_) fun _ _ h' => h')))
  cases r with
  | none => exact wpAny_pure h₁
  | some v =>
    refine wpAny_bind (wpAny_mono h₁ (fun _ s₂ h₂ => wpAny_bind (wpAny_mono h₂ (fun _ s₃ h₃ => wpAny_bind (wpAny_mono h₃ (fun ok s₄ h₄ => ?_) fun _ _ e => e)) fun _ _ e => e)) fun _ _ e => e)
    cases ok with
    | false => exact wpAny_pure h₄
    | true => exact wpAny_bind (wpAny_bind (wpAny_mono h₄ (fun x s₅ h₅ => wpAny_bind (wpAny_mono h₅ (fun _ s₆ h₆ => wpAny_pure (wpAny_pure h₆)) fun _ _ e => e)) fun _ _ e => e))

theorem turn_more {Q : Fin → Shared → Prop} {target' iter' : Expr} {ifs' : List Expr} (hg : gens[depth]? = some ⟨target, iter, ifs, 0⟩) (hn : gens[depth + 1]? = some ⟨target', iter', ifs', 0⟩) (hs : ∀ x, foldedSetIterable iter' env x = pure x)
    (h : wpAny (model prog w) A (pyNext it) (fun r s₁ => match r with
      | none => Q (.done .next) s₁
      | some v => wpAny (model prog w) A (letOwnedTupleGo target it v) (fun _ s₂ => wpAny (model prog w) A (assign target env v) (fun _ s₃ =>
          wpAny (model prog w) A (testsT ifs env) (fun ok s₄ => if ok = true then
              wpAny (model prog w) A (eval iter' env) (fun x s₅ => wpAny (model prog w) A (pyIter x) (fun it' s₆ =>
                codeAny (model prog w) A (.compStart (.ListComp elt gens scope pos) (depth + 1) it' acc env) (fun r s' => match r with | .ok _ => Q (.again (.compLoop (.ListComp elt gens scope pos) depth it acc env)) s' | .error e => cameBackBy (model prog w) A env E e s') s₆) E s₅) E s₄
            else Q (.again (.compLoop (.ListComp elt gens scope pos) depth it acc env)) s₄) E s₃) E s₂) E s₁) E s) :
    wpAny (model prog w) A (compTurn (.ListComp elt gens scope pos) depth it acc env) Q E s := by
  unfold compTurn
  simp only [hg, hn]
  refine wpAny_bind (wpAny_standAt (wpAny_bind (wpAny_mono h (fun r s₁ h₁ => ?_) fun _ _ h' => h')))
  cases r with
  | none => exact wpAny_pure h₁
  | some v =>
    refine wpAny_bind (wpAny_mono h₁ (fun _ s₂ h₂ => wpAny_bind (wpAny_mono h₂ (fun _ s₃ h₃ => wpAny_bind (wpAny_mono h₃ (fun ok s₄ h₄ => ?_) fun _ _ e => e)) fun _ _ e => e)) fun _ _ e => e)
    cases ok with
    | false => exact wpAny_pure h₄
    | true =>
      refine wpAny_bind (wpAny_mono h₄ (fun x s₅ h₅ => wpAny_bind (wpAny_standAt (wpAny_bind (wpAny_of_eq (hs x) (wpAny_bind (wpAny_holding (wpAny_mono h₅ (fun it' s₆ h₆ => ?_) fun _ _ e => e))))))) fun _ _ e => e)
      refine wpAny_bind (wpAny_runOwn (h := none) (codeAny_mono h₆ fun r s' hr => ?_))
      cases r with
      | ok f => exact wpAny_pure hr
      | error e => exact hr

/-- the nested block's start, at any depth -/
theorem start_any {R : Result → Shared → Prop} (hg : gens[depth]? = some ⟨target, iter, ifs, 0⟩)
    (h0 : codeAny (model prog w) A (.compLoop (.ListComp elt gens scope pos) depth it acc env) R s)
    (h : wpAny (model prog w) A (pyIter it) (fun it' s' => codeAny (model prog w) A (.compLoop (.ListComp elt gens scope pos) depth it' acc env) R s') (notedBy (model prog w) A env fun x s' => R (.error x) s') s) :
    codeAny (model prog w) A (.compStart (.ListComp elt gens scope pos) depth it acc env) R s := by
  refine codeAny_of_tree ?_
  show wpAny _ _ ((compStart (.ListComp elt gens scope pos) depth it acc env).onRaise (fun x => do noteFrame x env; standAt theWindowsPlace)) _ _ s
  refine wpAny_notedAt ?_
  unfold compStart
  have hcl : (clausesOf (.ListComp elt gens scope pos))[depth]? = some ⟨target, iter, ifs, 0⟩ := hg
  simp only [hcl]
  show wpAny _ _ (ask >>= _) _ _ s
  refine wpAny_bind (wpAny_askSetting (wpAny_ite ?_))
  split
  · first
      | exact wpAny_bind (wpAny_pure (wpAny_pure (And.intro rfl h0)))
      | exact wpAny_pure (And.intro rfl h0)
  · first
      | exact wpAny_bind (wpAny_rule (wpAny_bind (wpAny_standAt (wpAny_bind (wpAny_mono h (fun it' s' h' => wpAny_pure (And.intro rfl h')) fun _ _ x => x)))))
      | (refine wpAny_bind (wpAny_rule ?_); show wpAny _ _ (standAt iter.pos >>= _) _ _ s; exact wpAny_bind (wpAny_standAt (wpAny_bind (wpAny_mono h (fun it' s' h' => wpAny_pure (And.intro rfl h')) fun _ _ x => x))))
end
end Mine
end

section
open PySem PySem.W PySem.Calls PyProof.Rows PySem.SeqAt
set_option Elab.async false
set_option maxRecDepth 100000
set_option linter.unusedVariables false
namespace Mine
noncomputable abbrev Wsub (W W' : Wd) : Prop := Wle W W' ({} : Heap)
theorem empty_get (a : Addr) : ({} : Heap).get? a = none := by simp [Heap.get?]
theorem Wle.weak {W W' : Wd} {h : Heap} (x : Wle W W' h) : Wsub W W' := ⟨x.sub, fun a _ _ => .inr (empty_get a), x.eta, x.k⟩
theorem Wsub.trans {W W' W'' : Wd} (x : Wsub W W') (y : Wsub W' W'') : Wsub W W'' := Wle.trans x y fun _ h => h

theorem EnvOk.drop {env : Env} {ρ ρ' : Rho} {W : Wd} {ow : List Addr} {s : Shared} (x : EnvOk env ρ' W ow s) (h : ∀ y d, ρ y = some d → ρ' y = some d) : EnvOk env ρ W ow s := by
  obtain ⟨m, hn, hm⟩ := x.ns
  refine ⟨x.kind, x.glob, x.blt, ⟨m, hn, fun y d h1 h2 => hm y d (h y d h1) h2⟩, fun y hy => ?_, x.apart, x.cellP, x.locP, x.owP⟩
  obtain ⟨c, vo, h1, h2, h3⟩ := x.cell y hy
  exact ⟨c, vo, h1, h2, fun d hd => h3 d (h y d hd)⟩

/-- an iterator with a target: each turn binds the next item -/
structure Src (prog : Program) (w : World) (G : Heap) (A : Around) (it : Value) (target : Expr) (sc : Scope) (bf : D → Rho → Option Rho) (ds : List D) (W0 : Wd) (N : List Str) (fp wr : List Addr) (St : Nat → Heap → Prop) : Prop where
  sub : ∀ b ∈ wr, b ∈ fp
  live : ∀ i h, St i h → ∀ b ∈ fp, ∃ o, h.get? b = some o
  frame : ∀ i h h', St i h → (∀ b ∈ fp, ∀ o, h.get? b = some o → h'.get? b = some o) → St i h'
  done : ∀ (s : Shared) (Q : Option Value → Shared → Prop) (E : Value → Shared → Prop), St ds.length s.heap →
    (∀ h' tk, (∀ b o, b ∉ wr → s.heap.get? b = some o → h'.get? b = some o) → Q none { s with heap := h', toks := tk }) → wpAny (model prog w) A (pyNext it) Q E s
  self : ∀ i (s : Shared) (Q : Value → Shared → Prop) (E : Value → Shared → Prop), St i s.heap → Q it s → wpAny (model prog w) A (pyIter it) Q E s
  turn : ∀ i d (env : Env) ρ ρ' W ow (s : Shared) (Q : Unit → Shared → Prop) (E : Value → Shared → Prop), ds[i]? = some d → bf d ρ = some ρ' → St i s.heap → env.scope = sc → EnvOk env ρ W ow s → Inv G W s → Wsub W0 W →
    (∀ b ∈ fp, ¬ Own env ow b) → (∀ b ∈ wr, W.P b = none ∧ b ≠ TB) →
    (∀ h' tk W', (∀ b o, b ∉ wr → ¬ OwnN env N b → s.heap.get? b = some o → h'.get? b = some o) → (∀ b, h'.get? b = none → s.heap.get? b = none) → Wle W W' s.heap → W'.k = W.k →
      EnvOk env ρ' W' ow { s with heap := h', toks := tk } → Inv G W' { s with heap := h', toks := tk } → St (i + 1) h' → Q () { s with heap := h', toks := tk }) →
    wpAny (model prog w) A (pyNext it) (fun r s₁ => match r with
      | none => False
      | some v => wpAny (model prog w) A (letOwnedTupleGo target it v) (fun _ s₂ => wpAny (model prog w) A (assign target env v) Q E s₂) E s₁) E s

theorem Src.use {prog : Program} {w : World} {G : Heap} {A : Around} {it : Value} {target : Expr} {sc : Scope} {bf : D → Rho → Option Rho} {ds : List D} {W0 : Wd} {N : List Str} {fp wr : List Addr} {St : Nat → Heap → Prop} (hS : Src prog w G A it target sc bf ds W0 N fp wr St)
    {i : Nat} {d : D} {env : Env} {ρ ρ' : Rho} {W : Wd} {ow : List Addr} {s : Shared} {E : Value → Shared → Prop} {X : Shared → Prop} {Z : Unit → Shared → Prop} (h1 : ds[i]? = some d) (h2 : bf d ρ = some ρ') (h3 : St i s.heap) (h4 : env.scope = sc) (he : EnvOk env ρ W ow s) (hi : Inv G W s) (hW : Wsub W0 W)
    (hfp : ∀ b ∈ fp, ¬ Own env ow b) (hwr : ∀ b ∈ wr, W.P b = none ∧ b ≠ TB)
    (h : ∀ h' tk W', (∀ b o, b ∉ wr → ¬ OwnN env N b → s.heap.get? b = some o → h'.get? b = some o) → (∀ b, h'.get? b = none → s.heap.get? b = none) → Wle W W' s.heap → W'.k = W.k →
      EnvOk env ρ' W' ow { s with heap := h', toks := tk } → Inv G W' { s with heap := h', toks := tk } → St (i + 1) h' → Z () { s with heap := h', toks := tk }) :
    wpAny (model prog w) A (pyNext it) (fun r s₁ => match r with
      | none => X s₁
      | some v => wpAny (model prog w) A (letOwnedTupleGo target it v) (fun _ s₂ => wpAny (model prog w) A (assign target env v) Z E s₂) E s₁) E s :=
  wpAny_mono (hS.turn i d env ρ ρ' W ow s Z E h1 h2 h3 h4 he hi hW hfp hwr h) (fun r s₁ q => match r, q with | none, q => q.elim | some v, q => q) fun _ _ e => e

section
variable (prog : Program) (w : World) (G : Heap)
/-- an iterable expression with its target -/
noncomputable def SI (N : List Str) (n : Nat) (sc : Scope) (e target : Expr) (tsc : Scope) (bf : D → Rho → Option Rho) (f : Lx) : Prop :=
  ∀ (A : Around) (env : Env) (ρ : Rho) (W : Wd) (ow : List Addr) (s : Shared) (Q : Value → Shared → Prop) (E : Value → Shared → Prop), Room A n → env.scope = sc → EnvOk env ρ W ow s → Inv G W s →
    ∀ ds k', f ρ W.k = some (ds, k') →
    (∀ it W' s' fp wr St, Ext G W s W' s' → W'.k = k' → Src prog w G A it target tsc bf ds W' N fp wr St → St 0 s'.heap → (∀ b ∈ fp, (∃ o, W'.P b = some o) ∨ s.heap.get? b = none) → (∀ b ∈ wr, s.heap.get? b = none ∧ W'.P b = none) → ds.length ≤ big → Q it s') →
    wpAny (model prog w) A (eval e env) (fun x s₁ => wpAny (model prog w) A (pyIter x) Q E s₁) E s
noncomputable def SQ (n : Nat) (sc : Scope) (ifs : List Expr) (f : Tx) : Prop :=
  ∀ (A : Around) (env : Env) (ρ : Rho) (W : Wd) (ow : List Addr) (s : Shared) (Q : Bool → Shared → Prop) (E : Value → Shared → Prop), Room A n → env.scope = sc → EnvOk env ρ W ow s → Inv G W s →
    ∀ d k', f ρ W.k = some (d, k') → (∀ W' s', Ext G W s W' s' → W'.k = k' → Q d s') → wpAny (model prog w) A (testsT ifs env) Q E s
end
section
variable {prog : Program} {w : World} {G : Heap} {mg mb : Str → Option Value} {n : Nat} {sc : Scope}
noncomputable def trueT : Tx := fun _ k => some (true, k)
theorem sq_nil : SQ prog w G n sc [] trueT := fun A env ρ W ow s Q E hR hs he hi d k' hf hQ => by
  cases hf; exact wpAny_tests_nil (hQ _ _ (.refl hi) rfl)
theorem sq_one {c : Expr} {f : Tx} (h : ST prog w G n sc c f) : SQ prog w G n sc [c] f := fun A env ρ W ow s Q E hR hs he hi d k' hf hQ =>
  wpAny_tests_one (h A env ρ W ow s Q E hR hs he hi d k' hf hQ)

/-- the block's loop over the items -/
noncomputable def loopC (bf : D → Rho → Option Rho) (t : Tx) (body : Lx) (ρ : Rho) : List D → Nat → Option (List D × Nat)
  | [], k => some ([], k)
  | d :: ds, k => match bf d ρ with
    | none => none
    | some ρ1 => match t ρ1 k with
      | none => none
      | some (false, k1) => loopC bf t body ρ ds k1
      | some (true, k1) => match body ρ1 k1 with
        | none => none
        | some (xs, k2) => match loopC bf t body ρ ds k2 with
          | none => none
          | some (ys, k3) => some (xs ++ ys, k3)

/-- what stands of an elder state behind the block's steps -/
structure Kp (env : Env) (N : List Str) (wr : List Addr) (D : Addr) (h h' : Heap) : Prop where
  keep : ∀ b o, b ∉ wr → ¬ OwnN env N b → b ≠ D → b ≠ TB → h.get? b = some o → h'.get? b = some o
  live : ∀ b, b ∉ wr → h'.get? b = none → h.get? b = none
theorem Kp.refl {env : Env} {N : List Str} {wr : List Addr} {D : Addr} (h : Heap) : Kp env N wr D h h := ⟨fun _ _ _ _ _ _ e => e, fun _ _ e => e⟩
theorem Kp.trans {env : Env} {N : List Str} {wr wr' : List Addr} {D : Addr} {h h' h'' : Heap} (x : Kp env N wr D h h') (y : Kp env N wr' D h' h'') (hw : ∀ b ∈ wr', b ∈ wr ∨ h.get? b = none) : Kp env N wr D h h'' :=
  ⟨fun b o h1 h2 h3 h4 e => y.keep b o (fun q => (hw b q).elim h1 fun z => by rw [z] at e; cases e) h2 h3 h4 (x.keep b o h1 h2 h3 h4 e), fun b hb e => by
    by_cases q : b ∈ wr'
    · exact (hw b q).elim (fun z => absurd z hb) id
    · exact x.live b hb (y.live b q e)⟩

noncomputable abbrev BodyT := (Unit → Shared → Prop) → (Value → Shared → Prop) → Shared → Prop
/-- what the block does with one item: it adds to the list at D -/
noncomputable def BodyOk (prog : Program) (w : World) (G : Heap) (N : List Str) (n : Nat) (sc : Scope) (body : Around → Env → Addr → BodyT) (f : Lx) : Prop :=
  ∀ (A : Around) (env : Env) (ρ : Rho) (W : Wd) (s : Shared) (D : Addr) (vs0 : List Value) (m0 : Nat) (Q : Unit → Shared → Prop) (E : Value → Shared → Prop), Room A n → env.scope = sc → EnvOk env ρ W [] s → Inv G W s →
    s.heap.get? D = some (listO vs0 m0) → W.P D = none → D ≠ TB → ¬ Own env [] D → ∀ xs k', f ρ W.k = some (xs, k') → vs0.length + xs.length ≤ big →
    (∀ h' tk W' vs m', Kp env N [] D s.heap h' → Wle W W' s.heap → W'.k = k' → EnvOk env ρ W' [] { s with heap := h', toks := tk } → Inv G W' { s with heap := h', toks := tk } → h'.get? D = some (listO (vs0 ++ vs) m') → RepL W' vs xs → W'.P D = none → Q () { s with heap := h', toks := tk }) →
    body A env D Q E s

noncomputable def LoopOk (prog : Program) (w : World) (G : Heap) (N : List Str) (n : Nat) (sc : Scope) (elt : Expr) (gens : List Comprehension) (scope : Scope) (pos : Pos) (depth : Nat) (target : Expr) (bf : D → Rho → Option Rho) (f : Rho → List D → Nat → Option (List D × Nat)) : Prop :=
  ∀ (A : Around) (env : Env) (ρ : Rho) (W : Wd) (s : Shared) (it : Value) (ds : List D) (fp wr : List Addr) (St : Nat → Heap → Prop) (D : Addr) (vs0 : List Value) (m0 : Nat) (R : Result → Shared → Prop),
    Room A n → env.scope = sc → Src prog w G A it target sc bf ds W N fp wr St → St 0 s.heap → EnvOk env ρ W [] s → Inv G W s → (∀ b ∈ fp, ¬ Own env [] b) → (∀ b ∈ wr, W.P b = none ∧ b ≠ TB) →
    s.heap.get? D = some (listO vs0 m0) → W.P D = none → D ≠ TB → ¬ Own env [] D → D ∉ fp → TB ∉ fp → ∀ xs k', f ρ ds W.k = some (xs, k') → vs0.length + xs.length ≤ big →
    (∀ h' tk W' vs m', Kp env N wr D s.heap h' → Wle W W' s.heap → W'.k = k' → EnvOk env ρ W' [] { s with heap := h', toks := tk } → Inv G W' { s with heap := h', toks := tk } → h'.get? D = some (listO (vs0 ++ vs) m') → RepL W' vs xs → W'.P D = none → R (.ok .next) { s with heap := h', toks := tk }) →
    codeAny (model prog w) A (.compLoop (.ListComp elt gens scope pos) depth it (.ref D) env) R s

noncomputable def Mono (bf : D → Rho → Option Rho) : Prop := ∀ d ρ ρ', bf d ρ = some ρ' → ∀ y e, ρ y = some e → ρ' y = some e

/-- between two turns of the block's loop -/
inductive LoopI (G : Heap) (env : Env) (ρ : Rho) (N : List Str) (wr : List Addr) (St : Nat → Heap → Prop) (W : Wd) (s : Shared) (vs0 : List Value) (ds xs : List D) (k' : Nat) (L : List D → Nat → Option (List D × Nat)) (Da : Addr) : Nat → Shared → Prop
  | mk (h' : Heap) (tk : Nat) (W' : Wd) (vs : List Value) (m' i : Nat) (xs1 xs2 : List D) : i ≤ ds.length → St i h' → Kp env N wr Da s.heap h' → Wle W W' s.heap → EnvOk env ρ W' [] { s with heap := h', toks := tk } → Inv G W' { s with heap := h', toks := tk } →
      h'.get? Da = some (listO (vs0 ++ vs) m') → RepL W' vs xs1 → W'.P Da = none → xs = xs1 ++ xs2 → L (ds.drop i) W'.k = some (xs2, k') → LoopI G env ρ N wr St W s vs0 ds xs k' L Da (ds.length + 1 - i) { s with heap := h', toks := tk }
theorem loop_gen {N : List Str} {elt target iter : Expr} {gens : List Comprehension} {scope : Scope} {pos : Pos} {depth : Nat} {ifs : List Expr} {bf : D → Rho → Option Rho} {t : Tx} {fb : Lx} {body : Around → Env → Addr → BodyT}
    (hm : Mono bf) (ht : SQ prog w G n sc ifs t) (hb : BodyOk prog w G N n sc body fb)
    (hturn : ∀ (A : Around) (E : Value → Shared → Prop) (s : Shared) (env : Env) (it : Value) (D : Addr) (Q : Fin → Shared → Prop), wpAny (model prog w) A (pyNext it) (fun r s₁ => match r with
      | none => Q (.done .next) s₁
      | some v => wpAny (model prog w) A (letOwnedTupleGo target it v) (fun _ s₂ => wpAny (model prog w) A (assign target env v) (fun _ s₃ =>
          wpAny (model prog w) A (testsT ifs env) (fun ok s₄ => if ok = true then body A env D (fun _ s₆ => Q (.again (.compLoop (.ListComp elt gens scope pos) depth it (.ref D) env)) s₆) E s₄
            else Q (.again (.compLoop (.ListComp elt gens scope pos) depth it (.ref D) env)) s₄) E s₃) E s₂) E s₁) E s →
      wpAny (model prog w) A (compTurn (.ListComp elt gens scope pos) depth it (.ref D) env) Q E s) :
    LoopOk prog w G N n sc elt gens scope pos depth target bf (fun ρ ds k => loopC bf t fb ρ ds k) := by
  intro A env ρ W s it ds fp wr St D vs0 m0 R hR hsc hS hst he hi hfp hwr hD hDP hDT hDO hDf hTf xs k' hf hlen hQ
  refine codeAny_loop rfl (LoopI G env ρ N wr St W s vs0 ds xs k' (loopC bf t fb ρ) D) ?_ (ds.length + 1)
    (.mk s.heap s.toks W [] m0 0 [] xs (Nat.zero_le _) hst (.refl _) (.refl ..) he hi (by simpa using hD) .nil hDP rfl (by simpa using hf))
  intro j s' hI
  cases hI with | mk h' tk W' vs m' i xs1 xs2 hle hst' hkp hW he' hi' hD' hr hDP' hxs hf' =>
  subst hxs
  show wpAny _ A ((compTurn (.ListComp elt gens scope pos) depth it (.ref D) env).onRaise (fun x => do noteFrame x env; theTreesLotGoes x)) _ _ _
  refine wpAny_noted (hturn _ _ _ _ _ _ _ ?_)
  have hwr' : ∀ b ∈ wr, W'.P b = none ∧ b ≠ TB := fun b hb => by
    refine ⟨?_, (hwr b hb).2⟩
    cases q : W'.P b with
    | none => rfl
    | some o =>
      rcases hW.new _ _ q with z | z
      · rw [(hwr b hb).1] at z; cases z
      · obtain ⟨o', ho'⟩ := hS.live _ _ hst b (hS.sub b hb)
        rw [z] at ho'; cases ho'
  have hlv : ∀ b, h'.get? b = none → s.heap.get? b = none := fun b e => by
    by_cases q : b ∈ wr
    · obtain ⟨o, ho⟩ := hS.live _ _ hst' b (hS.sub b q)
      rw [ho] at e; cases e
    · exact hkp.live b q e
  by_cases hlt : i < ds.length
  · have hdi : ds.drop i = ds[i] :: ds.drop (i + 1) := List.drop_eq_getElem_cons hlt
    rw [hdi] at hf'
    unfold loopC at hf'
    cases hbf : bf ds[i] ρ with
    | none => rw [hbf] at hf'; cases hf'
    | some ρ1 =>
    rw [hbf] at hf'
    dsimp only at hf'
    have hmn := hm _ _ _ hbf
    refine hS.use (i := i) (d := ds[i]) (W := W') (ow := []) (by simp [hlt]) hbf hst' hsc he' hi' hW.weak hfp hwr' fun h1 tk1 W1 hk1 hl1 hW1 hkk1 he1 hi1 hst1 => ?_
    have kp1 : Kp env N wr D s.heap h1 := ⟨fun b o q1 q2 q3 q4 e => hk1 b o q1 q2 (hkp.keep b o q1 q2 q3 q4 e), fun b hb e => hkp.live b hb (hl1 b e)⟩
    have hlv1 : ∀ b, h1.get? b = none → s.heap.get? b = none := fun b e => hlv b (hl1 b e)
    have hW1' : Wle W W1 s.heap := hW.trans hW1 hlv
    have hD1 : h1.get? D = some (listO (vs0 ++ vs) m') := hk1 D _ (fun q => hDf (hS.sub D q)) (fun q => hDO q.own) hD'
    have hDP1 : W1.P D = none := by
      cases q : W1.P D with
      | none => rfl
      | some o =>
        rcases hW1.new _ _ q with z | z
        · rw [hDP'] at z; cases z
        · have : h'.get? D = none := z
          rw [hD'] at this; cases this
    rw [← hkk1] at hf'
    cases htt : t ρ1 W1.k with
    | none => rw [htt] at hf'; cases hf'
    | some bk =>
    obtain ⟨b, k1⟩ := bk
    rw [htt] at hf'
    refine ht A env ρ1 W1 [] _ _ _ hR hsc he1 hi1 b k1 htt fun W2 s2 x2 e2 => ?_
    have he2 := he1.ext hi1 x2
    have hk2 := x2.keep
    obtain ⟨h2, tk2, rfl⟩ := x2.same
    have kp2 : Kp env N wr D s.heap h2 := ⟨fun b o q1 q2 q3 q4 e => hk2 b o q4 (kp1.keep b o q1 q2 q3 q4 e), fun b hb e => kp1.live b hb (x2.dead e)⟩
    have hW2' : Wle W W2 s.heap := hW1'.trans x2.le hlv1
    have hst2 : St (i + 1) h2 := hS.frame _ _ _ hst1 fun b hb o e => hk2 b o (fun q => hTf (q ▸ hb)) e
    have hD2 : h2.get? D = some (listO (vs0 ++ vs) m') := hk2 D _ hDT hD1
    have hDP2 : W2.P D = none := by
      cases q : W2.P D with
      | none => rfl
      | some o =>
        rcases x2.le.new _ _ q with z | z
        · rw [hDP1] at z; cases z
        · have : h1.get? D = none := z
          rw [hD1] at this; cases this
    have hr2 : RepL W2 vs xs1 := (hr.mono hW1).mono x2.le
    cases b with
    | false =>
      dsimp only at hf'
      exact ⟨rfl, ds.length + 1 - (i + 1), by omega, .mk h2 tk2 W2 vs m' (i + 1) xs1 xs2 hlt hst2 kp2 hW2' (he2.drop hmn) x2.inv hD2 hr2 hDP2 rfl (by rw [e2]; exact hf')⟩
    | true =>
      dsimp only at hf'
      rw [← e2] at hf'
      cases hbb : fb ρ1 W2.k with
      | none => rw [hbb] at hf'; cases hf'
      | some p =>
      obtain ⟨ys, k2⟩ := p
      rw [hbb] at hf'
      dsimp only at hf'
      cases hll : loopC bf t fb ρ (ds.drop (i + 1)) k2 with
      | none => rw [hll] at hf'; cases hf'
      | some p =>
      obtain ⟨zs, k3⟩ := p
      rw [hll] at hf'
      cases hf'
      refine hb A env ρ1 W2 _ D (vs0 ++ vs) m' _ _ hR hsc he2 x2.inv hD2 hDP2 hDT hDO ys k2 hbb (by simp only [List.length_append] at hlen ⊢; rw [hr2.length]; omega) fun h3 tk3 W3 vs3 m3 kp3 hW3 hk3 he3 hi3 hD3 hr3 hDP3 => ?_
      have kp3' : Kp env N wr D s.heap h3 := kp2.trans kp3 (fun _ q => nomatch q)
      exact ⟨rfl, ds.length + 1 - (i + 1), by omega, .mk h3 tk3 W3 (vs ++ vs3) m3 (i + 1) (xs1 ++ ys) zs hlt (hS.frame _ _ _ hst2 (fun b hb o e => kp3.keep b o (fun q => nomatch q) (fun q => hfp b hb q.own) (fun q => hDf (q ▸ hb)) (fun q => hTf (q ▸ hb)) e)) kp3'
        (hW2'.trans hW3 (fun b e => hlv1 b (x2.dead e))) (he3.drop hmn) hi3 (by rw [← List.append_assoc]; exact hD3) ((hr2.mono hW3).append hr3) hDP3 (by simp) (by rw [hk3]; exact hll)⟩
  · have hin : i = ds.length := by omega
    subst hin
    rw [List.drop_length] at hf'
    unfold loopC at hf'
    cases hf'
    refine hS.done _ _ _ hst' fun h1 tk1 hk1 => ?_
    have hi1 : Inv G W' { s with heap := h1, toks := tk1 } := Inv.change (s := { s with heap := h', toks := tk }) wr hi' hk1 (fun b hb => (hwr' b hb).1) (fun q => (hwr' _ q).2 rfl)
    refine hQ h1 tk1 W' vs m' ⟨fun b o q1 q2 q3 q4 e => hk1 b o q1 (hkp.keep b o q1 q2 q3 q4 e), fun b hb e => hkp.live b hb (by
      cases z : h'.get? b with
      | none => rfl
      | some o => rw [hk1 b o hb z] at e; cases e)⟩ hW rfl (he'.stand (.refl ..) fun b o hb e => hk1 b o (fun q => hfp b (hS.sub b q) hb) e) hi1 (hk1 D _ (fun q => hDf (hS.sub D q)) hD') (by simpa using hr) hDP'
end
end Mine
end

section
open PySem PySem.W PySem.Calls PyProof.Rows PySem.SeqAt
set_option Elab.async false
set_option maxRecDepth 100000
set_option linter.unusedVariables false
namespace Mine
section
variable {prog : Program} {w : World} {G : Heap} {mg mb : Str → Option Value} {n : Nat} {sc : Scope}

noncomputable def oneL (f : Ex) : Lx := fun ρ k => match f ρ k with
  | none => none
  | some (d, k') => some ([d], k')
theorem body_last {N : List Str} {elt : Expr} {f : Ex} (h : SE prog w G n sc elt f) :
    BodyOk prog w G N n sc (fun A env D Q E s => wpAny (model prog w) A (eval elt env) (fun x s₅ => wpAny (model prog w) A (call (.builtin "list.append") [.ref D, x]) (fun _ s₆ => Q () s₆) E s₅) E s) (oneL f) := by
  intro A env ρ W s D vs0 m0 Q E hR hsc he hi hD hDP hDT hDO xs k' hf hlen hQ
  unfold oneL at hf
  split at hf
  · cases hf
  · rename_i d k1 h1; cases hf
    refine h A env ρ W [] s _ E hR hsc he hi d _ h1 fun v W1 s1 x1 e1 r1 => ?_
    have hk1 := x1.keep
    have hd1 := fun a q => x1.dead (a := a) q
    have he1 := he.ext hi x1
    obtain ⟨h1', tk1, rfl⟩ := x1.same
    have hD1 : h1'.get? D = some (listO vs0 m0) := hk1 D _ hDT hD
    have hDP1 : W1.P D = none := by
      cases q : W1.P D with
      | none => rfl
      | some o =>
        rcases x1.le.new _ _ q with z | z
        · rw [hDP] at z; cases z
        · rw [hD] at z; cases z
    refine wpAny_list_append_plain (items := vs0.toArray) (hsz := by have := big_le; simp only [List.length_cons, List.length_nil] at hlen; simp; omega) ⟨m0, hD1⟩ fun h2 hl2 hs2 => ?_
    obtain ⟨m2, hD2⟩ := hl2
    have hb2 : ∀ b o, b ∉ [D] → h1'.get? b = some o → h2.get? b = some o := fun b o hb e => hs2.extBut b o (by simpa using hb) e
    refine hQ h2 tk1 W1 [v] m2 ⟨fun b o q1 q2 q3 q4 e => hs2.extBut b o q3 (hk1 b o q4 e), fun b _ e => hd1 b ?_⟩ x1.le e1 (he1.stand (.refl ..) fun b o hb e => hs2.extBut b o (fun q => hDO (q ▸ hb)) e)
      (Inv.change (s := { s with heap := h1', toks := tk1 }) [D] x1.inv hb2 (by simpa using hDP1) (by simpa using hDT.symm)) (by simpa [listO] using hD2) (.cons r1 .nil) hDP1
    by_cases q : b = D
    · rw [q, hD2] at e; cases e
    · rw [hs2.2 b q] at e; exact e

noncomputable def nestL (src : Lx) (f : Rho → List D → Nat → Option (List D × Nat)) : Lx := fun ρ k => match src ρ k with
  | none => none
  | some (ds, k1) => f ρ ds k1
theorem fp_own {env : Env} {ρ : Rho} {W W' : Wd} {ow : List Addr} {s s' : Shared} {b : Addr} (he : EnvOk env ρ W ow s) (hi : Inv G W s) (x : Ext G W s W' s') (h : (∃ o, W'.P b = some o) ∨ s.heap.get? b = none) : ¬ Own env ow b := fun ho => by
  obtain ⟨o, h1, _, h2⟩ := he.own_live ho
  rcases h with ⟨o', h⟩ | h
  · rcases x.le.new _ _ h with z | z
    · rw [h2] at z; cases z
    · rw [h1] at z; cases z
  · rw [h1] at h; cases h
theorem own_nil {env : Env} {ow : List Addr} {b : Addr} (h : Own env [] b) : Own env ow b := by
  rcases h with h | h | h
  · exact .inl h
  · exact .inr (.inl h)
  · cases h
theorem fp_ne {W W' : Wd} {s s' : Shared} {b D : Addr} {o : Obj} (x : Ext G W s W' s') (hD : s.heap.get? D = some o) (hDP : W.P D = none) (h : (∃ o, W'.P b = some o) ∨ s.heap.get? b = none) : b ≠ D := fun q => by
  subst q
  rcases h with ⟨o', h⟩ | h
  · rcases x.le.new _ _ h with z | z
    · rw [hDP] at z; cases z
    · rw [hD] at z; cases z
  · rw [hD] at h; cases h
theorem body_more {N : List Str} {elt target' iter' : Expr} {gens : List Comprehension} {scope : Scope} {pos : Pos} {depth : Nat} {ifs' : List Expr} {bf : D → Rho → Option Rho} {src : Lx} {f : Rho → List D → Nat → Option (List D × Nat)}
    (hg : gens[depth + 1]? = some ⟨target', iter', ifs', 0⟩) (hsrc : SI prog w G N n sc iter' target' sc bf src) (hl : LoopOk prog w G N n sc elt gens scope pos (depth + 1) target' bf f) :
    BodyOk prog w G N n sc (fun A env D Q E s => wpAny (model prog w) A (eval iter' env) (fun x s₅ => wpAny (model prog w) A (pyIter x) (fun it' s₆ =>
                codeAny (model prog w) A (.compStart (.ListComp elt gens scope pos) (depth + 1) it' (.ref D) env) (fun r s' => match r with | .ok _ => Q () s' | .error e => cameBackBy (model prog w) A env E e s') s₆) E s₅) E s) (nestL src f) := by
  intro A env ρ W s D vs0 m0 Q E hR hsc he hi hD hDP hDT hDO xs k' hf hlen hQ
  unfold nestL at hf
  split at hf
  · cases hf
  · rename_i ds k1 h1
    refine hsrc A env ρ W [] s _ E hR hsc he hi ds k1 h1 fun it W1 s1 fp wr St x1 e1 hS hst hfp hwr hlen1 => ?_
    have he1 := he.ext hi x1
    have hd1 := fun a q => x1.dead (a := a) q
    have hk1 := x1.keep
    obtain ⟨ps, hT, _⟩ := hi.tab
    obtain ⟨h1', tk1, rfl⟩ := x1.same
    subst e1
    have hDP1 : W1.P D = none := by
      cases q : W1.P D with
      | none => rfl
      | some o =>
        rcases x1.le.new _ _ q with z | z
        · rw [hDP] at z; cases z
        · rw [hD] at z; cases z
    have loop : codeAny (model prog w) A (.compLoop (.ListComp elt gens scope pos) (depth + 1) it (.ref D) env) (fun r s' => match r with | .ok _ => Q () s' | .error e => cameBackBy (model prog w) A env E e s') { s with heap := h1', toks := tk1 } := by
      refine hl A env ρ W1 _ it ds fp wr St D vs0 m0 _ hR hsc hS hst he1 x1.inv (fun b hb => fp_own he hi x1 (hfp b hb)) (fun b hb => ⟨(hwr b hb).2, fun q => by subst q; rw [(hwr TB hb).1] at hT; cases hT⟩) (hk1 D _ hDT hD) hDP1 hDT hDO
        (fun q => fp_ne x1 hD hDP (hfp D q) rfl) (fun q => fp_ne x1 hT hi.tabP (hfp TB q) rfl) xs k' hf hlen fun h2 tk2 W2 vs m2 kp2 hW2 hk2 he2 hi2 hD2 hr2 hDP2 => ?_
      refine hQ h2 tk2 W2 vs m2 (Kp.trans (wr := []) ⟨fun b o _ _ _ q4 e => hk1 b o q4 e, fun b _ e => hd1 b e⟩ kp2 fun b hb => .inr (hwr b hb).1) (x1.le.trans hW2 hd1) hk2 he2 hi2 hD2 hr2 hDP2
    exact start_any hg loop (hS.self 0 _ _ _ hst loop)
end
end Mine
end

section
open PySem PySem.W PySem.Calls PyProof.Rows PySem.SeqAt
set_option Elab.async false
set_option maxRecDepth 100000
set_option linter.unusedVariables false
namespace Mine

/-! the block's own environment -/
noncomputable def relS (scope sc : Scope) : Scope :=
  { scope with names := scope.names.map fun (x, k) => if (k == .free && sc.kind == .function && sc.names.lookup x == some .cell) then (x, .cell) else (x, k) }
theorem relS_eq (scope : Scope) (env : Env) : relabel scope env = relS scope env.scope := rfl
theorem lookup_map_val {α β γ : Type} [BEq α] [LawfulBEq α] (f : α → β → γ) (x : α) : ∀ l : List (α × β), (l.map fun p => (p.1, f p.1 p.2)).lookup x = (l.lookup x).map (f x)
  | [] => rfl
  | (y, b) :: r => by
    simp only [List.map_cons, List.lookup_cons]
    cases h : x == y with
    | true => simp [eq_of_beq h]
    | false => exact lookup_map_val f x r
theorem relS_lookup (scope sc : Scope) (x : Str) : (relS scope sc).names.lookup x = (scope.names.lookup x).map fun k => if (k == .free && sc.kind == .function && sc.names.lookup x == some .cell) then .cell else k := by
  have : (relS scope sc).names = scope.names.map fun p => (p.1, (fun (y : Str) (k : NameKind) => if (k == .free && sc.kind == .function && sc.names.lookup y == some .cell) then NameKind.cell else k) p.1 p.2) := by
    show scope.names.map _ = _
    refine List.map_congr_left fun p _ => ?_
    obtain ⟨y, k⟩ := p
    show (if _ then (y, NameKind.cell) else (y, k)) = _
    split <;> rename_i h <;> simp [h]
  rw [this, lookup_map_val (fun (y : Str) (k : NameKind) => if (k == .free && sc.kind == .function && sc.names.lookup y == some .cell) then NameKind.cell else k)]

noncomputable def closL (cells : List (Str × Addr)) : List (Str × NameKind) → List (Str × Addr) → List (Str × Addr)
  | [], acc => acc
  | (x, k) :: r, acc => if k == .free then closL cells r ((x, (cells.lookup x).getD 0) :: acc) else closL cells r acc
theorem closureFor_is {scope : Scope} {env : Env} (h : ∀ x ∈ scope.names, x.2 = .free → ∃ c, env.cells.lookup x.1 = some c) : closureFor scope env = pure (closL env.cells scope.names []) := by
  have key : ∀ (names : List (Str × NameKind)) (acc : List (Str × Addr)), (∀ x ∈ names, x.2 = .free → ∃ c, env.cells.lookup x.1 = some c) →
      (forIn names acc fun (p : Str × NameKind) (cs : List (Str × Addr)) => if (p.2 == NameKind.free) = true then (do let c ← cellOf env p.1; pure (ForInStep.yield ((p.1, c) :: cs)) : Sem _) else pure (ForInStep.yield cs)) = pure (closL env.cells names acc) := by
    intro names
    induction names with
    | nil => intro acc _; rfl
    | cons p r ih =>
      intro acc hh
      obtain ⟨x, k⟩ := p
      have hr : ∀ y ∈ r, y.2 = .free → ∃ c, env.cells.lookup y.1 = some c := fun y hy => hh y (List.mem_cons_of_mem _ hy)
      rw [List.forIn_cons]
      unfold closL
      by_cases hk : (k == NameKind.free) = true
      · obtain ⟨c, hc⟩ := hh (x, k) List.mem_cons_self (eq_of_beq hk)
        have hcell : cellOf env x = pure c := by unfold cellOf; rw [show env.cells.lookup x = some c from hc]
        simp only [hk, if_true, hcell, pure_bind]
        rw [show env.cells.lookup x = some c from hc]
        exact ih _ hr
      · rw [if_neg hk, if_neg hk]
        exact ih _ hr
  have := key scope.names [] h
  show ((forIn scope.names ([] : List (Str × Addr)) fun (p : Str × NameKind) (cs : List (Str × Addr)) => if (p.2 == NameKind.free) = true then (do let c ← cellOf env p.1; pure (ForInStep.yield ((p.1, c) :: cs)) : Sem _) else pure (ForInStep.yield cs)) >>= fun cs => pure cs) = _
  rw [this]; rfl
theorem closL_lookup (cells : List (Str × Addr)) (x : Str) : ∀ (names : List (Str × NameKind)) (acc : List (Str × Addr)), (names.map (·.1)).Nodup → (∀ p ∈ names, acc.lookup p.1 = none) →
    (closL cells names acc).lookup x = if (x, NameKind.free) ∈ names then some ((cells.lookup x).getD 0) else acc.lookup x
  | [], acc, _, _ => by simp [closL]
  | (y, k) :: r, acc, hnd, ha => by
    simp only [List.map_cons, List.nodup_cons] at hnd
    unfold closL
    by_cases hk : (k == NameKind.free) = true
    · have hk' : k = .free := eq_of_beq hk
      subst hk'
      simp only [beq_self_eq_true, if_true]
      rw [closL_lookup cells x r _ hnd.2 fun p hp => ?_]
      · by_cases hx : (x, NameKind.free) ∈ r
        · simp [hx]
        · simp only [hx, if_false, List.lookup_cons, List.mem_cons, Prod.mk.injEq, and_true, or_false]
          by_cases e : x = y
          · subst e; simp
          · have : (x == y) = false := by simpa using e
            simp [e, this]
      · have hne : p.1 ≠ y := fun e => hnd.1 (e ▸ List.mem_map_of_mem hp)
        have : (p.1 == y) = false := by simpa using hne
        rw [List.lookup_cons, this]; exact ha p (List.mem_cons_of_mem _ hp)
    · have hkf : k ≠ .free := fun e => hk (by simp [e])
      rw [if_neg hk, closL_lookup cells x r acc hnd.2 fun p hp => ha p (List.mem_cons_of_mem _ hp)]
      have : ((x, NameKind.free) ∈ (y, k) :: r) ↔ (x, NameKind.free) ∈ r := by
        simp only [List.mem_cons, Prod.mk.injEq]
        exact ⟨fun h => h.elim (fun q => absurd q.2.symm hkf) id, .inr⟩
      simp only [this]

theorem cellsFrom_append : ∀ (names : List (Str × NameKind)) (m : Nat) (acc : List (Str × Addr)), cellsFrom m names acc = cellsFrom m names [] ++ acc
  | [], _, acc => by simp [cellsFrom]
  | (x, k) :: r, m, acc => by
    unfold cellsFrom
    split
    · rw [cellsFrom_append r _ ((x, m) :: acc), cellsFrom_append r _ [(x, m)]]; simp
    · exact cellsFrom_append r m acc
theorem cellsFrom_mem : ∀ (names : List (Str × NameKind)) (m : Nat) (x : Str) (c : Addr), (x, c) ∈ cellsFrom m names [] → (x, NameKind.cell) ∈ names
  | [], _, x, c, h => by simp [cellsFrom] at h
  | (y, k) :: r, m, x, c, h => by
    unfold cellsFrom at h
    split at h
    · rename_i hk
      rw [cellsFrom_append] at h
      rcases List.mem_append.mp h with h | h
      · exact List.mem_cons_of_mem _ (cellsFrom_mem r _ x c h)
      · have : x = y := by simp at h; exact h.1
        rw [this, ← eq_of_beq hk]; exact List.mem_cons_self
    · exact List.mem_cons_of_mem _ (cellsFrom_mem r _ x c h)
theorem cellsFrom_has : ∀ (names : List (Str × NameKind)) (m : Nat) (x : Str), (x, NameKind.cell) ∈ names → ∃ c, (cellsFrom m names []).lookup x = some c
  | [], _, x, h => by simp at h
  | (y, k) :: r, m, x, h => by
    unfold cellsFrom
    by_cases hk : (k == NameKind.cell) = true
    · simp only [hk, if_true]
      rw [cellsFrom_append, List.lookup_append]
      cases h1 : (cellsFrom (m + 1) r []).lookup x with
      | some c => exact ⟨c, rfl⟩
      | none =>
        rcases List.mem_cons.mp h with h | h
        · have : x = y := by simp at h; exact h.1
          subst this; exact ⟨m, by simp⟩
        · obtain ⟨c, hc⟩ := cellsFrom_has r (m + 1) x h
          rw [h1] at hc; cases hc
    · rw [if_neg hk]
      rcases List.mem_cons.mp h with h | h
      · have : k = NameKind.cell := by simp at h; exact h.2.symm
        exact absurd (by simp [this]) hk
      · exact cellsFrom_has r m x h
theorem mem_lookup_nodup {α : Type} : ∀ {l : List (Str × α)} {x : Str} {a : α}, (l.map (·.1)).Nodup → (x, a) ∈ l → l.lookup x = some a
  | (y, b) :: r, x, a, hnd, h => by
    simp only [List.map_cons, List.nodup_cons] at hnd
    rcases List.mem_cons.mp h with h | h
    · cases h; simp
    · have hne : x ≠ y := fun e => hnd.1 (e ▸ List.mem_map_of_mem (f := (·.1)) h)
      have : (x == y) = false := by simpa using hne
      rw [List.lookup_cons, this]; exact mem_lookup_nodup hnd.2 h

section
variable {prog : Program} {w : World} {G : Heap} {mg mb : Str → Option Value} {n : Nat} {sc : Scope}
noncomputable def isCF (sc : Scope) (x : Str) : Bool := match sc.names.lookup x with
  | some .cell | some .free => true
  | _ => false
theorem isCF_kind {env : Env} {x : Str} (h : isCF env.scope x = true) : env.kindOf x = some .cell ∨ env.kindOf x = some .free := by
  unfold isCF at h
  split at h
  · rename_i e; exact .inl e
  · rename_i e; exact .inr e
  · cases h
/-- the outer names that the block sees -/
noncomputable def restr (scope : Scope) (ρ : Rho) : Rho := fun x => if scope.names.lookup x = some .free then (match ρ x with | some (.own _) => none | z => z) else none

structure BlockOk (scope sc : Scope) : Prop where
  kind : scope.kind = .function
  nd : (scope.names.map (·.1)).Nodup
  free : ∀ x ∈ scope.names, x.2 = .free → isCF sc x.1 = true

noncomputable def blockEnv (scope : Scope) (env : Env) (L : Addr) : Env :=
  { scope := relabel scope env, locals := L, globals := env.globals, cells := cellsFrom (L + 1) scope.names (closL env.cells scope.names []), qual := env.qual, func := none, code := env.code, frame := env.frame, builtins := env.builtins }

theorem block_env {A : Around} {E : Value → Shared → Prop} {env : Env} {ρ : Rho} {W : Wd} {ow : List Addr} {s : Shared} {scope : Scope} {Q : Env → Shared → Prop} (hb : BlockOk scope env.scope) (he : EnvOk env ρ W ow s) (hi : Inv G W s)
    (hQ : ∀ h', (∀ b o, s.heap.get? b = some o → h'.get? b = some o) → (∀ b, Own (blockEnv scope env s.heap.objs.size) [] b → s.heap.get? b = none ∨ ∃ x, env.cells.lookup x = some b) → (∀ x b, (scope.names.lookup x = some .local ∨ scope.names.lookup x = some .cell) → Pl (blockEnv scope env s.heap.objs.size) x b → s.heap.get? b = none) → s.heap.get? s.heap.objs.size = none →
      EnvOk (blockEnv scope env s.heap.objs.size) (restr scope ρ) W [] { s with heap := h' } → ∀ cenv : Env, { cenv with scope := relabel scope env } = blockEnv scope env s.heap.objs.size → cenv.locals = s.heap.objs.size → Q cenv { s with heap := h' }) :
    wpAny (model prog w) A (newFunctionEnv scope env.globals (closL env.cells scope.names []) [] env.qual none .none (some env)) Q E s := by
  simp only [newFunctionEnv, Option.isSome_some, if_true]
  refine wpAny_bind (wpAny_alloc ?_)
  refine wpAny_bind (wpAny_layCells _ (fun name kind cells => by cases hkc : kind == NameKind.cell <;> simp [hkc]) _ _ _ _ ?_)
  have ok := cellsFrom_ok scope.names (s.heap.push { cls := .type "dict", data := .dict #[] }) (s.heap.objs.size + 1) [] ⟨fun _ _ hm => (nomatch hm), List.Pairwise.nil⟩ (by rw [Heap.size_push]; exact Nat.le_refl _)
  rw [Heap.size_push] at ok
  rw [show ({ s with heap := s.heap.push { cls := .type "dict", data := .dict #[] } } : Shared).heap.objs.size = s.heap.objs.size + 1 from Heap.size_push ..]
  have keep : ∀ b o, s.heap.get? b = some o → (pushCells (s.heap.push { cls := .type "dict", data := .dict #[] }) scope.names).get? b = some o := fun b o e => pushCells_keeps _ _ b o (Heap.get?_push_of_some _ e)
  have hnew := Heap.new_none s.heap
  have hcells : (blockEnv scope env s.heap.objs.size).cells = cellsFrom (s.heap.objs.size + 1) scope.names [] ++ closL env.cells scope.names [] := cellsFrom_append ..
  have hcl := fun x => closL_lookup env.cells x scope.names [] hb.nd (fun _ _ => rfl)
  -- every cell of the block: a new one, or one of the frame's
  have split : ∀ x c, (blockEnv scope env s.heap.objs.size).cells.lookup x = some c → ((x, c) ∈ cellsFrom (s.heap.objs.size + 1) scope.names [] ∧ (x, NameKind.cell) ∈ scope.names) ∨ ((x, NameKind.free) ∈ scope.names ∧ env.cells.lookup x = some c) := by
    intro x c h
    rw [hcells, List.lookup_append] at h
    cases h1 : (cellsFrom (s.heap.objs.size + 1) scope.names []).lookup x with
    | some c' =>
      rw [h1] at h
      have : c' = c := by simpa using h
      subst this
      exact .inl ⟨mem_of_lookup h1, cellsFrom_mem _ _ _ _ (mem_of_lookup h1)⟩
    | none =>
      rw [h1, hcl] at h
      by_cases hf : (x, NameKind.free) ∈ scope.names
      · obtain ⟨c', vo, h2, _⟩ := he.cell x (isCF_kind (hb.free _ hf rfl))
        simp only [hf, if_true, h2, Option.getD_some, Option.none_or] at h
        cases h
        exact .inr ⟨hf, h2⟩
      · simp [hf] at h
  have fresh : ∀ x c, (x, c) ∈ cellsFrom (s.heap.objs.size + 1) scope.names [] → s.heap.get? c = none := fun x c h => by
    cases e : s.heap.get? c with
    | none => rfl
    | some o => exact absurd (Heap.lt_size e) (Nat.not_lt.mpr (Nat.le_of_succ_le (ok.empty x c h).2))
  refine wpAny_bind (wpAny_pure (wpAny_pure ?_))
  refine hQ (pushCells (s.heap.push { cls := .type "dict", data := .dict #[] }) scope.names) keep (fun b hb' => ?_) (fun x b hx hb' => ?_) hnew ⟨?_, he.glob, he.blt, ⟨_, (Heap.Ns.new s.heap (.type "dict")).keeps (pushCells_keeps _ _), ?_⟩, ?_, ?_, ?_, hi.none_of hnew, fun a ha => nomatch ha⟩ _ rfl rfl
  · rcases hb' with rfl | ⟨x, hx⟩ | h
    · exact .inl hnew
    · rcases split x b hx with ⟨h, _⟩ | ⟨_, h⟩
      · exact .inl (fresh x b h)
      · exact .inr ⟨x, h⟩
    · cases h
  · rcases hb' with ⟨_, rfl⟩ | ⟨_, h⟩
    · exact hnew
    · rcases split x b h with ⟨h, _⟩ | ⟨h, _⟩
      · exact fresh x b h
      · rw [mem_lookup_nodup hb.nd h] at hx
        rcases hx with hx | hx <;> cases hx
  · exact hb.kind
  · intro x d h1 h2
    have h2' : (relS scope env.scope).names.lookup x = some .local := h2
    rw [relS_lookup] at h2'
    unfold restr at h1
    split at h1
    · rename_i hx
      rw [hx] at h2'
      simp only [Option.map_some, Option.some.injEq] at h2'
      split at h2' <;> cases h2'
    · cases h1
  · intro x hx
    have hx' : (relS scope env.scope).names.lookup x = some .cell ∨ (relS scope env.scope).names.lookup x = some .free := hx
    rw [relS_lookup] at hx'
    cases hl : scope.names.lookup x with
    | none => rw [hl] at hx'; simp at hx'
    | some k =>
      have hmem : (x, k) ∈ scope.names := mem_of_lookup hl
      by_cases hkf : k = .free
      · subst hkf
        obtain ⟨c, vo, h2, h3, h4⟩ := he.cell x (isCF_kind (hb.free _ hmem rfl))
        have hno : (cellsFrom (s.heap.objs.size + 1) scope.names []).lookup x = none := by
          cases e : (cellsFrom (s.heap.objs.size + 1) scope.names []).lookup x with
          | none => rfl
          | some c' =>
            have := mem_lookup_nodup hb.nd (cellsFrom_mem _ _ _ _ (mem_of_lookup e))
            rw [hl] at this; cases this
        refine ⟨c, vo, by rw [hcells, List.lookup_append, hno, hcl]; simp [hmem, h2], h3.keeps keep, fun d hd => ?_⟩
        unfold restr at hd
        rw [if_pos hl] at hd
        cases hρ : ρ x with
        | none => rw [hρ] at hd; cases hd
        | some d' =>
          rw [hρ] at hd
          have hd2 : d' = d ∧ ∀ xs, d' ≠ .own xs := by
            cases d' with
            | own ys => cases hd
            | _ => exact ⟨Option.some.inj hd, fun xs q => nomatch q⟩
          obtain ⟨rfl, hno'⟩ := hd2
          obtain ⟨v, h5, h6⟩ := h4 d' hρ
          refine ⟨v, h5, ?_⟩
          have := repV_rep h6 hno'
          cases d' with
          | own xs => exact absurd rfl (hno' xs)
          | _ => exact this
      · have hkc : k = .cell := by
          rw [hl] at hx'
          have hk0 : (k == NameKind.free) = false := by simpa using hkf
          simp only [Option.map_some, hk0, Bool.false_and, Bool.false_eq_true, if_false, Option.some.injEq] at hx'
          exact hx'.elim id fun q => absurd q hkf
        subst hkc
        obtain ⟨c, hc⟩ := cellsFrom_has scope.names (s.heap.objs.size + 1) x hmem
        refine ⟨c, none, by rw [hcells, List.lookup_append, hc]; rfl, (ok.empty x c (mem_of_lookup hc)).1, fun d hd => ?_⟩
        unfold restr at hd
        rw [if_neg (by rw [hl]; simp)] at hd; cases hd
  · intro x y c h1 h2
    rcases split x c h1 with ⟨a1, _⟩ | ⟨_, a2⟩ <;> rcases split y c h2 with ⟨b1, _⟩ | ⟨_, b2⟩
    · exact name_of_addr ok.apart a1 b1
    · obtain ⟨_, vo, o, ho, _⟩ := he.cellP y c b2
      rw [fresh x c a1] at ho; cases ho
    · obtain ⟨_, vo, o, ho, _⟩ := he.cellP x c a2
      rw [fresh y c b1] at ho; cases ho
    · exact he.apart x y c a2 b2
  · intro x c h
    rcases split x c h with ⟨a1, _⟩ | ⟨_, a2⟩
    · exact ⟨hi.none_of (fresh x c a1), none, (ok.empty x c a1).1⟩
    · obtain ⟨h1, vo, hvo⟩ := he.cellP x c a2
      exact ⟨h1, vo, hvo.keeps keep⟩
end
end Mine
end

section
open PySem PySem.W PySem.Calls PyProof.Rows PySem.SeqAt
set_option Elab.async false
set_option maxRecDepth 100000
set_option linter.unusedVariables false
namespace Mine
section
variable {prog : Program} {w : World} {G : Heap} {mg mb : Str → Option Value} {n : Nat} {sc : Scope}

/-- the block's free names -/
noncomputable def restrN (fv : List Str) (ρ : Rho) : Rho := fun x => if x ∈ fv then (match ρ x with | some (.own _) => none | z => z) else none
noncomputable def fvs (scope : Scope) : List Str := (scope.names.filter fun p => p.2 == .free).map (·.1)
theorem restr_fvs {scope : Scope} (hnd : (scope.names.map (·.1)).Nodup) (ρ : Rho) : restr scope ρ = restrN (fvs scope) ρ := by
  funext x
  have : (scope.names.lookup x = some .free) ↔ x ∈ fvs scope := by
    unfold fvs
    simp only [List.mem_map, List.mem_filter]
    constructor
    · intro h; exact ⟨(x, .free), ⟨mem_of_lookup h, by simp⟩, rfl⟩
    · rintro ⟨⟨y, k⟩, ⟨h1, h2⟩, rfl⟩
      have : k = .free := eq_of_beq h2
      subst this
      exact mem_lookup_nodup hnd h1
  unfold restr restrN
  by_cases h : scope.names.lookup x = some .free
  · rw [if_pos h, if_pos (this.mp h)] <;>
    (cases ρ x with
    | none => rfl
    | some d => cases d <;> rfl)
  · rw [if_neg h, if_neg (fun q => h (this.mpr q))]
noncomputable def compE (fv : List Str) (src : Lx) (f : Rho → List D → Nat → Option (List D × Nat)) : Ex := fun ρ k => match src ρ k with
  | none => none
  | some (ds, k1) => match f (restrN fv ρ) ds k1 with
    | none => none
    | some (xs, k2) => if xs.length ≤ big then some (.list xs, k2) else none
theorem compE_some {fv : List Str} {src : Lx} {f : Rho → List D → Nat → Option (List D × Nat)} {ρ : Rho} {k k' : Nat} {d : D} (h : compE fv src f ρ k = some (d, k')) :
    ∃ ds k1 xs, src ρ k = some (ds, k1) ∧ f (restrN fv ρ) ds k1 = some (xs, k') ∧ xs.length ≤ big ∧ d = .list xs := by
  unfold compE at h
  split at h
  · cases h
  · rename_i ds k1 h1
    split at h
    · cases h
    · rename_i xs k2 h2
      split at h
      · rename_i h3; cases h; exact ⟨ds, k1, xs, h1, h2, h3, rfl⟩
      · cases h

structure CompOk (prog : Program) (w : World) (G : Heap) (n : Nat) (sc : Scope) (elt target iter : Expr) (ifs : List Expr) (rest : List Comprehension) (scope : Scope) (pos : Pos) (N fv : List Str) (bf : D → Rho → Option Rho) (src : Lx) (f : Rho → List D → Nat → Option (List D × Nat)) : Prop where
  hfv : fvs scope = fv
  hb : BlockOk scope sc
  hs : ∀ env x, foldedSetIterable iter env x = pure x
  hsrc : SI prog w G N n sc iter target (relS scope sc) bf src
  hl : LoopOk prog w G N n (relS scope sc) elt (⟨target, iter, ifs, 0⟩ :: rest) scope pos 0 target bf f
  hN : ∀ x ∈ N, scope.names.lookup x = some .local ∨ scope.names.lookup x = some .cell

/-- the block runs and leaves its list; the rest by the post -/
theorem comp_run {elt target iter : Expr} {ifs : List Expr} {rest : List Comprehension} {scope : Scope} {pos : Pos} {N fv : List Str} {bf : D → Rho → Option Rho} {src : Lx} {f : Rho → List D → Nat → Option (List D × Nat)} (C : CompOk prog w G n sc elt target iter ifs rest scope pos N fv bf src f)
    {A : Around} {env : Env} {ρ : Rho} {W : Wd} {ow : List Addr} {s : Shared} {E : Value → Shared → Prop} {use : Option (Value → Sem Unit)} {p0 : Pos} {Q : Value → Shared → Prop} (hR : Room A n) (hsc : env.scope = sc) (he : EnvOk env ρ W ow s) (hi : Inv G W s) {d : D} {k' : Nat} (hf : compE fv src f ρ W.k = some (d, k'))
    (hQ : ∀ D C W' s', Ext G W s W' s' → W'.k = k' → Rep W' (.ref D) d → (∃ m, s'.heap.Ns C m) → s.heap.get? C = none → W'.P C = none → C ≠ TB → compPost (model prog w) A E use Q (.ref D) C (.ok .next) s') :
    wpAny (model prog w) A (comprehension (.ListComp elt (⟨target, iter, ifs, 0⟩ :: rest) scope pos) scope env p0 (newList []) false (eval iter env) use) Q E s := by
  subst hsc
  obtain ⟨ds, k1, xs, h1, h2, h3, rfl⟩ := compE_some hf
  rw [← C.hfv, ← restr_fvs C.hb.nd] at h2
  have hclos := closureFor_is (scope := scope) (env := env) fun x hx hk => let ⟨c, vo, h, _⟩ := he.cell x.1 (isCF_kind (C.hb.free x hx hk)); ⟨c, h⟩
  refine wpAny_comprehension_free rfl (C.hs env) hclos C.hb.kind (fun x hx hk => by
    obtain ⟨y, k⟩ := x
    have : k = .local := hk
    subst this
    exact mem_lookup_nodup C.hb.nd hx) ?_
  refine C.hsrc A env ρ W ow s _ E hR rfl he hi ds k1 h1 fun it W1 s1 fp wr St x1 e1 hS hst hfp hwr hlen => ?_
  subst e1
  obtain ⟨ps, hT, _⟩ := hi.tab
  have hD0 := Heap.new_none s1.heap
  refine wpAny_newObj_type ?_
  have x2 := Ext.push x1.inv ({ cls := .type "list", dict := none, data := .seq ([] : List Value).toArray } : Obj) s1.toks
  have x12 := x1.trans x2
  have he2 := he.ext hi x12
  refine block_env C.hb he2 x2.inv fun h3' keep own1 own2 hC0 hce cenv hcenv hcl => ?_
  rw [hcenv, hcl]
  generalize hLL : ({ s1 with heap := s1.heap.push ({ cls := .type "list", dict := none, data := .seq ([] : List Value).toArray } : Obj) } : Shared).heap.objs.size = L at *
  have hlive1 : ∀ b, (s1.heap.push ({ cls := .type "list", dict := none, data := .seq ([] : List Value).toArray } : Obj)).get? b = none → s1.heap.get? b = none := fun b q => by
    cases e : s1.heap.get? b with
    | none => rfl
    | some o => rw [Heap.get?_push_of_some _ e] at q; cases q
  have keep1 : ∀ b o, s1.heap.get? b = some o → h3'.get? b = some o := fun b o e => keep b o (Heap.get?_push_of_some _ e)
  have hi3 : Inv G W1 { s1 with heap := h3' } := x1.inv.keeps (tk := s1.toks) keep1
  have hDP : W1.P s1.heap.objs.size = none := x1.inv.none_of hD0
  have hDT : s1.heap.objs.size ≠ TB := x1.inv.size_ne_TB
  have hfpl : ∀ b ∈ fp, ∃ o, s1.heap.get? b = some o := hS.live _ _ hst
  have hfpO : ∀ b ∈ fp, ¬ Own (blockEnv scope env L) [] b := fun b hb q => by
    rcases own1 b q with z | ⟨x, z⟩
    · obtain ⟨o, ho⟩ := hfpl b hb
      rw [hlive1 b z] at ho; cases ho
    · exact fp_own he hi x1 (hfp b hb) (.inr (.inl ⟨x, z⟩))
  have hDO : ¬ Own (blockEnv scope env L) [] s1.heap.objs.size := fun q => by
    rcases own1 _ q with z | ⟨x, z⟩
    · have := Heap.get?_push_size s1.heap (o := ({ cls := .type "list", dict := none, data := .seq ([] : List Value).toArray } : Obj)) rfl
      have z' : (s1.heap.push ({ cls := .type "list", dict := none, data := .seq ([] : List Value).toArray } : Obj)).get? s1.heap.objs.size = none := z
      rw [this] at z'; cases z'
    · obtain ⟨_, vo, o, ho, _⟩ := (he.ext hi x1).cellP x _ z
      rw [hD0] at ho; cases ho
  have hLdead : s.heap.get? L = none := x12.dead hC0
  have loop : codeAny (model prog w) A (.compLoop (.ListComp elt (⟨target, iter, ifs, 0⟩ :: rest) scope pos) 0 it (.ref s1.heap.objs.size) (blockEnv scope env L)) (compPost (model prog w) A E use Q (.ref s1.heap.objs.size) L) { s1 with heap := h3' } := by
    refine C.hl A (blockEnv scope env L) (restr scope ρ) W1 _ it ds fp wr St s1.heap.objs.size [] 0 _ hR (relS_eq ..) hS (hS.frame _ _ _ hst fun b _ o e => keep1 b o e) hce hi3 hfpO (fun b hb => ⟨(hwr b hb).2, fun q => by subst q; rw [(hwr TB hb).1] at hT; cases hT⟩)
      (keep _ _ (Heap.get?_push_size _ rfl)) hDP hDT hDO (fun q => by obtain ⟨o, ho⟩ := hfpl _ q; rw [hD0] at ho; cases ho) (fun q => fp_ne x1 hT hi.tabP (hfp TB q) rfl) xs k' h2 (by simpa using h3) fun h4 tk4 W4 vs m4 kp hW4 hk4 he4 hi4 hD4 hr4 hDP4 => ?_
    have hput : Inv G (W4.put s1.heap.objs.size (listO vs m4)) { s1 with heap := h4, toks := tk4 } := hi4.put (by simpa using hD4) hDP4 hDT
    have hN : ∀ b, OwnN (blockEnv scope env L) N b → s.heap.get? b = none := fun b ⟨x, hx, hp⟩ => x12.dead (own2 x b (C.hN x hx) hp)
    have hW04 : Wle W W4 s.heap := x1.le.trans hW4 (fun a q => x1.dead (by
      cases e : s1.heap.get? a with
      | none => rfl
      | some o => have := keep1 a o e; rw [show ({ s1 with heap := h3' } : Shared).heap = h3' from rfl] at q; rw [this] at q; cases q))
    have hsD : s.heap.get? s1.heap.objs.size = none := x1.dead hD0
    obtain ⟨h1', tk1, hs1⟩ := x1.same
    refine hQ s1.heap.objs.size L (W4.put s1.heap.objs.size (listO vs m4)) { s1 with heap := h4, toks := tk4 } ⟨⟨h4, tk4, by rw [hs1]⟩, fun b o hb e => ?_, hW04.trans (.put (h := s.heap) hDP4 hsD) (fun _ q => q), hput⟩ hk4 (.list (Wd.put_self ..) (by rw [hr4.length]; exact h3) (hr4.mono (.put (h := s.heap) hDP4 hsD))) (let ⟨m, hm, _⟩ := he4.ns; ⟨m, hm⟩) hLdead ?_ ?_
    · refine kp.keep b o (fun q => ?_) (fun q => ?_) (fun q => ?_) hb (keep1 b o (x1.keep b o hb e))
      · rw [(hwr b q).1] at e; cases e
      · rw [hN b q] at e; cases e
      · rw [q, hsD] at e; cases e
    · have hL4 : W4.P L = none := he4.locP
      have hne : L ≠ s1.heap.objs.size := fun q => hDO (.inl q.symm)
      show (if L = s1.heap.objs.size then _ else W4.P L) = none
      rw [if_neg hne]; exact hL4
    · exact own_ne_TB he4 hi4 (.inl rfl)
  exact start_any rfl loop (hS.self 0 _ _ _ (hS.frame _ _ _ hst fun b _ o e => keep1 b o e) loop)

theorem se_comp {elt target iter : Expr} {ifs : List Expr} {rest : List Comprehension} {scope : Scope} {pos : Pos} {N fv : List Str} {bf : D → Rho → Option Rho} {src : Lx} {f : Rho → List D → Nat → Option (List D × Nat)} (C : CompOk prog w G n sc elt target iter ifs rest scope pos N fv bf src f) :
    SE prog w G n sc (.ListComp elt (⟨target, iter, ifs, 0⟩ :: rest) scope pos) (compE fv src f) := fun A env ρ W ow s Q E hR hs he hi d k' hf hQ => by
  rw [eval_ListComp]
  refine comp_run (use := none) C hR hs he hi hf fun D L W' s' x hk hr hns hL hLP hLT => ?_
  obtain ⟨m, hm⟩ := hns
  refine ⟨m, hm, fun h' hs' => ?_⟩
  obtain ⟨h1, tk1, hs1⟩ := x.same
  have hb : ∀ b o, b ∉ [L] → s'.heap.get? b = some o → h'.get? b = some o := fun b o hb e => hs'.extBut b o (by simpa using hb) e
  have hi' : Inv G W' { s' with heap := h' } := Inv.change (s := s') (tk := s'.toks) [L] x.inv hb (by simpa using hLP) (by simpa using hLT.symm)
  refine hQ (.ref D) W' { s' with heap := h' } ⟨⟨h', tk1, by rw [hs1]⟩, fun b o hb e => hs'.extBut b o (fun q => ?_) (x.keep b o hb e), x.le, hi'⟩ hk hr
  rw [q, hL] at e; cases e
end
end Mine
end

section
open PySem PySem.W PySem.Calls PyProof.Rows PySem.SeqAt
set_option Elab.async false
set_option maxRecDepth 100000
set_option linter.unusedVariables false
namespace Mine
section
variable {prog : Program} {w : World} {G : Heap} {mg mb : Str → Option Value} {n : Nat} {sc : Scope}

/-! iterables with a plain name as target -/
noncomputable def bf1 (x : Str) : D → Rho → Option Rho := fun d ρ => match ρ x with | none => some (upd ρ x d) | some _ => none
theorem bf1_upd {x : Str} {d : D} {ρ ρ' : Rho} (h : bf1 x d ρ = some ρ') : ρ' = upd ρ x d := by
  unfold bf1 at h; split at h <;> cases h; rfl
theorem bf1_mono (x : Str) : Mono (bf1 x) := fun d ρ ρ' h y e hy => by
  unfold bf1 at h
  split at h
  · rename_i hx; cases h
    have : y ≠ x := fun q => by rw [q, hx] at hy; cases hy
    simpa [upd, this] using hy
  · cases h

theorem Src.ofWalks {A : Around} {I : Addr} {fp wr : List Addr} {ds : List D} {P : Nat → Value → Prop} {St : Nat → Heap → Prop} {W0 : Wd} {x : Str} {px : Pos} {N : List Str} {bf : D → Rho → Option Rho} (Wk : Walks prog w A I fp wr ds.length P St)
    (hP : ∀ i v, P i v → ∀ d, ds[i]? = some d → Rep W0 v d) (hlive : ∀ i h, St i h → ∀ b ∈ fp, ∃ o, h.get? b = some o) (hx : bindOk sc x = true) (hN : x ∈ N) (hbf : ∀ d ρ ρ', bf d ρ = some ρ' → ρ' = upd ρ x d) :
    Src prog w G A (.ref I) (.Name x px) sc bf ds W0 N fp wr St where
  sub := Wk.sub
  live := hlive
  frame := Wk.frame
  done := fun s Q E hst hQ => Wk.done s Q E hst hQ
  self := fun i s Q E hst hQ => Wk.self i s Q E hst hQ
  turn := fun i d env ρ ρ' W ow s Q E hd hb hst hsc he hi hW hfp hwr hQ => by
    have hlt : i < ds.length := (List.getElem?_eq_some_iff.mp hd).1
    refine Wk.item i s _ E hlt hst fun v h1 tk1 hPv hst1 hk1 => ?_
    have hr : Rep W v d := (hP i v hPv d hd).mono hW
    have hl1 : ∀ b, h1.get? b = none → s.heap.get? b = none := fun b hb => by
      cases e : s.heap.get? b with
      | none => rfl
      | some o =>
        by_cases q : b ∈ wr
        · obtain ⟨o', ho'⟩ := hlive _ _ hst1 b (Wk.sub b q)
          rw [ho'] at hb; cases hb
        · rw [hk1 b o q e] at hb; cases hb
    have he1 : EnvOk env ρ W ow { s with heap := h1, toks := tk1 } := he.stand (.refl ..) fun b o hb e => hk1 b o (fun q => hfp b (Wk.sub b q) hb) e
    have hi1 : Inv G W { s with heap := h1, toks := tk1 } := hi.change wr hk1 (fun b hb => (hwr b hb).1) (fun q => (hwr _ q).2 rfl)
    have hro : RepV W ow { s with heap := h1, toks := tk1 } v d := by
      cases d with
      | own xs => cases hr
      | _ => exact hr
    have hρ := hbf _ _ _ hb
    subst hρ
    refine wpAny_pure (wpAny_assign_Name (st_ok (G := G) he1 hi1 (by rw [hsc]; exact hx) hro fun h2 tk2 hk2 hl2 he2 hi2 => ?_))
    refine hQ h2 tk2 W (fun b o q1 q2 e => hk2 b o (fun q => q2 ⟨x, hN, q⟩) (hk1 b o q1 e)) (fun b q => hl1 b (hl2 b q)) (.refl ..) rfl he2 hi2 (Wk.frame _ _ _ hst1 fun b hb o e => hk2 b o (fun q => hfp b hb ?_) e)
    rcases q with ⟨_, q⟩ | ⟨_, q⟩
    · exact .inl q
    · exact .inr (.inl ⟨x, q⟩)

noncomputable def itemsD : D → Option (List D)
  | .list xs => some xs
  | .str x => some (x.cps.toList.map fun c => .str ⟨#[c]⟩)
  | _ => none
noncomputable def itemsL (f : Ex) : Lx := fun ρ k => match f ρ k with
  | none => none
  | some (d, k') => match itemsD d with
    | none => none
    | some xs => some (xs, k')
theorem si_val {N : List Str} {tsc : Scope} {e : Expr} {x : Str} {px : Pos} {bf : D → Rho → Option Rho} {f : Ex} (h : SE prog w G n sc e f) (hx : bindOk tsc x = true) (hN : x ∈ N) (hbf : ∀ d ρ ρ', bf d ρ = some ρ' → ρ' = upd ρ x d) :
    SI prog w G N n sc e (.Name x px) tsc bf (itemsL f) := fun A env ρ W ow s Q E hR hs he hi ds k' hf hQ => by
  unfold itemsL at hf
  split at hf
  · cases hf
  · rename_i d k1 h1
    split at hf
    · cases hf
    · rename_i xs h2
      cases hf
      refine h A env ρ W ow s _ E hR hs he hi d _ h1 fun v W1 s1 x1 e1 r1 => ?_
      subst e1
      have hI := Heap.new_none s1.heap
      unfold itemsD at h2
      split at h2
      · cases h2
        obtain ⟨a, vs, m, rfl, p1, p2, p3⟩ := rep_list r1
        have hne : a ≠ s1.heap.objs.size := fun q => by rw [q, x1.inv.none_of hI] at p1; cases p1
        refine wpAny_pyIter_list (isList_of x1.inv p1) ?_
        have x2 := Ext.push x1.inv ({ cls := .type "list_iterator", data := .fields #[.ref a, .int 0 0] } : Obj) s1.toks
        have hlen : vs.toArray.size = ds.length := by rw [List.size_toArray, p3.length]
        have Wk := Walks.list (prog := prog) (w := w) (A := A) hR.1 s1.heap.objs.size a hne vs.toArray
        rw [hlen] at Wk
        refine hQ _ W1 _ _ _ _ (x1.trans x2) rfl (Src.ofWalks Wk (fun i v hv d hd => ?_) (fun i h hst b hb => ?_) hx hN hbf) ⟨⟨_, Heap.get?_push_size _ rfl, rfl, rfl⟩, isList_of x2.inv p1⟩ ?_ ?_ (by rw [← p3.length]; exact p2)
        · obtain ⟨d', h3, h4⟩ := p3.get' i v (by simpa using hv)
          rw [hd] at h3; cases h3; exact h4
        · rcases List.mem_cons.mp hb with rfl | hb
          · obtain ⟨o, ho, _⟩ := hst.1; exact ⟨o, ho⟩
          · rcases List.mem_cons.mp hb with rfl | hb
            · obtain ⟨o, ho, _⟩ := hst.2; exact ⟨o, ho⟩
            · cases hb
        · intro b hb
          rcases List.mem_cons.mp hb with rfl | hb
          · exact .inr (x1.dead hI)
          · rcases List.mem_cons.mp hb with rfl | hb
            · exact .inl ⟨_, p1⟩
            · cases hb
        · intro b hb
          rcases List.mem_cons.mp hb with rfl | hb
          · exact ⟨x1.dead hI, x1.inv.none_of hI⟩
          · cases hb
      · cases h2
        obtain ⟨t, rfl, ha⟩ := rep_str r1
        rename_i x0
        have hall : x0.cps.all (· < 128) = true := by
          rw [Array.all_eq_true']; intro c hc; simpa using ha.2 c (by simpa using hc)
        refine wpAny_pyIter_ascii hall ?_
        have x2 := Ext.push x1.inv ({ cls := .type "str_ascii_iterator", data := .fields #[.str x0 t, .int 0 0] } : Obj) s1.toks
        have Wk := Walks.strAscii (prog := prog) (w := w) (A := A) hR.1 s1.heap.objs.size x0 t
        have hlen : x0.cps.size = (x0.cps.toList.map fun c => D.str ⟨#[c]⟩).length := by simp
        rw [hlen] at Wk
        refine hQ _ W1 _ _ _ _ (x1.trans x2) rfl (Src.ofWalks Wk (fun i v hv d hd => ?_) (fun i h hst b hb => ?_) hx hN hbf) ⟨_, Heap.get?_push_size _ rfl, rfl, rfl⟩ ?_ ?_ (by rw [← hlen]; exact ha.1)
        · obtain ⟨c, u, h3, rfl⟩ := hv
          have h3' : x0.cps.toList[i]? = some c := by simpa using h3
          rw [List.getElem?_map, h3'] at hd
          cases hd
          exact .str _ ⟨by show 1 ≤ big; decide, fun c' hc' => by simp at hc'; subst hc'; exact ha.2 _ (List.mem_of_getElem? h3')⟩
        · rcases List.mem_cons.mp hb with rfl | hb
          · obtain ⟨o, ho, _⟩ := hst; exact ⟨o, ho⟩
          · cases hb
        · intro b hb
          rcases List.mem_cons.mp hb with rfl | hb
          · exact .inr (x1.dead hI)
          · cases hb
        · intro b hb
          rcases List.mem_cons.mp hb with rfl | hb
          · exact ⟨x1.dead hI, x1.inv.none_of hI⟩
          · cases hb
      · cases h2

/-! calls of built-ins with one argument -/
theorem args1 {A : Around} {env : Env} {ρ : Rho} {W : Wd} {ow : List Addr} {s : Shared} {fv : Value} {e : Expr} {pos : Pos} {f : Ex} {Q : Args → Shared → Prop} {E : Value → Shared → Prop} (h : SE prog w G n sc e f) (hst : ∀ env, starEach [e] env = [(false, eval e env)]) (hR : Room A n) (hs : env.scope = sc) (he : EnvOk env ρ W ow s) (hi : Inv G W s)
    {a : D} {k1 : Nat} (hf : f ρ W.k = some (a, k1)) (hQ : ∀ v W1 s1, Ext G W s W1 s1 → W1.k = k1 → Rep W1 v a → Q ⟨[v], []⟩ s1) : wpAny (model prog w) A (evalArgs fv true (backTo pos (starEach [e] env)) []) Q E s := by
  have hL := sl_cons h sl_nil hst A env ρ W ow s pos (fun vs s' => Q ⟨vs, []⟩ s') E hR hs he hi [a] k1 (by unfold consL; rw [hf]; rfl) fun vs W' s' x e r l => by
    cases r with | cons r1 r2 => cases r2; exact hQ _ _ _ x e r1
  rw [hst] at hL ⊢
  exact evalArgs_plain hL
theorem call1T {A : Around} {env : Env} {ρ : Rho} {W : Wd} {ow : List Addr} {s : Shared} {x : Str} {T : String} {e : Expr} {p pos : Pos} {f : Ex} {Q : Value → Shared → Prop} {E : Value → Shared → Prop} (gn : Gnd prog w G mg mb) (hg : isGlob sc x = true) (hx : nsIn (hd.heap_39 w.params) mainGlobals x = some none) (hb : bootBuiltins x = some (.type T)) (hne : x ≠ "__name__") (hdb : (x == ("__debug__" : Str)) = false)
    (h : SE prog w G n sc e f) (hst : ∀ env, starEach [e] env = [(false, eval e env)]) (hR : Room A n) (hs : env.scope = sc) (he : EnvOk env ρ W ow s) (hi : Inv G W s) {a : D} {k1 : Nat} (hf : f ρ W.k = some (a, k1))
    (hQ : ∀ v W1 s1, Ext G W s W1 s1 → W1.k = k1 → Rep W1 v a → wpAny (model prog w) A (call (.type T) [v]) Q E s1) : wpAny (model prog w) A (eval (.Call (.Name x p) [e] [] pos) env) Q E s := by
  refine wpAny_Call_NameR (glob_bi gn he hi hs hg hx hb hne hdb (PySem.callWith_type (by rw [hst]; rfl) (args1 h hst hR hs he hi hf fun v W1 s1 x1 e1 r1 => ?_)))
  exact hQ v W1 s1 x1 e1 r1
theorem call1B {A : Around} {env : Env} {ρ : Rho} {W : Wd} {ow : List Addr} {s : Shared} {x : Str} {T : String} {e : Expr} {p pos : Pos} {f : Ex} {Q : Value → Shared → Prop} {E : Value → Shared → Prop} (gn : Gnd prog w G mg mb) (hg : isGlob sc x = true) (hx : nsIn (hd.heap_39 w.params) mainGlobals x = some none) (hb : bootBuiltins x = some (.builtin T)) (hne : x ≠ "__name__") (hdb : (x == ("__debug__" : Str)) = false)
    (h : SE prog w G n sc e f) (hst : ∀ env, starEach [e] env = [(false, eval e env)]) (hR : Room A n) (hs : env.scope = sc) (he : EnvOk env ρ W ow s) (hi : Inv G W s) {a : D} {k1 : Nat} (hf : f ρ W.k = some (a, k1))
    (hQ : ∀ v W1 s1, Ext G W s W1 s1 → W1.k = k1 → Rep W1 v a → wpAny (model prog w) A (call (.builtin T) [v]) Q E s1) : wpAny (model prog w) A (eval (.Call (.Name x p) [e] [] pos) env) Q E s := by
  refine wpAny_Call_NameR (glob_bi gn he hi hs hg hx hb hne hdb (callWith_builtin (by rw [hst]; rfl) (args1 h hst hR hs he hi hf fun v W1 s1 x1 e1 r1 => ?_)))
  exact hQ v W1 s1 x1 e1 r1
end
end Mine
end

section
open PySem PySem.W PySem.Calls PyProof.Rows PySem.SeqAt
set_option Elab.async false
set_option maxRecDepth 100000
set_option linter.unusedVariables false
namespace Mine
section
variable {prog : Program} {w : World} {G : Heap} {mg mb : Str → Option Value} {n : Nat} {sc : Scope}

noncomputable def oneE (op : D → Option D) (f : Ex) : Ex := fun ρ k => match f ρ k with
  | none => none
  | some (a, k1) => match op a with
    | none => none
    | some d => some (d, k1)
theorem oneE_some {op : D → Option D} {f : Ex} {ρ : Rho} {k k' : Nat} {d : D} (h : oneE op f ρ k = some (d, k')) : ∃ a, f ρ k = some (a, k') ∧ op a = some d := by
  unfold oneE at h
  split at h
  · cases h
  · rename_i a k1 h1
    split at h
    · cases h
    · rename_i d' h2; cases h; exact ⟨a, h1, h2⟩

noncomputable def lenD : D → Option D
  | .list xs => some (.int xs.length)
  | .str x => some (.int x.length)
  | _ => none
theorem big_63 {m : Nat} (h : m ≤ big) : (m : Int) < 2 ^ 63 := by unfold big at h; omega
theorem se_len {e : Expr} {p pos : Pos} {f : Ex} (gn : Gnd prog w G mg mb) (hg : isGlob sc "len" = true) (h : SE prog w G n sc e f) (hst : ∀ env, starEach [e] env = [(false, eval e env)]) :
    SE prog w G n sc (.Call (.Name "len" p) [e] [] pos) (oneE lenD f) := fun A env ρ W ow s Q E hR hs he hi d k' hf hQ => by
  obtain ⟨a, h1, h2⟩ := oneE_some hf
  refine call1B (T := "len") gn hg (by kernel_rfl) (by decide +kernel) (by decide +kernel) (by decide +kernel) h hst hR hs he hi h1 fun v W1 s1 x1 e1 r1 => ?_
  unfold lenD at h2
  split at h2
  · cases h2
    obtain ⟨_, _, _, rfl, p1, p2, p3⟩ := rep_list r1
    refine call_len_list (isList_of x1.inv p1) (by simpa using big_63 p2) ?_
    have := hQ (.int _ (s1.toks + 1)) W1 { s1 with toks := s1.toks + 1 + 1 } (x1.trans (.toks x1.inv _)) e1 (.int _ _)
    simpa [p3.length] using this
  · cases h2
    obtain ⟨t, rfl, ha⟩ := rep_str r1
    exact PyProof.Rows.len_str (by have := big_63 ha.1; omega) (hQ _ _ _ (x1.trans (.toks x1.inv _)) e1 (.int _ _))
  · cases h2

noncomputable def intsD : List D → Option (List Int)
  | [] => some []
  | .int i :: r => match intsD r with
    | none => none
    | some is => some (i :: is)
  | _ :: _ => none
theorem intsD_rep {W : Wd} : ∀ {ds : List D} {is : List Int} {vs : List Value}, intsD ds = some is → RepL W vs ds → vs.length = is.length ∧ ∀ (i : Nat) (v : Value), vs[i]? = some v → ∃ t, v = .int (is.getD i 0) t
  | [], is, vs, h, r => by cases h; cases r; exact ⟨rfl, fun i v h => by simp at h⟩
  | .int j :: ds, is, vs, h, r => by
    unfold intsD at h
    split at h
    · cases h
    · rename_i js h1
      cases h
      obtain ⟨_, _, rfl, r1, r2⟩ := repL_cons r
      obtain ⟨h2, h3⟩ := intsD_rep h1 r2
      cases r1
      refine ⟨by simp [h2], fun i v hv => ?_⟩
      cases i with
      | zero => simp at hv; subst hv; exact ⟨_, rfl⟩
      | succ i => simpa using h3 i v (by simpa using hv)
  | .none :: ds, is, vs, h, r => by cases h
  | .bool _ :: ds, is, vs, h, r => by cases h
  | .str _ :: ds, is, vs, h, r => by cases h
  | .list _ :: ds, is, vs, h, r => by cases h
  | .tuple _ :: ds, is, vs, h, r => by cases h
  | .rule _ _ :: ds, is, vs, h, r => by cases h
  | .ent _ _ _ _ :: ds, is, vs, h, r => by cases h
  | .fn _ :: ds, is, vs, h, r => by cases h
  | .own _ :: ds, is, vs, h, r => by cases h
theorem preSum_list (is : List Int) : ∀ k, k ≤ is.length → preSum (fun i => is.getD i 0) k = (is.take k).sum
  | 0, _ => by simp [preSum]
  | k + 1, h => by
    have hk : k < is.length := by omega
    rw [preSum, preSum_list is k (by omega), List.take_succ_eq_append_getElem hk, List.sum_append]
    simp [List.getD, hk]
noncomputable def sumD : D → Option D
  | .list xs => (intsD xs).map fun is => .int is.sum
  | _ => none
theorem in1_handled {A : Around} (h : A.handled = none) : A.in1.handled = none := h
theorem se_sum {e : Expr} {p pos : Pos} {f : Ex} (gn : Gnd prog w G mg mb) (hg : isGlob sc "sum" = true) (h : SE prog w G n sc e f) (hst : ∀ env, starEach [e] env = [(false, eval e env)]) :
    SE prog w G n sc (.Call (.Name "sum" p) [e] [] pos) (oneE sumD f) := fun A env ρ W ow s Q E hR hs he hi d k' hf hQ => by
  obtain ⟨a, h1, h2⟩ := oneE_some hf
  refine call1B (T := "sum") gn hg (by kernel_rfl) (by decide +kernel) (by decide +kernel) (by decide +kernel) h hst hR hs he hi h1 fun v W1 s1 x1 e1 r1 => ?_
  unfold sumD at h2
  split at h2
  · obtain ⟨is, h3, rfl⟩ := Option.map_eq_some_iff.mp h2
    obtain ⟨l, vs, m, rfl, p1, p2, p3⟩ := rep_list r1
    obtain ⟨hl, hv⟩ := intsD_rep h3 p3
    have hI := Heap.new_none s1.heap
    have hne : l ≠ s1.heap.objs.size := fun q => by rw [q, x1.inv.none_of hI] at p1; cases p1
    have hll : l < s1.heap.objs.size := Heap.lt_size (x1.inv.sub _ _ p1)
    have x2 := Ext.push x1.inv ({ cls := .type "list_iterator", data := .fields #[.ref l, .int 0 0] } : Obj) s1.toks
    refine call_sum_walkAnyS (wpAny_pyIter_list (isList_of x1.inv p1) ⟨_, _, _, _, _, _, _, (fun i => is.getD i 0), rfl, (Walks.list (in1_handled hR.1) s1.heap.objs.size l hne vs.toArray).toS, ⟨⟨_, Heap.get?_push_size _ rfl, rfl, rfl⟩, isList_of x2.inv p1⟩, ?_, ?_, ?_⟩)
    · intro b hb
      show b < (s1.heap.push _).objs.size
      rw [Heap.size_push]
      rcases List.mem_cons.mp hb with rfl | hb
      · exact Nat.lt_succ_self _
      · rcases List.mem_cons.mp hb with rfl | hb
        · exact Nat.lt_succ_of_lt hll
        · cases hb
    · intro i v h; exact hv i v (by simpa using h)
    · intro s' t' M
      have hsum : preSum (fun i => is.getD i 0) vs.toArray.size = is.sum := by
        rw [List.size_toArray, hl, preSum_list is _ (Nat.le_refl _), List.take_length]
      rw [hsum]
      obtain ⟨g1, g2, g3, g4, g5⟩ := M
      have hk : ∀ b o, s1.heap.get? b = some o → s'.heap.get? b = some o := fun b o e => g1 b o (fun q => by
        rcases List.mem_cons.mp q with rfl | q
        · rw [hI] at e; cases e
        · cases q) (Heap.get?_push_of_some _ e)
      have es : s' = { s1 with heap := s'.heap, toks := s'.toks } := by
        cases s'; simp only at g2 g3 g4; subst g2 g3 g4; rfl
      rw [es]
      exact hQ _ W1 _ (x1.trans (Ext.keeps x1.inv hk)) e1 (.int _ _)
  · cases h2

/-! the greatest -/
noncomputable def maxTo (val : Nat → Int) : Nat → Int
  | 0 => val 0
  | k + 1 => if maxTo val k < val (k + 1) then val (k + 1) else maxTo val k
theorem argBest_max (val : Nat → Int) : ∀ k, val (argBest (fun i j => decide (val j < val i)) k) = maxTo val k
  | 0 => rfl
  | k + 1 => by
    unfold argBest maxTo
    rw [← argBest_max val k]
    by_cases h : val (argBest (fun i j => decide (val j < val i)) k) < val (k + 1)
    · simp [h]
    · simp [h]
noncomputable def maxI : List Int → Int
  | [] => 0
  | i :: r => r.foldl (fun a b => if a < b then b else a) i
theorem maxTo_list (is : List Int) : ∀ k, k < is.length → maxTo (fun i => is.getD i 0) k = maxI (is.take (k + 1)) := by
  cases is with
  | nil => intro k h; simp at h
  | cons i r =>
    intro k
    induction k with
    | zero => intro _; simp [maxTo, maxI]
    | succ k ih =>
      intro h
      have hk : k < r.length := by simpa using h
      rw [maxTo, ih (by omega)]
      have e : (i :: r).getD (k + 1) 0 = r[k] := by simp [List.getD, hk]
      rw [e]
      show _ = maxI (i :: r.take (k + 1))
      rw [List.take_succ_eq_append_getElem hk]
      show (if (r.take k).foldl (fun a b => if a < b then b else a) i < r[k] then r[k] else (r.take k).foldl (fun a b => if a < b then b else a) i) = (r.take k ++ [r[k]]).foldl (fun a b => if a < b then b else a) i
      rw [List.foldl_append]; rfl
noncomputable def maxD : D → Option D
  | .list xs => match intsD xs with
    | some (i :: is) => some (.int (maxI (i :: is)))
    | _ => none
  | _ => none
theorem argBest_le (bt : Nat → Nat → Bool) : ∀ k, argBest bt k ≤ k
  | 0 => Nat.le_refl _
  | k + 1 => by
    unfold argBest
    split
    · exact Nat.le_refl _
    · exact Nat.le_succ_of_le (argBest_le bt k)
theorem se_max {e : Expr} {p pos : Pos} {f : Ex} (gn : Gnd prog w G mg mb) (hg : isGlob sc "max" = true) (h : SE prog w G n sc e f) (hst : ∀ env, starEach [e] env = [(false, eval e env)]) :
    SE prog w G n sc (.Call (.Name "max" p) [e] [] pos) (oneE maxD f) := fun A env ρ W ow s Q E hR hs he hi d k' hf hQ => by
  obtain ⟨a, h1, h2⟩ := oneE_some hf
  refine call1B (T := "max") gn hg (by kernel_rfl) (by decide +kernel) (by decide +kernel) (by decide +kernel) h hst hR hs he hi h1 fun v W1 s1 x1 e1 r1 => ?_
  unfold maxD at h2
  split at h2
  · split at h2
    · rename_i xs i0 is0 h3
      cases h2
      generalize hii : i0 :: is0 = is at *
      have hpos : 0 < is.length := by rw [← hii]; simp
      obtain ⟨l, vs, m, rfl, p1, p2, p3⟩ := rep_list r1
      obtain ⟨hl, hv⟩ := intsD_rep h3 p3
      have hI := Heap.new_none s1.heap
      have hne : l ≠ s1.heap.objs.size := fun q => by rw [q, x1.inv.none_of hI] at p1; cases p1
      have hll : l < s1.heap.objs.size := Heap.lt_size (x1.inv.sub _ _ p1)
      have x2 := Ext.push x1.inv ({ cls := .type "list_iterator", data := .fields #[.ref l, .int 0 0] } : Obj) s1.toks
      refine call_max_walk (wpAny_pyIter_list (isList_of x1.inv p1) ⟨_, _, _, _, _, _, (fun i j => decide (is.getD j 0 < is.getD i 0)), rfl, Walks.list (in1_handled hR.1) s1.heap.objs.size l hne vs.toArray, ⟨⟨_, Heap.get?_push_size _ rfl, rfl, rfl⟩, isList_of x2.inv p1⟩, ?_, ?_, ?_, ?_⟩)
      · intro b hb
        show b < (s1.heap.push _).objs.size
        rw [Heap.size_push]
        rcases List.mem_cons.mp hb with rfl | hb
        · exact Nat.lt_succ_self _
        · rcases List.mem_cons.mp hb with rfl | hb
          · exact Nat.lt_succ_of_lt hll
          · cases hb
      · rw [List.size_toArray, hl]; exact hpos
      · intro i j vi vj s' Q' E' hvi hvj hq
        obtain ⟨t1, rfl⟩ := hv i vi (by simpa using hvi)
        obtain ⟨t2, rfl⟩ := hv j vj (by simpa using hvj)
        show wpAny _ _ (compareOp .Gt _ _) _ _ _
        exact PyProof.Rows.gt_int hq
      · intro v h' tk hP hk'
        obtain ⟨t, rfl⟩ := hv (argBest (fun i j => decide (is.getD j 0 < is.getD i 0)) (vs.toArray.size - 1)) v (by rw [← List.getElem?_toArray]; exact hP)
        rw [argBest_max (fun i => is.getD i 0), List.size_toArray, hl, maxTo_list is _ (by omega)]
        have : is.take (is.length - 1 + 1) = is := by rw [Nat.sub_add_cancel hpos, List.take_length]
        rw [this]
        have hk : ∀ b o, s1.heap.get? b = some o → h'.get? b = some o := fun b o e => hk' b o (fun q => by
          rcases List.mem_cons.mp q with rfl | q
          · rw [hI] at e; cases e
          · cases q) (Heap.get?_push_of_some _ e)
        exact hQ _ W1 _ (x1.trans (Ext.keeps x1.inv hk)) e1 (.int _ _)
    · cases h2
  · cases h2

/-! ranges -/
noncomputable def rangeD : D → Option (List D)
  | .int i => if i ≤ 1000 ∧ -1000 ≤ i then some ((List.range i.toNat).map fun (j : Nat) => D.int (j : Int)) else none
  | _ => none
theorem range_size {i : Int} : Builtin.Range.rangeSize 0 i 1 = (i.toNat : Int) := by
  unfold Builtin.Range.rangeSize
  rw [if_pos (by decide)]
  split
  · rw [Int.ediv_one]; omega
  · omega
theorem range_small {i : Int} (h : i ≤ 1000 ∧ -1000 ≤ i) : Builtin.Range.small 0 i 1 = true := by
  unfold Builtin.Range.small Builtin.Range.rangeFitsLong
  rw [range_size]
  simp only [Bool.and_eq_true, Bool.or_eq_true, decide_eq_true_eq]
  refine ⟨⟨⟨⟨⟨by omega, by omega⟩, ⟨by omega, by omega⟩⟩, ⟨by omega, by omega⟩⟩, ⟨by omega, by omega⟩⟩, .inr ?_⟩
  rw [if_pos (by decide)]
  simp only [Bool.and_eq_true, decide_eq_true_eq]
  exact ⟨by omega, by omega⟩
noncomputable def rangeL (f : Ex) : Lx := fun ρ k => match f ρ k with
  | none => none
  | some (d, k') => match rangeD d with
    | none => none
    | some xs => some (xs, k')
theorem si_range {N : List Str} {tsc : Scope} {e : Expr} {x : Str} {px p pos : Pos} {bf : D → Rho → Option Rho} {f : Ex} (gn : Gnd prog w G mg mb) (hg : isGlob sc "range" = true) (h : SE prog w G n sc e f) (hst : ∀ env, starEach [e] env = [(false, eval e env)]) (hx : bindOk tsc x = true) (hN : x ∈ N) (hbf : ∀ d ρ ρ', bf d ρ = some ρ' → ρ' = upd ρ x d) :
    SI prog w G N n sc (.Call (.Name "range" p) [e] [] pos) (.Name x px) tsc bf (rangeL f) := fun A env ρ W ow s Q E hR hs he hi ds k' hf hQ => by
  unfold rangeL at hf
  split at hf
  · cases hf
  · rename_i d k1 h1
    split at hf
    · cases hf
    · rename_i xs h2
      cases hf
      refine call1T (T := "range") gn hg (by kernel_rfl) (by decide +kernel) (by decide +kernel) (by decide +kernel) h hst hR hs he hi h1 fun v W1 s1 x1 e1 r1 => ?_
      subst e1
      unfold rangeD at h2
      split at h2
      · split at h2
        · rename_i i hb
          cases h2
          obtain ⟨t, rfl⟩ := rep_int r1
          refine call_range_1 ?_
          have x2 := Ext.push x1.inv ({ cls := .type "range", data := .fields #[.int 0 s1.toks, .int i t, .int 1 (s1.toks + 1)] } : Obj) (s1.toks + 1 + 1)
          have x12 := x1.trans x2
          have hI := Heap.new_none (s1.heap.push ({ cls := .type "range", data := .fields #[.int 0 s1.toks, .int i t, .int 1 (s1.toks + 1)] } : Obj))
          refine wpAny_pyIter_range (IsRange.new ..) (range_small hb) ?_
          have x3 := Ext.push x2.inv ({ cls := .type "range_iterator", data := .fields #[rawInt 0, rawInt (Builtin.Range.rangeSize 0 i 1), rawInt 1] } : Obj) (s1.toks + 1 + 1)
          have Wk := Walks.range (prog := prog) (w := w) (A := A) hR.1 (s1.heap.push ({ cls := .type "range", data := .fields #[.int 0 s1.toks, .int i t, .int 1 (s1.toks + 1)] } : Obj)).objs.size 0 1 i.toNat
          have hlen : i.toNat = ((List.range i.toNat).map fun (j : Nat) => D.int (j : Int)).length := by simp
          rw [hlen] at Wk
          refine hQ _ W1 _ _ _ _ (x12.trans x3) rfl (Src.ofWalks Wk (fun j v hv d hd => ?_) (fun j h hst b hb => ?_) hx hN hbf) ?_ ?_ ?_ (by rw [← hlen]; exact Nat.le_trans (by omega) (show 1000 ≤ big by decide))
          · obtain ⟨t', rfl⟩ := hv
            rw [List.getElem?_map] at hd
            obtain ⟨j', hj, rfl⟩ := Option.map_eq_some_iff.mp hd
            have : j' = j := by
              have := List.getElem?_eq_some_iff.mp hj
              obtain ⟨h1, h2⟩ := this
              simpa using h2.symm
            subst this
            have e : (0 : Int) + (j' : Int) * 1 = (j' : Int) := by omega
            rw [e]; exact .int _ _
          · rcases List.mem_cons.mp hb with rfl | hb
            · exact ⟨_, hst⟩
            · cases hb
          · rw [← hlen, range_size]
            have e1 : (0 : Int) + ((0 : Nat) : Int) * 1 = 0 := by omega
            have e2 : (i.toNat : Int) - ((0 : Nat) : Int) = (i.toNat : Int) := by omega
            rw [e1, e2]
            exact Heap.get?_push_size _ rfl
          · intro b hb
            rcases List.mem_cons.mp hb with rfl | hb
            · exact .inr (x12.dead hI)
            · cases hb
          · intro b hb
            rcases List.mem_cons.mp hb with rfl | hb
            · exact ⟨x12.dead hI, x2.inv.none_of hI⟩
            · cases hb
        · cases h2
      · cases h2
noncomputable def listRangeE (f : Ex) : Ex := fun ρ k => match f ρ k with
  | none => none
  | some (d, k') => match rangeD d with
    | none => none
    | some xs => some (.list xs, k')
end
end Mine
end

section
open PySem PySem.W PySem.Calls PyProof.Rows PySem.SeqAt
set_option Elab.async false
set_option maxRecDepth 100000
set_option linter.unusedVariables false
namespace Mine
section
variable {prog : Program} {w : World} {G : Heap} {mg mb : Str → Option Value} {n : Nat} {sc : Scope}

/-! pairs as items, two names as target -/
noncomputable def bf2 (x y : Str) : D → Rho → Option Rho := fun d ρ => match d with
  | .tuple [a, b] => match ρ x, ρ y with
    | none, none => some (upd (upd ρ x a) y b)
    | _, _ => none
  | _ => none
noncomputable def Pair2 (x y : Str) (bf : D → Rho → Option Rho) : Prop := ∀ d ρ ρ', bf d ρ = some ρ' → ∃ a b, d = .tuple [a, b] ∧ ρ' = upd (upd ρ x a) y b
theorem bf2_pair (x y : Str) : Pair2 x y (bf2 x y) := fun d ρ ρ' h => by
  unfold bf2 at h
  split at h
  · split at h
    · cases h; exact ⟨_, _, rfl, rfl⟩
    · cases h
  · cases h
theorem bf2_mono (x y : Str) : Mono (bf2 x y) := fun d ρ ρ' h z e hz => by
  unfold bf2 at h
  split at h
  · split at h
    · rename_i h1 h2; cases h
      have e1 : z ≠ x := fun q => by rw [q, h1] at hz; cases hz
      have e2 : z ≠ y := fun q => by rw [q, h2] at hz; cases hz
      simpa [upd, e1, e2] using hz
    · cases h
  · cases h

/-- two stores, one behind the other -/
theorem st_two {A : Around} {env : Env} {ρ : Rho} {W : Wd} {ow : List Addr} {s : Shared} {x y : Str} {px py : Pos} {a b : D} {va vb : Value} {N : List Str} {Q : Unit → Shared → Prop} {E : Value → Shared → Prop} (he : EnvOk env ρ W ow s) (hi : Inv G W s) (hx : bindOk env.scope x = true) (hy : bindOk env.scope y = true) (hNx : x ∈ N) (hNy : y ∈ N) (ra : Rep W va a) (rb : Rep W vb b)
    (h : ∀ h' tk, (∀ c o, ¬ OwnN env N c → s.heap.get? c = some o → h'.get? c = some o) → (∀ c, h'.get? c = none → s.heap.get? c = none) → EnvOk env (upd (upd ρ x a) y b) W ow { s with heap := h', toks := tk } → Inv G W { s with heap := h', toks := tk } → Q () { s with heap := h', toks := tk }) :
    wpAny (model prog w) A (assignInOrder [assign (.Name x px) env, assign (.Name y py) env] [va, vb]) Q E s := by
  have rv : ∀ {s' : Shared} {v : Value} {d : D}, Rep W v d → RepV W ow s' v d := fun {s' v d} r => by cases d with | own xs => cases r | _ => exact r
  refine wpAny_bind (wpAny_holding (wpAny_assign_Name (st_ok (G := G) he hi hx (rv ra) fun h1 tk1 hk1 hl1 he1 hi1 => ?_)))
  refine wpAny_bind (wpAny_holding (wpAny_assign_Name (st_ok (G := G) he1 hi1 hy (rv rb) fun h2 tk2 hk2 hl2 he2 hi2 => ?_)))
  exact wpAny_pure (h h2 tk2 (fun c o hc e => hk2 c o (fun q => hc ⟨y, hNy, q⟩) (hk1 c o (fun q => hc ⟨x, hNx, q⟩) e)) (fun c q => hl1 c (hl2 c q)) he2 hi2)

theorem Src.ofWalksT {A : Around} {I : Addr} {fp wr : List Addr} {ds : List D} {Pt : Nat → Array Value → Prop} {St : Nat → Heap → Prop} {Mid : Nat → Addr → Heap → Prop} {W0 : Wd} {x y : Str} {px py pt : Pos} {kt : Nat} {N : List Str} {bf : D → Rho → Option Rho} (hh : A.handled = none) (Wk : WalksT prog w A I fp wr ds.length Pt St Mid)
    (hP : ∀ i vals, Pt i vals → ∀ a b, ds[i]? = some (.tuple [a, b]) → ∃ va vb, vals = #[va, vb] ∧ Rep W0 va a ∧ Rep W0 vb b) (hlive : ∀ i h, St i h → ∀ b ∈ fp, ∃ o, h.get? b = some o) (hx : bindOk sc x = true) (hy : bindOk sc y = true) (hNx : x ∈ N) (hNy : y ∈ N) (hbf : Pair2 x y bf) :
    Src prog w G A (.ref I) (.Tuple [.Name x px, .Name y py] kt pt) sc bf ds W0 N fp wr St where
  sub := Wk.sub
  live := hlive
  frame := Wk.frame
  done := fun s Q E hst hQ => Wk.done s Q E hst hQ
  self := fun i s Q E hst hQ => Wk.self i s Q E hst hQ
  turn := fun i d env ρ ρ' W ow s Q E hd hb hst hsc he hi hW hfp hwr hQ => by
    have hlt : i < ds.length := (List.getElem?_eq_some_iff.mp hd).1
    obtain ⟨a, b, rfl, rfl⟩ := hbf _ _ _ hb
    refine Wk.item i s _ E hlt hst fun T vals h1 tk1 hPv hT htup hmid hk1 => ?_
    obtain ⟨va, vb, rfl, ra, rb⟩ := hP i vals hPv a b hd
    have hTw := Wk.apart _ _ _ hmid
    refine Wk.go _ _ _ i T _ _ E hmid fun h2 hst2 hk2 => ?_
    have hk12 : ∀ b o, b ∉ wr → s.heap.get? b = some o → h2.get? b = some o := fun b o hb e => hk2 b o hb (hk1 b o hb e)
    have hl2 : ∀ b, h2.get? b = none → s.heap.get? b = none := fun b hb => by
      cases e : s.heap.get? b with
      | none => rfl
      | some o =>
        by_cases q : b ∈ wr
        · obtain ⟨o', ho'⟩ := hlive _ _ hst2 b (Wk.sub b q)
          rw [ho'] at hb; cases hb
        · rw [hk12 b o q e] at hb; cases hb
    have he2 : EnvOk env ρ W ow { s with heap := h2, toks := tk1 } := he.stand (.refl ..) fun b o hb e => hk12 b o (fun q => hfp b (Wk.sub b q) hb) e
    have hi2 : Inv G W { s with heap := h2, toks := tk1 } := hi.change wr hk12 (fun b hb => (hwr b hb).1) (fun q => (hwr _ q).2 rfl)
    have ht2 : h2.IsTuple T #[va, vb] := by
      obtain ⟨o, ho, r⟩ := htup
      exact ⟨o, hk2 T o hTw ho, r⟩
    refine wpAny_assign_Tuple (s := { s with heap := h2, toks := tk1 }) hh ht2 rfl rfl fun h3 hx3 => ?_
    have hk3 : ∀ b o, h2.get? b = some o → h3.get? b = some o := fun b o e => hx3 b o (fun q => by subst q; exact absurd (Heap.lt_size e) (Nat.lt_irrefl _)) e
    have x3 := Ext.keeps (tk := tk1) hi2 hk3
    have he3 := he2.ext hi2 x3
    refine st_two (N := N) (G := G) he3 x3.inv (by rw [hsc]; exact hx) (by rw [hsc]; exact hy) hNx hNy (ra.mono hW) (rb.mono hW) fun h4 tk4 hk4 hl4 he4 hi4 => ?_
    refine hQ h4 tk4 W (fun b o q1 q2 e => hk4 b o q2 (hk3 b o (hk12 b o q1 e))) (fun b q => hl2 b (x3.dead (hl4 b q))) (.refl ..) rfl he4 hi4 (Wk.frame _ _ _ hst2 fun b hb o e => hk4 b o (fun q => hfp b hb q.own) (hk3 b o e))

noncomputable def enumD (d : D) : Option (List D) := match itemsD d with
    | none => none
    | some xs => some ((List.range xs.length).zipWith (fun (i : Nat) x => .tuple [.int (i : Int), x]) xs)
noncomputable def enumL (f : Ex) : Lx := fun ρ k => match f ρ k with
  | none => none
  | some (d, k') => match enumD d with
    | none => none
    | some xs => some (xs, k')
theorem enum_get {xs : List D} {i : Nat} {a b : D} (h : ((List.range xs.length).zipWith (fun (i : Nat) x => D.tuple [.int (i : Int), x]) xs)[i]? = some (.tuple [a, b])) : a = .int (i : Int) ∧ xs[i]? = some b := by
  rw [List.getElem?_zipWith] at h
  cases h1 : (List.range xs.length)[i]? with
  | none => rw [h1] at h; cases xs[i]? <;> cases h
  | some j =>
    cases h2 : xs[i]? with
    | none => rw [h1, h2] at h; cases h
    | some y =>
      rw [h1, h2] at h
      have hj : j = i := by
        obtain ⟨q1, q2⟩ := List.getElem?_eq_some_iff.mp h1
        simpa using q2.symm
      simp at h
      exact ⟨by rw [← h.1, hj], by rw [h.2]⟩
theorem si_enum {N : List Str} {tsc : Scope} {e : Expr} {x y : Str} {px py pt p pos : Pos} {kt : Nat} {bf : D → Rho → Option Rho} {f : Ex} (gn : Gnd prog w G mg mb) (hg : isGlob sc "enumerate" = true) (h : SE prog w G n sc e f) (hst : ∀ env, starEach [e] env = [(false, eval e env)]) (hx : bindOk tsc x = true) (hy : bindOk tsc y = true) (hNx : x ∈ N) (hNy : y ∈ N) (hbf : Pair2 x y bf) :
    SI prog w G N n sc (.Call (.Name "enumerate" p) [e] [] pos) (.Tuple [.Name x px, .Name y py] kt pt) tsc bf (enumL f) := fun A env ρ W ow s Q E hR hs he hi ds k' hf hQ => by
  unfold enumL at hf
  split at hf
  · cases hf
  · rename_i d k1 h1
    split at hf
    · cases hf
    · rename_i es h2
      cases hf
      refine call1T (T := "enumerate") gn hg (by kernel_rfl) (by decide +kernel) (by decide +kernel) (by decide +kernel) h hst hR hs he hi h1 fun v W1 s1 x1 e1 r1 => ?_
      subst e1
      unfold enumD at h2
      split at h2
      · cases h2
      · rename_i xs h3
        cases h2
        have hI := Heap.new_none s1.heap
        have hI1 : s1.heap.get? (s1.heap.objs.size + 1) = none := by
          cases e : s1.heap.get? (s1.heap.objs.size + 1) with
          | none => rfl
          | some o => exact absurd (Heap.lt_size e) (Nat.not_lt.mpr (Nat.le_succ _))
        have hzl : ((List.range xs.length).zipWith (fun (i : Nat) x => D.tuple [.int (i : Int), x]) xs).length = xs.length := by simp
        unfold itemsD at h3
        split at h3
        · cases h3
          obtain ⟨l, vs, m, rfl, p1, p2, p3⟩ := rep_list r1
          have hne : l ≠ s1.heap.objs.size := fun q => by rw [q, x1.inv.none_of hI] at p1; cases p1
          have hne1 : l ≠ s1.heap.objs.size + 1 := fun q => by rw [q, x1.inv.none_of hI1] at p1; cases p1
          refine call_enumerate_list (isList_of x1.inv p1) fun h' hE hit hsz hk => ?_
          have x2 := Ext.keeps (tk := s1.toks) x1.inv hk
          refine wpAny_pyIter_enum hE ?_
          have hlen : vs.toArray.size = ((List.range xs.length).zipWith (fun (i : Nat) x => D.tuple [.int (i : Int), x]) xs).length := by rw [hzl, List.size_toArray, p3.length]
          have Dr := Draws.list (prog := prog) (w := w) (A := A.in1) (in1_handled hR.1) s1.heap.objs.size l hne vs.toArray
          have Wk := WalksT.enumerateD Dr (s1.heap.objs.size + 1) (Nat.succ_ne_self _) (by simp only [List.mem_cons, List.not_mem_nil, or_false, not_or]; exact ⟨Nat.succ_ne_self _, Ne.symm hne1⟩) (by simp)
          rw [hlen] at Wk
          refine hQ _ W1 _ _ _ _ (x1.trans x2) rfl (Src.ofWalksT hR.1 Wk (fun i vals hv a b hd => ?_) (fun i h hst b hb => ?_) hx hy hNx hNy hbf) ⟨⟨_, hE⟩, hit, isList_of x2.inv p1⟩ ?_ ?_ (by rw [hzl, ← p3.length]; exact p2)
          · obtain ⟨t, z, hz, rfl⟩ := hv
            obtain ⟨rfl, hb⟩ := enum_get hd
            obtain ⟨d', h4, h5⟩ := p3.get' i z (by simpa using hz)
            rw [hb] at h4; cases h4
            exact ⟨_, _, rfl, .int _ _, h5⟩
          · obtain ⟨⟨old, q1⟩, ⟨o2, q2, _⟩, ⟨o3, q3, _⟩⟩ := hst
            rcases List.mem_cons.mp hb with rfl | hb
            · exact ⟨_, q1⟩
            · rcases List.mem_cons.mp hb with rfl | hb
              · exact ⟨_, q2⟩
              · rcases List.mem_cons.mp hb with rfl | hb
                · exact ⟨_, q3⟩
                · cases hb
          · intro b hb
            rcases List.mem_cons.mp hb with rfl | hb
            · exact .inr (x1.dead hI1)
            · rcases List.mem_cons.mp hb with rfl | hb
              · exact .inr (x1.dead hI)
              · rcases List.mem_cons.mp hb with rfl | hb
                · exact .inl ⟨_, p1⟩
                · cases hb
          · intro b hb
            rcases List.mem_cons.mp hb with rfl | hb
            · exact ⟨x1.dead hI1, x1.inv.none_of hI1⟩
            · rcases List.mem_cons.mp hb with rfl | hb
              · exact ⟨x1.dead hI, x1.inv.none_of hI⟩
              · cases hb
        · cases h3
          obtain ⟨t, rfl, ha⟩ := rep_str r1
          rename_i x0
          have hall : x0.cps.all (· < 128) = true := by
            rw [Array.all_eq_true']; intro c hc; simpa using ha.2 c (by simpa using hc)
          refine call_enumerate_str fun h' hE hit hsz hk => ?_
          have hty : strIterType x0 = "str_ascii_iterator" := by unfold strIterType; rw [if_pos hall]
          rw [hty] at hit
          have x2 := Ext.keeps (tk := s1.toks) x1.inv hk
          refine wpAny_pyIter_enum hE ?_
          have hlen : x0.cps.size = ((List.range (x0.cps.toList.map fun c => D.str ⟨#[c]⟩).length).zipWith (fun (i : Nat) x => D.tuple [.int (i : Int), x]) (x0.cps.toList.map fun c => D.str ⟨#[c]⟩)).length := by rw [hzl]; simp
          have Dr := Draws.strAscii (prog := prog) (w := w) (A := A.in1) (in1_handled hR.1) s1.heap.objs.size x0 t
          have Wk := WalksT.enumerateD Dr (s1.heap.objs.size + 1) (Nat.succ_ne_self _) (by simp only [List.mem_cons, List.not_mem_nil, or_false]; exact Nat.succ_ne_self _) (by simp)
          rw [hlen] at Wk
          refine hQ _ W1 _ _ _ _ (x1.trans x2) rfl (Src.ofWalksT hR.1 Wk (fun i vals hv a b hd => ?_) (fun i h hst b hb => ?_) hx hy hNx hNy hbf) ⟨⟨_, hE⟩, hit⟩ ?_ ?_ (by rw [← hlen]; exact ha.1)
          · obtain ⟨t', z, ⟨c, u, hc, rfl⟩, rfl⟩ := hv
            obtain ⟨rfl, hb⟩ := enum_get hd
            have hc' : x0.cps.toList[i]? = some c := by simpa using hc
            rw [List.getElem?_map, hc'] at hb
            cases hb
            exact ⟨_, _, rfl, .int _ _, .str _ ⟨by show 1 ≤ big; decide, fun c' hc2 => by simp at hc2; subst hc2; exact ha.2 _ (List.mem_of_getElem? hc')⟩⟩
          · obtain ⟨⟨old, q1⟩, ⟨o2, q2, _⟩⟩ := hst
            rcases List.mem_cons.mp hb with rfl | hb
            · exact ⟨_, q1⟩
            · rcases List.mem_cons.mp hb with rfl | hb
              · exact ⟨_, q2⟩
              · cases hb
          · intro b hb
            rcases List.mem_cons.mp hb with rfl | hb
            · exact .inr (x1.dead hI1)
            · rcases List.mem_cons.mp hb with rfl | hb
              · exact .inr (x1.dead hI)
              · cases hb
          · intro b hb
            rcases List.mem_cons.mp hb with rfl | hb
            · exact ⟨x1.dead hI1, x1.inv.none_of hI1⟩
            · rcases List.mem_cons.mp hb with rfl | hb
              · exact ⟨x1.dead hI, x1.inv.none_of hI⟩
              · cases hb
        · cases h3
end
end Mine
end

section
open PySem PySem.W PySem.Calls PyProof.Rows PySem.SeqAt
set_option Elab.async false
set_option maxRecDepth 100000
set_option linter.unusedVariables false
namespace Mine
/-- how a statement ends -/
inductive Fl where
  | next
  | brk
  | ret (d : D)
noncomputable abbrev Sx := Rho → Nat → Option (Fl × Rho × Nat)
noncomputable def FlRep (W : Wd) : Flow → Fl → Prop
  | .next, .next => True
  | .brk, .brk => True
  | .ret v, .ret d => Rep W v d
  | _, _ => False

/-- a statement's end, seen from its start -/
structure SP (G : Heap) (env : Env) (W : Wd) (ow : List Addr) (s : Shared) (ρ' : Rho) (k' : Nat) (W' : Wd) (ow' : List Addr) (s' : Shared) : Prop where
  same : ∃ h' tk, s' = { s with heap := h', toks := tk }
  keep : ∀ b o, ¬ Own env ow b → b ≠ TB → s.heap.get? b = some o → s'.heap.get? b = some o
  live : ∀ b, s'.heap.get? b = none → s.heap.get? b = none
  ow : ∀ a ∈ ow', a ∈ ow ∨ s.heap.get? a = none
  le : Wle W W' s.heap
  k : W'.k = k'
  inv : Inv G W' s'
  env : EnvOk env ρ' W' ow' s'

theorem SP.refl {G : Heap} {env : Env} {ρ : Rho} {W : Wd} {ow : List Addr} {s : Shared} (he : EnvOk env ρ W ow s) (hi : Inv G W s) : SP G env W ow s ρ W.k W ow s :=
  ⟨⟨_, _, rfl⟩, fun _ _ _ _ e => e, fun _ e => e, fun _ h => .inl h, .refl .., rfl, hi, he⟩
theorem SP.trans {G : Heap} {env : Env} {ρ' ρ'' : Rho} {k' k'' : Nat} {W W' W'' : Wd} {ow ow' ow'' : List Addr} {s s' s'' : Shared} (x : SP G env W ow s ρ' k' W' ow' s') (y : SP G env W' ow' s' ρ'' k'' W'' ow'' s'') : SP G env W ow s ρ'' k'' W'' ow'' s'' := by
  have hx := x.live
  have hk := x.keep
  have how := x.ow
  have hle := x.le
  obtain ⟨h1, t1, rfl⟩ := x.same
  obtain ⟨h2, t2, rfl⟩ := y.same
  refine ⟨⟨_, _, rfl⟩, fun b o hb ht e => y.keep b o (fun q => ?_) ht (hk b o hb ht e), fun b e => hx b (y.live b e), fun a ha => ?_, hle.trans y.le hx, y.k, y.inv, y.env⟩
  · rcases q with q | q | q
    · exact hb (.inl q)
    · exact hb (.inr (.inl q))
    · rcases how b q with z | z
      · exact hb (.inr (.inr z))
      · rw [z] at e; cases e
  · rcases y.ow a ha with z | z
    · exact how a z
    · exact .inr (hx a z)
theorem SP.ext {G : Heap} {env : Env} {ρ : Rho} {W W' : Wd} {ow : List Addr} {s s' : Shared} (he : EnvOk env ρ W ow s) (hi : Inv G W s) (x : Ext G W s W' s') : SP G env W ow s ρ W'.k W' ow s' :=
  ⟨x.same, fun b o _ ht e => x.keep b o ht e, fun b e => x.dead e, fun _ h => .inl h, x.le, rfl, x.inv, he.ext hi x⟩

section
variable (prog : Program) (w : World) (G : Heap)
noncomputable def SS (n : Nat) (sc : Scope) (st : Stmt) (f : Sx) : Prop :=
  ∀ (A : Around) (env : Env) (ρ : Rho) (W : Wd) (ow : List Addr) (s : Shared) (Q : Flow → Shared → Prop) (E : Value → Shared → Prop), Room A n → env.scope = sc → EnvOk env ρ W ow s → Inv G W s →
    ∀ fl ρ' k', f ρ W.k = some (fl, ρ', k') → (∀ v W' ow' s', SP G env W ow s ρ' k' W' ow' s' → FlRep W' v fl → Q v s') → wpAny (model prog w) A (exec st env) Q E s
noncomputable def SB (n : Nat) (sc : Scope) (sts : List Stmt) (f : Sx) : Prop :=
  ∀ (A : Around) (env : Env) (ρ : Rho) (W : Wd) (ow : List Addr) (s : Shared) (Q : Flow → Shared → Prop) (E : Value → Shared → Prop), Room A n → env.scope = sc → EnvOk env ρ W ow s → Inv G W s →
    ∀ fl ρ' k', f ρ W.k = some (fl, ρ', k') → (∀ v W' ow' s', SP G env W ow s ρ' k' W' ow' s' → FlRep W' v fl → Q v s') → wpAny (model prog w) A (execs sts env) Q E s
end
section
variable {prog : Program} {w : World} {G : Heap} {mg mb : Str → Option Value} {n : Nat} {sc : Scope}

noncomputable def nilS : Sx := fun ρ k => some (.next, ρ, k)
noncomputable def seqS (f g : Sx) : Sx := fun ρ k => match f ρ k with
  | none => none
  | some (.next, ρ', k') => g ρ' k'
  | some (fl, ρ', k') => some (fl, ρ', k')
theorem sb_nil : SB prog w G n sc [] nilS := fun A env ρ W ow s Q E hR hs he hi fl ρ' k' hf hQ => by
  cases hf; exact wpAny_execs_nil (hQ _ _ _ _ (.refl he hi) trivial)
theorem sb_cons {st : Stmt} {sts : List Stmt} {f g : Sx} (h : SS prog w G n sc st f) (hr : SB prog w G n sc sts g) : SB prog w G n sc (st :: sts) (seqS f g) := fun A env ρ W ow s Q E hR hs he hi fl ρ' k' hf hQ => by
  unfold seqS at hf
  rw [execs_cons]
  split at hf
  · cases hf
  · rename_i ρ1 k1 h1
    refine wpAny_bind (h A env ρ W ow s _ E hR hs he hi _ _ _ h1 fun v W1 ow1 s1 x1 r1 => ?_)
    cases v with
    | next =>
      have e1 := x1.k
      subst e1
      exact hr A env ρ1 W1 ow1 s1 _ E hR hs x1.env x1.inv fl ρ' k' hf fun v W2 ow2 s2 x2 r2 => hQ v W2 ow2 s2 (x1.trans x2) r2
    | brk => cases r1
    | cont => cases r1
    | ret v => cases r1
  · rename_i fl1 ρ1 k1 hne h1
    cases hf
    refine wpAny_bind (h A env ρ W ow s _ E hR hs he hi _ _ _ h1 fun v W1 ow1 s1 x1 r1 => ?_)
    cases v with
    | next => cases fl with
      | next => exact (hne rfl).elim
      | _ => cases r1
    | brk => exact wpAny_pure (hQ _ _ _ _ x1 r1)
    | cont => cases fl <;> cases r1
    | ret v => exact wpAny_pure (hQ _ _ _ _ x1 r1)

/-! return, break, if -/
noncomputable def retS (f : Ex) : Sx := fun ρ k => match f ρ k with
  | none => none
  | some (d, k') => some (.ret d, ρ, k')
theorem ss_ret {e : Expr} {pos} {f : Ex} (h : SE prog w G n sc e f) : SS prog w G n sc (.Return (some e) pos) (retS f) := fun A env ρ W ow s Q E hR hs he hi fl ρ' k' hf hQ => by
  unfold retS at hf
  split at hf
  · cases hf
  · rename_i d k1 h1; cases hf
    refine wpAny_Return_some (h A env ρ W ow s _ E hR hs he hi d _ h1 fun v W1 s1 x1 e1 r1 => ?_)
    subst e1
    exact hQ (.ret v) W1 ow s1 (.ext he hi x1) r1
noncomputable def brkS : Sx := fun ρ k => some (.brk, ρ, k)
theorem ss_brk {pos} : SS prog w G n sc (.Break pos) brkS := fun A env ρ W ow s Q E hR hs he hi fl ρ' k' hf hQ => by
  cases hf; exact wpAny_Break (hQ _ _ _ _ (.refl he hi) trivial)
noncomputable def ifS (t : Tx) (f g : Sx) : Sx := fun ρ k => match t ρ k with
  | none => none
  | some (true, k') => f ρ k'
  | some (false, k') => g ρ k'
theorem ss_if {t : Expr} {b o : List Stmt} {pos} {ft : Tx} {f g : Sx} (ht : ST prog w G n sc t ft) (hb : SB prog w G n sc b f) (ho : SB prog w G n sc o g) : SS prog w G n sc (.If t b o pos) (ifS ft f g) := fun A env ρ W ow s Q E hR hs he hi fl ρ' k' hf hQ => by
  unfold ifS at hf
  split at hf
  · cases hf
  · rename_i k1 h1
    refine wpAny_If (ht A env ρ W ow s _ E hR hs he hi _ _ h1 fun W1 s1 x1 e1 => ?_)
    subst e1
    have x1' := SP.ext he hi x1
    exact hb A env ρ W1 ow s1 _ E hR hs x1'.env x1.inv _ _ _ hf fun v W2 ow2 s2 x2 r2 => hQ v W2 ow2 s2 (x1'.trans x2) r2
  · rename_i k1 h1
    refine wpAny_If (ht A env ρ W ow s _ E hR hs he hi _ _ h1 fun W1 s1 x1 e1 => ?_)
    subst e1
    have x1' := SP.ext he hi x1
    exact ho A env ρ W1 ow s1 _ E hR hs x1'.env x1.inv _ _ _ hf fun v W2 ow2 s2 x2 r2 => hQ v W2 ow2 s2 (x1'.trans x2) r2

/-! assignments -/
theorem rep_repV {W : Wd} {ow : List Addr} {s : Shared} {v : Value} {d : D} (r : Rep W v d) : RepV W ow s v d := by cases d with | own xs => cases r | _ => exact r
theorem pl_own {env : Env} {x : Str} {ow : List Addr} {b : Addr} (h : Pl env x b) : Own env ow b := by
  rcases h with ⟨_, q⟩ | ⟨_, q⟩
  · exact .inl q
  · exact .inr (.inl ⟨x, q⟩)
theorem sp_store {env : Env} {ρ : Rho} {W : Wd} {ow : List Addr} {s : Shared} {x : Str} {d : D} {h' : Heap} {tk : Nat} (hk : ∀ b o, ¬ Pl env x b → s.heap.get? b = some o → h'.get? b = some o) (hl : ∀ b, h'.get? b = none → s.heap.get? b = none)
    (he : EnvOk env (upd ρ x d) W ow { s with heap := h', toks := tk }) (hi : Inv G W { s with heap := h', toks := tk }) : SP G env W ow s (upd ρ x d) W.k W ow { s with heap := h', toks := tk } :=
  ⟨⟨_, _, rfl⟩, fun b o hb _ e => hk b o (fun q => hb (pl_own q)) e, hl, fun _ h => .inl h, .refl .., rfl, hi, he⟩
noncomputable def asgS (x : Str) (f : Ex) : Sx := fun ρ k => match f ρ k with
  | none => none
  | some (d, k') => some (.next, upd ρ x d, k')
theorem ss_asg {x : Str} {px pos : Pos} {e : Expr} {f : Ex} (h : SE prog w G n sc e f) (hb : bindOk sc x = true) (hs' : ∀ env, env.scope = sc → swapsWith e (some (.Name x px)) pos.line env = pure false) : SS prog w G n sc (.Assign [.Name x px] e pos) (asgS x f) := fun A env ρ W ow s Q E hR hs he hi fl ρ' k' hf hQ => by
  unfold asgS at hf
  split at hf
  · cases hf
  · rename_i d k1 h1; cases hf
    refine wpAny_Assign_Name (h A env ρ W ow s _ E hR hs he hi d _ h1 fun v W1 s1 x1 e1 r1 => ?_) (hs' env hs)
    subst e1
    have x1' := SP.ext he hi x1
    exact st_ok (G := G) x1'.env x1.inv (by rw [hs]; exact hb) (rep_repV r1) fun h2 tk2 hk2 hl2 he2 hi2 => hQ _ _ _ _ (x1'.trans (sp_store hk2 hl2 he2 hi2)) trivial
end
end Mine
end

section
open PySem PySem.W PySem.Calls PyProof.Rows PySem.SeqAt
set_option Elab.async false
set_option maxRecDepth 100000
set_option linter.unusedVariables false
namespace Mine
section
variable {prog : Program} {w : World} {G : Heap} {mg mb : Str → Option Value} {n : Nat} {sc : Scope}

/-- a comprehension stored in a local name on its own row -/
theorem ss_asgC {x : Str} {px ppos : Pos} {elt target iter : Expr} {ifs : List Expr} {rest : List Comprehension} {scope : Scope} {pos : Pos} {N fv : List Str} {bf : D → Rho → Option Rho} {src : Lx} {f : Rho → List D → Nat → Option (List D × Nat)} (C : CompOk prog w G n sc elt target iter ifs rest scope pos N fv bf src f)
    (hb : bindOk sc x = true) (hs' : ∀ env, env.scope = sc → swapsWith (.ListComp elt (⟨target, iter, ifs, 0⟩ :: rest) scope pos) (some (.Name x px)) ppos.line env = pure true) :
    SS prog w G n sc (.Assign [.Name x px] (.ListComp elt (⟨target, iter, ifs, 0⟩ :: rest) scope pos) ppos) (asgS x (compE fv src f)) := fun A env ρ W ow s Q E hR hs he hi fl ρ' k' hf hQ => by
  unfold asgS at hf
  split at hf
  · cases hf
  · rename_i d k1 h1; cases hf
    rw [exec_Assign_Name_used _ _ _ _ (hs' env hs)]
    refine wpAny_bind (wpAny_standAt (wpAny_bind ?_))
    show wpAny _ A (do let _ ← comprehension (.ListComp elt (⟨target, iter, ifs, 0⟩ :: rest) scope pos) scope env _ (newList []) false (eval iter env) (some (assign (.Name x px) env))) _ _ s
    refine wpAny_bind (comp_run (use := some (assign (.Name x px) env)) C hR hs he hi h1 fun D L W1 s1 x1 e1 r1 hns hL hLP hLT => ?_)
    subst e1
    have x1' := SP.ext he hi x1
    refine wpAny_assign_Name (st_ok (G := G) x1'.env x1.inv (by rw [hs]; exact hb) (rep_repV r1) fun h2 tk2 hk2 hl2 he2 hi2 => ?_)
    have x12 := x1'.trans (sp_store hk2 hl2 he2 hi2)
    have hLne : ¬ Own env ow L := fun q => by
      obtain ⟨o, ho, _, _⟩ := he.own_live q
      rw [hL] at ho; cases ho
    obtain ⟨m, hm⟩ := hns
    have hm2 : h2.Ns L m := by
      obtain ⟨o, es, ep, ho, r⟩ := hm
      exact ⟨o, es, ep, hk2 L o (fun q => hLne (pl_own q)) ho, r⟩
    refine ⟨m, hm2, fun h3 hs3 => wpAny_pure (wpAny_pure ?_)⟩
    have hb3 : ∀ b o, b ∉ [L] → h2.get? b = some o → h3.get? b = some o := fun b o hb e => hs3.extBut b o (by simpa using hb) e
    have hi3 : Inv G W1 { s1 with heap := h3, toks := tk2 } := Inv.change (s := { s1 with heap := h2, toks := tk2 }) (tk := tk2) [L] hi2 hb3 (by simpa using hLP) (by simpa using hLT.symm)
    have hlL : ∀ b, h3.get? b = none → b = L ∨ h2.get? b = none := fun b q => by
      by_cases z : b = L
      · exact .inl z
      · rw [hs3.2 b z] at q; exact .inr q
    have he3 : EnvOk env (upd ρ x d) W1 ow { s1 with heap := h3, toks := tk2 } := he2.stand (.refl ..) fun b o hb e => hs3.extBut b o (fun q => hLne (q ▸ hb)) e
    refine hQ .next W1 ow { s1 with heap := h3, toks := tk2 } ⟨?_, fun b o hb ht e => hs3.extBut b o (fun q => by rw [q, hL] at e; cases e) (x12.keep b o hb ht e), fun b q => ?_, fun _ h => .inl h, x1.le, rfl, hi3, he3⟩ trivial
    · obtain ⟨h1', tk1', hs1⟩ := x1.same
      exact ⟨h3, tk2, by rw [hs1]⟩
    · rcases hlL b q with z | z
      · rw [z]; exact hL
      · exact x12.live b z

/-! several names at once -/
noncomputable def updL (ρ : Rho) : List (Str × D) → Rho
  | [] => ρ
  | (x, d) :: r => updL (upd ρ x d) r
inductive Stores (prog : Program) (w : World) (A : Around) (env : Env) : List Str → List (Value → Sem Unit) → Prop
  | nil : Stores prog w A env [] []
  | cons {x t xs ts} : (∀ v (Q : Unit → Shared → Prop) E s, wpAny (model prog w) A (storeName env x v) Q E s → wpAny (model prog w) A (t v) Q E s) → Stores prog w A env xs ts → Stores prog w A env (x :: xs) (t :: ts)
theorem st_many {A : Around} {env : Env} {ow : List Addr} {E : Value → Shared → Prop} {W : Wd} : ∀ {xs : List Str} {ts : List (Value → Sem Unit)} {vs : List Value} {ds : List D} {ρ : Rho} {s : Shared} {Q : Unit → Shared → Prop}, Stores prog w A env xs ts → RepL W vs ds → xs.length = ds.length → (∀ x ∈ xs, bindOk env.scope x = true) → EnvOk env ρ W ow s → Inv G W s →
    (∀ s', SP G env W ow s (updL ρ (xs.zip ds)) W.k W ow s' → Q () s') → wpAny (model prog w) A (assignInOrder ts vs) Q E s
  | _, _, _, _, ρ, s, Q, .nil, r, hl, _, he, hi, hQ => by
    cases r with
    | nil => exact wpAny_pure (hQ _ (.refl he hi))
    | cons r1 r2 => cases hl
  | x :: xs, _, _, _, ρ, s, Q, .cons ht hts, r, hl, hb, he, hi, hQ => by
    cases r with
    | nil => cases hl
    | cons r1 r2 =>
    refine wpAny_bind (wpAny_holding (ht _ _ _ _ (st_ok (G := G) he hi (hb x List.mem_cons_self) (rep_repV r1) fun h1 tk1 hk1 hl1 he1 hi1 => ?_)))
    refine st_many hts r2 (by simpa using hl) (fun y hy => hb y (List.mem_cons_of_mem _ hy)) he1 hi1 fun s' x' => hQ s' ?_
    exact (sp_store hk1 hl1 he1 hi1).trans x'
theorem RepL.rev {W : Wd} {vs : List Value} {ds : List D} (h : RepL W vs ds) : RepL W vs.reverse ds.reverse := h.reverse

noncomputable def asgTS (xs : List Str) (g : Lx) : Sx := fun ρ k => match g ρ k with
  | none => none
  | some (ds, k') => if xs.length = ds.length then some (.next, updL ρ (xs.zip ds), k') else none
noncomputable def asgTR (xs : List Str) (g : Lx) : Sx := fun ρ k => match g ρ k with
  | none => none
  | some (ds, k') => if xs.length = ds.length then some (.next, updL ρ (xs.reverse.zip ds.reverse), k') else none
theorem tup_value {es : List Expr} {m : Nat} {pos} {g : Lx} (h : SL prog w G n sc es g) (hb : es.length ≤ 1000) {A : Around} {env : Env} {ρ : Rho} {W : Wd} {ow : List Addr} {s : Shared} {Q : Value → Shared → Prop} {E : Value → Shared → Prop} (hR : Room A n) (hs : env.scope = sc) (he : EnvOk env ρ W ow s) (hi : Inv G W s)
    {ds : List D} {k' : Nat} (hf : g ρ W.k = some (ds, k')) (hQ : ∀ a vs W1 s1, Ext G W s W1 s1 → W1.k = k' → RepL W1 vs ds → s1.heap.IsTuple a vs.toArray → vs.length = ds.length → Q (.ref a) s1) : wpAny (model prog w) A (eval (.Tuple es m pos) env) Q E s := by
  refine wpAny_Tuple (h A env ρ W ow s pos _ E hR hs he hi ds _ hf fun vs W1 s1 x1 e1 r1 l1 => ?_)
  have hb' : vs.length ≤ big := by rw [l1]; exact Nat.le_trans hb (by decide)
  have x2 := Ext.push x1.inv ({ cls := .type "tuple", data := .seq vs.toArray } : Obj) s1.toks
  exact ⟨Nat.le_trans hb' big_le, hQ _ vs W1 _ (x1.trans x2) e1 r1 ⟨_, Heap.get?_push_size _ rfl, rfl, _, rfl⟩ r1.length⟩
theorem ss_asgT {xs : List Str} {ts es : List Expr} {k1 k2 : Nat} {p1 p2 pos : Pos} {g : Lx} (h : SL prog w G n sc es g) (hlen : es.length ≤ 1000) (hb : ∀ x ∈ xs, bindOk sc x = true) (hst : ∀ A env, Stores prog w A env xs ((assignEach ts env).map (·.2)))
    (hl : ∀ env, (assignEach ts env).length = xs.length) (hstar : ∀ env, (assignEach ts env).findIdx? (·.1) = none) (hw : ∀ env, env.scope = sc → swappedStores [.Tuple ts k1 p1] (.Tuple es k2 p2) env = pure none) :
    SS prog w G n sc (.Assign [.Tuple ts k1 p1] (.Tuple es k2 p2) pos) (asgTS xs g) := fun A env ρ W ow s Q E hR hs he hi fl ρ' k' hf hQ => by
  unfold asgTS at hf
  split at hf
  · cases hf
  · rename_i ds k1 h1
    split at hf
    · rename_i hxl; cases hf
      refine PyProof.Rows.Assign_Tuple (tup_value h hlen hR hs he hi h1 fun a vs W1 s1 x1 e1 r1 ht hvl => ?_) rfl (hw env hs)
      subst e1
      refine wpAny_assign_Tuple hR.1 ht (by rw [hl, List.size_toArray, hvl, hxl]) (hstar env) fun h2 hx2 => ?_
      have hk2 : ∀ b o, s1.heap.get? b = some o → h2.get? b = some o := fun b o e => hx2 b o (fun q => by subst q; exact absurd (Heap.lt_size e) (Nat.lt_irrefl _)) e
      have x2 := x1.trans (Ext.keeps (tk := s1.toks) x1.inv hk2)
      have x2' := SP.ext he hi x2
      refine st_many (hst A env) (vs := vs) r1 hxl (by rw [hs]; exact hb) x2'.env x2'.inv fun s' x3 => hQ _ _ _ _ (x2'.trans x3) trivial
    · cases hf
theorem stores_bind {A : Around} {env : Env} : ∀ xs : List Str, Stores prog w A env xs (xs.map fun x => bindName env x)
  | [] => .nil
  | x :: xs => .cons (fun v Q E s h => wpAny_bindName h) (stores_bind xs)
theorem ss_asgR {xs : List Str} {ts es : List Expr} {k1 k2 : Nat} {p1 p2 pos : Pos} {g : Lx} (h : SL prog w G n sc es g) (hlen : es.length ≤ 1000) (hb : ∀ x ∈ xs, bindOk sc x = true) (hw : ∀ env, env.scope = sc → swappedStores [.Tuple ts k1 p1] (.Tuple es k2 p2) env = pure (some xs)) :
    SS prog w G n sc (.Assign [.Tuple ts k1 p1] (.Tuple es k2 p2) pos) (asgTR xs g) := fun A env ρ W ow s Q E hR hs he hi fl ρ' k' hf hQ => by
  unfold asgTR at hf
  split at hf
  · cases hf
  · rename_i ds k1 h1
    split at hf
    · rename_i hxl; cases hf
      refine PyProof.Rows.Assign_Tuple_swapped (names := xs) (tup_value h hlen hR hs he hi h1 fun a vs W1 s1 x1 e1 r1 ht hvl => ?_) rfl (hw env hs)
      subst e1
      have hn : xs.length = vs.toArray.size := by rw [List.size_toArray, hvl, hxl]
      rw [hn]
      refine wpAny_unpackItems_tuple hR.1 ht fun h2 hx2 => ?_
      have hk2 : ∀ b o, s1.heap.get? b = some o → h2.get? b = some o := fun b o e => hx2 b o (fun q => by subst q; exact absurd (Heap.lt_size e) (Nat.lt_irrefl _)) e
      have x2 := x1.trans (Ext.keeps (tk := s1.toks) x1.inv hk2)
      have x2' := SP.ext he hi x2
      refine st_many (stores_bind xs.reverse) (vs := vs.reverse) r1.reverse (by simpa using hxl) (fun x hx => by rw [hs]; exact hb x (by simpa using hx)) x2'.env x2'.inv fun s' x3 => hQ _ _ _ _ (x2'.trans x3) trivial
    · cases hf
end
end Mine
end

section
open PySem PySem.W PySem.Calls PyProof.Rows PySem.SeqAt
set_option Elab.async false
set_option maxRecDepth 100000
set_option linter.unusedVariables false
namespace Mine
section
variable {prog : Program} {w : World} {G : Heap} {mg mb : Str → Option Value} {n : Nat} {sc : Scope}

noncomputable def loopS (bf : D → Rho → Option Rho) (fb fo : Sx) : List D → Rho → Nat → Option (Fl × Rho × Nat)
  | [], ρ, k => fo ρ k
  | d :: ds, ρ, k => match bf d ρ with
    | none => none
    | some ρ1 => match fb ρ1 k with
      | none => none
      | some (.next, ρ2, k2) => loopS bf fb fo ds ρ2 k2
      | some (.brk, ρ2, k2) => some (.next, ρ2, k2)
      | some (.ret d, ρ2, k2) => some (.ret d, ρ2, k2)
noncomputable def forS (bf : D → Rho → Option Rho) (src : Lx) (fb fo : Sx) : Sx := fun ρ k => match src ρ k with
  | none => none
  | some (ds, k1) => loopS bf fb fo ds ρ k1

theorem for_turn {A : Around} {E : Value → Shared → Prop} {s : Shared} {env : Env} {target : Expr} {it : Value} {body orelse : List Stmt} {Q : Fin → Shared → Prop}
    (h : wpAny (model prog w) A (pyNext it) (fun r s₁ => match r with
      | none => Q (.again (.block orelse env)) s₁
      | some v => wpAny (model prog w) A (letOwnedTupleGo target it v) (fun _ s₂ => wpAny (model prog w) A (assign target env v) (fun _ s₃ => wpAny (model prog w) A (execs body env) (fun fl s₄ => match fl with
          | .next | .cont => Q (.again (.forLoop target it body orelse env)) s₄
          | .brk => Q (.done .next) s₄
          | .ret v => Q (.done (.ret v)) s₄) E s₃) E s₂) E s₁) E s) : wpAny (model prog w) A (forTurn target it body orelse env) Q E s := by
  simp only [forTurn]
  refine wpAny_bind (wpAny_standAt (wpAny_bind (wpAny_onRaise (wpAny_mono h (fun r s₁ h₁ => ?_) fun e s' h' => wpAny_standAt h'))))
  cases r with
  | none => exact wpAny_pure h₁
  | some v =>
    refine wpAny_bind (wpAny_mono h₁ (fun _ s₂ h₂ => wpAny_bind (wpAny_mono h₂ (fun _ s₃ h₃ => wpAny_bind (wpAny_mono h₃ (fun fl s₄ h₄ => ?_) fun _ _ e => e)) fun _ _ e => e)) fun _ _ e => e)
    cases fl with
    | next => exact wpAny_pure h₄
    | cont => exact wpAny_pure h₄
    | brk => exact wpAny_pure h₄
    | ret v => exact wpAny_pure h₄

/-- between two turns of a loop -/
inductive ForI (G : Heap) (env : Env) (W W1 : Wd) (ow ow1 : List Addr) (s s1 : Shared) (St : Nat → Heap → Prop) (ds : List D) (L : List D → Rho → Nat → Option (Fl × Rho × Nat)) (r : Fl × Rho × Nat) : Nat → Shared → Prop
  | mk (s' : Shared) (i : Nat) (ρi : Rho) (Wi : Wd) (owi : List Addr) : i ≤ ds.length → SP G env W ow s ρi Wi.k Wi owi s' → St i s'.heap → Wle W1 Wi s1.heap → (∀ b, s'.heap.get? b = none → s1.heap.get? b = none) → (∀ a ∈ owi, a ∈ ow1 ∨ s1.heap.get? a = none) →
      L (ds.drop i) ρi Wi.k = some r → ForI G env W W1 ow ow1 s s1 St ds L r (ds.length + 1 - i) s'
/-- a loop over an iterator that stands already -/
theorem for_core {target : Expr} {body orelse : List Stmt} {N : List Str} {bf : D → Rho → Option Rho} {fb fo : Sx} (hb : SB prog w G n sc body fb) (ho : SB prog w G n sc orelse fo)
    {A : Around} {env : Env} {ρ1 : Rho} {W W1 : Wd} {ow ow1 : List Addr} {s s1 : Shared} {Q : Flow → Shared → Prop} {E : Value → Shared → Prop} {it : Value} {ds : List D} {fp wr : List Addr} {St : Nat → Heap → Prop} {fl : Fl} {ρ' : Rho} {k' : Nat}
    (hR : Room A n) (hsc : env.scope = sc) (sp0 : SP G env W ow s ρ1 W1.k W1 ow1 s1) (hS : Src prog w G A it target sc bf ds W1 N fp wr St) (hst : St 0 s1.heap) (hfp : ∀ b ∈ fp, ¬ Own env ow1 b ∧ b ≠ TB) (hwr : ∀ b ∈ wr, s.heap.get? b = none ∧ W1.P b = none)
    (hf : loopS bf fb fo ds ρ1 W1.k = some (fl, ρ', k')) (hQ : ∀ v W' ow' s', SP G env W ow s ρ' k' W' ow' s' → FlRep W' v fl → Q v s') :
    codeAny (model prog w) A (.forLoop target it body orelse env) (fun r s' => match r with | .ok f => Q f s' | .error e => cameBackBy (model prog w) A env E e s') s1 := by
  have hfpl : ∀ b ∈ fp, ∃ o, s1.heap.get? b = some o := hS.live _ _ hst
  refine codeAny_loop' rfl (ForI G env W W1 ow ow1 s s1 St ds (loopS bf fb fo) (fl, ρ', k')) ?_ (ds.length + 1)
    (.mk s1 0 ρ1 W1 ow1 (Nat.zero_le _) sp0 hst (.refl ..) (fun _ q => q) (fun _ h => .inl h) (by simpa using hf))
  intro j s' hI
  cases hI with | mk _ i ρi Wi owi hle sp hst' hWi hlv howi hf' =>
  show wpAny _ A ((forTurn target it body orelse env).onRaise (fun x => do noteFrame x env; theTreesLotGoes x)) _ _ s'
  refine wpAny_noted (for_turn ?_)
  have hwr' : ∀ b ∈ wr, Wi.P b = none ∧ b ≠ TB := fun b hb => by
    refine ⟨?_, (hfp b (hS.sub b hb)).2⟩
    cases q : Wi.P b with
    | none => rfl
    | some o =>
      rcases hWi.new _ _ q with z | z
      · rw [(hwr b hb).2] at z; cases z
      · obtain ⟨o', ho'⟩ := hfpl b (hS.sub b hb)
        rw [z] at ho'; cases ho'
  have hfpOi : ∀ b ∈ fp, ¬ Own env owi b := fun b hb q => by
    rcases q with q | q | q
    · exact (hfp b hb).1 (.inl q)
    · exact (hfp b hb).1 (.inr (.inl q))
    · rcases howi b q with z | z
      · exact (hfp b hb).1 (.inr (.inr z))
      · obtain ⟨o', ho'⟩ := hfpl b hb
        rw [z] at ho'; cases ho'
  obtain ⟨hs', tks', hse⟩ := sp.same
  by_cases hlt : i < ds.length
  · have hdi : ds.drop i = ds[i] :: ds.drop (i + 1) := List.drop_eq_getElem_cons hlt
    rw [hdi] at hf'
    unfold loopS at hf'
    cases hbf : bf ds[i] ρi with
    | none => rw [hbf] at hf'; cases hf'
    | some ρ1 =>
    rw [hbf] at hf'
    dsimp only at hf'
    refine hS.use (i := i) (d := ds[i]) (W := Wi) (ow := owi) (by simp [hlt]) hbf hst' hsc sp.env sp.inv hWi.weak hfpOi hwr' fun h2 tk2 W2 hk2 hl2 hW2 hkk2 he2 hi2 hst2 => ?_
    have sp2 : SP G env W ow s ρ1 W2.k W2 owi { s' with heap := h2, toks := tk2 } := by
      refine ⟨⟨h2, tk2, by rw [hse]⟩, fun b o hb ht e => ?_, fun b e => sp.live b (hl2 b e), sp.ow, sp.le.trans hW2 sp.live, rfl, hi2, he2⟩
      refine hk2 b o (fun q => ?_) (fun q => hb q.own) (sp.keep b o hb ht e)
      rw [(hwr b q).1] at e; cases e
    rw [← hkk2] at hf'
    have hWle2 : Wle W1 W2 s1.heap := hWi.trans hW2 hlv
    have hlv2 : ∀ b, h2.get? b = none → s1.heap.get? b = none := fun b e => hlv b (hl2 b e)
    cases hfb : fb ρ1 W2.k with
    | none => rw [hfb] at hf'; cases hf'
    | some q =>
    obtain ⟨fl3, ρ3, k3⟩ := q
    rw [hfb] at hf'
    refine hb A env ρ1 W2 owi _ _ _ hR hsc he2 hi2 fl3 ρ3 k3 hfb fun v W3 ow3 s3 x3 r3 => ?_
    have e3 := x3.k
    subst e3
    have sp3 := sp2.trans x3
    have hst3 : St (i + 1) s3.heap := hS.frame _ _ _ hst2 fun b hb o e => x3.keep b o (hfpOi b hb) (hfp b hb).2 e
    have hWle3 : Wle W1 W3 s1.heap := hWle2.trans x3.le hlv2
    have hlv3 : ∀ b, s3.heap.get? b = none → s1.heap.get? b = none := fun b e => hlv2 b (x3.live b e)
    have how3 : ∀ a ∈ ow3, a ∈ ow1 ∨ s1.heap.get? a = none := fun a ha => by
      rcases x3.ow a ha with z | z
      · exact howi a z
      · exact .inr (hlv2 a z)
    cases fl3 with
    | next =>
      cases v with
      | next => exact .inl ⟨rfl, ds.length + 1 - (i + 1), by omega, .mk _ (i + 1) ρ3 W3 ow3 hlt sp3 hst3 hWle3 hlv3 how3 hf'⟩
      | _ => cases r3
    | brk =>
      cases hf'
      cases v with
      | brk => exact hQ .next W3 ow3 s3 sp3 trivial
      | _ => cases r3
    | ret d =>
      cases hf'
      cases v with
      | ret v => exact hQ (.ret v) W3 ow3 s3 sp3 r3
      | _ => cases r3
  · have hin : i = ds.length := by omega
    subst hin
    rw [List.drop_length] at hf'
    unfold loopS at hf'
    refine hS.done _ _ _ hst' fun h2 tk2 hk2 => ?_
    refine .inr ⟨rfl, codeAny_block ?_⟩
    have hi2 : Inv G Wi { s' with heap := h2, toks := tk2 } := Inv.change (s := s') wr sp.inv hk2 (fun b hb => (hwr' b hb).1) (fun q => (hwr' _ q).2 rfl)
    have he2 : EnvOk env ρi Wi owi { s' with heap := h2, toks := tk2 } := sp.env.stand (.refl ..) fun b o hb e => hk2 b o (fun q => hfpOi b (hS.sub b q) hb) e
    have sp2 : SP G env W ow s ρi Wi.k Wi owi { s' with heap := h2, toks := tk2 } := by
      refine ⟨⟨h2, tk2, by rw [hse]⟩, fun b o hb ht e => hk2 b o (fun q => ?_) (sp.keep b o hb ht e), fun b e => ?_, sp.ow, sp.le, rfl, hi2, he2⟩
      · rw [(hwr b q).1] at e; cases e
      · by_cases q : b ∈ wr
        · exact (hwr b q).1
        · refine sp.live b ?_
          cases z : s'.heap.get? b with
          | none => rfl
          | some o => have e' : h2.get? b = none := e
                      rw [hk2 b o q z] at e'; cases e'
    exact ho A env ρi Wi owi _ _ _ hR hsc he2 hi2 fl ρ' k' hf' fun v W3 ow3 s3 x3 r3 => hQ v W3 ow3 s3 (sp2.trans x3) r3

theorem ss_for {target iter : Expr} {body orelse : List Stmt} {pos : Pos} {N : List Str} {bf : D → Rho → Option Rho} {src : Lx} {fb fo : Sx} (hsx : ∀ env x, foldedSetIterable iter env x = pure x) (hsrc : SI prog w G N n sc iter target sc bf src) (hb : SB prog w G n sc body fb) (ho : SB prog w G n sc orelse fo) :
    SS prog w G n sc (.For target iter body orelse pos) (forS bf src fb fo) := fun A env ρ W ow s Q E hR hsc he hi fl ρ' k' hf hQ => by
  unfold forS at hf
  split at hf
  · cases hf
  · rename_i ds k1 h1
    refine wpAny_For ?_ (hsx env)
    refine hsrc A env ρ W ow s _ E hR hsc he hi ds k1 h1 fun it W1 s1 fp wr St x1 e1 hS hst hfp hwr hlen => ?_
    subst e1
    obtain ⟨ps, hT, _⟩ := hi.tab
    have hfpO : ∀ b ∈ fp, ¬ Own env ow b := fun b hb => fp_own he hi x1 (hfp b hb)
    have hTf : TB ∉ fp := fun q => fp_ne x1 hT hi.tabP (hfp TB q) rfl
    exact for_core hb ho hR hsc (.ext he hi x1) hS hst (fun b hb => ⟨hfpO b hb, fun q => hTf (q ▸ hb)⟩) hwr hf hQ
end
end Mine
end

section
open PySem PySem.W PySem.Calls PyProof.Rows PySem.SeqAt
set_option Elab.async false
set_option maxRecDepth 100000
set_option linter.unusedVariables false
namespace Mine
noncomputable abbrev Fx := List D → Nat → Option (D × Nat)
noncomputable def CallOk (prog : Program) (w : World) (G : Heap) (n : Nat) (a : Addr) (F : Fx) : Prop :=
  ∀ (A : Around) (W : Wd) (s : Shared) (vs : List Value) (ds : List D) (Q : Value → Shared → Prop) (E : Value → Shared → Prop) (d : D) (k' : Nat), Room A n → Inv G W s → RepL W vs ds → F ds W.k = some (d, k') →
    (∀ v W' s', Ext G W s W' s' → W'.k = k' → Rep W' v d → Q v s') → wpAny (model prog w) A (call (.ref a) vs) Q E s

noncomputable def bindP (names : List Str) (ds : List D) : Rho := fun x => (names.zip ds).lookup x
noncomputable def defF (names : List Str) (f : Sx) : Fx := fun ds k => if names.length = ds.length then (match f (bindP names ds) k with
    | some (.ret d, _, k') => some (d, k')
    | some (.next, _, k') => some (.none, k')
    | _ => none) else none

theorem bindL_out {kindOf : Str → Option NameKind} {x : Str} : ∀ {l : List (Str × Value)} {m : Str → Option Value}, x ∉ l.map (·.1) → bindL kindOf l m x = m x
  | [], m, _ => rfl
  | (y, v) :: r, m, h => by
    simp only [List.map_cons, List.mem_cons, not_or] at h
    unfold bindL
    rw [bindL_out h.2]
    split
    · show (if x = y then some v else m x) = m x
      rw [if_neg h.1]
    · rfl
theorem bindC_out {kindOf : Str → Option NameKind} {x : Str} : ∀ {l : List (Str × Value)} {m : Str → Option Value}, x ∉ l.map (·.1) → bindC kindOf l m x = m x
  | [], m, _ => rfl
  | (y, v) :: r, m, h => by
    simp only [List.map_cons, List.mem_cons, not_or] at h
    unfold bindC
    rw [bindC_out h.2]
    split
    · rfl
    · show (if x = y then some v else m x) = m x
      rw [if_neg h.1]
theorem bindL_in {kindOf : Str → Option NameKind} {x : Str} {v : Value} (hk : kindOf x = some .local) : ∀ {l : List (Str × Value)} {m : Str → Option Value}, (l.map (·.1)).Nodup → l.lookup x = some v → bindL kindOf l m x = some v
  | [], m, _, h => by cases h
  | (y, u) :: r, m, hnd, h => by
    simp only [List.map_cons, List.nodup_cons] at hnd
    unfold bindL
    rw [List.lookup_cons] at h
    cases hb : x == y with
    | true =>
      rw [hb] at h; cases h
      have e := eq_of_beq hb
      subst e
      rw [bindL_out hnd.1, if_pos hk]
      show (if x = x then some v else m x) = some v
      rw [if_pos rfl]
    | false =>
      rw [hb] at h
      exact bindL_in hk hnd.2 h
theorem bindC_in {kindOf : Str → Option NameKind} {x : Str} {v : Value} (hk : kindOf x ≠ some .local) : ∀ {l : List (Str × Value)} {m : Str → Option Value}, (l.map (·.1)).Nodup → l.lookup x = some v → bindC kindOf l m x = some v
  | [], m, _, h => by cases h
  | (y, u) :: r, m, hnd, h => by
    simp only [List.map_cons, List.nodup_cons] at hnd
    unfold bindC
    rw [List.lookup_cons] at h
    cases hb : x == y with
    | true =>
      rw [hb] at h; cases h
      have e := eq_of_beq hb
      subst e
      rw [bindC_out hnd.1, if_neg hk]
      show (if x = x then some v else m x) = some v
      rw [if_pos rfl]
    | false =>
      rw [hb] at h
      exact bindC_in hk hnd.2 h
theorem zip_names : ∀ {xs : List Str} {vs : List Value}, xs.length = vs.length → (xs.zip vs).map (·.1) = xs
  | [], _, _ => by simp
  | x :: xs, [], h => by cases h
  | x :: xs, v :: vs, h => by simp [zip_names (by simpa using h)]
theorem zip_rep {W : Wd} {x : Str} {d : D} : ∀ {xs : List Str} {vs : List Value} {ds : List D}, RepL W vs ds → (xs.zip ds).lookup x = some d → ∃ v, (xs.zip vs).lookup x = some v ∧ Rep W v d
  | [], _, _, _, h => by simp at h
  | y :: xs, _, _, .nil, h => by simp at h
  | y :: xs, v :: vs, e :: ds, .cons r1 r2, h => by
    simp only [List.zip_cons_cons, List.lookup_cons] at h ⊢
    cases hb : x == y with
    | true => rw [hb] at h; cases h; exact ⟨v, rfl, r1⟩
    | false => rw [hb] at h; exact zip_rep r2 h

section
variable {prog : Program} {w : World} {G : Heap} {mg mb : Str → Option Value} {n : Nat} {sc : Scope}

structure DefOk (prog : Program) (w : World) (G : Heap) (a : Addr) (fd : FuncData) (body : List Stmt) (names : List Str) : Prop where
  obj : ∃ o, G.get? a = some o ∧ o.data = .func fd
  code : G.CodeRec fd.code fd.qualname
  body : fd.body = .stmts body
  bind : ∀ vs : List Value, vs.length = names.length → ∀ (A : Around) (s : Shared) (Q : List (Str × Value) → Shared → Prop) (E : Value → Shared → Prop), (∀ b o, G.get? b = some o → s.heap.get? b = some o) → Q (names.zip vs) s → wpAny (model prog w) A (bindArgs fd ⟨vs, []⟩) Q E s
  clos : fd.closure = []
  nd : (names.map id).Nodup
  kinds : ∀ x ∈ names, fd.scope.names.lookup x = some .local ∨ fd.scope.names.lookup x = some .cell
  nofree : ∀ x ∈ fd.scope.names, x.2 ≠ .free
  co : fd.scope.isCoroutine = false
  gen : fd.scope.isGenerator = false
  kind : fd.scope.kind = .function
  glob : fd.globals = mainGlobals
  blt : fd.builtins = builtinsNs

theorem call_cells {A : Around} {s : Shared} {R : Result → Shared → Prop} {a : Addr} {o : Obj} {fd : FuncData} {body : List Stmt} {vals : List Value} {binds : List (Str × Value)}
    (hroom : A.depth < recursionLimit) (ho : s.heap.get? a = some o) (hdata : o.data = .func fd) (hlim : s.heap.NoLimit) (hcd : s.heap.CodeRec fd.code fd.qualname)
    (hbody : fd.body = .stmts body) (hbind : ∀ (Q : List (Str × Value) → Shared → Prop) (E : Value → Shared → Prop), Q binds s → wpAny (model prog w) A.in1 (bindArgs fd ⟨vals, []⟩) Q E s) (hclo : fd.closure = [])
    (hkind : ∀ x ∈ binds, fd.scope.names.lookup x.1 = some .local ∨ (fd.scope.names.lookup x.1 = some .cell ∧ ((cellsFrom (s.heap.objs.size + 1) fd.scope.names []).lookup x.1).isSome = true))
    (h : ∀ s₁, InCallC s (callEnvC fd s.heap.objs.size a).locals (bindL (callEnvC fd s.heap.objs.size a).kindOf binds fun _ => none) (callEnvC fd s.heap.objs.size a).cells
        (bindC (callEnvC fd s.heap.objs.size a).kindOf binds fun _ => none) s₁ →
      wpAny (model prog w) (A.deeper (callEnvC fd s.heap.objs.size a)) (execs body (callEnvC fd s.heap.objs.size a)) (fun f s' => R (.ok (.ret (match f with | .ret v => v | _ => .none))) s')
        (fun e s' => wpAny (model prog w) (A.deeper (callEnvC fd s.heap.objs.size a)) (leaving (callEnvC fd s.heap.objs.size a) e) (fun _ s'' => R (.error e) s'') (fun e' s'' => R (.error e') s'') s') s₁)
    (hco : fd.scope.isCoroutine = false) (hgen : fd.scope.isGenerator = false) (hk : fd.scope.kind = .function) :
    codeAny (model prog w) A (.call (.ref a) ⟨vals, []⟩) R s := by
  refine codeAny_call_function hroom ho hdata hco hgen hbody hcd (hbind _ _ ?_)
  rw [hclo]
  refine wpAny_newFunctionEnv_cells hk hkind fun env he s' x => ?_
  subst he
  exact ⟨hlim.keeps x.toInCall.keep, codeAny_func (h s' x)⟩

theorem callOk_body {a : Addr} {fd : FuncData} {body : List Stmt} {names : List Str} {f : Sx} (gn : Gnd prog w G mg mb) (D0 : DefOk prog w G a fd body names) (h : SB prog w G n fd.scope body f) : CallOk prog w G (n + 1) a (defF names f) := by
  intro A W s vs ds Q E d k' hR hi hr hf hQ
  unfold defF at hf
  split at hf
  · rename_i hlen
    have hvl : vs.length = names.length := by rw [hr.length, hlen]
    obtain ⟨o, ho, hdt⟩ := D0.obj
    refine wpAny_call ?_
    have hnd : ((names.zip vs).map (·.1)).Nodup := by rw [zip_names hvl.symm]; simpa using D0.nd
    refine call_cells (binds := names.zip vs) hR.depth (hi.sub0 _ _ ho) hdt (gn.nolimit.keeps hi.sub0) (D0.code.keeps hi.sub0) D0.body (fun Q' E' hq => D0.bind vs hvl _ _ _ _ hi.sub0 hq) D0.clos (fun x hx => ?_) (fun s₁ x => ?_) D0.co D0.gen D0.kind
    · have hx' : x.1 ∈ names := by rw [← zip_names (vs := vs) hvl.symm]; exact List.mem_map_of_mem hx
      rcases D0.kinds _ hx' with q | q
      · exact .inl q
      · exact .inr ⟨q, by obtain ⟨c, hc⟩ := cellsFrom_has fd.scope.names (s.heap.objs.size + 1) x.1 (mem_of_lookup q); rw [hc]; rfl⟩
    · generalize henv : callEnvC fd s.heap.objs.size a = env at *
      have e1 : env.scope = fd.scope := by rw [← henv]; rfl
      have e2 : env.locals = s.heap.objs.size := by rw [← henv]; rfl
      have e3 : env.cells = cellsFrom (s.heap.objs.size + 1) fd.scope.names [] := by rw [← henv]; rfl
      have e4 : env.globals = mainGlobals := by rw [← henv]; exact D0.glob
      have e5 : env.builtins = builtinsNs := by rw [← henv]; exact D0.blt
      have hkeep := x.toInCall.keep
      have hdeadL : s.heap.get? s.heap.objs.size = none := Heap.new_none _
      have hdeadC : ∀ y c, env.cells.lookup y = some c → s.heap.get? c = none := fun y c hc => by
        cases e : s.heap.get? c with
        | none => rfl
        | some o' =>
          have h1 := x.above y c (mem_of_lookup hc)
          rw [e2] at h1
          exact absurd (Heap.lt_size e) (Nat.not_lt.mpr (Nat.le_of_lt h1))
      obtain ⟨h1, tk1, hs1⟩ := x.toInCall.same
      have x1 : Ext G W s W s₁ := by rw [hs1]; exact Ext.keeps hi (by rw [hs1] at hkeep; exact hkeep)
      have he : EnvOk env (bindP names ds) W [] s₁ := by
        refine ⟨by rw [e1]; exact D0.kind, e4, e5, ⟨_, x.toInCall.ns, fun y d' h1 h2 => ?_⟩, fun y hy => ?_, fun y z c h1 h2 => name_of_addr x.apart (mem_of_lookup h1) (mem_of_lookup h2), fun y c hc => ⟨hi.none_of (hdeadC y c hc), _, x.cell y c hc⟩, by rw [e2]; exact hi.none_of hdeadL, fun a ha => nomatch ha⟩
        · obtain ⟨v, h3, h4⟩ := zip_rep hr h1
          exact ⟨v, bindL_in h2 hnd h3, rep_repV h4⟩
        · rcases hy with hy | hy
          · have hy' : fd.scope.names.lookup y = some .cell := by rw [← e1]; exact hy
            obtain ⟨c, hc⟩ := cellsFrom_has fd.scope.names (s.heap.objs.size + 1) y (mem_of_lookup hy')
            rw [← e3] at hc
            refine ⟨c, _, hc, x.cell y c hc, fun d' hd' => ?_⟩
            obtain ⟨v, h3, h4⟩ := zip_rep hr hd'
            exact ⟨v, bindC_in (by rw [hy]; simp) hnd h3, rep_repV h4⟩
          · have hy' : fd.scope.names.lookup y = some .free := by rw [← e1]; exact hy
            exact absurd rfl (D0.nofree _ (mem_of_lookup hy'))
      have fin : ∀ {ρ' : Rho} {k2 : Nat} {W' : Wd} {ow' : List Addr} {s' : Shared}, SP G env W [] s₁ ρ' k2 W' ow' s' → Ext G W s W' s' := fun {ρ' k2 W' ow' s'} sp => by
        obtain ⟨h2, tk2, hs2⟩ := sp.same
        refine ⟨⟨h2, tk2, by rw [hs2, hs1]⟩, fun b o' hb e => sp.keep b o' (fun q => ?_) hb (x1.keep b o' hb e), ⟨sp.le.sub, fun b o' q => (sp.le.new b o' q).imp id fun z => x1.dead z, sp.le.eta, sp.le.k⟩, sp.inv⟩
        rcases q with q | ⟨y, q⟩ | q
        · rw [q, e2, hdeadL] at e; cases e
        · rw [hdeadC y b q] at e; cases e
        · cases q
      have hR' : Room (A.deeper env) n := hR.deeper env (by rw [e1]; exact D0.gen) (by rw [e1]; exact D0.co) e5 e4
      cases hfb : f (bindP names ds) W.k with
      | none => rw [hfb] at hf; cases hf
      | some q =>
      obtain ⟨fl, ρ', k2⟩ := q
      rw [hfb] at hf
      refine h (A.deeper env) env (bindP names ds) W [] s₁ _ _ hR' e1 he x1.inv fl ρ' k2 hfb fun v W' ow' s' sp r => ?_
      have e6 := sp.k
      cases fl with
      | next =>
        cases hf
        cases v with
        | next => exact hQ .none W' s' (fin sp) e6 .none
        | _ => cases r
      | brk => cases hf
      | ret d' =>
        cases hf
        cases v with
        | ret v => exact hQ v W' s' (fin sp) e6 r
        | _ => cases r
  · cases hf

/-- a call of one of the text's defs -/
noncomputable def callE (F : Fx) (g : Lx) : Ex := fun ρ k => match g ρ k with
  | none => none
  | some (ds, k1) => F ds k1
theorem se_call {x : Str} {a : Addr} {fd : FuncData} {o : Obj} {e : Expr} {es : List Expr} {p pos : Pos} {g : Lx} {F : Fx} {m : Nat} (gn : Gnd prog w G mg mb) (hg : isGlob sc x = true) (hx : nsIn (hd.heap_39 w.params) mainGlobals x = some (some (.ref a))) (hdb : (x == ("__debug__" : Str)) = false)
    (ho : G.get? a = some o) (hfd : o.data = .func fd) (hC : CallOk prog w G m a F) (hm : m ≤ n) (h : SL prog w G n sc (e :: es) g) (hst : ∀ env, starEach (e :: es) env = (false, eval e env) :: starEach es env) :
    SE prog w G n sc (.Call (.Name x p) (e :: es) [] pos) (callE F g) := fun A env ρ W ow s Q E hR hs he hi d k' hf hQ => by
  unfold callE at hf
  split at hf
  · cases hf
  · rename_i ds k1 h1
    refine wpAny_Call_NameR (glob_fn gn he hi hs hg hx hdb (callWith_function (o := o) (fd := fd) ?_))
    have hL := h A env ρ W ow s pos (fun vs s' => (s'.heap.get? a = some o ∧ o.data = .func fd) ∧ wpAny (model prog w) A (call (.ref a) ([] ++ vs) []) Q E s') E hR hs he hi ds k1 h1 fun vs W1 s1 x1 e1 r1 _ => by
      subst e1
      exact ⟨⟨x1.inv.sub0 _ _ ho, hfd⟩, hC A W1 s1 vs ds Q E d k' (hR.le hm) x1.inv r1 hf fun v W2 s2 x2 e2 r2 => hQ v W2 s2 (x1.trans x2) e2 r2⟩
    rw [hst] at hL ⊢
    exact evalArgs_plain hL
end
end Mine
end

section
open PySem PySem.W PySem.Calls PyProof.Rows PySem.SeqAt
set_option Elab.async false
set_option maxRecDepth 100000
set_option linter.unusedVariables false
namespace Mine
section
variable {prog : Program} {w : World} {G : Heap} {mg mb : Str → Option Value} {n : Nat} {sc : Scope}

noncomputable def nameOk (sc : Scope) (x : Str) : Bool := isVar sc x && !(x == ("__classdict__" : Str)) && !(x == ("__debug__" : Str))
theorem se_name {x : Str} {pos} (h : nameOk sc x = true) : SE prog w G n sc (.Name x pos) (varE x) := by
  simp only [nameOk, Bool.and_eq_true, Bool.not_eq_true'] at h
  exact se_var h.1.1 h.1.2 h.2
noncomputable def isFnAt (w : World) (a : Addr) : Bool := match (hd.heap_39 w.params).lookup a with
  | some ⟨_, _, .func _, _⟩ => true
  | _ => false
theorem fn_at {a : Addr} (gn : Gnd prog w G mg mb) (h : isFnAt w a = true) : ∃ o fd, G.get? a = some o ∧ o.data = .func fd := by
  unfold isFnAt at h
  split at h
  · rename_i q; exact ⟨_, _, gn.X _ _ q, rfl⟩
  · cases h
theorem se_callF {x : Str} {a : Addr} {e : Expr} {es : List Expr} {p pos : Pos} {g : Lx} {F : Fx} {m : Nat} (gn : Gnd prog w G mg mb) (hg : isGlob sc x = true) (hx : nsIn (hd.heap_39 w.params) mainGlobals x = some (some (.ref a))) (hdb : (x == ("__debug__" : Str)) = false)
    (ho : ∃ o fd, G.get? a = some o ∧ o.data = .func fd) (hC : CallOk prog w G m a F) (hm : m ≤ n) (h : SL prog w G n sc (e :: es) g) (hst : ∀ env, starEach (e :: es) env = (false, eval e env) :: starEach es env) :
    SE prog w G n sc (.Call (.Name x p) (e :: es) [] pos) (callE F g) := by
  obtain ⟨o, fd, h1, h2⟩ := ho
  exact se_call gn hg hx hdb h1 h2 hC hm h hst

noncomputable def defB (fd : FuncData) (names : List Str) : Bool :=
  decide names.Nodup && names.all (fun x => fd.scope.names.lookup x == some .local || fd.scope.names.lookup x == some .cell) && fd.scope.names.all (fun p => !(p.2 == .free)) &&
  !fd.scope.isCoroutine && !fd.scope.isGenerator && (fd.scope.kind == .function) && (fd.globals == mainGlobals) && (fd.builtins == builtinsNs) && fd.closure.isEmpty
theorem def_at {a : Addr} {oc : Value} {od : Option Addr} {osl : Array (Option Value)} {fd : FuncData} {body : List Stmt} {names : List Str} (gn : Gnd prog w G mg mb) (hK : (hd.heap_39 w.params).lookup a = some ⟨oc, od, .func fd, osl⟩) (hb : fd.body = .stmts body) (hc : codeIn (hd.heap_39 w.params) fd.code fd.qualname = true)
    (hbind : ∀ vs : List Value, vs.length = names.length → bindArgs fd ⟨vs, []⟩ = pure (names.zip vs)) (h : defB fd names = true) : DefOk prog w G a fd body names := by
  simp only [defB, Bool.and_eq_true, decide_eq_true_eq, List.all_eq_true, Bool.or_eq_true, beq_iff_eq, Bool.not_eq_true', List.isEmpty_iff] at h
  obtain ⟨⟨⟨⟨⟨⟨⟨⟨h1, h2⟩, h3⟩, h4⟩, h5⟩, h6⟩, h7⟩, h8⟩, h9⟩ := h
  exact ⟨⟨_, gn.X _ _ hK, rfl⟩, codeRec_of gn.X hc, hb, (fun vs hvs A s Q E _ hq => by rw [hbind vs hvs]; exact wpAny_pure hq), h9, by simpa using h1, h2, fun x hx q => (by have := h3 x hx; rw [q] at this; exact absurd this (by decide)), h4, h5, h6, h7, h8⟩

theorem def_atD {a T : Addr} {oc : Value} {od : Option Addr} {osl : Array (Option Value)} {fd : FuncData} {body : List Stmt} {names : List Str} {oT : Obj} {items : Array Value} {m : Nat} (gn : Gnd prog w G mg mb) (hK : (hd.heap_39 w.params).lookup a = some ⟨oc, od, .func fd, osl⟩) (hb : fd.body = .stmts body) (hc : codeIn (hd.heap_39 w.params) fd.code fd.qualname = true)
    (hdf : fd.defaults = .ref T) (hT : (hd.heap_39 w.params).lookup T = some oT) (hTd : oT.data = .seq items m)
    (hbind : ∀ vs : List Value, vs.length = names.length → ∃ k : Option (Array Value) → Sem (List (Str × Value)), bindArgs fd ⟨vs, []⟩ = seqItems? fd.defaults >>= k ∧ k (some items) = pure (names.zip vs)) (h : defB fd names = true) : DefOk prog w G a fd body names := by
  simp only [defB, Bool.and_eq_true, decide_eq_true_eq, List.all_eq_true, Bool.or_eq_true, beq_iff_eq, Bool.not_eq_true', List.isEmpty_iff] at h
  obtain ⟨⟨⟨⟨⟨⟨⟨⟨h1, h2⟩, h3⟩, h4⟩, h5⟩, h6⟩, h7⟩, h8⟩, h9⟩ := h
  refine ⟨⟨_, gn.X _ _ hK, rfl⟩, codeRec_of gn.X hc, hb, (fun vs hvs A s Q E hG hq => ?_), h9, by simpa using h1, h2, fun x hx q => (by have := h3 x hx; rw [q] at this; exact absurd this (by decide)), h4, h5, h6, h7, h8⟩
  obtain ⟨k, e1, e2⟩ := hbind vs hvs
  rw [e1, hdf]
  refine wpAny_bind (wpAny_seqItems (hG _ _ (gn.X _ _ hT)) hTd ?_)
  rw [e2]
  exact wpAny_pure hq

theorem len_1 {α : Type} {vs : List α} (h : vs.length = 1) : ∃ a, vs = [a] := by
  match vs, h with | [a], _ => exact ⟨a, rfl⟩
theorem len_2 {α : Type} {vs : List α} (h : vs.length = 2) : ∃ a b, vs = [a, b] := by
  match vs, h with | [a, b], _ => exact ⟨a, b, rfl⟩
theorem len_3 {α : Type} {vs : List α} (h : vs.length = 3) : ∃ a b c, vs = [a, b, c] := by
  match vs, h with | [a, b, c], _ => exact ⟨a, b, c, rfl⟩

/-! targets of a for -/
noncomputable def bfS (x : Str) : D → Rho → Option Rho := fun d ρ => some (upd ρ x d)
theorem bfS_upd {x : Str} {d : D} {ρ ρ' : Rho} (h : bfS x d ρ = some ρ') : ρ' = upd ρ x d := by cases h; rfl
noncomputable def bfS2 (x y : Str) : D → Rho → Option Rho := fun d ρ => match d with
  | .tuple [a, b] => some (upd (upd ρ x a) y b)
  | _ => none
theorem bfS2_pair (x y : Str) : Pair2 x y (bfS2 x y) := fun d ρ ρ' h => by
  unfold bfS2 at h
  split at h
  · cases h; exact ⟨_, _, rfl, rfl⟩
  · cases h

/-! list(range(..)) -/
theorem se_listRange {e : Expr} {p1 p2 pos1 pos2 : Pos} {f : Ex} (gn : Gnd prog w G mg mb) (hg : isGlob sc "list" = true) (hg2 : isGlob sc "range" = true) (h : SE prog w G n sc e f) (hst : ∀ env, starEach [e] env = [(false, eval e env)]) :
    SE prog w G n sc (.Call (.Name "list" p1) [.Call (.Name "range" p2) [e] [] pos2] [] pos1) (listRangeE f) := fun A env ρ W ow s Q E hR hs he hi d k' hf hQ => by
  unfold listRangeE at hf
  split at hf
  · cases hf
  · rename_i a k1 h1
    split at hf
    · cases hf
    · rename_i xs h2
      cases hf
      refine wpAny_Call_NameR (glob_bi (v := .type "list") gn he hi hs hg (by kernel_rfl) (by decide +kernel) (by decide +kernel) (by decide +kernel) (PySem.callWith_type rfl ?_))
      have hpl : ∀ (Q' : Args → Shared → Prop), wpAny (model prog w) A (spliced (backTo pos1 (starEach [.Call (.Name "range" p2) [e] [] pos2] env))) (fun vs s' => Q' ⟨vs, []⟩ s') E s → wpAny (model prog w) A (evalArgs (.type "list") true (backTo pos1 (starEach [.Call (.Name "range" p2) [e] [] pos2] env)) []) Q' E s := by
        intro Q' hh
        have e0 : starEach [.Call (.Name "range" p2) [e] [] pos2] env = [(false, eval (.Call (.Name "range" p2) [e] [] pos2) env)] := rfl
        rw [e0] at hh ⊢
        exact evalArgs_plain hh
      refine hpl _ ?_
      refine wpAny_items_cons (call1T (T := "range") gn hg2 (by kernel_rfl) (by decide +kernel) (by decide +kernel) (by decide +kernel) h hst hR hs he hi h1 fun v W1 s1 x1 e1 r1 => ?_)
      subst e1
      unfold rangeD at h2
      split at h2
      · split at h2
        · rename_i i hb
          cases h2
          obtain ⟨t, rfl⟩ := rep_int r1
          refine call_range_1 (wpAny_items_nil ?_)
          have x2 := Ext.push x1.inv ({ cls := .type "range", data := .fields #[.int 0 s1.toks, .int i t, .int 1 (s1.toks + 1)] } : Obj) (s1.toks + 1 + 1)
          refine call_list_range (n := i.toNat) hR.1 (IsRange.new ..) (range_small hb) range_size (by omega) fun h' tk acc' c' hk hD hIt => ?_
          obtain ⟨hsz, hit⟩ := hIt
          have hD0 := Heap.new_none (s1.heap.push ({ cls := .type "range", data := .fields #[.int 0 s1.toks, .int i t, .int 1 (s1.toks + 1)] } : Obj))
          have x3 := Ext.keeps (tk := tk) x2.inv hk
          have hDP := x2.inv.none_of hD0
          have hrep : ∀ (m : Nat) (l : List Value), (∀ j v, l[j]? = some v → ∃ t, v = Value.int ((m + j : Nat) : Int) t) → RepL W1 l ((List.range' m l.length).map fun (j : Nat) => D.int (j : Int)) := by
            intro m l
            induction l generalizing m with
            | nil => intro _; exact .nil
            | cons v r ih =>
              intro hh
              obtain ⟨t, ht⟩ := hh 0 v (by simp)
              subst ht
              rw [List.length_cons, List.range'_succ, List.map_cons]
              refine .cons (.int _ _) (ih (m + 1) fun j v hv => ?_)
              obtain ⟨t, ht⟩ := hh (j + 1) v (by simpa using hv)
              exact ⟨t, by rw [ht]; congr 2; omega⟩
          have hr := hrep 0 acc'.toList (fun j v hv => by
            obtain ⟨t, ht⟩ := hit j v (by simpa using hv)
            exact ⟨t, by rw [ht]; congr 1; omega⟩)
          rw [Array.length_toList, hsz, ← List.range_eq_range'] at hr
          have hob : h'.get? (s1.heap.push ({ cls := .type "range", data := .fields #[.int 0 s1.toks, .int i t, .int 1 (s1.toks + 1)] } : Obj)).objs.size = some (listO acc'.toList c') := by simpa [listO] using hD
          refine hQ _ (W1.put _ (listO acc'.toList c')) _ ?_ rfl (.list (Wd.put_self ..) (by rw [Array.length_toList, hsz]; exact Nat.le_trans (by omega) (show 1000 ≤ big by decide)) (hr.mono (.put (h := ({} : Heap)) hDP (empty_get _))))
          have x13 := (x1.trans x2).trans x3
          exact ⟨x13.same, x13.keep, x13.le.trans (.put (h := s.heap) hDP ((x1.trans x2).dead hD0)) (fun _ q => q), x3.inv.put hob hDP x2.inv.size_ne_TB⟩
        · cases h2
      · cases h2

/-! which stores -/
theorem swaps_false {e : Expr} {x : Str} {px : Pos} {line : Nat} (h : (sc.names.lookup x == some .local) = false) : ∀ env : Env, env.scope = sc → swapsWith e (some (.Name x px)) line env = pure false := by
  intro env hs
  unfold swapsWith
  have hk : (env.kindOf x == some .local) = false := by subst hs; exact h
  split
  · rename_i sc' q
    simp [hk]
  · rfl
end
end Mine
end

section
open PySem PySem.W PySem.Calls PyProof.Rows PySem.SeqAt
set_option Elab.async false
set_option maxRecDepth 100000
set_option linter.unusedVariables false
namespace Mine
section
variable {prog : Program} {w : World} {G : Heap} {mg mb : Str → Option Value} {n : Nat} {sc : Scope}
theorem swaps_true {elt : Expr} {gens : List Comprehension} {scope : Scope} {pos px : Pos} {x : Str} {line : Nat} (h1 : (sc.kind == .function && sc.names.lookup x == some .local) = true) (h2 : (px.line == pos.line) = true) (h3 : (scope.names.any fun (p : Str × NameKind) => p.1 == x && (p.2 == .local || p.2 == .cell)) = false) :
    ∀ env : Env, env.scope = sc → swapsWith (.ListComp elt gens scope pos) (some (.Name x px)) line env = pure true := by
  intro env hs
  subst hs
  simp only [Bool.and_eq_true] at h1
  have hk : env.scope.kind = .function := eq_of_beq h1.1
  show (pure (env.blockKind == .function && env.kindOf x == some .local && px.line == pos.line && !(scope.names.any fun (p : Str × NameKind) => p.1 == x && (p.2 == .local || p.2 == .cell))) : Sem Bool) = _
  have hb : (env.blockKind == .function) = true := by
    unfold Env.blockKind
    rw [hk]; rfl
  have hk2 : (env.kindOf x == some .local) = true := h1.2
  rw [hb, hk2, h2, h3]; rfl
end
end Mine
end

section
open PySem PySem.W PySem.Calls PyProof.Rows PySem.SeqAt
set_option Elab.async false
set_option maxRecDepth 100000
set_option linter.unusedVariables false
namespace Mine
theorem lookIn_ns {es : Array DictEntry} {ep : Nat} {c : Value} {od : Option Addr} {sl : Array (Option Value)} {x : Str} {v : Value} (h : nsFind es x = some v) : lookIn x ({ cls := c, dict := od, data := .dict es ep, slots := sl } : Obj) = some (some v) := by
  simp only [nsFind, findBy] at h
  obtain ⟨e, he, rfl⟩ := Option.map_eq_some_iff.mp h
  have hl : es.toList.find? (fun e => e.key.isStr x) = some e := by rw [← he]; simp
  unfold lookIn
  dsimp only
  rw [hl]
section
variable {prog : Program} {w : World} {G : Heap} {mg mb : Str → Option Value} {n : Nat} {sc : Scope}
theorem inst_of {h : Heap} {P : Addr → Option Obj} {a : Addr} {va vr vd : Value} (hs : ∀ b o, P b = some o → h.get? b = some o) (x : EntAt P a va vr vd) :
    ∃ es ep, InstAt h a { cls := .ref entCls, dict := some x.choose } entCls (some { cls := .type "dict", data := .dict es ep }) ∧ StrKeys es ∧ (∀ y, nsFind es y = entMap va vr vd y) := by
  obtain ⟨h1, ⟨es, ep, h2, h3, h4⟩, h5⟩ := x.choose_spec
  exact ⟨es, ep, ⟨hs _ _ h1, rfl, rfl, hs _ _ h2⟩, h3, h4⟩

theorem ent_attr {A : Around} {s : Shared} {P : Addr → Option Obj} {a : Addr} {va vr vd v : Value} {x : Str} {ex : Bool} {Q : Value → Shared → Prop} {E : Value → Shared → Prop} (gn : Gnd prog w G mg mb) (hG : ∀ b o, G.get? b = some o → s.heap.get? b = some o) (hs : ∀ b o, P b = some o → s.heap.get? b = some o) (e : EntAt P a va vr vd) (hv : entMap va vr vd x = some v)
    (hx : findIn (hd.heap_39 w.params) (.ref entCls) x = some none) (hh : handedIn v = true) (h : Q v { s with toks := s.toks + 1 }) : wpAny (model prog w) A (getAttr (.ref a) x ex) Q E s := by
  obtain ⟨es, ep, I, h3, h4⟩ := inst_of hs e
  exact get_value (fun b o q => hG b o (gn.X b o q)) I (by kernel_rfl) (findObj_own (by kernel_rfl) hx rfl (lookIn_ns ((h4 x).trans hv))) hh h

theorem lk_fn_ga : typeLookup (.type "function") "__getattribute__" = pure (some (.builtin "object.__getattribute__")) := by rw [typeLookup_type, builtinLookup_eq_fast]; kernel_rfl
theorem slot_fn_ga : Slot "function" "__getattribute__" "object.__getattribute__" := .of (owner := "object") (n := "__getattribute__") lk_fn_ga (by decide +kernel) (by decide +kernel) (by decide +kernel)
  (by first | exact .inl (by decide +kernel) | exact .inr (by decide +kernel)) (by rw [isSubtype_type]; kernel_rfl)
theorem entry_obj_ga : entryFor table "object.__getattribute__" = some Builtin.«object.__getattribute__» := entryFor_of_tree (by kernel_rfl)
theorem args_obj_ga (a b : Value) : argsOk "object.__getattribute__" ⟨[a, b], []⟩ := by unfold argsOk; kernel_rfl
theorem fn_attr {A : Around} {h : Heap} {g : Array GenState} {d0 : Drawn} {t : Nat} {os : OsState} {a d : Addr} {o : Obj} {fd : FuncData} {m : Str → Option Value} {x : Str} {v : Value} {ex : Bool} {Q : Value → Shared → Prop} {E : Value → Shared → Prop}
    (ho : h.get? a = some o) (hc : o.cls = .type "function") (hf : o.data = .func fd) (hd : o.dict = some d) (hns : h.Ns d m) (hv : m x = some v) (hx : typeLookup (.type "function") x = pure none) (hh : handedIn v = true) (hQ : Q v ⟨h, g, d0, t + 1, os⟩) :
    wpAny (model prog w) A (getAttr (.ref a) x ex) Q E ⟨h, g, d0, t, os⟩ := by
  have hT : ∀ t', (⟨h, g, d0, t', os⟩ : Shared).TypeIs (.ref a) "function" := fun _ => ⟨_, ho, hc⟩
  have f2 := slot_fn_ga.lookup
  have f3 := slot_fn_ga.bind (.ref a)
  have hhand := handedOut_of hh
  obtain ⟨oc, od, oda, osl⟩ := o
  dsimp only at hc hf hd
  subst hc hf hd
  have hcall : ∀ (t' : Nat) (A' : Around) (tk : Tok) (Q' : Value → Shared → Prop) (E' : Value → Shared → Prop), Q' v ⟨h, g, d0, t', os⟩ → wpAny (model prog w) A' (call (.builtin "object.__getattribute__") [.ref a, .str x tk]) Q' E' ⟨h, g, d0, t', os⟩ := fun t' A' tk Q' E' hq => by
    refine wpAny_call_entry slot_fn_ga (hT t') entry_obj_ga ?_ (args_obj_ga _ _)
    unfold Builtin.«object.__getattribute__»
    repeat (any_goals (first | assumption | exact hT _ | (with_reducible refine wpAny_nsGet hns ?_; rw [hv]) | wp_step))
    exact ⟨_, rfl, hq⟩
  unfold getAttr getAttrBy
  repeat (any_goals (first | assumption | exact hT _ | (with_reducible refine hcall _ _ _ _ _ ?_) | wp_step))
  have hex : (ex && onTheHeap (Value.builtin "object.__getattribute__")) = false := by cases ex <;> rfl
  rw [hex, if_neg (by simp)]
  unfold boundAndCalled
  rw [f3]
  refine wpAny_bind (wpAny_pure (hcall _ _ _ _ _ ?_))
  show wpAny _ _ (handedOut v) _ _ _
  rw [hhand]
  exact wpAny_pure hQ
end
end Mine
end

section
open PySem PySem.W PySem.Calls PyProof.Rows PySem.SeqAt
set_option Elab.async false
set_option maxRecDepth 100000
set_option linter.unusedVariables false
namespace Mine
section
variable {prog : Program} {w : World} {G : Heap} {mg mb : Str → Option Value} {n : Nat} {sc : Scope}

theorem NsIn.ns {P : Addr → Option Obj} {h : Heap} {a : Addr} {m : Str → Option Value} (x : NsIn P a m) (hs : ∀ b o, P b = some o → h.get? b = some o) : h.Ns a m := by
  obtain ⟨es, ep, h1, h2, h3⟩ := x
  exact ⟨_, es, ep, hs _ _ h1, rfl, h2, h3⟩
theorem rep_handed {W : Wd} {v : Value} {d : D} (r : Rep W v d) : handedIn v = true := by cases r <;> rfl

/-! attributes of records and rules -/
noncomputable def attrD (x : Str) : D → Option D
  | .ent _ ag ru de => if x = "useragents" then some (.list ag) else if x = "rulelines" then some (.list ru) else if x = "delay" then some de else if x = "req_rate" then some .none else none
  | .rule _ b => if x = "allowance" then some (.bool b) else none
  | _ => none
theorem str_ne {a b : String} (h : (Str.ofString a == Str.ofString b) = false) : Str.ofString a ≠ Str.ofString b := fun e => by rw [e] at h; simp at h
theorem entMap_ag (va vr vd : Value) : entMap va vr vd "useragents" = some va := by unfold entMap; rw [if_pos rfl]
theorem entMap_ru (va vr vd : Value) : entMap va vr vd "rulelines" = some vr := by
  unfold entMap; rw [if_neg (by decide +kernel), if_pos rfl]
theorem entMap_de (va vr vd : Value) : entMap va vr vd "delay" = some vd := by
  unfold entMap; rw [if_neg (by decide +kernel), if_neg (by decide +kernel), if_pos rfl]
theorem entMap_rate (va vr vd : Value) : entMap va vr vd "req_rate" = some .none := by
  unfold entMap; rw [if_neg (by decide +kernel), if_neg (by decide +kernel), if_neg (by decide +kernel), if_pos rfl]
theorem attr_ok {A : Around} {W : Wd} {s : Shared} {v : Value} {a d : D} {x : Str} {ex : Bool} {Q : Value → Shared → Prop} {E : Value → Shared → Prop} (gn : Gnd prog w G mg mb) (hi : Inv G W s) (r : Rep W v a) (h : attrD x a = some d)
    (hQ : ∀ v' s', Ext G W s W s' → Rep W v' d → Q v' s') : wpAny (model prog w) A (getAttr v x ex) Q E s := by
  unfold attrD at h
  split at h
  · cases r with | ent h1 h2 h3 h4 h5 =>
    split at h
    · rename_i e; cases h; subst e
      exact ent_attr gn hi.sub0 hi.sub h2 (entMap_ag ..) (by kernel_rfl) (rep_handed h3) (hQ _ _ (.toks hi _) h3)
    · split at h
      · rename_i e; cases h; subst e
        exact ent_attr gn hi.sub0 hi.sub h2 (entMap_ru ..) (by kernel_rfl) (rep_handed h4) (hQ _ _ (.toks hi _) h4)
      · split at h
        · rename_i e; cases h; subst e
          exact ent_attr gn hi.sub0 hi.sub h2 (entMap_de ..) (by kernel_rfl) (rep_handed h5) (hQ _ _ (.toks hi _) h5)
        · split at h
          · rename_i e; cases h; subst e
            exact ent_attr gn hi.sub0 hi.sub h2 (entMap_rate ..) (by kernel_rfl) rfl (hQ _ _ (.toks hi _) .none)
          · cases h
  · cases r with | rule h1 h2 =>
    split at h
    · rename_i e; cases h; subst e
      obtain ⟨d, g, c, t, cd1, cd2, ct1, ct2, e1, e2, e3, e4, e5, e6⟩ := h1
      refine fn_attr (hi.sub _ _ e1) rfl rfl rfl (e3.ns hi.sub) (v := .bool _) ?_ (by rw [typeLookup_type, builtinLookup_eq_fast]; kernel_rfl) rfl (hQ _ _ (.toks hi _) (.bool _))
      unfold ruleMap
      rw [if_neg (by decide +kernel), if_pos rfl]
    · cases h
  · cases h
theorem se_attr {e : Expr} {x : Str} {pos : Pos} {f : Ex} (gn : Gnd prog w G mg mb) (h : SE prog w G n sc e f)
    (he : ∀ env, eval (.Attribute e x pos) env = (do let o ← eval e env; standAt pos.atName; let r ← holding [o] (getAttr o x true); letTemporaryGo e o r; pure r)) :
    SE prog w G n sc (.Attribute e x pos) (oneE (attrD x) f) := fun A env ρ W ow s Q E hR hs he' hi d k' hf hQ => by
  obtain ⟨a, h1, h2⟩ := oneE_some hf
  refine Attribute_any_ (h A env ρ W ow s _ E hR hs he' hi a _ h1 fun v W1 s1 x1 e1 r1 => ?_) (he env)
  exact attr_ok gn x1.inv r1 h2 fun v' s' x2 r2 => hQ v' W1 s' (x1.trans x2) e1 r2
end
end Mine
end

section
open PySem PySem.W PySem.Calls PyProof.Rows PySem.SeqAt
set_option Elab.async false
set_option maxRecDepth 100000
set_option linter.unusedVariables false
namespace Mine
section
variable {prog : Program} {w : World} {G : Heap} {mg mb : Str → Option Value} {n : Nat} {sc : Scope}

structure LamEnv (env : Env) (c : Addr) (f : Str) (t : Tok) (binds : List (Str × Value)) (s : Shared) : Prop where
  kind : env.scope.kind = .function
  glob : env.globals = mainGlobals
  blt : env.builtins = builtinsNs
  ns : s.heap.Ns env.locals (fun x => binds.reverse.lookup x)
  fk : env.kindOf "front" = some .free
  fc : env.cells.lookup (Str.ofString "front") = some c
  cell : s.heap.IsCell c (some (.str f t))
theorem LamEnv.ext {env : Env} {c : Addr} {f : Str} {t : Tok} {binds : List (Str × Value)} {s s' : Shared} {W W' : Wd} (x : LamEnv env c f t binds s) (hi : Inv G W s) (e : Ext G W s W' s') : LamEnv env c f t binds s' := by
  obtain ⟨ps, hT, _⟩ := hi.tab
  refine ⟨x.kind, x.glob, x.blt, ?_, x.fk, x.fc, ?_⟩
  · obtain ⟨o, es, ep, h1, h2, h3⟩ := x.ns
    exact ⟨o, es, ep, e.keep _ _ (not_tab_of_ne h1 hT fun vs q => by rw [h2] at q; cases q) h1, h2, h3⟩
  · obtain ⟨o, h1, h2⟩ := x.cell
    exact ⟨o, e.keep _ _ (not_tab_of_ne h1 hT fun vs q => by rw [h2] at q; cases q) h1, h2⟩

theorem lam_call {i : Nat} {a c : Addr} {o : Obj} {cd ct : Value} {f : Str} {t : Tok} {vs : List Value} {binds : List (Str × Value)} {A : Around} {W : Wd} {s : Shared} {Q : Value → Shared → Prop} {E : Value → Shared → Prop}
    (gn : Gnd prog w G mg mb) (hR : Room A (n + 1)) (hi : Inv G W s) (ho : s.heap.get? a = some o) (hd : o.data = .func (lamFd i c cd ct)) (hc : CodeIn W.P cd lamQ) (hcell : s.heap.IsCell c (some (.str f t)))
    (hbind : bindArgs (lamFd i c cd ct) ⟨vs, []⟩ = pure binds) (hl : ∀ x ∈ binds, (lam i).2.2.1.names.lookup x.1 = some .local) (hnc : ∀ x ∈ (lam i).2.2.1.names, x.2 ≠ .cell)
    (hco : (lam i).2.2.1.isCoroutine = false) (hgen : (lam i).2.2.1.isGenerator = false) (hk : (lam i).2.2.1.kind = .function) (hfr : (lam i).2.2.1.names.lookup (Str.ofString "front") = some NameKind.free)
    (h : ∀ env s1, Ext G W s W s1 → Room (A.deeper env) n → env.scope = (lam i).2.2.1 → LamEnv env c f t binds s1 → ∀ E', wpAny (model prog w) (A.deeper env) (eval (lam i).2.1 env) Q E' s1) : wpAny (model prog w) A (call (.ref a) vs) Q E s := by
  have hrec : s.heap.CodeRec (lamFd i c cd ct).code (lamFd i c cd ct).qualname := by
    obtain ⟨c', oc, vs', t', h1, h2, h3, h4⟩ := hc
    exact ⟨c', oc, vs', t', h1, hi.sub _ _ h2, h3, h4⟩
  refine wpAny_call (kla_callFunE (body := (lam i).2.1) hR.depth ho hd hco hgen rfl hrec ?_)
  rw [hbind]
  refine wpAny_pure (wpAny_newFunctionEnv hnc hl (fun h₁ hns hsb => ⟨?_, ?_⟩) hk)
  · exact (gn.nolimit.keeps hi.sub0).fresh _ hsb
  · have hk₁ : ∀ b o, s.heap.get? b = some o → h₁.get? b = some o := fun b o e => hsb.extBut b o (Nat.ne_of_lt (Heap.lt_size e)) (Heap.get?_push_of_some _ e)
    have x1 : Ext G W s W { s with heap := h₁, toks := s.toks + binds.length } := Ext.keeps hi hk₁
    refine kla_codeExpr (h _ _ x1 ?_ ?_ ⟨?_, ?_, ?_, ?_, ?_, ?_, ?_⟩ _)
    · exact hR.deeper _ hgen hco rfl rfl
    · rfl
    · exact hk
    · rfl
    · rfl
    · exact hns
    · exact hfr
    · show [(Str.ofString "front", c)].lookup (Str.ofString "front") = some c
      rw [List.lookup_cons]
      have : (("front" : Str) == Str.ofString "front") = true := by simp
      rw [this]
    · obtain ⟨oc, h1, h2⟩ := hcell
      exact ⟨oc, hk₁ _ _ h1, h2⟩
theorem lam_front {env : Env} {c : Addr} {f : Str} {t : Tok} {binds : List (Str × Value)} {s : Shared} {A : Around} {p : Pos} {Q : Value → Shared → Prop} {E : Value → Shared → Prop} (x : LamEnv env c f t binds s) (h : Q (.str f t) s) : wpAny (model prog w) A (eval (.Name "front" p) env) Q E s :=
  wpAny_Name (wpAny_loadName_free x.kind x.fk x.fc x.cell h (by decide +kernel)) (by decide +kernel)

noncomputable def frontD : D → Option D
  | .rule f _ => some (.str f)
  | _ => none
theorem se_callRule {x : Str} {p pos : Pos} (gn : Gnd prog w G mg mb) (h : nameOk sc x = true) : SE prog w G (n + 1) sc (.Call (.Name x p) [] [] pos) (oneE frontD (varE x)) := fun A env ρ W ow s Q E hR hs he hi d k' hf hQ => by
  obtain ⟨a, h1, h2⟩ := oneE_some hf
  unfold frontD at h2
  split at h2
  · cases h2
    rename_i f b
    obtain ⟨hx, rfl, _⟩ := varE_some h1
    have hn := h
    simp only [nameOk, Bool.and_eq_true, Bool.not_eq_true'] at hn
    obtain ⟨m, hns, hm⟩ := he.ns
    have key : ∀ (a : Addr), Rep W (.ref a) (.rule f b) → wpAny (model prog w) A (call (.ref a) []) Q E s := fun a r => by
      cases r with | rule h1 h2 =>
      obtain ⟨d, g, c, t, cd1, cd2, ct1, ct2, e1, e2, e3, e4, e5, e6⟩ := h1
      refine lam_call (i := 0) (binds := []) gn hR hi (hi.sub _ _ e1) rfl e5 (let ⟨oc, q1, q2⟩ := e4; ⟨oc, hi.sub _ _ q1, q2⟩) (by kernel_rfl) (fun x hx => nomatch hx) (by decide +kernel) (by decide +kernel) (by decide +kernel) (by decide +kernel) (by decide +kernel) fun env1 s1 x1 hR1 hsc1 he1 E' => ?_
      have : (lam 0).2.1 = .Name "front" ⟨119, 19, 119, 24⟩ := by kernel_rfl
      rw [this]
      exact lam_front he1 (hQ _ _ _ x1 rfl (.str t h2))
    refine wpAny_Call_NameR (wpAny_Name (ld he (hs ▸ hn.1.1) hx hn.1.2 fun v hr => ?_) hn.2)
    have hr' : Rep W v (.rule f b) := hr
    cases hr' with | rule q1 q2 =>
    obtain ⟨d, g, c, t, cd1, cd2, ct1, ct2, e1, e2, e3, e4, e5, e6⟩ := id q1
    refine callWith_function (o := { cls := Value.type "function", dict := some d, data := Data.func (lamFd 0 c cd1 ct1) }) (fd := lamFd 0 c cd1 ct1) ?_
    exact PyProof.Rows.evalArgs_none ⟨⟨hi.sub _ _ e1, rfl⟩, key _ (.rule q1 q2)⟩
  · cases h2

/-! the other one -/
theorem lam_len {env : Env} {c : Addr} {f : Str} {t : Tok} {binds : List (Str × Value)} {W : Wd} {s : Shared} {A : Around} {p1 p2 p3 : Pos} {Q : Value → Shared → Prop} {E : Value → Shared → Prop} (gn : Gnd prog w G mg mb) (hi : Inv G W s) (x : LamEnv env c f t binds s) (hf : AscOk f)
    (hk : env.kindOf "len" = some .globalImplicit) (h : ∀ t' tk, Q (.int f.length t') { s with toks := tk }) : wpAny (model prog w) A (eval (.Call (.Name "len" p1) [.Name "front" p2] [] p3) env) Q E s := by
  have hns : s.heap.Ns env.globals mg := by rw [x.glob]; exact gn.g.keeps hi.sub0
  have hbs : s.heap.Ns env.builtins mb := by rw [x.blt]; exact gn.b.keeps hi.sub0
  refine wpAny_Call_NameR (Name_function_global x.kind hk (loadGlobal_builtin hns (nsIn_val gn.X gn.g (r := none) (by kernel_rfl)) hbs ((gn.builtins "len" (by decide +kernel)).trans (by decide +kernel : bootBuiltins "len" = some (.builtin "len"))) ?_) (by decide +kernel))
  refine callWith_builtin (by rfl) ?_
  have e0 : starEach [.Name "front" p2] env = [(false, eval (.Name "front" p2) env)] := rfl
  have hL : wpAny (model prog w) A (spliced (backTo p3 (starEach [.Name "front" p2] env))) (fun vs s' => wpAny (model prog w) A (call (.builtin "len") ([] ++ (⟨vs, []⟩ : Args).pos) (⟨vs, []⟩ : Args).kw) Q E s') E s :=
    wpAny_items_cons (lam_front x (wpAny_items_nil (PyProof.Rows.len_str (by have := big_63 hf.1; omega) (h _ _)))) rfl
  rw [e0] at hL ⊢
  exact evalArgs_plain hL
noncomputable def appVal (f row : Str) : Int := if strTake row f.length = f then (f.length : Int) + 1 else 0
theorem str_beq {x y : Str} : (x == y) = decide (x = y) := by
  by_cases h : x = y
  · subst h; simp
  · rw [decide_eq_false h]; simpa using h
theorem lam_row {env : Env} {c : Addr} {f row : Str} {t u : Tok} {W : Wd} {s : Shared} {A : Around} {Q : Value → Shared → Prop} {E : Value → Shared → Prop} (gn : Gnd prog w G mg mb) (hi : Inv G W s) (hR : Room A n) (hsc : env.scope = (lam 1).2.2.1) (x : LamEnv env c f t [("row", .str row u)] s) (hf : AscOk f) (hr : AscOk row)
    (h : ∀ t' s', Ext G W s W s' → Q (.int (appVal f row) t') s') : wpAny (model prog w) A (eval (lam 1).2.1 env) Q E s := by
  have hl : env.kindOf "len" = some .globalImplicit := by show env.scope.names.lookup _ = _; rw [hsc]; kernel_rfl
  have hrow : env.kindOf "row" = some .local := by show env.scope.names.lookup _ = _; rw [hsc]; kernel_rfl
  have hb : (lam 1).2.1 = .IfExp (.Compare (.Subscript (.Name "row" ⟨120, 52, 120, 55⟩) (.Slice none (some (.Call (.Name "len" ⟨120, 57, 120, 60⟩) [.Name "front" ⟨120, 61, 120, 66⟩] [] ⟨120, 57, 120, 67⟩)) none ⟨120, 56, 120, 67⟩) ⟨120, 52, 120, 68⟩) [.Eq] [.Name "front" ⟨120, 72, 120, 77⟩] ⟨120, 52, 120, 77⟩)
      (.BinOp (.Call (.Name "len" ⟨120, 34, 120, 37⟩) [.Name "front" ⟨120, 38, 120, 43⟩] [] ⟨120, 34, 120, 44⟩) .Add (.Constant (.int 1) 0 ⟨120, 47, 120, 48⟩) ⟨120, 34, 120, 48⟩) (.Constant (.int 0) 0 ⟨120, 83, 120, 84⟩) ⟨120, 34, 120, 84⟩ := by kernel_rfl
  rw [hb]
  refine wpAny_IfExp (wpAny_isTrue_Compare1 (Subscript_ (wpAny_Name (wpAny_loadName_local x.kind hrow x.ns (v := .str row u) (by simp) ?_) (by decide +kernel))) (by rfl))
  refine wpAny_Slice ?_
  rw [evalPart_none, evalPart_some]
  refine wpAny_pure (lam_len gn hi x hf hl fun t1 tk1 => ?_)
  refine wpAny_pure ?_
  have x1 := Ext.toks hi tk1
  have x2 := x1.trans (Ext.push x1.inv (sliceO .none (.int f.length t1) .none) tk1)
  refine tail_any (typeIs_str _ _ _) F.slot_str_getitem.lookup (wpAny_getItem_str_slice (l := none) (u := some ((f.length : Int), t1)) (st := none) ⟨_, Heap.get?_push_size _ rfl, rfl, rfl⟩ rfl ?_) rfl
  refine made_take hr fun t2 tk2 => ?_
  have x3 := x2.trans (Ext.toks x2.inv tk2)
  have y3 := x.ext hi x3
  refine lam_front y3 ?_
  refine compareEq_reads (.str _ _) (.str _ _) (by rw [PyData.canLay0]; exact strOk_of (ascOk_take hr _)) (by rw [PyData.canLay0]; exact strOk_of hf) (by have := hR.units; simp only [PyData.depth]; omega) ?_
  refine wpAny_truthy_bool ?_
  have hq : PyData.eqv (.str (strTake row f.length)) (.str f) = decide (strTake row f.length = f) := by rw [← str_beq]; rfl
  rw [hq]
  by_cases hc : strTake row f.length = f
  · rw [decide_eq_true hc]
    refine wpAny_BinOp (lam_len gn x3.inv y3 hf hl fun t4 tk4 => ?_)
    refine wpAny_Constant_int ?_
    refine wpAny_add_int ?_
    have := h
    unfold appVal at this
    rw [if_pos hc] at this
    exact this _ _ (x3.trans (Ext.toks x3.inv _))
  · rw [decide_eq_false hc]
    refine wpAny_Constant_int ?_
    have := h
    unfold appVal at this
    rw [if_neg hc] at this
    exact this _ _ (x3.trans (Ext.toks x3.inv _))
noncomputable def appD : D → D → Option D
  | .rule f _, .str row => some (.int (appVal f row))
  | _, _ => none
end
end Mine
end

section
open PySem PySem.W PySem.Calls PyProof.Rows PySem.SeqAt
set_option Elab.async false
set_option maxRecDepth 100000
set_option linter.unusedVariables false
namespace Mine
section
variable {prog : Program} {w : World} {G : Heap} {mg mb : Str → Option Value} {n : Nat} {sc : Scope}

theorem fn_method {A : Around} {s : Shared} {a : Addr} {o : Obj} {x : Str} {pl : Sem Bool} {Q : Value × List Value → Shared → Prop} {E : Value → Shared → Prop} (ho : s.heap.get? a = some o) (hc : o.cls = .type "function") (hg : typeLookup (.type "function") "__getattr__" = pure none) (hx : typeLookup (.type "function") x = pure none)
    (h : wpAny (model prog w) A (getAttr (.ref a) x) (fun v => Q (v, [])) E s) : wpAny (model prog w) A (getMethod (.ref a) x pl) Q E s := by
  have hcan := PySem.F.canon_object_ga
  have u : wpAny (model prog w) A (do return (← getAttr (.ref a) x, ([] : List Value))) Q E s := wpAny_bind (wpAny_mono h (fun _ _ z => wpAny_pure z) fun _ _ z => z)
  have hT : s.TypeIs (.ref a) "function" := ⟨_, ho, hc⟩
  unfold getMethod
  refine wpAny_bind (wpAny_specialOf hT slot_fn_ga.lookup ?_)
  dsimp only
  rw [hcan, if_neg (by decide)]
  refine wpAny_bind (wpAny_specialOf hT hg ?_)
  refine wpAny_bind (wpAny_specialOf hT hx ?_)
  exact u

/-- the arguments of a call with one -/
theorem args1' {A : Around} {env : Env} {ρ : Rho} {W : Wd} {ow : List Addr} {s : Shared} {fv : Value} {e : Expr} {pos : Pos} {f : Ex} {Q : Args → Shared → Prop} {E : Value → Shared → Prop} (h : SE prog w G n sc e f) (hst : ∀ env, starEach [e] env = [(false, eval e env)]) (hR : Room A n) (hs : env.scope = sc) (he : EnvOk env ρ W ow s) (hi : Inv G W s)
    {a : D} {k1 : Nat} (hf : f ρ W.k = some (a, k1)) (hQ : ∀ v W1 s1, Ext G W s W1 s1 → W1.k = k1 → Rep W1 v a → Q ⟨[v], []⟩ s1) : wpAny (model prog w) A (evalArgs fv true (backTo pos (starEach [e] env)) (backToKw pos (keywordEach [] env))) Q E s :=
  args1 h hst hR hs he hi hf hQ

theorem se_applies {e e2 : Expr} {pa pos : Pos} {f g : Ex} (gn : Gnd prog w G mg mb) (h : SE prog w G (n + 1) sc e f) (h2 : SE prog w G (n + 1) sc e2 g) (hst : ∀ env, starEach [e2] env = [(false, eval e2 env)])
    (he : ∀ env, ∃ pl, eval (.Call (.Attribute e "applies_to" pa) [e2] [] pos) env = (do
      let ov ← eval e env
      standAt pa.atName
      let (f, first) ← holding [ov] (getMethod ov "applies_to" pl)
      callWith pos f first (backTo pos (starEach [e2] env)) (backToKw pos (keywordEach [] env)))) :
    SE prog w G (n + 1) sc (.Call (.Attribute e "applies_to" pa) [e2] [] pos) (twoE appD f g) := fun A env ρ W ow s Q E hR hs he' hi d k' hf hQ => by
  obtain ⟨a, k1, b, h1, h3, h4⟩ := twoE_some hf
  obtain ⟨pl, hpl⟩ := he env
  refine methodCall_KW (pl := pl) (h A env ρ W ow s _ E hR hs he' hi a _ h1 fun v W1 s1 x1 e1 r1 => ?_) hpl
  subst e1
  unfold appD at h4
  split at h4
  · cases h4
    rename_i fr bb row
    cases r1 with | rule q1 q2 =>
    obtain ⟨dd, gg, c, t, cd1, cd2, ct1, ct2, e1, e2, e3, e4, e5, e6⟩ := id q1
    refine fn_method (x1.inv.sub _ _ e1) rfl (by rw [typeLookup_type, builtinLookup_eq_fast]; kernel_rfl) (by rw [typeLookup_type, builtinLookup_eq_fast]; kernel_rfl) ?_
    refine fn_attr (x1.inv.sub _ _ e1) rfl rfl rfl (e3.ns x1.inv.sub) (v := .ref gg) (by unfold ruleMap; rw [if_pos rfl]) (by rw [typeLookup_type, builtinLookup_eq_fast]; kernel_rfl) rfl ?_
    have x2 := x1.trans (Ext.toks x1.inv (s1.toks + 1))
    refine callWith_function (o := { cls := Value.type "function", data := Data.func (lamFd 1 c cd2 ct2) }) (fd := lamFd 1 c cd2 ct2) ?_
    refine args1 h2 hst hR hs (he'.ext hi x2) x2.inv h3 fun vb W3 s3 x3 e3' r3 => ?_
    have x13 := x2.trans x3
    refine ⟨⟨x13.inv.sub _ _ (x3.le.sub _ _ e2), rfl⟩, ?_⟩
    obtain ⟨u, rfl, hrow⟩ := rep_str r3
    refine lam_call (i := 1) (binds := [("row", .str row u)]) gn hR x13.inv (x13.inv.sub _ _ (x3.le.sub _ _ e2)) rfl (e6.mono x3.le.sub) (let ⟨oc, q1, q2⟩ := e4; ⟨oc, x13.inv.sub _ _ (x3.le.sub _ _ q1), q2⟩) (by kernel_rfl) (fun x hx => ?_) (by decide +kernel) (by decide +kernel) (by decide +kernel) (by decide +kernel) (by decide +kernel) fun env1 s4 x4 hR4 hsc4 he4 E' => ?_
    · simp only [List.mem_cons, List.not_mem_nil, or_false] at hx
      subst hx
      show (lam 1).2.2.1.names.lookup (Str.ofString "row") = _
      decide +kernel
    · refine lam_row gn x4.inv hR4 hsc4 he4 q2 hrow fun t' s5 x5 => ?_
      exact hQ _ _ _ ((x13.trans x4).trans x5) e3' (.int _ _)
  · cases h4

theorem lookIn_none {es : Array DictEntry} {ep : Nat} {c : Value} {od : Option Addr} {sl : Array (Option Value)} {x : Str} (hk : StrKeys es) (h : nsFind es x = none) : lookIn x ({ cls := c, dict := od, data := .dict es ep, slots := sl } : Obj) = some none := by
  simp only [nsFind, findBy, Option.map_eq_none_iff] at h
  have hl : es.toList.find? (fun e => e.key.isStr x) = none := by rw [← h]; simp
  unfold lookIn
  dsimp only
  rw [hl]
  have : es.toList.any (fun e => e.refKey) = false := by
    rw [List.any_eq_false]
    intro e he q
    obtain ⟨y, t, hy⟩ := hk e (by simpa using he)
    unfold DictEntry.refKey at q
    rw [hy] at q
    cases q
  simp only [this]
  rfl
/-- a method of the records -/
noncomputable def methE (F : Fx) (f g : Ex) : Ex := fun ρ k => match f ρ k with
  | some (.ent i ag ru de, k1) => (match g ρ k1 with
    | none => none
    | some (b, k2) => F [.ent i ag ru de, b] k2)
  | _ => none
theorem se_allowance {e e2 : Expr} {pa pos : Pos} {f g : Ex} {F : Fx} {m : Nat} (gn : Gnd prog w G mg mb) (hC : CallOk prog w G m 49 F) (hm : m ≤ n) (h : SE prog w G n sc e f) (h2 : SE prog w G n sc e2 g) (hst : ∀ env, starEach [e2] env = [(false, eval e2 env)])
    (he : ∀ env, ∃ pl, eval (.Call (.Attribute e "allowance" pa) [e2] [] pos) env = (do
      let ov ← eval e env
      standAt pa.atName
      let (f, first) ← holding [ov] (getMethod ov "allowance" pl)
      callWith pos f first (backTo pos (starEach [e2] env)) (backToKw pos (keywordEach [] env)))) :
    SE prog w G n sc (.Call (.Attribute e "allowance" pa) [e2] [] pos) (methE F f g) := fun A env ρ W ow s Q E hR hs he' hi d k' hf hQ => by
  unfold methE at hf
  split at hf
  · rename_i i ag ru de k1 h1
    split at hf
    · cases hf
    · rename_i b k2 h3
      obtain ⟨pl, hpl⟩ := he env
      refine methodCall_KW (pl := pl) (h A env ρ W ow s _ E hR hs he' hi _ _ h1 fun v W1 s1 x1 e1 r1 => ?_) hpl
      subst e1
      cases r1 with | ent q1 q2 q3 q4 q5 =>
      obtain ⟨es, ep, I, hk, hn⟩ := inst_of x1.inv.sub q2
      have hlk : lookIn "allowance" ({ cls := .type "dict", data := .dict es ep } : Obj) = some none := by
        refine lookIn_none hk ((hn "allowance").trans ?_)
        unfold entMap; rw [if_neg (by decide +kernel), if_neg (by decide +kernel), if_neg (by decide +kernel), if_neg (by decide +kernel)]
      refine method_fn (f := 49) (fun b o q => x1.inv.sub0 b o (gn.X b o q)) I (by kernel_rfl) (by kernel_rfl) (by kernel_rfl) (by kernel_rfl) (by unfold shadowIn; simp only []; rw [hlk]; rfl) ?_
      obtain ⟨o49, fd49, ho49, hd49⟩ := fn_at gn (a := 49) (by kernel_rfl)
      refine callWith_function (o := o49) (fd := fd49) ?_
      refine args1 h2 hst hR hs (he'.ext hi x1) x1.inv h3 fun vb W3 s3 x3 e3' r3 => ?_
      subst e3'
      have x13 := x1.trans x3
      refine ⟨⟨x3.inv.sub0 _ _ ho49, hd49⟩, ?_⟩
      have rE : Rep W1 (.ref (W1.η i)) (.ent i ag ru de) := .ent q1 q2 q3 q4 q5
      exact hC A W3 s3 _ _ Q E d k' (hR.le hm) x3.inv (.cons (rE.mono x3.le) (.cons r3 .nil)) hf fun v W4 s4 x4 e4 r4 => hQ v W4 s4 (x13.trans x4) e4 r4
  · cases hf
end
end Mine
end

section
open PySem PySem.W PySem.Calls PyProof.Rows PySem.SeqAt
set_option Elab.async false
set_option maxRecDepth 100000
set_option linter.unusedVariables false
namespace Mine
section
variable {prog : Program} {w : World} {G : Heap} {mg mb : Str → Option Value} {n : Nat} {sc : Scope}

/-! a list of one's own: made, grown, joined -/
noncomputable def ownS (x : Str) : Sx := fun ρ k => some (.next, upd ρ x (.own []), k)
theorem ss_own {x : Str} {px p pos : Pos} (hb : bindOk sc x = true) (hs' : ∀ env : Env, swapsWith (.List [] p) (some (.Name x px)) pos.line env = pure false) : SS prog w G n sc (.Assign [.Name x px] (.List [] p) pos) (ownS x) := fun A env ρ W ow s Q E hR hs he hi fl ρ' k' hf hQ => by
  cases hf
  refine wpAny_Assign_Name (wpAny_List (wpAny_items_nil ⟨Nat.zero_le _, ?_⟩)) (hs' env)
  have hD0 := Heap.new_none s.heap
  have x1 := Ext.push hi (listO [] 0) s.toks
  have he1 := he.ext hi x1
  have hget : (s.heap.push (listO [] 0)).get? s.heap.objs.size = some (listO [] 0) := Heap.get?_push_size _ rfl
  have he2 : EnvOk env ρ W (s.heap.objs.size :: ow) { s with heap := s.heap.push (listO [] 0), toks := s.toks } := by
    have rv : ∀ v d, RepV W ow { s with heap := s.heap.push (listO [] 0), toks := s.toks } v d → RepV W (s.heap.objs.size :: ow) { s with heap := s.heap.push (listO [] 0), toks := s.toks } v d := fun v d r => by
      cases d with
      | own xs => obtain ⟨a, vs, m, h1, h2, h3⟩ := r; exact ⟨a, vs, m, h1, List.mem_cons_of_mem _ h2, h3⟩
      | _ => exact r
    obtain ⟨m, hn, hm⟩ := he1.ns
    refine ⟨he1.kind, he1.glob, he1.blt, ⟨m, hn, fun y d h1 h2 => let ⟨v, h3, h4⟩ := hm y d h1 h2; ⟨v, h3, rv v d h4⟩⟩, fun y hy => ?_, he1.apart, he1.cellP, he1.locP, fun a ha => ?_⟩
    · obtain ⟨c, vo, h1, h2, h3⟩ := he1.cell y hy
      exact ⟨c, vo, h1, h2, fun d hd => let ⟨v, h4, h5⟩ := h3 d hd; ⟨v, h4, rv v d h5⟩⟩
    · rcases List.mem_cons.mp ha with rfl | ha
      · exact ⟨hi.none_of hD0, [], 0, hget⟩
      · exact he1.owP a ha
  refine st_ok (G := G) he2 x1.inv (by rw [hs]; exact hb) (v := .ref s.heap.objs.size) (d := .own []) ⟨_, [], 0, rfl, List.mem_cons_self, hget, Nat.zero_le _, .nil⟩ fun h2 tk2 hk2 hl2 he3 hi3 => ?_
  refine hQ .next W (s.heap.objs.size :: ow) _ ⟨⟨h2, tk2, rfl⟩, fun b o hb _ e => hk2 b o (fun q => hb (pl_own q)) (Heap.get?_push_of_some _ e), fun b q => x1.dead (hl2 b q), fun a ha => ?_, .refl .., rfl, hi3, he3⟩ trivial
  rcases List.mem_cons.mp ha with rfl | ha
  · exact .inr hD0
  · exact .inl ha

noncomputable def dropOwn (ρ : Rho) : Rho := fun y => match ρ y with | some (.own _) => none | z => z
noncomputable def appS (x : Str) (f : Ex) : Sx := fun ρ k => match ρ x with
  | some (.own xs) => (match f (dropOwn ρ) k with
    | none => none
    | some (d, k') => if xs.length + 1 ≤ 1000 then some (.next, upd (dropOwn ρ) x (.own (xs ++ [d])), k') else none)
  | _ => none
theorem dropOwn_le (ρ : Rho) : ∀ y d, dropOwn ρ y = some d → ρ y = some d ∧ ∀ xs, d ≠ .own xs := by
  intro y d h
  unfold dropOwn at h
  split at h
  · cases h
  · rename_i z hz
    refine ⟨h, fun xs e => ?_⟩
    rw [h, e] at hz
    exact hz xs rfl
theorem isVar_place {env : Env} {ρ : Rho} {W : Wd} {ow : List Addr} {s : Shared} {x : Str} {d : D} (he : EnvOk env ρ W ow s) (hv : env.kindOf x = some .local) (hx : ρ x = some d) : ∃ m v, s.heap.Ns env.locals m ∧ m x = some v ∧ RepV W ow s v d := by
  obtain ⟨m, hn, hm⟩ := he.ns
  obtain ⟨v, h1, h2⟩ := hm x d hx hv
  exact ⟨m, v, hn, h1, h2⟩
theorem ss_append {x : Str} {e : Expr} {px pa pc pos : Pos} {f : Ex} (gn : Gnd prog w G mg mb) (hk : (sc.names.lookup x == some .local) = true) (hk2 : (x == ("__debug__" : Str)) = false) (h : SE prog w G n sc e f) (hst : ∀ env, starEach [e] env = [(false, eval e env)]) (htr : ∀ env, backTo pc (starEach [e] env) = [(false, eval e env)])
    (hline : (pa.endLine == pc.line) = true) (hsw : ∀ env : Env, swapsWith (.Call (.Attribute (.Name x px) "append" pa) [e] [] pc) none pos.line env = pure false) (hmod : (sc.kind == .module) = false) :
    SS prog w G n sc (.Expr (.Call (.Attribute (.Name x px) "append" pa) [e] [] pc) pos) (appS x f) := fun A env ρ W ow s Q E hR hs he hi fl ρ' k' hf hQ => by
  have hloc : env.kindOf x = some .local := by subst hs; exact eq_of_beq hk
  unfold appS at hf
  split at hf
  · rename_i xs hx
    split at hf
    · cases hf
    · rename_i d k1 h1
      split at hf
      · rename_i hlen
        cases hf
        refine wpAny_Expr (wpAny_Call_append rfl (by rw [htr]; rfl) hline (htr env) ?_) (by unfold interactive; rw [hs, hmod]; rfl) (hsw env)
        obtain ⟨m, v, hn, hmx, hrv⟩ := isVar_place he hloc hx
        obtain ⟨a, vs, m0, rfl, ha, hl, hb, hr⟩ := hrv
        refine wpAny_Name (wpAny_loadName_local he.kind hloc hn hmx ?_) hk2
        refine ⟨a, vs.toArray, rfl, ⟨_, m0, hl, rfl, rfl, rfl⟩, ?_⟩
        have he0 : EnvOk env (dropOwn ρ) W ow s := he.drop fun y d h => (dropOwn_le ρ y d h).1
        refine h A env (dropOwn ρ) W ow s _ E hR hs he0 hi d _ h1 fun vd W1 s1 x1 e1 r1 => ?_
        have he1 := he0.ext hi x1
        have haT : a ≠ TB := own_ne_TB he hi (.inr (.inr ha))
        have hl1 := x1.keep _ _ haT hl
        have hr1 := hr.mono x1.le
        obtain ⟨haP1, _⟩ := he1.owP a ha
        have hvl : vs.length ≤ 1000 := by have := hr.length; omega
        refine wpAny_list_append_plain (items := vs.toArray) (hsz := by rw [List.size_toArray]; exact Nat.le_trans hvl (by decide)) ⟨m0, hl1⟩ fun h2 hl2 hs2 => ?_
        obtain ⟨m2, hD2⟩ := hl2
        have hD2' : h2.get? a = some (listO (vs ++ [vd]) m2) := by simpa [listO] using hD2
        have hb2 : ∀ b o, b ∉ [a] → s1.heap.get? b = some o → h2.get? b = some o := fun b o hb e => hs2.extBut b o (by simpa using hb) e
        have hi2 : Inv G W1 { s1 with heap := h2 } := Inv.change (s := s1) (tk := s1.toks) [a] x1.inv hb2 (by simpa using haP1) (by simpa using haT.symm)
        have hk2 : ∀ b o, b ≠ a → s1.heap.get? b = some o → h2.get? b = some o := fun b o hb e => hs2.extBut b o hb e
        have hLa : env.locals ≠ a := (ow_ne he1 (.inl rfl) ha).symm
        have rv : ∀ v d, (∀ xs, d ≠ .own xs) → RepV W1 ow s1 v d → RepV W1 ow { s1 with heap := h2 } v d := fun v d hne r => by
          cases d with
          | own xs => exact absurd rfl (hne xs)
          | _ => exact r
        obtain ⟨m1, hn1, hm1⟩ := he1.ns
        have hn2 : h2.Ns env.locals m1 := by
          obtain ⟨o, es, ep, q1, q2⟩ := hn1
          exact ⟨o, es, ep, hk2 _ _ hLa q1, q2⟩
        -- the name still holds the list
        have hmx1 : ∃ m1, s1.heap.Ns env.locals m1 ∧ m1 x = some (.ref a) ∧ ∀ y d, dropOwn ρ y = some d → env.kindOf y = some .local → ∃ v, m1 y = some v ∧ RepV W1 ow s1 v d := by
          obtain ⟨o, es, ep, q1, q2, q3, q4⟩ := hn
          have q5 := x1.keep _ _ (not_tab_of_ne q1 hi.tab.choose_spec.1 fun vs z => by rw [q2] at z; cases z) q1
          obtain ⟨o', es', ep', p1, p2, p3, p4⟩ := hn1
          rw [q5] at p1; cases p1
          rw [q2] at p2; cases p2
          refine ⟨m1, ⟨o, es, ep, q5, q2, p3, p4⟩, ?_, hm1⟩
          rw [← p4, q4, hmx]
        obtain ⟨m1', hn1', hmx1, hm1'⟩ := hmx1
        have hn2' : h2.Ns env.locals m1' := by
          obtain ⟨o, es, ep, q1, q2⟩ := hn1'
          exact ⟨o, es, ep, hk2 _ _ hLa q1, q2⟩
        have he2 : EnvOk env (upd (dropOwn ρ) x (.own (xs ++ [d]))) W1 ow { s1 with heap := h2 } := by
          refine ⟨he1.kind, he1.glob, he1.blt, ⟨m1', hn2', fun y d' q1 q2 => ?_⟩, fun y hy => ?_, he1.apart, fun y c hc => ?_, he1.locP, fun b hb => ?_⟩
          · by_cases q : y = x
            · subst q
              have : d' = .own (xs ++ [d]) := by simpa [upd] using q1.symm
              subst this
              exact ⟨_, hmx1, a, vs ++ [vd], m2, rfl, ha, hD2', by rw [List.length_append]; exact Nat.le_trans (show vs.length + 1 ≤ 1001 by omega) (by decide), hr1.append (.cons r1 .nil)⟩
            · have q1' : dropOwn ρ y = some d' := by simpa [upd, q] using q1
              obtain ⟨v, q3, q4⟩ := hm1' y d' q1' q2
              exact ⟨v, q3, rv v d' (dropOwn_le ρ y d' q1').2 q4⟩
          · obtain ⟨c, vo, q1, ⟨oc, q2, q2'⟩, q3⟩ := he1.cell y hy
            have hca : c ≠ a := fun z => ow_ne he1 (.inr (.inl ⟨y, q1⟩)) ha z.symm
            refine ⟨c, vo, q1, ⟨oc, hk2 _ _ hca q2, q2'⟩, fun d' hd' => ?_⟩
            have hyx : y ≠ x := by
              rintro rfl
              rcases hy with hy | hy <;> (rw [hloc] at hy; cases hy)
            have hd2 : dropOwn ρ y = some d' := by simpa [upd, hyx] using hd'
            obtain ⟨v, q4, q5⟩ := q3 d' hd2
            exact ⟨v, q4, rv v d' (dropOwn_le ρ y d' hd2).2 q5⟩
          · obtain ⟨q1, vo, oc, q2, q3⟩ := he1.cellP y c hc
            have hca : c ≠ a := fun z => ow_ne he1 (.inr (.inl ⟨y, hc⟩)) ha z.symm
            exact ⟨q1, vo, oc, hk2 _ _ hca q2, q3⟩
          · by_cases q : b = a
            · subst q; exact ⟨haP1, _, _, hD2'⟩
            · obtain ⟨q1, us, m3, q2⟩ := he1.owP b hb
              exact ⟨q1, us, m3, hk2 _ _ q q2⟩
        obtain ⟨h1', tk1, hs1⟩ := x1.same
        refine hQ .next W1 ow { s1 with heap := h2 } ⟨⟨h2, tk1, by rw [hs1]⟩, fun b o hb ht e => hk2 b o (fun q => hb (.inr (.inr (q ▸ ha)))) (x1.keep b o ht e), fun b q => ?_, fun _ h => .inl h, x1.le, e1, hi2, he2⟩ trivial
        refine x1.dead ?_
        by_cases z : b = a
        · have q' : h2.get? b = none := q
          rw [z, hD2'] at q'; cases q'
        · have q' : h2.get? b = none := q
          rw [hs2.2 b z] at q'; exact q'
      · cases hf
  · cases hf

/-! ''.join(x) -/
noncomputable def catS : List Str → Str
  | [] => ⟨#[]⟩
  | x :: r => x ++ catS r
noncomputable def strsD : List D → Option (List Str)
  | [] => some []
  | .str x :: r => match strsD r with
    | none => none
    | some xs => some (x :: xs)
  | _ :: _ => none
theorem empty_append (x : Str) : (⟨#[]⟩ : Str) ++ x = x := Str.append_left_empty rfl
theorem append_empty (x : Str) : x ++ (⟨#[]⟩ : Str) = x := Str.append_right_empty rfl
theorem join_cat : ∀ l : List Str, Str.join ⟨#[]⟩ l = catS l
  | [] => rfl
  | [x] => by show x = x ++ ⟨#[]⟩; rw [append_empty]
  | x :: y :: r => by
    show x ++ ⟨#[]⟩ ++ Str.join ⟨#[]⟩ (y :: r) = x ++ catS (y :: r)
    rw [join_cat (y :: r), append_empty]
theorem txt_cat (l : List Str) : Txt.join ⟨#[]⟩ l = catS l := by
  rw [← join_cat]
  exact eq_of_beq (join_plain_closes _ _)
theorem catS_len : ∀ l : List Str, (catS l).length = (l.map (·.length)).sum
  | [] => rfl
  | x :: r => by
    show (x ++ catS r).length = _
    rw [strLen_append, catS_len r]; simp
theorem catS_asc : ∀ l : List Str, (∀ x ∈ l, ∀ c ∈ x.cps.toList, c < 128) → ∀ c ∈ (catS l).cps.toList, c < 128
  | [], _, c, hc => by simp [catS] at hc
  | x :: r, h, c, hc => by
    have : (catS (x :: r)).cps = x.cps ++ (catS r).cps := rfl
    rw [this, Array.toList_append, List.mem_append] at hc
    exact hc.elim (h x List.mem_cons_self c) (catS_asc r (fun y hy => h y (List.mem_cons_of_mem _ hy)) c)
theorem strsD_rep {W : Wd} : ∀ {ds : List D} {xs : List Str} {vs : List Value}, strsD ds = some xs → RepL W vs ds → (∃ l : List (Str × Tok), vs = strValues l ∧ l.map (·.1) = xs) ∧ ∀ x ∈ xs, AscOk x := by
  intro ds
  induction ds with
  | nil => intro xs vs h r; cases h; cases r; exact ⟨⟨[], rfl, rfl⟩, fun x hx => nomatch hx⟩
  | cons d ds ih =>
    intro xs vs h r
    cases d with
    | str x =>
      unfold strsD at h
      split at h
      · cases h
      · rename_i ys h1
        cases h
        obtain ⟨_, _, rfl, r1, r2⟩ := repL_cons r
        obtain ⟨⟨l, rfl, rfl⟩, h3⟩ := ih h1 r2
        obtain ⟨t, rfl, ha⟩ := rep_str r1
        refine ⟨⟨(x, t) :: l, rfl, rfl⟩, fun y hy => ?_⟩
        rcases List.mem_cons.mp hy with rfl | hy
        · exact ha
        · exact h3 y hy
    | _ => cases h
noncomputable def joinS (x : Str) : Sx := fun ρ k => match ρ x with
  | some (.own xs) => (match strsD xs with
    | some ys => if (ys.map (·.length)).sum + ys.length ≤ big then some (.ret (.str (catS ys)), ρ, k) else none
    | none => none)
  | _ => none
theorem ss_join {x : Str} {px pa pk pc pos : Pos} {kk : Nat} (gn : Gnd prog w G mg mb) (hk : (sc.names.lookup x == some .local) = true) (hk2 : (x == ("__debug__" : Str)) = false)
    (hst : ∀ env, starEach [.Name x px] env = [(false, eval (.Name x px) env)]) (hline : (pa.endLine == pc.line) = true) :
    SS prog w G n sc (.Return (some (.Call (.Attribute (.Constant (.str "") kk pk) "join" pa) [.Name x px] [] pc)) pos) (joinS x) := fun A env ρ W ow s Q E hR hs he hi fl ρ' k' hf hQ => by
  have hloc : env.kindOf x = some .local := by subst hs; exact eq_of_beq hk
  unfold joinS at hf
  split at hf
  · rename_i xs hx
    split at hf
    · rename_i ys h1
      split at hf
      · rename_i hlen
        cases hf
        refine wpAny_Return_some (Call_method1 rfl (hst env) hline (wpAny_Constant_str ?_))
        have x1 := Ext.toks hi (s.toks + 1)
        have he1 := he.ext hi x1
        obtain ⟨m, v, hn, hmx, hrv⟩ := isVar_place he1 hloc hx
        obtain ⟨a, vs, m0, rfl, ha, hl, hb, hr⟩ := hrv
        obtain ⟨⟨l, rfl, rfl⟩, hasc⟩ := strsD_rep h1 hr
        refine SB.join (wpAny_Name (wpAny_loadName_local he1.kind hloc hn hmx ?_) hk2)
        have hfit := joinFits_of_weight (sep := ⟨#[]⟩) hlen (by decide)
        refine ⟨a, l, rfl, ⟨_, hl, rfl, m0, rfl⟩, _, rfl, ?_, fun t' tk => ?_⟩
        · unfold JoinOk
          have : (Str.ofString "") = ⟨#[]⟩ := by decide +kernel
          rw [this, hfit]; rfl
        · have e0 : (Str.ofString "") = ⟨#[]⟩ := by decide +kernel
          rw [e0, txt_cat]
          have x2 := x1.trans (Ext.toks x1.inv tk)
          refine hQ (.ret _) W ow _ (.ext he hi x2) (.str _ ⟨?_, ?_⟩)
          · rw [catS_len]; omega
          · exact catS_asc _ fun y hy => (hasc y hy).2
      · cases hf
    · cases hf
  · cases hf
end
end Mine
end

section
open PySem PySem.W PySem.Calls PyProof.Rows PySem.SeqAt
set_option Elab.async false
set_option maxRecDepth 100000
set_option linter.unusedVariables false
namespace Mine
section
variable {prog : Program} {w : World} {A : Around} {E : Value → Shared → Prop} {s : Shared}
/-! enumerate over a tuple -/
theorem tup_next {it t : Addr} {i : Nat} {items : Array Value} {x : Value} {Q : Value → Shared → Prop} (hit : s.heap.IsTupleIter it t i) (ht : s.heap.IsTuple t items) (hx : items[i]? = some x)
    (hQ : ∀ h', h'.IsTupleIter it t (i + 1) → Heap.SameBut it s.heap h' → Q x { s with heap := h' }) : wpAny (model prog w) A (Builtin.SmallTypes.nextOf (.ref it)) Q E s := by
  obtain ⟨o, ho, hc, hd⟩ := id hit
  obtain ⟨ol, hol, _, nl, hdl⟩ := ht
  unfold Builtin.SmallTypes.nextOf
  refine wpAny_bind (wpAny_callSpecial?_slot (name := Str.ofString "__next__") hit.typeIs F.slot_tuple_iterator_next
    (wpAny_call_entry F.slot_tuple_iterator_next hit.typeIs F.entry_tuple_iterator_next ?_ (F.args_tuple_iterator_next_1 _)))
  show wpAny _ _ (field (.ref it) 0 >>= _) _ _ s
  refine wpAny_bind (wpAny_field ho hd (x := .ref t) rfl ?_)
  show wpAny _ _ (if (Value.ref t == Value.none) = true then _ else _) _ _ s
  rw [if_neg (show ¬ ((Value.ref t == Value.none) = true) from Bool.false_ne_true)]
  show wpAny _ _ (field (.ref it) 1 >>= _) _ _ s
  refine wpAny_bind (wpAny_field ho hd (x := .int i 0) rfl ?_)
  show wpAny _ _ (seqItems? (.ref t) >>= _) _ _ s
  refine wpAny_bind (wpAny_seqItems hol hdl ?_)
  simp only [Int.toNat_natCast, hx]
  refine wpAny_bind (wpAny_setField ho hd (by simp) (wpAny_pure ⟨x, rfl, wpAny_pure (hQ _ ?_ (Heap.SameBut.update ..))⟩))
  exact ⟨_, Heap.get?_update_self _ ho (Obj.isFreed_of_fields (Obj.data_mapFields hd _)), (Obj.cls_mapFields ..).trans hc, by
    rw [Obj.data_mapFields hd]; simp [rawInt]⟩
theorem tup_end {it t : Addr} {i : Nat} {items : Array Value} {Q : Value → Shared → Prop} (hh : A.handled = none) (hit : s.heap.IsTupleIter it t i) (ht : s.heap.IsTuple t items) (hx : items[i]? = none)
    (hE : ∀ h' e, Heap.ExtBut it s.heap h' → (∃ o, h'.get? e = some o ∧ o.cls = .type "StopIteration") → E (.ref e) { s with heap := h' }) : wpAny (model prog w) A (Builtin.SmallTypes.nextOf (.ref it)) Q E s := by
  obtain ⟨o, ho, hc, hd⟩ := id hit
  obtain ⟨ol, hol, _, nl, hdl⟩ := ht
  unfold Builtin.SmallTypes.nextOf
  refine wpAny_bind (wpAny_callSpecial?_slot (name := Str.ofString "__next__") hit.typeIs F.slot_tuple_iterator_next
    (wpAny_call_entry F.slot_tuple_iterator_next hit.typeIs F.entry_tuple_iterator_next ?_ (F.args_tuple_iterator_next_1 _)))
  show wpAny _ _ (field (.ref it) 0 >>= _) _ _ s
  refine wpAny_bind (wpAny_field ho hd (x := .ref t) rfl ?_)
  show wpAny _ _ (if (Value.ref t == Value.none) = true then _ else _) _ _ s
  rw [if_neg (show ¬ ((Value.ref t == Value.none) = true) from Bool.false_ne_true)]
  show wpAny _ _ (field (.ref it) 1 >>= _) _ _ s
  refine wpAny_bind (wpAny_field ho hd (x := .int i 0) rfl ?_)
  show wpAny _ _ (seqItems? (.ref t) >>= _) _ _ s
  refine wpAny_bind (wpAny_seqItems hol hdl ?_)
  simp only [Int.toNat_natCast, hx]
  refine wpAny_bind (wpAny_rule (wpAny_bind (wpAny_setField ho hd (by simp) ?_)))
  show wpAny _ _ (newExc (.type "StopIteration") [] >>= _) _ _ _
  refine wpAny_bind ?_
  simp only [newExc, newTuple]
  refine wpAny_bind (wpAny_newObj_type ?_ (by size_fits))
  refine wpAny_bind (m := firstArgMember _ _) (wpAny_of_eq (a := Value.none) (by first | rfl | (simp only [firstArgMember]; rfl)) ?_)
  refine wpAny_newObj_type ?_ (by size_fits)
  simp only [raiseNew]
  refine wpAny_bind (wpAny_handled ?_)
  first | rw [show A.in1.handled = none from hh] | rw [hh]
  refine wpAny_bind (wpAny_pure (wpAny_throw ?_))
  exact hE _ _ (((Heap.SameBut.update ..).extBut.push _).push _) ⟨_, Heap.get?_push_size _ rfl, rfl⟩
theorem drawsT (hh : A.handled = none) (it l : Addr) (hne : l ≠ it) (items : Array Value) :
    Draws prog w A it [it, l] items.size (fun i v => items[i]? = some v) (fun i h => h.IsTupleIter it l i ∧ h.IsTuple l items) where
  live := fun _ _ st => let ⟨o, ho, _⟩ := st.1; ⟨o, ho⟩
  frame := fun _ _ _ st hk => ⟨st.1.at fun o e => hk it (by simp) o e, st.2.at fun o e => hk l (by simp) o e⟩
  item := fun i s Q E hi st hQ => by
    refine tup_next st.1 st.2 (x := items[i]) (by simp [hi]) fun h' hit' hs' => ?_
    exact hQ _ h' s.toks (by simp [hi]) ⟨hit', st.2.extBut hs'.extBut hne⟩ hs'
  done := fun s Q E st hE => tup_end hh st.1 st.2 (by simp) hE
open AutoSeq1 (wpAny_loadPart') in
theorem meets_enumT (l : Addr) (items : Array Value) (n : Nat) (dct : Option Addr) (sl : Array (Option Value)) :
    Meets (Builtin.«enumerate.__new__» ⟨[.type "enumerate", .ref l], []⟩) (fun _ R s => s.heap.get? l = some { cls := .type "tuple", dict := dct, data := .seq items n, slots := sl } ∧
      R (.ok (.ret (.ref (s.heap.push { cls := .type "tuple_iterator", data := .fields #[.ref l, .int 0 0] }).objs.size)))
        { s with heap := (s.heap.push { cls := .type "tuple_iterator", data := .fields #[.ref l, .int 0 0] }).push { cls := .type "enumerate", data := .fields #[.none, .bool false, .ref s.heap.objs.size, rawInt 0, .none, .none] } }) :=
  .of_wp fun prog w A R s h => by
    obtain ⟨hp, g, d, tk, os⟩ := s; obtain ⟨hl, h⟩ := h
    have hsub := sub_enumerate
    have hL : Heap.IsTuple (Shared.heap ⟨hp, g, d, tk, os⟩) l items := ⟨_, hl, rfl, n, rfl⟩
    wp_walk using wpAny_loadPart' hl
    refine wpAny_stack_any fun st => wpAny_pure ?_
    split
    · rename_i c _ _ _ _ _
      cases (c == Value.type "enumerate")
      · wp_walk using wpAny_loadPart' hl, wpAny_pyIter_tuple hL
        exact ⟨_, rfl, h⟩
      · wp_walk using wpAny_loadPart' hl, wpAny_pyIter_tuple hL
        exact ⟨_, rfl, h⟩
    · wp_walk using wpAny_loadPart' hl, wpAny_pyIter_tuple hL
      exact ⟨_, rfl, h⟩
theorem call_enumT {l : Addr} {items : Array Value} {Q : Value → Shared → Prop} (hL : s.heap.IsTuple l items)
    (h : ∀ h', IsEnum h' (s.heap.objs.size + 1) s.heap.objs.size 0 .none → h'.IsTupleIter s.heap.objs.size l 0 → h'.objs.size = s.heap.objs.size + 2 →
      (∀ b o, s.heap.get? b = some o → h'.get? b = some o) → Q (.ref (s.heap.objs.size + 1)) { s with heap := h' }) :
    wpAny (model prog w) A (call (.type "enumerate") [.ref l]) Q E s := by
  obtain ⟨⟨c, dct, dt, sl⟩, hl, hc, n, hd⟩ := hL
  replace hc : c = .type "tuple" := hc
  replace hd : dt = .seq items n := hd
  subst hc hd
  refine callType_new F.called_enumerate (by decide) (F.typeCall_enumerate_1 _) (F.newCall_enumerate_1 _) (fun obj => F.args_object_init_2 obj _) F.entry_enumerate_new
    (meets_enumT l items n dct sl) ⟨hl, ?_⟩
  have hz : (s.heap.push { cls := .type "tuple_iterator", data := .fields #[.ref l, .int 0 0] }).objs.size = s.heap.objs.size + 1 := Heap.size_push ..
  show _ ∧ _
  rw [hz]
  have he : IsEnum ((s.heap.push { cls := .type "tuple_iterator", data := .fields #[.ref l, .int 0 0] }).push
      { cls := .type "enumerate", data := .fields #[.none, .bool false, .ref s.heap.objs.size, rawInt 0, .none, .none] }) (s.heap.objs.size + 1) s.heap.objs.size 0 .none := by
    have := Heap.get?_push_size (s.heap.push { cls := .type "tuple_iterator", data := .fields #[.ref l, .int 0 0] })
      (o := { cls := .type "enumerate", data := .fields #[.none, .bool false, .ref s.heap.objs.size, rawInt 0, .none, .none] }) rfl
    rw [hz] at this; exact this
  refine ⟨⟨_, he, rfl⟩, h _ he ⟨_, Heap.get?_push_of_some _ (Heap.get?_push_size _ rfl), rfl, rfl⟩ (by rw [Heap.size_push, hz]) fun b o x => Heap.get?_push_of_some _ (Heap.get?_push_of_some _ x)⟩
theorem letGoT {elts : List Expr} {x1} {pos : Pos} {I l T : Addr} {i : Nat} {Q : Unit → Shared → Prop} (hit : s.heap.IsTupleIter I l i) (hQ : Q () s) :
    wpAny (model prog w) A (letOwnedTupleGo (.Tuple elts x1 pos) (.ref I) (.ref T)) Q E s := by
  obtain ⟨o, ho, hc, hd⟩ := hit
  unfold letOwnedTupleGo
  refine wpAny_bind (wpAny_load ho ?_)
  rw [hc, hd]
  show wpAny _ A (if (["enumerate", "zip", "dict_itemiterator", "dict_reverseitemiterator", "odict_iterator", "itertools.zip_longest", "itertools.pairwise"].contains "tuple_iterator" &&
      (#[.ref l, .int i 0] : Array Value)[0]? == some (rawInt T)) = true then _ else _) Q E s
  rw [if_neg (by
    intro h
    rw [show (["enumerate", "zip", "dict_itemiterator", "dict_reverseitemiterator", "odict_iterator", "itertools.zip_longest", "itertools.pairwise"].contains "tuple_iterator") = false from by decide, Bool.false_and] at h
    cases h)]
  exact wpAny_pure hQ
end
section
variable {prog : Program} {w : World} {G : Heap} {mg mb : Str → Option Value} {n : Nat} {sc : Scope}
noncomputable def enumTD : D → Option (List D)
  | .tuple xs => some ((List.range xs.length).zipWith (fun (i : Nat) x => .tuple [.int (i : Int), x]) xs)
  | _ => none
noncomputable def enumTL (f : Ex) : Lx := fun ρ k => match f ρ k with
  | none => none
  | some (d, k') => match enumTD d with
    | none => none
    | some xs => some (xs, k')
theorem si_enumT {N : List Str} {tsc : Scope} {e : Expr} {x y : Str} {px py pt p pos : Pos} {kt : Nat} {bf : D → Rho → Option Rho} {f : Ex} (gn : Gnd prog w G mg mb) (hg : isGlob sc "enumerate" = true) (h : SE prog w G n sc e f) (hst : ∀ env, starEach [e] env = [(false, eval e env)]) (hx : bindOk tsc x = true) (hy : bindOk tsc y = true) (hNx : x ∈ N) (hNy : y ∈ N) (hbf : Pair2 x y bf) :
    SI prog w G N n sc (.Call (.Name "enumerate" p) [e] [] pos) (.Tuple [.Name x px, .Name y py] kt pt) tsc bf (enumTL f) := fun A env ρ W ow s Q E hR hs he hi ds k' hf hQ => by
  unfold enumTL at hf
  split at hf
  · cases hf
  · rename_i d k1 h1
    split at hf
    · cases hf
    · rename_i es h2
      cases hf
      refine call1T (T := "enumerate") gn hg (by kernel_rfl) (by decide +kernel) (by decide +kernel) (by decide +kernel) h hst hR hs he hi h1 fun v W1 s1 x1 e1 r1 => ?_
      subst e1
      unfold enumTD at h2
      split at h2
      · cases h2
        rename_i xs
        obtain ⟨l, vs, m, rfl, p1, p2, p3⟩ := rep_tuple r1
        have hI := Heap.new_none s1.heap
        have hI1 : s1.heap.get? (s1.heap.objs.size + 1) = none := by
          cases e : s1.heap.get? (s1.heap.objs.size + 1) with
          | none => rfl
          | some o => exact absurd (Heap.lt_size e) (Nat.not_lt.mpr (Nat.le_succ _))
        have hzl : ((List.range xs.length).zipWith (fun (i : Nat) x => D.tuple [.int (i : Int), x]) xs).length = xs.length := by simp
        have hne : l ≠ s1.heap.objs.size := fun q => by rw [q, x1.inv.none_of hI] at p1; cases p1
        have hne1 : l ≠ s1.heap.objs.size + 1 := fun q => by rw [q, x1.inv.none_of hI1] at p1; cases p1
        refine call_enumT (isTuple_of x1.inv p1) fun h' hE hit hsz hk => ?_
        have x2 := Ext.keeps (tk := s1.toks) x1.inv hk
        refine wpAny_pyIter_enum hE ?_
        have hlen : vs.toArray.size = ((List.range xs.length).zipWith (fun (i : Nat) x => D.tuple [.int (i : Int), x]) xs).length := by rw [hzl, List.size_toArray, p3.length]
        have Dr := drawsT (prog := prog) (w := w) (A := A.in1) (in1_handled hR.1) s1.heap.objs.size l hne vs.toArray
        have Wk := WalksT.enumerateD Dr (s1.heap.objs.size + 1) (Nat.succ_ne_self _) (by simp only [List.mem_cons, List.not_mem_nil, or_false, not_or]; exact ⟨Nat.succ_ne_self _, Ne.symm hne1⟩) (by simp)
        rw [hlen] at Wk
        refine hQ _ W1 _ _ _ _ (x1.trans x2) rfl (Src.ofWalksT hR.1 Wk (fun i vals hv a b hd => ?_) (fun i h hst b hb => ?_) hx hy hNx hNy hbf) ⟨⟨_, hE⟩, hit, isTuple_of x2.inv p1⟩ ?_ ?_ (by rw [hzl, ← p3.length]; exact p2)
        · obtain ⟨t, z, hz, rfl⟩ := hv
          obtain ⟨rfl, hb⟩ := enum_get hd
          obtain ⟨d', h4, h5⟩ := p3.get' i z (by simpa using hz)
          rw [hb] at h4; cases h4
          exact ⟨_, _, rfl, .int _ _, h5⟩
        · obtain ⟨⟨old, q1⟩, ⟨o2, q2, _⟩, ⟨o3, q3, _⟩⟩ := hst
          rcases List.mem_cons.mp hb with rfl | hb
          · exact ⟨_, q1⟩
          · rcases List.mem_cons.mp hb with rfl | hb
            · exact ⟨_, q2⟩
            · rcases List.mem_cons.mp hb with rfl | hb
              · exact ⟨_, q3⟩
              · cases hb
        · intro b hb
          rcases List.mem_cons.mp hb with rfl | hb
          · exact .inr (x1.dead hI1)
          · rcases List.mem_cons.mp hb with rfl | hb
            · exact .inr (x1.dead hI)
            · rcases List.mem_cons.mp hb with rfl | hb
              · exact .inl ⟨_, p1⟩
              · cases hb
        · intro b hb
          rcases List.mem_cons.mp hb with rfl | hb
          · exact ⟨x1.dead hI1, x1.inv.none_of hI1⟩
          · rcases List.mem_cons.mp hb with rfl | hb
            · exact ⟨x1.dead hI, x1.inv.none_of hI⟩
            · cases hb
      · cases h2

/-! pairs out of a tuple -/
noncomputable def itemsTD : D → Option (List D)
  | .tuple xs => some xs
  | _ => none
noncomputable def itemsTL (f : Ex) : Lx := fun ρ k => match f ρ k with
  | none => none
  | some (d, k') => match itemsTD d with
    | none => none
    | some xs => some (xs, k')
theorem srcPairs {A : Around} {I l : Addr} {ds : List D} {vs : List Value} {W0 : Wd} {x y : Str} {px py pt : Pos} {kt : Nat} {N : List Str} {bf : D → Rho → Option Rho} (hh : A.handled = none) (hne : l ≠ I) (hr : RepL W0 vs ds) (hx : bindOk sc x = true) (hy : bindOk sc y = true) (hNx : x ∈ N) (hNy : y ∈ N) (hbf : Pair2 x y bf) :
    Src prog w G A (.ref I) (.Tuple [.Name x px, .Name y py] kt pt) sc bf ds W0 N [I, l] [I] (fun i h => h.IsTupleIter I l i ∧ h.IsTuple l vs.toArray) := by
  have Wk := Walks.tuple (prog := prog) (w := w) (A := A) hh I l hne vs.toArray
  have hlen : vs.toArray.size = ds.length := by rw [List.size_toArray, hr.length]
  rw [hlen] at Wk
  have hlive : ∀ i (h : Heap), (h.IsTupleIter I l i ∧ h.IsTuple l vs.toArray) → ∀ b ∈ [I, l], ∃ o, h.get? b = some o := fun i h hst b hb => by
    rcases List.mem_cons.mp hb with rfl | hb
    · obtain ⟨o, ho, _⟩ := hst.1; exact ⟨o, ho⟩
    · rcases List.mem_cons.mp hb with rfl | hb
      · obtain ⟨o, ho, _⟩ := hst.2; exact ⟨o, ho⟩
      · cases hb
  refine ⟨Wk.sub, hlive, Wk.frame, fun s Q E hst hQ => Wk.done s Q E hst hQ, fun i s Q E hst hQ => Wk.self i s Q E hst hQ, fun i d env ρ ρ' W ow s Q E hd hb hst hsc he hi hW hfp hwr hQ => ?_⟩
  have hlt : i < ds.length := (List.getElem?_eq_some_iff.mp hd).1
  obtain ⟨a, b, rfl, rfl⟩ := hbf _ _ _ hb
  refine Wk.item i s _ E hlt hst fun v h1 tk1 hPv hst1 hk1 => ?_
  obtain ⟨d', h4, h5⟩ := hr.get' i v (by simpa using hPv)
  rw [hd] at h4; cases h4
  have h5' := h5.mono hW
  obtain ⟨T, us, m, rfl, p1, p2, p3⟩ := rep_tuple h5'
  obtain ⟨va, _, rfl, ra, p4⟩ := repL_cons p3
  obtain ⟨vb, _, rfl, rb, p5⟩ := repL_cons p4
  obtain rfl := repL_nil p5
  have hl1 : ∀ b, h1.get? b = none → s.heap.get? b = none := fun b hb => by
    cases e : s.heap.get? b with
    | none => rfl
    | some o =>
      by_cases q : b ∈ [I]
      · obtain ⟨o', ho'⟩ := hlive _ _ hst1 b (Wk.sub b q)
        rw [ho'] at hb; cases hb
      · rw [hk1 b o q e] at hb; cases hb
  have he1 : EnvOk env ρ W ow { s with heap := h1, toks := tk1 } := he.stand (.refl ..) fun b o hb e => hk1 b o (fun q => hfp b (Wk.sub b q) hb) e
  have hi1 : Inv G W { s with heap := h1, toks := tk1 } := hi.change [I] hk1 (fun b hb => (hwr b hb).1) (fun q => (hwr _ q).2 rfl)
  refine letGoT (s := { s with heap := h1, toks := tk1 }) hst1.1 ?_
  refine wpAny_assign_Tuple (s := { s with heap := h1, toks := tk1 }) (items := #[va, vb]) hh ⟨_, hi1.sub _ _ p1, rfl, m, rfl⟩ rfl rfl fun h3 hx3 => ?_
  have hk3 : ∀ b o, h1.get? b = some o → h3.get? b = some o := fun b o e => hx3 b o (fun q => by subst q; exact absurd (Heap.lt_size e) (Nat.lt_irrefl _)) e
  have x3 := Ext.keeps (tk := tk1) hi1 hk3
  have he3 := he1.ext hi1 x3
  refine st_two (N := N) (G := G) he3 x3.inv (by rw [hsc]; exact hx) (by rw [hsc]; exact hy) hNx hNy ra rb fun h4 tk4 hk4 hl4 he4 hi4 => ?_
  exact hQ h4 tk4 W (fun b o q1 q2 e => hk4 b o q2 (hk3 b o (hk1 b o q1 e))) (fun b q => hl1 b (x3.dead (hl4 b q))) (.refl ..) rfl he4 hi4 (Wk.frame _ _ _ hst1 fun b hb o e => hk4 b o (fun q => hfp b hb q.own) (hk3 b o e))
theorem si_pairs {N : List Str} {tsc : Scope} {e : Expr} {x y : Str} {px py pt : Pos} {kt : Nat} {bf : D → Rho → Option Rho} {f : Ex} (h : SE prog w G n sc e f) (hx : bindOk tsc x = true) (hy : bindOk tsc y = true) (hNx : x ∈ N) (hNy : y ∈ N) (hbf : Pair2 x y bf) :
    SI prog w G N n sc e (.Tuple [.Name x px, .Name y py] kt pt) tsc bf (itemsTL f) := fun A env ρ W ow s Q E hR hs he hi ds k' hf hQ => by
  unfold itemsTL at hf
  split at hf
  · cases hf
  · rename_i d k1 h1
    split at hf
    · cases hf
    · rename_i xs h2
      cases hf
      refine h A env ρ W ow s _ E hR hs he hi d _ h1 fun v W1 s1 x1 e1 r1 => ?_
      subst e1
      unfold itemsTD at h2
      split at h2
      · cases h2
        obtain ⟨l, vs, m, rfl, p1, p2, p3⟩ := rep_tuple r1
        have hI := Heap.new_none s1.heap
        have hne : l ≠ s1.heap.objs.size := fun q => by rw [q, x1.inv.none_of hI] at p1; cases p1
        refine wpAny_pyIter_tuple (isTuple_of x1.inv p1) ?_
        have x2 := Ext.push x1.inv ({ cls := .type "tuple_iterator", data := .fields #[.ref l, .int 0 0] } : Obj) s1.toks
        refine hQ _ W1 _ _ _ _ (x1.trans x2) rfl (srcPairs hR.1 hne p3 hx hy hNx hNy hbf) ⟨⟨_, Heap.get?_push_size _ rfl, rfl, rfl⟩, isTuple_of x2.inv p1⟩ ?_ ?_ (by rw [← p3.length]; exact p2)
        · intro b hb
          rcases List.mem_cons.mp hb with rfl | hb
          · exact .inr (x1.dead hI)
          · rcases List.mem_cons.mp hb with rfl | hb
            · exact .inl ⟨_, p1⟩
            · cases hb
        · intro b hb
          rcases List.mem_cons.mp hb with rfl | hb
          · exact ⟨x1.dead hI, x1.inv.none_of hI⟩
          · cases hb
      · cases h2
end
end Mine
end

section
open PySem PySem.W PySem.Calls PyProof.Rows PySem.SeqAt
set_option Elab.async false
set_option maxRecDepth 100000
set_option linter.unusedVariables false
namespace Mine
section
variable {prog : Program} {w : World} {G : Heap} {mg mb : Str → Option Value} {n : Nat} {sc : Scope}
noncomputable def env0 (sc : Scope) : Env := { scope := sc, locals := 0, globals := 0, cells := [], qual := ⟨#[]⟩, func := none, code := .none, frame := none, builtins := 0 }
theorem swapped_env {ts : List Expr} {v : Expr} {env env' : Env} (h : env.scope = env'.scope) : swappedStores ts v env = swappedStores ts v env' := by
  unfold swappedStores Env.blockKind Env.kindOf
  rw [h]
theorem swapped_of {ts : List Expr} {v : Expr} {r : Option (List Str)} (env : Env) (h : env.scope = sc) (hr : swappedStores ts v (env0 sc) = pure r) : swappedStores ts v env = pure r := (swapped_env h).trans hr

/-! the table -/
noncomputable def allB (f : Value → D → Bool) : List Value → List D → Bool
  | [], [] => true
  | v :: vs, d :: ds => f v d && allB f vs ds
  | _, _ => false
noncomputable def repB (K : Frag) : Nat → Value → D → Bool
  | _, .int i _, .int j => decide (i = j)
  | _, .str x _, .str y => decide (x = y) && ascB x
  | m + 1, .ref a, .tuple ds => match K.lookup a with
    | some ⟨.type t, none, .seq vs _, sl⟩ => t == "tuple" && sl.isEmpty && decide (vs.size ≤ 1000) && allB (repB K m) vs.toList ds
    | _ => false
  | _, _, _ => false
theorem repB_ok {K : Frag} {W : Wd} (hK : ∀ a o, K.lookup a = some o → W.P a = some o) : ∀ (m : Nat) (v : Value) (d : D), repB K m v d = true → Rep W v d := by
  have all : ∀ (f : Value → D → Bool), (∀ v d, f v d = true → Rep W v d) → ∀ (vs : List Value) (ds : List D), allB f vs ds = true → RepL W vs ds := by
    intro f hf vs
    induction vs with
    | nil => intro ds h; cases ds with
      | nil => exact .nil
      | cons => cases h
    | cons v vs ih => intro ds h; cases ds with
      | nil => cases h
      | cons d ds =>
        simp only [allB, Bool.and_eq_true] at h
        exact .cons (hf _ _ h.1) (ih _ h.2)
  intro m
  induction m with
  | zero =>
    intro v d h
    unfold repB at h
    split at h
    · have e := of_decide_eq_true h; subst e; exact .int _ _
    · simp only [Bool.and_eq_true] at h
      have e := of_decide_eq_true h.1; subst e; exact .str _ (ascB_ok h.2)
    · rename_i q; cases q
    · cases h
  | succ m ih =>
    intro v d h
    unfold repB at h
    split at h
    · have e := of_decide_eq_true h; subst e; exact .int _ _
    · simp only [Bool.and_eq_true] at h
      have e := of_decide_eq_true h.1; subst e; exact .str _ (ascB_ok h.2)
    · rename_i a ds q
      have e : m = _ := Nat.succ.inj q
      subst e
      split at h
      · rename_i t vs k sl hl
        simp only [Bool.and_eq_true] at h
        obtain ⟨⟨⟨h1, h2⟩, h3⟩, h4⟩ := h
        have e1 : t = "tuple" := eq_of_beq h1
        have e2 : sl = #[] := by simpa using h2
        subst e1 e2
        have h5 := all _ ih _ _ h4
        have h6 := hK _ _ hl
        refine .tuple (vs := vs.toList) (n := k) ?_ ?_ h5
        · simpa [tupleO] using h6
        · rw [Array.length_toList]; exact Nat.le_trans (of_decide_eq_true h3) (by decide)
      · cases h
    · cases h
noncomputable def rowD (b : Int) (c : String) : D := .tuple [.int b, .str (Str.ofString c)]
noncomputable def tabD : D := .tuple [.tuple [rowD 40960 "l", rowD 49152 "s", rowD 32768 "-", rowD 24576 "b", rowD 16384 "d", rowD 8192 "c", rowD 4096 "p"],
  .tuple [rowD 256 "r"], .tuple [rowD 128 "w"], .tuple [rowD 2112 "s", rowD 2048 "S", rowD 64 "x"],
  .tuple [rowD 32 "r"], .tuple [rowD 16 "w"], .tuple [rowD 1032 "s", rowD 1024 "S", rowD 8 "x"],
  .tuple [rowD 4 "r"], .tuple [rowD 2 "w"], .tuple [rowD 513 "t", rowD 512 "T", rowD 1 "x"]]
theorem se_tab {pos : Pos} (gn : Gnd prog w G mg mb) (hg : isGlob sc "_filemode_table" = true) : SE prog w G n sc (.Name "_filemode_table" pos) (litE tabD) := fun A env ρ W ow s Q E hR hs he hi d k' hf hQ => by
  cases hf
  refine glob_fn (v := .ref 112) gn he hi hs hg (by kernel_rfl) (by decide +kernel) (hQ _ _ _ (.refl hi) rfl ?_)
  exact repB_ok (K := hd.heap_39 w.params) (fun a o e => hi.ground _ _ (gn.X _ _ e)) 3 _ _ (by kernel_rfl)
end
end Mine
end

section
open PySem PySem.W PySem.Calls PyProof.Rows PySem.SeqAt
open Builtin Builtin.ObjectAttr
set_option Elab.async false
set_option maxRecDepth 100000
set_option linter.unusedVariables false
namespace Mine
/-- a dict of names, written out -/
noncomputable def DictAt (h : Heap) (d : Addr) (m : Str → Option Value) (k : Nat) : Prop :=
  ∃ es ep, h.get? d = some { cls := .type "dict", data := .dict es ep } ∧ StrKeys es ∧ (∀ x, nsFind es x = m x) ∧ es.size ≤ k
theorem DictAt.ns {h : Heap} {d : Addr} {m : Str → Option Value} {k : Nat} (x : DictAt h d m k) : h.Ns d m := let ⟨es, ep, h1, h2, h3, _⟩ := x; ⟨_, es, ep, h1, rfl, h2, h3⟩
theorem DictAt.keeps {h h' : Heap} {d : Addr} {m : Str → Option Value} {k : Nat} (x : DictAt h d m k) (hk : ∀ o, h.get? d = some o → h'.get? d = some o) : DictAt h' d m k := let ⟨es, ep, h1, r⟩ := x; ⟨es, ep, hk _ h1, r⟩
section
variable {prog : Program} {w : World} {G : Heap} {mg mb : Str → Option Value} {n : Nat} {sc : Scope}
theorem nsSet_at {A : Around} {s : Shared} {d : Addr} {m : Str → Option Value} {k : Nat} {x : Str} {v : Value} {Q : Unit → Shared → Prop} {E : Value → Shared → Prop} (hd : DictAt s.heap d m k)
    (h : ∀ h', DictAt h' d (fun y => if y = x then some v else m y) (k + 1) → Heap.SameBut d s.heap h' → Q () { s with heap := h', toks := s.toks + 1 }) : wpAny (model prog w) A (nsSet d x v) Q E s := by
  obtain ⟨es, ep, ho, hk, hm, hz⟩ := hd
  unfold nsSet
  refine wpAny_bind (wpAny_bind (wpAny_askSetting (wpAny_pure (wpAny_bind (wpAny_mkText (wpAny_bind (wpAny_loadPart ho ?_)))))))
  have hany : es.any (·.refKey) = false := by
    rw [Array.any_eq_false']; intro e he; obtain ⟨n, t, h⟩ := hk e he; simp [DictEntry.refKey, h]
  dsimp only
  rw [aRefKeyMayBeTheName_at, hany, Bool.and_false, if_neg (by simp)]
  refine wpAny_updatePart ho (h _ ?_ (Heap.SameBut.update ..))
  cases hi : es.findIdx? (·.key.isStr x) with
  | some i =>
    refine ⟨es.modify i fun e => { e with val := v }, ep, Heap.get?_update_self _ ho (by simp only [Obj.putName_eq, Obj.putNameByArray, hi]; rfl) |>.trans (by simp only [Obj.putName_eq, Obj.putNameByArray, hi]), hk.modify _ _, fun y => ?_, by rw [Array.size_modify]; omega⟩
    show _ = if y = x then some v else m y
    rw [← hm]; exact findBy_modify (fun n v => v.isStr n) Value.isStr_inj es x y v i hi
  | none =>
    refine ⟨es.push ⟨if x.cps.isEmpty = true then 0 else reduceHash (w.params.strHash x.cps), .str x s.toks, v⟩, ep + 1, Heap.get?_update_self _ ho (by simp only [Obj.putName_eq, Obj.putNameByArray, hi]; rfl) |>.trans (by simp only [Obj.putName_eq, Obj.putNameByArray, hi]; rfl), hk.push _ _ _ _, fun y => ?_, by rw [Array.size_push]; omega⟩
    show _ = if y = x then some v else m y
    rw [← hm]
    exact findBy_push (fun n v => v.isStr n) es x y _ _ v (fun y => by
      show (x == y) = decide (y = x)
      by_cases h : y = x
      · subst h; simp
      · have : ¬ x = y := fun e => h e.symm
        simp [h, this]) hi

/-- a record's attribute, stored -/
theorem ent_set {A : Around} {s : Shared} {x dx : Addr} {m : Str → Option Value} {k : Nat} {y : Str} {v : Value} {Q : Unit → Shared → Prop} {E : Value → Shared → Prop} (X : (hd.heap_39 w.params).In s.heap) (hx : s.heap.get? x = some (instObj entCls dx)) (hdd : DictAt s.heap dx m k) (hk : k ≤ 1000)
    (ht : takerIn (hd.heap_39 w.params) entCls y = some none)
    (h : ∀ h', DictAt h' dx (fun z => if z = y then some v else m z) (k + 1) → Heap.SameBut dx s.heap h' → Q () { s with heap := h', toks := s.toks + 1 + 1 }) : wpAny (model prog w) A (setAttr (.ref x) y v) Q E s := by
  obtain ⟨es, ep, ho, hkk, hm, hz⟩ := id hdd
  have I : InstAt s.heap x (instObj entCls dx) entCls (some { cls := .type "dict", data := .dict es ep }) := ⟨hx, rfl, rfl, ho⟩
  refine set_plain X I (by kernel_rfl) ?_
  refine osa_open (s := { s with toks := s.toks + 1 }) X I (by kernel_rfl) ht fun b => ?_
  obtain ⟨cd, hc, hd'⟩ := any_some (show (clsIn (hd.heap_39 w.params) entCls).any (·.hasDict) = true by kernel_rfl)
  show wpAny _ _ (storeInOwnDict (.ref x) (.ref entCls) (.str y s.toks) y v b) _ _ _
  unfold storeInOwnDict
  refine wpAny_bind (wpAny_pure (wpAny_bind ?_))
  show wpAny _ _ (instanceDict x true) _ _ _
  unfold instanceDict
  refine wpAny_bind (wpAny_loadPart hx (wpAny_bind (looks_clsIn (M := model prog w) X hc _ _ _ { s with toks := s.toks + 1 } (fun _ _ e => e) ?_)))
  rw [hd']
  refine wpAny_pure ?_
  show wpAny _ _ (storeInDict dx (.str y s.toks) y v) _ _ _
  unfold storeInDict newKeyGuard
  refine wpAny_bind (wpAny_pure (wpAny_bind (nsSet_at (s := { s with toks := s.toks + 1 }) hdd fun h' hd2 hs2 => ?_)))
  obtain ⟨es', ep', ho', _, _, hz'⟩ := id hd2
  refine wpAny_bind (wpAny_lookBehind ho' (pastItsLine_dict (by rw [sizeLine_eq]; omega)) ?_)
  exact wpAny_pure (h h' hd2 hs2)

/-- entering a def of the text -/
theorem def_run {a : Addr} {fd : FuncData} {body : List Stmt} {names : List Str} {A : Around} {W : Wd} {s : Shared} {vs : List Value} {R : Result → Shared → Prop} (gn : Gnd prog w G mg mb) (D0 : DefOk prog w G a fd body names) (hvl : vs.length = names.length) (hR : Room A (n + 1)) (hi : Inv G W s)
    (h : ∀ env s1, env.scope = fd.scope → Room (A.deeper env) n → Ext G W s W s1 → (∀ (ρ : Rho), (∀ x d, ρ x = some d → ∃ v, (names.zip vs).lookup x = some v ∧ Rep W v d) → EnvOk env ρ W [] s1) →
      (∃ m, s1.heap.Ns env.locals m ∧ ∀ x v, (names.zip vs).lookup x = some v → env.kindOf x = some .local → m x = some v) → s.heap.get? env.locals = none → (∀ y c, env.cells.lookup y = some c → s.heap.get? c = none) →
      (∀ y v, (names.zip vs).lookup y = some v → env.kindOf y = some .cell → ∃ c, env.cells.lookup y = some c ∧ s1.heap.IsCell c (some v)) → env.code = fd.code → env.qual = fd.qualname ++ ".<locals>." →
      ∀ E', wpAny (model prog w) (A.deeper env) (execs body env) (fun fl s' => R (.ok (.ret (match fl with | .ret v => v | _ => .none))) s') E' s1) :
    codeAny (model prog w) A (.call (.ref a) ⟨vs, []⟩) R s := by
  obtain ⟨o, ho, hdt⟩ := D0.obj
  have hnd : ((names.zip vs).map (·.1)).Nodup := by rw [zip_names hvl.symm]; simpa using D0.nd
  refine call_cells (binds := names.zip vs) hR.depth (hi.sub0 _ _ ho) hdt (gn.nolimit.keeps hi.sub0) (D0.code.keeps hi.sub0) D0.body (fun Q' E' hq => D0.bind vs hvl _ _ _ _ hi.sub0 hq) D0.clos (fun x hx => ?_) (fun s₁ x => ?_) D0.co D0.gen D0.kind
  · have hx' : x.1 ∈ names := by rw [← zip_names (vs := vs) hvl.symm]; exact List.mem_map_of_mem hx
    rcases D0.kinds _ hx' with q | q
    · exact .inl q
    · exact .inr ⟨q, by obtain ⟨c, hc⟩ := cellsFrom_has fd.scope.names (s.heap.objs.size + 1) x.1 (mem_of_lookup q); rw [hc]; rfl⟩
  · generalize henv : callEnvC fd s.heap.objs.size a = env at *
    have e1 : env.scope = fd.scope := by rw [← henv]; rfl
    have e2 : env.locals = s.heap.objs.size := by rw [← henv]; rfl
    have e3 : env.cells = cellsFrom (s.heap.objs.size + 1) fd.scope.names [] := by rw [← henv]; rfl
    have e4 : env.globals = mainGlobals := by rw [← henv]; exact D0.glob
    have e5 : env.builtins = builtinsNs := by rw [← henv]; exact D0.blt
    have e6 : env.code = fd.code := by rw [← henv]; rfl
    have e7 : env.qual = fd.qualname ++ ".<locals>." := by rw [← henv]; rfl
    have hkeep := x.toInCall.keep
    have hdeadL : s.heap.get? s.heap.objs.size = none := Heap.new_none _
    have hdeadC : ∀ y c, env.cells.lookup y = some c → s.heap.get? c = none := fun y c hc => by
      cases e : s.heap.get? c with
      | none => rfl
      | some o' =>
        have h1 := x.above y c (mem_of_lookup hc)
        rw [e2] at h1
        exact absurd (Heap.lt_size e) (Nat.not_lt.mpr (Nat.le_of_lt h1))
    obtain ⟨h1, tk1, hs1⟩ := x.toInCall.same
    have x1 : Ext G W s W s₁ := by rw [hs1]; exact Ext.keeps hi (by rw [hs1] at hkeep; exact hkeep)
    have hR' : Room (A.deeper env) n := hR.deeper env (by rw [e1]; exact D0.gen) (by rw [e1]; exact D0.co) e5 e4
    refine h env s₁ e1 hR' x1 (fun ρ hρ => ?_) ⟨_, x.toInCall.ns, fun y v h1 h2 => bindL_in h2 hnd h1⟩ (by rw [e2]; exact hdeadL) hdeadC (fun y v h1 h2 => ?_) e6 e7 _
    · refine ⟨by rw [e1]; exact D0.kind, e4, e5, ⟨_, x.toInCall.ns, fun y d' h1 h2 => ?_⟩, fun y hy => ?_, fun y z c h1 h2 => name_of_addr x.apart (mem_of_lookup h1) (mem_of_lookup h2), fun y c hc => ⟨hi.none_of (hdeadC y c hc), _, x.cell y c hc⟩, by rw [e2]; exact hi.none_of hdeadL, fun a ha => nomatch ha⟩
      · obtain ⟨v, h3, h4⟩ := hρ y d' h1
        exact ⟨v, bindL_in h2 hnd h3, rep_repV h4⟩
      · rcases hy with hy | hy
        · have hy' : fd.scope.names.lookup y = some .cell := by rw [← e1]; exact hy
          obtain ⟨c, hc⟩ := cellsFrom_has fd.scope.names (s.heap.objs.size + 1) y (mem_of_lookup hy')
          rw [← e3] at hc
          refine ⟨c, _, hc, x.cell y c hc, fun d' hd' => ?_⟩
          obtain ⟨v, h3, h4⟩ := hρ y d' hd'
          exact ⟨v, bindC_in (by rw [hy]; simp) hnd h3, rep_repV h4⟩
        · have hy' : fd.scope.names.lookup y = some .free := by rw [← e1]; exact hy
          exact absurd rfl (D0.nofree _ (mem_of_lookup hy'))
    · have hy' : fd.scope.names.lookup y = some .cell := by rw [← e1]; exact h2
      obtain ⟨c, hc⟩ := cellsFrom_has fd.scope.names (s.heap.objs.size + 1) y (mem_of_lookup hy')
      rw [← e3] at hc
      refine ⟨c, hc, ?_⟩
      have := x.cell y c hc
      rwa [bindC_in (by rw [h2]; simp) hnd h1] at this
end
end Mine
end

section
open PySem PySem.W PySem.Calls PyProof.Rows PySem.SeqAt
open Builtin Builtin.ObjectAttr
set_option Elab.async false
set_option maxRecDepth 100000
set_option linter.unusedVariables false
namespace Mine
/-- a record under way: made since the state s0 -/
structure Live (G : Heap) (x dx : Addr) (W0 : Wd) (s0 : Shared) (W : Wd) (m : Str → Option Value) (k : Nat) (s : Shared) : Prop where
  ext : Ext G W0 s0 W s
  xo : s.heap.get? x = some (instObj entCls dx)
  dict : DictAt s.heap dx m k
  px : W.P x = none
  pd : W.P dx = none
  fx : s0.heap.get? x = none
  fd : s0.heap.get? dx = none
  ne : x ≠ dx
section
variable {prog : Program} {w : World} {G : Heap} {mg mb : Str → Option Value} {n : Nat} {sc : Scope}
theorem Live.xT {x dx : Addr} {W0 W : Wd} {s0 s : Shared} {m : Str → Option Value} {k : Nat} (l : Live G x dx W0 s0 W m k s) : x ≠ TB ∧ dx ≠ TB := by
  obtain ⟨ps, hT, _⟩ := l.ext.inv.tab
  obtain ⟨es, ep, h1, _⟩ := l.dict
  exact ⟨not_tab_of_ne l.xo hT (fun vs q => by cases q), not_tab_of_ne h1 hT (fun vs q => by cases q)⟩
theorem Live.step {x dx : Addr} {W0 W W' : Wd} {s0 s s' : Shared} {m : Str → Option Value} {k : Nat} (l : Live G x dx W0 s0 W m k s) (e : Ext G W s W' s') : Live G x dx W0 s0 W' m k s' := by
  obtain ⟨t1, t2⟩ := l.xT
  obtain ⟨es, ep, h1, _⟩ := id l.dict
  refine ⟨l.ext.trans e, e.keep _ _ t1 l.xo, l.dict.keeps fun o q => e.keep _ _ t2 q, ?_, ?_, l.fx, l.fd, l.ne⟩
  · cases q : W'.P x with
    | none => rfl
    | some o => rcases e.le.new _ _ q with z | z
                · rw [l.px] at z; cases z
                · rw [l.xo] at z; cases z
  · cases q : W'.P dx with
    | none => rfl
    | some o => rcases e.le.new _ _ q with z | z
                · rw [l.pd] at z; cases z
                · rw [h1] at z; cases z
theorem Live.set {A : Around} {x dx : Addr} {W0 W : Wd} {s0 s : Shared} {m : Str → Option Value} {k : Nat} {y : Str} {v : Value} {Q : Unit → Shared → Prop} {E : Value → Shared → Prop} (gn : Gnd prog w G mg mb) (l : Live G x dx W0 s0 W m k s) (hk : k ≤ 1000) (ht : takerIn (hd.heap_39 w.params) entCls y = some none)
    (h : ∀ s', Live G x dx W0 s0 W (fun z => if z = y then some v else m z) (k + 1) s' → (∀ (env : Env) (ρ : Rho), ¬ Own env [] dx → EnvOk env ρ W [] s → EnvOk env ρ W [] s') → (∀ b o, b ≠ dx → s.heap.get? b = some o → s'.heap.get? b = some o) → Q () s') : wpAny (model prog w) A (setAttr (.ref x) y v) Q E s := by
  obtain ⟨t1, t2⟩ := l.xT
  refine ent_set (fun b o q => l.ext.inv.sub0 b o (gn.X b o q)) l.xo l.dict hk ht fun h' hd' hs' => ?_
  have hb : ∀ b o, b ∉ [dx] → s.heap.get? b = some o → h'.get? b = some o := fun b o hb e => hs'.extBut b o (by simpa using hb) e
  have hi' : Inv G W { s with heap := h', toks := s.toks + 1 + 1 } := Inv.change (s := s) (tk := s.toks + 1 + 1) [dx] l.ext.inv hb (by simpa using l.pd) (by simpa using t2.symm)
  obtain ⟨h1, tk1, hs1⟩ := l.ext.same
  refine h _ ⟨⟨⟨h', s.toks + 1 + 1, by rw [hs1]⟩, fun b o hbT e => hs'.extBut b o (fun q => by rw [q, l.fd] at e; cases e) (l.ext.keep b o hbT e), l.ext.le, hi'⟩, hs'.extBut _ _ l.ne l.xo, hd', l.px, l.pd, l.fx, l.fd, l.ne⟩ (fun env ρ hO he => he.stand (.refl ..) fun b o hb e => hs'.extBut b o (fun q => hO (q ▸ hb)) e) (fun b o hne e => hs'.extBut b o hne e)

/-- the record is done -/
theorem Live.freeze {x dx : Addr} {W0 W : Wd} {s0 s : Shared} {m : Str → Option Value} {k : Nat} {va vr vd : Value} {ag ru : List D} {de : D} (l : Live G x dx W0 s0 W m k s) (hm : ∀ y, m y = entMap va vr vd y) (ra : Rep W va (.list ag)) (rr : Rep W vr (.list ru)) (rd : Rep W vd de) :
    ∃ W', Ext G W0 s0 W' s ∧ W'.k = W.k + 1 ∧ Rep W' (.ref x) (.ent W.k ag ru de) := by
  obtain ⟨t1, t2⟩ := l.xT
  obtain ⟨es, ep, h1, h2, h3, h4⟩ := id l.dict
  let oD : Obj := { cls := .type "dict", data := .dict es ep }
  let W1 := (W.put dx oD).put x (instObj entCls dx)
  let W' : Wd := { W1 with η := fun i => if i = W.k then x else W.η i, k := W.k + 1 }
  have hp1 : (W.put dx oD).P x = none := by
    show (if x = dx then some oD else W.P x) = none
    rw [if_neg l.ne]; exact l.px
  have i1 : Inv G W1 s := (l.ext.inv.put h1 l.pd t2).put l.xo hp1 t1
  have hx1 : W1.P x = some (instObj entCls dx) := Wd.put_self ..
  have hd1 : W1.P dx = some oD := by
    show (if dx = x then _ else (W.put dx oD).P dx) = _
    rw [if_neg l.ne.symm]; exact Wd.put_self ..
  have hold : ∀ i, i < W.k → W.η i ≠ x := fun i hi q => by
    obtain ⟨o, ho⟩ := l.ext.inv.ent i hi
    rw [q, l.px] at ho; cases ho
  have iF : Inv G W' s := by
    refine ⟨i1.sub, i1.ground, i1.tab, i1.tabP, ?_, ?_⟩
    · intro i j hi hj e
      have hi' : i < W.k + 1 := hi
      have hj' : j < W.k + 1 := hj
      have e' : (if i = W.k then x else W.η i) = (if j = W.k then x else W.η j) := e
      by_cases a : i = W.k <;> by_cases b : j = W.k
      · rw [a, b]
      · rw [if_pos a, if_neg b] at e'
        exact absurd e'.symm (hold j (by omega))
      · rw [if_neg a, if_pos b] at e'
        exact absurd e' (hold i (by omega))
      · rw [if_neg a, if_neg b] at e'
        exact l.ext.inv.inj i j (by omega) (by omega) e'
    · intro i hi
      have hi' : i < W.k + 1 := hi
      show ∃ o, W1.P (if i = W.k then x else W.η i) = some o
      by_cases a : i = W.k
      · rw [if_pos a]; exact ⟨_, hx1⟩
      · rw [if_neg a]
        exact i1.ent i (show i < W.k by omega)
  have le0 : ∀ (h0 : Heap), h0.get? x = none → h0.get? dx = none → Wle W W' h0 := fun h0 q1 q2 => by
    have l1 : Wle W W1 h0 := (Wle.put l.pd q2).trans (Wle.put hp1 q1) fun _ q => q
    refine ⟨l1.sub, l1.new, fun i hi => ?_, Nat.le_succ _⟩
    show (if i = W.k then x else W.η i) = W.η i
    rw [if_neg (Nat.ne_of_lt hi)]
  refine ⟨W', ⟨l.ext.same, l.ext.keep, l.ext.le.trans (le0 s0.heap l.fx l.fd) fun _ q => q, iF⟩, rfl, ?_⟩
  have L0 : Wsub W W' := le0 {} (empty_get _) (empty_get _)
  have hη : W'.η W.k = x := by show (if W.k = W.k then x else _) = x; rw [if_pos rfl]
  have r : Rep W' (.ref (W'.η W.k)) (.ent W.k ag ru de) := by
    refine .ent (va := va) (vr := vr) (vd := vd) (Nat.lt_succ_self _) ⟨dx, ?_, ⟨es, ep, hd1, h2, fun y => (h3 y).trans (hm y)⟩, ?_⟩ (ra.mono L0) (rr.mono L0) (rd.mono L0)
    · rw [hη]; exact hx1
    · rw [hη]; exact l.ne
  rw [hη] at r
  exact r

/-- one store of a record's attribute, in a frame that holds it -/
theorem set_stmt {A : Around} {env : Env} {ρ : Rho} {x dx : Addr} {W0 W : Wd} {s0 s : Shared} {m : Str → Option Value} {k : Nat} {nm y : Str} {value : Expr} {pn pa p : Pos} {f : Ex} {d : D} {k' : Nat} {Q : Flow → Shared → Prop} {E : Value → Shared → Prop}
    (gn : Gnd prog w G mg mb) (hv : SE prog w G n sc value f) (hn : nameOk sc nm = true) (hR : Room A n) (hs : env.scope = sc) (he : EnvOk env ρ W [] s) (l : Live G x dx W0 s0 W m k s) (hk : k ≤ 1000) (hO : ¬ Own env [] dx) (ht : takerIn (hd.heap_39 w.params) entCls y = some none) (hρ : ρ nm = some (.fn x)) (hf : f ρ W.k = some (d, k'))
    (hsw : swapsWith value (some (.Attribute (.Name nm pn) y pa)) p.line env = pure false)
    (h : ∀ v W' s', W'.k = k' → Rep W' v d → Wle W W' s.heap → Live G x dx W0 s0 W' (fun z => if z = y then some v else m z) (k + 1) s' → EnvOk env ρ W' [] s' → Q .next s') : wpAny (model prog w) A (exec (.Assign [.Attribute (.Name nm pn) y pa] value p) env) Q E s := by
  refine plainObj_wpAny_Assign_Attribute (hv A env ρ W [] s _ E hR hs he l.ext.inv d k' hf fun v W1 s1 x1 e1 r1 => ?_) hsw
  have l1 := l.step x1
  have he1 := he.ext l.ext.inv x1
  refine se_name (n := n) hn A env ρ W1 [] s1 _ E hR hs he1 x1.inv (.fn x) W1.k (by unfold varE; rw [hρ]) fun vx W2 s2 x2 e2 r2 => ?_
  have l2 := l1.step x2
  have he2 := he1.ext x1.inv x2
  have hvx : vx = .ref x := by cases r2; rfl
  subst hvx
  refine l2.set gn hk ht fun s3 l3 he3 _ => h v W2 s3 (e2.trans e1) (r1.mono x2.le) (x1.trans x2).le l3 (he3 env ρ hO he2)
end
end Mine
end

section
open PySem PySem.W PySem.Calls PyProof.Rows PySem.SeqAt
open Builtin Builtin.ObjectAttr
set_option Elab.async false
set_option maxRecDepth 100000
set_option linter.unusedVariables false
namespace Mine
section
variable {prog : Program} {w : World} {G : Heap} {mg mb : Str → Option Value} {n : Nat} {sc : Scope}
noncomputable def initMap (v1 v2 : Value) : Str → Option Value := fun z => if z = "req_rate" then some .none else if z = "delay" then some .none else if z = "rulelines" then some v2 else if z = "useragents" then some v1 else none
theorem init_ok {x dx : Addr} {A : Around} {W0 W : Wd} {s0 s : Shared} {R : Result → Shared → Prop} (gn : Gnd prog w G mg mb) (hR : Room A 1) (l : Live G x dx W0 s0 W (fun _ => none) 0 s)
    (h : ∀ v1 v2 W' s', Live G x dx W0 s0 W' (initMap v1 v2) 4 s' → W'.k = W.k → R (.ok (.ret .none)) s') : codeAny (model prog w) A (.call (.ref 28) ⟨[.ref x], []⟩) R s := by
  refine def_run (names := ["self"]) (n := 0) gn (def_at gn rfl rfl (by kernel_rfl) (fun vs h => by obtain ⟨a0, rfl⟩ := len_1 h; rfl) (by decide +kernel)) rfl hR l.ext.inv fun env s1 hsc hR1 x1 hen hns hLn hcn hcell _ _ E' => ?_
  have l1 := l.step x1
  have he1 := hen (upd (fun _ => none) "self" (.fn x)) fun y d hy => by
    unfold upd at hy
    split at hy
    · rename_i q; cases hy; subst q
      exact ⟨.ref x, by simp, .fn x⟩
    · cases hy
  have hO : ¬ Own env [] dx := fun q => by
    obtain ⟨es, ep, hd, _⟩ := l.dict
    rcases q with q | ⟨y, q⟩ | q
    · rw [← q, hd] at hLn; cases hLn
    · rw [hcn y dx q] at hd; cases hd
    · cases q
  have hρ : upd (fun _ => none) (Str.ofString "self") (D.fn x) "self" = some (.fn x) := by unfold upd; rw [if_pos rfl]
  rw [execs_cons]
  refine wpAny_bind (set_stmt (sc := env.scope) gn (se_list sl_nil (by decide)) (by rw [hsc]; decide +kernel) hR1 rfl he1 l1 (by decide) hO (by kernel_rfl) hρ rfl rfl fun v1 W2 s2 e2 r2 _ l2 he2 => ?_)
  dsimp only
  rw [execs_cons]
  refine wpAny_bind (set_stmt (sc := env.scope) gn (se_list sl_nil (by decide)) (by rw [hsc]; decide +kernel) hR1 rfl he2 l2 (by decide) hO (by kernel_rfl) hρ rfl rfl fun v2 W3 s3 e3 r3 _ l3 he3 => ?_)
  dsimp only
  rw [execs_cons]
  refine wpAny_bind (set_stmt (sc := env.scope) gn se_none (by rw [hsc]; decide +kernel) hR1 rfl he3 l3 (by decide) hO (by kernel_rfl) hρ rfl rfl fun v3 W4 s4 e4 r4 _ l4 he4 => ?_)
  dsimp only
  rw [execs_cons]
  refine wpAny_bind (set_stmt (sc := env.scope) gn se_none (by rw [hsc]; decide +kernel) hR1 rfl he4 l4 (by decide) hO (by kernel_rfl) hρ rfl rfl fun v4 W5 s5 e5 r5 _ l5 he5 => ?_)
  dsimp only
  refine wpAny_execs_nil ?_
  have n3 : v3 = .none := by cases r4; rfl
  have n4 : v4 = .none := by cases r5; rfl
  subst n3 n4
  exact h v1 v2 W5 s5 l5 (by rw [e5, e4, e3, e2])

theorem room_under {A : Around} (h : Room A (n + 1)) (rest : List Value) : Room (A.under (.builtin "type.__call__" ⟨.ref entCls :: rest, []⟩)) n := by
  obtain ⟨h1, h2, h3, env, l, h4, h5⟩ := h
  have e1 : (Code.builtin "type.__call__" ⟨.ref entCls :: rest, []⟩).weight = 1 := by rfl
  have e2 : (Code.builtin "type.__call__" ⟨.ref entCls :: rest, []⟩).cUnits = 1 := by rfl
  refine ⟨h1, ?_, ?_, env, l, ?_, h5⟩
  · show A.depth + _ + n < 900
    rw [e1]; omega
  · show A.units + _ + 8 * n + 400 < 9000
    rw [e2]; omega
  · have e3 : (Code.builtin "type.__call__" ⟨.ref entCls :: rest, []⟩).envs = [] := by rfl
    unfold Around.under
    dsimp only
    rw [e3, h4]; rfl
theorem make_entry {A : Around} {W : Wd} {s : Shared} {Q : Value → Shared → Prop} {E : Value → Shared → Prop} (gn : Gnd prog w G mg mb) (hR : Room A 2) (hi : Inv G W s)
    (h : ∀ x dx v1 v2 W' s', Live G x dx W s W' (initMap v1 v2) 4 s' → W'.k = W.k → Q (.ref x) s') : wpAny (model prog w) A (call (.ref entCls) []) Q E s := by
  have X : (hd.heap_39 w.params).In s.heap := fun b o q => hi.sub0 b o (gn.X b o q)
  obtain ⟨hh, g, d, t, os⟩ := s
  refine wpAny_call (make_core (init := .ref 28) (makes_of X (by kernel_rfl)) (looks_findIn X (by kernel_rfl)) (fun self => bind_fn X self (by kernel_rfl)) (.inl rfl) ?_)
  have k1 : ∀ b o, hh.get? b = some o → ((hh.push emptyDict).push (instObj entCls hh.objs.size)).get? b = some o := fun b o e => Heap.get?_push_of_some _ (Heap.get?_push_of_some _ e)
  have x1 : Ext G W ⟨hh, g, d, t, os⟩ W ⟨(hh.push emptyDict).push (instObj entCls hh.objs.size), g, d, t, os⟩ := Ext.keeps (tk := t) hi k1
  have hz : (hh.push emptyDict).objs.size = hh.objs.size + 1 := Heap.size_push ..
  have hx : ((hh.push emptyDict).push (instObj entCls hh.objs.size)).get? (hh.objs.size + 1) = some (instObj entCls hh.objs.size) := by
    rw [← hz]; exact Heap.get?_push_size _ rfl
  have hdx : ((hh.push emptyDict).push (instObj entCls hh.objs.size)).get? hh.objs.size = some emptyDict := Heap.get?_push_of_some _ (Heap.get?_push_size _ rfl)
  have f1 : hh.get? (hh.objs.size + 1) = none := by
    cases e : hh.get? (hh.objs.size + 1) with
    | none => rfl
    | some o => exact absurd (Heap.lt_size e) (Nat.not_lt.mpr (Nat.le_succ _))
  have f2 : hh.get? hh.objs.size = none := Heap.new_none hh
  have l : Live G (hh.objs.size + 1) hh.objs.size W ⟨hh, g, d, t, os⟩ W (fun _ => none) 0 ⟨(hh.push emptyDict).push (instObj entCls hh.objs.size), g, d, t, os⟩ :=
    ⟨x1, hx, ⟨#[], _, hdx, fun e he => absurd he (by simp), fun _ => rfl, Nat.le_refl _⟩, hi.none_of f1, hi.none_of f2, f1, f2, Nat.succ_ne_self _⟩
  refine init_ok gn (room_under hR []) l fun v1 v2 W' s' l' e' => ⟨rfl, ?_⟩
  exact h _ _ v1 v2 W' s' l' e'
theorem eval_Entry {A : Around} {env : Env} {ρ : Rho} {W : Wd} {s : Shared} {p pos : Pos} {Q : Value → Shared → Prop} {E : Value → Shared → Prop} (gn : Gnd prog w G mg mb) (hg : isGlob sc "Entry" = true) (hR : Room A 2) (hs : env.scope = sc) (he : EnvOk env ρ W [] s) (hi : Inv G W s)
    (h : ∀ x dx v1 v2 W' s', Live G x dx W s W' (initMap v1 v2) 4 s' → W'.k = W.k → Q (.ref x) s') : wpAny (model prog w) A (eval (.Call (.Name "Entry" p) [] [] pos) env) Q E s := by
  refine wpAny_Call_NameR (glob_fn (v := .ref 52) gn he hi hs hg (by kernel_rfl) (by decide +kernel) ?_)
  refine callWith_KW0 (kws := []) (K := hd.heap_39 w.params) (h₀ := G) gn.X (by kernel_rfl) rfl ?_
  refine wpAny_pure ⟨fun b o q => hi.sub0 b o (gn.X b o q), ?_⟩
  exact make_entry gn hR hi h
end
end Mine
end

section
open PySem PySem.W PySem.Calls PyProof.Rows PySem.SeqAt
open Builtin Builtin.ObjectAttr
set_option Elab.async false
set_option maxRecDepth 100000
set_option linter.unusedVariables false
namespace Mine
section
variable {prog : Program} {w : World} {G : Heap} {mg mb : Str → Option Value} {n : Nat} {sc : Scope}
theorem Live.rebase {x dx : Addr} {W00 W0 W : Wd} {s00 s0 s : Shared} {m : Str → Option Value} {k : Nat} (e : Ext G W00 s00 W0 s0) (l : Live G x dx W0 s0 W m k s) : Live G x dx W00 s00 W m k s :=
  ⟨e.trans l.ext, l.xo, l.dict, l.px, l.pd, e.dead l.fx, e.dead l.fd, l.ne⟩

/-- entry = Entry() in a frame of its own -/
theorem first_stmt {A : Around} {env : Env} {ρ : Rho} {W0 W : Wd} {s0 s : Shared} {nm : Str} {pn p pos pos2 : Pos} {Q : Flow → Shared → Prop} {E : Value → Shared → Prop} (gn : Gnd prog w G mg mb) (hg : isGlob sc "Entry" = true) (hb : bindOk sc nm = true) (hR : Room A 2) (hs : env.scope = sc) (he : EnvOk env ρ W [] s) (hi : Inv G W s)
    (e0 : Ext G W0 s0 W s) (hLn : s0.heap.get? env.locals = none) (hcn : ∀ y c, env.cells.lookup y = some c → s0.heap.get? c = none)
    (h : ∀ x dx v1 v2 W' s', Live G x dx W0 s0 W' (initMap v1 v2) 4 s' → W'.k = W.k → Wle W W' s.heap → EnvOk env (upd ρ nm (.fn x)) W' [] s' → ¬ Own env [] dx → Q .next s') :
    wpAny (model prog w) A (exec (.Assign [.Name nm pn] (.Call (.Name "Entry" p) [] [] pos) pos2) env) Q E s := by
  refine wpAny_Assign_Name (eval_Entry (sc := sc) gn hg hR hs he hi fun x dx v1 v2 W1 s1 l1 e1 => ?_) rfl
  have hnO : ∀ b, s.heap.get? b = none → ¬ Own env [] b := fun b hb q => by
    obtain ⟨o, h1, _⟩ := he.own_live q
    rw [hb] at h1; cases h1
  have he1 := he.ext hi l1.ext
  have l2 := l1.rebase e0
  obtain ⟨h1', t1', hs1⟩ := l2.ext.same
  obtain ⟨t1, t2⟩ := l2.xT
  refine st_ok (G := G) he1 l1.ext.inv (by rw [hs]; exact hb) (v := .ref x) (d := .fn x) (Rep.fn x) fun h2 tk2 hk2 hl2 he2 hi2 => ?_
  have hpO : ∀ b, ¬ Own env [] b → ¬ Pl env nm b := fun b hb q => hb (pl_own q)
  have hPs0 : ∀ b, Pl env nm b → s0.heap.get? b = none := fun b q => by
    rcases q with ⟨_, q⟩ | ⟨_, q⟩
    · rw [q]; exact hLn
    · exact hcn _ _ q
  have hx2 : h2.get? x = some (instObj entCls dx) := hk2 _ _ (hpO _ (hnO _ l1.fx)) l2.xo
  have hd2 : DictAt h2 dx (initMap v1 v2) 4 := l2.dict.keeps fun o q => hk2 _ _ (hpO _ (hnO _ l1.fd)) q
  have e2 : Ext G W0 s0 W1 { s1 with heap := h2, toks := tk2 } := ⟨⟨h2, tk2, by rw [hs1]⟩, fun b o hb e => hk2 b o (fun q => by rw [hPs0 b q] at e; cases e) (l2.ext.keep b o hb e), l2.ext.le, hi2⟩
  exact h x dx v1 v2 W1 _ ⟨e2, hx2, hd2, l2.px, l2.pd, l2.fx, l2.fd, l2.ne⟩ e1 l1.ext.le he2 (hnO _ l1.fd)

theorem set_target {A : Around} {env : Env} {ρ : Rho} {x dx : Addr} {W0 W : Wd} {s0 s : Shared} {m : Str → Option Value} {k : Nat} {nm y : Str} {pn pa : Pos} {v : Value} {Q : Unit → Shared → Prop} {E : Value → Shared → Prop}
    (gn : Gnd prog w G mg mb) (hn : nameOk sc nm = true) (hR : Room A n) (hs : env.scope = sc) (he : EnvOk env ρ W [] s) (l : Live G x dx W0 s0 W m k s) (hk : k ≤ 1000) (hO : ¬ Own env [] dx) (ht : takerIn (hd.heap_39 w.params) entCls y = some none) (hρ : ρ nm = some (.fn x))
    (h : ∀ W' s', W'.k = W.k → Wle W W' s.heap → Live G x dx W0 s0 W' (fun z => if z = y then some v else m z) (k + 1) s' → EnvOk env ρ W' [] s' → Q () s') : wpAny (model prog w) A (assign (.Attribute (.Name nm pn) y pa) env v) Q E s := by
  rw [assign_Attribute]
  refine wpAny_bind (wpAny_holding (se_name (n := n) hn A env ρ W [] s _ E hR hs he l.ext.inv (.fn x) W.k (by unfold varE; rw [hρ]) fun vx W2 s2 x2 e2 r2 => ?_))
  have l2 := l.step x2
  have he2 := he.ext l.ext.inv x2
  have hvx : vx = .ref x := by cases r2; rfl
  subst hvx
  refine wpAny_bind (wpAny_standAt (wpAny_bind (wpAny_holding (l2.set gn hk ht fun s3 l3 he3 _ => ?_))))
  exact wpAny_release (h W2 s3 e2 x2.le l3 (he3 env ρ hO he2))

noncomputable def entryF : Fx := fun ds k => match ds with
  | [.list ag, .list ru, de] => some (.ent k ag ru de, k + 1)
  | _ => none
theorem Live.map {x dx : Addr} {W0 W : Wd} {s0 s : Shared} {m m' : Str → Option Value} {k : Nat} (l : Live G x dx W0 s0 W m k s) (h : ∀ y, m y = m' y) : Live G x dx W0 s0 W m' k s := by
  have : m = m' := funext h
  subst this; exact l
theorem ret_live {A : Around} {env : Env} {ρ : Rho} {x dx : Addr} {W0 W : Wd} {s0 s : Shared} {m : Str → Option Value} {k : Nat} {nm : Str} {pn p : Pos} {Q : Flow → Shared → Prop} {E : Value → Shared → Prop} (hn : nameOk sc nm = true) (hR : Room A n) (hs : env.scope = sc) (he : EnvOk env ρ W [] s) (l : Live G x dx W0 s0 W m k s) (hρ : ρ nm = some (.fn x))
    (h : ∀ W' s', W'.k = W.k → Wle W W' s.heap → Live G x dx W0 s0 W' m k s' → Q (.ret (.ref x)) s') : wpAny (model prog w) A (exec (.Return (some (.Name nm pn)) p) env) Q E s := by
  refine wpAny_Return_some (se_name (n := n) hn A env ρ W [] s _ E hR hs he l.ext.inv (.fn x) W.k (by unfold varE; rw [hρ]) fun vx W2 s2 x2 e2 r2 => ?_)
  have hvx : vx = .ref x := by cases r2; rfl
  subst hvx
  exact h W2 s2 e2 x2.le (l.step x2)
theorem upd_ne {ρ : Rho} {x y : Str} {d : D} (h : y ≠ x) : upd ρ x d y = ρ y := by unfold upd; rw [if_neg h]
theorem upd_eq {ρ : Rho} {x : Str} {d : D} : upd ρ x d x = some d := by unfold upd; rw [if_pos rfl]
theorem entry_ok (gn : Gnd prog w G mg mb) : CallOk prog w G 3 140 entryF := by
  intro A W s vs ds Q E d k' hR hi hr hf hQ
  unfold entryF at hf
  split at hf
  · rename_i ag ru de
    cases hf
    obtain ⟨va, _, rfl, ra, hr1⟩ := repL_cons hr
    obtain ⟨vr, _, rfl, rr, hr2⟩ := repL_cons hr1
    obtain ⟨vd, _, rfl, rd, hr3⟩ := repL_cons hr2
    obtain rfl := repL_nil hr3
    clear hr hr1 hr2 hr3
    refine wpAny_call (def_run (names := ["agents", "rules", "delay"]) (n := 2) gn (def_at gn rfl rfl (by kernel_rfl) (fun vs h => by obtain ⟨a0, a1, a2, rfl⟩ := len_3 h; rfl) (by decide +kernel)) rfl hR hi fun env s1 hsc hR1 x1 hen hns hLn hcn _ _ _ E' => ?_)
    have he1 := hen (bindP ["agents", "rules", "delay"] [.list ag, .list ru, de]) fun y d hy => zip_rep (.cons ra (.cons rr (.cons rd .nil))) hy
    rw [execs_cons]
    refine wpAny_bind (first_stmt (sc := env.scope) gn (by rw [hsc]; decide +kernel) (by rw [hsc]; decide +kernel) hR1 rfl he1 x1.inv x1 hLn hcn fun x dx v1 v2 W2 s2 l2 e2 le2 he2 hO => ?_)
    dsimp only
    rw [execs_cons]
    have hρe : ∀ y, y ≠ Str.ofString "entry" → upd (bindP ["agents", "rules", "delay"] [.list ag, .list ru, de]) (Str.ofString "entry") (.fn x) y = bindP ["agents", "rules", "delay"] [.list ag, .list ru, de] y := fun y h => upd_ne h
    have hva : ∀ y d, y ≠ Str.ofString "entry" → bindP ["agents", "rules", "delay"] [.list ag, .list ru, de] y = some d → (∀ xs, d ≠ .own xs) → varE y (upd (bindP ["agents", "rules", "delay"] [.list ag, .list ru, de]) (Str.ofString "entry") (.fn x)) W2.k = some (d, W2.k) := fun y d h1 h2 h3 => by
      unfold varE
      rw [hρe y h1, h2]
      cases d <;> first | rfl | exact absurd rfl (h3 _)
    have hde : ∀ xs, de ≠ .own xs := fun xs q => by subst q; cases rd
    have b1 : bindP ["agents", "rules", "delay"] [.list ag, .list ru, de] "agents" = some (.list ag) := by
      simp [bindP]
    have b2 : bindP ["agents", "rules", "delay"] [.list ag, .list ru, de] "rules" = some (.list ru) := by
      have q : ((Str.ofString "rules") == (Str.ofString "agents")) = false := by decide +kernel
      simp [bindP, List.lookup_cons, q]
    have b3 : bindP ["agents", "rules", "delay"] [.list ag, .list ru, de] "delay" = some de := by
      have q : ((Str.ofString "delay") == (Str.ofString "agents")) = false := by decide +kernel
      have q2 : ((Str.ofString "delay") == (Str.ofString "rules")) = false := by decide +kernel
      simp [bindP, List.lookup_cons, q, q2]
    have nk : ∀ x : String, True := fun _ => trivial
    refine wpAny_bind (PyProof.Rows.Assign_Tuple (tup_value (sc := env.scope) (n := 2) (g := consL (varE "agents") (consL (varE "rules") (consL (varE "delay") nilL))) (ds := [.list ag, .list ru, de]) (k' := W2.k)
      (sl_cons (se_name (by rw [hsc]; decide +kernel)) (sl_cons (se_name (by rw [hsc]; decide +kernel)) (sl_cons (se_name (by rw [hsc]; decide +kernel)) sl_nil (fun _ => rfl)) (fun _ => rfl)) (fun _ => rfl)) (by decide) hR1 rfl he2 l2.ext.inv ?_ fun a us W3 s3 x3 e3 r3 ht hul => ?_) rfl (swapped_of (sc := env.scope) env rfl (by rw [hsc]; kernel_rfl)))
    · unfold consL
      rw [hva "agents" _ (by decide +kernel) b1 (fun xs q => by cases q)]
      dsimp only
      rw [hva "rules" _ (by decide +kernel) b2 (fun xs q => by cases q)]
      dsimp only
      rw [hva "delay" _ (by decide +kernel) b3 hde]
      rfl
    · obtain ⟨ua, _, rfl, ra3, r4⟩ := repL_cons r3
      obtain ⟨ur, _, rfl, rr3, r5⟩ := repL_cons r4
      obtain ⟨ud, _, rfl, rd3, r6⟩ := repL_cons r5
      obtain rfl := repL_nil r6
      clear r3 r4 r5 r6
      have l3 := l2.step x3
      have he3 := he2.ext l2.ext.inv x3
      refine wpAny_assign_Tuple (items := #[ua, ur, ud]) hR1.1 ht rfl rfl fun h4 hx4 => ?_
      have hk4 : ∀ b o, s3.heap.get? b = some o → h4.get? b = some o := fun b o e => hx4 b o (fun q => by subst q; exact absurd (Heap.lt_size e) (Nat.lt_irrefl _)) e
      have x4 := Ext.keeps (tk := s3.toks) x3.inv hk4
      have l4 := l3.step x4
      have he4 := he3.ext x3.inv x4
      have hρx : upd (bindP ["agents", "rules", "delay"] [.list ag, .list ru, de]) (Str.ofString "entry") (.fn x) "entry" = some (.fn x) := upd_eq
      refine wpAny_bind (wpAny_holding (set_target (sc := env.scope) gn (by rw [hsc]; decide +kernel) hR1 rfl he4 l4 (by decide) hO (by kernel_rfl) hρx fun W5 s5 e5 le5 l5 he5 => ?_))
      refine wpAny_bind (wpAny_holding (set_target (sc := env.scope) gn (by rw [hsc]; decide +kernel) hR1 rfl he5 l5 (by decide) hO (by kernel_rfl) hρx fun W6 s6 e6 le6 l6 he6 => ?_))
      refine wpAny_bind (wpAny_holding (set_target (sc := env.scope) gn (by rw [hsc]; decide +kernel) hR1 rfl he6 l6 (by decide) hO (by kernel_rfl) hρx fun W7 s7 e7 le7 l7 he7 => ?_))
      refine wpAny_pure ?_
      dsimp only
      rw [execs_cons]
      refine wpAny_bind (ret_live (sc := env.scope) (by rw [hsc]; decide +kernel) hR1 rfl he7 l7 hρx fun W8 s8 e8 le8 l8 => wpAny_pure ?_)
      have up : ∀ {v d}, Rep W3 v d → Rep W8 v d := fun r => (((r.mono le5).mono le6).mono le7).mono le8
      have hm : ∀ y : Str, (fun z : Str => if z = "delay" then some ud else (fun z : Str => if z = "rulelines" then some ur else (fun z : Str => if z = "useragents" then some ua else initMap v1 v2 z) z) z) y = entMap ua ur ud y := fun y => by
        unfold entMap initMap
        by_cases y1 : y = "delay"
        · subst y1; dsimp only; rw [if_pos rfl, if_neg (by decide +kernel), if_neg (by decide +kernel), if_pos rfl]
        · by_cases y2 : y = "rulelines"
          · subst y2; dsimp only; rw [if_neg (by decide +kernel), if_pos rfl, if_neg (by decide +kernel), if_pos rfl]
          · by_cases y3 : y = "useragents"
            · subst y3; dsimp only; rw [if_neg (by decide +kernel), if_neg (by decide +kernel), if_pos rfl, if_pos rfl]
            · simp only [y1, y2, y3, if_false]
      obtain ⟨W9, x9, k9, r9⟩ := l8.freeze (va := ua) (vr := ur) (vd := ud) hm (up ra3) (up rr3) (up rd3)
      have hkk : W8.k = W.k := by rw [e8, e7, e6, e5, e3, e2]
      rw [hkk] at k9 r9
      exact hQ _ W9 s8 x9 k9 r9
  · cases hf
end
end Mine
end

section
open PySem PySem.W PySem.Calls PyProof.Rows PySem.SeqAt
open Builtin Builtin.ObjectAttr
set_option Elab.async false
set_option maxRecDepth 100000
set_option linter.unusedVariables false
namespace Mine
section
variable {prog : Program} {w : World} {A : Around} {E : Value → Shared → Prop} {s : Shared}

/-! a set of texts out of a list -/
theorem setLoop {S I l : Addr} {lt : List (Str × Tok)} {R : Result → Shared → Prop} (hh : A.handled = none) (hSI : S ≠ I) (hSl : S ≠ l) (hlI : l ≠ I) (hb : lt.length + 1 < scanBound) :
    ∀ (k i c : Nat) (s : Shared), lt.length - i = k → i ≤ lt.length → s.heap.IsListIter I l i → s.heap.IsList l (strValues lt).toArray → c ≤ i → s.heap.SetOf (PySem.strKind prog w) S (fun y => decide (y ∈ (lt.take i).map (·.1))) c →
      (∀ h' tk c', (∀ b o, b ≠ S → b ≠ I → s.heap.get? b = some o → h'.get? b = some o) → c' ≤ lt.length → h'.SetOf (PySem.strKind prog w) S (fun y => decide (y ∈ lt.map (·.1))) c' → R (.ok (.ret .none)) { s with heap := h', toks := tk }) →
      codeAny (model prog w) A (.builtin "set.update.loop" ⟨[.ref S, .ref I], []⟩) R s := by
  intro k
  induction k with
  | zero =>
    intro i c s hk hi hit hl hc hS hR
    have hin : i = lt.length := by omega
    subst hin
    refine codeAny_builtin F.entry_set_update_loop ?_
    rw [Around.under_plainId F.plain_set_update_loop _]
    show wpAny _ A.in1 (pyNext (.ref I) >>= _) _ _ s
    refine wpAny_bind (wpAny_pyNext_list_end hh hit hl (by simp [strValues]) fun h' hx => ?_)
    show wpAny _ A.in1 (ret Value.none) _ _ _
    refine wpAny_pure (hR h' s.toks c (fun b o h1 h2 e => hx b o h2 e) hc ?_)
    rw [List.take_length] at hS
    obtain ⟨o, es, ep, t, ho, rest⟩ := hS
    exact ⟨o, es, ep, t, hx S o hSI ho, rest⟩
  | succ k ih =>
    intro i c s hk hi hit hl hc hS hR
    have hlt : i < lt.length := by omega
    refine codeAny_builtin F.entry_set_update_loop ?_
    rw [Around.under_plainId F.plain_set_update_loop _]
    show wpAny _ A.in1 (pyNext (.ref I) >>= _) _ _ s
    refine wpAny_bind (wpAny_pyNext_list_item hit hl (x := .str lt[i].1 lt[i].2) (by simp [strValues, hlt]) fun h1 hit1 hs1 => ?_)
    have hS1 : h1.SetOf (PySem.strKind prog w) S (fun y => decide (y ∈ (lt.take i).map (·.1))) c := by
      obtain ⟨o, es, ep, t, ho, rest⟩ := hS
      exact ⟨o, es, ep, t, hs1.extBut S o hSI ho, rest⟩
    show wpAny _ A.in1 (holding [Value.str lt[i].1 lt[i].2] (setAdd S (.str lt[i].1 lt[i].2)) >>= _) _ _ _
    refine wpAny_bind (wpAny_holding ?_)
    unfold setAdd
    refine wpAny_holding ?_
    refine wpAny_bind ((PySem.strKind prog w).pyHash (k := lt[i].1) (strKind_is _ _ _ _) ?_)
    refine wpAny_setAddHashed_of (knd := PySem.strKind prog w) (s := { s with heap := h1, toks := s.toks + 1 }) (strKind_is _ _ _ _) rfl hS1 (by omega) fun h2 hs2 hS2 => ?_
    have hit2 : h2.IsListIter I l (i + 1) := by
      obtain ⟨o, ho, r⟩ := hit1
      exact ⟨o, hs2.extBut I o hSI.symm ho, r⟩
    have hl2 : h2.IsList l (strValues lt).toArray := by
      obtain ⟨o, ho, r⟩ := hl
      exact ⟨o, hs2.extBut l o hSl.symm (hs1.extBut l o hlI ho), r⟩
    have hS2' : h2.SetOf (PySem.strKind prog w) S (fun y => decide (y ∈ (lt.take (i + 1)).map (·.1))) (if decide (lt[i].1 ∈ (lt.take i).map (·.1)) = true then c else c + 1) := by
      refine SetOf_congr hS2 (fun y => ?_) rfl
      rw [List.take_succ_eq_append_getElem hlt, List.map_append]
      simp only [List.map_cons, List.map_nil, List.mem_append, List.mem_cons, List.not_mem_nil, or_false, Bool.decide_or]
    refine wpAny_pure ⟨plainId_quiet F.plain_set_update_loop _, ih (i + 1) _ _ (by omega) hlt hit2 hl2 ?_ hS2' fun h3 tk c' hk3 hc' hS3 => ?_⟩
    · split <;> omega
    · exact hR h3 tk c' (fun b o q1 q2 e => hk3 b o q1 q2 (hs2.extBut b o q1 (hs1.extBut b o q2 e))) hc' hS3

set_option maxHeartbeats 3200000 in
theorem call_setStrs {l : Addr} {lt : List (Str × Tok)} {Q : Value → Shared → Prop} (hh : A.handled = none) (hl : s.heap.IsList l (strValues lt).toArray) (hb : lt.length + 1 < scanBound)
    (h : ∀ (h' : Heap) (tk c : Nat), h'.SetOf (PySem.strKind prog w) s.heap.objs.size (fun y => decide (y ∈ lt.map (·.1))) c → c < scanBound →
      (∀ b o, s.heap.get? b = some o → h'.get? b = some o) → Q (.ref s.heap.objs.size) { s with heap := h', toks := tk }) :
    wpAny (model prog w) A (call (.type "set") [.ref l]) Q E s := by
  obtain ⟨c0, tl, hmro⟩ := F.called_set.mro
  have hmade := F.called_set.made
  have hsub := F.called_set.sub
  refine wpAny_call (codeAny_of_tree ?_)
  show wpAny _ _ (callAny (.type "set") _) _ _ _
  refine wpAny_pure ⟨Code.quiet_builtin _ (by decide +kernel), codeAny_builtin F.entry_type_call ?_⟩
  rw [Around.under_plain (weight_type_call_type "set" [.ref l] []) rfl]
  have h1 := F.called_set.notType
  have h2 := F.called_set.canCreate
  have hct := F.typeCall_set_1 (.ref l)
  repeat (any_goals (first | assumption | wp_step))
  refine codeAny_mono (code_set_new_1 (.ref l) (E := E) (Q₁ := fun obj s₁ => ∃ led : Bool, obj = .ref s.heap.objs.size ∧ s₁ = { s with heap := s.heap.push { cls := .type "set", dict := none, data := .set #[] 0 (.fresh 0 0 led) } }) fun led => ⟨led, rfl, rfl⟩) fun r s₁ hr => ?_
  rcases r with e | (obj | _ | _ | _) <;> first | exact hr | exact hr.elim | skip
  obtain ⟨led, rfl, rfl⟩ := hr
  have hS : (s.heap.push { cls := .type "set", dict := none, data := .set #[] 0 (.fresh 0 0 led) }).get? s.heap.objs.size = some { cls := .type "set", dict := none, data := .set #[] 0 (.fresh 0 0 led) } := Heap.get?_push_size _ rfl
  have hT : Shared.TypeIs { s with heap := s.heap.push { cls := .type "set", dict := none, data := .set #[] 0 (.fresh 0 0 led) } } (.ref s.heap.objs.size) "set" := ⟨_, hS, rfl⟩
  have hli := F.called_set.init.lookup
  have hbi := F.called_set.init.bind (.ref s.heap.objs.size)
  repeat (any_goals (first | assumption | wp_step))
  refine codeAny_mono (codeAny_call_builtin (R := wants (fun r s₂ => r = .none ∧ ∃ h' tk c, s₂ = { s with heap := h', toks := tk } ∧
      h'.SetOf (PySem.strKind prog w) s.heap.objs.size (fun y => decide (y ∈ lt.map (·.1))) c ∧ c < scanBound ∧ (∀ b o, s.heap.get? b = some o → h'.get? b = some o)) E) F.called_set.init.plain F.entry_set_init (check_set_init_1 hT ?_)) fun r₂ s₂ hr₂ => ?_
  · generalize hgi : (strValues lt).toArray = items at hl
    have hlS : l < s.heap.objs.size := by obtain ⟨o, ho, _⟩ := hl; exact Heap.lt_size ho
    obtain ⟨ol, hol, hcl, nl, hdl⟩ := hl
    obtain ⟨ocls, odict, odata, oslots⟩ := ol
    simp only at hcl hdl
    subst hcl; subst hdl
    have hol' : (s.heap.push { cls := .type "set", dict := none, data := .set #[] 0 (.fresh 0 0 led) }).get? l = some { cls := .type "list", dict := odict, data := .seq items nl, slots := oslots } := Heap.get?_push_of_some _ hol
    have hsls := F.sub_list_set
    have hslf := F.sub_list_frozenset
    have hne : (Value.type "list" == Value.type "dict") = false := by decide
    have hl1 : (s.heap.push { cls := .type "set", dict := none, data := .set #[] 0 (.fresh 0 0 led) }).IsList l items := ⟨_, hol', rfl, nl, rfl⟩
    unfold Builtin.«set.__init__» noKeywords Builtin.Frozenset.updateFrom
    generalize hPI : pyIter = PI
    wp_walk
    subst hPI
    refine wpAny_pyIter_list hl1 ?_
    refine wpAny_bind (wpAny_runValue ?_)
    subst hgi
    have hz : (s.heap.push { cls := .type "set", dict := none, data := .set #[] 0 (.fresh 0 0 led) }).objs.size = s.heap.objs.size + 1 := Heap.size_push ..
    have hh3 : A.in1.in1.handled = none := hh
    have hS2 : ((s.heap.push { cls := .type "set", dict := none, data := .set #[] 0 (.fresh 0 0 led) }).push { cls := .type "list_iterator", data := .fields #[.ref l, .int 0 0] }).get? s.heap.objs.size
        = some { cls := .type "set", dict := none, data := .set #[] 0 (.fresh 0 0 led) } := Heap.get?_push_of_some _ hS
    refine setLoop (A := A.in1.in1) (S := s.heap.objs.size) (I := (s.heap.push { cls := .type "set", dict := none, data := .set #[] 0 (.fresh 0 0 led) }).objs.size) (l := l) hh3 ?_ ?_ ?_ hb (lt.length - 0) 0 0 _ (by omega) (Nat.zero_le _)
      ?_ ?_ (Nat.le_refl _) ?_ fun h' tk c hk hc hS' => ?_
    · rw [hz]; exact Nat.ne_of_lt (Nat.lt_succ_self _)
    · exact Nat.ne_of_gt hlS
    · rw [hz]; exact Nat.ne_of_lt (Nat.lt_succ_of_lt hlS)
    · exact ⟨_, Heap.get?_push_size _ rfl, rfl, rfl⟩
    · exact hl1.push _
    · exact SetOf_congr ((setObjOf_fresh (knd := PySem.strKind prog w) led).setOf hS2 (by unfold scanBound; omega)) (fun y => by simp) rfl
    · show wpAny _ _ _ _ _ _
      refine wpAny_pure ?_
      show wpAny _ _ (ret Value.none) _ _ _
      refine wpAny_pure ⟨rfl, h', tk, c, rfl, hS', by omega, fun b o e => ?_⟩
      have hb1 := Heap.lt_size e
      exact hk b o (Nat.ne_of_lt hb1) (by rw [hz]; exact Nat.ne_of_lt (Nat.lt_succ_of_lt hb1)) (Heap.get?_push_of_some _ (Heap.get?_push_of_some _ e))
  · rcases r₂ with e | (r | _ | _ | _) <;> first | exact hr₂ | exact hr₂.elim | skip
    obtain ⟨rfl, h', tk, c, rfl, hS', hc, hk'⟩ := hr₂
    repeat (any_goals (first | assumption | wp_step))
    exact h h' tk c hS' hc hk'
end
end Mine
end

section
open PySem PySem.W PySem.Calls PyProof.Rows PySem.SeqAt
open Builtin Builtin.ObjectAttr
set_option Elab.async false
set_option maxRecDepth 100000
set_option linter.unusedVariables false
namespace Mine
theorem slot_md_get : Slot "method_descriptor" "__get__" "method_descriptor.__get__" := .of (owner := "method_descriptor") (n := "__get__") (by rw [typeLookup_type, builtinLookup_eq_fast]; kernel_rfl) (by decide +kernel) (by decide +kernel) (by decide +kernel)
  (by first | exact .inl (by decide +kernel) | exact .inr (by decide +kernel)) (by rw [isSubtype_type]; kernel_rfl)
theorem entry_md_get : entryFor table "method_descriptor.__get__" = some Builtin.«method_descriptor.__get__» := entryFor_of_tree (by kernel_rfl)
theorem args_md_get (a b c : Value) : argsOk "method_descriptor.__get__" ⟨[a, b, c], []⟩ := by unfold argsOk; kernel_rfl
theorem typeOf_set_contains : typeOf (.builtin "set.__contains__") = pure (.type "method_descriptor") := by show builtinType _ = _; rw [builtinType_eq_fast]; kernel_rfl
theorem md_set : typeLookup (.type "method_descriptor") "__set__" = pure none := by rw [typeLookup_type, builtinLookup_eq_fast]; kernel_rfl
theorem md_delete : typeLookup (.type "method_descriptor") "__delete__" = pure none := by rw [typeLookup_type, builtinLookup_eq_fast]; kernel_rfl
theorem set_no_getattr : typeLookup (.type "set") "__getattr__" = pure none := by rw [typeLookup_type, builtinLookup_eq_fast]; kernel_rfl
theorem owner_contains : ".".intercalate ("set.__contains__".cutAt '.').dropLast = "set" := by decide +kernel
theorem sub_set_owner : isSubtype (.type "set") (.type (".".intercalate ("set.__contains__".cutAt '.').dropLast)) = pure true := by
  rw [owner_contains, isSubtype_type]; kernel_rfl
section
variable {prog : Program} {w : World} {A : Around} {E : Value → Shared → Prop} {h : Heap} {g : Array GenState} {d : Drawn} {t : Nat} {os : OsState}
noncomputable abbrev boundObj (id : String) (self : Value) : Obj := { cls := .type "builtin_function_or_method", data := .fields #[.builtin id, self] }
set_option maxHeartbeats 3200000 in
theorem contains_attr {S : Addr} {es : Array (Int × Value)} {ep : Nat} {tb : SetTable} {ex : Bool} {Q : Value → Shared → Prop} (hS : h.get? S = some { cls := .type "set", dict := none, data := .set es ep tb })
    (hQ : Q (.ref h.objs.size) ⟨h.push (boundObj "set.__contains__" (.ref S)), g, d, t + 1, os⟩) : wpAny (model prog w) A (getAttr (.ref S) "__contains__" ex) Q E ⟨h, g, d, t, os⟩ := by
  have hT : ∀ t', (⟨h, g, d, t', os⟩ : Shared).TypeIs (.ref S) "set" := fun _ => ⟨_, hS, rfl⟩
  have hTd : ∀ s : Shared, s.TypeIs (.builtin "set.__contains__") "method_descriptor" := fun s => typeOf_set_contains
  have f2 := F.slot_set_getattribute.lookup
  have f3 := F.slot_set_getattribute.bind (.ref S)
  have f4 := F.slot_set_contains.lookup
  have f5 := typeOf_set_contains
  have f6 := slot_md_get.lookup
  have f7 := md_set
  have f8 := md_delete
  have f9 := sub_set_owner
  have hget : ∀ (t' : Nat) (A' : Around) (Q' : Value → Shared → Prop) (E' : Value → Shared → Prop), Q' (.ref h.objs.size) ⟨h.push (boundObj "set.__contains__" (.ref S)), g, d, t', os⟩ →
      wpAny (model prog w) A' (call (.builtin "method_descriptor.__get__") [.builtin "set.__contains__", .ref S, .type "set"]) Q' E' ⟨h, g, d, t', os⟩ := fun t' A' Q' E' hq => by
    refine wpAny_call_entry slot_md_get (hTd _) entry_md_get ?_ (args_md_get _ _ _)
    unfold Builtin.«method_descriptor.__get__»
    repeat (any_goals (first | assumption | wp_step))
    exact ⟨_, rfl, hq⟩
  have hcall : ∀ (t' : Nat) (A' : Around) (tk : Tok) (Q' : Value → Shared → Prop) (E' : Value → Shared → Prop), Q' (.ref h.objs.size) ⟨h.push (boundObj "set.__contains__" (.ref S)), g, d, t', os⟩ →
      wpAny (model prog w) A' (call (.builtin "set.__getattribute__") [.ref S, .str "__contains__" tk]) Q' E' ⟨h, g, d, t', os⟩ := fun t' A' tk Q' E' hq => by
    refine wpAny_call_entry F.slot_set_getattribute (hT t') F.entry_set_ga ?_ (F.args_set_getattribute_2 _ _)
    unfold Builtin.«object.__getattribute__»
    repeat (any_goals (first | assumption | exact hT _ | (with_reducible refine hget _ _ _ _ ?_) | wp_step))
    exact ⟨_, rfl, hq⟩
  unfold getAttr getAttrBy
  repeat (any_goals (first | assumption | exact hT _ | (with_reducible refine hcall _ _ _ _ _ ?_) | wp_step))
  have hex : (ex && onTheHeap (Value.builtin "set.__getattribute__")) = false := by cases ex <;> rfl
  rw [hex, if_neg (by simp)]
  unfold boundAndCalled
  rw [f3]
  refine wpAny_bind (wpAny_pure (hcall _ _ _ _ _ ?_))
  show wpAny _ _ (handedOut (.ref h.objs.size)) _ _ _
  exact wpAny_pure hQ
end
end Mine
end

section
open PySem PySem.W PySem.Calls PyProof.Rows PySem.SeqAt
open Builtin Builtin.ObjectAttr
set_option Elab.async false
set_option maxRecDepth 100000
set_option linter.unusedVariables false
namespace Mine
theorem kind_contains : builtinKind "set.__contains__" = some .method := by kernel_rfl
theorem varargs_contains : Manifest.varargsMethods.contains "set.__contains__" = false := by decide +kernel
theorem sub_set_module : isSubtype (.type "set") (.type "module") = pure false := by rw [isSubtype_type]; kernel_rfl
theorem sub_set_type : isSubtype (.type "set") (.type "type") = pure false := by rw [isSubtype_type]; kernel_rfl
theorem sig_contains : ∃ sig, Manifest.signature? "set.__contains__" = some sig ∧ ∀ a b : Value, Bind.checkArgs "set.__contains__" { sig with full := s!"{Bind.lastOf "set"}.{Bind.lastOf "set.__contains__"}" } ⟨[a, b], []⟩ = pure () := by
  cases h : Manifest.signature? "set.__contains__" with
  | none =>
    have : (Manifest.signature? "set.__contains__").isSome = true := by decide +kernel
    rw [h] at this; cases this
  | some sig =>
    have h2 : (Manifest.signature? "set.__contains__").all (fun sig => decide (sig.machinery = .positional ∨ True)) = true := by decide +kernel
    refine ⟨sig, rfl, fun a b => ?_⟩
    have h3 : sig = (Manifest.signature? "set.__contains__").get (by decide +kernel) := by simp [h]
    rw [h3]
    kernel_rfl
section
variable {prog : Program} {w : World} {A : Around} {E : Value → Shared → Prop} {s : Shared}
theorem bound_check {S : Addr} {v : Value} {Q : Unit → Shared → Prop} {o : Obj} {es : Array (Int × Value)} {ep : Nat} {tb : SetTable} (ho : s.heap.get? S = some o) (hcl : o.cls = .type "set") (hdt : o.data = .set es ep tb) (hQ : Q () s) : wpAny (model prog w) A (checkBoundCall "set.__contains__" ⟨[.ref S, v], []⟩) Q E s := by
  have hT : s.TypeIs (.ref S) "set" := ⟨_, ho, hcl⟩
  obtain ⟨sig, hs, hc⟩ := sig_contains
  unfold checkBoundCall
  simp only [hs, kind_contains]
  show wpAny _ _ (isInstance (.ref S) (.type "module") >>= _) _ _ _
  refine wpAny_bind (wpAny_isInstance hT sub_set_module ?_)
  simp only [varargs_contains, Bool.false_or, Bool.false_eq_true, if_false]
  unfold isType
  refine wpAny_bind (wpAny_bind (wpAny_loadPart ho (wpAny_pure ?_)))
  rw [hdt]
  simp only [Bool.false_eq_true, if_false]
  refine wpAny_bind (wpAny_typeOf hT ?_)
  show wpAny _ _ (Bind.checkArgs _ _ _) _ _ _
  have := hc (.ref S) v
  rw [this]
  exact wpAny_pure hQ
theorem bound_call {S M : Addr} {x : Str} {t : Tok} {P : Str → Bool} {c : Nat} {R : Result → Shared → Prop} (hM : s.heap.get? M = some (boundObj "set.__contains__" (.ref S))) (hS : s.heap.SetOf (PySem.strKind prog w) S P c)
    (h : R (.ok (.ret (.bool (P x)))) { s with toks := s.toks + 1 }) : codeAny (model prog w) A (.call (.ref M) ⟨[.str x t], []⟩) R s := by
  refine codeAny_of_tree ?_
  show wpAny _ A.in1 (callAny (.ref M) _) _ _ s
  simp only [callAny]
  refine wpAny_bind (wpAny_load hM ?_)
  show wpAny _ _ (checkBoundCall "set.__contains__" ⟨[.ref S, .str x t], []⟩ >>= _) _ _ _
  obtain ⟨oS, esS, epS, tbS, hoS, hexS, hdS, _⟩ := id hS
  refine wpAny_bind (bound_check hoS hexS.1 hdS ?_)
  refine wpAny_pure ⟨plainId_quiet (by decide +kernel) _, codeAny_builtin entry_set_contains ?_⟩
  rw [Around.under_plainId (by decide +kernel) _]
  unfold Builtin.«frozenset.__contains__» Builtin.Frozenset.oneOther
  simp only [List.isEmpty_nil, bind_assoc]
  unfold Builtin.Frozenset.addrOf Builtin.Frozenset.withSetAsKey setContains
  refine wpAny_bind (wpAny_pure ?_)
  try dsimp only
  refine wpAny_bind (wpAny_pure ?_)
  try dsimp only
  refine wpAny_bind (wpAny_tryCatch ?_)
  refine wpAny_holding ?_
  refine wpAny_bind ((PySem.strKind prog w).pyHash (k := x) (strKind_is _ _ _ _) ?_)
  refine wpAny_bind (wpAny_setFind_of (s := { s with toks := s.toks + 1 }) (knd := PySem.strKind prog w) (k := x) (strKind_is _ _ _ _) rfl hS fun r hr => ?_)
  refine wpAny_pure ?_
  show wpAny _ _ (ret (Value.bool r.isSome)) _ _ _
  rw [hr]
  exact wpAny_pure h
end
end Mine
end

section
open PySem PySem.W PySem.Calls PyProof.Rows PySem.SeqAt
open Builtin Builtin.ObjectAttr
set_option Elab.async false
set_option maxRecDepth 100000
set_option linter.unusedVariables false
namespace Mine
theorem mro_filter : mroOf (.type "filter") = pure [.type "filter", .type "object"] := by rw [mroOf_type]; kernel_rfl
theorem lookup_filter_new : typeLookup (.type "filter") "__new__" = pure (some (.builtin "filter.__new__")) := by rw [typeLookup_type, builtinLookup_eq_fast]; kernel_rfl
theorem slot_filter_init : Slot "filter" "__init__" "object.__init__" := .of (owner := "object") (n := "__init__") (by rw [typeLookup_type, builtinLookup_eq_fast]; kernel_rfl) (by decide +kernel) (by decide +kernel) (by decide +kernel)
  (by first | exact .inl (by decide +kernel) | exact .inr (by decide +kernel)) (by rw [isSubtype_type]; kernel_rfl)
theorem slot_filter_next : Slot "filter" "__next__" "filter.__next__" := .of (owner := "filter") (n := "__next__") (by rw [typeLookup_type, builtinLookup_eq_fast]; kernel_rfl) (by decide +kernel) (by decide +kernel) (by decide +kernel)
  (by first | exact .inl (by decide +kernel) | exact .inr (by decide +kernel)) (by rw [isSubtype_type]; kernel_rfl)
theorem slot_filter_iter : Slot "filter" "__iter__" "filter.__iter__" := .of (owner := "filter") (n := "__iter__") (by rw [typeLookup_type, builtinLookup_eq_fast]; kernel_rfl) (by decide +kernel) (by decide +kernel) (by decide +kernel)
  (by first | exact .inl (by decide +kernel) | exact .inr (by decide +kernel)) (by rw [isSubtype_type]; kernel_rfl)
theorem called_filter : TypeCalled "filter" "filter.__new__" "object.__init__" :=
  ⟨by decide +kernel, by decide +kernel, ⟨_, _, mro_filter⟩, madeBy_type mro_filter lookup_filter_new (by decide +kernel), by decide +kernel, by rw [isSubtype_type]; kernel_rfl, slot_filter_init⟩
theorem typeCall_filter (a b : Value) : checkTypeCall "filter" ⟨[a, b], []⟩ = pure () := by kernel_rfl
theorem newCall_filter (a b : Value) : checkBuiltinCall "filter.__new__" ⟨[.type "filter", a, b], []⟩ = pure () := by kernel_rfl
theorem entry_filter_new : entryFor table "filter.__new__" = some Builtin.«filter.__new__» := entryFor_of_tree (by kernel_rfl)
theorem entry_filter_next : entryFor table "filter.__next__" = some Builtin.«filter.__next__» := entryFor_of_tree (by kernel_rfl)
theorem args_oi_3 (a b c : Value) : argsOk "object.__init__" ⟨[a, b, c], []⟩ := by
  unfold argsOk; rw [PySem.signature?_of (id := "object.__init__") (n := ['_', '_', 't', 'i', 'n', 'i', '_', '_']) (o := ['t', 'c', 'e', 'j', 'b', 'o']) (by kernel_rfl) PySem.F.owner_object]; kernel_rfl
theorem sub_filter : isSubtype (.type "filter") (.type "filter") = pure true := by rw [isSubtype_type]; kernel_rfl
theorem filter_no_len : typeLookup (.type "filter") "__len__" = pure none := by rw [typeLookup_type, builtinLookup_eq_fast]; kernel_rfl
theorem filter_no_hint : typeLookup (.type "filter") "__length_hint__" = pure none := by rw [typeLookup_type, builtinLookup_eq_fast]; kernel_rfl
theorem args_filter_next (a : Value) : argsOk "filter.__next__" ⟨[a], []⟩ := by unfold argsOk; kernel_rfl
theorem args_filter_iter (a : Value) : argsOk "filter.__iter__" ⟨[a], []⟩ := by unfold argsOk; kernel_rfl
theorem entry_filter_iter : entryFor table "filter.__iter__" = some Builtin.«dict_keyiterator.__iter__» :=
  entryFor_alias (id' := "dict_keyiterator.__iter__") (by kernel_rfl) (by first | rfl | decide +kernel | (unfold String.splitOn; simp +decide [String.splitOnAux])) (by decide +kernel) (by kernel_rfl)
set_option maxHeartbeats 1600000 in
theorem meets_filter_new (l M : Addr) (items : Array Value) (n : Nat) (dct : Option Addr) (sl : Array (Option Value)) :
    Meets (Builtin.«filter.__new__» ⟨[.type "filter", .ref M, .ref l], []⟩) (fun _ R s => s.heap.get? l = some { cls := .type "list", dict := dct, data := .seq items n, slots := sl } ∧
      R (.ok (.ret (.ref (s.heap.push { cls := .type "list_iterator", data := .fields #[.ref l, .int 0 0] }).objs.size)))
        { s with heap := (s.heap.push { cls := .type "list_iterator", data := .fields #[.ref l, .int 0 0] }).push { cls := .type "filter", data := .fields #[.ref M, .ref s.heap.objs.size] } }) :=
  .of_wp fun prog w A R s h => by
    obtain ⟨hp, g, d, tk, os⟩ := s; obtain ⟨hl, h⟩ := h
    have hsub := sub_filter
    have hL : Heap.IsList (Shared.heap ⟨hp, g, d, tk, os⟩) l items := ⟨_, hl, rfl, n, rfl⟩
    wp_walk using wpAny_pyIter_list hL
    exact ⟨_, rfl, h⟩
end Mine
end

section
open PySem PySem.W PySem.Calls PyProof.Rows PySem.SeqAt
open Builtin Builtin.ObjectAttr
set_option Elab.async false
set_option maxRecDepth 100000
set_option linter.unusedVariables false
namespace Mine
structure FState (prog : Program) (w : World) (F I l S M : Addr) (lt : List (Str × Tok)) (P : Str → Bool) (c j : Nat) (h : Heap) : Prop where
  fo : h.get? F = some { cls := .type "filter", data := .fields #[.ref M, .ref I] }
  it : h.IsListIter I l j
  li : h.IsList l (strValues lt).toArray
  se : h.SetOf (PySem.strKind prog w) S P c
  mo : h.get? M = some (boundObj "set.__contains__" (.ref S))
structure FApart (F I l S M : Addr) : Prop where
  f : F ≠ I
  l : l ≠ I
  s : S ≠ I
  m : M ≠ I
section
variable {prog : Program} {w : World} {A : Around} {E : Value → Shared → Prop}
theorem FState.move {F I l S M : Addr} {lt : List (Str × Tok)} {P : Str → Bool} {c j j' : Nat} {h h' : Heap} (x : FState prog w F I l S M lt P c j h) (ap : FApart F I l S M) (hk : ∀ b o, b ≠ I → h.get? b = some o → h'.get? b = some o) (hit : h'.IsListIter I l j') : FState prog w F I l S M lt P c j' h' := by
  refine ⟨hk _ _ ap.f x.fo, hit, ?_, ?_, hk _ _ ap.m x.mo⟩
  · obtain ⟨o, ho, r⟩ := x.li; exact ⟨o, hk _ _ ap.l ho, r⟩
  · obtain ⟨o, es, ep, t, ho, r⟩ := x.se; exact ⟨o, es, ep, t, hk _ _ ap.s ho, r⟩
theorem plain_filter_next : plainId "filter.__next__" = true := by decide +kernel
theorem filter_next {F I l S M : Addr} {lt : List (Str × Tok)} {P : Str → Bool} {c : Nat} {R : Result → Shared → Prop} (hh : A.handled = none) (ap : FApart F I l S M) :
    ∀ (k j : Nat) (s : Shared), lt.length - j = k → j ≤ lt.length → FState prog w F I l S M lt P c j s.heap →
      (∀ p r j' h' tk, (lt.drop j).filter (fun p => P p.1) = p :: r → (lt.drop j').filter (fun p => P p.1) = r → j' ≤ lt.length → FState prog w F I l S M lt P c j' h' → (∀ b o, b ≠ I → s.heap.get? b = some o → h'.get? b = some o) → R (.ok (.ret (.str p.1 p.2))) { s with heap := h', toks := tk }) →
      ((lt.drop j).filter (fun p => P p.1) = [] → ∀ h' e tk, (∀ b o, b ≠ I → s.heap.get? b = some o → h'.get? b = some o) → (∃ o, h'.get? e = some o ∧ o.cls = .type "StopIteration") → R (.error (.ref e)) { s with heap := h', toks := tk }) →
      codeAny (model prog w) A (.builtin "filter.__next__" ⟨[.ref F], []⟩) R s := by
  intro k
  induction k with
  | zero =>
    intro j s hk hj st hR hE
    have hjl : j = lt.length := by omega
    subst hjl
    refine codeAny_builtin entry_filter_next ?_
    rw [Around.under_plainId plain_filter_next _]
    show wpAny _ A.in1 (field (.ref F) 0 >>= _) _ _ s
    refine wpAny_bind (wpAny_field st.fo rfl (x := .ref M) rfl ?_)
    show wpAny _ A.in1 (field (.ref F) 1 >>= _) _ _ s
    refine wpAny_bind (wpAny_field st.fo rfl (x := .ref I) rfl ?_)
    obtain ⟨o, ho, hc, hd⟩ := id st.it
    obtain ⟨ol, hol, _, nl, hdl⟩ := id st.li
    refine wpAny_bind (wpAny_callSpecial?_slot (name := Str.ofString "__next__") st.it.typeIs slot_listiter_next
      (wpAny_call_entry slot_listiter_next st.it.typeIs entry_listiter_next ?_ (args_listiter_next _)))
    show wpAny _ _ (field (.ref I) 0 >>= _) _ _ s
    refine wpAny_bind (wpAny_field ho hd (x := .ref l) rfl ?_)
    show wpAny _ _ (if (Value.ref l == Value.none) = true then _ else _) _ _ s
    rw [if_neg (show ¬ ((Value.ref l == Value.none) = true) from Bool.false_ne_true)]
    show wpAny _ _ (field (.ref I) 1 >>= _) _ _ s
    refine wpAny_bind (wpAny_field ho hd (x := .int lt.length 0) rfl ?_)
    show wpAny _ _ (seqItems? (.ref l) >>= _) _ _ s
    refine wpAny_bind (wpAny_seqItems hol hdl ?_)
    have hx : (strValues lt).toArray[lt.length]? = none := by simp [strValues]
    simp only [Int.toNat_natCast, hx]
    refine wpAny_bind (wpAny_rule (wpAny_bind (wpAny_setField ho hd (by simp) ?_)))
    show wpAny _ _ (newExc (.type "StopIteration") [] >>= _) _ _ _
    refine wpAny_bind ?_
    simp only [newExc, newTuple]
    refine wpAny_bind (wpAny_newObj_type ?_ (by size_fits))
    refine wpAny_bind (m := firstArgMember _ _) (wpAny_of_eq (a := Value.none) (by first | rfl | (simp only [firstArgMember]; rfl)) ?_)
    refine wpAny_newObj_type ?_ (by size_fits)
    simp only [raiseNew]
    refine wpAny_bind (wpAny_handled ?_)
    rw [show A.in1.in1.handled = none from hh]
    refine wpAny_bind (wpAny_pure (wpAny_throw ?_))
    exact hE (by simp) _ _ _ (fun b o hb e => ((Heap.SameBut.update ..).extBut.push _).push _ b o hb e) ⟨_, Heap.get?_push_size _ rfl, rfl⟩
  | succ k ih =>
    intro j s hk hj st hR hE
    have hlt : j < lt.length := by omega
    have hdrop : lt.drop j = lt[j] :: lt.drop (j + 1) := List.drop_eq_getElem_cons hlt
    refine codeAny_builtin entry_filter_next ?_
    rw [Around.under_plainId plain_filter_next _]
    show wpAny _ A.in1 (field (.ref F) 0 >>= _) _ _ s
    refine wpAny_bind (wpAny_field st.fo rfl (x := .ref M) rfl ?_)
    show wpAny _ A.in1 (field (.ref F) 1 >>= _) _ _ s
    refine wpAny_bind (wpAny_field st.fo rfl (x := .ref I) rfl ?_)
    obtain ⟨o, ho, hc, hd⟩ := id st.it
    obtain ⟨ol, hol, _, nl, hdl⟩ := id st.li
    refine wpAny_bind (wpAny_callSpecial?_slot (name := Str.ofString "__next__") st.it.typeIs slot_listiter_next
      (wpAny_call_entry slot_listiter_next st.it.typeIs entry_listiter_next ?_ (args_listiter_next _)))
    show wpAny _ _ (field (.ref I) 0 >>= _) _ _ s
    refine wpAny_bind (wpAny_field ho hd (x := .ref l) rfl ?_)
    show wpAny _ _ (if (Value.ref l == Value.none) = true then _ else _) _ _ s
    rw [if_neg (show ¬ ((Value.ref l == Value.none) = true) from Bool.false_ne_true)]
    show wpAny _ _ (field (.ref I) 1 >>= _) _ _ s
    refine wpAny_bind (wpAny_field ho hd (x := .int j 0) rfl ?_)
    show wpAny _ _ (seqItems? (.ref l) >>= _) _ _ s
    refine wpAny_bind (wpAny_seqItems hol hdl ?_)
    have hx : (strValues lt).toArray[j]? = some (.str lt[j].1 lt[j].2) := by simp [strValues, hlt]
    simp only [Int.toNat_natCast, hx]
    refine wpAny_bind (wpAny_setField ho hd (by simp) (wpAny_pure ⟨_, rfl, ?_⟩))
    generalize hh1 : s.heap.update I _ = h1
    have hsb : Heap.SameBut I s.heap h1 := by rw [← hh1]; exact Heap.SameBut.update ..
    have hit1 : h1.IsListIter I l (j + 1) := by
      rw [← hh1]
      exact ⟨_, Heap.get?_update_self _ ho (Obj.isFreed_of_fields (Obj.data_mapFields hd _)), (Obj.cls_mapFields ..).trans hc, by
        rw [Obj.data_mapFields hd]; simp [rawInt]⟩
    have st1 := st.move ap (fun b o hb e => hsb.extBut b o hb e) hit1
    show wpAny _ A.in1 (holding [Value.str lt[j].1 lt[j].2] _ >>= _) _ _ _
    refine wpAny_bind (wpAny_holding ?_)
    rw [if_neg (by simp)]
    refine wpAny_bind (wpAny_call (bound_call (s := { s with heap := h1 }) st1.mo st1.se ?_))
    dsimp only
    refine wpAny_holding (wpAny_truthy_bool ?_)
    cases hp : P lt[j].1 with
    | true =>
      simp only [if_true]
      refine wpAny_pure ?_
      exact hR lt[j] ((lt.drop (j + 1)).filter fun p => P p.1) (j + 1) h1 (s.toks + 1) (by rw [hdrop, List.filter_cons]; simp [hp]) rfl hlt st1 fun b o hb e => hsb.extBut b o hb e
    | false =>
      simp only [Bool.false_eq_true, if_false]
      have hf : (lt.drop j).filter (fun p => P p.1) = (lt.drop (j + 1)).filter (fun p => P p.1) := by rw [hdrop, List.filter_cons]; simp [hp]
      refine wpAny_pure ⟨plainId_quiet plain_filter_next _, ih (j + 1) { s with heap := h1, toks := s.toks + 1 } (by omega) hlt st1 (fun p r j' h' tk q1 q2 q3 q4 q5 => ?_) fun q1 h' e tk q2 q3 => ?_⟩
      · exact hR p r j' h' tk (by rw [hf]; exact q1) q2 q3 q4 fun b o hb e => q5 b o hb (hsb.extBut b o hb e)
      · exact hE (by rw [hf]; exact q1) h' e tk (fun b o hb e => q2 b o hb (hsb.extBut b o hb e)) q3
end
end Mine
end

section
open PySem PySem.W PySem.Calls PyProof.Rows PySem.SeqAt
open Builtin Builtin.ObjectAttr
set_option Elab.async false
set_option maxRecDepth 100000
set_option linter.unusedVariables false
namespace Mine
section
variable {prog : Program} {w : World} {A : Around} {E : Value → Shared → Prop}
theorem FState.typeIs {s : Shared} {F I l S M : Addr} {lt : List (Str × Tok)} {P : Str → Bool} {c j : Nat} (x : FState prog w F I l S M lt P c j s.heap) : s.TypeIs (.ref F) "filter" := ⟨_, x.fo, rfl⟩
theorem pyNext_filter {F I l S M : Addr} {lt : List (Str × Tok)} {P : Str → Bool} {c j : Nat} {s : Shared} {Q : Option Value → Shared → Prop} (hh : A.handled = none) (ap : FApart F I l S M) (hj : j ≤ lt.length) (st : FState prog w F I l S M lt P c j s.heap)
    (h1 : ∀ p r j' h' tk, (lt.drop j).filter (fun p => P p.1) = p :: r → (lt.drop j').filter (fun p => P p.1) = r → j' ≤ lt.length → FState prog w F I l S M lt P c j' h' → (∀ b o, b ≠ I → s.heap.get? b = some o → h'.get? b = some o) → Q (some (.str p.1 p.2)) { s with heap := h', toks := tk })
    (h2 : (lt.drop j).filter (fun p => P p.1) = [] → ∀ h' tk, (∀ b o, b ≠ I → s.heap.get? b = some o → h'.get? b = some o) → Q none { s with heap := h', toks := tk }) :
    wpAny (model prog w) A (pyNext (.ref F)) Q E s := by
  unfold pyNext
  refine wpAny_bind (wpAny_attempt (wpAny_callSpecial?_slot (name := Str.ofString "__next__") st.typeIs slot_filter_next (wpAny_call (codeAny_call_builtin_code (plainId_quiet plain_filter_next _) ?_))))
  refine slot_filter_next.check _ _ _ _ _ _ _ _ st.typeIs (args_filter_next _) ?_
  refine filter_next hh ap (lt.length - j) j s rfl hj st (fun p r j' h' tk q1 q2 q3 q4 q5 => ?_) fun q1 h' e tk q2 q3 => ?_
  · exact wpAny_pure (h1 p r j' h' tk q1 q2 q3 q4 q5)
  · obtain ⟨o, ho, hc⟩ := q3
    refine wpAny_bind (wpAny_isInstance (T := "StopIteration") (b := true) ⟨o, ho, hc⟩ isSubtype_stop ?_)
    exact wpAny_pure (h2 q1 h' tk q2)
theorem walksF {F I l S M : Addr} {lt kept : List (Str × Tok)} {P : Str → Bool} {c : Nat} (hh : A.handled = none) (ap : FApart F I l S M) (hk : lt.filter (fun p => P p.1) = kept) :
    Walks prog w A F [F, I, l, S, M] [I] kept.length (fun i v => ∃ p, kept[i]? = some p ∧ v = .str p.1 p.2) (fun i h => ∃ j, j ≤ lt.length ∧ (lt.drop j).filter (fun p => P p.1) = kept.drop i ∧ FState prog w F I l S M lt P c j h) where
  sub := fun b hb => by
    rcases List.mem_cons.mp hb with rfl | hb
    · simp
    · cases hb
  frame := fun i h h' ⟨j, q1, q2, st⟩ hk => by
    refine ⟨j, q1, q2, hk _ (by simp) _ st.fo, ?_, ?_, ?_, hk _ (by simp) _ st.mo⟩
    · obtain ⟨o, ho, r⟩ := st.it; exact ⟨o, hk _ (by simp) _ ho, r⟩
    · obtain ⟨o, ho, r⟩ := st.li; exact ⟨o, hk _ (by simp) _ ho, r⟩
    · obtain ⟨o, es, ep, t, ho, r⟩ := st.se; exact ⟨o, es, ep, t, hk _ (by simp) _ ho, r⟩
  item := fun i s Q E hi ⟨j, q1, q2, st⟩ hQ => by
    have hd : kept.drop i = kept[i] :: kept.drop (i + 1) := List.drop_eq_getElem_cons hi
    refine pyNext_filter hh ap q1 st (fun p r j' h' tk e1 e2 e3 e4 e5 => ?_) fun e1 h' tk e2 => ?_
    · rw [q2, hd] at e1
      injection e1 with e1 e6
      subst e1
      exact hQ _ h' tk ⟨kept[i], by simp [hi], rfl⟩ ⟨j', e3, by rw [e2, e6], e4⟩ fun b o hb e => e5 b o (by simpa using hb) e
    · rw [q2, hd] at e1; cases e1
  done := fun s Q E ⟨j, q1, q2, st⟩ hQ => by
    rw [List.drop_length] at q2
    refine pyNext_filter hh ap q1 st (fun p r j' h' tk e1 e2 e3 e4 e5 => ?_) fun e1 h' tk e2 => ?_
    · rw [q2] at e1; cases e1
    · exact hQ h' tk fun b o hb e => e2 b o (by simpa using hb) e
  self := fun i s Q E ⟨j, q1, q2, st⟩ hQ => by
    have hT := st.typeIs
    refine wpAny_pyIter_slot hT slot_filter_iter (wpAny_call_entry slot_filter_iter hT entry_filter_iter ?_ (args_filter_iter _))
    show wpAny _ _ (ret (.ref F)) _ _ s
    exact wpAny_pure ⟨_, rfl, "filter", _, hT, slot_filter_next.lookup, hQ⟩
end
section
variable {prog : Program} {w : World} {A : Around} {s : Shared} {R : Result → Shared → Prop}
variable {I : Addr} {fp wr : List Addr} {G : Array GenState → Array GenState → Prop} {n : Nat} {P : Nat → Value → Prop} {St : Nat → Shared → Prop}
theorem extendF (W : WalksS prog w A.in1 I fp wr G n P St) (hT : ∀ i s, St i s → s.TypeIs (.ref I) "filter") (S : Addr) (res : Value) (c₀ : Nat) (hst : St 0 s) (hSf : S ∉ fp) (hI : I ∈ fp)
    (hS : s.heap.get? S = some { cls := .type "list", data := .seq #[] c₀ })
    (hR : ∀ s' acc' c', Moved (S :: wr) G s s' → s'.heap.get? S = some { cls := .type "list", dict := none, data := .seq acc' c', slots := #[] } → ItemsOf P acc' n → R (.ok (.ret res)) s') (hn : n ≤ sizeLine) :
    wpAny (model prog w) A.in1 (Builtin.List.listExtendWith (.ref S) (.ref I) res)
      (fun fin s' => match fin with | .done f => R (.ok f) s' | .again c' => c'.quiet = true ∧ codeAny (model prog w) A c' R s') (fun e s' => R (.error e) s') s := by
  have hSI : S ≠ I := fun e => hSf (e ▸ hI)
  unfold Builtin.List.listExtendWith
  refine wpAny_bind (wpAny_typeOf (hT 0 _ hst) ?_)
  have h1 : Builtin.List.listSameRef (.ref S) (.ref I) = false := by simp [Builtin.List.listSameRef, hSI]
  have h2 : (Value.type "filter" == Value.type "list") = false := by decide
  have h3 : (Value.type "filter" == Value.type "tuple") = false := by decide
  simp only [h1, h2, h3, Bool.or_false, Bool.false_eq_true, if_false]
  refine wpAny_bind (W.self 0 _ _ _ hst ?_)
  refine wpAny_bind (wpAny_holding ?_)
  unfold Builtin.List.listLengthHint
  refine wpAny_bind (wpAny_specialOf (hT 0 _ hst) filter_no_len ?_)
  show wpAny _ A.in1 (specialOf (Value.ref I) (Str.ofString "__length_hint__") >>= _) _ _ _
  refine wpAny_bind (wpAny_specialOf (hT 0 _ hst) filter_no_hint ?_)
  refine wpAny_pure ?_
  show wpAny _ A.in1 (rule "list.extend.makes-room" >>= fun _ => Builtin.List.listTouch (.ref S) >>= fun _ =>
    again (.builtin "list.extend.loop" ⟨[.ref S, .ref I, res], []⟩)) _ _ _
  refine wpAny_bind (wpAny_rule ?_)
  refine wpAny_bind ?_
  show wpAny _ A.in1 (updateSeq S (·.push .none) >>= fun _ => updateSeq S (·.pop)) _ _ _
  refine wpAny_bind (wpAny_updateSeq hS rfl ?_)
  have hS₂ := Heap.get?_update_self (Obj.mapSeq (·.push Value.none)) hS rfl
  refine wpAny_updateSeq (hz := by seq_fits) hS₂ rfl ?_
  have hS₃ := Heap.get?_update_self (Obj.mapSeq (·.pop)) hS₂ rfl
  have oth : ∀ b o, b ≠ S → s.heap.get? b = some o → ((s.heap.update S (Obj.mapSeq (·.push Value.none))).update S (Obj.mapSeq (·.pop))).get? b = some o :=
    fun b o hb e => (Heap.get?_update_other _ _ (Ne.symm hb)).trans ((Heap.get?_update_other _ _ (Ne.symm hb)).trans e)
  refine wpAny_pure ⟨plainId_quiet F.plain_extend_loop _, codeAny_extend_loopS W hn _ hSf _ n 0 _ _ _ rfl (Nat.zero_le _)
    (W.frame 0 s _ s.toks hst (Nat.le_refl _) fun b hb o e => oth b o (fun h => hSf (h ▸ hb)) e) hS₃ (ItemsOf.nil P) fun s' acc' c' hm hS' hacc => ?_⟩
  exact hR s' acc' c' (Moved.trans W.gtrans ((Moved.refl W.grefl).then_heap (Nat.le_refl _) fun b o hb e => oth b o (fun h => hb (h ▸ List.mem_cons_self)) e) hm) hS' hacc
theorem initF (W : WalksS prog w A.in1 I fp wr G n P St) (hT : ∀ i s, St i s → s.TypeIs (.ref I) "filter") (S : Addr) (hst : St 0 s) (hSf : S ∉ fp) (hI : I ∈ fp)
    (hS : s.heap.get? S = some { cls := .type "list", data := .seq #[] })
    (hR : ∀ s' acc' c', Moved (S :: wr) G s s' → s'.heap.get? S = some { cls := .type "list", dict := none, data := .seq acc' c', slots := #[] } → ItemsOf P acc' n → R (.ok (.ret .none)) s') (hn : n ≤ sizeLine) :
    wpAny (model prog w) A.in1 (Builtin.«list.__init__» ⟨[.ref S, .ref I], []⟩)
      (fun fin s' => match fin with | .done f => R (.ok f) s' | .again c' => c'.quiet = true ∧ codeAny (model prog w) A c' R s') (fun e s' => R (.error e) s') s := by
  show wpAny _ A.in1 (do let old ← Builtin.List.listItems (.ref S); Builtin.List.listUpdate (.ref S) (fun _ => #[]); letGo old.toList.reverse; Builtin.List.listExtendWith (.ref S) (.ref I) .none) _ _ s
  refine wpAny_bind ?_
  unfold Builtin.List.listItems
  refine wpAny_bind (wpAny_seqItems hS rfl (wpAny_pure ?_))
  show wpAny _ A.in1 (updateSeq S (fun _ => #[]) >>= fun _ => letGo (#[] : Array Value).toList.reverse >>= fun _ => Builtin.List.listExtendWith (.ref S) (.ref I) .none) _ _ s
  refine wpAny_bind (wpAny_updateSeq hS rfl ?_)
  have hS₂ := Heap.get?_update_self (Obj.mapSeq (fun _ => (#[] : Array Value))) hS rfl
  have oth : ∀ b o, b ≠ S → s.heap.get? b = some o → (s.heap.update S (Obj.mapSeq (fun _ => (#[] : Array Value)))).get? b = some o :=
    fun b o hb e => (Heap.get?_update_other _ _ (Ne.symm hb)).trans e
  refine wpAny_bind (wpAny_letGo ?_)
  refine extendF (hn := hn) W hT S .none _ (W.frame 0 s _ s.toks hst (Nat.le_refl _) fun b hb o e => oth b o (fun h => hSf (h ▸ hb)) e) hSf hI hS₂ fun s' acc' c' hm hS' hacc => ?_
  exact hR s' acc' c' (Moved.trans W.gtrans ((Moved.refl W.grefl).then_heap (Nat.le_refl _) fun b o hb e => oth b o (fun h => hb (h ▸ List.mem_cons_self)) e) hm) hS' hacc
end
section
variable {prog : Program} {w : World} {A : Around} {E : Value → Shared → Prop} {s : Shared}
variable {I : Addr} {fp wr : List Addr} {G : Array GenState → Array GenState → Prop} {n : Nat} {P : Nat → Value → Prop} {St : Nat → Shared → Prop}
theorem call_listF {Q : Value → Shared → Prop} (W : WalksS prog w A.in1.in1 I fp wr G n P St) (hT : ∀ i s, St i s → s.TypeIs (.ref I) "filter") (hst : St 0 s) (hfp : ∀ b ∈ fp, b < s.heap.objs.size) (hI : I ∈ fp)
    (hQ : ∀ s' acc' c', Moved (s.heap.objs.size :: wr) G { s with heap := s.heap.push { cls := .type "list", data := .seq #[] } } s' →
      s'.heap.get? s.heap.objs.size = some { cls := .type "list", dict := none, data := .seq acc' c', slots := #[] } → ItemsOf P acc' n → Q (.ref s.heap.objs.size) s') (hn : n ≤ sizeLine) :
    wpAny (model prog w) A (call (.type "list") [.ref I]) Q E s := by
  have hSf : s.heap.objs.size ∉ fp := fun hm => Nat.lt_irrefl _ (hfp _ hm)
  refine callType_codes (Q₁ := fun obj s₁ => obj = .ref s.heap.objs.size ∧ s₁ = { s with heap := s.heap.push { cls := .type "list", data := .seq #[] } }) F.called_list (F.typeCall_list_1 _) F.entry_list_init
    (code_list_new _ ⟨rfl, rfl⟩) fun obj s₁ h₁ => ?_
  obtain ⟨rfl, rfl⟩ := h₁
  have hS : (s.heap.push { cls := .type "list", data := .seq #[] }).get? s.heap.objs.size = some { cls := .type "list", data := .seq #[] } := Heap.get?_push_size _ rfl
  refine ⟨⟨_, hS, rfl⟩, F.args_list_init_2 _ _, initF (hn := hn) W hT _ (W.frame 0 s _ s.toks hst (Nat.le_refl _) fun b _ o e => Heap.get?_push_of_some _ e) hSf hI hS fun s' acc' c' hm hS' hacc => ?_⟩
  exact ⟨rfl, hQ s' acc' c' hm hS' hacc⟩
end
end Mine
end

section
open PySem PySem.W PySem.Calls PyProof.Rows PySem.SeqAt
open Builtin Builtin.ObjectAttr
set_option Elab.async false
set_option maxRecDepth 100000
set_option linter.unusedVariables false
namespace Mine
section
variable {prog : Program} {w : World} {G : Heap} {mg mb : Str → Option Value} {n : Nat} {sc : Scope}
noncomputable def filterD (b2 b1 : D) : Option D := match b2, b1 with
  | .list ds2, .list ds1 => (match strsD ds2, strsD ds1 with
    | some xs2, some xs1 => if xs2.length ≤ 1000 ∧ xs1.length ≤ 1000 then some (.list ((xs1.filter fun x => decide (x ∈ xs2)).map .str)) else none
    | _, _ => none)
  | _, _ => none
theorem ne_of_get {h : Heap} {a b : Addr} {o o' : Obj} (h1 : h.get? a = some o) (h2 : h.get? b = some o') (hne : o ≠ o') : a ≠ b := fun q => by
  rw [q, h2] at h1; cases h1; exact hne rfl
theorem filter_map_fst (P : Str → Bool) : ∀ lt : List (Str × Tok), (lt.filter fun p => P p.1).map (·.1) = (lt.map (·.1)).filter P
  | [] => rfl
  | p :: r => by
    simp only [List.filter_cons, List.map_cons]
    cases h : P p.1 <;> simp [filter_map_fst P r]
theorem se_filter {X Y : Expr} {p1 p2 p3 p4 p5 p6 p7 : Pos} {f g : Ex} (gn : Gnd prog w G mg mb) (hg1 : isGlob sc "list" = true) (hg2 : isGlob sc "filter" = true) (hg3 : isGlob sc "set" = true) (hX : SE prog w G n sc X f) (hY : SE prog w G n sc Y g)
    (hst : ∀ env, starEach [X] env = [(false, eval X env)]) (hst2 : ∀ env, starEach [Y] env = [(false, eval Y env)])
    (he : ∀ env, eval (.Attribute (.Call (.Name "set" p3) [X] [] p4) "__contains__" p5) env = (do let o ← eval (.Call (.Name "set" p3) [X] [] p4) env; standAt p5.atName; let r ← holding [o] (getAttr o "__contains__" true); letTemporaryGo (.Call (.Name "set" p3) [X] [] p4) o r; pure r)) :
    SE prog w G n sc (.Call (.Name "list" p1) [.Call (.Name "filter" p2) [.Attribute (.Call (.Name "set" p3) [X] [] p4) "__contains__" p5, Y] [] p6] [] p7) (twoE filterD f g) := fun A env ρ W ow s Q E hR hs henv hi d k' hf hQ => by
  obtain ⟨a, k1, b, h1, h2, h3⟩ := twoE_some hf
  unfold filterD at h3
  split at h3
  · rename_i ds2 ds1
    split at h3
    · rename_i xs2 xs1 hx2 hx1
      split at h3
      · rename_i hlen
        cases h3
        refine wpAny_Call_NameR (glob_bi (v := .type "list") gn henv hi hs hg1 (by kernel_rfl) (by decide +kernel) (by decide +kernel) (by decide +kernel) (PySem.callWith_type rfl ?_))
        have hpl : ∀ (a : Expr) (pos : Pos) (T : String) (Q' : Args → Shared → Prop) (s : Shared), starEach [a] env = [(false, eval a env)] → wpAny (model prog w) A (spliced (backTo pos (starEach [a] env))) (fun vs s' => Q' ⟨vs, []⟩ s') E s → wpAny (model prog w) A (evalArgs (.type T) true (backTo pos (starEach [a] env)) []) Q' E s := by
          intro a pos T Q' s e0 hh
          rw [e0] at hh ⊢
          exact evalArgs_plain hh
        refine hpl _ _ _ _ _ rfl ?_
        refine wpAny_items_cons ?_ rfl
        have hst3 : ∀ env, starEach [.Attribute (.Call (.Name "set" p3) [X] [] p4) "__contains__" p5, Y] env = (false, eval (.Attribute (.Call (.Name "set" p3) [X] [] p4) "__contains__" p5) env) :: starEach [Y] env := fun _ => rfl
        refine wpAny_Call_NameR (glob_bi (v := .type "filter") gn henv hi hs hg2 (by kernel_rfl) (by decide +kernel) (by decide +kernel) (by decide +kernel) (PySem.callWith_type (by rw [hst3, hst2]; rfl) ?_))
        have hpl2 : ∀ (a b : Expr) (pos : Pos) (T : String) (Q' : Args → Shared → Prop) (s : Shared), starEach [a, b] env = [(false, eval a env), (false, eval b env)] → wpAny (model prog w) A (spliced (backTo pos (starEach [a, b] env))) (fun vs s' => Q' ⟨vs, []⟩ s') E s → wpAny (model prog w) A (evalArgs (.type T) true (backTo pos (starEach [a, b] env)) []) Q' E s := by
          intro a b pos T Q' s e0 hh
          rw [e0] at hh ⊢
          exact evalArgs_plain hh
        refine hpl2 _ _ _ _ _ _ (by rw [hst3, hst2]) ?_
        refine wpAny_items_cons ?_ (hst3 env)
        refine Attribute_any_ ?_ (he env)
        refine call1T (T := "set") gn hg3 (by kernel_rfl) (by decide +kernel) (by decide +kernel) (by decide +kernel) hX hst hR hs henv hi h1 fun v2 W1 s1 x1 e1 r1 => ?_
        subst e1
        obtain ⟨_, _, _, rfl, q1, q2, q3⟩ := rep_list r1
        obtain ⟨⟨lt2, rfl, rfl⟩, _⟩ := strsD_rep hx2 q3
        refine call_setStrs hR.1 (isList_of x1.inv q1) (by have := hlen.1; simp at this; unfold scanBound; omega) fun h2' tk2 c hset hc hk2 => ?_
        have x2 : Ext G W1 s1 W1 { s1 with heap := h2', toks := tk2 } := Ext.keeps x1.inv hk2
        obtain ⟨oS, esS, epS, tbS, hoS, hexS, hdS, _⟩ := id hset
        obtain ⟨cS, dS, datS, slS⟩ := oS
        obtain ⟨hcS, hdiS, hslS⟩ := hexS
        dsimp only at hcS hdiS hslS hdS
        subst hcS hdiS hslS hdS
        refine contains_attr hoS ?_
        generalize hSaddr : s1.heap.objs.size = S at *
        have x3 : Ext G W1 { s1 with heap := h2', toks := tk2 } W1 { s1 with heap := h2'.push (boundObj "set.__contains__" (.ref S)), toks := tk2 + 1 } := Ext.push x2.inv _ _
        have x13 := (x1.trans x2).trans x3
        refine wpAny_items_cons ?_ (hst2 env)
        refine hY A env ρ W1 ow _ _ E hR hs (henv.ext hi x13) x3.inv _ k' h2 fun v1 W4 s4 x4 e4 r4 => ?_
        refine wpAny_items_nil ?_
        subst e4
        obtain ⟨l, vs1, m1, rfl, t1, t2, t3⟩ := rep_list r4
        obtain ⟨⟨lt1, rfl, rfl⟩, hasc1⟩ := strsD_rep hx1 t3
        have x14 := x13.trans x4
        obtain ⟨ps, hT, _⟩ := x3.inv.tab
        have hM0 : (h2'.push (boundObj "set.__contains__" (.ref S))).get? h2'.objs.size = some (boundObj "set.__contains__" (.ref S)) := Heap.get?_push_size _ rfl
        have hTM : h2'.objs.size ≠ TB := x2.inv.size_ne_TB
        have hTS : S ≠ TB := by
          obtain ⟨ps2, hT2, _⟩ := x2.inv.tab
          exact not_tab_of_ne hoS hT2 (fun vs q => by cases q)
        have hM4 : s4.heap.get? h2'.objs.size = some (boundObj "set.__contains__" (.ref S)) := x4.keep _ _ hTM hM0
        have hS4 : s4.heap.SetOf (PySem.strKind prog w) S (fun y => decide (y ∈ lt2.map (·.1))) c := by
          obtain ⟨o, es, ep, t, ho, r⟩ := hset
          exact ⟨o, es, ep, t, x4.keep _ _ hTS (Heap.get?_push_of_some _ ho), r⟩
        have hl4 : s4.heap.get? l = some (listO (strValues lt1) m1) := x4.inv.sub _ _ t1
        generalize hMaddr : h2'.objs.size = M at *
        refine callType_new called_filter (by decide) (typeCall_filter _ _) (newCall_filter _ _) (fun obj => args_oi_3 obj _ _) entry_filter_new (meets_filter_new l M (strValues lt1).toArray m1 none #[]) ⟨hl4, ?_⟩
        have hz : (s4.heap.push { cls := .type "list_iterator", data := .fields #[.ref l, .int 0 0] }).objs.size = s4.heap.objs.size + 1 := Heap.size_push ..
        show _ ∧ _
        rw [hz]
        have hFo : ((s4.heap.push { cls := .type "list_iterator", data := .fields #[.ref l, .int 0 0] }).push { cls := .type "filter", data := .fields #[.ref M, .ref s4.heap.objs.size] }).get? (s4.heap.objs.size + 1) = some { cls := .type "filter", data := .fields #[.ref M, .ref s4.heap.objs.size] } := by
          rw [← hz]; exact Heap.get?_push_size _ rfl
        refine ⟨⟨_, hFo, rfl⟩, ?_⟩
        refine wpAny_items_nil ?_
        have hk5 : ∀ b o, s4.heap.get? b = some o → ((s4.heap.push { cls := .type "list_iterator", data := .fields #[.ref l, .int 0 0] }).push { cls := .type "filter", data := .fields #[.ref M, .ref s4.heap.objs.size] }).get? b = some o := fun b o e => Heap.get?_push_of_some _ (Heap.get?_push_of_some _ e)
        have x5 := Ext.keeps (tk := s4.toks) x4.inv hk5
        generalize hh5 : (s4.heap.push { cls := .type "list_iterator", data := .fields #[.ref l, .int 0 0] }).push { cls := .type "filter", data := .fields #[.ref M, .ref s4.heap.objs.size] } = h5 at *
        have hit5 : h5.IsListIter s4.heap.objs.size l 0 := ⟨_, by rw [← hh5]; exact Heap.get?_push_of_some _ (Heap.get?_push_size _ rfl), rfl, rfl⟩
        have st5 : FState prog w (s4.heap.objs.size + 1) s4.heap.objs.size l S M lt1 (fun y => decide (y ∈ lt2.map (·.1))) c 0 h5 := by
          refine ⟨hFo, hit5, ⟨_, hk5 _ _ hl4, rfl, m1, rfl⟩, ?_, hk5 _ _ hM4⟩
          obtain ⟨o, es, ep, t, ho, r⟩ := hS4
          exact ⟨o, es, ep, t, hk5 _ _ ho, r⟩
        have ap : FApart (s4.heap.objs.size + 1) s4.heap.objs.size l S M := ⟨Nat.succ_ne_self _, Nat.ne_of_lt (Heap.lt_size hl4), (by
          obtain ⟨o, es, ep, t, ho, r⟩ := hS4
          exact Nat.ne_of_lt (Heap.lt_size ho)), Nat.ne_of_lt (Heap.lt_size hM4)⟩
        have WkF := walksF (A := A.in1.in1) (prog := prog) (w := w) (c := c) (lt := lt1) (P := fun y => decide (y ∈ lt2.map (·.1))) hR.1 ap (kept := lt1.filter fun p => decide (p.1 ∈ lt2.map (·.1))) rfl
        have hlt1 : lt1.length ≤ 1000 := by have := hlen.2; simpa using this
        have hsz5 : h5.objs.size = s4.heap.objs.size + 2 := by rw [← hh5, Heap.size_push, Heap.size_push]
        refine call_listF (s := { s4 with heap := h5 }) WkF.toS (fun i s q => by obtain ⟨j, _, _, st⟩ := q; exact st.typeIs) ⟨0, Nat.zero_le _, by simp, st5⟩ (fun b hb => ?_) (by simp) (fun s6 acc c6 hm6 hD6 hit6 => ?_) (by
          refine Nat.le_trans (List.length_filter_le _ _) (Nat.le_trans hlt1 (by decide)))
        · show b < h5.objs.size
          rw [hsz5]
          simp only [List.mem_cons, List.not_mem_nil, or_false] at hb
          have e1 := Heap.lt_size hl4
          have e2 := Heap.lt_size hM4
          have e3 : S < s4.heap.objs.size := by
            obtain ⟨o, es, ep, t, ho, r⟩ := hS4
            exact Heap.lt_size ho
          rcases hb with q | q | q | q | q
          · rw [q]; exact Nat.lt_succ_self _
          · rw [q]; exact Nat.lt_succ_of_lt (Nat.lt_succ_self _)
          · rw [q]; exact Nat.lt_succ_of_lt (Nat.lt_succ_of_lt e1)
          · rw [q]; exact Nat.lt_succ_of_lt (Nat.lt_succ_of_lt e3)
          · rw [q]; exact Nat.lt_succ_of_lt (Nat.lt_succ_of_lt e2)
        · have hD0 : h5.get? h5.objs.size = none := Heap.new_none h5
          have x6 : Ext G W4 { s4 with heap := h5 } W4 { s4 with heap := h5.push { cls := .type "list", data := .seq #[] } } := Ext.push x5.inv _ _
          have eg := hm6.gens
          have ed := hm6.drawn
          have eo := hm6.os
          have es6 : s6 = { s4 with heap := s6.heap, toks := s6.toks } := by
            cases s6; simp only at eg ed eo; subst eg ed eo; rfl
          have hk6 : ∀ b o, s4.heap.get? b = some o → s6.heap.get? b = some o := fun b o e => by
            refine hm6.heap b o (fun q => ?_) (Heap.get?_push_of_some _ (hk5 b o e))
            simp only [List.mem_cons, List.not_mem_nil, or_false] at q
            have l1 := Heap.lt_size e
            rcases q with q | q
            · have q' : b = h5.objs.size := q
              rw [hsz5] at q'
              rw [q'] at l1
              exact absurd l1 (Nat.not_lt.mpr (Nat.le_succ_of_le (Nat.le_succ _)))
            · rw [q] at l1; exact absurd l1 (Nat.lt_irrefl _)
          have x46 : Ext G W4 s4 W4 s6 := by rw [es6]; exact Ext.keeps x4.inv hk6
          have hDn : s4.heap.get? h5.objs.size = none := by
            cases e : s4.heap.get? h5.objs.size with
            | none => rfl
            | some o =>
              have := Heap.lt_size e
              rw [hsz5] at this
              exact absurd this (Nat.not_lt.mpr (Nat.le_succ_of_le (Nat.le_succ _)))
          have hDP : W4.P h5.objs.size = none := x4.inv.none_of hDn
          have hDT : h5.objs.size ≠ TB := fun q => by
            obtain ⟨ps2, hT2, _⟩ := x4.inv.tab
            rw [← q, hDn] at hT2; cases hT2
          have hob : s6.heap.get? h5.objs.size = some (listO acc.toList c6) := by simpa [listO] using hD6
          have hacc : RepL W4 acc.toList (((lt1.map (·.1)).filter fun x => decide (x ∈ lt2.map (·.1))).map D.str) := by
            obtain ⟨hsz, hall⟩ := hit6
            have gen : ∀ (kept : List (Str × Tok)) (us : List Value), us.length = kept.length → (∀ (j : Nat) (v : Value), us[j]? = some v → ∃ p : Str × Tok, kept[j]? = some p ∧ v = Value.str p.1 p.2) → (∀ p ∈ kept, AscOk p.1) → RepL W4 us (kept.map fun (p : Str × Tok) => D.str p.1) := by
              intro kept
              induction kept with
              | nil => intro us h1 _ _; cases us with | nil => exact .nil | cons => cases h1
              | cons p r ih =>
                intro us h1 h2 h3
                cases us with
                | nil => cases h1
                | cons u us =>
                  obtain ⟨p', e1, e2⟩ := h2 0 u rfl
                  cases e1
                  subst e2
                  exact .cons (.str _ (h3 p List.mem_cons_self)) (ih us (by simpa using h1) (fun j v hv => h2 (j + 1) v (by simpa using hv)) fun q hq => h3 q (List.mem_cons_of_mem _ hq))
            have := gen (lt1.filter fun p => decide (p.1 ∈ lt2.map (·.1))) acc.toList (by rw [Array.length_toList]; exact hsz) (fun j v hv => hall j v (by simpa using hv)) (fun p hp => hasc1 p.1 (List.mem_map_of_mem (List.mem_filter.mp hp).1))
            rw [← filter_map_fst (fun x => decide (x ∈ lt2.map (·.1))) lt1, List.map_map]
            exact this
          have hbig : acc.toList.length ≤ big := by
            rw [hacc.length, List.length_map]
            refine Nat.le_trans (List.length_filter_le _ _) ?_
            rw [List.length_map]
            exact Nat.le_trans hlt1 (by decide)
          refine hQ _ (W4.put h5.objs.size (listO acc.toList c6)) s6 ?_ rfl (.list (Wd.put_self ..) hbig (hacc.mono (.put (h := ({} : Heap)) hDP (empty_get _))))
          have xx := x14.trans x46
          exact ⟨xx.same, xx.keep, xx.le.trans (.put (h := s.heap) hDP (x14.dead hDn)) (fun _ q => q), x46.inv.put hob hDP hDT⟩
      · cases h3
    · cases h3
  · cases h3
end
end Mine
end

section
open PySem PySem.W PySem.Calls PyProof.Rows PySem.SeqAt
open Builtin Builtin.ObjectAttr
set_option Elab.async false
set_option maxRecDepth 100000
set_option linter.unusedVariables false
namespace Mine
section
variable {prog : Program} {w : World} {G : Heap} {mg mb : Str → Option Value} {n : Nat} {sc : Scope}
noncomputable def mergeF : Fx := fun ds k => match ds with
  | [.ent _ ag1 ru1 de1, .ent _ ag2 ru2 de2] => (match filterD (.list ag2) (.list ag1) with
    | some (.list ag) => if ru1.length + ru2.length ≤ big then some (.ent k ag (ru1 ++ ru2) (if isNoneD de2 then de1 else de2), k + 1) else none
    | _ => none)
  | _ => none
theorem merge_ok (gn : Gnd prog w G mg mb) : CallOk prog w G 3 63 mergeF := by
  intro A W s vs ds Q E d k' hR hi hr hf hQ
  unfold mergeF at hf
  split at hf
  · rename_i i1 ag1 ru1 de1 i2 ag2 ru2 de2
    split at hf
    · rename_i ag hag
      split at hf
      · rename_i hbig
        cases hf
        refine wpAny_call (def_run (names := ["e1", "e2"]) (n := 2) gn (def_at gn rfl rfl (by kernel_rfl) (fun vs h => by obtain ⟨a0, a1, rfl⟩ := len_2 h; rfl) (by decide +kernel)) (by rw [hr.length]; rfl) hR hi fun env s1 hsc hR1 x1 hen hns hLn hcn _ _ _ E' => ?_)
        have he1 := hen (bindP ["e1", "e2"] [.ent i1 ag1 ru1 de1, .ent i2 ag2 ru2 de2]) fun y d hy => zip_rep hr hy
        rw [execs_cons]
        refine wpAny_bind (first_stmt (sc := env.scope) gn (by rw [hsc]; decide +kernel) (by rw [hsc]; decide +kernel) hR1 rfl he1 x1.inv x1 hLn hcn fun x dx v1 v2 W2 s2 l2 e2 le2 he2 hO => ?_)
        dsimp only
        generalize hρ0 : upd (bindP ["e1", "e2"] [.ent i1 ag1 ru1 de1, .ent i2 ag2 ru2 de2]) (Str.ofString "entry") (.fn x) = ρ at *
        have r1 : ρ "e1" = some (.ent i1 ag1 ru1 de1) := by
          rw [← hρ0, upd_ne (by decide +kernel)]; simp [bindP]
        have r2 : ρ "e2" = some (.ent i2 ag2 ru2 de2) := by
          rw [← hρ0, upd_ne (by decide +kernel)]
          have q : ((Str.ofString "e2") == (Str.ofString "e1")) = false := by decide +kernel
          simp [bindP, List.lookup_cons, q]
        have rx : ρ "entry" = some (.fn x) := by rw [← hρ0]; exact upd_eq
        have w1 : ∀ k, varE "e1" ρ k = some (.ent i1 ag1 ru1 de1, k) := fun k => by unfold varE; rw [r1]
        have w2 : ∀ k, varE "e2" ρ k = some (.ent i2 ag2 ru2 de2, k) := fun k => by unfold varE; rw [r2]
        have at1 : ∀ (y : Str) (d : D) (k : Nat), attrD y (.ent i1 ag1 ru1 de1) = some d → oneE (attrD y) (varE "e1") ρ k = some (d, k) := fun y d k h => by
          unfold oneE; rw [w1]; dsimp only; rw [h]
        have at2 : ∀ (y : Str) (d : D) (k : Nat), attrD y (.ent i2 ag2 ru2 de2) = some d → oneE (attrD y) (varE "e2") ρ k = some (d, k) := fun y d k h => by
          unfold oneE; rw [w2]; dsimp only; rw [h]
        have a_ag : ∀ i ag ru de, attrD "useragents" (.ent i ag ru de) = some (.list ag) := fun i ag ru de => by unfold attrD; dsimp only; rw [if_pos rfl]
        have a_ru : ∀ i ag ru de, attrD "rulelines" (.ent i ag ru de) = some (.list ru) := fun i ag ru de => by unfold attrD; dsimp only; rw [if_neg (by decide +kernel), if_pos rfl]
        have a_de : ∀ i ag ru de, attrD "delay" (.ent i ag ru de) = some de := fun i ag ru de => by unfold attrD; dsimp only; rw [if_neg (by decide +kernel), if_neg (by decide +kernel), if_pos rfl]
        have a_rr : ∀ i ag ru de, attrD "req_rate" (.ent i ag ru de) = some .none := fun i ag ru de => by unfold attrD; dsimp only; rw [if_neg (by decide +kernel), if_neg (by decide +kernel), if_neg (by decide +kernel), if_pos rfl]
        have E1 : SE prog w G 2 env.scope (.Name "e1" ⟨0, 0, 0, 0⟩) (varE "e1") := se_name (by rw [hsc]; decide +kernel)
        rw [execs_cons]
        refine wpAny_bind (set_stmt (sc := env.scope) (f := twoE filterD (oneE (attrD "useragents") (varE "e2")) (oneE (attrD "useragents") (varE "e1"))) (d := .list ag) (k' := W2.k) gn
          (se_filter gn (by rw [hsc]; decide +kernel) (by rw [hsc]; decide +kernel) (by rw [hsc]; decide +kernel) (se_attr gn (se_name (by rw [hsc]; decide +kernel)) (fun _ => rfl)) (se_attr gn (se_name (by rw [hsc]; decide +kernel)) (fun _ => rfl)) (fun _ => rfl) (fun _ => rfl) (fun _ => rfl))
          (by rw [hsc]; decide +kernel) hR1 rfl he2 l2 (by decide) hO (by kernel_rfl) rx ?_ rfl fun va W3 s3 e3 ra le3 l3 he3 => ?_)
        · unfold twoE
          rw [at2 _ _ _ (a_ag ..)]; dsimp only
          rw [at1 _ _ _ (a_ag ..)]; dsimp only
          rw [hag]
        dsimp only
        rw [execs_cons]
        refine wpAny_bind (set_stmt (sc := env.scope) (f := binE .Add (oneE (attrD "rulelines") (varE "e1")) (oneE (attrD "rulelines") (varE "e2"))) (d := .list (ru1 ++ ru2)) (k' := W3.k) gn
          (se_bin gn (se_attr gn (se_name (by rw [hsc]; decide +kernel)) (fun _ => rfl)) (se_attr gn (se_name (by rw [hsc]; decide +kernel)) (fun _ => rfl)))
          (by rw [hsc]; decide +kernel) hR1 rfl he3 l3 (by decide) hO (by kernel_rfl) rx ?_ rfl fun vr W4 s4 e4 rr le4 l4 he4 => ?_)
        · unfold binE
          rw [at1 _ _ _ (a_ru ..)]; dsimp only
          rw [at2 _ _ _ (a_ru ..)]; dsimp only
          unfold binD; dsimp only [int2, addD]; rw [if_pos hbig]
        dsimp only
        rw [execs_cons]
        refine wpAny_bind (set_stmt (sc := env.scope) (f := iteE (cmpE .Is (oneE (attrD "delay") (varE "e2")) (litE .none)) (oneE (attrD "delay") (varE "e1")) (oneE (attrD "delay") (varE "e2"))) (d := if isNoneD de2 then de1 else de2) (k' := W4.k) gn
          (se_ite (st_cmp (se_attr gn (se_name (by rw [hsc]; decide +kernel)) (fun _ => rfl)) se_none rfl) (se_attr gn (se_name (by rw [hsc]; decide +kernel)) (fun _ => rfl)) (se_attr gn (se_name (by rw [hsc]; decide +kernel)) (fun _ => rfl)))
          (by rw [hsc]; decide +kernel) hR1 rfl he4 l4 (by decide) hO (by kernel_rfl) rx ?_ rfl fun vd W5 s5 e5 rd le5 l5 he5 => ?_)
        · unfold iteE cmpE
          rw [at2 _ _ _ (a_de ..)]; dsimp only [litE]
          have : cmpD .Is de2 .none = some (isNoneD de2) := rfl
          rw [this]
          cases hn : isNoneD de2 with
          | true => dsimp only; rw [at1 _ _ _ (a_de ..)]; simp
          | false => dsimp only; rw [at2 _ _ _ (a_de ..)]; simp
        dsimp only
        rw [execs_cons]
        refine wpAny_bind (set_stmt (sc := env.scope) (f := iteE (cmpE .Is (oneE (attrD "req_rate") (varE "e2")) (litE .none)) (oneE (attrD "req_rate") (varE "e1")) (oneE (attrD "req_rate") (varE "e2"))) (d := .none) (k' := W5.k) gn
          (se_ite (st_cmp (se_attr gn (se_name (by rw [hsc]; decide +kernel)) (fun _ => rfl)) se_none rfl) (se_attr gn (se_name (by rw [hsc]; decide +kernel)) (fun _ => rfl)) (se_attr gn (se_name (by rw [hsc]; decide +kernel)) (fun _ => rfl)))
          (by rw [hsc]; decide +kernel) hR1 rfl he5 l5 (by decide) hO (by kernel_rfl) rx ?_ rfl fun vq W6 s6 e6 rq le6 l6 he6 => ?_)
        · unfold iteE cmpE
          rw [at2 _ _ _ (a_rr ..)]; dsimp only [litE]
          have : cmpD .Is .none .none = some true := rfl
          rw [this]
          dsimp only
          exact at1 _ _ _ (a_rr ..)
        have hvq : vq = .none := by cases rq; rfl
        subst hvq
        dsimp only
        rw [execs_cons]
        refine wpAny_bind (ret_live (sc := env.scope) (by rw [hsc]; decide +kernel) hR1 rfl he6 l6 rx fun W8 s8 e8 le8 l8 => wpAny_pure ?_)
        have hm : ∀ y : Str, (fun z : Str => if z = "req_rate" then some Value.none else (fun z : Str => if z = "delay" then some vd else (fun z : Str => if z = "rulelines" then some vr else (fun z : Str => if z = "useragents" then some va else initMap v1 v2 z) z) z) z) y = entMap va vr vd y := fun y => by
          unfold entMap initMap
          by_cases y1 : y = "delay"
          · subst y1; dsimp only; rw [if_neg (by decide +kernel), if_pos rfl, if_neg (by decide +kernel), if_neg (by decide +kernel), if_pos rfl]
          · by_cases y2 : y = "rulelines"
            · subst y2; dsimp only; rw [if_neg (by decide +kernel), if_neg (by decide +kernel), if_pos rfl, if_neg (by decide +kernel), if_pos rfl]
            · by_cases y3 : y = "useragents"
              · subst y3; dsimp only; rw [if_neg (by decide +kernel), if_neg (by decide +kernel), if_neg (by decide +kernel), if_pos rfl, if_pos rfl]
              · by_cases y4 : y = "req_rate"
                · subst y4; dsimp only; rw [if_pos rfl, if_neg (by decide +kernel), if_neg (by decide +kernel), if_neg (by decide +kernel), if_pos rfl]
                · simp only [y1, y2, y3, y4, if_false]
        obtain ⟨W9, x9, k9, r9⟩ := l8.freeze (va := va) (vr := vr) (vd := vd) hm ((((ra.mono le4).mono le5).mono le6).mono le8) (((rr.mono le5).mono le6).mono le8) ((rd.mono le6).mono le8)
        have hkk : W8.k = W.k := by rw [e8, e6, e5, e4, e3, e2]
        rw [hkk] at k9 r9
        exact hQ _ W9 s8 x9 k9 r9
      · cases hf
    · cases hf
  · cases hf
end
end Mine
end

section
open PySem PySem.W PySem.Calls PyProof.Rows PySem.SeqAt
open Builtin Builtin.ObjectAttr
set_option Elab.async false
set_option maxRecDepth 100000
set_option linter.unusedVariables false
namespace Mine
theorem slot_fn_sa : Slot "function" "__setattr__" "object.__setattr__" := .of (owner := "object") (n := "__setattr__") (by rw [typeLookup_type, builtinLookup_eq_fast]; kernel_rfl) (by decide +kernel) (by decide +kernel) (by decide +kernel)
  (by first | exact .inl (by decide +kernel) | exact .inr (by decide +kernel)) (by rw [isSubtype_type]; kernel_rfl)
theorem mro_function : mroOf (.type "function") = pure [.type "function", .type "object"] := by rw [mroOf_type]; kernel_rfl
theorem passes_function (self : Value) : refuseLoop self "__setattr__" [.type "function", .type "object"] = pure () := by kernel_rfl
noncomputable abbrev fnObj (D : Option Addr) (fd : FuncData) : Obj := { cls := .type "function", dict := D, data := .func fd }
section
variable {prog : Program} {w : World} {A : Around} {E : Value → Shared → Prop} {s : Shared}
theorem fn_set {F : Addr} {D : Option Addr} {fd : FuncData} {m : Str → Option Value} {k : Nat} {y : Str} {v : Value} {Q : Unit → Shared → Prop} (ho : s.heap.get? F = some (fnObj D fd)) (hy : typeLookup (.type "function") y = pure none) (hk : k ≤ 1000)
    (hd : (∃ d, D = some d ∧ DictAt s.heap d m k ∧ d ≠ F) ∨ (D = none ∧ ∀ x, m x = none))
    (h : ∀ d h', h'.get? F = some (fnObj (some d) fd) → DictAt h' d (fun z => if z = y then some v else m z) (k + 1) → d ≠ F → (D = some d ∨ (D = none ∧ s.heap.get? d = none)) → (∀ b o, b ≠ F → D ≠ some b → s.heap.get? b = some o → h'.get? b = some o) → Q () { s with heap := h', toks := s.toks + 1 + 1 }) :
    wpAny (model prog w) A (setAttr (.ref F) y v) Q E s := by
  have hT : ∀ t, ({ s with toks := t } : Shared).TypeIs (.ref F) "function" := fun _ => ⟨_, ho, rfl⟩
  unfold setAttr
  refine wpAny_bind (wpAny_mkText (wpAny_bind (wpAny_callSpecial?_slot (s := { s with toks := s.toks + 1 }) (name := Str.ofString "__setattr__") (hT _) slot_fn_sa (wpAny_call_entry slot_fn_sa (hT _) PySem.F.entry_object_sa ?_ (PySem.F.store_object.args _ _ _)))))
  rw [osa_eq, refuse_eq]
  refine wpAny_bind (wpAny_bind (wpAny_typeOf (hT _) ?_))
  rw [mro_function]
  refine wpAny_bind (wpAny_pure ?_)
  rw [passes_function]
  refine wpAny_pure (wpAny_bind (wpAny_typeOf (hT _) ?_))
  rw [hy]
  refine wpAny_bind (wpAny_pure (wpAny_bind (wpAny_pure ?_)))
  show wpAny _ _ (storeInOwnDict (.ref F) (.type "function") (.str y s.toks) y v false) _ _ _
  unfold storeInOwnDict
  refine wpAny_bind (wpAny_pure (wpAny_bind ?_))
  show wpAny _ _ (instanceDict F true) _ _ _
  unfold instanceDict
  refine wpAny_bind (wpAny_loadPart ho ?_)
  rcases hd with ⟨d, rfl, hd1, hd2⟩ | ⟨rfl, hd⟩
  · refine wpAny_pure ?_
    show wpAny _ _ (storeInDict d (.str y s.toks) y v) _ _ _
    unfold storeInDict newKeyGuard
    refine wpAny_bind (wpAny_pure (wpAny_bind (nsSet_at (s := { s with toks := s.toks + 1 }) hd1 fun h' hd3 hs3 => ?_)))
    obtain ⟨es', ep', ho', _, _, hz'⟩ := id hd3
    refine wpAny_bind (wpAny_lookBehind ho' (pastItsLine_dict (by rw [sizeLine_eq]; omega)) ?_)
    refine wpAny_pure ⟨.none, rfl, ?_⟩
    refine wpAny_pure ?_
    exact h d h' (hs3.extBut _ _ hd2.symm ho) hd3 hd2 (.inl rfl) fun b o q1 q2 e => hs3.extBut b o (fun q => q2 (by rw [q])) e
  · show wpAny _ _ (if (!true || !typeHasDict (.type "function")) = true then pure none else _) _ _ _
    rw [if_neg (by decide +kernel)]
    refine wpAny_bind (wpAny_alloc ?_)
    have hF1 : (s.heap.push { cls := .type "dict", data := .dict #[] }).get? F = some (fnObj none fd) := Heap.get?_push_of_some _ ho
    have hFs : F ≠ s.heap.objs.size := Nat.ne_of_lt (Heap.lt_size ho)
    refine wpAny_bind (wpAny_update hF1 ?_)
    refine wpAny_pure ?_
    generalize hh1 : (s.heap.push { cls := .type "dict", data := .dict #[] }).update F _ = h1
    have hF2 : h1.get? F = some (fnObj (some s.heap.objs.size) fd) := by rw [← hh1]; exact Heap.get?_update_self _ hF1 rfl
    have hsb : Heap.SameBut F (s.heap.push { cls := .type "dict", data := .dict #[] }) h1 := by rw [← hh1]; exact Heap.SameBut.update ..
    have hD2 : DictAt h1 s.heap.objs.size m k := ⟨#[], _, hsb.extBut _ _ hFs.symm (Heap.get?_push_size _ rfl), fun e he => absurd he (by simp), fun x => (hd x).symm, Nat.zero_le _⟩
    show wpAny _ _ (storeInDict s.heap.objs.size (.str y s.toks) y v) _ _ _
    unfold storeInDict newKeyGuard
    refine wpAny_bind (wpAny_pure (wpAny_bind (nsSet_at (s := { s with heap := h1, toks := s.toks + 1 }) hD2 fun h' hd3 hs3 => ?_)))
    obtain ⟨es', ep', ho', _, _, hz'⟩ := id hd3
    refine wpAny_bind (wpAny_lookBehind ho' (pastItsLine_dict (by rw [sizeLine_eq]; omega)) ?_)
    refine wpAny_pure ⟨.none, rfl, ?_⟩
    refine wpAny_pure ?_
    refine h s.heap.objs.size h' (hs3.extBut _ _ hFs hF2) hd3 hFs.symm (.inr ⟨rfl, Heap.new_none _⟩) fun b o q1 q2 e => ?_
    exact hs3.extBut b o (Nat.ne_of_lt (Heap.lt_size e)) (hsb.extBut b o q1 (Heap.get?_push_of_some _ e))
end
end Mine
end

section
open PySem PySem.W PySem.Calls PyProof.Rows PySem.SeqAt
open Builtin Builtin.ObjectAttr
set_option Elab.async false
set_option maxRecDepth 100000
set_option linter.unusedVariables false
namespace Mine
section
variable {prog : Program} {w : World} {G : Heap} {mg mb : Str → Option Value} {n : Nat} {sc : Scope}

/-- a call of the def that a name holds -/
noncomputable def callVE (x : Str) (a : Addr) (F : Fx) (g : Lx) : Ex := fun ρ k => match ρ x with
  | some (.fn b) => if b = a then (match g ρ k with
    | none => none
    | some (ds, k1) => F ds k1) else none
  | _ => none
theorem se_callV {x : Str} {a : Addr} {e : Expr} {es : List Expr} {p pos : Pos} {g : Lx} {F : Fx} {m : Nat} (gn : Gnd prog w G mg mb) (hn : nameOk sc x = true) (ho : ∃ o fd, G.get? a = some o ∧ o.data = .func fd) (hC : CallOk prog w G m a F) (hm : m ≤ n) (h : SL prog w G n sc (e :: es) g) (hst : ∀ env, starEach (e :: es) env = (false, eval e env) :: starEach es env) :
    SE prog w G n sc (.Call (.Name x p) (e :: es) [] pos) (callVE x a F g) := fun A env ρ W ow s Q E hR hs he hi d k' hf hQ => by
  unfold callVE at hf
  split at hf
  · rename_i b hx
    split at hf
    · rename_i hb
      subst hb
      split at hf
      · cases hf
      · rename_i ds k1 h1
        obtain ⟨o, fd, ho1, hfd⟩ := ho
        simp only [nameOk, Bool.and_eq_true, Bool.not_eq_true'] at hn
        refine wpAny_Call_NameR (wpAny_Name (ld he (hs ▸ hn.1.1) hx hn.1.2 fun v hr => ?_) hn.2)
        have hr' : Rep W v (.fn b) := hr
        cases hr'
        refine callWith_function (o := o) (fd := fd) ?_
        have hL := h A env ρ W ow s pos (fun vs s' => (s'.heap.get? b = some o ∧ o.data = .func fd) ∧ wpAny (model prog w) A (call (.ref b) ([] ++ vs) []) Q E s') E hR hs he hi ds k1 h1 fun vs W1 s1 x1 e1 r1 _ => by
          subst e1
          exact ⟨⟨x1.inv.sub0 _ _ ho1, hfd⟩, hC A W1 s1 vs ds Q E d k' (hR.le hm) x1.inv r1 hf fun v W2 s2 x2 e2 r2 => hQ v W2 s2 (x1.trans x2) e2 r2⟩
        rw [hst] at hL ⊢
        exact evalArgs_plain hL
    · cases hf
  · cases hf
end
end Mine
end

section
open PySem PySem.W PySem.Calls PyProof.Rows PySem.SeqAt
open Builtin Builtin.ObjectAttr
set_option Elab.async false
set_option maxRecDepth 100000
set_option linter.unusedVariables false
namespace Mine
section
variable {prog : Program} {w : World} {G : Heap} {mg mb : Str → Option Value} {n : Nat} {sc : Scope}
noncomputable def foldM (F : Fx) : List D → D → Nat → Option (D × Nat)
  | [], a, k => some (a, k)
  | e :: r, a, k => match F [a, e] k with
    | none => none
    | some (a', k') => foldM F r a' k'
noncomputable def reduceF : Fx := fun ds k => match ds with
  | [.fn a, .list es, .ent i ag ru de] => if a = 63 then foldM mergeF es (.ent i ag ru de) k else none
  | _ => none
theorem mergeF_ent {ds : List D} {k k' : Nat} {d : D} (h : mergeF ds k = some (d, k')) : ∃ i ag ru de, d = .ent i ag ru de := by
  unfold mergeF at h
  split at h
  · split at h
    · split at h
      · cases h; exact ⟨_, _, _, _, rfl⟩
      · cases h
    · cases h
  · cases h
noncomputable def redBody : Sx := seqS (asgS "value" (callVE "function" 63 mergeF (consL (varE "value") (consL (varE "element") nilL)))) nilS
theorem red_loop : ∀ (es : List D) (a d : D) (k k' : Nat) (ρ : Rho), foldM mergeF es a k = some (d, k') → (∃ i ag ru de, a = .ent i ag ru de) → ρ "function" = some (.fn 63) → ρ "value" = some a → (∀ e ∈ es, ∀ xs, e ≠ .own xs) →
    ∃ ρ', loopS (bfS "element") redBody nilS es ρ k = some (.next, ρ', k') ∧ ρ' "value" = some d ∧ ∃ i ag ru de, d = .ent i ag ru de
  | [], a, d, k, k', ρ, h, he, h1, h2, _ => by
    unfold foldM at h; cases h
    exact ⟨ρ, rfl, h2, he⟩
  | e :: r, a, d, k, k', ρ, h, he, h1, h2, hno => by
    unfold foldM at h
    split at h
    · cases h
    · rename_i a' k1 hm
      unfold loopS
      have hb : bfS "element" e ρ = some (upd ρ "element" e) := rfl
      rw [hb]
      dsimp only
      have v1 : varE "value" (upd ρ "element" e) k = some (a, k) := by
        unfold varE
        rw [upd_ne (by decide +kernel), h2]
        obtain ⟨i, ag, ru, de, rfl⟩ := he
        rfl
      have v2 : varE "element" (upd ρ "element" e) k = some (e, k) := by
        unfold varE
        rw [upd_eq]
        have := hno e List.mem_cons_self
        cases e <;> first | rfl | exact absurd rfl (this _)
      have hbody : redBody (upd ρ "element" e) k = some (.next, upd (upd ρ "element" e) "value" a', k1) := by
        unfold redBody seqS asgS callVE
        have q : (upd ρ "element" e) "function" = some (.fn 63) := by rw [upd_ne (by decide +kernel), h1]
        rw [q]
        dsimp only
        rw [if_pos rfl]
        unfold consL
        rw [v1]
        dsimp only
        rw [v2]
        dsimp only [nilL]
        rw [hm]
        rfl
      rw [hbody]
      dsimp only
      exact red_loop r a' d k1 k' _ h (mergeF_ent hm) (by rw [upd_ne (by decide +kernel), upd_ne (by decide +kernel), h1]) upd_eq fun x hx => hno x (List.mem_cons_of_mem _ hx)
theorem repL_noOwn {W : Wd} : ∀ {vs : List Value} {ds : List D}, RepL W vs ds → ∀ e ∈ ds, ∀ xs, e ≠ .own xs
  | _, _, .nil, e, h => nomatch h
  | _, _, .cons r t, e, h => by
    rcases List.mem_cons.mp h with rfl | h
    · intro xs q; subst q; exact rep_own r
    · exact repL_noOwn t e h
theorem reduce_ok (gn : Gnd prog w G mg mb) : CallOk prog w G 4 72 reduceF := by
  intro A W s vs ds Q E d k' hR hi hr hf hQ
  unfold reduceF at hf
  split at hf
  · rename_i a es i ag ru de
    split at hf
    · rename_i ha
      subst ha
      refine wpAny_call (def_run (names := ["function", "sequence", "initial"]) (n := 3) gn (def_atD gn rfl rfl (by kernel_rfl) rfl rfl rfl (fun vs h => by obtain ⟨a0, a1, a2, rfl⟩ := len_3 h; exact ⟨_, rfl, by first | rfl | kernel_rfl⟩) (by decide +kernel)) (by rw [hr.length]; rfl) hR hi fun env s1 hsc hR1 x1 hen hns hLn hcn _ _ _ E' => ?_)
      have he1 := hen (bindP ["function", "sequence", "initial"] [.fn 63, .list es, .ent i ag ru de]) fun y d hy => zip_rep hr hy
      generalize hρ0 : bindP ["function", "sequence", "initial"] [.fn 63, .list es, .ent i ag ru de] = ρ0 at *
      have b1 : ρ0 "function" = some (.fn 63) := by rw [← hρ0]; simp [bindP]
      have b2 : ρ0 "sequence" = some (.list es) := by
        rw [← hρ0]
        have q : ((Str.ofString "sequence") == (Str.ofString "function")) = false := by decide +kernel
        simp [bindP, List.lookup_cons, q]
      have b3 : ρ0 "initial" = some (.ent i ag ru de) := by
        rw [← hρ0]
        have q : ((Str.ofString "initial") == (Str.ofString "function")) = false := by decide +kernel
        have q2 : ((Str.ofString "initial") == (Str.ofString "sequence")) = false := by decide +kernel
        simp [bindP, List.lookup_cons, q, q2]
      have hee : ∀ e ∈ es, ∀ xs, e ≠ .own xs := by
        obtain ⟨_, _, _, _, hr2⟩ := repL_cons hr
        obtain ⟨_, _, _, r2, _⟩ := repL_cons hr2
        obtain ⟨_, _, _, _, _, _, q⟩ := rep_list r2
        exact repL_noOwn q
      rw [execs_cons]
      refine wpAny_bind (wpAny_Assign_Name (call1B (sc := env.scope) (n := 3) (T := "iter") (f := varE "sequence") gn (by rw [hsc]; decide +kernel) (by kernel_rfl) (by decide +kernel) (by decide +kernel) (by decide +kernel) (se_name (by rw [hsc]; decide +kernel)) (fun _ => rfl) hR1 rfl he1 x1.inv (a := .list es) (k1 := W.k) (by unfold varE; rw [b2]) fun v W2 s2 x2 e2 r2 => ?_) rfl)
      obtain ⟨l, us, m, rfl, p1, p2, p3⟩ := rep_list r2
      refine call_function_entry (by decide +kernel) (by decide +kernel) kdk_entry_iter (kdk_args_iter _) ?_
      unfold Builtin.«iter»
      refine wpAny_bind (m := someArgs "iter" 1 2 _) (wpAny_of_eq (a := [Value.ref l]) (by first | rfl | kernel_rfl) ?_)
      show wpAny _ _ (pyIter (.ref l) >>= _) _ _ _
      refine wpAny_bind (wpAny_pyIter_list (isList_of x2.inv p1) ?_)
      refine wpAny_pure ⟨_, rfl, ?_⟩
      have x3 := Ext.push x2.inv ({ cls := .type "list_iterator", data := .fields #[.ref l, .int 0 0] } : Obj) s2.toks
      have x13 := x2.trans x3
      have he3 := he1.ext x1.inv x13
      have hI := Heap.new_none s2.heap
      have hIit : (s2.heap.push ({ cls := .type "list_iterator", data := .fields #[.ref l, .int 0 0] } : Obj)).IsListIter s2.heap.objs.size l 0 := ⟨_, Heap.get?_push_size _ rfl, rfl, rfl⟩
      have hIP : W2.P s2.heap.objs.size = none := x2.inv.none_of hI
      have hI1 : s1.heap.get? s2.heap.objs.size = none := x2.dead hI
      have hIs : s.heap.get? s2.heap.objs.size = none := x1.dead hI1
      have hlI : l ≠ s2.heap.objs.size := fun q => by rw [q, hIP] at p1; cases p1
      generalize hIa : s2.heap.objs.size = I at *
      have hIO : ¬ Own env [] I := fun q => by
        obtain ⟨o, q1, _⟩ := he1.own_live q
        rw [hI1] at q1; cases q1
      refine st_ok (G := G) he3 x3.inv (by rw [hsc]; decide +kernel) (v := .ref I) (d := .fn I) (Rep.fn I) fun h4 tk4 hk4 hl4 he4 hi4 => ?_
      have sp4 := (SP.ext he1 x1.inv x13).trans (sp_store hk4 hl4 he4 hi4)
      have hI4 : h4.IsListIter I l 0 := by
        obtain ⟨o, q1, q2⟩ := hIit
        exact ⟨o, hk4 _ _ (fun q => hIO (pl_own q)) q1, q2⟩
      dsimp only
      rw [execs_cons]
      -- if initial is _initial_missing
      refine wpAny_bind (wpAny_If (wpAny_isTrue_Compare1 (se_name (n := 3) (sc := env.scope) (x := "initial") (by rw [hsc]; decide +kernel) (A.deeper env) env _ W2 [] _ _ _ hR1 rfl he4 hi4 (.ent i ag ru de) W2.k (by unfold varE; rw [upd_ne (by decide +kernel), b3]) fun vx W5 s5 x5 e5 r5 => ?_) rfl))
      have he5 := he4.ext hi4 x5
      refine glob_fn (sc := env.scope) (v := .ref 64) gn he5 x5.inv rfl (by rw [hsc]; decide +kernel) (by kernel_rfl) (by decide +kernel) ?_
      obtain ⟨_, _, _, rfl, _, ⟨dd, qq1, _⟩, _⟩ := rep_ent r5
      have g64 : s5.heap.get? 64 = some { cls := Value.type "object" } := x5.inv.sub0 _ _ (gn.X 64 _ rfl)
      have gx := x5.inv.sub _ _ qq1
      show wpAny _ _ (do return Value.bool (← isSame (.ref (W5.η i)) (.ref 64))) _ _ _
      refine wpAny_bind (wpAny_isSame_ref_other' (ne_of_get gx g64 (by intro q; cases q)) gx g64 (by simp) ?_)
      refine wpAny_pure (wpAny_truthy_bool ?_)
      simp only [Bool.false_eq_true, if_false]
      have sp5 := sp4.trans (SP.ext he4 hi4 x5)
      -- value = initial
      refine sb_cons (n := 3) (sc := env.scope) (ss_asg (x := "value") (f := varE "initial") (se_name (by rw [hsc]; decide +kernel)) (by rw [hsc]; decide +kernel) (fun _ _ => rfl)) sb_nil (A.deeper env) env _ W5 [] s5 _ _ hR1 rfl he5 x5.inv .next (upd (upd ρ0 (Str.ofString "it") (.fn I)) "value" (.ent i ag ru de)) W5.k (by
        unfold seqS asgS varE
        rw [upd_ne (by decide +kernel), b3]; rfl) fun fl6 W6 ow6 s6 sp6 r6 => ?_
      cases fl6 with
      | next =>
        have sp16 := sp5.trans sp6
        dsimp only
        rw [execs_cons]
        have hk6 := sp6.k
        have how6 : ∀ a ∈ ow6, s5.heap.get? a = none := fun a ha => (sp6.ow a ha).elim (fun q => nomatch q) id
        have hTI : I ≠ TB := fun q => by
          obtain ⟨ps, hT, _⟩ := hi4.tab
          obtain ⟨o, z1, z2, z3⟩ := hI4
          have z1' : h4.get? I = some o := z1
          have hT' : h4.get? TB = some (tabObj ps) := hT
          rw [q, hT'] at z1'; cases z1'; cases z2
        have hI5 : s5.heap.IsListIter I l 0 := by
          obtain ⟨o, z1, z2⟩ := hI4
          exact ⟨o, x5.keep _ _ hTI z1, z2⟩
        have hI6 : s6.heap.IsListIter I l 0 := by
          obtain ⟨o, z1, z2⟩ := hI5
          refine ⟨o, sp6.keep _ _ (fun q => ?_) hTI z1, z2⟩
          rcases q with q | q | q
          · exact hIO (.inl q)
          · exact hIO (.inr (.inl q))
          · cases q
        have p1_6 : W6.P l = some (listO us m) := sp6.le.sub _ _ (x5.le.sub _ _ p1)
        have r6L : RepL W6 us es := (p3.mono x5.le).mono sp6.le
        have hlen : us.toArray.size = es.length := by rw [List.size_toArray, r6L.length]
        have Wk := Walks.list (prog := prog) (w := w) (A := A.deeper env) hR1.1 I l hlI us.toArray
        rw [hlen] at Wk
        have hlive : ∀ i (h : Heap), (h.IsListIter I l i ∧ h.IsList l us.toArray) → ∀ b ∈ [I, l], ∃ o, h.get? b = some o := fun i h hst b hb => by
          rcases List.mem_cons.mp hb with rfl | hb
          · obtain ⟨o, ho, _⟩ := hst.1; exact ⟨o, ho⟩
          · rcases List.mem_cons.mp hb with rfl | hb
            · obtain ⟨o, ho, _⟩ := hst.2; exact ⟨o, ho⟩
            · cases hb
        have hP6I : W6.P I = none := by
          cases z : W6.P I with
          | none => rfl
          | some o =>
            obtain ⟨o5, z1, _⟩ := hI5
            rcases sp6.le.new _ _ z with z2 | z2
            · rcases x5.le.new _ _ z2 with z3 | z3
              · rw [hIP] at z3; cases z3
              · obtain ⟨o4, z4, _⟩ := hI4
                have z3' : h4.get? I = none := z3
                rw [z4] at z3'; cases z3'
            · rw [z1] at z2; cases z2
        have hlO : ∀ b ∈ [I, l], ¬ Own env ow6 b ∧ b ≠ TB := fun b hb => by
          rcases List.mem_cons.mp hb with rfl | hb
          · refine ⟨fun q => ?_, hTI⟩
            rcases q with q | q | q
            · exact hIO (.inl q)
            · exact hIO (.inr (.inl q))
            · obtain ⟨o5, z1, _⟩ := hI5
              rw [how6 _ q] at z1; cases z1
          · rcases List.mem_cons.mp hb with rfl | hb
            · refine ⟨fun q => ?_, fun q => ?_⟩
              · obtain ⟨o, _, _, z⟩ := sp6.env.own_live q
                rw [p1_6] at z; cases z
              · have z := sp6.inv.tabP
                rw [← q, p1_6] at z; cases z
            · cases hb
        obtain ⟨ρ', hloop, hval, iF, agF, ruF, deF, rfl⟩ := red_loop es (.ent i ag ru de) d W.k k' (upd (upd ρ0 (Str.ofString "it") (.fn I)) "value" (.ent i ag ru de)) hf ⟨_, _, _, _, rfl⟩ (by rw [upd_ne (by decide +kernel), upd_ne (by decide +kernel), b1]) upd_eq hee
        have hkk : W6.k = W.k := by rw [hk6, e5, e2]
        refine wpAny_bind (wpAny_For ?_ (fun _ => rfl))
        refine se_name (n := 3) (sc := env.scope) (x := "it") (by rw [hsc]; decide +kernel) (A.deeper env) env _ W6 ow6 s6 _ _ hR1 rfl sp6.env sp6.inv (.fn I) W6.k (by unfold varE; rw [upd_ne (by decide +kernel), upd_eq]) fun vI W7 s7 x7 e7 r7 => ?_
        have hvI : vI = .ref I := rep_fn r7
        subst hvI
        have sp17 := sp16.trans (SP.ext sp6.env sp6.inv x7)
        have r7L : RepL W7 us es := r6L.mono x7.le
        have hS7 := Src.ofWalks (G := G) (sc := env.scope) (x := "element") (px := ⟨68, 8, 68, 15⟩) (N := ["element"]) (bf := bfS "element") (W0 := W7) (ds := es) Wk (fun i v hv d hd => by
          obtain ⟨d', h3, h4⟩ := r7L.get' i v (by simpa using hv)
          rw [hd] at h3; cases h3; exact h4) hlive (by rw [hsc]; decide +kernel) (by simp) (fun _ _ _ h => bfS_upd h)
        have hlT : l ≠ TB := (hlO l (by simp)).2
        have hst7 : s7.heap.IsListIter I l 0 ∧ s7.heap.IsList l us.toArray := by
          obtain ⟨o, z1, z2⟩ := hI6
          exact ⟨⟨o, x7.keep _ _ hTI z1, z2⟩, ⟨_, x7.keep _ _ hlT (sp6.inv.sub _ _ p1_6), rfl, m, rfl⟩⟩
        refine hS7.self 0 s7 _ _ hst7 ?_
        have hP7I : W7.P I = none := by
          cases z : W7.P I with
          | none => rfl
          | some o =>
            obtain ⟨o6, z1, _⟩ := hI6
            rcases x7.le.new _ _ z with z2 | z2
            · rw [hP6I] at z2; cases z2
            · rw [z1] at z2; cases z2
        refine for_core (n := 3) (sc := env.scope) (fb := redBody) (fo := nilS) (W := W) (s := s1) (ow := []) (ds := es)
          (sb_cons (ss_asg (se_callV gn (by rw [hsc]; decide +kernel) (fn_at gn (by kernel_rfl)) (merge_ok gn) (by decide) (sl_cons (se_name (by rw [hsc]; decide +kernel)) (sl_cons (se_name (by rw [hsc]; decide +kernel)) sl_nil (fun _ => rfl)) (fun _ => rfl)) (fun _ => rfl)) (by rw [hsc]; decide +kernel) (fun _ _ => rfl)) sb_nil) sb_nil
          hR1 rfl sp17 hS7 hst7 hlO (fun b hb => ?_) (by rw [e7, hkk]; exact hloop) fun v8 W8 ow8 s8 sp8 r8 => ?_
        · rcases List.mem_cons.mp hb with rfl | hb
          · exact ⟨hI1, hP7I⟩
          · cases hb
        · cases v8 with
          | next =>
            dsimp only
            rw [execs_cons]
            refine wpAny_bind (wpAny_Return_some (se_name (n := 3) (sc := env.scope) (x := "value") (by rw [hsc]; decide +kernel) (A.deeper env) env _ W8 ow8 s8 _ _ hR1 rfl sp8.env sp8.inv (.ent iF agF ruF deF) W8.k (by unfold varE; rw [hval]) fun v9 W9 s9 x9 e9 r9 => wpAny_pure ?_))
            have sp9 := sp8.trans (SP.ext sp8.env sp8.inv x9)
            obtain ⟨h9, tk9, hs9⟩ := sp9.same
            obtain ⟨h1', tk1', hs1⟩ := x1.same
            refine hQ v9 W9 s9 ⟨⟨h9, tk9, by rw [hs9, hs1]⟩, fun b o' hb e => sp9.keep b o' (fun q => ?_) hb (x1.keep b o' hb e), x1.le.trans sp9.le fun a q => x1.dead q, sp9.inv⟩ (by rw [e9]; exact sp8.k) r9
            rcases q with q | ⟨y, q⟩ | q
            · rw [q, hLn] at e; cases e
            · rw [hcn y b q] at e; cases e
            · cases q
          | brk => cases r8
          | cont => cases r8
          | ret v => cases r8
      | brk => cases r6
      | cont => cases r6
      | ret v => cases r6
    · cases hf
  · cases hf
end
end Mine
end

section
open PySem PySem.W PySem.Calls PyProof.Rows PySem.SeqAt
open Builtin Builtin.ObjectAttr
set_option Elab.async false
set_option maxRecDepth 100000
set_option linter.unusedVariables false
namespace Mine
section
variable {prog : Program} {w : World} {G : Heap} {mg mb : Str → Option Value} {n : Nat} {sc : Scope}
theorem ne_TB_of_new {W : Wd} {s : Shared} (hi : Inv G W s) {a : Addr} (h : s.heap.get? a = none) : a ≠ TB := fun q => by
  obtain ⟨ps, hT, _⟩ := hi.tab
  rw [← q, h] at hT; cases hT
theorem mg_name (gn : Gnd prog w G mg mb) : (mg "__name__").getD .none = .str (Str.ofString "law_oy0142_01") 360 := by
  rw [nsIn_val gn.X gn.g (n := "__name__") (r := some (.str (Str.ofString "law_oy0142_01") 360)) (by kernel_rfl)]
  rfl
noncomputable abbrev tab1 (i : Nat) (c : Addr) : Array Value := #[rawInt (lamPos i).line, rawInt (lamPos i).col, .ref c]
theorem lam_make {i : Nat} {A : Around} {env : Env} {W : Wd} {s : Shared} {c : Addr} {ps : Array Value} {Q : Value → Shared → Prop} {E : Value → Shared → Prop} (gn : Gnd prog w G mg mb) (hi : Inv G W s) (hcode : env.code = .ref 132) (hglob : env.globals = mainGlobals) (hq : env.qual ++ "<lambda>" = lamQ)
    (hcl : closureFor (lam i).2.2.1 env = pure [(Str.ofString "front", c)]) (hdef : defaultsOf (lam i).1 env = ([], [])) (hT : s.heap.get? TB = some (tabObj ps)) (hG : TabGood W.P ps) (htri : TriplesOk ps.toList)
    (hcase : (codeAmong (lamPos i) ps.toList = none ∧ ∀ (P : Addr → Option Obj) (c' : Addr), (∀ a o, W.P a = some o → P a = some o) → CodeIn P (.ref c') lamQ → TabGood P (ps ++ tab1 i c')) ∨ (∃ c', codeAmong (lamPos i) ps.toList = some (.ref c') ∧ CodeIn W.P (.ref c') lamQ))
    (h : ∀ F cd ct W' s' ps', Ext G W s W' s' → W'.k = W.k → s'.heap.get? TB = some (tabObj ps') → TabGood W'.P ps' → (∃ c', codeAmong (lamPos i) ps'.toList = some c') → CodeIn W'.P cd lamQ → s.heap.get? F = none → s'.heap.get? F = some (fnObj none (lamFd i c cd ct)) → W'.P F = none → Q (.ref F) s') :
    wpAny (model prog w) A (eval (.Lambda (lam i).1 (lam i).2.1 (lam i).2.2.1 (lamPos i)) env) Q E s := by
  refine kla_eval hdef ?_
  rw [hq]
  have hgs : s.heap.Ns mainGlobals mg := gn.g.keeps hi.sub0
  obtain ⟨bm, ob, b1, b2, b3, b4, b5, b6⟩ := gn.bmain
  have hgP : mainGlobals ≠ TB := fun q => by
    obtain ⟨o, es, ep, e, hd, _⟩ := hgs
    rw [q, hT] at e; cases e; cases hd
  have hbP : bm ≠ TB := fun q => by
    have e := hi.sub0 _ _ b3
    rw [q, hT] at e; cases e; cases b4
  have hbG : bm ≠ mainGlobals := fun q => by
    obtain ⟨o, es, ep, e, hd, _⟩ := gn.g
    rw [q, e] at b3; cases b3; rw [hd] at b6; cases b6
  have hB : s.heap.BuiltinsAt mg TB := ⟨bm, ob, b1, b2, hbG, hbP, hi.sub0 _ _ b3, b4, b5, b6⟩
  rcases hcase with ⟨hn, hg⟩ | ⟨c', hf, hcc⟩
  · refine kla_makeFunction (mg := mg) (P := TB) (c := 132) hcl hglob hgs hcode (gn.ch.keeps hi.sub0) hT htri hn hgP hB fun c' ctv h' tk hx hge hlt hrec htb => ?_
    obtain ⟨c₂, oc, vs, t, e2, hoc, hd, hv⟩ := hrec
    cases e2
    rw [mg_name gn]
    have hc0 : s.heap.get? c' = none := Heap.get?_none_of_le hge
    have hF0 : s.heap.get? h'.objs.size = none := Heap.get?_none_of_le (Nat.le_trans hge (Nat.le_of_lt hlt))
    have hcT : c' ≠ TB := ne_TB_of_new hi hc0
    have hWc : W.P c' = none := hi.none_of hc0
    have hkeep : ∀ b o, b ≠ TB → s.heap.get? b = some o → (h'.push (kla_obj "<lambda>" lamQ (lam i).1 (lam i).2.1 (lam i).2.2.1 [(Str.ofString "front", c)] (.str (Str.ofString "law_oy0142_01") 360) c' ctv)).get? b = some o := fun b o hb e => Heap.get?_push_of_some _ (hx b o hb e)
    have hoc' := Heap.get?_push_of_some (kla_obj "<lambda>" lamQ (lam i).1 (lam i).2.1 (lam i).2.2.1 [(Str.ofString "front", c)] (.str (Str.ofString "law_oy0142_01") 360) c' ctv) hoc
    have htb' := Heap.get?_push_of_some (kla_obj "<lambda>" lamQ (lam i).1 (lam i).2.1 (lam i).2.2.1 [(Str.ofString "front", c)] (.str (Str.ofString "law_oy0142_01") 360) c' ctv) htb
    have le := Wle.put (o := oc) hWc hc0
    have hcin : CodeIn (W.put c' oc).P (.ref c') lamQ := ⟨c', oc, vs, t, rfl, Wd.put_self .., hd, hv⟩
    have hgood := hg (W.put c' oc).P c' le.sub hcin
    have hiW : Inv G (W.put c' oc) { s with heap := h'.push (kla_obj "<lambda>" lamQ (lam i).1 (lam i).2.1 (lam i).2.2.1 [(Str.ofString "front", c)] (.str (Str.ofString "law_oy0142_01") 360) c' ctv), toks := tk } := by
      refine ⟨fun b o e => ?_, fun b o e => le.sub _ _ (hi.ground b o e), ⟨_, htb', hgood⟩, ?_, hi.inj, fun j hj => ?_⟩
      · have e' : (if b = c' then some oc else W.P b) = some o := e
        by_cases q : b = c'
        · rw [if_pos q] at e'; cases e'; rw [q]; exact hoc'
        · rw [if_neg q] at e'
          exact hkeep b o (fun z => by rw [z, hi.tabP] at e'; cases e') (hi.sub _ _ e')
      · show (if TB = c' then some oc else W.P TB) = none
        rw [if_neg hcT.symm]; exact hi.tabP
      · obtain ⟨o, ho⟩ := hi.ent j hj
        exact ⟨o, le.sub _ _ ho⟩
    have x : Ext G W s (W.put c' oc) { s with heap := h'.push (kla_obj "<lambda>" lamQ (lam i).1 (lam i).2.1 (lam i).2.2.1 [(Str.ofString "front", c)] (.str (Str.ofString "law_oy0142_01") 360) c' ctv), toks := tk } := ⟨⟨_, _, rfl⟩, hkeep, le, hiW⟩
    refine h h'.objs.size (.ref c') ctv (W.put c' oc) _ _ x rfl htb' hgood ⟨.ref c', by rw [Array.toList_append]; exact codeAmong_snoc _ htri hn⟩ hcin hF0 (Heap.get?_push_size _ rfl) ?_
    show (if h'.objs.size = c' then some oc else W.P h'.objs.size) = none
    rw [if_neg (Nat.ne_of_gt hlt)]; exact hi.none_of hF0
  · refine kla_makeFunctionHit (mg := mg) (P := TB) (c := 132) hcl hglob hgs hcode (gn.ch.keeps hi.sub0) hT htri hf hB fun ctv h' tk hk hsz => ?_
    rw [mg_name gn]
    have hF0 : s.heap.get? h'.objs.size = none := Heap.get?_none_of_le hsz
    have x : Ext G W s W { s with heap := h'.push (kla_obj "<lambda>" lamQ (lam i).1 (lam i).2.1 (lam i).2.2.1 [(Str.ofString "front", c)] (.str (Str.ofString "law_oy0142_01") 360) c' ctv), toks := tk } := Ext.keeps hi fun b o e => Heap.get?_push_of_some _ (hk b o e)
    exact h h'.objs.size (.ref c') ctv W _ ps x rfl (Heap.get?_push_of_some _ (hk _ _ hT)) hG ⟨_, hf⟩ hcc hF0 (Heap.get?_push_size _ rfl) (hi.none_of hF0)
end
end Mine
end

section
open PySem PySem.W PySem.Calls PyProof.Rows PySem.SeqAt
open Builtin Builtin.ObjectAttr
set_option Elab.async false
set_option maxRecDepth 100000
set_option linter.unusedVariables false
namespace Mine
section
variable {prog : Program} {w : World} {G : Heap} {mg mb : Str → Option Value} {n : Nat} {sc : Scope}
noncomputable def ruleF : Fx := fun ds k => match ds with
  | [.str f, .bool b] => some (.rule f b, k)
  | _ => none
theorem tab1_hit (i : Nat) (c : Addr) (r : List Value) : codeAmong (lamPos i) ((tab1 i c).toList ++ r) = some (.ref c) := by
  show (if ((lamPos i).line : Int) == (lamPos i).line && ((lamPos i).col : Int) == (lamPos i).col then some (Value.ref c) else _) = _
  simp
theorem pos_ne : ((((lamPos 0).line : Int) == (lamPos 1).line) && (((lamPos 0).col : Int) == (lamPos 1).col)) = false := by decide +kernel
theorem tab0_miss1 (c : Addr) (r : List Value) : codeAmong (lamPos 1) ((tab1 0 c).toList ++ r) = codeAmong (lamPos 1) r := by
  show (if ((lamPos 0).line : Int) == (lamPos 1).line && ((lamPos 0).col : Int) == (lamPos 1).col then some (Value.ref c) else codeAmong (lamPos 1) r) = _
  rw [pos_ne]; rfl
theorem clos_lam {i : Nat} {env : Env} {c : Addr} {loc : List (Str × NameKind)} (hc : env.cells.lookup (Str.ofString "front") = some c) (hn : (lam i).2.2.1.names = loc) (hl : closL env.cells loc [] = [(Str.ofString "front", (env.cells.lookup (Str.ofString "front")).getD 0)])
    (hf : ∀ x ∈ loc, x.2 = .free → x.1 = Str.ofString "front") : closureFor (lam i).2.2.1 env = pure [(Str.ofString "front", c)] := by
  rw [closureFor_is (fun x hx hk => by rw [hn] at hx; exact ⟨c, by rw [hf x hx hk]; exact hc⟩), hn, hl, hc]
  rfl
theorem rule_ok (gn : Gnd prog w G mg mb) : CallOk prog w G 2 133 ruleF := by
  intro A W s vs ds Q E d k' hR hi hr hf hQ
  unfold ruleF at hf
  split at hf
  · rename_i f b
    cases hf
    have hr0 := hr
    obtain ⟨vf, vs1, rfl, rf, hr1⟩ := repL_cons hr
    obtain ⟨vb0, vs2, rfl, rb, hr2⟩ := repL_cons hr1
    obtain rfl := repL_nil hr2
    obtain ⟨t, rfl, hasc⟩ := rep_str rf
    obtain rfl := rep_bool rb
    refine wpAny_call (def_run (names := ["front", "allows"]) (n := 1) gn (def_at gn rfl rfl (by kernel_rfl) (fun vs h => by obtain ⟨a0, a1, rfl⟩ := len_2 h; rfl) (by decide +kernel)) rfl hR hi fun env s1 hsc hR1 x1 hen hns hLn hcn hcell hcode hqual E' => ?_)
    have he1 := hen (bindP ["front", "allows"] [.str f, .bool b]) fun y d hy => zip_rep hr0 hy
    generalize hρ0 : bindP ["front", "allows"] [.str f, .bool b] = ρ0 at *
    have b2 : ρ0 "allows" = some (.bool b) := by
      rw [← hρ0]
      have q : ((Str.ofString "allows") == (Str.ofString "front")) = false := by decide +kernel
      simp [bindP, List.lookup_cons, q]
    obtain ⟨c, hcl, hcc⟩ := hcell "front" (.str f t) (by simp) (by show env.scope.names.lookup _ = _; rw [hsc]; decide +kernel)
    have hcode' : env.code = .ref 132 := hcode
    have hglob : env.globals = mainGlobals := he1.glob
    have hq : env.qual ++ "<lambda>" = lamQ := by rw [hqual]; decide +kernel
    have hc0 : s.heap.get? c = none := hcn _ _ hcl
    have hcl0 : closureFor (lam 0).2.2.1 env = pure [(Str.ofString "front", c)] := clos_lam (loc := [(Str.ofString "front", .free)]) hcl (by kernel_rfl) rfl (fun x hx _ => by simp at hx; rw [hx])
    have hcl1 : closureFor (lam 1).2.2.1 env = pure [(Str.ofString "front", c)] := clos_lam (loc := [(Str.ofString "row", .local), (Str.ofString "front", .free), (Str.ofString "len", .globalImplicit)]) hcl (by kernel_rfl) rfl (fun x hx hk => by
      simp only [List.mem_cons, List.not_mem_nil, or_false] at hx
      rcases hx with rfl | rfl | rfl
      · cases hk
      · rfl
      · cases hk)
    obtain ⟨ps, hT1, hG1⟩ := x1.inv.tab
    have htri : TriplesOk ps.toList := by
      rcases hG1 with rfl | ⟨c1, rfl, _⟩ | ⟨c1, c2, rfl, _, _⟩ <;> exact trivial
    have hcase : (codeAmong (lamPos 0) ps.toList = none ∧ ∀ (P : Addr → Option Obj) (c' : Addr), (∀ a o, W.P a = some o → P a = some o) → CodeIn P (.ref c') lamQ → TabGood P (ps ++ tab1 0 c')) ∨ (∃ c', codeAmong (lamPos 0) ps.toList = some (.ref c') ∧ CodeIn W.P (.ref c') lamQ) := by
      rcases hG1 with rfl | ⟨c1, rfl, h1⟩ | ⟨c1, c2, rfl, h1, h2⟩
      · exact .inl ⟨rfl, fun P c' _ hc' => .inr (.inl ⟨c', rfl, hc'⟩)⟩
      · exact .inr ⟨c1, tab1_hit 0 c1 [], h1⟩
      · exact .inr ⟨c1, tab1_hit 0 c1 _, h1⟩
    rw [execs_cons]
    have hl0 : ∀ p : Pos, p = lamPos 0 → Expr.Lambda (lam 0).1 (lam 0).2.1 (lam 0).2.2.1 p = Expr.Lambda (lam 0).1 (lam 0).2.1 (lam 0).2.2.1 (lamPos 0) := fun p h => by rw [h]
    refine wpAny_bind (wpAny_Assign_Name (x := "rule") (lam_make (i := 0) gn x1.inv hcode' hglob hq hcl0 (by kernel_rfl) hT1 hG1 htri hcase fun F cd1 ct1 W2 s2 ps2 x2 e2 hT2 hG2 hps2 hcd1 hF1 hFo hFP => ?_) rfl)
    have he2 := he1.ext x1.inv x2
    have hFs : s.heap.get? F = none := x1.dead hF1
    have hnO : ∀ a, s1.heap.get? a = none → ¬ Own env [] a := fun a ha q => by
      obtain ⟨o, q1, _⟩ := he1.own_live q
      rw [ha] at q1; cases q1
    refine st_ok (G := G) he2 x2.inv (by rw [hsc]; decide +kernel) (v := .ref F) (d := .fn F) (Rep.fn F) fun h3 tk3 hk3 hl3 he3 hi3 => ?_
    have hFO : ¬ Own env [] F := hnO F hF1
    have hpO : ∀ a, ¬ Own env [] a → ¬ Pl env "rule" a := fun a ha q => ha (pl_own q)
    have hTO : ¬ Pl env "rule" TB := fun q => own_ne_TB he2 x2.inv (pl_own (ow := []) q) rfl
    have hPs : ∀ a, Pl env "rule" a → s.heap.get? a = none := fun a q => by
      rcases q with ⟨_, q⟩ | ⟨_, q⟩
      · rw [q]; exact hLn
      · exact hcn _ _ q
    have hT3 : h3.get? TB = some (tabObj ps2) := hk3 _ _ hTO hT2
    have hFo3 : h3.get? F = some (fnObj none (lamFd 0 c cd1 ct1)) := hk3 _ _ (hpO _ hFO) hFo
    have x12 := x1.trans x2
    have x3 : Ext G W s W2 { s2 with heap := h3, toks := tk3 } := by
      obtain ⟨h2', t2', hs2⟩ := x12.same
      exact ⟨⟨h3, tk3, by rw [hs2]⟩, fun b o hb e => hk3 b o (fun q => by rw [hPs b q] at e; cases e) (x12.keep b o hb e), x12.le, hi3⟩
    have htri2 : TriplesOk ps2.toList := by
      rcases hG2 with rfl | ⟨c1, rfl, _⟩ | ⟨c1, c2, rfl, _, _⟩ <;> exact trivial
    have hcase2 : (codeAmong (lamPos 1) ps2.toList = none ∧ ∀ (P : Addr → Option Obj) (c' : Addr), (∀ a o, W2.P a = some o → P a = some o) → CodeIn P (.ref c') lamQ → TabGood P (ps2 ++ tab1 1 c')) ∨ (∃ c', codeAmong (lamPos 1) ps2.toList = some (.ref c') ∧ CodeIn W2.P (.ref c') lamQ) := by
      rcases hG2 with rfl | ⟨c1, rfl, h1⟩ | ⟨c1, c2, rfl, h1, h2⟩
      · obtain ⟨c', q⟩ := hps2
        cases q
      · exact .inl ⟨tab0_miss1 c1 [], fun P c' hP hc' => .inr (.inr ⟨c1, c', rfl, h1.mono hP, hc'⟩)⟩
      · exact .inr ⟨c2, (tab0_miss1 c1 _).trans (tab1_hit 1 c2 []), h2⟩
    dsimp only
    rw [execs_cons]
    refine wpAny_bind (plainObj_wpAny_Assign_Attribute (lam_make (i := 1) gn hi3 hcode' hglob hq hcl1 (by kernel_rfl) hT3 hG2 htri2 hcase2 fun g cd2 ct2 W4 s4 ps4 x4 e4 hT4 hG4 hps4 hcd2 hg0 hgo hgP => ?_) rfl)
    have he4 := he3.ext hi3 x4
    refine se_name (n := 1) (sc := env.scope) (x := "rule") (by rw [hsc]; decide +kernel) (A.deeper env) env _ W4 [] s4 _ _ hR1 rfl he4 x4.inv (.fn F) W4.k (by unfold varE; rw [upd_eq]) fun vF W5 s5 x5 e5 r5 => ?_
    have hvF : vF = .ref F := rep_fn r5
    subst hvF
    have x45 := x4.trans x5
    have x35 := x3.trans x45
    have he5 := he4.ext x4.inv x5
    have hFT : F ≠ TB := ne_TB_of_new x1.inv hF1
    have hgT : g ≠ TB := ne_TB_of_new hi3 hg0
    have hFo5 : s5.heap.get? F = some (fnObj none (lamFd 0 c cd1 ct1)) := x45.keep _ _ hFT hFo3
    have hgo5 : s5.heap.get? g = some (fnObj none (lamFd 1 c cd2 ct2)) := x5.keep _ _ hgT hgo
    have hgF : g ≠ F := fun q => by
      have z : h3.get? g = none := hg0
      rw [q, hFo3] at z; cases z
    have notP : ∀ {Wa Wb : Wd} {sa sb : Shared} {a : Addr} {o : Obj}, Ext G Wa sa Wb sb → Wa.P a = none → sa.heap.get? a = some o → Wb.P a = none := fun {Wa Wb sa sb a o} e h1 h2 => by
      cases q : Wb.P a with
      | none => rfl
      | some o' => rcases e.le.new _ _ q with z | z
                   · rw [h1] at z; cases z
                   · rw [h2] at z; cases z
    have hFP5 : W5.P F = none := notP x45 hFP hFo3
    have hgP5 : W5.P g = none := notP x5 hgP hgo
    have hgs : s.heap.get? g = none := x3.dead hg0
    refine fn_set (m := fun _ => none) (k := 0) hFo5 (by rw [typeLookup_type, builtinLookup_eq_fast]; kernel_rfl) (by decide) (.inr ⟨rfl, fun _ => rfl⟩) fun d h6 hF6 hd6 hdF hdn hk6 => ?_
    have hd0 : s5.heap.get? d = none := hdn.elim (fun q => by cases q) fun q => q.2
    have hk6' : ∀ b o, b ∉ [F] → s5.heap.get? b = some o → h6.get? b = some o := fun b o hb e => hk6 b o (by simpa using hb) (fun q => by cases q) e
    have hi6 : Inv G W5 { s5 with heap := h6, toks := s5.toks + 1 + 1 } := Inv.change (s := s5) (tk := s5.toks + 1 + 1) [F] x5.inv hk6' (by simpa using hFP5) (by simpa using hFT.symm)
    have he6 : EnvOk env (upd ρ0 (Str.ofString "rule") (.fn F)) W5 [] { s5 with heap := h6, toks := s5.toks + 1 + 1 } := he5.stand (.refl ..) fun b o hb e => hk6' b o (by simp only [List.mem_cons, List.not_mem_nil, or_false]; exact fun q => hFO (q ▸ hb)) e
    have hgo6 : h6.get? g = some (fnObj none (lamFd 1 c cd2 ct2)) := hk6' _ _ (by simpa using hgF) hgo5
    have hgd : g ≠ d := fun q => by rw [q, hd0] at hgo5; cases hgo5
    have hdP5 : W5.P d = none := x5.inv.none_of hd0
    have hdT : d ≠ TB := ne_TB_of_new x5.inv hd0
    have hds : s.heap.get? d = none := x35.dead hd0
    have hdO : ¬ Own env [] d := fun q => by
      obtain ⟨o, q1, _⟩ := he5.own_live q
      rw [hd0] at q1; cases q1
    have x6 : Ext G W s W5 { s5 with heap := h6, toks := s5.toks + 1 + 1 } := by
      obtain ⟨h5', t5', hs5⟩ := x35.same
      exact ⟨⟨h6, _, by rw [hs5]⟩, fun b o hb e => hk6' b o (by simp only [List.mem_cons, List.not_mem_nil, or_false]; exact fun q => by rw [q, hFs] at e; cases e) (x35.keep b o hb e), x35.le, hi6⟩
    dsimp only
    rw [execs_cons]
    refine wpAny_bind (plainObj_wpAny_Assign_Attribute (se_name (n := 1) (sc := env.scope) (x := "allows") (by rw [hsc]; decide +kernel) (A.deeper env) env _ W5 [] _ _ _ hR1 rfl he6 hi6 (.bool b) W5.k (by unfold varE; rw [upd_ne (by decide +kernel), b2]) fun vb W7 s7 x7 e7 r7 => ?_) rfl)
    have hvb : vb = .bool b := rep_bool r7
    subst hvb
    have he7 := he6.ext hi6 x7
    refine se_name (n := 1) (sc := env.scope) (x := "rule") (by rw [hsc]; decide +kernel) (A.deeper env) env _ W7 [] s7 _ _ hR1 rfl he7 x7.inv (.fn F) W7.k (by unfold varE; rw [upd_eq]) fun vF W8 s8 x8 e8 r8 => ?_
    have hvF : vF = .ref F := rep_fn r8
    subst hvF
    have x78 := x7.trans x8
    have he8 := he7.ext x7.inv x8
    have x68 := x6.trans x78
    have hF8 : s8.heap.get? F = some (fnObj (some d) (lamFd 0 c cd1 ct1)) := x78.keep _ _ hFT hF6
    have hg8 : s8.heap.get? g = some (fnObj none (lamFd 1 c cd2 ct2)) := x78.keep _ _ hgT hgo6
    have hd8 : DictAt s8.heap d (fun z => if z = Str.ofString "applies_to" then some (.ref g) else none) 1 := hd6.keeps fun o q => x78.keep _ _ hdT q
    have hFP8 : W8.P F = none := notP x78 hFP5 hF6
    have hgP8 : W8.P g = none := notP x78 hgP5 hgo6
    have hdP8 : W8.P d = none := by
      obtain ⟨es, ep, q, _⟩ := hd6
      exact notP x78 hdP5 q
    refine fn_set (k := 1) hF8 (by rw [typeLookup_type, builtinLookup_eq_fast]; kernel_rfl) (by decide) (.inl ⟨d, rfl, hd8, hdF⟩) fun d' h9 hF9 hd9 hdF9 hdn9 hk9 => ?_
    have hdd : d' = d := by
      rcases hdn9 with z | ⟨z, _⟩
      · cases z; rfl
      · cases z
    subst hdd
    have hk9' : ∀ b o, b ∉ [F, d'] → s8.heap.get? b = some o → h9.get? b = some o := fun b o hb e => by
      simp only [List.mem_cons, List.not_mem_nil, or_false, not_or] at hb
      exact hk9 b o hb.1 (fun q => hb.2 (Option.some.inj q).symm) e
    have hi9 : Inv G W8 { s8 with heap := h9, toks := s8.toks + 1 + 1 } := Inv.change (s := s8) (tk := s8.toks + 1 + 1) [F, d'] x8.inv hk9' (by
      intro b hb
      simp only [List.mem_cons, List.not_mem_nil, or_false] at hb
      rcases hb with rfl | rfl
      · exact hFP8
      · exact hdP8) (by simp only [List.mem_cons, List.not_mem_nil, or_false, not_or]; exact ⟨hFT.symm, hdT.symm⟩)
    have he9 : EnvOk env (upd ρ0 (Str.ofString "rule") (.fn F)) W8 [] { s8 with heap := h9, toks := s8.toks + 1 + 1 } := he8.stand (.refl ..) fun b o hb e => hk9' b o (by
      simp only [List.mem_cons, List.not_mem_nil, or_false, not_or]
      exact ⟨fun q => hFO (q ▸ hb), fun q => hdO (q ▸ hb)⟩) e
    have x9 : Ext G W s W8 { s8 with heap := h9, toks := s8.toks + 1 + 1 } := by
      obtain ⟨h8', t8', hs8⟩ := x68.same
      exact ⟨⟨h9, _, by rw [hs8]⟩, fun b o hb e => hk9' b o (by
        simp only [List.mem_cons, List.not_mem_nil, or_false, not_or]
        exact ⟨(fun q => by rw [q, hFs] at e; cases e), (fun q => by rw [q, hds] at e; cases e)⟩) (x68.keep b o hb e), x68.le, hi9⟩
    dsimp only
    rw [execs_cons]
    refine wpAny_bind (wpAny_Return_some (se_name (n := 1) (sc := env.scope) (x := "rule") (by rw [hsc]; decide +kernel) (A.deeper env) env _ W8 [] _ _ _ hR1 rfl he9 hi9 (.fn F) W8.k (by unfold varE; rw [upd_eq]) fun vF W10 s10 x10 e10 r10 => wpAny_pure ?_))
    have hvF : vF = .ref F := rep_fn r10
    subst hvF
    dsimp only
    have x910 := x9.trans x10
    -- the four objects, at the end
    have hcT : c ≠ TB := ne_TB_of_new hi hc0
    obtain ⟨oc, hoc1, hocd⟩ := hcc
    have hcR : ¬ Pl env "rule" c := fun q => by
      rcases q with ⟨_, q⟩ | ⟨q, _⟩
      · obtain ⟨m, ⟨o, es, ep, z1, z2, _⟩, _⟩ := he1.ns
        rw [← q, hoc1] at z1; cases z1; rw [hocd] at z2; cases z2
      · have : env.kindOf "rule" = some .local := by show env.scope.names.lookup _ = _; rw [hsc]; decide +kernel
        rw [this] at q; cases q
    have hcF : c ≠ F := fun q => by rw [q, hF1] at hoc1; cases hoc1
    have hoc3 : h3.get? c = some oc := hk3 _ _ hcR (x2.keep _ _ hcT hoc1)
    have hoc5 : s5.heap.get? c = some oc := x45.keep _ _ hcT hoc3
    have hcd : c ≠ d' := fun q => by rw [q, hd0] at hoc5; cases hoc5
    have hoc6 : h6.get? c = some oc := hk6' _ _ (by simpa using hcF) hoc5
    have hoc8 : s8.heap.get? c = some oc := x78.keep _ _ hcT hoc6
    have hoc9 : h9.get? c = some oc := hk9' _ _ (by simp only [List.mem_cons, List.not_mem_nil, or_false, not_or]; exact ⟨hcF, hcd⟩) hoc8
    have hoc10 : s10.heap.get? c = some oc := x10.keep _ _ hcT hoc9
    have hg9 : h9.get? g = some (fnObj none (lamFd 1 c cd2 ct2)) := hk9' _ _ (by simp only [List.mem_cons, List.not_mem_nil, or_false, not_or]; exact ⟨hgF, hgd⟩) hg8
    have hg10 : s10.heap.get? g = some (fnObj none (lamFd 1 c cd2 ct2)) := x10.keep _ _ hgT hg9
    have hF10 : s10.heap.get? F = some (fnObj (some d') (lamFd 0 c cd1 ct1)) := x10.keep _ _ hFT hF9
    obtain ⟨es, ep, hD9, hD2, hD3, _⟩ := hd9
    have hD10 := x10.keep _ _ hdT hD9
    have hFP10 : W10.P F = none := notP x10 hFP8 hF9
    have hgP10 : W10.P g = none := notP x10 hgP8 hg9
    have hdP10 : W10.P d' = none := notP x10 hdP8 hD9
    have he10 := he9.ext hi9 x10
    have hcP10 : W10.P c = none := (he10.cellP _ _ hcl).1
    have hcg : c ≠ g := fun q => by
      have z : h3.get? g = none := hg0
      rw [← q, hoc3] at z; cases z
    let oD : Obj := { cls := .type "dict", data := .dict es ep }
    let og : Obj := fnObj none (lamFd 1 c cd2 ct2)
    let oF : Obj := fnObj (some d') (lamFd 0 c cd1 ct1)
    have p1 : W10.P d' = none := hdP10
    have i1 : Inv G (W10.put d' oD) s10 := x10.inv.put hD10 p1 hdT
    have p2 : (W10.put d' oD).P g = none := by
      show (if g = d' then some oD else W10.P g) = none
      rw [if_neg hgd]; exact hgP10
    have i2 := i1.put hg10 p2 hgT
    have p3 : ((W10.put d' oD).put g og).P F = none := by
      show (if F = g then some og else (if F = d' then some oD else W10.P F)) = none
      rw [if_neg hgF.symm, if_neg hdF.symm]; exact hFP10
    have i3 := i2.put hF10 p3 hFT
    have p4 : (((W10.put d' oD).put g og).put F oF).P c = none := by
      show (if c = F then some oF else (if c = g then some og else (if c = d' then some oD else W10.P c))) = none
      rw [if_neg hcF, if_neg hcg, if_neg hcd]; exact hcP10
    have i4 := i3.put hoc10 p4 hcT
    have le4 : Wle W10 ((((W10.put d' oD).put g og).put F oF).put c oc) s.heap := (((Wle.put p1 hds).trans (Wle.put p2 hgs) fun _ q => q).trans (Wle.put p3 hFs) fun _ q => q).trans (Wle.put p4 hc0) fun _ q => q
    have xF : Ext G W s ((((W10.put d' oD).put g og).put F oF).put c oc) s10 := ⟨x910.same, x910.keep, x910.le.trans le4 fun _ q => q, i4⟩
    have hkF : W10.k = W.k := by rw [e10, e8, e7, e5, e4, e2]
    refine hQ _ _ s10 xF hkF (.rule ⟨d', g, c, t, cd1, cd2, ct1, ct2, ?_, ?_, ⟨es, ep, ?_, hD2, fun y => ?_⟩, ⟨oc, Wd.put_self .., hocd⟩, ?_, ?_⟩ hasc)
    · show (if F = c then some oc else (if F = F then some oF else _)) = _
      rw [if_neg hcF.symm, if_pos rfl]
    · show (if g = c then some oc else (if g = F then some oF else (if g = g then some og else _))) = _
      rw [if_neg hcg.symm, if_neg hgF, if_pos rfl]
    · show (if d' = c then some oc else (if d' = F then some oF else (if d' = g then some og else (if d' = d' then some oD else _)))) = _
      rw [if_neg hcd.symm, if_neg hdF, if_neg hgd.symm, if_pos rfl]
    · rw [hD3]
      unfold ruleMap
      dsimp only
      by_cases y1 : y = Str.ofString "allowance"
      · subst y1; rw [if_pos rfl, if_neg (by decide +kernel), if_pos rfl]
      · by_cases y2 : y = Str.ofString "applies_to"
        · subst y2; rw [if_neg (by decide +kernel), if_pos rfl, if_pos rfl]
        · simp only [y1, y2, if_false]
    · exact hcd1.mono fun a o q => le4.sub _ _ (x10.le.sub _ _ (x78.le.sub _ _ (x45.le.sub _ _ q)))
    · exact hcd2.mono fun a o q => le4.sub _ _ (x10.le.sub _ _ (x78.le.sub _ _ (x5.le.sub _ _ q)))
  · cases hf
end
end Mine
end

section
open PySem PySem.W PySem.Calls PyProof.Rows
set_option Elab.async false
set_option maxRecDepth 100000
set_option linter.unusedVariables false
namespace Mine
/-- room of a caller that is no function -/
noncomputable def RoomT (A : Around) (n : Nat) : Prop := A.handled = none ∧ A.depth + n < 900 ∧ A.units + 8 * n + 400 < 9000 ∧ ∃ l, A.frames = some l
theorem RoomT.depth {A : Around} {n : Nat} (h : RoomT A n) : A.depth < recursionLimit := by have := h.2.1; show A.depth < 1000; omega
theorem RoomT.deeper {A : Around} {n : Nat} (h : RoomT A (n + 1)) (env : Env) (h1 : env.scope.isGenerator = false) (h2 : env.scope.isCoroutine = false) (h3 : env.builtins = builtinsNs) (h4 : env.globals = mainGlobals) : Room (A.deeper env) n :=
  ⟨h.1, by have := h.2.1; show A.depth + 1 + n < 900; omega, by have := h.2.2.1; show A.units + 3 + 8 * n + 400 < 9000; omega, by
    obtain ⟨l, hf⟩ := h.2.2.2
    exact ⟨env, l, by show A.frames.map (env :: ·) = _; rw [hf]; rfl, h1, h2, h3, h4⟩⟩
noncomputable def TopOk (prog : Program) (w : World) (G : Heap) (n : Nat) (a : Addr) (F : Fx) : Prop :=
  ∀ (A : Around) (W : Wd) (s : Shared) (vs : List Value) (ds : List D) (R : Result → Shared → Prop) (d : D) (k' : Nat), RoomT A n → Inv G W s → RepL W vs ds → F ds W.k = some (d, k') →
    (∀ v W' s', Ext G W s W' s' → W'.k = k' → Rep W' v d → R (.ok (.ret v)) s') → codeAny (model prog w) A (.call (.ref a) ⟨vs, []⟩) R s
section
variable {prog : Program} {w : World} {G : Heap} {mg mb : Str → Option Value} {n : Nat} {sc : Scope}
theorem callTop_body {a : Addr} {fd : FuncData} {body : List Stmt} {names : List Str} {f : Sx} (gn : Gnd prog w G mg mb) (D0 : DefOk prog w G a fd body names) (h : SB prog w G n fd.scope body f) : TopOk prog w G (n + 1) a (defF names f) := by
  intro A W s vs ds Q d k' hR hi hr hf hQ
  unfold defF at hf
  split at hf
  · rename_i hlen
    have hvl : vs.length = names.length := by rw [hr.length, hlen]
    obtain ⟨o, ho, hdt⟩ := D0.obj
    have hnd : ((names.zip vs).map (·.1)).Nodup := by rw [zip_names hvl.symm]; simpa using D0.nd
    refine call_cells (binds := names.zip vs) hR.depth (hi.sub0 _ _ ho) hdt (gn.nolimit.keeps hi.sub0) (D0.code.keeps hi.sub0) D0.body (fun Q' E' hq => D0.bind vs hvl _ _ _ _ hi.sub0 hq) D0.clos (fun x hx => ?_) (fun s₁ x => ?_) D0.co D0.gen D0.kind
    · have hx' : x.1 ∈ names := by rw [← zip_names (vs := vs) hvl.symm]; exact List.mem_map_of_mem hx
      rcases D0.kinds _ hx' with q | q
      · exact .inl q
      · exact .inr ⟨q, by obtain ⟨c, hc⟩ := cellsFrom_has fd.scope.names (s.heap.objs.size + 1) x.1 (mem_of_lookup q); rw [hc]; rfl⟩
    · generalize henv : callEnvC fd s.heap.objs.size a = env at *
      have e1 : env.scope = fd.scope := by rw [← henv]; rfl
      have e2 : env.locals = s.heap.objs.size := by rw [← henv]; rfl
      have e3 : env.cells = cellsFrom (s.heap.objs.size + 1) fd.scope.names [] := by rw [← henv]; rfl
      have e4 : env.globals = mainGlobals := by rw [← henv]; exact D0.glob
      have e5 : env.builtins = builtinsNs := by rw [← henv]; exact D0.blt
      have hkeep := x.toInCall.keep
      have hdeadL : s.heap.get? s.heap.objs.size = none := Heap.new_none _
      have hdeadC : ∀ y c, env.cells.lookup y = some c → s.heap.get? c = none := fun y c hc => by
        cases e : s.heap.get? c with
        | none => rfl
        | some o' =>
          have h1 := x.above y c (mem_of_lookup hc)
          rw [e2] at h1
          exact absurd (Heap.lt_size e) (Nat.not_lt.mpr (Nat.le_of_lt h1))
      obtain ⟨h1, tk1, hs1⟩ := x.toInCall.same
      have x1 : Ext G W s W s₁ := by rw [hs1]; exact Ext.keeps hi (by rw [hs1] at hkeep; exact hkeep)
      have he : EnvOk env (bindP names ds) W [] s₁ := by
        refine ⟨by rw [e1]; exact D0.kind, e4, e5, ⟨_, x.toInCall.ns, fun y d' h1 h2 => ?_⟩, fun y hy => ?_, fun y z c h1 h2 => name_of_addr x.apart (mem_of_lookup h1) (mem_of_lookup h2), fun y c hc => ⟨hi.none_of (hdeadC y c hc), _, x.cell y c hc⟩, by rw [e2]; exact hi.none_of hdeadL, fun a ha => nomatch ha⟩
        · obtain ⟨v, h3, h4⟩ := zip_rep hr h1
          exact ⟨v, bindL_in h2 hnd h3, rep_repV h4⟩
        · rcases hy with hy | hy
          · have hy' : fd.scope.names.lookup y = some .cell := by rw [← e1]; exact hy
            obtain ⟨c, hc⟩ := cellsFrom_has fd.scope.names (s.heap.objs.size + 1) y (mem_of_lookup hy')
            rw [← e3] at hc
            refine ⟨c, _, hc, x.cell y c hc, fun d' hd' => ?_⟩
            obtain ⟨v, h3, h4⟩ := zip_rep hr hd'
            exact ⟨v, bindC_in (by rw [hy]; simp) hnd h3, rep_repV h4⟩
          · have hy' : fd.scope.names.lookup y = some .free := by rw [← e1]; exact hy
            exact absurd rfl (D0.nofree _ (mem_of_lookup hy'))
      have fin : ∀ {ρ' : Rho} {k2 : Nat} {W' : Wd} {ow' : List Addr} {s' : Shared}, SP G env W [] s₁ ρ' k2 W' ow' s' → Ext G W s W' s' := fun {ρ' k2 W' ow' s'} sp => by
        obtain ⟨h2, tk2, hs2⟩ := sp.same
        refine ⟨⟨h2, tk2, by rw [hs2, hs1]⟩, fun b o' hb e => sp.keep b o' (fun q => ?_) hb (x1.keep b o' hb e), ⟨sp.le.sub, fun b o' q => (sp.le.new b o' q).imp id fun z => x1.dead z, sp.le.eta, sp.le.k⟩, sp.inv⟩
        rcases q with q | ⟨y, q⟩ | q
        · rw [q, e2, hdeadL] at e; cases e
        · rw [hdeadC y b q] at e; cases e
        · cases q
      have hR' : Room (A.deeper env) n := hR.deeper env (by rw [e1]; exact D0.gen) (by rw [e1]; exact D0.co) e5 e4
      cases hfb : f (bindP names ds) W.k with
      | none => rw [hfb] at hf; cases hf
      | some q =>
      obtain ⟨fl, ρ', k2⟩ := q
      rw [hfb] at hf
      refine h (A.deeper env) env (bindP names ds) W [] s₁ _ _ hR' e1 he x1.inv fl ρ' k2 hfb fun v W' ow' s' sp r => ?_
      have e6 := sp.k
      cases fl with
      | next =>
        cases hf
        cases v with
        | next => exact hQ .none W' s' (fin sp) e6 .none
        | _ => cases r
      | brk => cases hf
      | ret d' =>
        cases hf
        cases v with
        | ret v => exact hQ v W' s' (fin sp) e6 r
        | _ => cases r
  · cases hf
end
end Mine
end

section
open PySem PySem.W
set_option Elab.async false
set_option maxRecDepth 100000
set_option linter.unusedVariables false
namespace Mine
noncomputable def ifmtS : Sx := (seqS (retS (binE .BitAnd (varE "mode") (litE (.int 61440))))
  nilS)
noncomputable def ifmtF : Fx := defF ["mode"] ifmtS

noncomputable def signsS : Sx := (seqS (asgS "text" (idxE (litE (.str (Str.ofString "?pc?d?b?-?l?s???"))) (binE .FloorDiv (varE "mode") (litE (.int 4096)))))
  (seqS (forS (bfS "k") (rangeL (litE (.int 9))) (seqS (asgTR ["bit", "beside"] (consL (binE .Mod (binE .FloorDiv (varE "mode") (binE .Pow (litE (.int 2)) (binE .Sub (litE (.int 8)) (varE "k")))) (litE (.int 2))) (consL (binE .Mod (binE .FloorDiv (varE "mode") (binE .Pow (litE (.int 2)) (binE .Sub (litE (.int 11)) (binE .FloorDiv (varE "k") (litE (.int 3)))))) (litE (.int 2))) nilL)))
  (seqS (asgS "text" (binE .Add (varE "text") (iteE (andT (cmpE .Eq (binE .Mod (varE "k") (litE (.int 3))) (litE (.int 2))) (cmpE .Eq (varE "beside") (litE (.int 1)))) (idxE (idxE (listE (consL (litE (.str (Str.ofString "Ss"))) (consL (litE (.str (Str.ofString "Ss"))) (consL (litE (.str (Str.ofString "Tt"))) nilL)))) (binE .FloorDiv (varE "k") (litE (.int 3)))) (varE "bit")) (idxE (litE (.str (Str.ofString "-rwx"))) (binE .Mult (binE .Add (binE .Mod (varE "k") (litE (.int 3))) (litE (.int 1))) (varE "bit"))))))
  nilS)) nilS)
  (seqS (retS (varE "text"))
  nilS)))
noncomputable def signsF : Fx := defF ["mode"] signsS

noncomputable def filemodeS : Sx := (seqS (ownS "perm")
  (seqS (forS (bfS2 "index" "table") (enumTL (litE tabD)) (seqS (forS (bfS2 "bit" "char") (itemsTL (varE "table")) (seqS (ifS (cmpE .Eq (varE "index") (litE (.int 0))) (seqS (ifS (cmpE .Eq (callE ifmtF (consL (varE "mode") nilL)) (varE "bit")) (seqS (appS "perm" (varE "char"))
  (seqS brkS
  nilS)) nilS)
  nilS) (seqS (ifS (cmpE .Eq (binE .BitAnd (varE "mode") (varE "bit")) (varE "bit")) (seqS (appS "perm" (varE "char"))
  (seqS brkS
  nilS)) nilS)
  nilS))
  nilS) (seqS (ifS (cmpE .Eq (varE "index") (litE (.int 0))) (seqS (appS "perm" (litE (.str (Str.ofString "?"))))
  nilS) (seqS (appS "perm" (litE (.str (Str.ofString "-"))))
  nilS))
  nilS))
  nilS) nilS)
  (seqS (joinS "perm")
  nilS)))
noncomputable def filemodeF : Fx := defF ["mode"] filemodeS

noncomputable def allowanceS : Sx := (seqS (asgS "best_match" (negE (litE (.int 1))))
  (seqS (asgS "allowance" (litE (.bool true)))
  (seqS (forS (bfS "line") (itemsL (oneE (attrD "rulelines") (varE "self"))) (seqS (asgS "m" (twoE appD (varE "line") (varE "filename")))
  (seqS (ifS (truthE (varE "m")) (seqS (ifS (cmpE .Gt (varE "m") (varE "best_match")) (seqS (asgS "best_match" (varE "m"))
  (seqS (asgS "allowance" (oneE (attrD "allowance") (varE "line")))
  nilS)) (seqS (ifS (andT (cmpE .Eq (varE "m") (varE "best_match")) (notT (truthE (varE "allowance")))) (seqS (asgS "allowance" (oneE (attrD "allowance") (varE "line")))
  nilS) nilS)
  nilS))
  nilS) nilS)
  nilS)) nilS)
  (seqS (retS (varE "allowance"))
  nilS))))
noncomputable def allowanceF : Fx := defF ["self", "filename"] allowanceS

noncomputable def mergedS : Sx := (seqS (retS (callE reduceF (consL (litE (.fn 63)) (consL (varE "entries") (consL (callE entryF (consL (listE (consL (litE (.str (Str.ofString "a"))) (consL (litE (.str (Str.ofString "b"))) (consL (litE (.str (Str.ofString "c"))) nilL)))) (consL (listE nilL) (consL (litE .none) nilL)))) nilL)))))
  nilS)
noncomputable def mergedF : Fx := defF ["entries"] mergedS

noncomputable def saidS : Sx := (seqS (asgS "whole" (callE mergedF (consL (varE "entries") nilL)))
  (seqS (retS (compE ["whole"] (itemsL (varE "rows")) (loopC (bf1 "row") trueT (oneL (methE allowanceF (varE "whole") (varE "row"))))))
  nilS))
noncomputable def saidF : Fx := defF ["entries", "rows"] saidS

noncomputable def thinnedS : Sx := (seqS (asgTR ["said", "kept"] (consL (callE saidF (consL (varE "entries") (consL (varE "rows") nilL))) (consL (varE "entries") nilL)))
  (seqS (forS (bfS "entry") (itemsL (varE "entries")) (seqS (asgS "others" (compE ["entry"] (itemsL (varE "kept")) (loopC (bf1 "other") (cmpE .IsNot (varE "other") (varE "entry")) (oneL (varE "other")))))
  (seqS (ifS (cmpE .Eq (callE saidF (consL (varE "others") (consL (varE "rows") nilL))) (varE "said")) (seqS (asgS "kept" (varE "others"))
  nilS) nilS)
  nilS)) nilS)
  (seqS (retS (varE "kept"))
  nilS)))
noncomputable def thinnedF : Fx := defF ["entries", "rows"] thinnedS

noncomputable def partsS : Sx := (seqS (retS (listE (consL (oneE (attrD "useragents") (varE "entry")) (consL (compE [] (itemsL (oneE (attrD "rulelines") (varE "entry"))) (loopC (bf1 "rule") trueT (oneL (listE (consL (oneE frontD (varE "rule")) (consL (oneE (attrD "allowance") (varE "rule")) nilL)))))) (consL (oneE (attrD "delay") (varE "entry")) nilL)))))
  nilS)
noncomputable def partsF : Fx := defF ["entry"] partsS

noncomputable def dueS : Sx := (seqS (asgS "agents" (compE ["told"] (itemsL (litE (.str (Str.ofString "abc")))) (loopC (bf1 "agent") (cmpE .Eq (compE ["agent"] (itemsL (varE "told")) (loopC (bf1 "row") (cmpE .NotIn (varE "agent") (idxE (varE "row") (litE (.int 2)))) (oneL (varE "row")))) (listE nilL)) (oneL (varE "agent")))))
  (seqS (retS (listE (consL (varE "agents") (consL (compE ["lead"] (itemsL (varE "told")) (loopC (bf1 "row") trueT (oneL (listE (consL (binE .Add (varE "lead") (idxE (varE "row") (litE (.int 0)))) (consL (idxE (varE "row") (litE (.int 1))) nilL)))))) (consL (idxE (binE .Add (compE [] (itemsL (revE (varE "told"))) (loopC (bf1 "row") (cmpE .IsNot (idxE (varE "row") (litE (.int 3))) (litE .none)) (oneL (idxE (varE "row") (litE (.int 3)))))) (listE (consL (litE .none) nilL))) (litE (.int 0))) nilL)))))
  nilS))
noncomputable def dueF : Fx := defF ["told", "lead"] dueS

noncomputable def verdictS : Sx := (seqS (asgS "longest" (oneE maxD (binE .Add (listE (consL (negE (litE (.int 1))) nilL)) (compE ["signs"] (itemsL (varE "rules")) (loopC (bf1 "rule") (cmpE .Eq (twoE hiD (varE "signs") (oneE lenD (idxE (varE "rule") (litE (.int 0))))) (idxE (varE "rule") (litE (.int 0)))) (oneL (oneE lenD (idxE (varE "rule") (litE (.int 0))))))))))
  (seqS (retS (orE (boolE (cmpE .Lt (varE "longest") (litE (.int 0)))) (boolE (cmpE .In (litE (.bool true)) (compE ["longest", "signs"] (itemsL (varE "rules")) (loopC (bf1 "rule") (cmpE .Eq (idxE (varE "rule") (litE (.int 0))) (twoE hiD (varE "signs") (varE "longest"))) (oneL (idxE (varE "rule") (litE (.int 1))))))))))
  nilS))
noncomputable def verdictF : Fx := defF ["rules", "signs"] verdictS

noncomputable def idleS : Sx := (seqS (asgTS ["front", "share"] (consL (idxE (varE "rule") (litE (.int 0))) (consL (listE (consL (litE (.int 16)) (consL (litE (.int 8)) (consL (litE (.int 4)) (consL (litE (.int 1)) nilL))))) nilL)))
  (seqS (asgS "alike" (compE ["front"] (itemsL (varE "others")) (loopC (bf1 "other") (cmpE .Eq (idxE (varE "other") (litE (.int 0))) (varE "front")) (oneL (idxE (varE "other") (litE (.int 1)))))))
  (seqS (asgS "without" (iteE (cmpE .NotEq (varE "alike") (listE nilL)) (boolE (cmpE .In (litE (.bool true)) (varE "alike"))) (callE verdictF (consL (compE ["front"] (itemsL (varE "others")) (loopC (bf1 "other") (cmpE .Lt (oneE lenD (idxE (varE "other") (litE (.int 0)))) (oneE lenD (varE "front"))) (oneL (varE "other")))) (consL (varE "front") nilL)))))
  (seqS (asgS "longer" (compE ["front"] (itemsL (varE "others")) (loopC (bf1 "other") (andT (cmpE .Gt (oneE lenD (idxE (varE "other") (litE (.int 0)))) (oneE lenD (varE "front"))) (cmpE .Eq (twoE hiD (idxE (varE "other") (litE (.int 0))) (oneE lenD (varE "front"))) (varE "front"))) (oneL (idxE (varE "other") (litE (.int 0)))))))
  (seqS (asgS "shortest" (compE ["longer"] (enumL (varE "longer")) (loopC (bf2 "k" "one") (andT (cmpE .NotIn (varE "one") (twoE hiD (varE "longer") (varE "k"))) (cmpE .Eq (compE ["one"] (itemsL (varE "longer")) (loopC (bf1 "two") (andT (cmpE .Lt (oneE lenD (varE "two")) (oneE lenD (varE "one"))) (cmpE .Eq (twoE hiD (varE "one") (oneE lenD (varE "two"))) (varE "two"))) (oneL (varE "two")))) (listE nilL))) (oneL (varE "one")))))
  (seqS (retS (orE (boolE (cmpE .Eq (varE "without") (orE (idxE (varE "rule") (litE (.int 1))) (boolE (cmpE .In (litE (.bool true)) (varE "alike")))))) (boolE (cmpE .Eq (oneE sumD (compE ["share"] (itemsL (varE "shortest")) (loopC (bf1 "one") trueT (oneL (idxE (varE "share") (oneE lenD (varE "one"))))))) (idxE (varE "share") (oneE lenD (varE "front")))))))
  nilS))))))
noncomputable def idleF : Fx := defF ["others", "rule"] idleS

noncomputable def neededS : Sx := (seqS (asgS "kept" (listRangeE (oneE lenD (varE "told"))))
  (seqS (forS (bfS "k") (rangeL (oneE lenD (varE "told"))) (seqS (asgS "others" (compE ["k"] (itemsL (varE "kept")) (loopC (bf1 "j") (cmpE .NotEq (varE "j") (varE "k")) (oneL (varE "j")))))
  (seqS (asgS "kept" (iteE (truthE (callE idleF (consL (compE ["told"] (itemsL (varE "others")) (loopC (bf1 "j") trueT (oneL (idxE (varE "told") (varE "j"))))) (consL (idxE (varE "told") (varE "k")) nilL)))) (varE "others") (varE "kept")))
  nilS)) nilS)
  (seqS (retS (compE ["told"] (itemsL (varE "kept")) (loopC (bf1 "j") trueT (oneL (idxE (varE "told") (varE "j"))))))
  nilS)))
noncomputable def neededF : Fx := defF ["told"] neededS

noncomputable def lawS : Sx := (seqS (asgS "total" (binE .Add (oneE sumD (twoE hiD (varE "script") (litE (.int 5)))) (litE (.int 7438))))
  (seqS (asgTS ["place", "bits", "kind"] (consL (binE .Mod (varE "total") (litE (.int 3))) (consL (binE .Mod (binE .FloorDiv (varE "total") (litE (.int 3))) (litE (.int 4096))) (consL (idxE (listE (consL (litE (.int 8)) (consL (litE (.int 4)) nilL))) (binE .Mod (binE .FloorDiv (varE "total") (litE (.int 12288))) (litE (.int 2)))) nilL))))
  (seqS (asgS "bare" (binE .Sub (binE .Sub (binE .Add (binE .Mult (varE "kind") (litE (.int 4096))) (varE "bits")) (binE .Mult (binE .Mod (binE .FloorDiv (varE "bits") (binE .Pow (litE (.int 8)) (binE .Sub (litE (.int 2)) (varE "place")))) (litE (.int 8))) (binE .Pow (litE (.int 8)) (binE .Sub (litE (.int 2)) (varE "place"))))) (binE .Mult (binE .Mod (binE .FloorDiv (varE "bits") (binE .Pow (litE (.int 2)) (binE .Sub (litE (.int 11)) (varE "place")))) (litE (.int 2))) (binE .Pow (litE (.int 2)) (binE .Sub (litE (.int 11)) (varE "place"))))))
  (seqS (asgS "modes" (compE ["bare", "place"] (itemsL (listE (consL (litE (.int 0)) (consL (litE (.int 1)) nilL)))) (loopC (bf1 "r") trueT (nestL (itemsL (listE (consL (litE (.int 0)) (consL (litE (.int 1)) nilL)))) (loopC (bf1 "w") trueT (nestL (itemsL (listE (consL (litE (.int 0)) (consL (litE (.int 1)) nilL)))) (loopC (bf1 "s") trueT (nestL (itemsL (listE (consL (litE (.int 0)) (consL (litE (.int 1)) nilL)))) (loopC (bf1 "x") trueT (oneL (binE .Add (binE .Add (varE "bare") (binE .Mult (binE .Add (binE .Add (binE .Mult (varE "r") (litE (.int 4))) (binE .Mult (varE "w") (litE (.int 2)))) (varE "x")) (binE .Pow (litE (.int 8)) (binE .Sub (litE (.int 2)) (varE "place"))))) (binE .Mult (varE "s") (binE .Pow (litE (.int 2)) (binE .Sub (litE (.int 11)) (varE "place")))))))))))))))
  (seqS (asgS "classes" (compE ["place"] (itemsL (litE (.str (Str.ofString "-r")))) (loopC (bf1 "r") trueT (nestL (itemsL (litE (.str (Str.ofString "-w")))) (loopC (bf1 "w") trueT (nestL (itemsL (idxE (listE (consL (litE (.str (Str.ofString "-xSs"))) (consL (litE (.str (Str.ofString "-xSs"))) (consL (litE (.str (Str.ofString "-xTt"))) nilL)))) (varE "place"))) (loopC (bf1 "x") trueT (oneL (binE .Add (binE .Add (varE "r") (varE "w")) (varE "x"))))))))))
  (seqS (asgTS ["lead", "rows"] (consL (twoE hiD (callE signsF (consL (varE "bare") nilL)) (binE .Add (litE (.int 1)) (binE .Mult (litE (.int 3)) (varE "place")))) (consL (compE [] (itemsL (varE "modes")) (loopC (bf1 "mode") trueT (oneL (callE filemodeF (consL (varE "mode") nilL))))) nilL)))
  (seqS (ifS (cmpE .NotEq (varE "rows") (compE ["bare", "lead", "place"] (itemsL (varE "classes")) (loopC (bf1 "signs") trueT (oneL (binE .Add (binE .Add (varE "lead") (varE "signs")) (twoE loD (callE signsF (consL (varE "bare") nilL)) (binE .Add (litE (.int 4)) (binE .Mult (litE (.int 3)) (varE "place"))))))))) (seqS (retS (litE (.bool false)))
  nilS) nilS)
  (seqS (asgS "fronts" (binE .Add (listE (consL (litE (.str (Str.ofString ""))) (consL (litE (.str (Str.ofString "-"))) (consL (litE (.str (Str.ofString "r"))) (consL (litE (.str (Str.ofString "--"))) (consL (litE (.str (Str.ofString "-w"))) (consL (litE (.str (Str.ofString "r-"))) (consL (litE (.str (Str.ofString "rw"))) nilL)))))))) (varE "classes")))
  (seqS (asgS "told" (compE ["fronts"] (itemsL (binE .Add (twoE hiD (varE "script") (litE (.int 3))) (listE (consL (litE (.int 2)) (consL (litE (.int 6)) (consL (litE (.int 28)) (consL (litE (.int 553)) (consL (litE (.int 4)) (consL (litE (.int 1139)) (consL (litE (.int 748)) nilL)))))))))) (loopC (bf1 "x") trueT (oneL (listE (consL (idxE (varE "fronts") (binE .Mod (varE "x") (litE (.int 23)))) (consL (boolE (cmpE .Eq (binE .Mod (binE .FloorDiv (varE "x") (litE (.int 23))) (litE (.int 2))) (litE (.int 1)))) (consL (compE ["x"] (enumL (litE (.str (Str.ofString "abc")))) (loopC (bf2 "k" "agent") (cmpE .Eq (binE .Mod (binE .FloorDiv (binE .FloorDiv (varE "x") (litE (.int 46))) (binE .Pow (litE (.int 2)) (varE "k"))) (litE (.int 2))) (litE (.int 0))) (oneL (varE "agent")))) (consL (idxE (listE (consL (litE .none) (consL (litE (.int 3)) (consL (litE (.int 5)) (consL (litE (.int 0)) nilL))))) (binE .Mod (binE .FloorDiv (varE "x") (litE (.int 368))) (litE (.int 4)))) nilL)))))))))
  (seqS (asgS "entries" (compE ["lead"] (itemsL (varE "told")) (loopC (bf1 "row") trueT (oneL (callE entryF (consL (revE (idxE (varE "row") (litE (.int 2)))) (consL (listE (consL (callE ruleF (consL (binE .Add (varE "lead") (idxE (varE "row") (litE (.int 0)))) (consL (idxE (varE "row") (litE (.int 1))) nilL))) nilL)) (consL (idxE (varE "row") (litE (.int 3))) nilL))))))))
  (seqS (ifS (cmpE .NotEq (compE ["entries", "lead", "told"] (rangeL (binE .Add (oneE lenD (varE "entries")) (litE (.int 1)))) (loopC (bf1 "k") (cmpE .NotEq (callE partsF (consL (callE mergeF (consL (callE mergedF (consL (twoE hiD (varE "entries") (varE "k")) nilL)) (consL (callE mergedF (consL (twoE loD (varE "entries") (varE "k")) nilL)) nilL))) nilL)) (callE dueF (consL (varE "told") (consL (varE "lead") nilL)))) (oneL (varE "k")))) (listE nilL)) (seqS (retS (litE (.bool false)))
  nilS) nilS)
  (seqS (ifS (cmpE .NotEq (callE saidF (consL (varE "entries") (consL (varE "rows") nilL))) (compE ["told"] (itemsL (varE "classes")) (loopC (bf1 "signs") trueT (oneL (callE verdictF (consL (varE "told") (consL (varE "signs") nilL))))))) (seqS (retS (litE (.bool false)))
  nilS) nilS)
  (seqS (retS (boolE (cmpE .Eq (callE partsF (consL (callE mergedF (consL (callE thinnedF (consL (varE "entries") (consL (varE "rows") nilL))) nilL)) nilL)) (callE dueF (consL (callE neededF (consL (varE "told") nilL)) (consL (varE "lead") nilL))))))
  nilS)))))))))))))
noncomputable def lawF : Fx := defF ["script"] lawS
end Mine
end

section
open PySem PySem.W PySem.Calls PyProof.Rows PySem.SeqAt
set_option Elab.async false
set_option maxRecDepth 100000
set_option maxHeartbeats 4000000
set_option linter.unusedVariables false
namespace Mine
section
variable {prog : Program} {w : World} {G : Heap} {mg mb : Str → Option Value}
theorem ifmt_ok (gn : Gnd prog w G mg mb) : CallOk prog w G 1 79 ifmtF := by
  refine callOk_body (names := ["mode"]) (f := ifmtS) gn (def_at gn rfl rfl (by kernel_rfl) (fun vs h => by obtain ⟨a0, rfl⟩ := len_1 h; rfl) (by decide +kernel)) ?_
  exact (sb_cons (ss_ret (se_bin gn (se_name (by decide +kernel)) se_int))
  sb_nil)

theorem signs_ok (gn : Gnd prog w G mg mb) : CallOk prog w G 1 126 signsF := by
  refine callOk_body (names := ["mode"]) (f := signsS) gn (def_at gn rfl rfl (by kernel_rfl) (fun vs h => by obtain ⟨a0, rfl⟩ := len_1 h; rfl) (by decide +kernel)) ?_
  exact (sb_cons (ss_asg (se_idx (se_str (by decide +kernel)) (se_bin gn (se_name (by decide +kernel)) se_int) (fun _ _ => rfl)) (by decide +kernel) (fun _ _ => rfl))
  (sb_cons (ss_for (N := ["k"]) (fun _ _ => rfl) (si_range gn (by decide +kernel) se_int (fun _ => rfl) (by decide +kernel) (by simp) (fun _ _ _ h => bfS_upd h)) (sb_cons (ss_asgR (sl_cons (se_bin gn (se_bin gn (se_name (by decide +kernel)) (se_bin gn se_int (se_bin gn se_int (se_name (by decide +kernel))))) se_int) (sl_cons (se_bin gn (se_bin gn (se_name (by decide +kernel)) (se_bin gn se_int (se_bin gn se_int (se_bin gn (se_name (by decide +kernel)) se_int)))) se_int) sl_nil (fun _ => rfl)) (fun _ => rfl)) (by decide) (by decide +kernel) (fun env h => swapped_of env h (by kernel_rfl)))
  (sb_cons (ss_asg (se_bin gn (se_name (by decide +kernel)) (se_ite (st_and (st_cmp (se_bin gn (se_name (by decide +kernel)) se_int) se_int rfl) (st_cmp (se_name (by decide +kernel)) se_int rfl)) (se_idx (se_idx (se_list (sl_cons (se_str (by decide +kernel)) (sl_cons (se_str (by decide +kernel)) (sl_cons (se_str (by decide +kernel)) sl_nil (fun _ => rfl)) (fun _ => rfl)) (fun _ => rfl)) (by decide)) (se_bin gn (se_name (by decide +kernel)) se_int) (fun _ _ => rfl)) (se_name (by decide +kernel)) (fun _ _ => rfl)) (se_idx (se_str (by decide +kernel)) (se_bin gn (se_bin gn (se_bin gn (se_name (by decide +kernel)) se_int) se_int) (se_name (by decide +kernel))) (fun _ _ => rfl)))) (by decide +kernel) (fun _ _ => rfl))
  sb_nil)) sb_nil)
  (sb_cons (ss_ret (se_name (by decide +kernel)))
  sb_nil)))

theorem filemode_ok (gn : Gnd prog w G mg mb) : CallOk prog w G 2 119 filemodeF := by
  refine callOk_body (names := ["mode"]) (f := filemodeS) gn (def_at gn rfl rfl (by kernel_rfl) (fun vs h => by obtain ⟨a0, rfl⟩ := len_1 h; rfl) (by decide +kernel)) ?_
  exact (sb_cons (ss_own (by decide +kernel) (fun _ => rfl))
  (sb_cons (ss_for (N := ["index", "table"]) (fun _ _ => rfl) (si_enumT gn (by decide +kernel) (se_tab gn (by decide +kernel)) (fun _ => rfl) (by decide +kernel) (by decide +kernel) (by simp) (by simp) (bfS2_pair _ _)) (sb_cons (ss_for (N := ["bit", "char"]) (fun _ _ => rfl) (si_pairs (se_name (by decide +kernel)) (by decide +kernel) (by decide +kernel) (by simp) (by simp) (bfS2_pair _ _)) (sb_cons (ss_if (st_cmp (se_name (by decide +kernel)) se_int rfl) (sb_cons (ss_if (st_cmp (se_callF gn (by decide +kernel) (by kernel_rfl) (by decide +kernel) (fn_at gn (by kernel_rfl)) (ifmt_ok gn) (by decide) (sl_cons (se_name (by decide +kernel)) sl_nil (fun _ => rfl)) (fun _ => rfl)) (se_name (by decide +kernel)) rfl) (sb_cons (ss_append gn (by decide +kernel) (by decide +kernel) (se_name (by decide +kernel)) (fun _ => rfl) (fun _ => rfl) rfl (fun _ => rfl) rfl)
  (sb_cons ss_brk
  sb_nil)) sb_nil)
  sb_nil) (sb_cons (ss_if (st_cmp (se_bin gn (se_name (by decide +kernel)) (se_name (by decide +kernel))) (se_name (by decide +kernel)) rfl) (sb_cons (ss_append gn (by decide +kernel) (by decide +kernel) (se_name (by decide +kernel)) (fun _ => rfl) (fun _ => rfl) rfl (fun _ => rfl) rfl)
  (sb_cons ss_brk
  sb_nil)) sb_nil)
  sb_nil))
  sb_nil) (sb_cons (ss_if (st_cmp (se_name (by decide +kernel)) se_int rfl) (sb_cons (ss_append gn (by decide +kernel) (by decide +kernel) (se_str (by decide +kernel)) (fun _ => rfl) (fun _ => rfl) rfl (fun _ => rfl) rfl)
  sb_nil) (sb_cons (ss_append gn (by decide +kernel) (by decide +kernel) (se_str (by decide +kernel)) (fun _ => rfl) (fun _ => rfl) rfl (fun _ => rfl) rfl)
  sb_nil))
  sb_nil))
  sb_nil) sb_nil)
  (sb_cons (ss_join gn (by decide +kernel) (by decide +kernel) (fun _ => rfl) rfl)
  sb_nil)))

theorem allowance_ok (gn : Gnd prog w G mg mb) : CallOk prog w G 2 49 allowanceF := by
  refine callOk_body (names := ["self", "filename"]) (f := allowanceS) gn (def_at gn rfl rfl (by kernel_rfl) (fun vs h => by obtain ⟨a0, a1, rfl⟩ := len_2 h; rfl) (by decide +kernel)) ?_
  exact (sb_cons (ss_asg (se_neg se_int) (by decide +kernel) (fun _ _ => rfl))
  (sb_cons (ss_asg se_bool (by decide +kernel) (fun _ _ => rfl))
  (sb_cons (ss_for (N := ["line"]) (fun _ _ => rfl) (si_val (se_attr gn (se_name (by decide +kernel)) (fun _ => rfl)) (by decide +kernel) (by simp) (fun _ _ _ h => bfS_upd h)) (sb_cons (ss_asg (se_applies gn (se_name (by decide +kernel)) (se_name (by decide +kernel)) (fun _ => rfl) (fun _ => ⟨_, rfl⟩)) (by decide +kernel) (fun _ _ => rfl))
  (sb_cons (ss_if (st_val (se_name (by decide +kernel)) (fun _ _ => rfl)) (sb_cons (ss_if (st_cmp (se_name (by decide +kernel)) (se_name (by decide +kernel)) rfl) (sb_cons (ss_asg (se_name (by decide +kernel)) (by decide +kernel) (fun _ _ => rfl))
  (sb_cons (ss_asg (se_attr gn (se_name (by decide +kernel)) (fun _ => rfl)) (by decide +kernel) (fun _ _ => rfl))
  sb_nil)) (sb_cons (ss_if (st_and (st_cmp (se_name (by decide +kernel)) (se_name (by decide +kernel)) rfl) (st_not (st_val (se_name (by decide +kernel)) (fun _ _ => rfl)))) (sb_cons (ss_asg (se_attr gn (se_name (by decide +kernel)) (fun _ => rfl)) (by decide +kernel) (fun _ _ => rfl))
  sb_nil) sb_nil)
  sb_nil))
  sb_nil) sb_nil)
  sb_nil)) sb_nil)
  (sb_cons (ss_ret (se_name (by decide +kernel)))
  sb_nil))))

theorem merged_ok (gn : Gnd prog w G mg mb) : CallOk prog w G 5 147 mergedF := by
  refine callOk_body (names := ["entries"]) (f := mergedS) gn (def_at gn rfl rfl (by kernel_rfl) (fun vs h => by obtain ⟨a0, rfl⟩ := len_1 h; rfl) (by decide +kernel)) ?_
  exact (sb_cons (ss_ret (se_callF gn (by decide +kernel) (by kernel_rfl) (by decide +kernel) (fn_at gn (by kernel_rfl)) (reduce_ok gn) (by decide) (sl_cons (se_fn gn (by decide +kernel) (by kernel_rfl) (by decide +kernel)) (sl_cons (se_name (by decide +kernel)) (sl_cons (se_callF gn (by decide +kernel) (by kernel_rfl) (by decide +kernel) (fn_at gn (by kernel_rfl)) (entry_ok gn) (by decide) (sl_cons (se_list (sl_cons (se_str (by decide +kernel)) (sl_cons (se_str (by decide +kernel)) (sl_cons (se_str (by decide +kernel)) sl_nil (fun _ => rfl)) (fun _ => rfl)) (fun _ => rfl)) (by decide)) (sl_cons (se_list sl_nil (by decide)) (sl_cons se_none sl_nil (fun _ => rfl)) (fun _ => rfl)) (fun _ => rfl)) (fun _ => rfl)) sl_nil (fun _ => rfl)) (fun _ => rfl)) (fun _ => rfl)) (fun _ => rfl)))
  sb_nil)

theorem said_ok (gn : Gnd prog w G mg mb) : CallOk prog w G 6 152 saidF := by
  refine callOk_body (names := ["entries", "rows"]) (f := saidS) gn (def_at gn rfl rfl (by kernel_rfl) (fun vs h => by obtain ⟨a0, a1, rfl⟩ := len_2 h; rfl) (by decide +kernel)) ?_
  exact (sb_cons (ss_asg (se_callF gn (by decide +kernel) (by kernel_rfl) (by decide +kernel) (fn_at gn (by kernel_rfl)) (merged_ok gn) (by decide) (sl_cons (se_name (by decide +kernel)) sl_nil (fun _ => rfl)) (fun _ => rfl)) (by decide +kernel) (fun _ _ => rfl))
  (sb_cons (ss_ret (se_comp (CompOk.mk (N := ["row"]) (by kernel_rfl) ⟨rfl, (by decide +kernel), (by decide +kernel)⟩ (fun _ _ => rfl) (si_val (se_name (by decide +kernel)) (by decide +kernel) (by simp) (fun _ _ _ h => bf1_upd h)) (loop_gen (iter := default) (bf1_mono _) sq_nil (body_last (se_allowance gn (allowance_ok gn) (by decide) (se_name (by decide +kernel)) (se_name (by decide +kernel)) (fun _ => rfl) (fun _ => ⟨_, rfl⟩))) (fun _ _ _ _ _ _ _ h => turn_last rfl rfl h)) (by decide +kernel))))
  sb_nil))

theorem thinned_ok (gn : Gnd prog w G mg mb) : CallOk prog w G 7 157 thinnedF := by
  refine callOk_body (names := ["entries", "rows"]) (f := thinnedS) gn (def_at gn rfl rfl (by kernel_rfl) (fun vs h => by obtain ⟨a0, a1, rfl⟩ := len_2 h; rfl) (by decide +kernel)) ?_
  exact (sb_cons (ss_asgR (sl_cons (se_callF gn (by decide +kernel) (by kernel_rfl) (by decide +kernel) (fn_at gn (by kernel_rfl)) (said_ok gn) (by decide) (sl_cons (se_name (by decide +kernel)) (sl_cons (se_name (by decide +kernel)) sl_nil (fun _ => rfl)) (fun _ => rfl)) (fun _ => rfl)) (sl_cons (se_name (by decide +kernel)) sl_nil (fun _ => rfl)) (fun _ => rfl)) (by decide) (by decide +kernel) (fun env h => swapped_of env h (by kernel_rfl)))
  (sb_cons (ss_for (N := ["entry"]) (fun _ _ => rfl) (si_val (se_name (by decide +kernel)) (by decide +kernel) (by simp) (fun _ _ _ h => bfS_upd h)) (sb_cons (ss_asgC (CompOk.mk (N := ["other"]) (by kernel_rfl) ⟨rfl, (by decide +kernel), (by decide +kernel)⟩ (fun _ _ => rfl) (si_val (se_name (by decide +kernel)) (by decide +kernel) (by simp) (fun _ _ _ h => bf1_upd h)) (loop_gen (iter := default) (bf1_mono _) (sq_one (st_cmp (se_name (by decide +kernel)) (se_name (by decide +kernel)) rfl)) (body_last (se_name (by decide +kernel))) (fun _ _ _ _ _ _ _ h => turn_last rfl rfl h)) (by decide +kernel)) (by decide +kernel) (swaps_true (by decide +kernel) (by decide +kernel) (by decide +kernel)))
  (sb_cons (ss_if (st_cmp (se_callF gn (by decide +kernel) (by kernel_rfl) (by decide +kernel) (fn_at gn (by kernel_rfl)) (said_ok gn) (by decide) (sl_cons (se_name (by decide +kernel)) (sl_cons (se_name (by decide +kernel)) sl_nil (fun _ => rfl)) (fun _ => rfl)) (fun _ => rfl)) (se_name (by decide +kernel)) rfl) (sb_cons (ss_asg (se_name (by decide +kernel)) (by decide +kernel) (fun _ _ => rfl))
  sb_nil) sb_nil)
  sb_nil)) sb_nil)
  (sb_cons (ss_ret (se_name (by decide +kernel)))
  sb_nil)))

theorem parts_ok (gn : Gnd prog w G mg mb) : CallOk prog w G 2 162 partsF := by
  refine callOk_body (names := ["entry"]) (f := partsS) gn (def_at gn rfl rfl (by kernel_rfl) (fun vs h => by obtain ⟨a0, rfl⟩ := len_1 h; rfl) (by decide +kernel)) ?_
  exact (sb_cons (ss_ret (se_list (sl_cons (se_attr gn (se_name (by decide +kernel)) (fun _ => rfl)) (sl_cons (se_comp (CompOk.mk (N := ["rule"]) (by kernel_rfl) ⟨rfl, (by decide +kernel), (by decide +kernel)⟩ (fun _ _ => rfl) (si_val (se_attr gn (se_name (by decide +kernel)) (fun _ => rfl)) (by decide +kernel) (by simp) (fun _ _ _ h => bf1_upd h)) (loop_gen (iter := default) (bf1_mono _) sq_nil (body_last (se_list (sl_cons (se_callRule gn (by decide +kernel)) (sl_cons (se_attr gn (se_name (by decide +kernel)) (fun _ => rfl)) sl_nil (fun _ => rfl)) (fun _ => rfl)) (by decide))) (fun _ _ _ _ _ _ _ h => turn_last rfl rfl h)) (by decide +kernel))) (sl_cons (se_attr gn (se_name (by decide +kernel)) (fun _ => rfl)) sl_nil (fun _ => rfl)) (fun _ => rfl)) (fun _ => rfl)) (by decide)))
  sb_nil)

theorem due_ok (gn : Gnd prog w G mg mb) : CallOk prog w G 1 167 dueF := by
  refine callOk_body (names := ["told", "lead"]) (f := dueS) gn (def_at gn rfl rfl (by kernel_rfl) (fun vs h => by obtain ⟨a0, a1, rfl⟩ := len_2 h; rfl) (by decide +kernel)) ?_
  exact (sb_cons (ss_asgC (CompOk.mk (N := ["agent"]) (by kernel_rfl) ⟨rfl, (by decide +kernel), (by decide +kernel)⟩ (fun _ _ => rfl) (si_val (se_str (by decide +kernel)) (by decide +kernel) (by simp) (fun _ _ _ h => bf1_upd h)) (loop_gen (iter := default) (bf1_mono _) (sq_one (st_cmp (se_comp (CompOk.mk (N := ["row"]) (by kernel_rfl) ⟨rfl, (by decide +kernel), (by decide +kernel)⟩ (fun _ _ => rfl) (si_val (se_name (by decide +kernel)) (by decide +kernel) (by simp) (fun _ _ _ h => bf1_upd h)) (loop_gen (iter := default) (bf1_mono _) (sq_one (st_cmp (se_name (by decide +kernel)) (se_idx (se_name (by decide +kernel)) se_int (fun _ _ => rfl)) rfl)) (body_last (se_name (by decide +kernel))) (fun _ _ _ _ _ _ _ h => turn_last rfl rfl h)) (by decide +kernel))) (se_list sl_nil (by decide)) rfl)) (body_last (se_name (by decide +kernel))) (fun _ _ _ _ _ _ _ h => turn_last rfl rfl h)) (by decide +kernel)) (by decide +kernel) (swaps_true (by decide +kernel) (by decide +kernel) (by decide +kernel)))
  (sb_cons (ss_ret (se_list (sl_cons (se_name (by decide +kernel)) (sl_cons (se_comp (CompOk.mk (N := ["row"]) (by kernel_rfl) ⟨rfl, (by decide +kernel), (by decide +kernel)⟩ (fun _ _ => rfl) (si_val (se_name (by decide +kernel)) (by decide +kernel) (by simp) (fun _ _ _ h => bf1_upd h)) (loop_gen (iter := default) (bf1_mono _) sq_nil (body_last (se_list (sl_cons (se_bin gn (se_name (by decide +kernel)) (se_idx (se_name (by decide +kernel)) se_int (fun _ _ => rfl))) (sl_cons (se_idx (se_name (by decide +kernel)) se_int (fun _ _ => rfl)) sl_nil (fun _ => rfl)) (fun _ => rfl)) (by decide))) (fun _ _ _ _ _ _ _ h => turn_last rfl rfl h)) (by decide +kernel))) (sl_cons (se_idx (se_bin gn (se_comp (CompOk.mk (N := ["row"]) (by kernel_rfl) ⟨rfl, (by decide +kernel), (by decide +kernel)⟩ (fun _ _ => rfl) (si_val (se_rev (se_name (by decide +kernel))) (by decide +kernel) (by simp) (fun _ _ _ h => bf1_upd h)) (loop_gen (iter := default) (bf1_mono _) (sq_one (st_cmp (se_idx (se_name (by decide +kernel)) se_int (fun _ _ => rfl)) se_none rfl)) (body_last (se_idx (se_name (by decide +kernel)) se_int (fun _ _ => rfl))) (fun _ _ _ _ _ _ _ h => turn_last rfl rfl h)) (by decide +kernel))) (se_list (sl_cons se_none sl_nil (fun _ => rfl)) (by decide))) se_int (fun _ _ => rfl)) sl_nil (fun _ => rfl)) (fun _ => rfl)) (fun _ => rfl)) (by decide)))
  sb_nil))

theorem verdict_ok (gn : Gnd prog w G mg mb) : CallOk prog w G 1 172 verdictF := by
  refine callOk_body (names := ["rules", "signs"]) (f := verdictS) gn (def_at gn rfl rfl (by kernel_rfl) (fun vs h => by obtain ⟨a0, a1, rfl⟩ := len_2 h; rfl) (by decide +kernel)) ?_
  exact (sb_cons (ss_asg (se_max gn (by decide +kernel) (se_bin gn (se_list (sl_cons (se_neg se_int) sl_nil (fun _ => rfl)) (by decide)) (se_comp (CompOk.mk (N := ["rule"]) (by kernel_rfl) ⟨rfl, (by decide +kernel), (by decide +kernel)⟩ (fun _ _ => rfl) (si_val (se_name (by decide +kernel)) (by decide +kernel) (by simp) (fun _ _ _ h => bf1_upd h)) (loop_gen (iter := default) (bf1_mono _) (sq_one (st_cmp (se_hi (se_name (by decide +kernel)) (se_len gn (by decide +kernel) (se_idx (se_name (by decide +kernel)) se_int (fun _ _ => rfl)) (fun _ => rfl))) (se_idx (se_name (by decide +kernel)) se_int (fun _ _ => rfl)) rfl)) (body_last (se_len gn (by decide +kernel) (se_idx (se_name (by decide +kernel)) se_int (fun _ _ => rfl)) (fun _ => rfl))) (fun _ _ _ _ _ _ _ h => turn_last rfl rfl h)) (by decide +kernel)))) (fun _ => rfl)) (by decide +kernel) (fun _ _ => rfl))
  (sb_cons (ss_ret (se_or (se_cmp (se_name (by decide +kernel)) se_int rfl) (se_cmp se_bool (se_comp (CompOk.mk (N := ["rule"]) (by kernel_rfl) ⟨rfl, (by decide +kernel), (by decide +kernel)⟩ (fun _ _ => rfl) (si_val (se_name (by decide +kernel)) (by decide +kernel) (by simp) (fun _ _ _ h => bf1_upd h)) (loop_gen (iter := default) (bf1_mono _) (sq_one (st_cmp (se_idx (se_name (by decide +kernel)) se_int (fun _ _ => rfl)) (se_hi (se_name (by decide +kernel)) (se_name (by decide +kernel))) rfl)) (body_last (se_idx (se_name (by decide +kernel)) se_int (fun _ _ => rfl))) (fun _ _ _ _ _ _ _ h => turn_last rfl rfl h)) (by decide +kernel))) rfl)))
  sb_nil))

theorem idle_ok (gn : Gnd prog w G mg mb) : CallOk prog w G 2 177 idleF := by
  refine callOk_body (names := ["others", "rule"]) (f := idleS) gn (def_at gn rfl rfl (by kernel_rfl) (fun vs h => by obtain ⟨a0, a1, rfl⟩ := len_2 h; rfl) (by decide +kernel)) ?_
  exact (sb_cons (ss_asgT (sl_cons (se_idx (se_name (by decide +kernel)) se_int (fun _ _ => rfl)) (sl_cons (se_list (sl_cons se_int (sl_cons se_int (sl_cons se_int (sl_cons se_int sl_nil (fun _ => rfl)) (fun _ => rfl)) (fun _ => rfl)) (fun _ => rfl)) (by decide)) sl_nil (fun _ => rfl)) (fun _ => rfl)) (by decide) (by decide +kernel) (fun A env => (.cons (fun _ _ _ _ h => wpAny_assign_Name h) (.cons (fun _ _ _ _ h => wpAny_assign_Name h) .nil))) (fun _ => rfl) (fun _ => rfl) (fun env h => swapped_of env h (by kernel_rfl)))
  (sb_cons (ss_asgC (CompOk.mk (N := ["other"]) (by kernel_rfl) ⟨rfl, (by decide +kernel), (by decide +kernel)⟩ (fun _ _ => rfl) (si_val (se_name (by decide +kernel)) (by decide +kernel) (by simp) (fun _ _ _ h => bf1_upd h)) (loop_gen (iter := default) (bf1_mono _) (sq_one (st_cmp (se_idx (se_name (by decide +kernel)) se_int (fun _ _ => rfl)) (se_name (by decide +kernel)) rfl)) (body_last (se_idx (se_name (by decide +kernel)) se_int (fun _ _ => rfl))) (fun _ _ _ _ _ _ _ h => turn_last rfl rfl h)) (by decide +kernel)) (by decide +kernel) (swaps_true (by decide +kernel) (by decide +kernel) (by decide +kernel)))
  (sb_cons (ss_asg (se_ite (st_cmp (se_name (by decide +kernel)) (se_list sl_nil (by decide)) rfl) (se_cmp se_bool (se_name (by decide +kernel)) rfl) (se_callF gn (by decide +kernel) (by kernel_rfl) (by decide +kernel) (fn_at gn (by kernel_rfl)) (verdict_ok gn) (by decide) (sl_cons (se_comp (CompOk.mk (N := ["other"]) (by kernel_rfl) ⟨rfl, (by decide +kernel), (by decide +kernel)⟩ (fun _ _ => rfl) (si_val (se_name (by decide +kernel)) (by decide +kernel) (by simp) (fun _ _ _ h => bf1_upd h)) (loop_gen (iter := default) (bf1_mono _) (sq_one (st_cmp (se_len gn (by decide +kernel) (se_idx (se_name (by decide +kernel)) se_int (fun _ _ => rfl)) (fun _ => rfl)) (se_len gn (by decide +kernel) (se_name (by decide +kernel)) (fun _ => rfl)) rfl)) (body_last (se_name (by decide +kernel))) (fun _ _ _ _ _ _ _ h => turn_last rfl rfl h)) (by decide +kernel))) (sl_cons (se_name (by decide +kernel)) sl_nil (fun _ => rfl)) (fun _ => rfl)) (fun _ => rfl))) (by decide +kernel) (fun _ _ => rfl))
  (sb_cons (ss_asg (se_comp (CompOk.mk (N := ["other"]) (by kernel_rfl) ⟨rfl, (by decide +kernel), (by decide +kernel)⟩ (fun _ _ => rfl) (si_val (se_name (by decide +kernel)) (by decide +kernel) (by simp) (fun _ _ _ h => bf1_upd h)) (loop_gen (iter := default) (bf1_mono _) (sq_one (st_and (st_cmp (se_len gn (by decide +kernel) (se_idx (se_name (by decide +kernel)) se_int (fun _ _ => rfl)) (fun _ => rfl)) (se_len gn (by decide +kernel) (se_name (by decide +kernel)) (fun _ => rfl)) rfl) (st_cmp (se_hi (se_idx (se_name (by decide +kernel)) se_int (fun _ _ => rfl)) (se_len gn (by decide +kernel) (se_name (by decide +kernel)) (fun _ => rfl))) (se_name (by decide +kernel)) rfl))) (body_last (se_idx (se_name (by decide +kernel)) se_int (fun _ _ => rfl))) (fun _ _ _ _ _ _ _ h => turn_last rfl rfl h)) (by decide +kernel))) (by decide +kernel) (swaps_false (by decide +kernel)))
  (sb_cons (ss_asgC (CompOk.mk (N := ["k", "one"]) (by kernel_rfl) ⟨rfl, (by decide +kernel), (by decide +kernel)⟩ (fun _ _ => rfl) (si_enum gn (by decide +kernel) (se_name (by decide +kernel)) (fun _ => rfl) (by decide +kernel) (by decide +kernel) (by simp) (by simp) (bf2_pair _ _)) (loop_gen (iter := default) (bf2_mono _ _) (sq_one (st_and (st_cmp (se_name (by decide +kernel)) (se_hi (se_name (by decide +kernel)) (se_name (by decide +kernel))) rfl) (st_cmp (se_comp (CompOk.mk (N := ["two"]) (by kernel_rfl) ⟨rfl, (by decide +kernel), (by decide +kernel)⟩ (fun _ _ => rfl) (si_val (se_name (by decide +kernel)) (by decide +kernel) (by simp) (fun _ _ _ h => bf1_upd h)) (loop_gen (iter := default) (bf1_mono _) (sq_one (st_and (st_cmp (se_len gn (by decide +kernel) (se_name (by decide +kernel)) (fun _ => rfl)) (se_len gn (by decide +kernel) (se_name (by decide +kernel)) (fun _ => rfl)) rfl) (st_cmp (se_hi (se_name (by decide +kernel)) (se_len gn (by decide +kernel) (se_name (by decide +kernel)) (fun _ => rfl))) (se_name (by decide +kernel)) rfl))) (body_last (se_name (by decide +kernel))) (fun _ _ _ _ _ _ _ h => turn_last rfl rfl h)) (by decide +kernel))) (se_list sl_nil (by decide)) rfl))) (body_last (se_name (by decide +kernel))) (fun _ _ _ _ _ _ _ h => turn_last rfl rfl h)) (by decide +kernel)) (by decide +kernel) (swaps_true (by decide +kernel) (by decide +kernel) (by decide +kernel)))
  (sb_cons (ss_ret (se_or (se_cmp (se_name (by decide +kernel)) (se_or (se_idx (se_name (by decide +kernel)) se_int (fun _ _ => rfl)) (se_cmp se_bool (se_name (by decide +kernel)) rfl)) rfl) (se_cmp (se_sum gn (by decide +kernel) (se_comp (CompOk.mk (N := ["one"]) (by kernel_rfl) ⟨rfl, (by decide +kernel), (by decide +kernel)⟩ (fun _ _ => rfl) (si_val (se_name (by decide +kernel)) (by decide +kernel) (by simp) (fun _ _ _ h => bf1_upd h)) (loop_gen (iter := default) (bf1_mono _) sq_nil (body_last (se_idx (se_name (by decide +kernel)) (se_len gn (by decide +kernel) (se_name (by decide +kernel)) (fun _ => rfl)) (fun _ _ => rfl))) (fun _ _ _ _ _ _ _ h => turn_last rfl rfl h)) (by decide +kernel))) (fun _ => rfl)) (se_idx (se_name (by decide +kernel)) (se_len gn (by decide +kernel) (se_name (by decide +kernel)) (fun _ => rfl)) (fun _ _ => rfl)) rfl)))
  sb_nil))))))

theorem needed_ok (gn : Gnd prog w G mg mb) : CallOk prog w G 3 182 neededF := by
  refine callOk_body (names := ["told"]) (f := neededS) gn (def_at gn rfl rfl (by kernel_rfl) (fun vs h => by obtain ⟨a0, rfl⟩ := len_1 h; rfl) (by decide +kernel)) ?_
  exact (sb_cons (ss_asg (se_listRange gn (by decide +kernel) (by decide +kernel) (se_len gn (by decide +kernel) (se_name (by decide +kernel)) (fun _ => rfl)) (fun _ => rfl)) (by decide +kernel) (fun _ _ => rfl))
  (sb_cons (ss_for (N := ["k"]) (fun _ _ => rfl) (si_range gn (by decide +kernel) (se_len gn (by decide +kernel) (se_name (by decide +kernel)) (fun _ => rfl)) (fun _ => rfl) (by decide +kernel) (by simp) (fun _ _ _ h => bfS_upd h)) (sb_cons (ss_asgC (CompOk.mk (N := ["j"]) (by kernel_rfl) ⟨rfl, (by decide +kernel), (by decide +kernel)⟩ (fun _ _ => rfl) (si_val (se_name (by decide +kernel)) (by decide +kernel) (by simp) (fun _ _ _ h => bf1_upd h)) (loop_gen (iter := default) (bf1_mono _) (sq_one (st_cmp (se_name (by decide +kernel)) (se_name (by decide +kernel)) rfl)) (body_last (se_name (by decide +kernel))) (fun _ _ _ _ _ _ _ h => turn_last rfl rfl h)) (by decide +kernel)) (by decide +kernel) (swaps_true (by decide +kernel) (by decide +kernel) (by decide +kernel)))
  (sb_cons (ss_asg (se_ite (st_val (se_callF gn (by decide +kernel) (by kernel_rfl) (by decide +kernel) (fn_at gn (by kernel_rfl)) (idle_ok gn) (by decide) (sl_cons (se_comp (CompOk.mk (N := ["j"]) (by kernel_rfl) ⟨rfl, (by decide +kernel), (by decide +kernel)⟩ (fun _ _ => rfl) (si_val (se_name (by decide +kernel)) (by decide +kernel) (by simp) (fun _ _ _ h => bf1_upd h)) (loop_gen (iter := default) (bf1_mono _) sq_nil (body_last (se_idx (se_name (by decide +kernel)) (se_name (by decide +kernel)) (fun _ _ => rfl))) (fun _ _ _ _ _ _ _ h => turn_last rfl rfl h)) (by decide +kernel))) (sl_cons (se_idx (se_name (by decide +kernel)) (se_name (by decide +kernel)) (fun _ _ => rfl)) sl_nil (fun _ => rfl)) (fun _ => rfl)) (fun _ => rfl)) (fun _ _ => rfl)) (se_name (by decide +kernel)) (se_name (by decide +kernel))) (by decide +kernel) (fun _ _ => rfl))
  sb_nil)) sb_nil)
  (sb_cons (ss_ret (se_comp (CompOk.mk (N := ["j"]) (by kernel_rfl) ⟨rfl, (by decide +kernel), (by decide +kernel)⟩ (fun _ _ => rfl) (si_val (se_name (by decide +kernel)) (by decide +kernel) (by simp) (fun _ _ _ h => bf1_upd h)) (loop_gen (iter := default) (bf1_mono _) sq_nil (body_last (se_idx (se_name (by decide +kernel)) (se_name (by decide +kernel)) (fun _ _ => rfl))) (fun _ _ _ _ _ _ _ h => turn_last rfl rfl h)) (by decide +kernel))))
  sb_nil)))

theorem law_ok (gn : Gnd prog w G mg mb) : TopOk prog w G 8 187 lawF := by
  refine callTop_body (names := ["script"]) (f := lawS) gn (def_at gn rfl rfl (by kernel_rfl) (fun vs h => by obtain ⟨a0, rfl⟩ := len_1 h; rfl) (by decide +kernel)) ?_
  exact (sb_cons (ss_asg (se_bin gn (se_sum gn (by decide +kernel) (se_hi (se_name (by decide +kernel)) se_int) (fun _ => rfl)) se_int) (by decide +kernel) (fun _ _ => rfl))
  (sb_cons (ss_asgT (sl_cons (se_bin gn (se_name (by decide +kernel)) se_int) (sl_cons (se_bin gn (se_bin gn (se_name (by decide +kernel)) se_int) se_int) (sl_cons (se_idx (se_list (sl_cons se_int (sl_cons se_int sl_nil (fun _ => rfl)) (fun _ => rfl)) (by decide)) (se_bin gn (se_bin gn (se_name (by decide +kernel)) se_int) se_int) (fun _ _ => rfl)) sl_nil (fun _ => rfl)) (fun _ => rfl)) (fun _ => rfl)) (by decide) (by decide +kernel) (fun A env => (.cons (fun _ _ _ _ h => wpAny_assign_Name h) (.cons (fun _ _ _ _ h => wpAny_assign_Name h) (.cons (fun _ _ _ _ h => wpAny_assign_Name h) .nil)))) (fun _ => rfl) (fun _ => rfl) (fun env h => swapped_of env h (by kernel_rfl)))
  (sb_cons (ss_asg (se_bin gn (se_bin gn (se_bin gn (se_bin gn (se_name (by decide +kernel)) se_int) (se_name (by decide +kernel))) (se_bin gn (se_bin gn (se_bin gn (se_name (by decide +kernel)) (se_bin gn se_int (se_bin gn se_int (se_name (by decide +kernel))))) se_int) (se_bin gn se_int (se_bin gn se_int (se_name (by decide +kernel)))))) (se_bin gn (se_bin gn (se_bin gn (se_name (by decide +kernel)) (se_bin gn se_int (se_bin gn se_int (se_name (by decide +kernel))))) se_int) (se_bin gn se_int (se_bin gn se_int (se_name (by decide +kernel)))))) (by decide +kernel) (fun _ _ => rfl))
  (sb_cons (ss_asgC (CompOk.mk (N := ["r", "w", "s", "x"]) (by kernel_rfl) ⟨rfl, (by decide +kernel), (by decide +kernel)⟩ (fun _ _ => rfl) (si_val (se_list (sl_cons se_int (sl_cons se_int sl_nil (fun _ => rfl)) (fun _ => rfl)) (by decide)) (by decide +kernel) (by simp) (fun _ _ _ h => bf1_upd h)) (loop_gen (iter := default) (bf1_mono _) sq_nil (body_more rfl (si_val (se_list (sl_cons se_int (sl_cons se_int sl_nil (fun _ => rfl)) (fun _ => rfl)) (by decide)) (by decide +kernel) (by simp) (fun _ _ _ h => bf1_upd h)) (loop_gen (iter := default) (bf1_mono _) sq_nil (body_more rfl (si_val (se_list (sl_cons se_int (sl_cons se_int sl_nil (fun _ => rfl)) (fun _ => rfl)) (by decide)) (by decide +kernel) (by simp) (fun _ _ _ h => bf1_upd h)) (loop_gen (iter := default) (bf1_mono _) sq_nil (body_more rfl (si_val (se_list (sl_cons se_int (sl_cons se_int sl_nil (fun _ => rfl)) (fun _ => rfl)) (by decide)) (by decide +kernel) (by simp) (fun _ _ _ h => bf1_upd h)) (loop_gen (iter := default) (bf1_mono _) sq_nil (body_last (se_bin gn (se_bin gn (se_name (by decide +kernel)) (se_bin gn (se_bin gn (se_bin gn (se_bin gn (se_name (by decide +kernel)) se_int) (se_bin gn (se_name (by decide +kernel)) se_int)) (se_name (by decide +kernel))) (se_bin gn se_int (se_bin gn se_int (se_name (by decide +kernel)))))) (se_bin gn (se_name (by decide +kernel)) (se_bin gn se_int (se_bin gn se_int (se_name (by decide +kernel))))))) (fun _ _ _ _ _ _ _ h => turn_last rfl rfl h))) (fun _ _ _ _ _ _ _ h => turn_more rfl rfl (fun _ => rfl) h))) (fun _ _ _ _ _ _ _ h => turn_more rfl rfl (fun _ => rfl) h))) (fun _ _ _ _ _ _ _ h => turn_more rfl rfl (fun _ => rfl) h)) (by decide +kernel)) (by decide +kernel) (swaps_true (by decide +kernel) (by decide +kernel) (by decide +kernel)))
  (sb_cons (ss_asgC (CompOk.mk (N := ["r", "w", "x"]) (by kernel_rfl) ⟨rfl, (by decide +kernel), (by decide +kernel)⟩ (fun _ _ => rfl) (si_val (se_str (by decide +kernel)) (by decide +kernel) (by simp) (fun _ _ _ h => bf1_upd h)) (loop_gen (iter := default) (bf1_mono _) sq_nil (body_more rfl (si_val (se_str (by decide +kernel)) (by decide +kernel) (by simp) (fun _ _ _ h => bf1_upd h)) (loop_gen (iter := default) (bf1_mono _) sq_nil (body_more rfl (si_val (se_idx (se_list (sl_cons (se_str (by decide +kernel)) (sl_cons (se_str (by decide +kernel)) (sl_cons (se_str (by decide +kernel)) sl_nil (fun _ => rfl)) (fun _ => rfl)) (fun _ => rfl)) (by decide)) (se_name (by decide +kernel)) (fun _ _ => rfl)) (by decide +kernel) (by simp) (fun _ _ _ h => bf1_upd h)) (loop_gen (iter := default) (bf1_mono _) sq_nil (body_last (se_bin gn (se_bin gn (se_name (by decide +kernel)) (se_name (by decide +kernel))) (se_name (by decide +kernel)))) (fun _ _ _ _ _ _ _ h => turn_last rfl rfl h))) (fun _ _ _ _ _ _ _ h => turn_more rfl rfl (fun _ => rfl) h))) (fun _ _ _ _ _ _ _ h => turn_more rfl rfl (fun _ => rfl) h)) (by decide +kernel)) (by decide +kernel) (swaps_true (by decide +kernel) (by decide +kernel) (by decide +kernel)))
  (sb_cons (ss_asgT (sl_cons (se_hi (se_callF gn (by decide +kernel) (by kernel_rfl) (by decide +kernel) (fn_at gn (by kernel_rfl)) (signs_ok gn) (by decide) (sl_cons (se_name (by decide +kernel)) sl_nil (fun _ => rfl)) (fun _ => rfl)) (se_bin gn se_int (se_bin gn se_int (se_name (by decide +kernel))))) (sl_cons (se_comp (CompOk.mk (N := ["mode"]) (by kernel_rfl) ⟨rfl, (by decide +kernel), (by decide +kernel)⟩ (fun _ _ => rfl) (si_val (se_name (by decide +kernel)) (by decide +kernel) (by simp) (fun _ _ _ h => bf1_upd h)) (loop_gen (iter := default) (bf1_mono _) sq_nil (body_last (se_callF gn (by decide +kernel) (by kernel_rfl) (by decide +kernel) (fn_at gn (by kernel_rfl)) (filemode_ok gn) (by decide) (sl_cons (se_name (by decide +kernel)) sl_nil (fun _ => rfl)) (fun _ => rfl))) (fun _ _ _ _ _ _ _ h => turn_last rfl rfl h)) (by decide +kernel))) sl_nil (fun _ => rfl)) (fun _ => rfl)) (by decide) (by decide +kernel) (fun A env => (.cons (fun _ _ _ _ h => wpAny_assign_Name h) (.cons (fun _ _ _ _ h => wpAny_assign_Name h) .nil))) (fun _ => rfl) (fun _ => rfl) (fun env h => swapped_of env h (by kernel_rfl)))
  (sb_cons (ss_if (st_cmp (se_name (by decide +kernel)) (se_comp (CompOk.mk (N := ["signs"]) (by kernel_rfl) ⟨rfl, (by decide +kernel), (by decide +kernel)⟩ (fun _ _ => rfl) (si_val (se_name (by decide +kernel)) (by decide +kernel) (by simp) (fun _ _ _ h => bf1_upd h)) (loop_gen (iter := default) (bf1_mono _) sq_nil (body_last (se_bin gn (se_bin gn (se_name (by decide +kernel)) (se_name (by decide +kernel))) (se_lo (se_callF gn (by decide +kernel) (by kernel_rfl) (by decide +kernel) (fn_at gn (by kernel_rfl)) (signs_ok gn) (by decide) (sl_cons (se_name (by decide +kernel)) sl_nil (fun _ => rfl)) (fun _ => rfl)) (se_bin gn se_int (se_bin gn se_int (se_name (by decide +kernel))))))) (fun _ _ _ _ _ _ _ h => turn_last rfl rfl h)) (by decide +kernel))) rfl) (sb_cons (ss_ret se_bool)
  sb_nil) sb_nil)
  (sb_cons (ss_asg (se_bin gn (se_list (sl_cons (se_str (by decide +kernel)) (sl_cons (se_str (by decide +kernel)) (sl_cons (se_str (by decide +kernel)) (sl_cons (se_str (by decide +kernel)) (sl_cons (se_str (by decide +kernel)) (sl_cons (se_str (by decide +kernel)) (sl_cons (se_str (by decide +kernel)) sl_nil (fun _ => rfl)) (fun _ => rfl)) (fun _ => rfl)) (fun _ => rfl)) (fun _ => rfl)) (fun _ => rfl)) (fun _ => rfl)) (by decide)) (se_name (by decide +kernel))) (by decide +kernel) (fun _ _ => rfl))
  (sb_cons (ss_asg (se_comp (CompOk.mk (N := ["x"]) (by kernel_rfl) ⟨rfl, (by decide +kernel), (by decide +kernel)⟩ (fun _ _ => rfl) (si_val (se_bin gn (se_hi (se_name (by decide +kernel)) se_int) (se_list (sl_cons se_int (sl_cons se_int (sl_cons se_int (sl_cons se_int (sl_cons se_int (sl_cons se_int (sl_cons se_int sl_nil (fun _ => rfl)) (fun _ => rfl)) (fun _ => rfl)) (fun _ => rfl)) (fun _ => rfl)) (fun _ => rfl)) (fun _ => rfl)) (by decide))) (by decide +kernel) (by simp) (fun _ _ _ h => bf1_upd h)) (loop_gen (iter := default) (bf1_mono _) sq_nil (body_last (se_list (sl_cons (se_idx (se_name (by decide +kernel)) (se_bin gn (se_name (by decide +kernel)) se_int) (fun _ _ => rfl)) (sl_cons (se_cmp (se_bin gn (se_bin gn (se_name (by decide +kernel)) se_int) se_int) se_int rfl) (sl_cons (se_comp (CompOk.mk (N := ["k", "agent"]) (by kernel_rfl) ⟨rfl, (by decide +kernel), (by decide +kernel)⟩ (fun _ _ => rfl) (si_enum gn (by decide +kernel) (se_str (by decide +kernel)) (fun _ => rfl) (by decide +kernel) (by decide +kernel) (by simp) (by simp) (bf2_pair _ _)) (loop_gen (iter := default) (bf2_mono _ _) (sq_one (st_cmp (se_bin gn (se_bin gn (se_bin gn (se_name (by decide +kernel)) se_int) (se_bin gn se_int (se_name (by decide +kernel)))) se_int) se_int rfl)) (body_last (se_name (by decide +kernel))) (fun _ _ _ _ _ _ _ h => turn_last rfl rfl h)) (by decide +kernel))) (sl_cons (se_idx (se_list (sl_cons se_none (sl_cons se_int (sl_cons se_int (sl_cons se_int sl_nil (fun _ => rfl)) (fun _ => rfl)) (fun _ => rfl)) (fun _ => rfl)) (by decide)) (se_bin gn (se_bin gn (se_name (by decide +kernel)) se_int) se_int) (fun _ _ => rfl)) sl_nil (fun _ => rfl)) (fun _ => rfl)) (fun _ => rfl)) (fun _ => rfl)) (by decide))) (fun _ _ _ _ _ _ _ h => turn_last rfl rfl h)) (by decide +kernel))) (by decide +kernel) (swaps_false (by decide +kernel)))
  (sb_cons (ss_asg (se_comp (CompOk.mk (N := ["row"]) (by kernel_rfl) ⟨rfl, (by decide +kernel), (by decide +kernel)⟩ (fun _ _ => rfl) (si_val (se_name (by decide +kernel)) (by decide +kernel) (by simp) (fun _ _ _ h => bf1_upd h)) (loop_gen (iter := default) (bf1_mono _) sq_nil (body_last (se_callF gn (by decide +kernel) (by kernel_rfl) (by decide +kernel) (fn_at gn (by kernel_rfl)) (entry_ok gn) (by decide) (sl_cons (se_rev (se_idx (se_name (by decide +kernel)) se_int (fun _ _ => rfl))) (sl_cons (se_list (sl_cons (se_callF gn (by decide +kernel) (by kernel_rfl) (by decide +kernel) (fn_at gn (by kernel_rfl)) (rule_ok gn) (by decide) (sl_cons (se_bin gn (se_name (by decide +kernel)) (se_idx (se_name (by decide +kernel)) se_int (fun _ _ => rfl))) (sl_cons (se_idx (se_name (by decide +kernel)) se_int (fun _ _ => rfl)) sl_nil (fun _ => rfl)) (fun _ => rfl)) (fun _ => rfl)) sl_nil (fun _ => rfl)) (by decide)) (sl_cons (se_idx (se_name (by decide +kernel)) se_int (fun _ _ => rfl)) sl_nil (fun _ => rfl)) (fun _ => rfl)) (fun _ => rfl)) (fun _ => rfl))) (fun _ _ _ _ _ _ _ h => turn_last rfl rfl h)) (by decide +kernel))) (by decide +kernel) (swaps_false (by decide +kernel)))
  (sb_cons (ss_if (st_cmp (se_comp (CompOk.mk (N := ["k"]) (by kernel_rfl) ⟨rfl, (by decide +kernel), (by decide +kernel)⟩ (fun _ _ => rfl) (si_range gn (by decide +kernel) (se_bin gn (se_len gn (by decide +kernel) (se_name (by decide +kernel)) (fun _ => rfl)) se_int) (fun _ => rfl) (by decide +kernel) (by simp) (fun _ _ _ h => bf1_upd h)) (loop_gen (iter := default) (bf1_mono _) (sq_one (st_cmp (se_callF gn (by decide +kernel) (by kernel_rfl) (by decide +kernel) (fn_at gn (by kernel_rfl)) (parts_ok gn) (by decide) (sl_cons (se_callF gn (by decide +kernel) (by kernel_rfl) (by decide +kernel) (fn_at gn (by kernel_rfl)) (merge_ok gn) (by decide) (sl_cons (se_callF gn (by decide +kernel) (by kernel_rfl) (by decide +kernel) (fn_at gn (by kernel_rfl)) (merged_ok gn) (by decide) (sl_cons (se_hi (se_name (by decide +kernel)) (se_name (by decide +kernel))) sl_nil (fun _ => rfl)) (fun _ => rfl)) (sl_cons (se_callF gn (by decide +kernel) (by kernel_rfl) (by decide +kernel) (fn_at gn (by kernel_rfl)) (merged_ok gn) (by decide) (sl_cons (se_lo (se_name (by decide +kernel)) (se_name (by decide +kernel))) sl_nil (fun _ => rfl)) (fun _ => rfl)) sl_nil (fun _ => rfl)) (fun _ => rfl)) (fun _ => rfl)) sl_nil (fun _ => rfl)) (fun _ => rfl)) (se_callF gn (by decide +kernel) (by kernel_rfl) (by decide +kernel) (fn_at gn (by kernel_rfl)) (due_ok gn) (by decide) (sl_cons (se_name (by decide +kernel)) (sl_cons (se_name (by decide +kernel)) sl_nil (fun _ => rfl)) (fun _ => rfl)) (fun _ => rfl)) rfl)) (body_last (se_name (by decide +kernel))) (fun _ _ _ _ _ _ _ h => turn_last rfl rfl h)) (by decide +kernel))) (se_list sl_nil (by decide)) rfl) (sb_cons (ss_ret se_bool)
  sb_nil) sb_nil)
  (sb_cons (ss_if (st_cmp (se_callF gn (by decide +kernel) (by kernel_rfl) (by decide +kernel) (fn_at gn (by kernel_rfl)) (said_ok gn) (by decide) (sl_cons (se_name (by decide +kernel)) (sl_cons (se_name (by decide +kernel)) sl_nil (fun _ => rfl)) (fun _ => rfl)) (fun _ => rfl)) (se_comp (CompOk.mk (N := ["signs"]) (by kernel_rfl) ⟨rfl, (by decide +kernel), (by decide +kernel)⟩ (fun _ _ => rfl) (si_val (se_name (by decide +kernel)) (by decide +kernel) (by simp) (fun _ _ _ h => bf1_upd h)) (loop_gen (iter := default) (bf1_mono _) sq_nil (body_last (se_callF gn (by decide +kernel) (by kernel_rfl) (by decide +kernel) (fn_at gn (by kernel_rfl)) (verdict_ok gn) (by decide) (sl_cons (se_name (by decide +kernel)) (sl_cons (se_name (by decide +kernel)) sl_nil (fun _ => rfl)) (fun _ => rfl)) (fun _ => rfl))) (fun _ _ _ _ _ _ _ h => turn_last rfl rfl h)) (by decide +kernel))) rfl) (sb_cons (ss_ret se_bool)
  sb_nil) sb_nil)
  (sb_cons (ss_ret (se_cmp (se_callF gn (by decide +kernel) (by kernel_rfl) (by decide +kernel) (fn_at gn (by kernel_rfl)) (parts_ok gn) (by decide) (sl_cons (se_callF gn (by decide +kernel) (by kernel_rfl) (by decide +kernel) (fn_at gn (by kernel_rfl)) (merged_ok gn) (by decide) (sl_cons (se_callF gn (by decide +kernel) (by kernel_rfl) (by decide +kernel) (fn_at gn (by kernel_rfl)) (thinned_ok gn) (by decide) (sl_cons (se_name (by decide +kernel)) (sl_cons (se_name (by decide +kernel)) sl_nil (fun _ => rfl)) (fun _ => rfl)) (fun _ => rfl)) sl_nil (fun _ => rfl)) (fun _ => rfl)) sl_nil (fun _ => rfl)) (fun _ => rfl)) (se_callF gn (by decide +kernel) (by kernel_rfl) (by decide +kernel) (fn_at gn (by kernel_rfl)) (due_ok gn) (by decide) (sl_cons (se_callF gn (by decide +kernel) (by kernel_rfl) (by decide +kernel) (fn_at gn (by kernel_rfl)) (needed_ok gn) (by decide) (sl_cons (se_name (by decide +kernel)) sl_nil (fun _ => rfl)) (fun _ => rfl)) (sl_cons (se_name (by decide +kernel)) sl_nil (fun _ => rfl)) (fun _ => rfl)) (fun _ => rfl)) rfl))
  sb_nil)))))))))))))
end
end Mine
end

section
set_option linter.unusedVariables false
namespace Mine.M
noncomputable abbrev S := List Nat
noncomputable abbrev R := S × Bool
noncomputable def pre (f s : S) : Bool := decide (s.take f.length = f)
theorem pre_iff {f s : S} : pre f s = true ↔ f <+: s := by
  unfold pre
  rw [decide_eq_true_eq]
  constructor
  · intro h; rw [← h]; exact List.take_prefix _ _
  · intro h; exact (List.prefix_iff_eq_take.mp h).symm

/-- the longest front that stands, or none -/
noncomputable def longest (rs : List R) (s : S) : Option Nat := (rs.filter fun r => pre r.1 s).foldl (fun m r => match m with | none => some r.1.length | some k => some (max k r.1.length)) none
noncomputable def verdict (rs : List R) (s : S) : Bool := match longest rs s with
  | none => true
  | some k => rs.any fun r => decide (r.1 = s.take k) && r.2

theorem fold_some (l : List R) : ∀ k : Nat, ∃ m, l.foldl (fun m r => match m with | none => some r.1.length | some k => some (max k r.1.length)) (some k) = some m ∧ k ≤ m ∧ (∀ r ∈ l, r.1.length ≤ m) ∧ (m = k ∨ ∃ r ∈ l, r.1.length = m) := by
  induction l with
  | nil => intro k; exact ⟨k, rfl, Nat.le_refl _, (fun r h => nomatch h), .inl rfl⟩
  | cons r l ih =>
    intro k
    obtain ⟨m, h1, h2, h3, h4⟩ := ih (max k r.1.length)
    refine ⟨m, h1, by omega, fun q hq => ?_, ?_⟩
    · rcases List.mem_cons.mp hq with rfl | hq
      · omega
      · exact h3 q hq
    · rcases h4 with h4 | ⟨q, h5, h6⟩
      · by_cases hk : r.1.length ≤ k
        · left; omega
        · right; exact ⟨r, List.mem_cons_self, by omega⟩
      · right; exact ⟨q, List.mem_cons_of_mem _ h5, h6⟩
theorem longest_none {rs : List R} {s : S} (h : longest rs s = none) : ∀ r ∈ rs, pre r.1 s = false := by
  unfold longest at h
  cases hl : rs.filter fun r => pre r.1 s with
  | nil =>
    intro r hr
    cases hp : pre r.1 s with
    | false => rfl
    | true =>
      have : r ∈ rs.filter fun r => pre r.1 s := List.mem_filter.mpr ⟨hr, hp⟩
      rw [hl] at this; cases this
  | cons q l =>
    rw [hl] at h
    obtain ⟨m, h1, _⟩ := fold_some l q.1.length
    have h' : l.foldl (fun m r => match m with | none => some r.1.length | some k => some (max k r.1.length)) (some q.1.length) = none := h
    rw [h1] at h'; cases h'
theorem longest_some {rs : List R} {s : S} {m : Nat} (h : longest rs s = some m) : (∀ r ∈ rs, pre r.1 s = true → r.1.length ≤ m) ∧ ∃ r ∈ rs, pre r.1 s = true ∧ r.1.length = m := by
  unfold longest at h
  cases hl : rs.filter fun r => pre r.1 s with
  | nil => rw [hl] at h; cases h
  | cons q l =>
    rw [hl] at h
    obtain ⟨m', h1, h2, h3, h4⟩ := fold_some l q.1.length
    have h' : l.foldl (fun m r => match m with | none => some r.1.length | some k => some (max k r.1.length)) (some q.1.length) = some m := h
    rw [h1] at h'; cases h'
    have mem : ∀ r, r ∈ rs ∧ pre r.1 s = true ↔ r ∈ q :: l := fun r => by rw [← hl, List.mem_filter]
    refine ⟨fun r hr hp => ?_, ?_⟩
    · rcases List.mem_cons.mp ((mem r).mp ⟨hr, hp⟩) with rfl | h
      · exact h2
      · exact h3 r h
    · rcases h4 with h4 | ⟨r, h5, h6⟩
      · obtain ⟨h7, h8⟩ := (mem q).mpr List.mem_cons_self
        exact ⟨q, h7, h8, h4.symm⟩
      · obtain ⟨h7, h8⟩ := (mem r).mpr (List.mem_cons_of_mem _ h5)
        exact ⟨r, h7, h8, h6⟩

/-- the verdict by what is in the list -/
noncomputable def Top (rs : List R) (s : S) (r : R) : Prop := r ∈ rs ∧ pre r.1 s = true ∧ ∀ q ∈ rs, pre q.1 s = true → q.1.length ≤ r.1.length
theorem verdict_iff (rs : List R) (s : S) : verdict rs s = true ↔ (∀ r ∈ rs, pre r.1 s = false) ∨ ∃ r, Top rs s r ∧ r.2 = true := by
  unfold verdict
  cases h : longest rs s with
  | none => exact ⟨fun _ => .inl (longest_none h), fun _ => rfl⟩
  | some m =>
    obtain ⟨h1, r0, h2, h3, h4⟩ := longest_some h
    simp only [List.any_eq_true, Bool.and_eq_true, decide_eq_true_eq]
    have h0 : s.take m = r0.1 := by rw [← h4]; exact of_decide_eq_true h3
    constructor
    · rintro ⟨r, hr, he, hb⟩
      refine .inr ⟨r, ⟨hr, ?_, fun q hq hp => ?_⟩, hb⟩
      · rw [he, h0]; exact h3
      · rw [he, h0, h4]; exact h1 q hq hp
    · rintro (hn | ⟨r, ⟨hr, hp, hm⟩, hb⟩)
      · rw [hn r0 h2] at h3; cases h3
      · refine ⟨r, hr, ?_, hb⟩
        have hl : r.1.length = m := Nat.le_antisymm (h1 r hr hp) (by rw [← h4]; exact hm r0 h2 h3)
        have := of_decide_eq_true hp
        rw [hl] at this; exact this.symm
theorem verdict_congr {rs rs' : List R} (h : ∀ r, r ∈ rs ↔ r ∈ rs') (s : S) : verdict rs s = verdict rs' s := by
  rw [Bool.eq_iff_iff, verdict_iff, verdict_iff]
  constructor
  · rintro (hn | ⟨r, ⟨h1, h2, h3⟩, hb⟩)
    · exact .inl fun r hr => hn r ((h r).mpr hr)
    · exact .inr ⟨r, ⟨(h r).mp h1, h2, fun q hq => h3 q ((h q).mpr hq)⟩, hb⟩
  · rintro (hn | ⟨r, ⟨h1, h2, h3⟩, hb⟩)
    · exact .inl fun r hr => hn r ((h r).mp hr)
    · exact .inr ⟨r, ⟨(h r).mpr h1, h2, fun q hq => h3 q ((h q).mp hq)⟩, hb⟩

noncomputable def alike (os : List R) (f : S) : List Bool := (os.filter fun o => decide (o.1 = f)).map (·.2)
noncomputable def without (os : List R) (f : S) : Bool := if alike os f ≠ [] then (alike os f).any id else verdict (os.filter fun o => decide (o.1.length < f.length)) f
noncomputable def longer (os : List R) (f : S) : List S := (os.filter fun o => decide (f.length < o.1.length) && pre f o.1).map (·.1)
noncomputable def minim (l : List S) (one : S) : Bool := (l.filter fun two => decide (two.length < one.length) && pre two one).isEmpty
noncomputable def shortest (l : List S) : List S := (((List.range l.length).zip l).filter fun p => !(l.take p.1).contains p.2 && minim l p.2).map (·.2)
noncomputable def idle (share : Nat → Nat) (os : List R) (r : R) : Bool :=
  (without os r.1 == (r.2 || (alike os r.1).any id)) || decide (((shortest (longer os r.1)).map fun one => share one.length).sum = share r.1.length)

theorem any_alike {os : List R} {f : S} : (alike os f).any id = true ↔ ∃ o ∈ os, o.1 = f ∧ o.2 = true := by
  unfold alike
  simp only [List.any_map, List.any_eq_true, List.mem_filter, decide_eq_true_eq, Function.comp, id]
  exact ⟨fun ⟨o, ⟨h1, h2⟩, h3⟩ => ⟨o, h1, h2, h3⟩, fun ⟨o, h1, h2, h3⟩ => ⟨o, ⟨h1, h2⟩, h3⟩⟩
theorem alike_nil {os : List R} {f : S} : alike os f = [] ↔ ∀ o ∈ os, o.1 ≠ f := by
  unfold alike
  rw [List.map_eq_nil_iff, List.filter_eq_nil_iff]
  simp

/-- is there a longer front below f that stands at s? -/
noncomputable def Covered (os : List R) (f s : S) : Prop := ∃ o ∈ os, f.length < o.1.length ∧ pre o.1 s = true
theorem pre_trans_len {f q s : S} (hf : pre f s = true) (hq : pre q s = true) (h : f.length ≤ q.length) : pre f q = true := by
  rw [pre_iff] at *
  exact List.prefix_of_prefix_length_le hf hq h

theorem verdict_cons_not {os : List R} {r : R} {s : S} (h : pre r.1 s = false) : verdict (r :: os) s = verdict os s := by
  rw [Bool.eq_iff_iff, verdict_iff, verdict_iff]
  constructor
  · rintro (hn | ⟨q, ⟨h1, h2, h3⟩, hb⟩)
    · exact .inl fun q hq => hn q (List.mem_cons_of_mem _ hq)
    · rcases List.mem_cons.mp h1 with rfl | h1
      · rw [h] at h2; cases h2
      · exact .inr ⟨q, ⟨h1, h2, fun p hp => h3 p (List.mem_cons_of_mem _ hp)⟩, hb⟩
  · rintro (hn | ⟨q, ⟨h1, h2, h3⟩, hb⟩)
    · refine .inl fun q hq => ?_
      rcases List.mem_cons.mp hq with rfl | hq
      · exact h
      · exact hn q hq
    · refine .inr ⟨q, ⟨List.mem_cons_of_mem _ h1, h2, fun p hp hpp => ?_⟩, hb⟩
      rcases List.mem_cons.mp hp with rfl | hp
      · rw [h] at hpp; cases hpp
      · exact h3 p hp hpp
theorem verdict_cons_cov {os : List R} {r : R} {s : S} (h : Covered os r.1 s) : verdict (r :: os) s = verdict os s := by
  obtain ⟨o, ho, hl, hp⟩ := h
  rw [Bool.eq_iff_iff, verdict_iff, verdict_iff]
  constructor
  · rintro (hn | ⟨q, ⟨h1, h2, h3⟩, hb⟩)
    · rw [hn o (List.mem_cons_of_mem _ ho)] at hp; cases hp
    · rcases List.mem_cons.mp h1 with rfl | h1
      · have := h3 o (List.mem_cons_of_mem _ ho) hp; omega
      · exact .inr ⟨q, ⟨h1, h2, fun p hp => h3 p (List.mem_cons_of_mem _ hp)⟩, hb⟩
  · rintro (hn | ⟨q, ⟨h1, h2, h3⟩, hb⟩)
    · rw [hn o ho] at hp; cases hp
    · refine .inr ⟨q, ⟨List.mem_cons_of_mem _ h1, h2, fun p hpm hpp => ?_⟩, hb⟩
      rcases List.mem_cons.mp hpm with rfl | hpm
      · have := h3 o ho hp; omega
      · exact h3 p hpm hpp
theorem verdict_cons_unc {os : List R} {r : R} {s : S} (hr : pre r.1 s = true) (h : ¬ Covered os r.1 s) : verdict (r :: os) s = (r.2 || (alike os r.1).any id) := by
  have hle : ∀ o ∈ os, pre o.1 s = true → o.1.length ≤ r.1.length := fun o ho hp => by
    rcases Nat.lt_or_ge r.1.length o.1.length with hl | hl
    · exact absurd ⟨o, ho, hl, hp⟩ h
    · exact hl
  rw [Bool.eq_iff_iff, verdict_iff, Bool.or_eq_true, any_alike]
  constructor
  · rintro (hn | ⟨q, ⟨h1, h2, h3⟩, hb⟩)
    · rw [hn r List.mem_cons_self] at hr; cases hr
    · rcases List.mem_cons.mp h1 with rfl | h1
      · exact .inl hb
      · refine .inr ⟨q, h1, ?_, hb⟩
        have e1 := h3 r List.mem_cons_self hr
        have e2 := hle q h1 h2
        have := of_decide_eq_true (pre_trans_len h2 hr e2)
        rw [List.take_of_length_le (by omega)] at this
        exact this.symm
  · rintro (hb | ⟨o, ho, he, hb⟩)
    · refine .inr ⟨r, ⟨List.mem_cons_self, hr, fun q hq hp => ?_⟩, hb⟩
      rcases List.mem_cons.mp hq with rfl | hq
      · exact Nat.le_refl _
      · exact hle q hq hp
    · refine .inr ⟨o, ⟨List.mem_cons_of_mem _ ho, by rw [he]; exact hr, fun q hq hp => ?_⟩, hb⟩
      rw [he]
      rcases List.mem_cons.mp hq with rfl | hq
      · exact Nat.le_refl _
      · exact hle q hq hp
theorem verdict_unc {os : List R} {f s : S} (hr : pre f s = true) (h : ¬ Covered os f s) : verdict os s = without os f := by
  have hle : ∀ o ∈ os, pre o.1 s = true → o.1.length ≤ f.length := fun o ho hp => by
    rcases Nat.lt_or_ge f.length o.1.length with hl | hl
    · exact absurd ⟨o, ho, hl, hp⟩ h
    · exact hl
  unfold without
  by_cases ha : alike os f = []
  · rw [if_neg (by simpa using ha)]
    have hne := alike_nil.mp ha
    have key : ∀ o ∈ os, (pre o.1 s = true ↔ (o.1.length < f.length ∧ pre o.1 f = true)) := fun o ho => by
      constructor
      · intro hp
        have e := hle o ho hp
        have hq := pre_trans_len hp hr e
        refine ⟨?_, hq⟩
        rcases Nat.lt_or_ge o.1.length f.length with hl | hl
        · exact hl
        · have := of_decide_eq_true hq
          rw [List.take_of_length_le hl] at this
          exact absurd this.symm (hne o ho)
      · rintro ⟨_, hp⟩
        rw [pre_iff] at *
        exact hp.trans hr
    rw [Bool.eq_iff_iff, verdict_iff, verdict_iff]
    simp only [List.mem_filter, decide_eq_true_eq]
    constructor
    · rintro (hn | ⟨q, ⟨h1, h2, h3⟩, hb⟩)
      · refine .inl fun r hr => ?_
        cases hp : pre r.1 f with
        | false => rfl
        | true =>
          have := hn r hr.1
          rw [(key r hr.1).mpr ⟨hr.2, hp⟩] at this; cases this
      · obtain ⟨k1, k2⟩ := (key q h1).mp h2
        refine .inr ⟨q, ⟨?_, k2, fun p hp hpp => ?_⟩, hb⟩
        · rw [List.mem_filter]; exact ⟨h1, by simpa using k1⟩
        · rw [List.mem_filter] at hp
          exact h3 p hp.1 ((key p hp.1).mpr ⟨by simpa using hp.2, hpp⟩)
    · rintro (hn | ⟨q, ⟨h1, h2, h3⟩, hb⟩)
      · refine .inl fun r hr => ?_
        cases hp : pre r.1 s with
        | false => rfl
        | true =>
          obtain ⟨k1, k2⟩ := (key r hr).mp hp
          have := hn r ⟨hr, k1⟩
          rw [k2] at this; cases this
      · rw [List.mem_filter] at h1
        have h1' : q.1.length < f.length := by simpa using h1.2
        refine .inr ⟨q, ⟨h1.1, (key q h1.1).mpr ⟨h1', h2⟩, fun p hp hpp => ?_⟩, hb⟩
        obtain ⟨k1, k2⟩ := (key p hp).mp hpp
        exact h3 p (List.mem_filter.mpr ⟨hp, by simpa using k1⟩) k2
  · rw [if_pos (by simpa using ha)]
    have hne : ∃ o ∈ os, o.1 = f := by
      apply Classical.byContradiction
      intro hh
      exact ha (alike_nil.mpr fun o ho e => hh ⟨o, ho, e⟩)
    obtain ⟨o0, ho0, he0⟩ := hne
    rw [Bool.eq_iff_iff, verdict_iff, any_alike]
    constructor
    · rintro (hn | ⟨q, ⟨h1, h2, h3⟩, hb⟩)
      · have := hn o0 ho0; rw [he0, hr] at this; cases this
      · refine ⟨q, h1, ?_, hb⟩
        have e1 := h3 o0 ho0 (by rw [he0]; exact hr)
        rw [he0] at e1
        have := of_decide_eq_true (pre_trans_len h2 hr (hle q h1 h2))
        rw [List.take_of_length_le e1] at this
        exact this.symm
    · rintro ⟨o, ho, he, hb⟩
      exact .inr ⟨o, ⟨ho, by rw [he]; exact hr, fun q hq hp => by rw [he]; exact hle q hq hp⟩, hb⟩
end Mine.M
end

section
set_option linter.unusedVariables false
namespace Mine.M
/-! the distinct least ones of a list -/
theorem shortest_aux (l : List S) (P : S → Bool) : ∀ (r : List S) (b : Nat), l.drop b = r → b ≤ l.length →
    ((((List.range' b r.length).zip r).filter fun p => !(l.take p.1).contains p.2 && P p.2).map (·.2)).Nodup ∧
    ∀ x, x ∈ (((List.range' b r.length).zip r).filter fun p => !(l.take p.1).contains p.2 && P p.2).map (·.2) ↔ (x ∈ r ∧ x ∉ l.take b ∧ P x = true) := by
  intro r
  induction r with
  | nil => intro b h hb; simp
  | cons y r ih =>
    intro b h hb
    have hlt : b < l.length := by
      rcases Nat.lt_or_ge b l.length with q | q
      · exact q
      · rw [List.drop_eq_nil_iff.mpr q] at h; cases h
    have hd : l.drop b = l[b] :: l.drop (b + 1) := List.drop_eq_getElem_cons hlt
    rw [hd] at h
    injection h with h1 h2
    obtain ⟨i1, i2⟩ := ih (b + 1) h2 hlt
    have ht : l.take (b + 1) = l.take b ++ [y] := by rw [List.take_succ_eq_append_getElem hlt, h1]
    rw [List.length_cons, List.range'_succ, List.zip_cons_cons, List.filter_cons]
    by_cases hc : (!(l.take b).contains y && P y) = true
    · rw [if_pos hc]
      simp only [Bool.and_eq_true, Bool.not_eq_true', List.contains_eq_mem, decide_eq_false_iff_not] at hc
      refine ⟨?_, fun x => ?_⟩
      · rw [List.map_cons, List.nodup_cons]
        refine ⟨fun hm => ?_, i1⟩
        have := ((i2 y).mp hm).2.1
        rw [ht] at this; simp at this
      · rw [List.map_cons, List.mem_cons, i2 x, ht]
        simp only [List.mem_append, List.mem_cons, List.not_mem_nil, or_false, not_or]
        constructor
        · rintro (rfl | ⟨q1, ⟨q2, q3⟩, q4⟩)
          · exact ⟨.inl rfl, hc.1, hc.2⟩
          · exact ⟨.inr q1, q2, q4⟩
        · rintro ⟨q1 | q1, q2, q3⟩
          · exact .inl q1
          · by_cases e : x = y
            · exact .inl e
            · exact .inr ⟨q1, ⟨q2, e⟩, q3⟩
    · rw [if_neg hc]
      refine ⟨i1, fun x => ?_⟩
      rw [i2 x, ht]
      simp only [List.mem_append, List.mem_cons, List.not_mem_nil, or_false, not_or]
      constructor
      · rintro ⟨q1, ⟨q2, q3⟩, q4⟩
        exact ⟨.inr q1, q2, q4⟩
      · rintro ⟨q1 | q1, q2, q3⟩
        · subst q1
          exfalso
          apply hc
          simp only [Bool.and_eq_true, Bool.not_eq_true', List.contains_eq_mem, decide_eq_false_iff_not]
          exact ⟨q2, q3⟩
        · refine ⟨q1, ⟨q2, fun e => ?_⟩, q3⟩
          subst e
          apply hc
          simp only [Bool.and_eq_true, Bool.not_eq_true', List.contains_eq_mem, decide_eq_false_iff_not]
          exact ⟨q2, q3⟩
theorem shortest_nodup (l : List S) : (shortest l).Nodup := by
  have := (shortest_aux l (minim l) l 0 rfl (Nat.zero_le _)).1
  unfold shortest
  rw [List.range_eq_range']
  exact this
theorem mem_shortest {l : List S} {x : S} : x ∈ shortest l ↔ x ∈ l ∧ minim l x = true := by
  have := (shortest_aux l (minim l) l 0 rfl (Nat.zero_le _)).2 x
  unfold shortest
  rw [List.range_eq_range', this]
  simp
theorem minim_iff {l : List S} {x : S} : minim l x = true ↔ ∀ y ∈ l, y.length < x.length → pre y x = false := by
  unfold minim
  rw [List.isEmpty_iff, List.filter_eq_nil_iff]
  constructor
  · intro h y hy hl
    have := h y hy
    simp only [Bool.and_eq_true, decide_eq_true_eq, not_and, Bool.not_eq_true] at this
    exact this hl
  · intro h y hy
    simp only [Bool.and_eq_true, decide_eq_true_eq, not_and, Bool.not_eq_true]
    exact h y hy

/-! counting in two ways -/
theorem sum_counts {α β : Type} (P : α → β → Bool) : ∀ (A : List α) (B : List β), (A.map fun a => B.countP fun b => P a b).sum = (B.map fun b => A.countP fun a => P a b).sum
  | [], B => by
    have : ∀ B : List β, (B.map fun b => ([] : List α).countP fun a => P a b).sum = 0 := fun B => by
      induction B with
      | nil => rfl
      | cons b B ih => rw [List.map_cons, List.sum_cons, ih]; simp
    rw [this]; rfl
  | a :: A, B => by
    rw [List.map_cons, List.sum_cons, sum_counts P A B]
    induction B with
    | nil => rfl
    | cons b B ih =>
      simp only [List.map_cons, List.sum_cons, List.countP_cons] at ih ⊢
      omega
theorem countP_le_one {l : List S} (hn : l.Nodup) (P : S → Bool) (h : ∀ x ∈ l, ∀ y ∈ l, P x = true → P y = true → x = y) : l.countP P = if l.any P then 1 else 0 := by
  induction l with
  | nil => rfl
  | cons a l ih =>
    rw [List.nodup_cons] at hn
    have ih' := ih hn.2 fun x hx y hy => h x (List.mem_cons_of_mem _ hx) y (List.mem_cons_of_mem _ hy)
    rw [List.countP_cons, List.any_cons]
    cases hp : P a with
    | true =>
      have h0 : l.any P = false := by
        rw [List.any_eq_false]
        intro x hx hpx
        have := h a List.mem_cons_self x (List.mem_cons_of_mem _ hx) hp hpx
        exact hn.1 (this ▸ hx)
      rw [ih', h0]; rfl
    | false => rw [ih']; simp
theorem sum_le_count {α : Type} (C : List α) (P Q : α → Bool) (h : ∀ c ∈ C, P c = true → Q c = true) : (C.map fun c => if P c then 1 else 0).sum = C.countP Q ↔ ∀ c ∈ C, Q c = true → P c = true := by
  have e : ∀ C : List α, (C.map fun c => if P c then 1 else 0).sum = C.countP P := fun C => by
    induction C with
    | nil => rfl
    | cons c C ih => rw [List.map_cons, List.sum_cons, ih, List.countP_cons]; split <;> omega
  rw [e]
  have le : ∀ C : List α, (∀ c ∈ C, P c = true → Q c = true) → C.countP P ≤ C.countP Q := fun C h => List.countP_mono_left h
  induction C with
  | nil => simp
  | cons c C ih =>
    have ih' := ih fun x hx => h x (List.mem_cons_of_mem _ hx)
    have l1 := le C fun x hx => h x (List.mem_cons_of_mem _ hx)
    rw [List.countP_cons, List.countP_cons]
    have hc := h c List.mem_cons_self
    constructor
    · intro he x hx hq
      rcases List.mem_cons.mp hx with rfl | hx
      · cases hp : P x with
        | true => rfl
        | false =>
          simp only [hp, hq, Bool.false_eq_true, if_false, if_true] at he
          omega
      · refine ih'.mp ?_ x hx hq
        by_cases hp : P c = true
        · simp only [hp, hc hp, if_true] at he; omega
        · simp only [hp, Bool.false_eq_true, if_false] at he
          split at he <;> omega
    · intro ha
      have e2 := ih'.mpr fun x hx => ha x (List.mem_cons_of_mem _ hx)
      have hcc := ha c List.mem_cons_self
      cases hp : P c <;> cases hq : Q c <;> simp_all

/-- what the fronts of a place are like -/
structure Tree (C : List S) (Fr : List S) (share : Nat → Nat) : Prop where
  share : ∀ f ∈ Fr, C.countP (fun c => pre f c) = share f.length

theorem covered_iff {os : List R} {f s : S} (hf : pre f s = true) : (shortest (longer os f)).any (fun one => pre one s) = true ↔ Covered os f s := by
  rw [List.any_eq_true]
  constructor
  · rintro ⟨x, hx, hp⟩
    obtain ⟨h1, _⟩ := mem_shortest.mp hx
    unfold longer at h1
    obtain ⟨o, ho, rfl⟩ := List.mem_map.mp h1
    rw [List.mem_filter] at ho
    simp only [Bool.and_eq_true, decide_eq_true_eq] at ho
    exact ⟨o, ho.1, ho.2.1, hp⟩
  · rintro ⟨o, ho, hl, hp⟩
    -- the least one
    have : ∀ n : Nat, ∀ o : R, o.1.length = n → o ∈ os → f.length < o.1.length → pre o.1 s = true → ∃ x, x ∈ shortest (longer os f) ∧ pre x s = true := by
      intro n
      induction n using Nat.strongRecOn with
      | ind n ih =>
        intro o hn ho hl hp
        have hmem : o.1 ∈ longer os f := by
          unfold longer
          refine List.mem_map.mpr ⟨o, List.mem_filter.mpr ⟨ho, ?_⟩, rfl⟩
          simp only [Bool.and_eq_true, decide_eq_true_eq]
          exact ⟨hl, pre_trans_len hf hp (Nat.le_of_lt hl)⟩
        by_cases hm : minim (longer os f) o.1 = true
        · exact ⟨o.1, mem_shortest.mpr ⟨hmem, hm⟩, hp⟩
        · rw [minim_iff] at hm
          simp only [Classical.not_forall] at hm
          obtain ⟨y, hy, hyl, hyp⟩ := hm
          rw [Bool.not_eq_false] at hyp
          unfold longer at hy
          obtain ⟨o', ho', rfl⟩ := List.mem_map.mp hy
          rw [List.mem_filter] at ho'
          simp only [Bool.and_eq_true, decide_eq_true_eq] at ho'
          refine ih o'.1.length (by omega) o' rfl ho'.1 ho'.2.1 ?_
          rw [pre_iff] at *
          exact hyp.trans hp
    exact this _ o rfl ho hl hp

theorem idle_iff {C Fr : List S} {share : Nat → Nat} (T : Tree C Fr share) {os : List R} {r : R} (hr : r.1 ∈ Fr) (hos : ∀ o ∈ os, o.1 ∈ Fr) :
    idle share os r = true ↔ ∀ s ∈ C, verdict (r :: os) s = verdict os s := by
  have hsum : ((shortest (longer os r.1)).map fun one => share one.length).sum = (C.map fun s => if (shortest (longer os r.1)).any (fun one => pre one s) then 1 else 0).sum := by
    have e1 : (shortest (longer os r.1)).map (fun one => share one.length) = (shortest (longer os r.1)).map fun one => C.countP fun c => pre one c := by
      refine List.map_congr_left fun x hx => ?_
      obtain ⟨h1, _⟩ := mem_shortest.mp hx
      unfold longer at h1
      obtain ⟨o, ho, rfl⟩ := List.mem_map.mp h1
      exact (T.share _ (hos o (List.mem_filter.mp ho).1)).symm
    rw [e1, sum_counts]
    congr 1
    refine List.map_congr_left fun s _ => ?_
    refine countP_le_one (shortest_nodup _) _ fun x hx y hy hpx hpy => ?_
    obtain ⟨hx1, hx2⟩ := mem_shortest.mp hx
    obtain ⟨hy1, hy2⟩ := mem_shortest.mp hy
    rw [minim_iff] at hx2 hy2
    rcases Nat.lt_trichotomy x.length y.length with q | q | q
    · have := hy2 x hx1 q
      rw [pre_trans_len hpx hpy (Nat.le_of_lt q)] at this; cases this
    · have e2 := of_decide_eq_true hpx
      have e3 := of_decide_eq_true hpy
      rw [q] at e2
      exact e2.symm.trans e3
    · have := hx2 y hy1 q
      rw [pre_trans_len hpy hpx (Nat.le_of_lt q)] at this; cases this
  have hcov : (((shortest (longer os r.1)).map fun one => share one.length).sum = share r.1.length) ↔ ∀ s ∈ C, pre r.1 s = true → Covered os r.1 s := by
    rw [hsum, ← T.share _ hr, sum_le_count]
    · constructor
      · intro h s hs hp; exact (covered_iff hp).mp (h s hs hp)
      · intro h s hs hp; exact (covered_iff hp).mpr (h s hs hp)
    · intro s _ h
      rw [List.any_eq_true] at h
      obtain ⟨x, hx, hp⟩ := h
      obtain ⟨h1, _⟩ := mem_shortest.mp hx
      unfold longer at h1
      obtain ⟨o, ho, rfl⟩ := List.mem_map.mp h1
      rw [List.mem_filter] at ho
      simp only [Bool.and_eq_true, decide_eq_true_eq] at ho
      have h2 := ho.2.2
      rw [pre_iff] at *
      exact h2.trans hp
  unfold idle
  rw [Bool.or_eq_true, beq_iff_eq, decide_eq_true_eq, hcov]
  constructor
  · rintro (h | h) s hs
    · cases hp : pre r.1 s with
      | false => exact verdict_cons_not hp
      | true =>
        by_cases hc : Covered os r.1 s
        · exact verdict_cons_cov hc
        · rw [verdict_cons_unc hp hc, verdict_unc hp hc, h]
    · cases hp : pre r.1 s with
      | false => exact verdict_cons_not hp
      | true => exact verdict_cons_cov (h s hs hp)
  · intro h
    by_cases hall : ∀ s ∈ C, pre r.1 s = true → Covered os r.1 s
    · exact .inr hall
    · simp only [Classical.not_forall] at hall
      obtain ⟨s, hs, hp, hc⟩ := hall
      left
      rw [← verdict_unc hp hc, ← verdict_cons_unc hp hc, h s hs]
end Mine.M
end

section
set_option linter.unusedVariables false
namespace Mine.M
noncomputable def drops (test : List Nat → Nat → Bool) : List Nat → List Nat → List Nat
  | [], kept => kept
  | k :: ks, kept => drops test ks (if test (kept.filter fun j => decide (j ≠ k)) k then kept.filter fun j => decide (j ≠ k) else kept)
noncomputable def getR (rs : List R) (i : Nat) : R := rs.getD i ([], false)
theorem range_get (rs : List R) : (List.range rs.length).map (getR rs) = rs := by
  apply List.ext_getElem
  · simp
  · intro i h1 h2
    simp [getR, List.getD, h2]
theorem drops_eq {C Fr : List S} {share : Nat → Nat} (T : Tree C Fr share) {rs : List R} (h : ∀ r ∈ rs, r.1 ∈ Fr) :
    ∀ (ks kept : List Nat), ks.Nodup → (∀ k ∈ ks, k ∈ kept) → (∀ j ∈ kept, j < rs.length) → (∀ s ∈ C, verdict (kept.map (getR rs)) s = verdict rs s) →
      drops (fun others k => idle share (others.map (getR rs)) (getR rs k)) ks kept = drops (fun others k => decide (C.map (verdict (others.map (getR rs))) = C.map (verdict rs))) ks kept := by
  intro ks
  induction ks with
  | nil => intro kept _ _ _ _; rfl
  | cons k ks ih =>
    intro kept hnd hin hlt hv
    rw [List.nodup_cons] at hnd
    have hk := hin k List.mem_cons_self
    have hmem : ∀ r, r ∈ kept.map (getR rs) ↔ r ∈ getR rs k :: (kept.filter fun j => decide (j ≠ k)).map (getR rs) := by
      intro r
      simp only [List.mem_map, List.mem_cons, List.mem_filter, decide_eq_true_eq]
      constructor
      · rintro ⟨j, hj, rfl⟩
        by_cases e : j = k
        · subst e; exact .inl rfl
        · exact .inr ⟨j, ⟨hj, e⟩, rfl⟩
      · rintro (rfl | ⟨j, ⟨hj, _⟩, rfl⟩)
        · exact ⟨k, hk, rfl⟩
        · exact ⟨j, hj, rfl⟩
    have hfr : ∀ j ∈ kept, (getR rs j).1 ∈ Fr := fun j hj => by
      have := hlt j hj
      have e : getR rs j = rs[j] := by simp [getR, List.getD, this]
      rw [e]; exact h _ (List.getElem_mem _)
    have htest : idle share ((kept.filter fun j => decide (j ≠ k)).map (getR rs)) (getR rs k) = decide (C.map (verdict ((kept.filter fun j => decide (j ≠ k)).map (getR rs))) = C.map (verdict rs)) := by
      rw [Bool.eq_iff_iff, decide_eq_true_eq, idle_iff T (hfr k hk) (fun o ho => by
        obtain ⟨j, hj, rfl⟩ := List.mem_map.mp ho
        exact hfr j (List.mem_filter.mp hj).1), List.map_inj_left]
      constructor
      · intro hh s hs
        rw [← hh s hs, ← verdict_congr hmem s, hv s hs]
      · intro hh s hs
        rw [← verdict_congr hmem s, hv s hs, hh s hs]
    unfold drops
    rw [htest]
    by_cases ht : decide (C.map (verdict ((kept.filter fun j => decide (j ≠ k)).map (getR rs))) = C.map (verdict rs)) = true
    · simp only [if_pos ht]
      rw [decide_eq_true_eq, List.map_inj_left] at ht
      exact ih _ hnd.2 (fun j hj => List.mem_filter.mpr ⟨hin j (List.mem_cons_of_mem _ hj), by simp only [decide_eq_true_eq]; exact fun e => hnd.1 (e ▸ hj)⟩) (fun j hj => hlt j (List.mem_filter.mp hj).1) ht
    · simp only [if_neg ht]
      exact ih _ hnd.2 (fun j hj => hin j (List.mem_cons_of_mem _ hj)) hlt hv
theorem thin_eq {C Fr : List S} {share : Nat → Nat} (T : Tree C Fr share) {rs : List R} (h : ∀ r ∈ rs, r.1 ∈ Fr) :
    drops (fun others k => idle share (others.map (getR rs)) (getR rs k)) (List.range rs.length) (List.range rs.length) =
    drops (fun others k => decide (C.map (verdict (others.map (getR rs))) = C.map (verdict rs))) (List.range rs.length) (List.range rs.length) :=
  drops_eq T h _ _ List.nodup_range (fun k hk => hk) (fun j hj => List.mem_range.mp hj) fun s _ => by rw [range_get]
theorem drops_sub (test : List Nat → Nat → Bool) : ∀ (ks kept : List Nat) (j : Nat), j ∈ drops test ks kept → j ∈ kept
  | [], kept, j, h => h
  | k :: ks, kept, j, h => by
    have := drops_sub test ks _ j h
    split at this
    · exact (List.mem_filter.mp this).1
    · exact this
end Mine.M
end

section
open PySem PySem.W
set_option Elab.async false
set_option maxRecDepth 100000
set_option linter.unusedVariables false
namespace Mine
/-! names -/
theorem charToNat_inj {a b : Char} (h : a.toNat = b.toNat) : a = b := by
  have : a.val = b.val := UInt32.toNat_inj.mp h
  exact Char.ext this
theorem ofString_inj {a b : String} : (Str.ofString a = Str.ofString b) ↔ a = b := by
  constructor
  · intro h
    rw [Str.ofString_eq_toList, Str.ofString_eq_toList] at h
    injection h with h
    have h2 : a.toList.map Char.toNat = b.toList.map Char.toNat := by simpa using h
    have h3 : a.toList = b.toList := (List.map_inj_right (fun x y => charToNat_inj)).mp h2
    exact String.toList_inj.mp h3
  · intro h; rw [h]
theorem ofString_beq {a b : String} : (Str.ofString a == Str.ofString b) = (a == b) := by
  rw [Bool.eq_iff_iff]
  simp [ofString_inj]

/-! the combinators, one by one -/
section
variable {ρ ρ' : Rho} {k k1 k2 k' : Nat}
theorem seqS_next {f g : Sx} (h : f ρ k = some (.next, ρ', k')) : seqS f g ρ k = g ρ' k' := by unfold seqS; rw [h]
theorem seqS_ret {f g : Sx} {d : D} (h : f ρ k = some (.ret d, ρ', k')) : seqS f g ρ k = some (.ret d, ρ', k') := by unfold seqS; rw [h]
theorem asgS_val {x : Str} {f : Ex} {d : D} (h : f ρ k = some (d, k')) : asgS x f ρ k = some (.next, upd ρ x d, k') := by unfold asgS; rw [h]
theorem retS_val {f : Ex} {d : D} (h : f ρ k = some (d, k')) : retS f ρ k = some (.ret d, ρ, k') := by unfold retS; rw [h]
theorem ifS_true {t : Tx} {f g : Sx} (h : t ρ k = some (true, k')) : ifS t f g ρ k = f ρ k' := by unfold ifS; rw [h]
theorem ifS_false {t : Tx} {f g : Sx} (h : t ρ k = some (false, k')) : ifS t f g ρ k = g ρ k' := by unfold ifS; rw [h]
theorem callE_val {F : Fx} {g : Lx} {ds : List D} (h : g ρ k = some (ds, k1)) : callE F g ρ k = F ds k1 := by unfold callE; rw [h]
theorem consL_val {f : Ex} {g : Lx} {d : D} {ds : List D} (h : f ρ k = some (d, k1)) (h2 : g ρ k1 = some (ds, k2)) : consL f g ρ k = some (d :: ds, k2) := by unfold consL; rw [h]; dsimp only; rw [h2]
theorem listE_val {g : Lx} {ds : List D} (h : g ρ k = some (ds, k1)) : listE g ρ k = some (.list ds, k1) := by unfold listE; rw [h]
theorem binE_val {op : Operator} {f g : Ex} {a b d : D} (h : f ρ k = some (a, k1)) (h2 : g ρ k1 = some (b, k2)) (h3 : binD op a b = some d) : binE op f g ρ k = some (d, k2) := by unfold binE; rw [h]; dsimp only; rw [h2]; dsimp only; rw [h3]
theorem idxE_val {f g : Ex} {a b d : D} (h : f ρ k = some (a, k1)) (h2 : g ρ k1 = some (b, k2)) (h3 : idxD a b = some d) : idxE f g ρ k = some (d, k2) := by unfold idxE; rw [h]; dsimp only; rw [h2]; dsimp only; rw [h3]
theorem twoE_val {op : D → D → Option D} {f g : Ex} {a b d : D} (h : f ρ k = some (a, k1)) (h2 : g ρ k1 = some (b, k2)) (h3 : op a b = some d) : twoE op f g ρ k = some (d, k2) := by unfold twoE; rw [h]; dsimp only; rw [h2]; dsimp only; rw [h3]
theorem oneE_val {op : D → Option D} {f : Ex} {a d : D} (h : f ρ k = some (a, k1)) (h3 : op a = some d) : oneE op f ρ k = some (d, k1) := by unfold oneE; rw [h]; dsimp only; rw [h3]
theorem cmpE_val {op : CmpOp} {f g : Ex} {a b : D} {c : Bool} (h : f ρ k = some (a, k1)) (h2 : g ρ k1 = some (b, k2)) (h3 : cmpD op a b = some c) : cmpE op f g ρ k = some (c, k2) := by unfold cmpE; rw [h]; dsimp only; rw [h2]; dsimp only; rw [h3]
theorem boolE_val {f : Tx} {b : Bool} (h : f ρ k = some (b, k1)) : boolE f ρ k = some (.bool b, k1) := by unfold boolE; rw [h]
theorem orE_val {f g : Ex} {a b : Bool} (h : f ρ k = some (.bool a, k)) (h2 : g ρ k = some (.bool b, k)) : orE f g ρ k = some (.bool (a || b), k) := by
  unfold orE; rw [h]; dsimp only [truthD]; cases a
  · dsimp only; rw [h2]; rfl
  · rfl
theorem andT_val {f g : Tx} {a b : Bool} (h : f ρ k = some (a, k)) (h2 : g ρ k = some (b, k)) : andT f g ρ k = some (a && b, k) := by
  unfold andT; rw [h]; cases a
  · rfl
  · dsimp only; rw [h2]; rfl
theorem iteE_val {t : Tx} {f g : Ex} {b : Bool} {x y : D} (h : t ρ k = some (b, k)) (h1 : f ρ k = some (x, k)) (h2 : g ρ k = some (y, k)) : iteE t f g ρ k = some (if b then x else y, k) := by
  unfold iteE; rw [h]; cases b
  · dsimp only; rw [h2]; simp
  · dsimp only; rw [h1]; simp
theorem itemsL_list {f : Ex} {ds : List D} (h : f ρ k = some (.list ds, k1)) : itemsL f ρ k = some (ds, k1) := by unfold itemsL; rw [h]; rfl
theorem itemsL_str {f : Ex} {x : Str} (h : f ρ k = some (.str x, k1)) : itemsL f ρ k = some (x.cps.toList.map fun c => .str ⟨#[c]⟩, k1) := by unfold itemsL; rw [h]; rfl
theorem compE_val {fv : List Str} {src : Lx} {f : Rho → List D → Nat → Option (List D × Nat)} {ds xs : List D} (h1 : src ρ k = some (ds, k1)) (h2 : f (restrN fv ρ) ds k1 = some (xs, k2)) (h3 : xs.length ≤ big) : compE fv src f ρ k = some (.list xs, k2) := by
  unfold compE; rw [h1]; dsimp only; rw [h2]; dsimp only; rw [if_pos h3]
theorem oneL_val {f : Ex} {d : D} (h : f ρ k = some (d, k')) : oneL f ρ k = some ([d], k') := by unfold oneL; rw [h]
end
theorem defF_val {names : List Str} {f : Sx} {ds : List D} {k k' : Nat} {d : D} {ρ' : Rho} (hl : names.length = ds.length) (h : f (bindP names ds) k = some (.ret d, ρ', k')) : defF names f ds k = some (d, k') := by
  unfold defF; rw [if_pos hl, h]

/-- a loop that makes nothing -/
theorem loopC_pure {α : Type} {bf : D → Rho → Option Rho} {t : Tx} {body : Lx} {ρ : Rho} {k : Nat} (xs : List α) (enc : α → D) (p : α → Bool) (g : α → D)
    (h : ∀ x ∈ xs, ∃ ρ1, bf (enc x) ρ = some ρ1 ∧ t ρ1 k = some (p x, k) ∧ (p x = true → body ρ1 k = some ([g x], k))) : loopC bf t body ρ (xs.map enc) k = some ((xs.filter p).map g, k) := by
  induction xs with
  | nil => rfl
  | cons x xs ih =>
    obtain ⟨ρ1, h1, h2, h3⟩ := h x List.mem_cons_self
    have ih' := ih fun y hy => h y (List.mem_cons_of_mem _ hy)
    rw [List.map_cons]
    unfold loopC
    rw [h1]; dsimp only; rw [h2]
    cases hp : p x with
    | false => dsimp only; rw [ih', List.filter_cons, if_neg (by simp [hp])]
    | true => dsimp only; rw [h3 hp]; dsimp only; rw [ih', List.filter_cons, if_pos hp]; rfl
/-- a loop that makes records -/
theorem loopC_made {α : Type} {bf : D → Rho → Option Rho} {t : Tx} {body : Lx} {ρ : Rho} (xs : List α) (enc : α → D) (p : α → Bool) (g : α → D)
    (h : ∀ x ∈ xs, ∀ k, ∃ ρ1 k1, bf (enc x) ρ = some ρ1 ∧ t ρ1 k = some (p x, k1) ∧ (p x = true → ∃ k2, body ρ1 k1 = some ([g x], k2))) : ∀ k, ∃ k', loopC bf t body ρ (xs.map enc) k = some ((xs.filter p).map g, k') := by
  induction xs with
  | nil => intro k; exact ⟨k, rfl⟩
  | cons x xs ih =>
    intro k
    obtain ⟨ρ1, k1, h1, h2, h3⟩ := h x List.mem_cons_self k
    have ih' := ih fun y hy => h y (List.mem_cons_of_mem _ hy)
    rw [List.map_cons]
    unfold loopC
    rw [h1]; dsimp only; rw [h2]
    cases hp : p x with
    | false =>
      dsimp only
      obtain ⟨k', e⟩ := ih' k1
      exact ⟨k', by rw [e, List.filter_cons, if_neg (by simp [hp])]⟩
    | true =>
      dsimp only
      obtain ⟨k2, e2⟩ := h3 hp
      obtain ⟨k', e⟩ := ih' k2
      exact ⟨k', by rw [e2]; dsimp only; rw [e, List.filter_cons, if_pos hp]; rfl⟩

/-! equality of data -/
theorem eqD_str {x y : Str} : eqD (.str x) (.str y) = some (decide (x = y)) := by
  unfold eqD
  simp only [toPy]
  have : PyData.eqv (.str x) (.str y) = decide (x = y) := by rw [← str_beq]; rfl
  rw [this]
theorem eqD_int {x y : Int} : eqD (.int x) (.int y) = some (decide (x = y)) := by
  unfold eqD
  simp only [toPy]
  have : PyData.eqv (.int x) (.int y) = decide (x = y) := by
    show (x == y) = _
    by_cases h : x = y
    · subst h; simp
    · simp [h]
  rw [this]
theorem eqD_bool {x y : Bool} : eqD (.bool x) (.bool y) = some (x == y) := by
  unfold eqD
  simp only [toPy]
  rfl

structure Rw where
  f : Str
  a : Bool
  ag : List Str
  de : D
noncomputable def Rw.enc (r : Rw) : D := .list [.str r.f, .bool r.a, .list (r.ag.map .str), r.de]
noncomputable def Rw.m (r : Rw) : M.R := (r.f.cps.toList, r.a)
theorem str_ext {x y : Str} (h : x.cps.toList = y.cps.toList) : x = y := by
  cases x; cases y; simp only at h; rw [Array.toList_inj] at h; rw [h]
theorem str_len (x : Str) : x.length = x.cps.toList.length := by show x.cps.size = _; simp
theorem strTake_eq {x : Str} {n : Nat} : (strTake x n).cps.toList = x.cps.toList.take n := by simp [strTake]
theorem pre_str {f s : Str} : decide (strTake s f.length = f) = M.pre f.cps.toList s.cps.toList := by
  unfold M.pre
  rw [← str_len]
  by_cases h : strTake s f.length = f
  · rw [decide_eq_true h, decide_eq_true]; rw [← strTake_eq, h]
  · rw [decide_eq_false h, decide_eq_false]
    intro h2; apply h; apply str_ext; rw [strTake_eq]; exact h2
theorem idx0 {d : D} {r : List D} : idxD (.list (d :: r)) (.int 0) = some d := by
  unfold idxD; dsimp only; rw [if_pos (by decide)]; rfl
theorem idx1 {d e : D} {r : List D} : idxD (.list (d :: e :: r)) (.int 1) = some e := by
  unfold idxD; dsimp only; rw [if_pos (by decide)]; rfl
theorem idx2 {d e f : D} {r : List D} : idxD (.list (d :: e :: f :: r)) (.int 2) = some f := by
  unfold idxD; dsimp only; rw [if_pos (by decide)]; rfl
theorem idx3 {d e f g : D} {r : List D} : idxD (.list (d :: e :: f :: g :: r)) (.int 3) = some g := by
  unfold idxD; dsimp only; rw [if_pos (by decide)]; rfl
end Mine
end

section
open PySem PySem.W
set_option Elab.async false
set_option maxRecDepth 100000
set_option linter.unusedVariables false
set_option linter.unusedSimpArgs false
namespace Mine
theorem mapO_bool (m : Nat) : ∀ bs : List Bool, mapO (toPy m) (bs.map .bool) = some (bs.map PyData.bool)
  | [] => rfl
  | b :: bs => by
    rw [List.map_cons, List.map_cons, mapO]
    have : toPy m (.bool b) = some (.bool b) := by cases m <;> rfl
    rw [this]; dsimp only; rw [mapO_bool m bs]
theorem in_true (bs : List Bool) : cmpD .In (.bool true) (.list (bs.map .bool)) = some (bs.any id) := by
  show inD _ _ = _
  unfold inD
  have h : toPy 6 (.list (bs.map .bool)) = some (.list (bs.map PyData.bool)) := by
    show (mapO (toPy 5) (bs.map .bool)).map PyData.list = _
    rw [mapO_bool]; rfl
  rw [h]
  show some _ = _
  congr 1
  rw [List.any_map]
  congr 1
  funext b
  show (b == true) = id b
  simp
theorem maxI_fold : ∀ (l : List M.R) (o : Option Nat), (l.map fun r => (r.1.length : Int)).foldl (fun a b => if a < b then b else a) (match o with | none => -1 | some k => (k : Int)) =
    (match l.foldl (fun m r => match m with | none => some r.1.length | some k => some (max k r.1.length)) o with | none => -1 | some k => (k : Int))
  | [], o => rfl
  | r :: l, none => by
    have := maxI_fold l (some r.1.length)
    rw [List.map_cons, List.foldl_cons, List.foldl_cons]
    rw [← this]
    congr 1
  | r :: l, some k => by
    have := maxI_fold l (some (max k r.1.length))
    rw [List.map_cons, List.foldl_cons, List.foldl_cons]
    rw [← this]
    congr 1
    dsimp only
    split <;> omega
theorem intsD_map {α : Type} (f : α → Int) : ∀ l : List α, intsD (l.map fun x => .int (f x)) = some (l.map f)
  | [] => rfl
  | x :: l => by rw [List.map_cons, List.map_cons, intsD, intsD_map f l]
theorem vE {x : Str} {ρ : Rho} {r : Rw} {k : Nat} : varE x (upd ρ x r.enc) k = some (r.enc, k) := by unfold varE upd; rw [if_pos rfl]; rfl
theorem bf1_val {x : Str} {d : D} {ρ : Rho} (h : ρ x = none) : bf1 x d ρ = some (upd ρ x d) := by unfold bf1; rw [h]
theorem filter_map_m (rs : List Rw) (P : M.R → Bool) : (rs.filter fun r => P r.m).map Rw.m = (rs.map Rw.m).filter P := by
  induction rs with
  | nil => rfl
  | cons r rs ih => rw [List.filter_cons, List.map_cons, List.filter_cons]; split <;> simp [ih]

theorem verdictF_val (rs : List Rw) (s : Str) (hb : rs.length ≤ 1000) (k : Nat) : verdictF [.list (rs.map Rw.enc), .str s] k = some (.bool (M.verdict (rs.map Rw.m) s.cps.toList), k) := by
  refine defF_val (ρ' := upd (bindP ["rules", "signs"] [.list (rs.map Rw.enc), .str s]) "longest" (.int (match M.longest (rs.map Rw.m) s.cps.toList with | none => -1 | some k => (k : Int)))) rfl ?_
  have hlen : ∀ p : Rw → Bool, ((rs.filter p)).length ≤ 1000 := fun p => Nat.le_trans (List.length_filter_le _ _) hb
  unfold verdictS
  rw [seqS_next (asgS_val (d := .int (match M.longest (rs.map Rw.m) s.cps.toList with | none => -1 | some k => (k : Int))) (k' := k) ?_)]
  · refine seqS_ret (retS_val ?_)
    generalize hρ : upd (bindP ["rules", "signs"] [.list (rs.map Rw.enc), .str s]) (Str.ofString "longest") (.int (match M.longest (rs.map Rw.m) s.cps.toList with | none => -1 | some k => (k : Int))) = ρ
    have v1 : varE "longest" ρ k = some (.int (match M.longest (rs.map Rw.m) s.cps.toList with | none => -1 | some k => (k : Int)), k) := by rw [← hρ]; simp [varE, upd]
    have v2 : varE "rules" ρ k = some (.list (rs.map Rw.enc), k) := by rw [← hρ]; simp [varE, upd, restrN, bindP, ofString_inj, ofString_beq, List.lookup, Rw.enc]
    unfold M.verdict
    cases hl : M.longest (rs.map Rw.m) s.cps.toList with
    | none =>
      rw [hl] at v1
      unfold orE
      rw [boolE_val (cmpE_val v1 (rfl : litE (.int 0) ρ k = some (.int 0, k)) (rfl : cmpD .Lt (.int (-1)) (.int 0) = some (decide ((-1 : Int) < 0))))]
      rfl
    | some m =>
      rw [hl] at v1
      unfold orE
      rw [boolE_val (cmpE_val (c := decide ((m : Int) < 0)) v1 (rfl : litE (.int 0) ρ k = some (.int 0, k)) (rfl : cmpD .Lt (.int (m : Int)) (.int 0) = some (decide ((m : Int) < 0))))]
      have : decide ((m : Int) < 0) = false := decide_eq_false (by omega)
      rw [this]
      dsimp only [truthD]
      have hc : compE ["longest", "signs"] (itemsL (varE "rules")) (loopC (bf1 "rule") (cmpE .Eq (idxE (varE "rule") (litE (.int 0))) (twoE hiD (varE "signs") (varE "longest"))) (oneL (idxE (varE "rule") (litE (.int 1))))) ρ k =
          some (.list (((rs.filter fun r => decide (r.f = strTake s m)).map fun r => r.a).map .bool), k) := by
        refine compE_val (itemsL_list v2) ?_ (by rw [List.length_map, List.length_map]; exact Nat.le_trans (hlen _) (by decide))
        rw [List.map_map]
        refine loopC_pure rs Rw.enc _ _ fun r hr => ⟨_, bf1_val (by rw [← hρ]; simp [restrN, upd, ofString_inj]), ?_, fun _ => ?_⟩
        · refine cmpE_val (a := .str r.f) (b := .str (strTake s m)) (idxE_val (a := r.enc) (vE) rfl idx0) ?_ eqD_str
          refine twoE_val (k1 := k) (a := .str s) (b := .int (m : Int)) ?_ ?_ ?_
          · rw [← hρ]; simp [varE, upd, restrN, bindP, ofString_inj, ofString_beq, List.lookup, Rw.enc]
          · rw [← hρ]; simp [varE, upd, restrN, bindP, ofString_inj, ofString_beq, hl]
          · unfold hiD; dsimp only; rw [if_pos (by omega)]; rfl
        · exact oneL_val (idxE_val (a := r.enc) (vE) rfl idx1)
      rw [boolE_val (cmpE_val (rfl : litE (.bool true) ρ k = some (.bool true, k)) hc (in_true _))]
      congr 3
      rw [List.any_map, List.any_filter, List.any_map]
      congr 1
      funext r
      show (decide (r.f = strTake s m) && r.a) = (decide (r.f.cps.toList = s.cps.toList.take m) && r.a)
      congr 1
      by_cases h : r.f = strTake s m
      · rw [decide_eq_true h, decide_eq_true]; rw [h, strTake_eq]
      · rw [decide_eq_false h, decide_eq_false]
        intro h2; exact h (str_ext (by rw [strTake_eq]; exact h2))
  · generalize hρ : bindP ["rules", "signs"] [.list (rs.map Rw.enc), .str s] = ρ
    have v2 : varE "rules" ρ k = some (.list (rs.map Rw.enc), k) := by rw [← hρ]; simp [varE, upd, restrN, bindP, ofString_inj, ofString_beq, List.lookup, Rw.enc]
    have hc : compE ["signs"] (itemsL (varE "rules")) (loopC (bf1 "rule") (cmpE .Eq (twoE hiD (varE "signs") (oneE lenD (idxE (varE "rule") (litE (.int 0))))) (idxE (varE "rule") (litE (.int 0)))) (oneL (oneE lenD (idxE (varE "rule") (litE (.int 0)))))) ρ k =
        some (.list ((rs.filter fun r => M.pre r.m.1 s.cps.toList).map fun r => .int ((r.f.length : Nat) : Int)), k) := by
      refine compE_val (itemsL_list v2) ?_ (by rw [List.length_map]; exact Nat.le_trans (hlen _) (by decide))
      refine loopC_pure rs Rw.enc _ _ fun r hr => ⟨_, bf1_val (by rw [← hρ]; simp [restrN, upd, ofString_inj]), ?_, fun _ => ?_⟩
      · refine cmpE_val (a := .str (strTake s r.f.length)) (b := .str r.f) ?_ (idxE_val (a := r.enc) (vE) rfl idx0) (eqD_str.trans (by rw [pre_str]; rfl))
        refine twoE_val (a := .str s) (b := .int ((r.f.length : Nat) : Int)) ?_ (oneE_val (idxE_val (a := r.enc) (vE) rfl idx0) rfl) ?_
        · rw [← hρ]; simp [varE, upd, restrN, bindP, ofString_inj, ofString_beq, List.lookup, Rw.enc]
        · unfold hiD; dsimp only; rw [if_pos (by omega)]; rfl
      · exact oneL_val (oneE_val (idxE_val (a := r.enc) (vE) rfl idx0) rfl)
    refine oneE_val (binE_val (a := .list [.int (-1)]) (k1 := k) ?_ hc (d := .list ([D.int (-1)] ++ (rs.filter fun r => M.pre r.m.1 s.cps.toList).map fun r => .int ((r.f.length : Nat) : Int))) ?_) ?_
    · exact listE_val (consL_val (by rfl : negE (litE (.int 1)) ρ k = some (.int (-1), k)) rfl)
    · unfold binD; dsimp only [int2, addD]
      rw [if_pos (by rw [List.length_map]; have := hlen fun r => M.pre r.m.1 s.cps.toList; simp only [List.length_cons, List.length_nil]; unfold big; omega)]
    · have e : ([D.int (-1)] ++ (rs.filter fun r => M.pre r.m.1 s.cps.toList).map fun r => .int ((r.f.length : Nat) : Int)) = ((-1 : Int) :: (rs.filter fun r => M.pre r.m.1 s.cps.toList).map fun r => ((r.f.length : Nat) : Int)).map fun i => .int i := by
        simp [List.map_map]
      unfold maxD
      rw [e]; dsimp only
      rw [intsD_map (fun i => i)]
      simp only [List.map_id']
      unfold maxI M.longest
      have := maxI_fold ((rs.map Rw.m).filter fun r => M.pre r.1 s.cps.toList) none
      refine congrArg (fun i => some (D.int i)) (Eq.trans ?_ this)
      rw [← filter_map_m rs (fun r => M.pre r.1 s.cps.toList), List.map_map]
      dsimp only
      congr 1
end Mine
end

section
open PySem PySem.W
set_option Elab.async false
set_option maxRecDepth 100000
set_option linter.unusedVariables false
set_option linter.unusedSimpArgs false
namespace Mine
theorem vL {x : Str} {ρ : Rho} {k : Nat} {xs : List D} (h : ρ x = some (.list xs)) : varE x ρ k = some (.list xs, k) := by unfold varE; rw [h]
theorem vS {x : Str} {ρ : Rho} {k : Nat} {y : Str} (h : ρ x = some (.str y)) : varE x ρ k = some (.str y, k) := by unfold varE; rw [h]
noncomputable abbrev tl (x : Str) : M.S := x.cps.toList
theorem tl_inj {x y : Str} : tl x = tl y ↔ x = y := ⟨str_ext, fun h => by rw [h]⟩
theorem mapO_str (m : Nat) : ∀ bs : List Str, mapO (toPy m) (bs.map .str) = some (bs.map PyData.str)
  | [] => rfl
  | b :: bs => by
    rw [List.map_cons, List.map_cons, mapO]
    have : toPy m (.str b) = some (.str b) := by cases m <;> rfl
    rw [this]; dsimp only; rw [mapO_str m bs]
theorem toPy_strs (m : Nat) (l : List Str) : toPy (m + 1) (.list (l.map .str)) = some (.list (l.map PyData.str)) := by
  show (mapO (toPy m) (l.map .str)).map PyData.list = _
  rw [mapO_str]; rfl
theorem in_strs (x : Str) (l : List Str) : inD (.str x) (.list (l.map .str)) = some (decide (x ∈ l)) := by
  unfold inD
  rw [toPy_strs]
  show some _ = _
  congr 1
  rw [List.any_map, Bool.eq_iff_iff, List.any_eq_true, decide_eq_true_eq]
  constructor
  · rintro ⟨y, h1, h2⟩
    have : (y == x) = true := h2
    rw [str_beq, decide_eq_true_eq] at this
    rw [← this]; exact h1
  · intro h; exact ⟨x, h, by show (x == x) = true; rw [str_beq]; simp⟩
theorem eq_nil_strs (l : List Str) : eqD (.list (l.map .str)) (.list []) = some l.isEmpty := by
  unfold eqD
  rw [toPy_strs]
  cases l <;> rfl
theorem eq_nil_bools (l : List Bool) : eqD (.list (l.map .bool)) (.list []) = some l.isEmpty := by
  unfold eqD
  have h : toPy 6 (.list (l.map .bool)) = some (.list (l.map PyData.bool)) := by
    show (mapO (toPy 5) (l.map .bool)).map PyData.list = _
    rw [mapO_bool]; rfl
  rw [h]
  cases l <;> rfl
theorem filter_map_tl {l : List Str} (P : Str → Bool) (Q : M.S → Bool) (h : ∀ x ∈ l, P x = Q (tl x)) : (l.filter P).map tl = (l.map tl).filter Q := by
  induction l with
  | nil => rfl
  | cons x l ih =>
    rw [List.filter_cons, List.map_cons, List.filter_cons, h x List.mem_cons_self]
    have := ih fun y hy => h y (List.mem_cons_of_mem _ hy)
    split <;> simp [this]
theorem filter_map_R {os : List Rw} (P : Rw → Bool) (Q : M.R → Bool) (h : ∀ x ∈ os, P x = Q x.m) : (os.filter P).map Rw.m = (os.map Rw.m).filter Q := by
  induction os with
  | nil => rfl
  | cons x l ih =>
    rw [List.filter_cons, List.map_cons, List.filter_cons, h x List.mem_cons_self]
    have := ih fun y hy => h y (List.mem_cons_of_mem _ hy)
    split <;> simp [this]

/-! the pieces of idle, over texts -/
noncomputable def alikeS (os : List Rw) (f : Str) : List Bool := (os.filter fun o => decide (o.f = f)).map (·.a)
noncomputable def longS (os : List Rw) (f : Str) : List Str := (os.filter fun o => decide (f.length < o.f.length) && decide (strTake o.f f.length = f)).map (·.f)
noncomputable def minimS (l : List Str) (one : Str) : Bool := (l.filter fun two => decide (two.length < one.length) && decide (strTake one two.length = two)).isEmpty
noncomputable def shortS (l : List Str) : List Str := (((List.range l.length).zip l).filter fun p => !decide (p.2 ∈ l.take p.1) && minimS l p.2).map (·.2)
theorem alikeS_m (os : List Rw) (f : Str) : alikeS os f = M.alike (os.map Rw.m) (tl f) := by
  unfold alikeS M.alike
  rw [← filter_map_R (fun o => decide (o.f = f)) (fun o => decide (o.1 = tl f)) (fun x _ => by show _ = decide (tl x.f = tl f); rw [decide_eq_decide]; exact tl_inj.symm), List.map_map]
  rfl
theorem longS_m (os : List Rw) (f : Str) : (longS os f).map tl = M.longer (os.map Rw.m) (tl f) := by
  unfold longS M.longer
  rw [← filter_map_R (fun o => decide (f.length < o.f.length) && decide (strTake o.f f.length = f)) (fun o => decide ((tl f).length < o.1.length) && M.pre (tl f) o.1) (fun x _ => by
    rw [pre_str, str_len, str_len]; rfl), List.map_map, List.map_map]
  rfl
theorem minimS_m (l : List Str) (x : Str) : minimS l x = M.minim (l.map tl) (tl x) := by
  unfold minimS M.minim
  rw [← filter_map_tl (fun two => decide (two.length < x.length) && decide (strTake x two.length = two)) (fun two => decide (two.length < (tl x).length) && M.pre two (tl x)) (fun y _ => by rw [pre_str, str_len, str_len])]
  cases (l.filter fun two => decide (two.length < x.length) && decide (strTake x two.length = two)) <;> rfl
theorem shortS_m (l : List Str) : (shortS l).map tl = M.shortest (l.map tl) := by
  unfold shortS M.shortest
  rw [List.length_map, List.map_map]
  have e : (List.range l.length).zip (l.map tl) = ((List.range l.length).zip l).map fun p => (p.1, tl p.2) := by
    rw [List.zip_map_right]; rfl
  rw [e]
  have key : ∀ zs : List (Nat × Str), (zs.filter fun p => !decide (p.2 ∈ l.take p.1) && minimS l p.2).map (tl ∘ (·.2)) =
      ((zs.map fun p => (p.1, tl p.2)).filter fun p => !((l.map tl).take p.1).contains p.2 && M.minim (l.map tl) p.2).map (·.2) := by
    intro zs
    induction zs with
    | nil => rfl
    | cons p zs ih =>
      rw [List.map_cons, List.filter_cons, List.filter_cons, minimS_m]
      have e2 : decide (p.2 ∈ l.take p.1) = ((l.map tl).take p.1).contains (tl p.2) := by
        rw [Bool.eq_iff_iff, decide_eq_true_eq, List.contains_iff_mem, ← List.map_take, List.mem_map]
        constructor
        · intro h; exact ⟨_, h, rfl⟩
        · rintro ⟨y, h1, h2⟩; rw [tl_inj] at h2; rw [← h2]; exact h1
      rw [e2]
      dsimp only
      split <;> simp [ih]
  exact key _
theorem shortS_sub {l : List Str} {x : Str} (h : x ∈ shortS l) : x ∈ l := by
  unfold shortS at h
  obtain ⟨p, h1, rfl⟩ := List.mem_map.mp h
  exact (List.of_mem_zip (List.mem_filter.mp h1).1).2
noncomputable def share : Nat → Nat
  | 0 => 16
  | 1 => 8
  | 2 => 4
  | _ => 1
noncomputable def shareD : D := .list [.int 16, .int 8, .int 4, .int 1]
theorem share_idx {n : Nat} (h : n ≤ 3) : idxD shareD (.int (n : Int)) = some (.int (share n : Int)) := by
  match n, h with
  | 0, _ => rfl
  | 1, _ => rfl
  | 2, _ => rfl
  | 3, _ => rfl
theorem hi_str (x : Str) (n : Nat) : hiD (.str x) (.int (n : Int)) = some (.str (strTake x n)) := by unfold hiD; dsimp only; rw [if_pos (by omega)]; rfl
theorem hi_list (xs : List D) (n : Nat) : hiD (.list xs) (.int (n : Int)) = some (.list (xs.take n)) := by unfold hiD; dsimp only; rw [if_pos (by omega)]; rfl
theorem len_str (x : Str) : lenD (.str x) = some (.int (x.length : Int)) := rfl
theorem lt_nat (a b : Nat) : cmpD .Lt (.int (a : Int)) (.int (b : Int)) = some (decide (a < b)) := by
  show some (decide ((a : Int) < (b : Int))) = _; congr 1; simp
theorem gt_nat (a b : Nat) : cmpD .Gt (.int (a : Int)) (.int (b : Int)) = some (decide (b < a)) := by
  show some (decide ((b : Int) < (a : Int))) = _; congr 1; simp

section
variable {ρ : Rho} {k : Nat} {os : List Rw} {f : Str} {l : List Str}
theorem alike_val (hb : os.length ≤ 1000) (h1 : ρ "others" = some (.list (os.map Rw.enc))) (h2 : ρ "front" = some (.str f)) :
    compE ["front"] (itemsL (varE "others")) (loopC (bf1 "other") (cmpE .Eq (idxE (varE "other") (litE (.int 0))) (varE "front")) (oneL (idxE (varE "other") (litE (.int 1))))) ρ k = some (.list ((alikeS os f).map .bool), k) := by
  refine compE_val (k1 := k) (itemsL_list (vL h1)) ?_ (by unfold alikeS; rw [List.length_map, List.length_map]; exact Nat.le_trans (List.length_filter_le _ _) (Nat.le_trans hb (by decide)))
  unfold alikeS
  rw [List.map_map]
  refine loopC_pure os Rw.enc _ _ fun o ho => ⟨_, bf1_val (by simp [varE, upd, restrN, bindP, ofString_inj, ofString_beq, List.lookup, Rw.enc]), ?_, fun _ => ?_⟩
  · exact cmpE_val (k1 := k) (idxE_val (k1 := k) (k2 := k) vE rfl idx0) (b := .str f) (by simp [varE, upd, restrN, bindP, ofString_inj, ofString_beq, List.lookup, Rw.enc, h2]) eqD_str
  · exact oneL_val (idxE_val (k1 := k) vE rfl idx1)
theorem shorter_val (hb : os.length ≤ 1000) (h1 : ρ "others" = some (.list (os.map Rw.enc))) (h2 : ρ "front" = some (.str f)) :
    compE ["front"] (itemsL (varE "others")) (loopC (bf1 "other") (cmpE .Lt (oneE lenD (idxE (varE "other") (litE (.int 0)))) (oneE lenD (varE "front"))) (oneL (varE "other"))) ρ k = some (.list ((os.filter fun o => decide (o.f.length < f.length)).map Rw.enc), k) := by
  refine compE_val (k1 := k) (itemsL_list (vL h1)) ?_ (by rw [List.length_map]; exact Nat.le_trans (List.length_filter_le _ _) (Nat.le_trans hb (by decide)))
  refine loopC_pure os Rw.enc _ _ fun o ho => ⟨_, bf1_val (by simp [varE, upd, restrN, bindP, ofString_inj, ofString_beq, List.lookup, Rw.enc]), ?_, fun _ => ?_⟩
  · exact cmpE_val (k1 := k) (oneE_val (idxE_val (k1 := k) (k2 := k) vE rfl idx0) (len_str _)) (oneE_val (a := .str f) (by simp [varE, upd, restrN, bindP, ofString_inj, ofString_beq, List.lookup, Rw.enc, h2]) (len_str _)) (lt_nat _ _)
  · exact oneL_val vE
theorem longer_val (hb : os.length ≤ 1000) (h1 : ρ "others" = some (.list (os.map Rw.enc))) (h2 : ρ "front" = some (.str f)) :
    compE ["front"] (itemsL (varE "others")) (loopC (bf1 "other") (andT (cmpE .Gt (oneE lenD (idxE (varE "other") (litE (.int 0)))) (oneE lenD (varE "front"))) (cmpE .Eq (twoE hiD (idxE (varE "other") (litE (.int 0))) (oneE lenD (varE "front"))) (varE "front"))) (oneL (idxE (varE "other") (litE (.int 0))))) ρ k =
      some (.list ((longS os f).map .str), k) := by
  refine compE_val (k1 := k) (itemsL_list (vL h1)) ?_ (by unfold longS; rw [List.length_map, List.length_map]; exact Nat.le_trans (List.length_filter_le _ _) (Nat.le_trans hb (by decide)))
  unfold longS
  rw [List.map_map]
  refine loopC_pure os Rw.enc _ _ fun o ho => ⟨_, bf1_val (by simp [varE, upd, restrN, bindP, ofString_inj, ofString_beq, List.lookup, Rw.enc]), ?_, fun _ => ?_⟩
  · refine andT_val ?_ ?_
    · exact cmpE_val (k1 := k) (oneE_val (idxE_val (k1 := k) (k2 := k) vE rfl idx0) (len_str _)) (oneE_val (a := .str f) (by simp [varE, upd, restrN, bindP, ofString_inj, ofString_beq, List.lookup, Rw.enc, h2]) (len_str _)) (gt_nat _ _)
    · exact cmpE_val (k1 := k) (twoE_val (k1 := k) (idxE_val (k1 := k) (k2 := k) vE rfl idx0) (oneE_val (a := .str f) (by simp [varE, upd, restrN, bindP, ofString_inj, ofString_beq, List.lookup, Rw.enc, h2]) (len_str _)) (hi_str _ _)) (b := .str f) (by simp [varE, upd, restrN, bindP, ofString_inj, ofString_beq, List.lookup, Rw.enc, h2]) eqD_str
  · exact oneL_val (idxE_val (k1 := k) vE rfl idx0)
theorem minim_val {one : Str} (hb : l.length ≤ 1000) (h1 : ρ "longer" = some (.list (l.map .str))) (h2 : ρ "one" = some (.str one)) :
    cmpE .Eq (compE ["one"] (itemsL (varE "longer")) (loopC (bf1 "two") (andT (cmpE .Lt (oneE lenD (varE "two")) (oneE lenD (varE "one"))) (cmpE .Eq (twoE hiD (varE "one") (oneE lenD (varE "two"))) (varE "two"))) (oneL (varE "two")))) (listE nilL) ρ k =
      some (minimS l one, k) := by
  unfold minimS
  refine cmpE_val (k1 := k) (b := .list []) (compE_val (k1 := k) (k2 := k) (xs := (l.filter fun two : Str => decide (two.length < one.length) && decide (strTake one two.length = two)).map .str) (itemsL_list (vL h1)) ?_ ?_) rfl (eq_nil_strs _)
  · refine loopC_pure l .str _ _ fun o ho => ⟨_, bf1_val (by simp [varE, upd, restrN, bindP, ofString_inj, ofString_beq, List.lookup, Rw.enc]), ?_, fun _ => ?_⟩
    · refine andT_val ?_ ?_
      · exact cmpE_val (k1 := k) (oneE_val (a := .str o) (by simp [varE, upd, restrN, bindP, ofString_inj, ofString_beq, List.lookup, Rw.enc]) (len_str _)) (oneE_val (a := .str one) (by simp [varE, upd, restrN, bindP, ofString_inj, ofString_beq, List.lookup, Rw.enc, h2]) (len_str _)) (lt_nat _ _)
      · exact cmpE_val (k1 := k) (twoE_val (k1 := k) (a := .str one) (by simp [varE, upd, restrN, bindP, ofString_inj, ofString_beq, List.lookup, Rw.enc, h2]) (oneE_val (a := .str o) (by simp [varE, upd, restrN, bindP, ofString_inj, ofString_beq, List.lookup, Rw.enc]) (len_str _)) (hi_str _ _)) (b := .str o) (by simp [varE, upd, restrN, bindP, ofString_inj, ofString_beq, List.lookup, Rw.enc]) eqD_str
    · exact oneL_val (by simp [varE, upd, restrN, bindP, ofString_inj, ofString_beq, List.lookup, Rw.enc])
  · rw [List.length_map]; exact Nat.le_trans (List.length_filter_le _ _) (Nat.le_trans hb (by decide))
theorem short_len (l : List Str) : (shortS l).length ≤ l.length := by
  unfold shortS
  rw [List.length_map]
  refine Nat.le_trans (List.length_filter_le _ _) ?_
  rw [List.length_zip]; exact Nat.min_le_right _ _
theorem shortest_val (hb : l.length ≤ 1000) (h1 : ρ "longer" = some (.list (l.map .str))) :
    compE ["longer"] (enumL (varE "longer")) (loopC (bf2 "k" "one") (andT (cmpE .NotIn (varE "one") (twoE hiD (varE "longer") (varE "k"))) (cmpE .Eq (compE ["one"] (itemsL (varE "longer")) (loopC (bf1 "two") (andT (cmpE .Lt (oneE lenD (varE "two")) (oneE lenD (varE "one"))) (cmpE .Eq (twoE hiD (varE "one") (oneE lenD (varE "two"))) (varE "two"))) (oneL (varE "two")))) (listE nilL))) (oneL (varE "one"))) ρ k =
      some (.list ((shortS l).map .str), k) := by
  refine compE_val (k1 := k) (ds := ((List.range l.length).zip l).map fun p => .tuple [.int (p.1 : Int), .str p.2]) ?_ ?_ (by rw [List.length_map]; exact Nat.le_trans (short_len l) (Nat.le_trans hb (by decide)))
  · unfold enumL
    have : varE "longer" ρ k = some (.list (l.map .str), k) := by simp [varE, upd, restrN, bindP, ofString_inj, ofString_beq, List.lookup, Rw.enc, h1]
    rw [this]
    dsimp only [enumD, itemsD]
    rw [List.length_map, List.zipWith_map_right, List.zip, List.map_zipWith]
  · unfold shortS
    rw [List.map_map]
    refine loopC_pure _ (fun p : Nat × Str => D.tuple [.int (p.1 : Int), .str p.2]) _ _ fun p hp => ⟨upd (upd (restrN ["longer"] ρ) "k" (.int (p.1 : Int))) "one" (.str p.2), ?_, ?_, fun _ => ?_⟩
    · unfold bf2; dsimp only
      have e1 : restrN ["longer"] ρ "k" = none := by simp [varE, upd, restrN, bindP, ofString_inj, ofString_beq, List.lookup, Rw.enc]
      have e2 : restrN ["longer"] ρ "one" = none := by simp [varE, upd, restrN, bindP, ofString_inj, ofString_beq, List.lookup, Rw.enc]
      rw [e1, e2]
    · refine andT_val (a := !decide (p.2 ∈ l.take p.1)) ?_ ?_
      · refine cmpE_val (k1 := k) (a := .str p.2) (by simp [varE, upd, restrN, bindP, ofString_inj, ofString_beq, List.lookup, Rw.enc]) (twoE_val (k1 := k) (a := .list (l.map .str)) (b := .int (p.1 : Int)) (by simp [varE, upd, restrN, bindP, ofString_inj, ofString_beq, List.lookup, Rw.enc, h1]) (by simp [varE, upd, restrN, bindP, ofString_inj, ofString_beq, List.lookup, Rw.enc]) (hi_list _ _)) ?_
        show (inD _ _).map _ = _
        rw [← List.map_take, in_strs]; rfl
      · exact minim_val hb (by simp [varE, upd, restrN, bindP, ofString_inj, ofString_beq, List.lookup, Rw.enc, h1]) (by simp [varE, upd, restrN, bindP, ofString_inj, ofString_beq, List.lookup, Rw.enc])
    · exact oneL_val (by simp [varE, upd, restrN, bindP, ofString_inj, ofString_beq, List.lookup, Rw.enc])
theorem loopC_map {α : Type} {bf : D → Rho → Option Rho} {body : Lx} {ρ : Rho} {k : Nat} (xs : List α) (enc : α → D) (g : α → D)
    (h : ∀ x ∈ xs, ∃ ρ1, bf (enc x) ρ = some ρ1 ∧ body ρ1 k = some ([g x], k)) : loopC bf trueT body ρ (xs.map enc) k = some (xs.map g, k) := by
  have := loopC_pure (bf := bf) (t := trueT) (body := body) (ρ := ρ) (k := k) xs enc (fun _ => true) g fun x hx => by
    obtain ⟨ρ1, h1, h2⟩ := h x hx
    exact ⟨ρ1, h1, rfl, fun _ => h2⟩
  rw [this]
  congr 3
  rw [List.filter_eq_self]
  intro _ _; rfl
theorem sum_cast (xs : List Nat) : (xs.map fun n : Nat => (n : Int)).sum = ((xs.sum : Nat) : Int) := by
  induction xs with
  | nil => rfl
  | cons x xs ih => rw [List.map_cons, List.sum_cons, List.sum_cons, ih]; simp
theorem sum_val {sh : List Str} (hb : sh.length ≤ 1000) (h3 : ∀ x ∈ sh, x.length ≤ 3) (h1 : ρ "shortest" = some (.list (sh.map .str))) (h2 : ρ "share" = some shareD) :
    oneE sumD (compE ["share"] (itemsL (varE "shortest")) (loopC (bf1 "one") trueT (oneL (idxE (varE "share") (oneE lenD (varE "one")))))) ρ k = some (.int ((sh.map fun x : Str => share x.length).sum : Nat), k) := by
  refine oneE_val (a := .list ((sh.map fun x : Str => share x.length).map fun n : Nat => .int (n : Int))) (compE_val (k1 := k) (itemsL_list (vL h1)) ?_ (by rw [List.length_map, List.length_map]; exact Nat.le_trans hb (by decide))) ?_
  · rw [List.map_map]
    refine loopC_map sh .str _ fun o ho => ⟨_, bf1_val (by unfold restrN; rw [if_neg (by rw [List.mem_singleton, ofString_inj]; decide)]), ?_⟩
    refine oneL_val (idxE_val (k1 := k) (a := shareD) ?_ (oneE_val (a := .str o) (by simp [varE, upd, restrN, bindP, ofString_inj, ofString_beq, List.lookup, Rw.enc]) (len_str _)) (share_idx (h3 _ ho)))
    simp [varE, upd, restrN, bindP, ofString_inj, ofString_beq, List.lookup, Rw.enc, h2]; rfl
  · unfold sumD
    dsimp only
    rw [intsD_map (fun n : Nat => (n : Int))]
    show some (D.int _) = _
    rw [sum_cast]
end
theorem defF_ex {names : List Str} {f : Sx} {ds : List D} {k k' : Nat} {d : D} (hl : names.length = ds.length) (h : ∃ ρ', f (bindP names ds) k = some (.ret d, ρ', k')) : defF names f ds k = some (d, k') := h.elim fun ρ' h => defF_val hl h
theorem idleF_val (os : List Rw) (r : Rw) (hb : os.length ≤ 1000) (hl : ∀ o ∈ os, o.f.length ≤ 3) (hr : r.f.length ≤ 3) (k : Nat) : idleF [.list (os.map Rw.enc), r.enc] k = some (.bool (M.idle share (os.map Rw.m) r.m), k) := by
  refine defF_ex rfl ?_
  unfold idleS
  generalize hρ0 : bindP ["others", "rule"] [.list (os.map Rw.enc), r.enc] = ρ0
  have o0 : ρ0 "others" = some (.list (os.map Rw.enc)) := by rw [← hρ0]; simp [varE, upd, restrN, bindP, ofString_inj, ofString_beq, List.lookup, Rw.enc]
  have r0 : ρ0 "rule" = some r.enc := by rw [← hρ0]; simp [varE, upd, restrN, bindP, ofString_inj, ofString_beq, List.lookup, Rw.enc]
  have rv : ∀ ρ : Rho, ρ "rule" = some r.enc → ∀ k, varE "rule" ρ k = some (r.enc, k) := fun ρ h k => by unfold varE; rw [h]; rfl
  have e1 : asgTS ["front", "share"] (consL (idxE (varE "rule") (litE (.int 0))) (consL (listE (consL (litE (.int 16)) (consL (litE (.int 8)) (consL (litE (.int 4)) (consL (litE (.int 1)) nilL))))) nilL)) ρ0 k =
      some (.next, upd (upd ρ0 "front" (.str r.f)) "share" shareD, k) := by
    unfold asgTS
    rw [consL_val (idxE_val (rv ρ0 r0 k) rfl idx0) (rfl : _ = some ([shareD], k))]
    rfl
  rw [seqS_next e1]
  generalize hρ1 : upd (upd ρ0 "front" (.str r.f)) "share" shareD = ρ1
  have o1 : ρ1 "others" = some (.list (os.map Rw.enc)) := by rw [← hρ1]; simp [varE, upd, restrN, bindP, ofString_inj, ofString_beq, List.lookup, Rw.enc, o0]
  have r1 : ρ1 "rule" = some r.enc := by rw [← hρ1]; simp [varE, upd, restrN, bindP, ofString_inj, ofString_beq, List.lookup, Rw.enc, r0]
  have f1 : ρ1 "front" = some (.str r.f) := by rw [← hρ1]; simp [varE, upd, restrN, bindP, ofString_inj, ofString_beq, List.lookup, Rw.enc]
  have s1 : ρ1 "share" = some shareD := by rw [← hρ1]; simp [varE, upd, restrN, bindP, ofString_inj, ofString_beq, List.lookup, Rw.enc]
  rw [seqS_next (asgS_val (alike_val hb o1 f1))]
  generalize hρ2 : upd ρ1 "alike" (.list ((alikeS os r.f).map .bool)) = ρ2
  have o2 : ρ2 "others" = some (.list (os.map Rw.enc)) := by rw [← hρ2]; simp [varE, upd, restrN, bindP, ofString_inj, ofString_beq, List.lookup, Rw.enc, o1]
  have r2 : ρ2 "rule" = some r.enc := by rw [← hρ2]; simp [varE, upd, restrN, bindP, ofString_inj, ofString_beq, List.lookup, Rw.enc, r1]
  have f2 : ρ2 "front" = some (.str r.f) := by rw [← hρ2]; simp [varE, upd, restrN, bindP, ofString_inj, ofString_beq, List.lookup, Rw.enc, f1]
  have s2 : ρ2 "share" = some shareD := by rw [← hρ2]; simp [varE, upd, restrN, bindP, ofString_inj, ofString_beq, List.lookup, Rw.enc, s1]
  have a2 : ρ2 "alike" = some (.list ((alikeS os r.f).map .bool)) := by rw [← hρ2]; simp [varE, upd, restrN, bindP, ofString_inj, ofString_beq, List.lookup, Rw.enc]
  have e3 : iteE (cmpE .NotEq (varE "alike") (listE nilL)) (boolE (cmpE .In (litE (.bool true)) (varE "alike"))) (callE verdictF (consL (compE ["front"] (itemsL (varE "others")) (loopC (bf1 "other") (cmpE .Lt (oneE lenD (idxE (varE "other") (litE (.int 0)))) (oneE lenD (varE "front"))) (oneL (varE "other")))) (consL (varE "front") nilL))) ρ2 k =
      some (.bool (M.without (os.map Rw.m) (tl r.f)), k) := by
    refine (iteE_val (b := !(alikeS os r.f).isEmpty) (x := .bool ((alikeS os r.f).any id)) (y := .bool (M.verdict ((os.filter fun o => decide (o.f.length < r.f.length)).map Rw.m) (tl r.f))) ?_ ?_ ?_).trans ?_
    · refine cmpE_val (k1 := k) (a := .list ((alikeS os r.f).map .bool)) (b := .list []) (by simp [varE, upd, restrN, bindP, ofString_inj, ofString_beq, List.lookup, Rw.enc, a2]) rfl ?_
      show (eqD _ _).map _ = _
      rw [eq_nil_bools]; rfl
    · exact boolE_val (cmpE_val (k1 := k) rfl (b := .list ((alikeS os r.f).map .bool)) (by simp [varE, upd, restrN, bindP, ofString_inj, ofString_beq, List.lookup, Rw.enc, a2]) (in_true _))
    · refine (callE_val (consL_val (shorter_val hb o2 f2) (consL_val (k1 := k) (d := .str r.f) (by simp [varE, upd, restrN, bindP, ofString_inj, ofString_beq, List.lookup, Rw.enc, f2]) rfl))).trans ?_
      exact verdictF_val _ _ (Nat.le_trans (List.length_filter_le _ _) hb) k
    · unfold M.without
      rw [← alikeS_m, filter_map_R (fun o => decide (o.f.length < r.f.length)) (fun o => decide (o.1.length < (tl r.f).length)) (fun x _ => by rw [str_len, str_len]; rfl)]
      cases hA : alikeS os r.f with
      | nil => simp
      | cons b bs => simp
  rw [seqS_next (asgS_val e3)]
  generalize hρ3 : upd ρ2 "without" (.bool (M.without (os.map Rw.m) (tl r.f))) = ρ3
  have o3 : ρ3 "others" = some (.list (os.map Rw.enc)) := by rw [← hρ3]; simp [varE, upd, restrN, bindP, ofString_inj, ofString_beq, List.lookup, Rw.enc, o2]
  have r3 : ρ3 "rule" = some r.enc := by rw [← hρ3]; simp [varE, upd, restrN, bindP, ofString_inj, ofString_beq, List.lookup, Rw.enc, r2]
  have f3 : ρ3 "front" = some (.str r.f) := by rw [← hρ3]; simp [varE, upd, restrN, bindP, ofString_inj, ofString_beq, List.lookup, Rw.enc, f2]
  have s3 : ρ3 "share" = some shareD := by rw [← hρ3]; simp [varE, upd, restrN, bindP, ofString_inj, ofString_beq, List.lookup, Rw.enc, s2]
  have a3 : ρ3 "alike" = some (.list ((alikeS os r.f).map .bool)) := by rw [← hρ3]; simp [varE, upd, restrN, bindP, ofString_inj, ofString_beq, List.lookup, Rw.enc, a2]
  have w3 : ρ3 "without" = some (.bool (M.without (os.map Rw.m) (tl r.f))) := by rw [← hρ3]; simp [varE, upd, restrN, bindP, ofString_inj, ofString_beq, List.lookup, Rw.enc]
  rw [seqS_next (asgS_val (longer_val hb o3 f3))]
  generalize hρ4 : upd ρ3 "longer" (.list ((longS os r.f).map .str)) = ρ4
  have r4 : ρ4 "rule" = some r.enc := by rw [← hρ4]; simp [varE, upd, restrN, bindP, ofString_inj, ofString_beq, List.lookup, Rw.enc, r3]
  have f4 : ρ4 "front" = some (.str r.f) := by rw [← hρ4]; simp [varE, upd, restrN, bindP, ofString_inj, ofString_beq, List.lookup, Rw.enc, f3]
  have s4 : ρ4 "share" = some shareD := by rw [← hρ4]; simp [varE, upd, restrN, bindP, ofString_inj, ofString_beq, List.lookup, Rw.enc, s3]
  have a4 : ρ4 "alike" = some (.list ((alikeS os r.f).map .bool)) := by rw [← hρ4]; simp [varE, upd, restrN, bindP, ofString_inj, ofString_beq, List.lookup, Rw.enc, a3]
  have w4 : ρ4 "without" = some (.bool (M.without (os.map Rw.m) (tl r.f))) := by rw [← hρ4]; simp [varE, upd, restrN, bindP, ofString_inj, ofString_beq, List.lookup, Rw.enc, w3]
  have l4 : ρ4 "longer" = some (.list ((longS os r.f).map .str)) := by rw [← hρ4]; simp [varE, upd, restrN, bindP, ofString_inj, ofString_beq, List.lookup, Rw.enc]
  have hlong : (longS os r.f).length ≤ 1000 := by unfold longS; rw [List.length_map]; exact Nat.le_trans (List.length_filter_le _ _) hb
  have h3 : ∀ x ∈ longS os r.f, x.length ≤ 3 := fun x hx => by
    unfold longS at hx
    obtain ⟨o, ho, rfl⟩ := List.mem_map.mp hx
    exact hl _ (List.mem_filter.mp ho).1
  rw [seqS_next (asgS_val (shortest_val hlong l4))]
  generalize hρ5 : upd ρ4 "shortest" (.list ((shortS (longS os r.f)).map .str)) = ρ5
  have r5 : ρ5 "rule" = some r.enc := by rw [← hρ5]; simp [varE, upd, restrN, bindP, ofString_inj, ofString_beq, List.lookup, Rw.enc, r4]
  have f5 : ρ5 "front" = some (.str r.f) := by rw [← hρ5]; simp [varE, upd, restrN, bindP, ofString_inj, ofString_beq, List.lookup, Rw.enc, f4]
  have s5 : ρ5 "share" = some shareD := by rw [← hρ5]; simp [varE, upd, restrN, bindP, ofString_inj, ofString_beq, List.lookup, Rw.enc, s4]
  have a5 : ρ5 "alike" = some (.list ((alikeS os r.f).map .bool)) := by rw [← hρ5]; simp [varE, upd, restrN, bindP, ofString_inj, ofString_beq, List.lookup, Rw.enc, a4]
  have w5 : ρ5 "without" = some (.bool (M.without (os.map Rw.m) (tl r.f))) := by rw [← hρ5]; simp [varE, upd, restrN, bindP, ofString_inj, ofString_beq, List.lookup, Rw.enc, w4]
  have l5 : ρ5 "shortest" = some (.list ((shortS (longS os r.f)).map .str)) := by rw [← hρ5]; simp [varE, upd, restrN, bindP, ofString_inj, ofString_beq, List.lookup, Rw.enc]
  refine ⟨ρ5, seqS_ret (retS_val ?_)⟩
  unfold M.idle
  refine orE_val ?_ ?_
  · refine boolE_val (cmpE_val (k1 := k) (a := .bool (M.without (os.map Rw.m) (tl r.f))) (b := .bool (r.a || (alikeS os r.f).any id)) (by simp [varE, upd, restrN, bindP, ofString_inj, ofString_beq, List.lookup, Rw.enc, w5]) ?_ (eqD_bool.trans (by rw [alikeS_m]; rfl)))
    refine orE_val (idxE_val (rv ρ5 r5 k) rfl idx1) (boolE_val (cmpE_val (k1 := k) rfl (b := .list ((alikeS os r.f).map .bool)) (by simp [varE, upd, restrN, bindP, ofString_inj, ofString_beq, List.lookup, Rw.enc, a5]) (in_true _)))
  · refine boolE_val (cmpE_val (k1 := k) (sum_val (Nat.le_trans (short_len _) hlong) (fun x hx => h3 x (shortS_sub hx)) l5 s5) (b := .int (share r.f.length : Int)) ?_ (eqD_int.trans ?_))
    · refine idxE_val (k1 := k) (a := shareD) ?_ (oneE_val (a := .str r.f) (by simp [varE, upd, restrN, bindP, ofString_inj, ofString_beq, List.lookup, Rw.enc, f5]) (len_str _)) (share_idx hr)
      simp [varE, upd, restrN, bindP, ofString_inj, ofString_beq, List.lookup, Rw.enc, s5]; rfl
    · congr 1
      have : M.longer (os.map Rw.m) r.m.1 = (longS os r.f).map tl := (longS_m os r.f).symm
      rw [this, ← shortS_m, List.map_map]
      have e : ((shortS (longS os r.f)).map ((fun one => share one.length) ∘ tl)) = (shortS (longS os r.f)).map fun x => share x.length := by
        refine List.map_congr_left fun x _ => ?_
        show share (tl x).length = _; rw [str_len]
      rw [e]
      have e2 : r.m.1.length = r.f.length := (str_len _).symm
      rw [e2]
      rw [decide_eq_decide]
      omega
end Mine
end

section
open PySem PySem.W
set_option Elab.async false
set_option maxRecDepth 100000
set_option linter.unusedVariables false
set_option linter.unusedSimpArgs false
namespace Mine
/-! equality -/
theorem mapO_refl {m : Nat} (ih : ∀ (d : D) (p : PyData), toPy m d = some p → PyData.eqv p p = true) : ∀ (xs : List D) (ps : List PyData), mapO (toPy m) xs = some ps → PyData.eqvAll ps ps = true
  | [], ps, h => by cases h; rfl
  | x :: xs, ps, h => by
    unfold mapO at h
    split at h
    · cases h
    · rename_i y hy
      split at h
      · cases h
      · rename_i ys hys
        cases h
        rw [PyData.eqvAll, ih _ _ hy, mapO_refl ih xs ys hys]; rfl
theorem toPy_refl : ∀ (m : Nat) (d : D) (p : PyData), toPy m d = some p → PyData.eqv p p = true
  | m, d, p, h => by
    cases m with
    | zero =>
      cases d <;> simp only [toPy] at h <;> cases h
      · rfl
      · rename_i b; cases b <;> rfl
      · simp [PyData.eqv]
      · simp [PyData.eqv]
    | succ m =>
      cases d <;> simp only [toPy] at h
      · cases h; rfl
      · cases h; rename_i b; cases b <;> rfl
      · cases h; simp [PyData.eqv]
      · cases h; simp [PyData.eqv]
      · obtain ⟨ps, h1, rfl⟩ := Option.map_eq_some_iff.mp h
        rw [PyData.eqv]; exact mapO_refl (toPy_refl m) _ _ h1
      · obtain ⟨ps, h1, rfl⟩ := Option.map_eq_some_iff.mp h
        rw [PyData.eqv]; exact mapO_refl (toPy_refl m) _ _ h1
      all_goals cases h
theorem eqD_refl {d : D} {p : PyData} (h : toPy 6 d = some p) : eqD d d = some true := by
  unfold eqD; rw [h]; dsimp only; rw [toPy_refl _ _ _ h]
theorem toPy_bools (m : Nat) (l : List Bool) : toPy (m + 1) (.list (l.map .bool)) = some (.list (l.map PyData.bool)) := by
  show (mapO (toPy m) (l.map .bool)).map PyData.list = _
  rw [mapO_bool]; rfl
theorem eqvAll_bools : ∀ a b : List Bool, PyData.eqvAll (a.map .bool) (b.map .bool) = decide (a = b)
  | [], [] => rfl
  | [], _ :: _ => rfl
  | _ :: _, [] => rfl
  | x :: a, y :: b => by
    rw [List.map_cons, List.map_cons, PyData.eqvAll, eqvAll_bools a b]
    cases x <;> cases y <;> simp [PyData.eqv]
theorem eq_bools (a b : List Bool) : eqD (.list (a.map .bool)) (.list (b.map .bool)) = some (decide (a = b)) := by
  unfold eqD
  rw [toPy_bools, toPy_bools]
  show some (PyData.eqvAll _ _) = _
  rw [eqvAll_bools]
theorem mapO_all {α : Type} {m : Nat} (xs : List α) (enc : α → D) (py : α → PyData) (h : ∀ x ∈ xs, toPy m (enc x) = some (py x)) : toPy (m + 1) (.list (xs.map enc)) = some (.list (xs.map py)) := by
  show (mapO (toPy m) (xs.map enc)).map PyData.list = _
  have : mapO (toPy m) (xs.map enc) = some (xs.map py) := by
    induction xs with
    | nil => rfl
    | cons x xs ih =>
      rw [List.map_cons, mapO, h x List.mem_cons_self]; dsimp only
      rw [ih fun y hy => h y (List.mem_cons_of_mem _ hy)]; rfl
  rw [this]; rfl

/-! delays -/
noncomputable def DeOk (d : D) : Prop := d = .none ∨ ∃ i, d = .int i
noncomputable def dePy : D → PyData
  | .int i => .int i
  | _ => .none
theorem dePy_ok {d : D} (h : DeOk d) (m : Nat) : toPy m d = some (dePy d) := by
  rcases h with rfl | ⟨i, rfl⟩ <;> cases m <;> rfl
theorem vD {x : Str} {ρ : Rho} {k : Nat} {d : D} (h : ρ x = some d) (hd : ∀ xs, d ≠ .own xs) : varE x ρ k = some (d, k) := by
  unfold varE; rw [h]; cases d with
  | own xs => exact absurd rfl (hd xs)
  | _ => rfl
noncomputable def lastDe (rs : List Rw) : D := (((rs.reverse.filter fun r : Rw => !isNoneD r.de).map fun r : Rw => r.de) ++ [D.none]).headD D.none
noncomputable def abcL : List Str := [⟨#[97]⟩, ⟨#[98]⟩, ⟨#[99]⟩]
noncomputable def inAll (rs : List Rw) (c : Str) : Bool := rs.all fun r => decide (c ∈ r.ag)
noncomputable def dueD (lead : Str) (rs : List Rw) : D := .list [.list ((abcL.filter (inAll rs)).map .str), .list (rs.map fun r => .list [.str (lead ++ r.f), .bool r.a]), lastDe rs]
noncomputable def rwPy (r : Rw) : PyData := .list [.str r.f, .bool r.a, .list (r.ag.map .str), dePy r.de]
theorem enc_py {r : Rw} (h : DeOk r.de) (m : Nat) : toPy (m + 2) r.enc = some (rwPy r) := by
  show (mapO (toPy (m + 1)) [.str r.f, .bool r.a, .list (r.ag.map .str), r.de]).map PyData.list = _
  simp only [mapO]
  rw [toPy_strs, dePy_ok h]
  rfl
theorem eq_nil_any {α : Type} {xs : List α} {enc : α → D} {py : α → PyData} (h : ∀ x ∈ xs, toPy 5 (enc x) = some (py x)) : eqD (.list (xs.map enc)) (.list []) = some xs.isEmpty := by
  unfold eqD
  rw [mapO_all xs enc py h]
  cases xs <;> rfl
theorem lastDe_ok {rs : List Rw} (h : ∀ r ∈ rs, DeOk r.de) : DeOk (lastDe rs) := by
  unfold lastDe
  cases e : (rs.reverse.filter fun r : Rw => !isNoneD r.de) with
  | nil => exact .inl rfl
  | cons r l =>
    have : r ∈ rs.reverse.filter fun r : Rw => !isNoneD r.de := by rw [e]; exact List.mem_cons_self
    exact h r (by simpa using (List.mem_filter.mp this).1)
theorem due_py {lead : Str} {rs : List Rw} (h : ∀ r ∈ rs, DeOk r.de) : ∃ p, toPy 6 (dueD lead rs) = some p := by
  have e1 := toPy_strs 4 (abcL.filter (inAll rs))
  have e2 : toPy 5 (.list (rs.map fun r => .list [.str (lead ++ r.f), .bool r.a])) = _ := mapO_all (m := 4) rs (fun r => .list [.str (lead ++ r.f), .bool r.a]) (fun r => .list [.str (lead ++ r.f), .bool r.a]) fun x _ => rfl
  have e3 := dePy_ok (lastDe_ok h) 5
  refine ⟨.list [.list ((abcL.filter (inAll rs)).map .str), .list (rs.map fun r => .list [.str (lead ++ r.f), .bool r.a]), dePy (lastDe rs)], ?_⟩
  show (mapO (toPy 5) [_, _, _]).map PyData.list = _
  simp only [mapO]
  rw [e1, e2, e3]
  rfl

theorem ne_def {a b : D} : cmpD .NotEq a b = (eqD a b).map (!·) := by cases a <;> cases b <;> rfl
theorem bf1_rest {fv : List Str} {x : Str} {d : D} {ρ : Rho} (h : x ∉ fv) : bf1 x d (restrN fv ρ) = some (upd (restrN fv ρ) x d) := bf1_val (by unfold restrN; rw [if_neg h])
theorem hereV {x : Str} {ρ : Rho} {d : D} {k : Nat} (hd : ∀ xs, d ≠ .own xs) : varE x (upd ρ x d) k = some (d, k) := vD (by unfold upd; rw [if_pos rfl]) hd

theorem dueF_val (rs : List Rw) (lead : Str) (hb : rs.length ≤ 1000) (hlen : ∀ r ∈ rs, lead.length + r.f.length ≤ 1000) (hde : ∀ r ∈ rs, DeOk r.de) (k : Nat) : dueF [.list (rs.map Rw.enc), .str lead] k = some (dueD lead rs, k) := by
  refine defF_ex rfl ?_
  unfold dueS
  generalize hρ0 : bindP ["told", "lead"] [.list (rs.map Rw.enc), .str lead] = ρ0
  have t0 : ρ0 "told" = some (.list (rs.map Rw.enc)) := by rw [← hρ0]; simp [varE, upd, restrN, bindP, ofString_inj, ofString_beq, List.lookup, Rw.enc]
  have l0 : ρ0 "lead" = some (.str lead) := by rw [← hρ0]; simp [varE, upd, restrN, bindP, ofString_inj, ofString_beq, List.lookup, Rw.enc]
  have e1 : compE ["told"] (itemsL (litE (.str (Str.ofString "abc")))) (loopC (bf1 "agent") (cmpE .Eq (compE ["agent"] (itemsL (varE "told")) (loopC (bf1 "row") (cmpE .NotIn (varE "agent") (idxE (varE "row") (litE (.int 2)))) (oneL (varE "row")))) (listE nilL)) (oneL (varE "agent"))) ρ0 k = some (.list ((abcL.filter (inAll rs)).map .str), k) := by
    refine compE_val (k1 := k) (ds := abcL.map .str) rfl ?_ (by rw [List.length_map]; exact Nat.le_trans (List.length_filter_le _ _) (by decide))
    refine loopC_pure abcL .str _ _ fun c hc => ⟨_, bf1_rest (by rw [List.mem_singleton, ofString_inj]; decide), ?_, fun _ => oneL_val (hereV (by intro xs h; cases h))⟩
    refine cmpE_val (k1 := k) (a := .list ((rs.filter fun r : Rw => !decide (c ∈ r.ag)).map Rw.enc)) (b := .list []) (compE_val (k1 := k) (k2 := k) (ds := rs.map Rw.enc) (itemsL_list (by simp [varE, upd, restrN, bindP, ofString_inj, ofString_beq, List.lookup, Rw.enc, t0])) ?_ ?_) rfl ?_
    · refine loopC_pure rs Rw.enc _ _ fun r hr => ⟨_, bf1_rest (by rw [List.mem_singleton, ofString_inj]; decide), ?_, fun _ => oneL_val (hereV (by intro xs h; cases h))⟩
      refine cmpE_val (k1 := k) (a := .str c) (by simp [varE, upd, restrN, bindP, ofString_inj, ofString_beq, List.lookup, Rw.enc]) (idxE_val (k1 := k) vE rfl idx2) ?_
      show (inD _ _).map _ = _
      rw [in_strs]; rfl
    · rw [List.length_map]; exact Nat.le_trans (List.length_filter_le _ _) (Nat.le_trans hb (by decide))
    · refine (eq_nil_any (py := rwPy) fun x hx => enc_py (hde x (List.mem_filter.mp hx).1) 3).trans ?_
      congr 1
      rw [Bool.eq_iff_iff, List.isEmpty_iff, List.filter_eq_nil_iff]
      unfold inAll
      rw [List.all_eq_true]
      constructor
      · intro h r hr; have := h r hr; simpa using this
      · intro h r hr; have := h r hr; simpa using this
  rw [seqS_next (asgS_val e1)]
  generalize hρ1 : upd ρ0 "agents" (.list ((abcL.filter (inAll rs)).map .str)) = ρ1
  have t1 : ρ1 "told" = some (.list (rs.map Rw.enc)) := by rw [← hρ1]; simp [varE, upd, restrN, bindP, ofString_inj, ofString_beq, List.lookup, Rw.enc, t0]
  have l1 : ρ1 "lead" = some (.str lead) := by rw [← hρ1]; simp [varE, upd, restrN, bindP, ofString_inj, ofString_beq, List.lookup, Rw.enc, l0]
  have a1 : ρ1 "agents" = some (.list ((abcL.filter (inAll rs)).map .str)) := by rw [← hρ1]; simp [varE, upd, restrN, bindP, ofString_inj, ofString_beq, List.lookup, Rw.enc]
  refine ⟨ρ1, seqS_ret (retS_val (listE_val (consL_val (vL a1) (consL_val (k1 := k) (k2 := k) ?_ (consL_val (k1 := k) (k2 := k) ?_ rfl)))))⟩
  · refine compE_val (k1 := k) (itemsL_list (vL t1)) ?_ (by rw [List.length_map]; exact Nat.le_trans hb (by decide))
    refine loopC_map rs Rw.enc _ fun r hr => ⟨_, bf1_rest (by rw [List.mem_singleton, ofString_inj]; decide), ?_⟩
    refine oneL_val (listE_val (consL_val (k1 := k) (k2 := k) (d := .str (lead ++ r.f)) ?_ (consL_val (k1 := k) (k2 := k) (idxE_val (k1 := k) vE rfl idx1) rfl)))
    refine binE_val (k1 := k) (a := .str lead) (by simp [varE, upd, restrN, bindP, ofString_inj, ofString_beq, List.lookup, Rw.enc, l1]) (idxE_val (k1 := k) vE rfl idx0) ?_
    have := hlen r hr
    unfold binD; dsimp only [int2, addD]; rw [if_pos (by unfold big; omega)]
  · refine idxE_val (k1 := k) (a := .list (((rs.reverse.filter fun r : Rw => !isNoneD r.de).map fun r : Rw => r.de) ++ [D.none])) (binE_val (k1 := k) (a := .list ((rs.reverse.filter fun r : Rw => !isNoneD r.de).map fun r : Rw => r.de)) (compE_val (k1 := k) (ds := rs.reverse.map Rw.enc) (itemsL_list ?_) ?_ ?_) (b := D.list [D.none]) (k2 := k) rfl ?_) rfl ?_
    · unfold revE; rw [vL t1]; dsimp only; rw [List.map_reverse]
    · refine loopC_pure rs.reverse Rw.enc _ _ fun r hr => ⟨_, bf1_rest (by simp), ?_, fun _ => oneL_val (idxE_val (k1 := k) vE rfl idx3)⟩
      exact cmpE_val (k1 := k) (idxE_val (k1 := k) (k2 := k) vE rfl idx3) rfl rfl
    · rw [List.length_map]; exact Nat.le_trans (List.length_filter_le _ _) (by rw [List.length_reverse]; exact Nat.le_trans hb (by decide))
    · have h9 : ((rs.reverse.filter fun r : Rw => !isNoneD r.de).map fun r : Rw => r.de).length ≤ 1000 := by
        rw [List.length_map]; exact Nat.le_trans (List.length_filter_le _ _) (by rw [List.length_reverse]; exact hb)
      unfold binD; dsimp only [int2, addD]; rw [if_pos (by simp only [List.length_cons, List.length_nil]; unfold big; omega)]
    · unfold lastDe
      cases (rs.reverse.filter fun r : Rw => !isNoneD r.de).map fun r : Rw => r.de with
      | nil => rfl
      | cons x xs => exact idx0

/-! needed -/
noncomputable def dfltR : Rw := { f := ⟨#[]⟩, a := false, ag := [], de := .none }
noncomputable def getW (rs : List Rw) (j : Nat) : Rw := rs.getD j dfltR
theorem getW_m (rs : List Rw) (j : Nat) : (getW rs j).m = M.getR (rs.map Rw.m) j := by
  unfold getW M.getR
  by_cases h : j < rs.length
  · simp [List.getD, h]
  · simp [List.getD, h]; rfl
theorem getW_mem {rs : List Rw} {j : Nat} (h : j < rs.length) : getW rs j ∈ rs := by
  unfold getW
  have : rs.getD j dfltR = rs[j] := by simp [List.getD, h]
  rw [this]; exact List.getElem_mem _
theorem idxW {rs : List Rw} {j : Nat} (h : j < rs.length) (hb : rs.length ≤ 1000) : idxD (.list (rs.map Rw.enc)) (.int (j : Int)) = some (getW rs j).enc := by
  unfold idxD; dsimp only
  rw [if_pos ⟨by omega, by omega⟩]
  simp [getW, List.getD, h]
noncomputable def intsL (ks : List Nat) : List D := ks.map fun j : Nat => .int (j : Int)
theorem M.drops_length (test : List Nat → Nat → Bool) : ∀ (ks kept : List Nat), (M.drops test ks kept).length ≤ kept.length
  | [], kept => Nat.le_refl _
  | k :: ks, kept => by
    rw [M.drops]
    refine Nat.le_trans (M.drops_length test ks _) ?_
    split
    · exact List.length_filter_le _ _
    · exact Nat.le_refl _
theorem needed_loop (rs : List Rw) (hb : rs.length ≤ 1000) (hl : ∀ r ∈ rs, r.f.length ≤ 3) (k : Nat) (F : Sx)
    (hF : F = seqS (asgS "others" (compE ["k"] (itemsL (varE "kept")) (loopC (bf1 "j") (cmpE .NotEq (varE "j") (varE "k")) (oneL (varE "j")))))
      (seqS (asgS "kept" (iteE (truthE (callE idleF (consL (compE ["told"] (itemsL (varE "others")) (loopC (bf1 "j") trueT (oneL (idxE (varE "told") (varE "j"))))) (consL (idxE (varE "told") (varE "k")) nilL)))) (varE "others") (varE "kept")))
      nilS)) : ∀ (ks kept : List Nat) (ρ : Rho), (∀ j ∈ ks, j < rs.length) → (∀ j ∈ kept, j < rs.length) → kept.length ≤ 1000 →
      ρ "told" = some (.list (rs.map Rw.enc)) → ρ "kept" = some (.list (intsL kept)) →
      ∃ ρ', loopS (bfS "k") F nilS (intsL ks) ρ k = some (.next, ρ', k) ∧ ρ' "told" = some (.list (rs.map Rw.enc)) ∧
        ρ' "kept" = some (.list (intsL (M.drops (fun others k => M.idle share (others.map (M.getR (rs.map Rw.m))) (M.getR (rs.map Rw.m) k)) ks kept))) := by
  intro ks
  induction ks with
  | nil => intro kept ρ _ _ _ h1 h2; exact ⟨ρ, rfl, h1, h2⟩
  | cons i ks ih =>
    intro kept ρ hks hkept hlen h1 h2
    have hi := hks i List.mem_cons_self
    generalize hρ1 : upd ρ "k" (.int (i : Int)) = ρ1
    have t1 : ρ1 "told" = some (.list (rs.map Rw.enc)) := by rw [← hρ1]; simp [varE, upd, restrN, bindP, ofString_inj, ofString_beq, List.lookup, Rw.enc, h1]
    have p1 : ρ1 "kept" = some (.list (intsL kept)) := by rw [← hρ1]; simp [varE, upd, restrN, bindP, ofString_inj, ofString_beq, List.lookup, Rw.enc, h2]
    have k1 : ρ1 "k" = some (.int (i : Int)) := by rw [← hρ1]; simp [varE, upd, restrN, bindP, ofString_inj, ofString_beq, List.lookup, Rw.enc]
    have hol : (kept.filter fun j => decide (j ≠ i)).length ≤ 1000 := Nat.le_trans (List.length_filter_le _ _) hlen
    have hom : ∀ j ∈ kept.filter fun j => decide (j ≠ i), j < rs.length := fun j hj => hkept j (List.mem_filter.mp hj).1
    have e1 : compE ["k"] (itemsL (varE "kept")) (loopC (bf1 "j") (cmpE .NotEq (varE "j") (varE "k")) (oneL (varE "j"))) ρ1 k = some (.list (intsL (kept.filter fun j => decide (j ≠ i))), k) := by
      refine compE_val (k1 := k) (itemsL_list (vL p1)) ?_ (by unfold intsL; rw [List.length_map]; exact Nat.le_trans hol (by decide))
      refine loopC_pure kept _ _ _ fun j hj => ⟨_, bf1_rest (by rw [List.mem_singleton, ofString_inj]; decide), ?_, fun _ => oneL_val (hereV (by intro xs h; cases h))⟩
      refine cmpE_val (k1 := k) (hereV (by intro xs h; cases h)) (b := .int (i : Int)) (by simp [varE, upd, restrN, bindP, ofString_inj, ofString_beq, List.lookup, Rw.enc, k1]) ?_
      rw [ne_def, eqD_int]
      show some _ = _
      congr 1
      rw [Bool.eq_iff_iff]
      simp only [Bool.not_eq_true', decide_eq_false_iff_not, decide_eq_true_eq]
      omega
    generalize hoth : (kept.filter fun j => decide (j ≠ i)) = oth at *
    generalize hρ2 : upd ρ1 "others" (.list (intsL oth)) = ρ2
    have t2 : ρ2 "told" = some (.list (rs.map Rw.enc)) := by rw [← hρ2]; simp [varE, upd, restrN, bindP, ofString_inj, ofString_beq, List.lookup, Rw.enc, t1]
    have p2 : ρ2 "kept" = some (.list (intsL kept)) := by rw [← hρ2]; simp [varE, upd, restrN, bindP, ofString_inj, ofString_beq, List.lookup, Rw.enc, p1]
    have k2 : ρ2 "k" = some (.int (i : Int)) := by rw [← hρ2]; simp [varE, upd, restrN, bindP, ofString_inj, ofString_beq, List.lookup, Rw.enc, k1]
    have o2 : ρ2 "others" = some (.list (intsL oth)) := by rw [← hρ2]; simp [varE, upd, restrN, bindP, ofString_inj, ofString_beq, List.lookup, Rw.enc]
    have e2 : callE idleF (consL (compE ["told"] (itemsL (varE "others")) (loopC (bf1 "j") trueT (oneL (idxE (varE "told") (varE "j"))))) (consL (idxE (varE "told") (varE "k")) nilL)) ρ2 k = some (.bool (M.idle share (oth.map (M.getR (rs.map Rw.m))) (M.getR (rs.map Rw.m) i)), k) := by
      refine (callE_val (consL_val (k1 := k) (d := .list ((oth.map (getW rs)).map Rw.enc)) (compE_val (k1 := k) (itemsL_list (vL o2)) ?_ (by rw [List.length_map, List.length_map]; exact Nat.le_trans hol (by decide))) (consL_val (k1 := k) (idxE_val (k1 := k) (vL t2) (b := .int (i : Int)) (by simp [varE, upd, restrN, bindP, ofString_inj, ofString_beq, List.lookup, Rw.enc, k2]) (idxW hi hb)) rfl))).trans ?_
      · rw [List.map_map]
        refine loopC_map oth _ _ fun j hj => ⟨_, bf1_rest (by rw [List.mem_singleton, ofString_inj]; decide), ?_⟩
        exact oneL_val (idxE_val (k1 := k) (a := .list (rs.map Rw.enc)) (by simp [varE, upd, restrN, bindP, ofString_inj, ofString_beq, List.lookup, Rw.enc, t2]) (hereV (by intro xs h; cases h)) (idxW (hom j hj) hb))
      · rw [idleF_val _ _ (by rw [List.length_map]; exact hol) (fun o ho => by
          obtain ⟨j, hj, rfl⟩ := List.mem_map.mp ho
          exact hl _ (getW_mem (hom j hj))) (hl _ (getW_mem hi)), List.map_map, getW_m]
        congr 4
        refine List.map_congr_left fun j _ => ?_
        exact getW_m rs j
    have e3 : iteE (truthE (callE idleF (consL (compE ["told"] (itemsL (varE "others")) (loopC (bf1 "j") trueT (oneL (idxE (varE "told") (varE "j"))))) (consL (idxE (varE "told") (varE "k")) nilL)))) (varE "others") (varE "kept") ρ2 k = some (.list (intsL (if M.idle share (oth.map (M.getR (rs.map Rw.m))) (M.getR (rs.map Rw.m) i) then oth else kept)), k) := by
      refine (iteE_val (b := M.idle share (oth.map (M.getR (rs.map Rw.m))) (M.getR (rs.map Rw.m) i)) ?_ (vL o2) (vL p2)).trans ?_
      · unfold truthE; rw [e2]; rfl
      · split <;> rfl
    obtain ⟨ρ', h5, h6, h7⟩ := ih (if M.idle share (oth.map (M.getR (rs.map Rw.m))) (M.getR (rs.map Rw.m) i) then oth else kept) (upd ρ2 "kept" (.list (intsL (if M.idle share (oth.map (M.getR (rs.map Rw.m))) (M.getR (rs.map Rw.m) i) then oth else kept)))) (fun j hj => hks j (List.mem_cons_of_mem _ hj))
      (by split; exact hom; exact hkept) (by split; exact hol; exact hlen) (by simp [varE, upd, restrN, bindP, ofString_inj, ofString_beq, List.lookup, Rw.enc, t2]) (by simp [varE, upd, restrN, bindP, ofString_inj, ofString_beq, List.lookup, Rw.enc])
    refine ⟨ρ', ?_, h6, ?_⟩
    · rw [show intsL (i :: ks) = D.int (i : Int) :: intsL ks from rfl]
      unfold loopS
      have : bfS "k" (.int (i : Int)) ρ = some ρ1 := by rw [← hρ1]; rfl
      rw [this]; dsimp only
      have e9 : F ρ1 k = some (.next, upd ρ2 "kept" (.list (intsL (if M.idle share (oth.map (M.getR (rs.map Rw.m))) (M.getR (rs.map Rw.m) i) then oth else kept))), k) := by
        rw [hF, seqS_next (asgS_val e1), hρ2, seqS_next (asgS_val e3)]; rfl
      rw [e9]; exact h5
    · rw [M.drops, hoth]; exact h7
theorem neededF_val (rs : List Rw) (hb : rs.length ≤ 1000) (hl : ∀ r ∈ rs, r.f.length ≤ 3) (k : Nat) : neededF [.list (rs.map Rw.enc)] k = some (.list (((M.drops (fun others k => M.idle share (others.map (M.getR (rs.map Rw.m))) (M.getR (rs.map Rw.m) k)) (List.range rs.length) (List.range rs.length)).map (getW rs)).map Rw.enc), k) := by
  refine defF_ex rfl ?_
  unfold neededS
  generalize hρ0 : bindP ["told"] [.list (rs.map Rw.enc)] = ρ0
  have t0 : ρ0 "told" = some (.list (rs.map Rw.enc)) := by rw [← hρ0]; simp [varE, upd, restrN, bindP, ofString_inj, ofString_beq, List.lookup, Rw.enc]
  have hrange : rangeD (.int ((rs.map Rw.enc).length : Nat)) = some (intsL (List.range rs.length)) := by
    unfold rangeD; dsimp only; rw [if_pos ⟨by rw [List.length_map]; omega, by omega⟩, List.length_map]; rfl
  have e1 : listRangeE (oneE lenD (varE "told")) ρ0 k = some (.list (intsL (List.range rs.length)), k) := by
    unfold listRangeE
    rw [oneE_val (vL t0) (rfl : lenD _ = _)]; dsimp only
    rw [hrange]
  rw [seqS_next (asgS_val e1)]
  generalize hρ1 : upd ρ0 "kept" (.list (intsL (List.range rs.length))) = ρ1
  have t1 : ρ1 "told" = some (.list (rs.map Rw.enc)) := by rw [← hρ1]; simp [varE, upd, restrN, bindP, ofString_inj, ofString_beq, List.lookup, Rw.enc, t0]
  have p1 : ρ1 "kept" = some (.list (intsL (List.range rs.length))) := by rw [← hρ1]; simp [varE, upd, restrN, bindP, ofString_inj, ofString_beq, List.lookup, Rw.enc]
  obtain ⟨ρ', h5, h6, h7⟩ := needed_loop rs hb hl k _ rfl (List.range rs.length) (List.range rs.length) ρ1 (fun j hj => List.mem_range.mp hj) (fun j hj => List.mem_range.mp hj) (by rw [List.length_range]; exact hb) t1 p1
  refine ⟨ρ', ?_⟩
  rw [seqS_next (ρ' := ρ') (k' := k)]
  · refine seqS_ret (retS_val (compE_val (k1 := k) (itemsL_list (vL h7)) ?_ ?_))
    · rw [List.map_map]
      refine loopC_map _ _ _ fun j hj => ⟨_, bf1_rest (by rw [List.mem_singleton, ofString_inj]; decide), ?_⟩
      exact oneL_val (idxE_val (k1 := k) (a := .list (rs.map Rw.enc)) (by simp [varE, upd, restrN, bindP, ofString_inj, ofString_beq, List.lookup, Rw.enc, h6]) (hereV (by intro xs h; cases h)) (idxW (List.mem_range.mp (M.drops_sub _ _ _ _ hj)) hb))
    · rw [List.length_map, List.length_map]
      refine Nat.le_trans (M.drops_length _ _ _) ?_
      rw [List.length_range]; exact Nat.le_trans hb (by decide)
  · unfold forS
    have : rangeL (oneE lenD (varE "told")) ρ1 k = some (intsL (List.range rs.length), k) := by
      unfold rangeL
      rw [oneE_val (vL t1) (rfl : lenD _ = _)]; dsimp only
      rw [hrange]
    rw [this]; exact h5
end Mine
end

section
open PySem PySem.W
set_option Elab.async false
set_option maxRecDepth 100000
set_option linter.unusedVariables false
set_option linter.unusedSimpArgs false
namespace Mine
noncomputable def rulesD (lead : Str) (rs : List Rw) : List D := rs.map fun r : Rw => .rule (lead ++ r.f) r.a
noncomputable def entR (lead : Str) (id : Nat) (r : Rw) : D := .ent id (r.ag.reverse.map .str) [.rule (lead ++ r.f) r.a] r.de
noncomputable def mgR (lead : Str) (id : Nat) (rs : List Rw) : D := .ent id ((abcL.filter (inAll rs)).map .str) (rulesD lead rs) (lastDe rs)
theorem strsD_map : ∀ l : List Str, strsD (l.map .str) = some l
  | [] => rfl
  | x :: l => by rw [List.map_cons, strsD, strsD_map l]
theorem lastDe_append (A B : List Rw) : lastDe (A ++ B) = if isNoneD (lastDe B) then lastDe A else lastDe B := by
  unfold lastDe
  rw [List.reverse_append, List.filter_append, List.map_append]
  have hno : ∀ x ∈ (B.reverse.filter fun r : Rw => !isNoneD r.de), isNoneD x.de = false := fun x hx => by
    have := (List.mem_filter.mp hx).2; simpa using this
  revert hno
  cases (B.reverse.filter fun r : Rw => !isNoneD r.de) with
  | nil => intro _; rfl
  | cons x xs =>
    intro hno
    have := hno x List.mem_cons_self
    simp [this]
theorem lastDe_one (r : Rw) : lastDe [r] = r.de := by
  unfold lastDe
  cases h : r.de <;> simp [h, isNoneD]
theorem inAll_append (A B : List Rw) (c : Str) : inAll (A ++ B) c = (inAll A c && inAll B c) := by unfold inAll; exact List.all_append
theorem abc_len (p : Str → Bool) : (abcL.filter p).length ≤ 3 := List.length_filter_le _ _
theorem filterD_val {a b : List Str} (ha : a.length ≤ 1000) (hb : b.length ≤ 1000) : filterD (.list (a.map .str)) (.list (b.map .str)) = some (.list ((b.filter fun x => decide (x ∈ a)).map .str)) := by
  unfold filterD
  dsimp only
  rw [strsD_map, strsD_map]
  dsimp only
  rw [if_pos ⟨ha, hb⟩]
theorem merge_one (lead : Str) (i j : Nat) (A : List Rw) (r : Rw) (hA : A.length ≤ 1000) (hr : r.ag.length ≤ 1000) (k : Nat) : mergeF [mgR lead i A, entR lead j r] k = some (mgR lead k (A ++ [r]), k + 1) := by
  unfold mergeF mgR entR
  dsimp only
  rw [filterD_val (by rw [List.length_reverse]; exact hr) (Nat.le_trans (abc_len _) (by decide))]
  dsimp only
  rw [if_pos (by unfold rulesD; rw [List.length_map]; simp only [List.length_cons, List.length_nil]; unfold big; omega)]
  have e : (abcL.filter fun c => decide (c ∈ r.ag.reverse) && inAll A c) = abcL.filter (inAll (A ++ [r])) := by
    refine List.filter_congr fun c _ => ?_
    rw [inAll_append]
    unfold inAll
    simp [Bool.and_comm]
  rw [List.filter_filter, lastDe_append, lastDe_one, e]
  unfold rulesD
  rw [List.map_append]
  rfl
theorem merge_two (lead : Str) (i j : Nat) (A B : List Rw) (hA : A.length ≤ 1000) (hB : B.length ≤ 1000) (k : Nat) : mergeF [mgR lead i A, mgR lead j B] k = some (mgR lead k (A ++ B), k + 1) := by
  unfold mergeF mgR
  dsimp only
  rw [filterD_val (Nat.le_trans (abc_len _) (by decide)) (Nat.le_trans (abc_len _) (by decide))]
  dsimp only
  rw [if_pos (by unfold rulesD; rw [List.length_map, List.length_map]; unfold big; omega)]
  have e : (abcL.filter fun c => decide (c ∈ abcL.filter (inAll B)) && inAll A c) = abcL.filter (inAll (A ++ B)) := by
    refine List.filter_congr fun c hc => ?_
    rw [inAll_append, Bool.and_comm]
    congr 1
    rw [Bool.eq_iff_iff, decide_eq_true_eq, List.mem_filter]
    exact ⟨fun h => h.2, fun h => ⟨hc, h⟩⟩
  rw [List.filter_filter, lastDe_append, e]
  unfold rulesD
  rw [List.map_append]
theorem fold_merge (lead : Str) : ∀ (ps : List (Nat × Rw)) (A : List Rw) (i k : Nat), A.length + ps.length ≤ 1000 → (∀ p ∈ ps, p.2.ag.length ≤ 1000) →
    ∃ i' k', foldM mergeF (ps.map fun p => entR lead p.1 p.2) (mgR lead i A) k = some (mgR lead i' (A ++ ps.map (·.2)), k')
  | [], A, i, k, _, _ => ⟨i, k, by simp [foldM]⟩
  | p :: ps, A, i, k, h, hp => by
    obtain ⟨i', k', e⟩ := fold_merge lead ps (A ++ [p.2]) k (k + 1) (by simp only [List.length_append, List.length_cons, List.length_nil] at *; omega) fun q hq => hp q (List.mem_cons_of_mem _ hq)
    refine ⟨i', k', ?_⟩
    rw [List.map_cons, foldM, merge_one lead i p.1 A p.2 (by simp only [List.length_cons] at h; omega) (hp p List.mem_cons_self)]
    dsimp only
    rw [e]; simp
theorem mergedF_val (lead : Str) (ps : List (Nat × Rw)) (h : ps.length ≤ 1000) (hp : ∀ p ∈ ps, p.2.ag.length ≤ 1000) (k : Nat) : ∃ i k', mergedF [.list (ps.map fun p => entR lead p.1 p.2)] k = some (mgR lead i (ps.map (·.2)), k') := by
  obtain ⟨i, k', e⟩ := fold_merge lead ps [] k (k + 1) (by simpa using h) hp
  refine ⟨i, k', defF_ex rfl ⟨_, seqS_ret (retS_val (callE_val (consL_val (k1 := k) (d := .fn 63) rfl (consL_val (k1 := k) (d := .list (ps.map fun p => entR lead p.1 p.2)) (k2 := k + 1) (ds := [mgR lead k []]) ?_ (consL_val (k1 := k + 1) (k2 := k + 1) ?_ rfl)) ) |>.trans ?_))⟩⟩
  · exact vL (by simp [varE, upd, restrN, bindP, ofString_inj, ofString_beq, List.lookup, Rw.enc])
  · rfl
  · unfold reduceF mgR
    dsimp only
    rw [if_pos rfl]
    exact e
theorem partsF_val (lead : Str) (i : Nat) (rs : List Rw) (hb : rs.length ≤ 1000) (k : Nat) : partsF [mgR lead i rs] k = some (dueD lead rs, k) := by
  have v : ∀ k, varE "entry" (bindP ["entry"] [mgR lead i rs]) k = some (mgR lead i rs, k) := fun k => by
    unfold mgR; simp [varE, upd, restrN, bindP, ofString_inj, ofString_beq, List.lookup, Rw.enc]
  refine defF_ex rfl ⟨_, seqS_ret (retS_val (listE_val (consL_val (k1 := k) (k2 := k) (oneE_val (v k) ?_) (consL_val (k1 := k) (k2 := k) ?_ (consL_val (k1 := k) (k2 := k) (oneE_val (v k) ?_) rfl)))))⟩
  · unfold mgR attrD; dsimp only; rw [if_pos rfl]
  · refine compE_val (k1 := k) (ds := rs.map fun r : Rw => .rule (lead ++ r.f) r.a) (itemsL_list (oneE_val (v k) ?_)) ?_ (by rw [List.length_map]; exact Nat.le_trans hb (by decide))
    · unfold mgR attrD; dsimp only; rw [if_neg (by rw [ofString_inj]; decide), if_pos rfl]; rfl
    · refine loopC_map rs (fun r : Rw => .rule (lead ++ r.f) r.a) _ fun r hr => ⟨_, bf1_rest (by simp), ?_⟩
      refine oneL_val (listE_val (consL_val (k1 := k) (k2 := k) (oneE_val (hereV (by intro xs h; cases h)) rfl) (consL_val (k1 := k) (k2 := k) (oneE_val (hereV (by intro xs h; cases h)) ?_) rfl)))
      unfold attrD; dsimp only; rw [if_pos rfl]
  · unfold mgR attrD; dsimp only; rw [if_neg (by rw [ofString_inj]; decide), if_neg (by rw [ofString_inj]; decide), if_pos rfl]
end Mine
end

section
open PySem PySem.W
set_option Elab.async false
set_option maxRecDepth 100000
set_option linter.unusedVariables false
set_option linter.unusedSimpArgs false
namespace Mine
namespace M
theorem longest_snoc (A : List R) (r : R) (s : S) : longest (A ++ [r]) s = if pre r.1 s then some (match longest A s with | none => r.1.length | some k => max k r.1.length) else longest A s := by
  unfold longest
  rw [List.filter_append, List.foldl_append]
  cases h : pre r.1 s with
  | false =>
    have : ([r].filter fun r => pre r.1 s) = [] := by rw [List.filter_cons, if_neg (by simp [h])]; rfl
    rw [this]; rfl
  | true =>
    have : ([r].filter fun r => pre r.1 s) = [r] := by rw [List.filter_cons, if_pos h]; rfl
    rw [this, if_pos rfl]
    show (match _ with | none => some r.1.length | some k => some (max k r.1.length)) = _
    cases (A.filter fun r => pre r.1 s).foldl (fun m r => match m with | none => some r.1.length | some k => some (max k r.1.length)) none <;> rfl
theorem pre_len {f s : S} (h : pre f s = true) : f.length ≤ s.length := (pre_iff.mp h).length_le
theorem verdict_snoc (A : List R) (r : R) (s : S) : verdict (A ++ [r]) s = if pre r.1 s then (match longest A s with | none => r.2 | some k => if k < r.1.length then r.2 else if k = r.1.length then verdict A s || r.2 else verdict A s) else verdict A s := by
  cases hp : pre r.1 s with
  | false =>
    unfold verdict
    rw [longest_snoc, hp]
    rw [if_neg (by simp), if_neg (by simp)]
    cases hl : longest A s with
    | none => rfl
    | some k =>
      dsimp only
      rw [List.any_append]
      have : decide (r.1 = s.take k) = false := by
        rw [decide_eq_false_iff_not]
        intro e
        have : pre r.1 s = true := pre_iff.mpr (e ▸ List.take_prefix _ _)
        rw [hp] at this; cases this
      simp [this]
  | true =>
    rw [if_pos rfl]
    have hr : r.1 = s.take r.1.length := List.prefix_iff_eq_take.mp (pre_iff.mp hp)
    have hlen := pre_len hp
    unfold verdict
    rw [longest_snoc, hp, if_pos rfl]
    cases hl : longest A s with
    | none =>
      dsimp only
      rw [List.any_append]
      have h0 : (A.any fun q => decide (q.1 = s.take r.1.length) && q.2) = false := by
        rw [List.any_eq_false]
        intro q hq
        have := longest_none hl q hq
        simp only [Bool.and_eq_true, decide_eq_true_eq, not_and]
        intro e
        have h2 : pre q.1 s = true := pre_iff.mpr (e ▸ List.take_prefix _ _)
        rw [this] at h2; cases h2
      rw [h0]
      simp [← hr]
    | some k =>
      obtain ⟨h1, q, hq, hqp, hqk⟩ := longest_some hl
      dsimp only
      have hk := pre_len hqp
      rw [List.any_append]
      by_cases c1 : k < r.1.length
      · rw [if_pos c1, Nat.max_eq_right (by omega)]
        have h0 : (A.any fun q => decide (q.1 = s.take r.1.length) && q.2) = false := by
          rw [List.any_eq_false]
          intro q' hq'
          simp only [Bool.and_eq_true, decide_eq_true_eq, not_and]
          intro e
          have h2 : pre q'.1 s = true := pre_iff.mpr (e ▸ List.take_prefix _ _)
          have h3 := h1 q' hq' h2
          rw [e, List.length_take] at h3
          omega
        rw [h0]; simp [← hr]
      · rw [if_neg c1, Nat.max_eq_left (by omega)]
        by_cases c2 : k = r.1.length
        · subst c2
          rw [if_pos rfl]
          congr 1
          simp [← hr]
        · rw [if_neg c2]
          have : decide (r.1 = s.take k) = false := by
            rw [decide_eq_false_iff_not]
            intro e
            have := congrArg List.length e
            rw [List.length_take] at this
            omega
          simp [this]
theorem pre_app {f s t : S} (h : f.length ≤ s.length) : pre f (s ++ t) = pre f s := by
  unfold pre; rw [List.take_append_of_le_length h]
theorem verdict_trunc {rs : List R} {s t : S} (h : ∀ r ∈ rs, r.1.length ≤ s.length) : verdict rs (s ++ t) = verdict rs s := by
  have hf : (rs.filter fun r => pre r.1 (s ++ t)) = rs.filter fun r => pre r.1 s := List.filter_congr fun r hr => pre_app (h r hr)
  have hl : longest rs (s ++ t) = longest rs s := by unfold longest; rw [hf]
  unfold verdict
  rw [hl]
  cases hk : longest rs s with
  | none => rfl
  | some k =>
    obtain ⟨_, q, hq, _, hqk⟩ := longest_some hk
    have := h q hq
    dsimp only
    rw [List.take_append_of_le_length (by omega)]
end M
theorem tl_append (x y : Str) : tl (x ++ y) = tl x ++ tl y := by
  show (x ++ y).cps.toList = _
  have : (x ++ y).cps = x.cps ++ y.cps := rfl
  rw [this, Array.toList_append]
theorem strLen (x y : Str) : (x ++ y).length = x.length + y.length := by rw [str_len, str_len, str_len]; have := tl_append x y; unfold tl at this; rw [this, List.length_append]
theorem appVal_val (lead f s : Str) : appVal (lead ++ f) (lead ++ s) = if M.pre (tl f) (tl s) then ((lead.length + f.length + 1 : Nat) : Int) else 0 := by
  have e : decide (strTake (lead ++ s) (lead ++ f).length = lead ++ f) = M.pre (tl f) (tl s) := by
    rw [pre_str]
    have h1 := tl_append lead f
    have h2 := tl_append lead s
    unfold tl at *
    rw [h1, h2, Bool.eq_iff_iff, M.pre_iff, M.pre_iff]
    exact List.prefix_append_right_inj _
  unfold appVal
  by_cases h : strTake (lead ++ s) (lead ++ f).length = lead ++ f
  · rw [decide_eq_true h] at e
    rw [if_pos h, if_pos e.symm, strLen]; omega
  · rw [decide_eq_false h] at e
    rw [if_neg h, if_neg (by rw [← e]; simp)]
noncomputable def bestV (lead : Str) : Option Nat → Int
  | none => -1
  | some k => ((lead.length + k + 1 : Nat) : Int)
theorem allow_loop (lead s : Str) (k : Nat) (F : Sx)
    (hF : F = seqS (asgS "m" (twoE appD (varE "line") (varE "filename")))
      (seqS (ifS (truthE (varE "m")) (seqS (ifS (cmpE .Gt (varE "m") (varE "best_match")) (seqS (asgS "best_match" (varE "m"))
      (seqS (asgS "allowance" (oneE (attrD "allowance") (varE "line")))
      nilS)) (seqS (ifS (andT (cmpE .Eq (varE "m") (varE "best_match")) (notT (truthE (varE "allowance")))) (seqS (asgS "allowance" (oneE (attrD "allowance") (varE "line")))
      nilS) nilS)
      nilS))
      nilS) nilS)
      nilS)) : ∀ (rs A : List Rw) (ρ : Rho), ρ "filename" = some (.str (lead ++ s)) → ρ "best_match" = some (.int (bestV lead (M.longest (A.map Rw.m) (tl s)))) → ρ "allowance" = some (.bool (M.verdict (A.map Rw.m) (tl s))) →
      ∃ ρ', loopS (bfS "line") F nilS (rulesD lead rs) ρ k = some (.next, ρ', k) ∧ ρ' "allowance" = some (.bool (M.verdict ((A ++ rs).map Rw.m) (tl s))) := by
  intro rs
  induction rs with
  | nil => intro A ρ h1 h2 h3; exact ⟨ρ, rfl, by simpa using h3⟩
  | cons r rs ih =>
    intro A ρ h1 h2 h3
    have step : ∃ ρ2, F (upd ρ "line" (.rule (lead ++ r.f) r.a)) k = some (.next, ρ2, k) ∧ ρ2 "filename" = some (.str (lead ++ s)) ∧ ρ2 "best_match" = some (.int (bestV lead (M.longest ((A ++ [r]).map Rw.m) (tl s)))) ∧ ρ2 "allowance" = some (.bool (M.verdict ((A ++ [r]).map Rw.m) (tl s))) := by
      have em : twoE appD (varE "line") (varE "filename") (upd ρ "line" (.rule (lead ++ r.f) r.a)) k = some (.int (appVal (lead ++ r.f) (lead ++ s)), k) :=
        twoE_val (k1 := k) (hereV (by intro xs h; cases h)) (b := .str (lead ++ s)) (by simp [varE, upd, restrN, bindP, ofString_inj, ofString_beq, List.lookup, Rw.enc, h1]) rfl
      rw [hF, seqS_next (asgS_val em), appVal_val]
      rw [List.map_append, List.map_cons, List.map_nil, M.longest_snoc, M.verdict_snoc]
      cases hp : M.pre r.m.1 (tl s) with
      | false =>
        have hp' : M.pre (tl r.f) (tl s) = false := hp
        rw [hp', if_neg (by simp), if_neg (by simp), if_neg (by simp)]
        generalize hρ1 : upd (upd ρ "line" (.rule (lead ++ r.f) r.a)) "m" (.int 0) = ρ1
        have t : truthE (varE "m") ρ1 k = some (false, k) := by
          unfold truthE
          have : varE "m" ρ1 k = some (.int 0, k) := by rw [← hρ1]; simp [varE, upd, restrN, bindP, ofString_inj, ofString_beq, List.lookup, Rw.enc]
          rw [this]; rfl
        refine ⟨ρ1, ?_, by rw [← hρ1]; simp [varE, upd, restrN, bindP, ofString_inj, ofString_beq, List.lookup, Rw.enc, h1], by rw [← hρ1]; simp [varE, upd, restrN, bindP, ofString_inj, ofString_beq, List.lookup, Rw.enc, h2], by rw [← hρ1]; simp [varE, upd, restrN, bindP, ofString_inj, ofString_beq, List.lookup, Rw.enc, h3]⟩
        rw [seqS_next (ρ' := ρ1) (k' := k)]
        · rfl
        · rw [ifS_false t]; rfl
      | true =>
        have hp' : M.pre (tl r.f) (tl s) = true := hp
        have hrl : r.m.1.length = r.f.length := (str_len r.f).symm
        rw [hp', if_pos rfl, if_pos rfl, if_pos rfl]
        generalize hρ1 : upd (upd ρ "line" (.rule (lead ++ r.f) r.a)) "m" (.int ((lead.length + r.f.length + 1 : Nat) : Int)) = ρ1
        have vm : varE "m" ρ1 k = some (.int ((lead.length + r.f.length + 1 : Nat) : Int), k) := by rw [← hρ1]; simp [varE, upd, restrN, bindP, ofString_inj, ofString_beq, List.lookup, Rw.enc]
        have vl : varE "line" ρ1 k = some (.rule (lead ++ r.f) r.a, k) := by rw [← hρ1]; simp [varE, upd, restrN, bindP, ofString_inj, ofString_beq, List.lookup, Rw.enc]
        have vb : varE "best_match" ρ1 k = some (.int (bestV lead (M.longest (A.map Rw.m) (tl s))), k) := by rw [← hρ1]; simp [varE, upd, restrN, bindP, ofString_inj, ofString_beq, List.lookup, Rw.enc, h2]
        have va : varE "allowance" ρ1 k = some (.bool (M.verdict (A.map Rw.m) (tl s)), k) := by rw [← hρ1]; simp [varE, upd, restrN, bindP, ofString_inj, ofString_beq, List.lookup, Rw.enc, h3]
        have f1 : ρ1 "filename" = some (.str (lead ++ s)) := by rw [← hρ1]; simp [varE, upd, restrN, bindP, ofString_inj, ofString_beq, List.lookup, Rw.enc, h1]
        have b1 : ρ1 "best_match" = some (.int (bestV lead (M.longest (A.map Rw.m) (tl s)))) := by rw [← hρ1]; simp [varE, upd, restrN, bindP, ofString_inj, ofString_beq, List.lookup, Rw.enc, h2]
        have a1 : ρ1 "allowance" = some (.bool (M.verdict (A.map Rw.m) (tl s))) := by rw [← hρ1]; simp [varE, upd, restrN, bindP, ofString_inj, ofString_beq, List.lookup, Rw.enc, h3]
        have t : truthE (varE "m") ρ1 k = some (true, k) := by
          unfold truthE
          rw [vm]
          dsimp only [truthD]
          have : ((((lead.length + r.f.length + 1 : Nat) : Int) != 0) : Bool) = true := by rw [bne_iff_ne]; omega
          rw [this]
        have attr : ∀ ρ, varE "line" ρ k = some (.rule (lead ++ r.f) r.a, k) → oneE (attrD "allowance") (varE "line") ρ k = some (.bool r.a, k) := fun ρ vl => oneE_val vl (by unfold attrD; dsimp only; rw [if_pos rfl])
        have tgt : cmpE .Gt (varE "m") (varE "best_match") ρ1 k = some (decide (bestV lead (M.longest (A.map Rw.m) (tl s)) < ((lead.length + r.f.length + 1 : Nat) : Int)), k) := cmpE_val vm vb rfl
        have teq : andT (cmpE .Eq (varE "m") (varE "best_match")) (notT (truthE (varE "allowance"))) ρ1 k = some (decide (((lead.length + r.f.length + 1 : Nat) : Int) = bestV lead (M.longest (A.map Rw.m) (tl s))) && !M.verdict (A.map Rw.m) (tl s), k) := by
          refine andT_val (cmpE_val vm vb eqD_int) ?_
          unfold notT truthE; rw [va]; rfl
        -- the new one is taken
        have take : bestV lead (M.longest (A.map Rw.m) (tl s)) < ((lead.length + r.f.length + 1 : Nat) : Int) → ∃ ρ2, seqS (ifS (truthE (varE "m")) (seqS (ifS (cmpE .Gt (varE "m") (varE "best_match")) (seqS (asgS "best_match" (varE "m"))
      (seqS (asgS "allowance" (oneE (attrD "allowance") (varE "line")))
      nilS)) (seqS (ifS (andT (cmpE .Eq (varE "m") (varE "best_match")) (notT (truthE (varE "allowance")))) (seqS (asgS "allowance" (oneE (attrD "allowance") (varE "line")))
      nilS) nilS)
      nilS))
      nilS) nilS) nilS ρ1 k = some (.next, ρ2, k) ∧ ρ2 "filename" = some (.str (lead ++ s)) ∧ ρ2 "best_match" = some (.int ((lead.length + r.f.length + 1 : Nat) : Int)) ∧ ρ2 "allowance" = some (.bool r.a) := fun hgt => by
          rw [decide_eq_true hgt] at tgt
          refine ⟨upd (upd ρ1 "best_match" (.int ((lead.length + r.f.length + 1 : Nat) : Int))) "allowance" (.bool r.a), ?_, by simp [varE, upd, restrN, bindP, ofString_inj, ofString_beq, List.lookup, Rw.enc, f1], by simp [varE, upd, restrN, bindP, ofString_inj, ofString_beq, List.lookup, Rw.enc], by simp [varE, upd, restrN, bindP, ofString_inj, ofString_beq, List.lookup, Rw.enc]⟩
          have e0 : seqS (asgS "best_match" (varE "m")) (seqS (asgS "allowance" (oneE (attrD "allowance") (varE "line"))) nilS) ρ1 k = some (.next, upd (upd ρ1 "best_match" (.int ((lead.length + r.f.length + 1 : Nat) : Int))) "allowance" (.bool r.a), k) := by
            rw [seqS_next (asgS_val vm), seqS_next (asgS_val (attr _ (by rw [← hρ1]; simp [varE, upd, restrN, bindP, ofString_inj, ofString_beq, List.lookup, Rw.enc])))]; rfl
          rw [seqS_next (ρ' := upd (upd ρ1 "best_match" (.int ((lead.length + r.f.length + 1 : Nat) : Int))) "allowance" (.bool r.a)) (k' := k)]
          · rfl
          · rw [ifS_true t, seqS_next (ρ' := upd (upd ρ1 "best_match" (.int ((lead.length + r.f.length + 1 : Nat) : Int))) "allowance" (.bool r.a)) (k' := k)]
            · rfl
            · rw [ifS_true tgt]; exact e0
        have same : ¬ bestV lead (M.longest (A.map Rw.m) (tl s)) < ((lead.length + r.f.length + 1 : Nat) : Int) → ∃ ρ2, seqS (ifS (truthE (varE "m")) (seqS (ifS (cmpE .Gt (varE "m") (varE "best_match")) (seqS (asgS "best_match" (varE "m"))
      (seqS (asgS "allowance" (oneE (attrD "allowance") (varE "line")))
      nilS)) (seqS (ifS (andT (cmpE .Eq (varE "m") (varE "best_match")) (notT (truthE (varE "allowance")))) (seqS (asgS "allowance" (oneE (attrD "allowance") (varE "line")))
      nilS) nilS)
      nilS))
      nilS) nilS) nilS ρ1 k = some (.next, ρ2, k) ∧ ρ2 "filename" = some (.str (lead ++ s)) ∧ ρ2 "best_match" = some (.int (bestV lead (M.longest (A.map Rw.m) (tl s)))) ∧
            ρ2 "allowance" = some (.bool (if decide (((lead.length + r.f.length + 1 : Nat) : Int) = bestV lead (M.longest (A.map Rw.m) (tl s))) && !M.verdict (A.map Rw.m) (tl s) then r.a else M.verdict (A.map Rw.m) (tl s))) := fun hgt => by
          rw [decide_eq_false hgt] at tgt
          cases hb : decide (((lead.length + r.f.length + 1 : Nat) : Int) = bestV lead (M.longest (A.map Rw.m) (tl s))) && !M.verdict (A.map Rw.m) (tl s) with
          | true =>
            rw [hb] at teq
            refine ⟨upd ρ1 "allowance" (.bool r.a), ?_, by simp [varE, upd, restrN, bindP, ofString_inj, ofString_beq, List.lookup, Rw.enc, f1], by simp [varE, upd, restrN, bindP, ofString_inj, ofString_beq, List.lookup, Rw.enc, b1], by simp [varE, upd, restrN, bindP, ofString_inj, ofString_beq, List.lookup, Rw.enc]⟩
            rw [seqS_next (ρ' := upd ρ1 "allowance" (.bool r.a)) (k' := k)]
            · rfl
            · rw [ifS_true t, seqS_next (ρ' := upd ρ1 "allowance" (.bool r.a)) (k' := k)]
              · rfl
              · rw [ifS_false tgt, seqS_next (ρ' := upd ρ1 "allowance" (.bool r.a)) (k' := k)]
                · rfl
                · rw [ifS_true teq, seqS_next (asgS_val (attr _ vl))]; rfl
          | false =>
            rw [hb] at teq
            refine ⟨ρ1, ?_, f1, b1, by rw [a1]; simp⟩
            rw [seqS_next (ρ' := ρ1) (k' := k)]
            · rfl
            · rw [ifS_true t, seqS_next (ρ' := ρ1) (k' := k)]
              · rfl
              · rw [ifS_false tgt, seqS_next (ρ' := ρ1) (k' := k)]
                · rfl
                · rw [ifS_false teq]; rfl
        rw [hrl]
        cases hl : M.longest (A.map Rw.m) (tl s) with
        | none =>
          obtain ⟨ρ2, g1, g2, g3, g4⟩ := take (by rw [hl]; simp only [bestV]; omega)
          exact ⟨ρ2, g1, g2, g3, g4⟩
        | some j =>
          by_cases c1 : j < r.f.length
          · obtain ⟨ρ2, g1, g2, g3, g4⟩ := take (by rw [hl]; simp only [bestV]; omega)
            refine ⟨ρ2, g1, g2, ?_, ?_⟩
            · rw [g3]; dsimp only [bestV]; rw [Nat.max_eq_right (by omega)]
            · rw [g4]; dsimp only; rw [if_pos c1]; rfl
          · obtain ⟨ρ2, g1, g2, g3, g4⟩ := same (by rw [hl]; simp only [bestV]; omega)
            refine ⟨ρ2, g1, g2, ?_, ?_⟩
            · rw [g3, hl]; dsimp only [bestV]; rw [Nat.max_eq_left (by omega)]
            · rw [g4, hl]; dsimp only; rw [if_neg c1]
              by_cases c2 : j = r.f.length
              · have e5 : decide (((lead.length + r.f.length + 1 : Nat) : Int) = bestV lead (some j)) = true := decide_eq_true (by show _ = ((lead.length + j + 1 : Nat) : Int); omega)
                rw [if_pos c2]; simp only [e5]
                show some (D.bool _) = some (D.bool (_ || r.a))
                cases M.verdict (A.map Rw.m) (tl s) <;> simp
              · have e5 : decide (((lead.length + r.f.length + 1 : Nat) : Int) = bestV lead (some j)) = false := decide_eq_false (by show ¬ (_ = ((lead.length + j + 1 : Nat) : Int)); omega)
                rw [if_neg c2]; simp only [e5]; simp
    obtain ⟨ρ2, e2, h4, h5, h6⟩ := step
    obtain ⟨ρ', e, h7⟩ := ih (A ++ [r]) ρ2 h4 h5 h6
    refine ⟨ρ', ?_, by rw [h7]; simp⟩
    show loopS (bfS "line") F nilS (.rule (lead ++ r.f) r.a :: rulesD lead rs) ρ k = _
    unfold loopS
    show (match F (upd ρ "line" (.rule (lead ++ r.f) r.a)) k with | none => _ | some (.next, ρ2, k2) => _ | some (.brk, ρ2, k2) => _ | some (.ret d, ρ2, k2) => _) = _
    rw [e2]; exact e

theorem allowanceF_val (lead s : Str) (i : Nat) (rs : List Rw) (k : Nat) : allowanceF [mgR lead i rs, .str (lead ++ s)] k = some (.bool (M.verdict (rs.map Rw.m) (tl s)), k) := by
  refine defF_ex rfl ?_
  unfold allowanceS
  generalize hρ0 : bindP ["self", "filename"] [mgR lead i rs, .str (lead ++ s)] = ρ0
  have s0 : ρ0 "self" = some (mgR lead i rs) := by rw [← hρ0]; unfold mgR; simp [varE, upd, restrN, bindP, ofString_inj, ofString_beq, List.lookup, Rw.enc]
  have f0 : ρ0 "filename" = some (.str (lead ++ s)) := by rw [← hρ0]; unfold mgR; simp [varE, upd, restrN, bindP, ofString_inj, ofString_beq, List.lookup, Rw.enc]
  rw [seqS_next (asgS_val (d := .int (-1)) (k' := k) rfl), seqS_next (asgS_val (d := .bool true) (k' := k) rfl)]
  generalize hρ1 : upd (upd ρ0 "best_match" (.int (-1))) "allowance" (.bool true) = ρ1
  obtain ⟨ρ', e, h⟩ := allow_loop lead s k _ rfl rs [] ρ1 (by rw [← hρ1]; simp [varE, upd, restrN, bindP, ofString_inj, ofString_beq, List.lookup, Rw.enc, f0]) (by rw [← hρ1]; simp [varE, upd, restrN, bindP, ofString_inj, ofString_beq, List.lookup, Rw.enc]; rfl) (by rw [← hρ1]; simp [varE, upd, restrN, bindP, ofString_inj, ofString_beq, List.lookup, Rw.enc]; rfl)
  refine ⟨ρ', ?_⟩
  rw [seqS_next (ρ' := ρ') (k' := k)]
  · refine seqS_ret (retS_val ?_)
    have := vD (k := k) h (by intro xs h; cases h)
    rw [this]; rfl
  · unfold forS
    have v : itemsL (oneE (attrD "rulelines") (varE "self")) ρ1 k = some (rulesD lead rs, k) := by
      refine itemsL_list (oneE_val (a := mgR lead i rs) (vD (by rw [← hρ1]; simp [varE, upd, restrN, bindP, ofString_inj, ofString_beq, List.lookup, Rw.enc, s0]) (by intro xs h; unfold mgR at h; cases h)) ?_)
      unfold mgR attrD; dsimp only; rw [if_neg (by rw [ofString_inj]; decide), if_pos rfl]
    rw [v]; exact e
end Mine
end

section
open PySem PySem.W
set_option Elab.async false
set_option maxRecDepth 100000
set_option linter.unusedVariables false
set_option linter.unusedSimpArgs false
namespace Mine
noncomputable def saidB (rs : List Rw) (ss : List Str) : List Bool := ss.map fun s => M.verdict (rs.map Rw.m) (tl s)
noncomputable def rowsD (lead : Str) (ss : List Str) : List D := ss.map fun s => .str (lead ++ s)
theorem saidF_val (lead : Str) (ps : List (Nat × Rw)) (ss : List Str) (h : ps.length ≤ 1000) (hs : ss.length ≤ 1000) (hp : ∀ p ∈ ps, p.2.ag.length ≤ 1000) (k : Nat) :
    ∃ k', saidF [.list (ps.map fun p => entR lead p.1 p.2), .list (rowsD lead ss)] k = some (.list ((saidB (ps.map (·.2)) ss).map .bool), k') := by
  obtain ⟨i, k', e⟩ := mergedF_val lead ps h hp k
  refine ⟨k', defF_ex rfl ?_⟩
  unfold saidS
  generalize hρ0 : bindP ["entries", "rows"] [.list (ps.map fun p => entR lead p.1 p.2), .list (rowsD lead ss)] = ρ0
  have e0 : ρ0 "entries" = some (.list (ps.map fun p => entR lead p.1 p.2)) := by rw [← hρ0]; simp [varE, upd, restrN, bindP, ofString_inj, ofString_beq, List.lookup, Rw.enc]
  have r0 : ρ0 "rows" = some (.list (rowsD lead ss)) := by rw [← hρ0]; simp [varE, upd, restrN, bindP, ofString_inj, ofString_beq, List.lookup, Rw.enc]
  have e1 : callE mergedF (consL (varE "entries") nilL) ρ0 k = some (mgR lead i (ps.map (·.2)), k') := (callE_val (consL_val (k1 := k) (k2 := k) (vL e0) rfl)).trans e
  rw [seqS_next (asgS_val e1)]
  generalize hρ1 : upd ρ0 "whole" (mgR lead i (ps.map (·.2))) = ρ1
  have r1 : ρ1 "rows" = some (.list (rowsD lead ss)) := by rw [← hρ1]; simp [varE, upd, restrN, bindP, ofString_inj, ofString_beq, List.lookup, Rw.enc, r0]
  have w1 : ρ1 "whole" = some (mgR lead i (ps.map (·.2))) := by rw [← hρ1]; simp [varE, upd, restrN, bindP, ofString_inj, ofString_beq, List.lookup, Rw.enc]
  refine ⟨ρ1, seqS_ret (retS_val (compE_val (k1 := k') (itemsL_list (vL r1)) ?_ ?_))⟩
  · unfold saidB
    rw [List.map_map]
    refine loopC_map ss _ _ fun s hs => ⟨_, bf1_rest (by rw [List.mem_singleton, ofString_inj]; decide), ?_⟩
    refine oneL_val ?_
    generalize hρ2 : upd (restrN ["whole"] ρ1) "row" (.str (lead ++ s)) = ρ2
    have w2 : ρ2 "whole" = some (mgR lead i (ps.map (·.2))) := by rw [← hρ2]; simp [upd, restrN, ofString_inj, w1]; rfl
    have v2 : varE "row" ρ2 k' = some (.str (lead ++ s), k') := by rw [← hρ2]; exact hereV (by intro xs h; cases h)
    unfold methE
    rw [vD (k := k') w2 (by intro xs h; unfold mgR at h; cases h)]
    have := allowanceF_val lead s i (ps.map (·.2)) k'
    unfold mgR at *
    dsimp only
    rw [v2]; exact this
  · unfold saidB; rw [List.length_map, List.length_map]; exact Nat.le_trans hs (by decide)

noncomputable def entsD (lead : Str) (rs : List Rw) (idf : Nat → Nat) (ks : List Nat) : List D := ks.map fun j => entR lead (idf j) (getW rs j)
theorem entsD_ps (lead : Str) (rs : List Rw) (idf : Nat → Nat) (ks : List Nat) : entsD lead rs idf ks = (ks.map fun j => (idf j, getW rs j)).map fun p => entR lead p.1 p.2 := by unfold entsD; rw [List.map_map]; rfl
theorem said_ents (lead : Str) (rs : List Rw) (idf : Nat → Nat) (ks : List Nat) (ss : List Str) (hk : ks.length ≤ 1000) (hm : ∀ j ∈ ks, j < rs.length) (hs : ss.length ≤ 1000) (hp : ∀ r ∈ rs, r.ag.length ≤ 1000) (k : Nat) :
    ∃ k', saidF [.list (entsD lead rs idf ks), .list (rowsD lead ss)] k = some (.list ((saidB (ks.map (getW rs)) ss).map .bool), k') := by
  rw [entsD_ps]
  have := saidF_val lead (ks.map fun j => (idf j, getW rs j)) ss (by rw [List.length_map]; exact hk) hs (fun p h => by
    obtain ⟨j, hj, rfl⟩ := List.mem_map.mp h
    exact hp _ (getW_mem (hm j hj))) k
  have e : (ks.map fun j => (idf j, getW rs j)).map (·.2) = ks.map (getW rs) := by rw [List.map_map]; rfl
  rw [e] at this
  exact this
theorem thin_loop (lead : Str) (rs : List Rw) (idf : Nat → Nat) (hid : ∀ i j, idf i = idf j → i = j) (ss : List Str) (tgt : List Bool) (hs : ss.length ≤ 1000) (hp : ∀ r ∈ rs, r.ag.length ≤ 1000) (F : Sx)
    (hF : F = seqS (asgS "others" (compE ["entry"] (itemsL (varE "kept")) (loopC (bf1 "other") (cmpE .IsNot (varE "other") (varE "entry")) (oneL (varE "other")))))
      (seqS (ifS (cmpE .Eq (callE saidF (consL (varE "others") (consL (varE "rows") nilL))) (varE "said")) (seqS (asgS "kept" (varE "others"))
      nilS) nilS)
      nilS)) : ∀ (ks kept : List Nat) (ρ : Rho) (k : Nat), (∀ j ∈ kept, j < rs.length) → kept.length ≤ 1000 →
      ρ "rows" = some (.list (rowsD lead ss)) → ρ "said" = some (.list (tgt.map .bool)) → ρ "kept" = some (.list (entsD lead rs idf kept)) →
      ∃ ρ' k', loopS (bfS "entry") F nilS (entsD lead rs idf ks) ρ k = some (.next, ρ', k') ∧
        ρ' "kept" = some (.list (entsD lead rs idf (M.drops (fun others _ => decide (saidB (others.map (getW rs)) ss = tgt)) ks kept))) := by
  intro ks
  induction ks with
  | nil => intro kept ρ k _ _ h1 h2 h3; exact ⟨ρ, k, rfl, h3⟩
  | cons i ks ih =>
    intro kept ρ k hkept hlen h1 h2 h3
    generalize hρ1 : upd ρ "entry" (entR lead (idf i) (getW rs i)) = ρ1
    have r1 : ρ1 "rows" = some (.list (rowsD lead ss)) := by rw [← hρ1]; simp [varE, upd, restrN, bindP, ofString_inj, ofString_beq, List.lookup, Rw.enc, h1]
    have s1 : ρ1 "said" = some (.list (tgt.map .bool)) := by rw [← hρ1]; simp [varE, upd, restrN, bindP, ofString_inj, ofString_beq, List.lookup, Rw.enc, h2]
    have p1 : ρ1 "kept" = some (.list (entsD lead rs idf kept)) := by rw [← hρ1]; simp [varE, upd, restrN, bindP, ofString_inj, ofString_beq, List.lookup, Rw.enc, h3]
    have n1 : ρ1 "entry" = some (entR lead (idf i) (getW rs i)) := by rw [← hρ1]; simp [varE, upd, restrN, bindP, ofString_inj, ofString_beq, List.lookup, Rw.enc]
    have hol : (kept.filter fun j => decide (j ≠ i)).length ≤ 1000 := Nat.le_trans (List.length_filter_le _ _) hlen
    have hom : ∀ j ∈ kept.filter fun j => decide (j ≠ i), j < rs.length := fun j hj => hkept j (List.mem_filter.mp hj).1
    have e1 : compE ["entry"] (itemsL (varE "kept")) (loopC (bf1 "other") (cmpE .IsNot (varE "other") (varE "entry")) (oneL (varE "other"))) ρ1 k = some (.list (entsD lead rs idf (kept.filter fun j => decide (j ≠ i))), k) := by
      refine compE_val (k1 := k) (itemsL_list (vL p1)) ?_ (by unfold entsD; rw [List.length_map]; exact Nat.le_trans hol (by decide))
      refine loopC_pure kept _ _ _ fun j hj => ⟨_, bf1_rest (by rw [List.mem_singleton, ofString_inj]; decide), ?_, fun _ => oneL_val (hereV (by intro xs h; cases h))⟩
      refine cmpE_val (k1 := k) (hereV (by intro xs h; cases h)) (b := entR lead (idf i) (getW rs i)) (vD ?_ (by intro xs h; cases h)) ?_
      · simp [upd, restrN, ofString_inj, n1]; rfl
      · show some (decide (idf j ≠ idf i)) = _
        congr 1
        rw [decide_eq_decide]
        exact ⟨fun h e => h (by rw [e]), fun h e => h (hid _ _ e)⟩
    generalize hoth : (kept.filter fun j => decide (j ≠ i)) = oth at *
    generalize hρ2 : upd ρ1 "others" (.list (entsD lead rs idf oth)) = ρ2
    have r2 : ρ2 "rows" = some (.list (rowsD lead ss)) := by rw [← hρ2]; simp [varE, upd, restrN, bindP, ofString_inj, ofString_beq, List.lookup, Rw.enc, r1]
    have s2 : ρ2 "said" = some (.list (tgt.map .bool)) := by rw [← hρ2]; simp [varE, upd, restrN, bindP, ofString_inj, ofString_beq, List.lookup, Rw.enc, s1]
    have p2 : ρ2 "kept" = some (.list (entsD lead rs idf kept)) := by rw [← hρ2]; simp [varE, upd, restrN, bindP, ofString_inj, ofString_beq, List.lookup, Rw.enc, p1]
    have o2 : ρ2 "others" = some (.list (entsD lead rs idf oth)) := by rw [← hρ2]; simp [varE, upd, restrN, bindP, ofString_inj, ofString_beq, List.lookup, Rw.enc]
    obtain ⟨k1, e2⟩ := said_ents lead rs idf oth ss hol hom hs hp k
    have t : cmpE .Eq (callE saidF (consL (varE "others") (consL (varE "rows") nilL))) (varE "said") ρ2 k = some (decide (saidB (oth.map (getW rs)) ss = tgt), k1) :=
      cmpE_val ((callE_val (consL_val (k1 := k) (k2 := k) (vL o2) (consL_val (k1 := k) (k2 := k) (vL r2) rfl))).trans e2) (vL s2) (eq_bools _ _)
    have e9 : ∃ ρ3, F ρ1 k = some (.next, ρ3, k1) ∧ ρ3 "rows" = some (.list (rowsD lead ss)) ∧ ρ3 "said" = some (.list (tgt.map .bool)) ∧ ρ3 "kept" = some (.list (entsD lead rs idf (if decide (saidB (oth.map (getW rs)) ss = tgt) = true then oth else kept))) := by
      rw [hF, seqS_next (asgS_val e1), hρ2]
      cases hb : decide (saidB (oth.map (getW rs)) ss = tgt) with
      | true =>
        rw [hb] at t
        refine ⟨upd ρ2 "kept" (.list (entsD lead rs idf oth)), ?_, by simp [varE, upd, restrN, bindP, ofString_inj, ofString_beq, List.lookup, Rw.enc, r2], by simp [varE, upd, restrN, bindP, ofString_inj, ofString_beq, List.lookup, Rw.enc, s2], by simp [varE, upd, restrN, bindP, ofString_inj, ofString_beq, List.lookup, Rw.enc]⟩
        rw [seqS_next (ρ' := upd ρ2 "kept" (.list (entsD lead rs idf oth))) (k' := k1)]
        · rfl
        · rw [ifS_true t, seqS_next (asgS_val (vL o2))]; rfl
      | false =>
        rw [hb] at t
        refine ⟨ρ2, ?_, r2, s2, by rw [p2]; simp⟩
        rw [seqS_next (ρ' := ρ2) (k' := k1)]
        · rfl
        · rw [ifS_false t]; rfl
    obtain ⟨ρ3, e3, r3, s3, p3⟩ := e9
    obtain ⟨ρ', k', h5, h6⟩ := ih _ ρ3 k1 (by split; exact hom; exact hkept) (by split; exact hol; exact hlen) r3 s3 p3
    refine ⟨ρ', k', ?_, ?_⟩
    · rw [show entsD lead rs idf (i :: ks) = entR lead (idf i) (getW rs i) :: entsD lead rs idf ks from rfl]
      unfold loopS
      have : bfS "entry" (entR lead (idf i) (getW rs i)) ρ = some ρ1 := by rw [← hρ1]; rfl
      rw [this]; dsimp only
      rw [e3]; exact h5
    · rw [M.drops, hoth]; exact h6
theorem thinnedF_val (lead : Str) (rs : List Rw) (idf : Nat → Nat) (hid : ∀ i j, idf i = idf j → i = j) (ss : List Str) (hb : rs.length ≤ 1000) (hs : ss.length ≤ 1000) (hp : ∀ r ∈ rs, r.ag.length ≤ 1000) (k : Nat) :
    ∃ k', thinnedF [.list (entsD lead rs idf (List.range rs.length)), .list (rowsD lead ss)] k =
      some (.list (entsD lead rs idf (M.drops (fun others _ => decide (saidB (others.map (getW rs)) ss = saidB ((List.range rs.length).map (getW rs)) ss)) (List.range rs.length) (List.range rs.length))), k') := by
  obtain ⟨k1, e1⟩ := said_ents lead rs idf (List.range rs.length) ss (by rw [List.length_range]; exact hb) (fun j hj => List.mem_range.mp hj) hs hp k
  generalize htgt : saidB ((List.range rs.length).map (getW rs)) ss = tgt at *
  generalize hρ0 : bindP ["entries", "rows"] [.list (entsD lead rs idf (List.range rs.length)), .list (rowsD lead ss)] = ρ0
  have n0 : ρ0 "entries" = some (.list (entsD lead rs idf (List.range rs.length))) := by rw [← hρ0]; simp [varE, upd, restrN, bindP, ofString_inj, ofString_beq, List.lookup, Rw.enc]
  have r0 : ρ0 "rows" = some (.list (rowsD lead ss)) := by rw [← hρ0]; simp [varE, upd, restrN, bindP, ofString_inj, ofString_beq, List.lookup, Rw.enc]
  have e2 : asgTR ["said", "kept"] (consL (callE saidF (consL (varE "entries") (consL (varE "rows") nilL))) (consL (varE "entries") nilL)) ρ0 k =
      some (.next, upd (upd ρ0 "kept" (.list (entsD lead rs idf (List.range rs.length)))) "said" (.list (tgt.map .bool)), k1) := by
    unfold asgTR
    rw [consL_val ((callE_val (consL_val (k1 := k) (k2 := k) (vL n0) (consL_val (k1 := k) (k2 := k) (vL r0) rfl))).trans e1) (consL_val (k1 := k1) (k2 := k1) (vL n0) rfl)]
    rfl
  generalize hρ1 : upd (upd ρ0 "kept" (.list (entsD lead rs idf (List.range rs.length)))) "said" (.list (tgt.map .bool)) = ρ1
  have n1 : ρ1 "entries" = some (.list (entsD lead rs idf (List.range rs.length))) := by rw [← hρ1]; simp [varE, upd, restrN, bindP, ofString_inj, ofString_beq, List.lookup, Rw.enc, n0]
  have r1 : ρ1 "rows" = some (.list (rowsD lead ss)) := by rw [← hρ1]; simp [varE, upd, restrN, bindP, ofString_inj, ofString_beq, List.lookup, Rw.enc, r0]
  have p1 : ρ1 "kept" = some (.list (entsD lead rs idf (List.range rs.length))) := by rw [← hρ1]; simp [varE, upd, restrN, bindP, ofString_inj, ofString_beq, List.lookup, Rw.enc]
  have s1 : ρ1 "said" = some (.list (tgt.map .bool)) := by rw [← hρ1]; simp [varE, upd, restrN, bindP, ofString_inj, ofString_beq, List.lookup, Rw.enc]
  obtain ⟨ρ', k', h5, h6⟩ := thin_loop lead rs idf hid ss tgt hs hp _ rfl (List.range rs.length) (List.range rs.length) ρ1 k1 (fun j hj => List.mem_range.mp hj) (by rw [List.length_range]; exact hb) r1 s1 p1
  refine ⟨k', defF_ex rfl ⟨ρ', ?_⟩⟩
  unfold thinnedS
  rw [hρ0, seqS_next e2, hρ1, seqS_next (ρ' := ρ') (k' := k')]
  · exact seqS_ret (retS_val (vL h6))
  · unfold forS
    rw [itemsL_list (vL n1)]; exact h5
end Mine
end

section
open PySem PySem.W
set_option Elab.async false
set_option maxRecDepth 100000
set_option linter.unusedVariables false
set_option linter.unusedSimpArgs false
namespace Mine
noncomputable def num (t : Nat) (f : Nat → Bool) : Nat := t * 4096 + ((f 0).toNat + (f 1).toNat * 2 + (f 2).toNat * 4 + (f 3).toNat * 8 + (f 4).toNat * 16 + (f 5).toNat * 32 + (f 6).toNat * 64 + (f 7).toNat * 128 + (f 8).toNat * 256 + (f 9).toNat * 512 + (f 10).toNat * 1024 + (f 11).toNat * 2048)
theorem toNat_le (b : Bool) : b.toNat ≤ 1 := by cases b <;> decide
noncomputable def hn : List Bool → Nat → Nat
  | [], t => t
  | b :: bs, t => b.toNat + 2 * hn bs t
theorem hn_bit : ∀ (bs : List Bool) (t i : Nat) (h : i < bs.length), hn bs t / 2 ^ i % 2 = bs[i].toNat
  | b :: bs, t, 0, h => by
    have := toNat_le b
    show (b.toNat + 2 * hn bs t) / 2 ^ 0 % 2 = b.toNat
    omega
  | b :: bs, t, i + 1, h => by
    have := toNat_le b
    have e := hn_bit bs t i (Nat.lt_of_succ_lt_succ h)
    show (b.toNat + 2 * hn bs t) / 2 ^ (i + 1) % 2 = (bs[i]'(Nat.lt_of_succ_lt_succ h)).toNat
    rw [Nat.pow_succ', ← Nat.div_div_eq_div_mul, show (b.toNat + 2 * hn bs t) / 2 = hn bs t by omega]
    exact e
theorem hn_top : ∀ (bs : List Bool) (t : Nat), hn bs t / 2 ^ bs.length = t
  | [], t => by show t / 2 ^ 0 = t; omega
  | b :: bs, t => by
    have := toNat_le b
    have e := hn_top bs t
    show (b.toNat + 2 * hn bs t) / 2 ^ (bs.length + 1) = t
    rw [Nat.pow_succ', ← Nat.div_div_eq_div_mul, show (b.toNat + 2 * hn bs t) / 2 = hn bs t by omega]
    exact e
noncomputable def bitsL (f : Nat → Bool) : List Bool := (List.range 12).map f
noncomputable def accL : Nat → List Bool → Nat → Nat
  | a, [], _ => a
  | a, b :: bs, w => accL (a + b.toNat * w) bs (w * 2)
theorem accL_eq : ∀ (bs : List Bool) (a w t : Nat), accL a bs w + w * (2 ^ bs.length * t) = a + w * hn bs t
  | [], a, w, t => by show a + w * (2 ^ 0 * t) = a + w * t; rw [Nat.pow_zero, Nat.one_mul]
  | b :: bs, a, w, t => by
    have e := accL_eq bs (a + b.toNat * w) (w * 2) t
    show accL (a + b.toNat * w) bs (w * 2) + w * (2 ^ (bs.length + 1) * t) = a + w * (b.toNat + 2 * hn bs t)
    rw [Nat.pow_succ', Nat.mul_assoc 2, ← Nat.mul_assoc w 2, e, Nat.mul_add, ← Nat.mul_assoc w 2, Nat.mul_comm w b.toNat, Nat.add_assoc]
theorem num_acc (t : Nat) (f : Nat → Bool) : num t f = t * 4096 + accL (f 0).toNat [f 1, f 2, f 3, f 4, f 5, f 6, f 7, f 8, f 9, f 10, f 11] 2 := rfl
theorem num_hn (t : Nat) (f : Nat → Bool) : num t f = hn (bitsL f) t := by
  have e := accL_eq [f 1, f 2, f 3, f 4, f 5, f 6, f 7, f 8, f 9, f 10, f 11] (f 0).toNat 2 t
  show num t f = (f 0).toNat + 2 * hn [f 1, f 2, f 3, f 4, f 5, f 6, f 7, f 8, f 9, f 10, f 11] t
  rw [show [f 1, f 2, f 3, f 4, f 5, f 6, f 7, f 8, f 9, f 10, f 11].length = 11 from rfl, show (2 : Nat) ^ 11 = 2048 by decide, ← Nat.mul_assoc] at e
  rw [num_acc, ← e, Nat.add_comm, Nat.mul_comm t]
/-- one bit changed -/
theorem hn_set : ∀ (bs : List Bool) (t i : Nat) (b : Bool) (h : i < bs.length), hn (bs.set i b) t + bs[i].toNat * 2 ^ i = hn bs t + b.toNat * 2 ^ i
  | a :: bs, t, 0, b, h => by
    show b.toNat + 2 * hn bs t + a.toNat * 1 = a.toNat + 2 * hn bs t + b.toNat * 1
    omega
  | a :: bs, t, i + 1, b, h => by
    have e := hn_set bs t i b (Nat.lt_of_succ_lt_succ h)
    show a.toNat + 2 * hn (bs.set i b) t + (bs[i]'(Nat.lt_of_succ_lt_succ h)).toNat * 2 ^ (i + 1) = a.toNat + 2 * hn bs t + b.toNat * 2 ^ (i + 1)
    rw [Nat.pow_succ, ← Nat.mul_assoc, ← Nat.mul_assoc]
    generalize (bs[i]'(Nat.lt_of_succ_lt_succ h)).toNat * 2 ^ i = y at e ⊢
    generalize b.toNat * 2 ^ i = z at e ⊢
    omega
theorem bitsL_at (f : Nat → Bool) (i : Nat) (h : i < (bitsL f).length) : (bitsL f)[i] = f i := by
  unfold bitsL at *
  rw [List.getElem_map, List.getElem_range]
theorem num_bit (t : Nat) (f : Nat → Bool) (i : Nat) (hi : i < 12) : num t f / 2 ^ i % 2 = (f i).toNat := by
  rw [num_hn, hn_bit (bitsL f) t i (by show i < 12; exact hi), bitsL_at]
theorem num_top (t : Nat) (f : Nat → Bool) : num t f / 4096 = t := by
  have e := hn_top (bitsL f) t
  rw [show (bitsL f).length = 12 from rfl, show (2 : Nat) ^ 12 = 4096 by decide] at e
  rw [num_hn]; exact e
theorem num_test (t : Nat) (f : Nat → Bool) (i : Nat) (hi : i < 12) : (num t f).testBit i = f i := by
  rw [Nat.testBit_eq_decide_div_mod_eq, num_bit t f i hi]
  cases f i <;> decide
theorem and_nat (n m : Nat) : Builtin.bitAnd (n : Int) (m : Int) = ((n &&& m : Nat) : Int) := by
  unfold Builtin.bitAnd
  have h1 : decide ((0 : Int) ≤ (n : Int)) = true := decide_eq_true (by omega)
  have h2 : decide ((0 : Int) ≤ (m : Int)) = true := decide_eq_true (by omega)
  rw [h1, h2]
  simp
theorem and_pow (n i : Nat) : n &&& 2 ^ i = (n.testBit i).toNat * 2 ^ i := by
  apply Nat.eq_of_testBit_eq
  intro j
  rw [Nat.testBit_and, Nat.testBit_two_pow]
  by_cases h : i = j
  · subst h
    cases hb : n.testBit i
    · simp
    · simp [Nat.testBit_two_pow_self]
  · rw [decide_eq_false h, Bool.and_false]
    cases n.testBit i
    · simp
    · simp [Nat.testBit_two_pow, h]
theorem num_and (t : Nat) (f : Nat → Bool) (i : Nat) (hi : i < 12) : num t f &&& 2 ^ i = (f i).toNat * 2 ^ i := by
  rw [and_pow, num_test t f i hi]
theorem num_mask (t : Nat) (f : Nat → Bool) (ht : t = 4 ∨ t = 8) : num t f &&& 61440 = t * 4096 := by
  have e : (61440 : Nat) = ((2 ^ 15 ||| 2 ^ 14) ||| 2 ^ 13) ||| 2 ^ 12 := by decide
  have hT := num_top t f
  have b : ∀ i, (num t f).testBit (12 + i) = t.testBit i := fun i => by
    rw [Nat.testBit_eq_decide_div_mod_eq, Nat.testBit_eq_decide_div_mod_eq, Nat.pow_add, ← Nat.div_div_eq_div_mul]
    show decide (num t f / 4096 / 2 ^ i % 2 = 1) = _
    rw [hT]
  have b0 := b 0; have b1 := b 1; have b2 := b 2; have b3 := b 3
  rw [e, Nat.and_or_distrib_left, Nat.and_or_distrib_left, Nat.and_or_distrib_left, and_pow, and_pow, and_pow, and_pow, b0, b1, b2, b3]
  rcases ht with rfl | rfl <;> decide
/-- one sign of a row -/
noncomputable def sgc (k : Nat) (b c : Bool) : Nat :=
  if k % 3 = 2 ∧ c = true then (if k / 3 = 2 then (if b then 116 else 84) else (if b then 115 else 83)) else if b then (if k % 3 = 0 then 114 else if k % 3 = 1 then 119 else 120) else 45
noncomputable def sgS (f : Nat → Bool) (k : Nat) : Str := ⟨#[sgc k (f (8 - k)) (f (11 - k / 3))]⟩
noncomputable def typS (t : Nat) : Str := ⟨#[if t = 4 then 100 else 45]⟩

/-! signs -/
theorem fdiv_nat (n m : Nat) : (n : Int).fdiv (m : Int) = ((n / m : Nat) : Int) := by
  rw [Int.fdiv_eq_ediv_of_nonneg _ (by omega)]; rfl
theorem fmod_nat (n m : Nat) : (n : Int).fmod (m : Int) = ((n % m : Nat) : Int) := by
  rw [Int.fmod_eq_emod_of_nonneg _ (by omega)]; rfl
theorem div_nat (n m : Nat) (h : m ≠ 0) : binD .FloorDiv (.int (n : Int)) (.int (m : Int)) = some (.int ((n / m : Nat) : Int)) := by
  unfold binD; dsimp only [int2, addD]; rw [if_neg (by omega), fdiv_nat]
theorem mod_nat (n m : Nat) (h : m ≠ 0) : binD .Mod (.int (n : Int)) (.int (m : Int)) = some (.int ((n % m : Nat) : Int)) := by
  unfold binD; dsimp only [int2, addD]; rw [if_neg (by omega), fmod_nat]
noncomputable def signV : Ex := iteE (andT (cmpE .Eq (binE .Mod (varE "k") (litE (.int 3))) (litE (.int 2))) (cmpE .Eq (varE "beside") (litE (.int 1)))) (idxE (idxE (listE (consL (litE (.str (Str.ofString "Ss"))) (consL (litE (.str (Str.ofString "Ss"))) (consL (litE (.str (Str.ofString "Tt"))) nilL)))) (binE .FloorDiv (varE "k") (litE (.int 3)))) (varE "bit")) (idxE (litE (.str (Str.ofString "-rwx"))) (binE .Mult (binE .Add (binE .Mod (varE "k") (litE (.int 3))) (litE (.int 1))) (varE "bit")))
theorem signV_val {ρ : Rho} {q k : Nat} {b c : Bool} (hk : k < 9) (h1 : ρ "k" = some (.int (k : Int))) (h2 : ρ "bit" = some (.int (b.toNat : Int))) (h3 : ρ "beside" = some (.int (c.toNat : Int))) : signV ρ q = some (.str ⟨#[sgc k b c]⟩, q) := by
  have v1 : ∀ q, varE "k" ρ q = some (.int (k : Int), q) := fun q => vD h1 (by intro xs h; cases h)
  have v2 : ∀ q, varE "bit" ρ q = some (.int (b.toNat : Int), q) := fun q => vD h2 (by intro xs h; cases h)
  have v3 : ∀ q, varE "beside" ρ q = some (.int (c.toNat : Int), q) := fun q => vD h3 (by intro xs h; cases h)
  unfold signV iteE andT cmpE idxE listE consL litE binE
  simp only [v1, v2, v3]
  match k, hk with
  | 0, _ | 1, _ | 2, _ | 3, _ | 4, _ | 5, _ | 6, _ | 7, _ | 8, _ => cases b <;> cases c <;> rfl

noncomputable def signBody : Sx := (seqS (asgTR ["bit", "beside"] (consL (binE .Mod (binE .FloorDiv (varE "mode") (binE .Pow (litE (.int 2)) (binE .Sub (litE (.int 8)) (varE "k")))) (litE (.int 2))) (consL (binE .Mod (binE .FloorDiv (varE "mode") (binE .Pow (litE (.int 2)) (binE .Sub (litE (.int 11)) (binE .FloorDiv (varE "k") (litE (.int 3)))))) (litE (.int 2))) nilL)))
  (seqS (asgS "text" (binE .Add (varE "text") signV)) nilS))
theorem bitV1 {ρ : Rho} {q k : Nat} {m : Nat} (hk : k < 9) (h1 : ρ "k" = some (.int (k : Int))) (h2 : ρ "mode" = some (.int (m : Int))) : binE .Mod (binE .FloorDiv (varE "mode") (binE .Pow (litE (.int 2)) (binE .Sub (litE (.int 8)) (varE "k")))) (litE (.int 2)) ρ q = some (.int ((m / 2 ^ (8 - k) % 2 : Nat) : Int), q) := by
  refine binE_val (k1 := q) (binE_val (k1 := q) (vD h2 (by intro xs h; cases h)) (binE_val (k1 := q) (b := .int ((8 - k : Nat) : Int)) rfl (binE_val (k1 := q) rfl (vD h1 (by intro xs h; cases h)) ?_) (d := .int ((2 ^ (8 - k) : Nat) : Int)) ?_) (div_nat _ _ (Nat.ne_of_gt (Nat.two_pow_pos _)))) rfl (mod_nat _ 2 (by decide))
  · match k, hk with
    | 0, _ | 1, _ | 2, _ | 3, _ | 4, _ | 5, _ | 6, _ | 7, _ | 8, _ => rfl
  · match k, hk with
    | 0, _ | 1, _ | 2, _ | 3, _ | 4, _ | 5, _ | 6, _ | 7, _ | 8, _ => rfl
theorem bitV2 {ρ : Rho} {q k : Nat} {m : Nat} (hk : k < 9) (h1 : ρ "k" = some (.int (k : Int))) (h2 : ρ "mode" = some (.int (m : Int))) : binE .Mod (binE .FloorDiv (varE "mode") (binE .Pow (litE (.int 2)) (binE .Sub (litE (.int 11)) (binE .FloorDiv (varE "k") (litE (.int 3)))))) (litE (.int 2)) ρ q = some (.int ((m / 2 ^ (11 - k / 3) % 2 : Nat) : Int), q) := by
  refine binE_val (k1 := q) (binE_val (k1 := q) (vD h2 (by intro xs h; cases h)) (binE_val (k1 := q) (b := .int ((11 - k / 3 : Nat) : Int)) rfl (binE_val (k1 := q) (b := .int ((k / 3 : Nat) : Int)) rfl (binE_val (k1 := q) (vD h1 (by intro xs h; cases h)) rfl (div_nat _ 3 (by decide))) ?_) (d := .int ((2 ^ (11 - k / 3) : Nat) : Int)) ?_) (div_nat _ _ (Nat.ne_of_gt (Nat.two_pow_pos _)))) rfl (mod_nat _ 2 (by decide))
  · match k, hk with
    | 0, _ | 1, _ | 2, _ | 3, _ | 4, _ | 5, _ | 6, _ | 7, _ | 8, _ => rfl
  · match k, hk with
    | 0, _ | 1, _ | 2, _ | 3, _ | 4, _ | 5, _ | 6, _ | 7, _ | 8, _ => rfl
theorem sgS_len (f : Nat → Bool) (k : Nat) : (sgS f k).length = 1 := rfl
theorem sign_loop (t : Nat) (f : Nat → Bool) (q : Nat) : ∀ (ks : List Nat) (T : Str) (ρ : Rho), (∀ j ∈ ks, j < 9) → T.length + ks.length ≤ 1000 → ρ "mode" = some (.int (num t f : Int)) → ρ "text" = some (.str T) →
    ∃ ρ', loopS (bfS "k") signBody nilS (intsL ks) ρ q = some (.next, ρ', q) ∧ ρ' "text" = some (.str (ks.foldl (fun T k => T ++ sgS f k) T))
  | [], T, ρ, _, _, _, h => ⟨ρ, rfl, h⟩
  | k :: ks, T, ρ, hk, hl, h1, h2 => by
    have hk9 := hk k List.mem_cons_self
    generalize hρ1 : upd ρ "k" (.int (k : Int)) = ρ1
    have m1 : ρ1 "mode" = some (.int (num t f : Int)) := by rw [← hρ1]; simp [varE, upd, restrN, bindP, ofString_inj, ofString_beq, List.lookup, Rw.enc, h1]
    have t1 : ρ1 "text" = some (.str T) := by rw [← hρ1]; simp [varE, upd, restrN, bindP, ofString_inj, ofString_beq, List.lookup, Rw.enc, h2]
    have k1 : ρ1 "k" = some (.int (k : Int)) := by rw [← hρ1]; simp [varE, upd, restrN, bindP, ofString_inj, ofString_beq, List.lookup, Rw.enc]
    have e1 : asgTR ["bit", "beside"] (consL (binE .Mod (binE .FloorDiv (varE "mode") (binE .Pow (litE (.int 2)) (binE .Sub (litE (.int 8)) (varE "k")))) (litE (.int 2))) (consL (binE .Mod (binE .FloorDiv (varE "mode") (binE .Pow (litE (.int 2)) (binE .Sub (litE (.int 11)) (binE .FloorDiv (varE "k") (litE (.int 3)))))) (litE (.int 2))) nilL)) ρ1 q =
        some (.next, upd (upd ρ1 "beside" (.int ((f (11 - k / 3)).toNat : Int))) "bit" (.int ((f (8 - k)).toNat : Int)), q) := by
      unfold asgTR
      rw [consL_val (bitV1 hk9 k1 m1) (consL_val (bitV2 hk9 k1 m1) rfl), num_bit t f _ (by omega), num_bit t f _ (by omega)]
      rfl
    generalize hρ2 : upd (upd ρ1 "beside" (.int ((f (11 - k / 3)).toNat : Int))) "bit" (.int ((f (8 - k)).toNat : Int)) = ρ2
    have e2 : binE .Add (varE "text") signV ρ2 q = some (.str (T ++ sgS f k), q) := by
      refine binE_val (k1 := q) (a := .str T) (vS (by rw [← hρ2]; simp [varE, upd, restrN, bindP, ofString_inj, ofString_beq, List.lookup, Rw.enc, t1])) (signV_val (b := f (8 - k)) (c := f (11 - k / 3)) hk9 (by rw [← hρ2]; simp [varE, upd, restrN, bindP, ofString_inj, ofString_beq, List.lookup, Rw.enc, k1]) (by rw [← hρ2]; simp [varE, upd, restrN, bindP, ofString_inj, ofString_beq, List.lookup, Rw.enc]) (by rw [← hρ2]; simp [varE, upd, restrN, bindP, ofString_inj, ofString_beq, List.lookup, Rw.enc])) ?_
      unfold binD; dsimp only [int2, addD]
      rw [if_pos (by show T.length + 1 ≤ big; simp only [List.length_cons] at hl; unfold big; omega)]; rfl
    obtain ⟨ρ', h5, h6⟩ := sign_loop t f q ks (T ++ sgS f k) (upd ρ2 "text" (.str (T ++ sgS f k))) (fun j hj => hk j (List.mem_cons_of_mem _ hj)) (by rw [strLen, sgS_len]; simp only [List.length_cons] at hl; omega) (by rw [← hρ2]; simp [varE, upd, restrN, bindP, ofString_inj, ofString_beq, List.lookup, Rw.enc, m1]) (by simp [varE, upd, restrN, bindP, ofString_inj, ofString_beq, List.lookup, Rw.enc])
    refine ⟨ρ', ?_, h6⟩
    rw [show intsL (k :: ks) = D.int (k : Int) :: intsL ks from rfl]
    unfold loopS
    have : bfS "k" (.int (k : Int)) ρ = some ρ1 := by rw [← hρ1]; rfl
    rw [this]; dsimp only
    have e3 : signBody ρ1 q = some (.next, upd ρ2 "text" (.str (T ++ sgS f k)), q) := by
      unfold signBody
      rw [seqS_next e1, hρ2, seqS_next (asgS_val e2)]; rfl
    rw [e3]; exact h5
noncomputable def sgnS (t : Nat) (f : Nat → Bool) : Str := (List.range 9).foldl (fun T k => T ++ sgS f k) (typS t)
theorem signsF_val (t : Nat) (ht : t = 4 ∨ t = 8) (f : Nat → Bool) (q : Nat) : signsF [.int (num t f : Int)] q = some (.str (sgnS t f), q) := by
  refine defF_ex rfl ?_
  generalize hρ0 : bindP ["mode"] [.int (num t f : Int)] = ρ0
  have m0 : ρ0 "mode" = some (.int (num t f : Int)) := by rw [← hρ0]; simp [varE, upd, restrN, bindP, ofString_inj, ofString_beq, List.lookup, Rw.enc]
  have e1 : idxE (litE (.str (Str.ofString "?pc?d?b?-?l?s???"))) (binE .FloorDiv (varE "mode") (litE (.int 4096))) ρ0 q = some (.str (typS t), q) := by
    refine idxE_val (k1 := q) rfl (binE_val (k1 := q) (vD m0 (by intro xs h; cases h)) rfl (div_nat _ 4096 (by decide))) ?_
    rw [num_top]
    rcases ht with rfl | rfl <;> rfl
  obtain ⟨ρ', h5, h6⟩ := sign_loop t f q (List.range 9) (typS t) (upd ρ0 "text" (.str (typS t))) (fun j hj => List.mem_range.mp hj) (by show 1 + 9 ≤ 1000; omega) (by simp [varE, upd, restrN, bindP, ofString_inj, ofString_beq, List.lookup, Rw.enc, m0]) (by simp [varE, upd, restrN, bindP, ofString_inj, ofString_beq, List.lookup, Rw.enc])
  refine ⟨ρ', ?_⟩
  unfold signsS
  rw [seqS_next (asgS_val e1), seqS_next (ρ' := ρ') (k' := q)]
  · exact seqS_ret (retS_val (vS h6))
  · exact h5
end Mine
end

section
open PySem PySem.W
set_option Elab.async false
set_option maxRecDepth 100000
set_option linter.unusedVariables false
set_option linter.unusedSimpArgs false
namespace Mine
noncomputable def hit (i m b : Nat) : Bool := if i = 0 then decide (m &&& 61440 = b) else decide (m &&& b = b)
noncomputable def pick (i m : Nat) : List (Nat × Str) → Str
  | [] => if i = 0 then Str.ofString "?" else Str.ofString "-"
  | r :: rs => if hit i m r.1 then r.2 else pick i m rs
noncomputable def rowE (r : Nat × Str) : D := .tuple [.int (r.1 : Int), .str r.2]
noncomputable def fmInner : Sx := (seqS (ifS (cmpE .Eq (varE "index") (litE (.int 0))) (seqS (ifS (cmpE .Eq (callE ifmtF (consL (varE "mode") nilL)) (varE "bit")) (seqS (appS "perm" (varE "char"))
  (seqS brkS
  nilS)) nilS)
  nilS) (seqS (ifS (cmpE .Eq (binE .BitAnd (varE "mode") (varE "bit")) (varE "bit")) (seqS (appS "perm" (varE "char"))
  (seqS brkS
  nilS)) nilS)
  nilS))
  nilS)
noncomputable def fmElse : Sx := (seqS (ifS (cmpE .Eq (varE "index") (litE (.int 0))) (seqS (appS "perm" (litE (.str (Str.ofString "?"))))
  nilS) (seqS (appS "perm" (litE (.str (Str.ofString "-"))))
  nilS))
  nilS)
theorem appS_val {x : Str} {f : Ex} {ρ : Rho} {xs : List D} {d : D} {k k' : Nat} (h : ρ x = some (.own xs)) (hf : f (dropOwn ρ) k = some (d, k')) (hl : xs.length + 1 ≤ 1000) : appS x f ρ k = some (.next, upd (dropOwn ρ) x (.own (xs ++ [d])), k') := by
  unfold appS; rw [h]; dsimp only; rw [hf]; dsimp only; rw [if_pos hl]
theorem drop_of {ρ : Rho} {y : Str} {d : D} (h : ρ y = some d) (hd : ∀ xs, d ≠ .own xs) : dropOwn ρ y = some d := by
  unfold dropOwn; rw [h]; cases d with
  | own xs => exact absurd rfl (hd xs)
  | _ => rfl
theorem seqS_brk {f g : Sx} {ρ ρ' : Rho} {k k' : Nat} (h : f ρ k = some (.brk, ρ', k')) : seqS f g ρ k = some (.brk, ρ', k') := by unfold seqS; rw [h]
theorem ifmtF_val (m k : Nat) : ifmtF [.int (m : Int)] k = some (.int ((m &&& 61440 : Nat) : Int), k) := by
  refine defF_ex rfl ⟨_, seqS_ret (retS_val (binE_val (k1 := k) (a := .int (m : Int)) (vD (by simp [varE, upd, restrN, bindP, ofString_inj, ofString_beq, List.lookup, Rw.enc]) (by intro xs h; cases h)) (rfl : litE (.int 61440) _ k = _) ?_))⟩
  show some (D.int (Builtin.bitAnd (m : Int) ((61440 : Nat) : Int))) = _
  rw [and_nat]
theorem eq_nat (a b : Nat) : cmpD .Eq (.int (a : Int)) (.int (b : Int)) = some (decide (a = b)) := by
  refine eqD_int.trans ?_
  congr 1
  rw [decide_eq_decide]; omega
theorem fm_step (i m b k : Nat) (c : Str) (ρ : Rho) (xs : List D) (hx : xs.length + 1 ≤ 1000) (h1 : ρ "index" = some (.int (i : Int))) (h2 : ρ "mode" = some (.int (m : Int))) (h3 : ρ "bit" = some (.int (b : Int))) (h4 : ρ "char" = some (.str c)) (h5 : ρ "perm" = some (.own xs)) :
    fmInner ρ k = if hit i m b then some (.brk, upd (dropOwn ρ) "perm" (.own (xs ++ [.str c])), k) else some (.next, ρ, k) := by
  have t0 : cmpE .Eq (varE "index") (litE (.int 0)) ρ k = some (decide (i = 0), k) := cmpE_val (k1 := k) (vD h1 (by intro xs h; cases h)) (rfl : litE (.int 0) ρ k = _) (eq_nat i 0)
  have t1 : cmpE .Eq (callE ifmtF (consL (varE "mode") nilL)) (varE "bit") ρ k = some (decide (m &&& 61440 = b), k) :=
    cmpE_val (k1 := k) ((callE_val (consL_val (k1 := k) (k2 := k) (vD h2 (by intro xs h; cases h)) rfl)).trans (ifmtF_val m k)) (vD h3 (by intro xs h; cases h)) (eq_nat _ _)
  have t2 : cmpE .Eq (binE .BitAnd (varE "mode") (varE "bit")) (varE "bit") ρ k = some (decide (m &&& b = b), k) := by
    refine cmpE_val (k1 := k) (binE_val (k1 := k) (k2 := k) (vD h2 (by intro xs h; cases h)) (vD h3 (by intro xs h; cases h)) (d := .int ((m &&& b : Nat) : Int)) ?_) (vD h3 (by intro xs h; cases h)) (eq_nat _ _)
    show some (D.int (Builtin.bitAnd _ _)) = _
    rw [and_nat]
  have ea : seqS (appS "perm" (varE "char")) (seqS brkS nilS) ρ k = some (.brk, upd (dropOwn ρ) "perm" (.own (xs ++ [.str c])), k) := by
    rw [seqS_next (appS_val h5 (vS (drop_of h4 (by intro xs h; cases h))) hx)]
    exact seqS_brk rfl
  unfold fmInner hit
  by_cases hi : i = 0
  · rw [decide_eq_true hi] at t0
    rw [if_pos hi]
    by_cases hb : m &&& 61440 = b
    · rw [decide_eq_true hb] at t1 ⊢
      rw [if_pos rfl]
      refine seqS_brk ?_
      rw [ifS_true t0]
      refine seqS_brk ?_
      rw [ifS_true t1]; exact ea
    · rw [decide_eq_false hb] at t1 ⊢
      rw [if_neg (by simp), seqS_next (ρ' := ρ) (k' := k)]
      · rfl
      · rw [ifS_true t0, seqS_next (ρ' := ρ) (k' := k)]
        · rfl
        · rw [ifS_false t1]; rfl
  · rw [decide_eq_false hi] at t0
    rw [if_neg hi]
    by_cases hb : m &&& b = b
    · rw [decide_eq_true hb] at t2 ⊢
      rw [if_pos rfl]
      refine seqS_brk ?_
      rw [ifS_false t0]
      refine seqS_brk ?_
      rw [ifS_true t2]; exact ea
    · rw [decide_eq_false hb] at t2 ⊢
      rw [if_neg (by simp), seqS_next (ρ' := ρ) (k' := k)]
      · rfl
      · rw [ifS_false t0, seqS_next (ρ' := ρ) (k' := k)]
        · rfl
        · rw [ifS_false t2]; rfl
theorem fm_inner (i m k : Nat) (xs : List D) (hx : xs.length + 1 ≤ 1000) : ∀ (rows : List (Nat × Str)) (ρ : Rho), ρ "index" = some (.int (i : Int)) → ρ "mode" = some (.int (m : Int)) → ρ "perm" = some (.own xs) →
    ∃ ρ', loopS (bfS2 "bit" "char") fmInner fmElse (rows.map rowE) ρ k = some (.next, ρ', k) ∧ ρ' "perm" = some (.own (xs ++ [.str (pick i m rows)])) ∧ ρ' "mode" = some (.int (m : Int))
  | [], ρ, h1, h2, h5 => by
    have t0 : cmpE .Eq (varE "index") (litE (.int 0)) ρ k = some (decide (i = 0), k) := cmpE_val (k1 := k) (vD h1 (by intro xs h; cases h)) (rfl : litE (.int 0) ρ k = _) (eq_nat i 0)
    refine ⟨upd (dropOwn ρ) "perm" (.own (xs ++ [.str (pick i m [])])), ?_, by simp [varE, upd, restrN, bindP, ofString_inj, ofString_beq, List.lookup, Rw.enc], by have := drop_of h2 (by intro xs h; cases h); simp [varE, upd, restrN, bindP, ofString_inj, ofString_beq, List.lookup, Rw.enc, this]⟩
    show fmElse ρ k = _
    unfold fmElse pick
    rw [seqS_next (ρ' := upd (dropOwn ρ) "perm" (.own (xs ++ [.str (pick i m [])]))) (k' := k)]
    · rfl
    · unfold pick
      by_cases hi : i = 0
      · rw [decide_eq_true hi] at t0
        rw [ifS_true t0, if_pos hi, seqS_next (appS_val h5 rfl hx)]; rfl
      · rw [decide_eq_false hi] at t0
        rw [ifS_false t0, if_neg hi, seqS_next (appS_val h5 rfl hx)]; rfl
  | r :: rows, ρ, h1, h2, h5 => by
    generalize hρ1 : upd (upd ρ "bit" (.int (r.1 : Int))) "char" (.str r.2) = ρ1
    have i1 : ρ1 "index" = some (.int (i : Int)) := by rw [← hρ1]; simp [varE, upd, restrN, bindP, ofString_inj, ofString_beq, List.lookup, Rw.enc, h1]
    have m1 : ρ1 "mode" = some (.int (m : Int)) := by rw [← hρ1]; simp [varE, upd, restrN, bindP, ofString_inj, ofString_beq, List.lookup, Rw.enc, h2]
    have p1 : ρ1 "perm" = some (.own xs) := by rw [← hρ1]; simp [varE, upd, restrN, bindP, ofString_inj, ofString_beq, List.lookup, Rw.enc, h5]
    have st := fm_step i m r.1 k r.2 ρ1 xs hx i1 m1 (by rw [← hρ1]; simp [varE, upd, restrN, bindP, ofString_inj, ofString_beq, List.lookup, Rw.enc]) (by rw [← hρ1]; simp [varE, upd, restrN, bindP, ofString_inj, ofString_beq, List.lookup, Rw.enc]) p1
    have hb : bfS2 "bit" "char" (rowE r) ρ = some ρ1 := by rw [← hρ1]; rfl
    by_cases hh : hit i m r.1 = true
    · rw [if_pos hh] at st
      refine ⟨upd (dropOwn ρ1) "perm" (.own (xs ++ [.str r.2])), ?_, ?_, ?_⟩
      · rw [List.map_cons]; unfold loopS; rw [hb]; dsimp only; rw [st]
      · unfold pick; rw [if_pos hh]; simp [varE, upd, restrN, bindP, ofString_inj, ofString_beq, List.lookup, Rw.enc]
      · have := drop_of m1 (by intro xs h; cases h); simp [varE, upd, restrN, bindP, ofString_inj, ofString_beq, List.lookup, Rw.enc, this]
    · rw [if_neg hh] at st
      obtain ⟨ρ', h6, h7, h8⟩ := fm_inner i m k xs hx rows ρ1 i1 m1 p1
      refine ⟨ρ', ?_, ?_, h8⟩
      · rw [List.map_cons]; unfold loopS; rw [hb]; dsimp only; rw [st]; exact h6
      · rw [h7]; conv => rhs; unfold pick
        rw [if_neg hh]
noncomputable def tabE (z : Nat × List (Nat × Str)) : D := .tuple [.int (z.1 : Int), .tuple (z.2.map rowE)]
noncomputable def tabs : List (Nat × List (Nat × Str)) :=
  [(0, [(40960, Str.ofString "l"), (49152, Str.ofString "s"), (32768, Str.ofString "-"), (24576, Str.ofString "b"), (16384, Str.ofString "d"), (8192, Str.ofString "c"), (4096, Str.ofString "p")]),
   (1, [(256, Str.ofString "r")]), (2, [(128, Str.ofString "w")]), (3, [(2112, Str.ofString "s"), (2048, Str.ofString "S"), (64, Str.ofString "x")]),
   (4, [(32, Str.ofString "r")]), (5, [(16, Str.ofString "w")]), (6, [(1032, Str.ofString "s"), (1024, Str.ofString "S"), (8, Str.ofString "x")]),
   (7, [(4, Str.ofString "r")]), (8, [(2, Str.ofString "w")]), (9, [(513, Str.ofString "t"), (512, Str.ofString "T"), (1, Str.ofString "x")])]
theorem tabs_eq : enumTD tabD = some (tabs.map tabE) := rfl
noncomputable def fmOuter : Sx := seqS (forS (bfS2 "bit" "char") (itemsTL (varE "table")) fmInner fmElse) nilS
theorem fm_outer (m k : Nat) : ∀ (zs : List (Nat × List (Nat × Str))) (xs : List Str) (ρ : Rho), xs.length + zs.length ≤ 100 → ρ "mode" = some (.int (m : Int)) → ρ "perm" = some (.own (xs.map .str)) →
    ∃ ρ', loopS (bfS2 "index" "table") fmOuter nilS (zs.map tabE) ρ k = some (.next, ρ', k) ∧ ρ' "perm" = some (.own ((xs ++ zs.map fun z => pick z.1 m z.2).map .str))
  | [], xs, ρ, _, h1, h2 => ⟨ρ, rfl, by simpa using h2⟩
  | z :: zs, xs, ρ, hl, h1, h2 => by
    simp only [List.length_cons] at hl
    generalize hρ1 : upd (upd ρ "index" (.int (z.1 : Int))) "table" (.tuple (z.2.map rowE)) = ρ1
    have hb : bfS2 "index" "table" (tabE z) ρ = some ρ1 := by rw [← hρ1]; rfl
    obtain ⟨ρ2, h6, h7, h8⟩ := fm_inner z.1 m k (xs.map .str) (by rw [List.length_map]; omega) z.2 ρ1 (by rw [← hρ1]; simp [varE, upd, restrN, bindP, ofString_inj, ofString_beq, List.lookup, Rw.enc]) (by rw [← hρ1]; simp [varE, upd, restrN, bindP, ofString_inj, ofString_beq, List.lookup, Rw.enc, h1]) (by rw [← hρ1]; simp [varE, upd, restrN, bindP, ofString_inj, ofString_beq, List.lookup, Rw.enc, h2])
    have e1 : fmOuter ρ1 k = some (.next, ρ2, k) := by
      unfold fmOuter
      rw [seqS_next (ρ' := ρ2) (k' := k)]
      · rfl
      · unfold forS itemsTL
        have : varE "table" ρ1 k = some (.tuple (z.2.map rowE), k) := by rw [← hρ1]; simp [varE, upd, restrN, bindP, ofString_inj, ofString_beq, List.lookup, Rw.enc]
        rw [this]; exact h6
    obtain ⟨ρ', h9, h10⟩ := fm_outer m k zs (xs ++ [pick z.1 m z.2]) ρ2 (by rw [List.length_append]; simp only [List.length_cons, List.length_nil]; omega) h8 (by rw [h7, List.map_append]; rfl)
    refine ⟨ρ', ?_, by rw [h10]; simp⟩
    rw [List.map_cons]; unfold loopS; rw [hb]; dsimp only; rw [e1]; exact h9
theorem hit_bit {i t : Nat} {f : Nat → Bool} (hi : i ≠ 0) (j : Nat) (hj : j < 12) : hit i (num t f) (2 ^ j) = f j := by
  unfold hit
  rw [if_neg hi, num_and t f j hj]
  cases f j
  · rw [decide_eq_false]
    have := Nat.two_pow_pos j
    simp; omega
  · simp
theorem hit_two {i t : Nat} {f : Nat → Bool} (hi : i ≠ 0) (j l : Nat) (hj : j < 12) (hl : l < j) (h : 2 ^ j + 2 ^ l = 2 ^ j ||| 2 ^ l) : hit i (num t f) (2 ^ j + 2 ^ l) = (f j && f l) := by
  have h1 := Nat.two_pow_pos j
  have h2 := Nat.two_pow_pos l
  have h3 : 2 ^ l < 2 ^ j := Nat.pow_lt_pow_right (by decide) hl
  unfold hit
  rw [if_neg hi]
  have e : num t f &&& (2 ^ j + 2 ^ l) = (f j).toNat * 2 ^ j ||| (f l).toNat * 2 ^ l := by
    rw [h, Nat.and_or_distrib_left, num_and t f j hj, num_and t f l (by omega)]
  rw [e]
  cases f j <;> cases f l
  · first | (simp; done) | (simp; omega)
  · first | (simp; done) | (simp; omega)
  · first | (simp; done) | (simp; omega)
  · simp [h]
noncomputable def pickT (x : Nat) : List (Nat × Str) → Str
  | [] => Str.ofString "?"
  | r :: rs => if decide (x = r.1) then r.2 else pickT x rs
theorem pick_T (m : Nat) : ∀ rs : List (Nat × Str), pick 0 m rs = pickT (m &&& 61440) rs
  | [] => rfl
  | r :: rs => by
    unfold pick pickT hit
    rw [if_pos rfl, pick_T m rs]
theorem pick0 {t : Nat} {f : Nat → Bool} (ht : t = 4 ∨ t = 8) : pick 0 (num t f) [(40960, Str.ofString "l"), (49152, Str.ofString "s"), (32768, Str.ofString "-"), (24576, Str.ofString "b"), (16384, Str.ofString "d"), (8192, Str.ofString "c"), (4096, Str.ofString "p")] = typS t := by
  rw [pick_T, num_mask t f ht]
  rcases ht with rfl | rfl <;> rfl
theorem pick1 {i t : Nat} {f : Nat → Bool} (hi : i ≠ 0) (j : Nat) (hj : j < 12) (c : Str) : pick i (num t f) [(2 ^ j, c)] = if f j then c else Str.ofString "-" := by
  unfold pick
  rw [hit_bit hi j hj]
  cases f j
  · rw [if_neg (by simp), if_neg (by simp)]; unfold pick; rw [if_neg hi]
  · rfl
theorem pick3 {i t : Nat} {f : Nat → Bool} (hi : i ≠ 0) (j l : Nat) (hj : j < 12) (hl : l < j) (h : 2 ^ j + 2 ^ l = 2 ^ j ||| 2 ^ l) (c d e : Str) : pick i (num t f) [(2 ^ j + 2 ^ l, c), (2 ^ j, d), (2 ^ l, e)] = if f j then (if f l then c else d) else if f l then e else Str.ofString "-" := by
  unfold pick
  rw [hit_two hi j l hj hl h]
  unfold pick
  rw [hit_bit hi j hj, pick1 hi l (by omega)]
  cases f j <;> cases f l <;> rfl
theorem picks_eq (t : Nat) (f : Nat → Bool) (ht : t = 4 ∨ t = 8) : (tabs.map fun z => pick z.1 (num t f) z.2) = typS t :: (List.range 9).map (sgS f) := by
  have e0 := pick0 (f := f) ht
  have e1 : pick 1 (num t f) [(256, Str.ofString "r")] = sgS f 0 := by
    refine (pick1 (i := 1) (t := t) (f := f) (by decide) 8 (by decide) (Str.ofString "r")).trans ?_
    show _ = (⟨#[sgc 0 (f 8) (f 11)]⟩ : Str)
    generalize f 8 = a; generalize f 11 = b
    cases a <;> cases b <;> rfl
  have e2 : pick 2 (num t f) [(128, Str.ofString "w")] = sgS f 1 := by
    refine (pick1 (i := 2) (t := t) (f := f) (by decide) 7 (by decide) (Str.ofString "w")).trans ?_
    show _ = (⟨#[sgc 1 (f 7) (f 11)]⟩ : Str)
    generalize f 7 = a; generalize f 11 = b
    cases a <;> cases b <;> rfl
  have e3 : pick 3 (num t f) [(2112, Str.ofString "s"), (2048, Str.ofString "S"), (64, Str.ofString "x")] = sgS f 2 := by
    refine (pick3 (i := 3) (t := t) (f := f) (by decide) 11 6 (by decide) (by decide) (by decide) (Str.ofString "s") (Str.ofString "S") (Str.ofString "x")).trans ?_
    show _ = (⟨#[sgc 2 (f 6) (f 11)]⟩ : Str)
    generalize f 6 = a; generalize f 11 = b
    cases a <;> cases b <;> rfl
  have e4 : pick 4 (num t f) [(32, Str.ofString "r")] = sgS f 3 := by
    refine (pick1 (i := 4) (t := t) (f := f) (by decide) 5 (by decide) (Str.ofString "r")).trans ?_
    show _ = (⟨#[sgc 3 (f 5) (f 10)]⟩ : Str)
    generalize f 5 = a; generalize f 10 = b
    cases a <;> cases b <;> rfl
  have e5 : pick 5 (num t f) [(16, Str.ofString "w")] = sgS f 4 := by
    refine (pick1 (i := 5) (t := t) (f := f) (by decide) 4 (by decide) (Str.ofString "w")).trans ?_
    show _ = (⟨#[sgc 4 (f 4) (f 10)]⟩ : Str)
    generalize f 4 = a; generalize f 10 = b
    cases a <;> cases b <;> rfl
  have e6 : pick 6 (num t f) [(1032, Str.ofString "s"), (1024, Str.ofString "S"), (8, Str.ofString "x")] = sgS f 5 := by
    refine (pick3 (i := 6) (t := t) (f := f) (by decide) 10 3 (by decide) (by decide) (by decide) (Str.ofString "s") (Str.ofString "S") (Str.ofString "x")).trans ?_
    show _ = (⟨#[sgc 5 (f 3) (f 10)]⟩ : Str)
    generalize f 3 = a; generalize f 10 = b
    cases a <;> cases b <;> rfl
  have e7 : pick 7 (num t f) [(4, Str.ofString "r")] = sgS f 6 := by
    refine (pick1 (i := 7) (t := t) (f := f) (by decide) 2 (by decide) (Str.ofString "r")).trans ?_
    show _ = (⟨#[sgc 6 (f 2) (f 9)]⟩ : Str)
    generalize f 2 = a; generalize f 9 = b
    cases a <;> cases b <;> rfl
  have e8 : pick 8 (num t f) [(2, Str.ofString "w")] = sgS f 7 := by
    refine (pick1 (i := 8) (t := t) (f := f) (by decide) 1 (by decide) (Str.ofString "w")).trans ?_
    show _ = (⟨#[sgc 7 (f 1) (f 9)]⟩ : Str)
    generalize f 1 = a; generalize f 9 = b
    cases a <;> cases b <;> rfl
  have e9 : pick 9 (num t f) [(513, Str.ofString "t"), (512, Str.ofString "T"), (1, Str.ofString "x")] = sgS f 8 := by
    refine (pick3 (i := 9) (t := t) (f := f) (by decide) 9 0 (by decide) (by decide) (by decide) (Str.ofString "t") (Str.ofString "T") (Str.ofString "x")).trans ?_
    show _ = (⟨#[sgc 8 (f 0) (f 9)]⟩ : Str)
    generalize f 0 = a; generalize f 9 = b
    cases a <;> cases b <;> rfl
  have r : List.range 9 = [0, 1, 2, 3, 4, 5, 6, 7, 8] := rfl
  rw [r]
  simp only [tabs, List.map_cons, List.map_nil]
  rw [e0, e1, e2, e3, e4, e5, e6, e7, e8, e9]
theorem catS_foldl (f : Nat → Bool) : ∀ (ks : List Nat) (T : Str), T ++ catS (ks.map (sgS f)) = ks.foldl (fun T k => T ++ sgS f k) T
  | [], T => by
    apply str_ext
    have := tl_append T (catS ([].map (sgS f)))
    unfold tl at this
    rw [this]; simp [catS]
  | k :: ks, T => by
    rw [List.foldl_cons, ← catS_foldl f ks]
    apply str_ext
    have h1 := tl_append T (catS ((k :: ks).map (sgS f)))
    have h2 := tl_append (T ++ sgS f k) (catS (ks.map (sgS f)))
    have h3 := tl_append T (sgS f k)
    have h4 := tl_append (sgS f k) (catS (ks.map (sgS f)))
    unfold tl at h1 h2 h3 h4
    rw [h1, h2, h3, List.map_cons]
    show _ ++ (sgS f k ++ catS (ks.map (sgS f))).cps.toList = _
    rw [h4, List.append_assoc]
theorem filemodeF_val (t : Nat) (ht : t = 4 ∨ t = 8) (f : Nat → Bool) (k : Nat) : filemodeF [.int (num t f : Int)] k = some (.str (sgnS t f), k) := by
  refine defF_ex rfl ?_
  generalize hρ0 : bindP ["mode"] [.int (num t f : Int)] = ρ0
  have m0 : ρ0 "mode" = some (.int (num t f : Int)) := by rw [← hρ0]; simp [varE, upd, restrN, bindP, ofString_inj, ofString_beq, List.lookup, Rw.enc]
  obtain ⟨ρ', h5, h6⟩ := fm_outer (num t f) k tabs [] (upd ρ0 "perm" (.own [])) (by decide) (by simp [varE, upd, restrN, bindP, ofString_inj, ofString_beq, List.lookup, Rw.enc, m0]) (by simp [varE, upd, restrN, bindP, ofString_inj, ofString_beq, List.lookup, Rw.enc])
  refine ⟨ρ', ?_⟩
  unfold filemodeS
  rw [seqS_next (ρ' := upd ρ0 "perm" (.own [])) (k' := k) rfl, seqS_next (ρ' := ρ') (k' := k)]
  · refine seqS_ret ?_
    unfold joinS
    rw [h6, List.nil_append, picks_eq t f ht]
    dsimp only
    rw [strsD_map]
    dsimp only
    have : ((typS t :: (List.range 9).map (sgS f)).map (·.length)).sum + (typS t :: (List.range 9).map (sgS f)).length ≤ big := by
      have e : ((typS t :: (List.range 9).map (sgS f)).map (·.length)) = 1 :: (List.range 9).map fun _ => 1 := by
        rw [List.map_cons, List.map_map]; rfl
      rw [e, List.length_cons, List.length_map]; decide
    rw [if_pos this]
    have := catS_foldl f (List.range 9) (typS t)
    unfold sgnS
    rw [← this]; rfl
  · unfold forS enumTL
    dsimp only [litE]
    rw [tabs_eq]; exact h5
end Mine
end

section
open PySem PySem.W
set_option Elab.async false
set_option maxRecDepth 100000
set_option linter.unusedVariables false
set_option linter.unusedSimpArgs false
namespace Mine
structure Qd where
  r : Bool
  w : Bool
  s : Bool
  x : Bool
noncomputable def put (p : Nat) (f : Nat → Bool) (q : Qd) (i : Nat) : Bool := if i = 8 - 3 * p then q.r else if i = 7 - 3 * p then q.w else if i = 6 - 3 * p then q.x else if i = 11 - p then q.s else f i
noncomputable def q0 : Qd := ⟨false, false, false, false⟩
noncomputable def qs : List Qd := [⟨false, false, false, false⟩, ⟨false, false, false, true⟩, ⟨false, false, true, false⟩, ⟨false, false, true, true⟩,
  ⟨false, true, false, false⟩, ⟨false, true, false, true⟩, ⟨false, true, true, false⟩, ⟨false, true, true, true⟩,
  ⟨true, false, false, false⟩, ⟨true, false, false, true⟩, ⟨true, false, true, false⟩, ⟨true, false, true, true⟩,
  ⟨true, true, false, false⟩, ⟨true, true, false, true⟩, ⟨true, true, true, false⟩, ⟨true, true, true, true⟩]
noncomputable def cls (p : Nat) (q : Qd) : Str := ⟨#[sgc (3 * p) q.r q.s, sgc (3 * p + 1) q.w q.s, sgc (3 * p + 2) q.x q.s]⟩
noncomputable def bare (t p : Nat) (f : Nat → Bool) : Nat := num t (put p f q0)
noncomputable def leadS (t p : Nat) (f : Nat → Bool) : Str := strTake (sgnS t (put p f q0)) (1 + 3 * p)
noncomputable def tailS (t p : Nat) (f : Nat → Bool) : Str := strDrop (sgnS t (put p f q0)) (4 + 3 * p)

noncomputable def ofN : Nat → Nat → List Bool
  | 0, _ => []
  | n + 1, B => decide (B % 2 = 1) :: ofN n (B / 2)
theorem hn_ofN : ∀ n B : Nat, hn (ofN n B) (B / 2 ^ n) = B
  | 0, B => by show B / 2 ^ 0 = B; omega
  | n + 1, B => by
    have e := hn_ofN n (B / 2)
    rw [Nat.div_div_eq_div_mul, ← Nat.pow_succ'] at e
    show (decide (B % 2 = 1)).toNat + 2 * hn (ofN n (B / 2)) (B / 2 ^ (n + 1)) = B
    rw [e]
    rcases Nat.mod_two_eq_zero_or_one B with h | h <;> rw [h] <;> simp <;> omega
theorem bits_ex (B : Nat) (h : B < 4096) : ∃ f : Nat → Bool, num 0 f = B := by
  refine ⟨fun i => (ofN 12 B).getD i false, ?_⟩
  have e := hn_ofN 12 B
  rw [show B / 2 ^ 12 = 0 by omega] at e
  rw [num_hn]
  exact e
theorem num_zero (t : Nat) (f : Nat → Bool) : num t f = t * 4096 + num 0 f := by
  unfold num
  rw [Nat.zero_mul, Nat.zero_add]
theorem set_at (f : Nat → Bool) (bs : List Bool) (i j : Nat) (a : Bool) (x : Nat) (n : i ≠ j) (h : ∀ h : j < bs.length, bs[j].toNat = x) : ∀ h : j < (bs.set i a).length, (bs.set i a)[j].toNat = x := fun h' => by
  rw [List.getElem_set_ne n]
  exact h _
theorem hn4 (t : Nat) (f : Nat → Bool) (i j k l : Nat) (a b c d : Bool) (hi : i < 12) (hj : j < 12) (hk : k < 12) (hl : l < 12) (n1 : i ≠ j) (n2 : i ≠ k) (n3 : i ≠ l) (n4 : j ≠ k) (n5 : j ≠ l) (n6 : k ≠ l) :
    hn (((((bitsL f).set i a).set j b).set k c).set l d) t + ((f i).toNat * 2 ^ i + (f j).toNat * 2 ^ j + (f k).toNat * 2 ^ k + (f l).toNat * 2 ^ l) = num t f + (a.toNat * 2 ^ i + b.toNat * 2 ^ j + c.toNat * 2 ^ k + d.toNat * 2 ^ l) := by
  have g : ∀ i, ∀ h : i < (bitsL f).length, (bitsL f)[i].toNat = (f i).toNat := fun i h => by rw [bitsL_at]
  have L : (bitsL f).length = 12 := rfl
  have e1 := hn_set (bitsL f) t i a (by rw [L]; exact hi)
  have e2 := hn_set ((bitsL f).set i a) t j b (by rw [List.length_set, L]; exact hj)
  have e3 := hn_set (((bitsL f).set i a).set j b) t k c (by rw [List.length_set, List.length_set, L]; exact hk)
  have e4 := hn_set ((((bitsL f).set i a).set j b).set k c) t l d (by rw [List.length_set, List.length_set, List.length_set, L]; exact hl)
  rw [g i] at e1
  rw [set_at f _ i j a _ n1 (g j)] at e2
  rw [set_at f _ j k b _ n4 (set_at f _ i k a _ n2 (g k))] at e3
  rw [set_at f _ k l c _ n6 (set_at f _ j l b _ n5 (set_at f _ i l a _ n3 (g l)))] at e4
  rw [num_hn]
  clear g L n1 n2 n3 n4 n5 n6 hi hj hk hl
  generalize (f i).toNat * 2 ^ i = x1 at *
  generalize (f j).toNat * 2 ^ j = x2 at *
  generalize (f k).toNat * 2 ^ k = x3 at *
  generalize (f l).toNat * 2 ^ l = x4 at *
  generalize a.toNat * 2 ^ i = y1 at *
  generalize b.toNat * 2 ^ j = y2 at *
  generalize c.toNat * 2 ^ k = y3 at *
  generalize d.toNat * 2 ^ l = y4 at *
  omega
theorem put_num (t i l : Nat) (f g : Nat → Bool) (q : Qd) (e : bitsL g = ((((bitsL f).set (i + 2) q.r).set (i + 1) q.w).set i q.x).set l q.s) (hi : i + 2 < 12) (hl : l < 12) (n1 : i + 2 ≠ l) (n2 : i + 1 ≠ l) (n3 : i ≠ l) :
    num t g + ((f (i + 2)).toNat * 2 ^ (i + 2) + (f (i + 1)).toNat * 2 ^ (i + 1) + (f i).toNat * 2 ^ i + (f l).toNat * 2 ^ l) = num t f + (q.r.toNat * 2 ^ (i + 2) + q.w.toNat * 2 ^ (i + 1) + q.x.toNat * 2 ^ i + q.s.toNat * 2 ^ l) := by
  rw [num_hn t g, e]
  exact hn4 t f _ _ _ _ _ _ _ _ hi (Nat.lt_of_succ_lt hi) (Nat.lt_of_succ_lt (Nat.lt_of_succ_lt hi)) hl (Nat.succ_ne_self _) (Nat.ne_of_gt (Nat.lt_add_of_pos_right (by decide))) n1 (Nat.succ_ne_self _) n2 n3
theorem put_zero (t i l : Nat) (f g : Nat → Bool) (e : bitsL g = ((((bitsL f).set (i + 2) false).set (i + 1) false).set i false).set l false) (hi : i + 2 < 12) (hl : l < 12) (n1 : i + 2 ≠ l) (n2 : i + 1 ≠ l) (n3 : i ≠ l) :
    num t g + ((f (i + 2)).toNat * 2 ^ (i + 2) + (f (i + 1)).toNat * 2 ^ (i + 1) + (f i).toNat * 2 ^ i + (f l).toNat * 2 ^ l) = num t f := by
  refine (put_num t i l f g q0 e hi hl n1 n2 n3).trans ?_
  show num t f + (0 * 2 ^ (i + 2) + 0 * 2 ^ (i + 1) + 0 * 2 ^ i + 0 * 2 ^ l) = _
  rw [Nat.zero_mul, Nat.zero_mul, Nat.zero_mul, Nat.zero_mul]; rfl
theorem dig (m : Nat) : m % 8 = m % 2 + 2 * (m / 2 % 2) + 2 * (2 * (m / 2 / 2 % 2)) := by
  rw [show 8 = 2 * (2 * 2) from rfl, Nat.mod_mul, Nat.mod_mul, Nat.mul_add, ← Nat.add_assoc]
theorem pow3 (x1 x2 x3 i : Nat) : (x3 + 2 * x2 + 2 * (2 * x1)) * 2 ^ i = x1 * 2 ^ (i + 2) + x2 * 2 ^ (i + 1) + x3 * 2 ^ i := by
  have h2 : 2 ^ (i + 2) = 2 * (2 * 2 ^ i) := by rw [Nat.pow_succ', Nat.pow_succ']
  rw [h2, Nat.pow_succ', Nat.add_mul, Nat.add_mul, Nat.mul_left_comm x1, Nat.mul_left_comm x1, Nat.mul_left_comm x2, Nat.mul_assoc, Nat.mul_assoc, Nat.mul_assoc, Nat.add_comm (x3 * 2 ^ i), Nat.add_comm, ← Nat.add_assoc]
theorem bare_core (t i l c s : Nat) (f g : Nat → Bool) (hc : c = 2 ^ i) (hs : s = 2 ^ l) (e : bitsL g = ((((bitsL f).set (i + 2) false).set (i + 1) false).set i false).set l false) (hi : i + 2 < 12) (hl : l < 12) (n1 : i + 2 ≠ l) (n2 : i + 1 ≠ l) (n3 : i ≠ l) :
    ((t : Int) * 4096 + (num 0 f : Int) - ((num 0 f / c % 8 : Nat) : Int) * (c : Int)) - ((num 0 f / s % 2 : Nat) : Int) * (s : Int) = (num t g : Int) := by
  have e1 := put_zero t i l f g e hi hl n1 n2 n3
  have z := num_zero t f
  rw [← pow3, z] at e1
  subst hc hs
  rw [dig, Nat.div_div_eq_div_mul, Nat.div_div_eq_div_mul, ← Nat.pow_succ, ← Nat.pow_succ, num_bit 0 f _ hi, num_bit 0 f _ (Nat.lt_of_succ_lt hi), num_bit 0 f _ (Nat.lt_of_succ_lt (Nat.lt_of_succ_lt hi)), num_bit 0 f _ hl]
  clear z e hi hl n1 n2 n3
  rw [← Int.natCast_mul, ← Int.natCast_mul]
  generalize (_ + _ + _) * 2 ^ i = x at *
  generalize (f l).toNat * 2 ^ l = y at *
  omega
theorem mode_core (t i l c s : Nat) (f g g0 : Nat → Bool) (q : Qd) (hc : c = 2 ^ i) (hs : s = 2 ^ l) (e0 : bitsL g0 = ((((bitsL f).set (i + 2) false).set (i + 1) false).set i false).set l false) (e : bitsL g = ((((bitsL f).set (i + 2) q.r).set (i + 1) q.w).set i q.x).set l q.s) (hi : i + 2 < 12) (hl : l < 12) (n1 : i + 2 ≠ l) (n2 : i + 1 ≠ l) (n3 : i ≠ l) :
    (num t g0 : Int) + ((q.r.toNat : Int) * 4 + (q.w.toNat : Int) * 2 + (q.x.toNat : Int)) * (c : Int) + (q.s.toNat : Int) * (s : Int) = (num t g : Int) := by
  have e1 := put_zero t i l f g0 e0 hi hl n1 n2 n3
  have e2 := put_num t i l f g q e hi hl n1 n2 n3
  rw [← pow3 q.r.toNat] at e2
  subst hc hs
  generalize _ + (f l).toNat * 2 ^ l = x at *
  have e3 : (q.r.toNat : Int) * 4 + (q.w.toNat : Int) * 2 + (q.x.toNat : Int) = ((q.x.toNat + 2 * q.w.toNat + 2 * (2 * q.r.toNat) : Nat) : Int) := by clear e1 e2 e e0 hi hl n1 n2 n3; omega
  rw [e3, ← Int.natCast_mul, ← Int.natCast_mul]
  generalize (_ + _ + _) * 2 ^ i = y at *
  generalize q.s.toNat * 2 ^ l = z at *
  clear e3 e e0 hi hl n1 n2 n3
  omega
theorem bare_eq (t p : Nat) (hp : p < 3) (f : Nat → Bool) : ((t : Int) * 4096 + (num 0 f : Int) - ((num 0 f / 8 ^ (2 - p) % 8 : Nat) : Int) * ((8 ^ (2 - p) : Nat) : Int)) - ((num 0 f / 2 ^ (11 - p) % 2 : Nat) : Int) * ((2 ^ (11 - p) : Nat) : Int) = (bare t p f : Int) := by
  have hp' : p = 0 ∨ p = 1 ∨ p = 2 := by omega
  clear hp
  rcases hp' with rfl | rfl | rfl
  · exact bare_core t 6 11 _ _ f _ (by decide) (by decide) (by kernel_rfl) (by decide) (by decide) (by decide) (by decide) (by decide)
  · exact bare_core t 3 10 _ _ f _ (by decide) (by decide) (by kernel_rfl) (by decide) (by decide) (by decide) (by decide) (by decide)
  · exact bare_core t 0 9 _ _ f _ (by decide) (by decide) (by kernel_rfl) (by decide) (by decide) (by decide) (by decide) (by decide)
theorem mode_eq (t p : Nat) (hp : p < 3) (f : Nat → Bool) (q : Qd) : (bare t p f : Int) + ((q.r.toNat : Int) * 4 + (q.w.toNat : Int) * 2 + (q.x.toNat : Int)) * ((8 ^ (2 - p) : Nat) : Int) + (q.s.toNat : Int) * ((2 ^ (11 - p) : Nat) : Int) = (num t (put p f q) : Int) := by
  have hp' : p = 0 ∨ p = 1 ∨ p = 2 := by omega
  clear hp
  rcases hp' with rfl | rfl | rfl
  · exact mode_core t 6 11 _ _ f _ _ q (by decide) (by decide) (by kernel_rfl) (by kernel_rfl) (by decide) (by decide) (by decide) (by decide) (by decide)
  · exact mode_core t 3 10 _ _ f _ _ q (by decide) (by decide) (by kernel_rfl) (by kernel_rfl) (by decide) (by decide) (by decide) (by decide) (by decide)
  · exact mode_core t 0 9 _ _ f _ _ q (by decide) (by decide) (by kernel_rfl) (by kernel_rfl) (by decide) (by decide) (by decide) (by decide) (by decide)
theorem tl_foldl (f : Nat → Bool) : ∀ (ks : List Nat) (T : Str), tl (ks.foldl (fun T k => T ++ sgS f k) T) = tl T ++ ks.map fun k => sgc k (f (8 - k)) (f (11 - k / 3))
  | [], T => by simp
  | k :: ks, T => by
    rw [List.foldl_cons, tl_foldl f ks, tl_append, List.append_assoc]; rfl
theorem tl_sgnS (t : Nat) (f : Nat → Bool) : tl (sgnS t f) = (if t = 4 then 100 else 45) :: (List.range 9).map fun k => sgc k (f (8 - k)) (f (11 - k / 3)) := by
  unfold sgnS
  rw [tl_foldl]; rfl
theorem tl_lead (t p : Nat) (f : Nat → Bool) : tl (leadS t p f) = (tl (sgnS t (put p f q0))).take (1 + 3 * p) := strTake_eq
theorem tl_tail (t p : Nat) (f : Nat → Bool) : tl (tailS t p f) = (tl (sgnS t (put p f q0))).drop (4 + 3 * p) := by unfold tailS strDrop; simp
theorem sgn_split (t p : Nat) (hp : p < 3) (f : Nat → Bool) (q : Qd) : sgnS t (put p f q) = leadS t p f ++ (cls p q ++ tailS t p f) := by
  apply str_ext
  have h1 := tl_append (leadS t p f) (cls p q ++ tailS t p f)
  have h2 := tl_append (cls p q) (tailS t p f)
  show tl _ = tl _
  rw [h1, h2, tl_lead, tl_tail, tl_sgnS, tl_sgnS]
  have hc : p = 0 ∨ p = 1 ∨ p = 2 := by omega
  clear h1 h2 hp
  rcases hc with rfl | rfl | rfl
  · kernel_rfl
  · kernel_rfl
  · kernel_rfl
theorem lead_len (t p : Nat) (f : Nat → Bool) : (leadS t p f).length ≤ 10 := by
  rw [str_len]
  have := tl_lead t p f
  unfold tl at this
  rw [this, List.length_take]
  have := tl_sgnS t (put p f q0)
  unfold tl at this
  rw [this]
  simp; omega
theorem tail_len (t p : Nat) (f : Nat → Bool) : (tailS t p f).length ≤ 10 := by
  rw [str_len]
  have := tl_tail t p f
  unfold tl at this
  rw [this, List.length_drop]
  have := tl_sgnS t (put p f q0)
  unfold tl at this
  rw [this]
  first | (simp; done) | (simp; omega)
theorem cls_len (p : Nat) (q : Qd) : (cls p q).length = 3 := rfl
noncomputable def frontsL (p : Nat) : List Str := [Str.ofString "", Str.ofString "-", Str.ofString "r", Str.ofString "--", Str.ofString "-w", Str.ofString "r-", Str.ofString "rw"] ++ qs.map (cls p)
theorem front_len (p : Nat) : ∀ s ∈ frontsL p, s.length ≤ 3 := by
  intro s hs
  unfold frontsL at hs
  rcases List.mem_append.mp hs with h | h
  · have : ∀ s ∈ [Str.ofString "", Str.ofString "-", Str.ofString "r", Str.ofString "--", Str.ofString "-w", Str.ofString "r-", Str.ofString "rw"], s.length ≤ 3 := by decide +kernel
    exact this s h
  · obtain ⟨q, _, rfl⟩ := List.mem_map.mp h
    rw [cls_len]; omega
theorem tree_ok (p : Nat) (hp : p < 3) : M.Tree (qs.map fun q => tl (cls p q)) ((frontsL p).map tl) share := by
  match p, hp with
  | 0, _ => exact ⟨by decide +kernel⟩
  | 1, _ => exact ⟨by decide +kernel⟩
  | 2, _ => exact ⟨by decide +kernel⟩
end Mine
end

section
open PySem PySem.W
set_option Elab.async false
set_option maxRecDepth 100000
set_option linter.unusedVariables false
set_option linter.unusedSimpArgs false
namespace Mine
theorem restrN_congr {fv : List Str} {ρ ρ' : Rho} (h : ∀ x ∈ fv, ρ x = ρ' x) : restrN fv ρ = restrN fv ρ' := by
  funext x
  unfold restrN
  by_cases hx : x ∈ fv
  · rw [if_pos hx, if_pos hx, h x hx]
  · rw [if_neg hx, if_neg hx]
theorem vI {x : Str} {ρ : Rho} {k : Nat} {i : Int} (h : ρ x = some (.int i)) : varE x ρ k = some (.int i, k) := by unfold varE; rw [h]
section
variable {ρ : Rho} {k p : Nat}
theorem sub2 (hp : p < 3) (h : ρ "place" = some (.int (p : Int))) : binE .Sub (litE (.int 2)) (varE "place") ρ k = some (.int ((2 - p : Nat) : Int), k) := by
  refine binE_val (k1 := k) rfl (vI h) ?_
  match p, hp with
  | 0, _ | 1, _ | 2, _ => rfl
theorem sub11 (hp : p < 3) (h : ρ "place" = some (.int (p : Int))) : binE .Sub (litE (.int 11)) (varE "place") ρ k = some (.int ((11 - p : Nat) : Int), k) := by
  refine binE_val (k1 := k) rfl (vI h) ?_
  match p, hp with
  | 0, _ | 1, _ | 2, _ => rfl
theorem pow8 (hp : p < 3) (h : ρ "place" = some (.int (p : Int))) : binE .Pow (litE (.int 8)) (binE .Sub (litE (.int 2)) (varE "place")) ρ k = some (.int ((8 ^ (2 - p) : Nat) : Int), k) := by
  refine binE_val (k1 := k) rfl (sub2 hp h) ?_
  match p, hp with
  | 0, _ | 1, _ | 2, _ => rfl
theorem pow2 (hp : p < 3) (h : ρ "place" = some (.int (p : Int))) : binE .Pow (litE (.int 2)) (binE .Sub (litE (.int 11)) (varE "place")) ρ k = some (.int ((2 ^ (11 - p) : Nat) : Int), k) := by
  refine binE_val (k1 := k) rfl (sub11 hp h) ?_
  match p, hp with
  | 0, _ | 1, _ | 2, _ => rfl
theorem mul_val {a b : Int} (h : b.natAbs < 2 ^ 60) : binD .Mult (.int a) (.int b) = some (.int (a * b)) := by unfold binD; dsimp only [int2, addD]; rw [if_pos h]
theorem bare_val (hp : p < 3) (t : Nat) (f : Nat → Bool) (h1 : ρ "place" = some (.int (p : Int))) (h2 : ρ "bits" = some (.int (num 0 f : Int))) (h3 : ρ "kind" = some (.int (t : Int))) :
    binE .Sub (binE .Sub (binE .Add (binE .Mult (varE "kind") (litE (.int 4096))) (varE "bits")) (binE .Mult (binE .Mod (binE .FloorDiv (varE "bits") (binE .Pow (litE (.int 8)) (binE .Sub (litE (.int 2)) (varE "place")))) (litE (.int 8))) (binE .Pow (litE (.int 8)) (binE .Sub (litE (.int 2)) (varE "place"))))) (binE .Mult (binE .Mod (binE .FloorDiv (varE "bits") (binE .Pow (litE (.int 2)) (binE .Sub (litE (.int 11)) (varE "place")))) (litE (.int 2))) (binE .Pow (litE (.int 2)) (binE .Sub (litE (.int 11)) (varE "place")))) ρ k = some (.int (bare t p f : Int), k) := by
  rw [← bare_eq t p hp f]
  have b8 : (((8 ^ (2 - p) : Nat) : Int)).natAbs < 2 ^ 60 := by
    match p, hp with
    | 0, _ | 1, _ | 2, _ => decide
  have b2 : (((2 ^ (11 - p) : Nat) : Int)).natAbs < 2 ^ 60 := by
    match p, hp with
    | 0, _ | 1, _ | 2, _ => decide
  refine binE_val (k1 := k) (binE_val (k1 := k) (binE_val (k1 := k) (binE_val (k1 := k) (vI h3) rfl (mul_val (by decide))) (vI h2) rfl) (binE_val (k1 := k) (binE_val (k1 := k) (binE_val (k1 := k) (vI h2) (pow8 hp h1) (div_nat _ _ ?_)) rfl (mod_nat _ 8 (by decide))) (pow8 hp h1) (mul_val b8)) rfl)
    (binE_val (k1 := k) (binE_val (k1 := k) (binE_val (k1 := k) (vI h2) (pow2 hp h1) (div_nat _ _ (Nat.ne_of_gt (Nat.two_pow_pos _)))) rfl (mod_nat _ 2 (by decide))) (pow2 hp h1) (mul_val b2)) rfl
  exact Nat.ne_of_gt (Nat.pow_pos (by decide))
noncomputable def modesE : Ex := compE ["bare", "place"] (itemsL (listE (consL (litE (.int 0)) (consL (litE (.int 1)) nilL)))) (loopC (bf1 "r") trueT (nestL (itemsL (listE (consL (litE (.int 0)) (consL (litE (.int 1)) nilL)))) (loopC (bf1 "w") trueT (nestL (itemsL (listE (consL (litE (.int 0)) (consL (litE (.int 1)) nilL)))) (loopC (bf1 "s") trueT (nestL (itemsL (listE (consL (litE (.int 0)) (consL (litE (.int 1)) nilL)))) (loopC (bf1 "x") trueT (oneL (binE .Add (binE .Add (varE "bare") (binE .Mult (binE .Add (binE .Add (binE .Mult (varE "r") (litE (.int 4))) (binE .Mult (varE "w") (litE (.int 2)))) (varE "x")) (binE .Pow (litE (.int 8)) (binE .Sub (litE (.int 2)) (varE "place"))))) (binE .Mult (varE "s") (binE .Pow (litE (.int 2)) (binE .Sub (litE (.int 11)) (varE "place")))))))))))))
theorem modes_val (hp : p < 3) (t : Nat) (f : Nat → Bool) (h1 : ρ "place" = some (.int (p : Int))) (h2 : ρ "bare" = some (.int (bare t p f : Int))) : modesE ρ k = some (.list (qs.map fun q => .int (num t (put p f q) : Int)), k) := by
  have e : (qs.map fun q => D.int (num t (put p f q) : Int)) = qs.map fun q => D.int ((bare t p f : Int) + ((q.r.toNat : Int) * 4 + (q.w.toNat : Int) * 2 + (q.x.toNat : Int)) * ((8 ^ (2 - p) : Nat) : Int) + (q.s.toNat : Int) * ((2 ^ (11 - p) : Nat) : Int)) := List.map_congr_left fun q _ => by rw [mode_eq t p hp f q]
  rw [e]
  generalize (bare t p f : Int) = b at *
  unfold modesE
  refine compE_val (k1 := k) (ds := [.int 0, .int 1]) rfl ?_ (by rw [List.length_map]; decide)
  rw [restrN_congr (ρ' := bindP ["bare", "place"] [.int b, .int (p : Int)]) (fun x hx => by
    rcases List.mem_cons.mp hx with rfl | hx
    · rw [h2]; rfl
    · rw [List.mem_singleton.mp hx, h1]; rfl)]
  have hc : p = 0 ∨ p = 1 ∨ p = 2 := by omega
  clear h1 h2 hp e
  rcases hc with rfl | rfl | rfl
  · kernel_rfl
  · kernel_rfl
  · kernel_rfl
noncomputable def classesE : Ex := compE ["place"] (itemsL (litE (.str (Str.ofString "-r")))) (loopC (bf1 "r") trueT (nestL (itemsL (litE (.str (Str.ofString "-w")))) (loopC (bf1 "w") trueT (nestL (itemsL (idxE (listE (consL (litE (.str (Str.ofString "-xSs"))) (consL (litE (.str (Str.ofString "-xSs"))) (consL (litE (.str (Str.ofString "-xTt"))) nilL)))) (varE "place"))) (loopC (bf1 "x") trueT (oneL (binE .Add (binE .Add (varE "r") (varE "w")) (varE "x"))))))))
theorem classes_val (hp : p < 3) (h1 : ρ "place" = some (.int (p : Int))) : classesE ρ k = some (.list (qs.map fun q => .str (cls p q)), k) := by
  unfold classesE
  refine compE_val (k1 := k) (ds := [.str (Str.ofString "-"), .str (Str.ofString "r")]) rfl ?_ (by rw [List.length_map]; decide)
  rw [restrN_congr (ρ' := bindP ["place"] [.int (p : Int)]) (fun x hx => by
    rw [List.mem_singleton.mp hx, h1]; rfl)]
  have hc : p = 0 ∨ p = 1 ∨ p = 2 := by omega
  clear h1 hp
  rcases hc with rfl | rfl | rfl
  · kernel_rfl
  · kernel_rfl
  · kernel_rfl
theorem lead_val (hp : p < 3) (t : Nat) (ht : t = 4 ∨ t = 8) (f : Nat → Bool) (h1 : ρ "place" = some (.int (p : Int))) (h2 : ρ "bare" = some (.int (bare t p f : Int))) :
    twoE hiD (callE signsF (consL (varE "bare") nilL)) (binE .Add (litE (.int 1)) (binE .Mult (litE (.int 3)) (varE "place"))) ρ k = some (.str (leadS t p f), k) := by
  refine twoE_val (k1 := k) (a := .str (sgnS t (put p f q0))) (b := .int ((1 + 3 * p : Nat) : Int)) ?_ (binE_val (k1 := k) rfl (binE_val (k1 := k) rfl (vI h1) (mul_val ?_)) ?_) (hi_str _ _)
  · exact (callE_val (consL_val (k1 := k) (k2 := k) (vI h2) rfl)).trans (signsF_val t ht _ k)
  · match p, hp with
    | 0, _ | 1, _ | 2, _ => decide
  · show some (D.int _) = some (D.int _); congr 2
theorem tail_val (hp : p < 3) (t : Nat) (ht : t = 4 ∨ t = 8) (f : Nat → Bool) (h1 : ρ "place" = some (.int (p : Int))) (h2 : ρ "bare" = some (.int (bare t p f : Int))) :
    twoE loD (callE signsF (consL (varE "bare") nilL)) (binE .Add (litE (.int 4)) (binE .Mult (litE (.int 3)) (varE "place"))) ρ k = some (.str (tailS t p f), k) := by
  refine twoE_val (k1 := k) (a := .str (sgnS t (put p f q0))) (b := .int ((4 + 3 * p : Nat) : Int)) ?_ (binE_val (k1 := k) rfl (binE_val (k1 := k) rfl (vI h1) (mul_val ?_)) ?_) ?_
  · exact (callE_val (consL_val (k1 := k) (k2 := k) (vI h2) rfl)).trans (signsF_val t ht _ k)
  · match p, hp with
    | 0, _ | 1, _ | 2, _ => decide
  · show some (D.int _) = some (D.int _); congr 2
  · unfold loD; dsimp only; rw [if_pos (by omega)]; rfl
noncomputable def ssL (t p : Nat) (f : Nat → Bool) : List Str := qs.map fun q => cls p q ++ tailS t p f
theorem rows_val (hp : p < 3) (t : Nat) (ht : t = 4 ∨ t = 8) (f : Nat → Bool) (h1 : ρ "modes" = some (.list (qs.map fun q => .int (num t (put p f q) : Int)))) :
    compE [] (itemsL (varE "modes")) (loopC (bf1 "mode") trueT (oneL (callE filemodeF (consL (varE "mode") nilL)))) ρ k = some (.list (rowsD (leadS t p f) (ssL t p f)), k) := by
  refine compE_val (k1 := k) (itemsL_list (vL h1)) ?_ (by unfold rowsD ssL; rw [List.length_map, List.length_map]; decide)
  unfold rowsD ssL
  rw [List.map_map]
  refine loopC_map qs (fun q => .int (num t (put p f q) : Int)) _ fun q _ => ⟨_, bf1_rest (by simp), oneL_val ?_⟩
  refine ((callE_val (consL_val (k1 := k) (k2 := k) (hereV (by intro xs h; cases h)) rfl)).trans (filemodeF_val t ht _ k)).trans ?_
  rw [sgn_split t p hp f q]; rfl
theorem rows2_val (hp : p < 3) (t : Nat) (ht : t = 4 ∨ t = 8) (f : Nat → Bool) (h1 : ρ "place" = some (.int (p : Int))) (h2 : ρ "bare" = some (.int (bare t p f : Int))) (h3 : ρ "lead" = some (.str (leadS t p f))) (h4 : ρ "classes" = some (.list (qs.map fun q => .str (cls p q)))) :
    compE ["bare", "lead", "place"] (itemsL (varE "classes")) (loopC (bf1 "signs") trueT (oneL (binE .Add (binE .Add (varE "lead") (varE "signs")) (twoE loD (callE signsF (consL (varE "bare") nilL)) (binE .Add (litE (.int 4)) (binE .Mult (litE (.int 3)) (varE "place"))))))) ρ k = some (.list (rowsD (leadS t p f) (ssL t p f)), k) := by
  refine compE_val (k1 := k) (itemsL_list (vL h4)) ?_ (by unfold rowsD ssL; rw [List.length_map, List.length_map]; decide)
  unfold rowsD ssL
  rw [List.map_map]
  have l1 := lead_len t p f
  have l2 := tail_len t p f
  refine loopC_map qs (fun q => .str (cls p q)) _ fun q _ => ⟨_, bf1_rest (by simp [ofString_inj]), oneL_val ?_⟩
  refine binE_val (k1 := k) (a := .str (leadS t p f ++ cls p q)) (binE_val (k1 := k) (a := .str (leadS t p f)) (vS (by simp [varE, upd, restrN, bindP, ofString_inj, ofString_beq, List.lookup, Rw.enc, h3])) (hereV (by intro xs h; cases h)) ?_) (tail_val hp t ht f (by simp [varE, upd, restrN, bindP, ofString_inj, ofString_beq, List.lookup, Rw.enc, h1]) (by simp [varE, upd, restrN, bindP, ofString_inj, ofString_beq, List.lookup, Rw.enc, h2])) ?_
  · unfold binD; dsimp only [int2, addD]; rw [if_pos (by rw [cls_len]; unfold big; omega)]
  · unfold binD; dsimp only [int2, addD]; rw [if_pos (by rw [strLen, cls_len]; unfold big; omega)]
    show some (D.str _) = some (D.str _)
    congr 2
    apply str_ext
    have e1 := tl_append (leadS t p f ++ cls p q) (tailS t p f)
    have e2 := tl_append (leadS t p f) (cls p q)
    have e3 := tl_append (leadS t p f) (cls p q ++ tailS t p f)
    have e4 := tl_append (cls p q) (tailS t p f)
    show tl _ = tl _
    rw [e1, e2, e3, e4, List.append_assoc]
end
end Mine
end

section
open PySem PySem.W
set_option Elab.async false
set_option maxRecDepth 100000
set_option linter.unusedVariables false
set_option linter.unusedSimpArgs false
namespace Mine
theorem fmod_pos (x : Int) (n : Nat) (h : n ≠ 0) : ∃ i : Nat, i < n ∧ x.fmod (n : Int) = (i : Int) := by
  rw [Int.fmod_eq_emod_of_nonneg _ (by omega)]
  have h1 := Int.emod_nonneg x (show (n : Int) ≠ 0 by omega)
  have h2 := Int.emod_lt_of_pos x (show (0 : Int) < n by omega)
  exact ⟨(x % (n : Int)).toNat, by omega, by omega⟩
noncomputable def agsZ : List (Nat × Str) := [(0, ⟨#[97]⟩), (1, ⟨#[98]⟩), (2, ⟨#[99]⟩)]
noncomputable def agOf (x : Int) : List Str := (agsZ.filter fun z => decide (((x.fdiv 46).fdiv ((2 ^ z.1 : Nat) : Int)).fmod 2 = 0)).map (·.2)
noncomputable def deOf (x : Int) : D := ([D.none, .int 3, .int 5, .int 0][((x.fdiv 368).fmod 4).toNat]?).getD .none
noncomputable def rwOf (p : Nat) (x : Int) : Rw := { f := (frontsL p).getD (x.fmod 23).toNat ⟨#[]⟩, a := decide ((x.fdiv 23).fmod 2 = 1), ag := agOf x, de := deOf x }
theorem fronts_len (p : Nat) : (frontsL p).length = 23 := rfl
theorem rwOf_front (p : Nat) (x : Int) : (rwOf p x).f ∈ frontsL p := by
  show (frontsL p).getD (x.fmod 23).toNat ⟨#[]⟩ ∈ frontsL p
  obtain ⟨i, hi, e⟩ := fmod_pos x 23 (by decide)
  have e' : x.fmod 23 = (i : Int) := e
  rw [e']
  have hi' : i < (frontsL p).length := by rw [fronts_len]; exact hi
  have : (frontsL p).getD ((i : Int)).toNat ⟨#[]⟩ = (frontsL p)[i] := by simp [List.getD, hi']
  rw [this]; exact List.getElem_mem _
theorem agOf_len (x : Int) : (agOf x).length ≤ 3 := by unfold agOf; rw [List.length_map]; exact List.length_filter_le _ _
theorem deOf_ok (x : Int) : DeOk (deOf x) := by
  unfold deOf
  obtain ⟨i, hi, e⟩ := fmod_pos (x.fdiv 368) 4 (by decide)
  have e' : (x.fdiv 368).fmod 4 = (i : Int) := e
  rw [e']
  match i, hi with
  | 0, _ => exact .inl rfl
  | 1, _ => exact .inr ⟨3, rfl⟩
  | 2, _ => exact .inr ⟨5, rfl⟩
  | 3, _ => exact .inr ⟨0, rfl⟩
section
variable {ρ : Rho} {k p : Nat} {x : Int}
theorem told_fr (h1 : ρ "fronts" = some (.list ((frontsL p).map .str))) (h2 : ρ "x" = some (.int x)) : idxE (varE "fronts") (binE .Mod (varE "x") (litE (.int 23))) ρ k = some (.str (rwOf p x).f, k) := by
  refine idxE_val (k1 := k) (vL h1) (binE_val (k1 := k) (vI h2) rfl (d := .int (x.fmod 23)) rfl) ?_
  obtain ⟨i, hi, e⟩ := fmod_pos x 23 (by decide)
  have e' : x.fmod 23 = (i : Int) := e
  have hi' : i < (frontsL p).length := by rw [fronts_len]; exact hi
  unfold rwOf idxD
  dsimp only
  rw [e', if_pos ⟨by omega, by omega⟩]
  simp [List.getD, hi']
theorem told_al (h2 : ρ "x" = some (.int x)) : boolE (cmpE .Eq (binE .Mod (binE .FloorDiv (varE "x") (litE (.int 23))) (litE (.int 2))) (litE (.int 1))) ρ k = some (.bool (rwOf p x).a, k) :=
  boolE_val (cmpE_val (k1 := k) (binE_val (k1 := k) (binE_val (k1 := k) (vI h2) rfl rfl) rfl rfl) rfl eqD_int)
theorem told_ag (h2 : ρ "x" = some (.int x)) : compE ["x"] (enumL (litE (.str (Str.ofString "abc")))) (loopC (bf2 "k" "agent") (cmpE .Eq (binE .Mod (binE .FloorDiv (binE .FloorDiv (varE "x") (litE (.int 46))) (binE .Pow (litE (.int 2)) (varE "k"))) (litE (.int 2))) (litE (.int 0))) (oneL (varE "agent"))) ρ k = some (.list ((rwOf p x).ag.map .str), k) := by
  refine compE_val (k1 := k) (ds := agsZ.map fun z => .tuple [.int (z.1 : Int), .str z.2]) rfl ?_ (by rw [List.length_map]; exact Nat.le_trans (agOf_len x) (by decide))
  show _ = some ((agOf x).map D.str, k)
  unfold agOf
  rw [List.map_map]
  refine loopC_pure agsZ (fun z : Nat × Str => D.tuple [.int (z.1 : Int), .str z.2]) _ _ fun z hz => ⟨upd (upd (restrN ["x"] ρ) "k" (.int (z.1 : Int))) "agent" (.str z.2), ?_, ?_, fun _ => oneL_val (hereV (by intro xs h; cases h))⟩
  · unfold bf2; dsimp only
    have e1 : restrN ["x"] ρ "k" = none := by simp [varE, upd, restrN, bindP, ofString_inj, ofString_beq, List.lookup, Rw.enc]
    have e2 : restrN ["x"] ρ "agent" = none := by simp [varE, upd, restrN, bindP, ofString_inj, ofString_beq, List.lookup, Rw.enc]
    rw [e1, e2]
  · refine cmpE_val (k1 := k) (binE_val (k1 := k) (binE_val (k1 := k) (binE_val (k1 := k) (a := .int x) (by simp [varE, upd, restrN, bindP, ofString_inj, ofString_beq, List.lookup, Rw.enc, h2]) rfl rfl) (binE_val (k1 := k) rfl (b := .int (z.1 : Int)) (by simp [varE, upd, restrN, bindP, ofString_inj, ofString_beq, List.lookup, Rw.enc]) (d := .int ((2 ^ z.1 : Nat) : Int)) ?_) (d := .int ((x.fdiv 46).fdiv ((2 ^ z.1 : Nat) : Int))) ?_) rfl rfl) rfl eqD_int
    · simp only [agsZ, List.mem_cons, List.not_mem_nil, or_false] at hz
      rcases hz with rfl | rfl | rfl <;> rfl
    · unfold binD; dsimp only [int2, addD]
      rw [if_neg (by have := Nat.two_pow_pos z.1; omega)]
theorem told_de (h2 : ρ "x" = some (.int x)) : idxE (listE (consL (litE .none) (consL (litE (.int 3)) (consL (litE (.int 5)) (consL (litE (.int 0)) nilL))))) (binE .Mod (binE .FloorDiv (varE "x") (litE (.int 368))) (litE (.int 4))) ρ k = some ((rwOf p x).de, k) := by
  refine idxE_val (k1 := k) (a := .list [D.none, .int 3, .int 5, .int 0]) rfl (binE_val (k1 := k) (binE_val (k1 := k) (vI h2) rfl rfl) rfl (d := .int ((x.fdiv 368).fmod 4)) rfl) ?_
  show _ = some (deOf x)
  unfold deOf
  obtain ⟨i, hi, e⟩ := fmod_pos (x.fdiv 368) 4 (by decide)
  have e' : (x.fdiv 368).fmod 4 = (i : Int) := e
  rw [e']
  match i, hi with
  | 0, _ | 1, _ | 2, _ | 3, _ => rfl
noncomputable def consts : List Int := [2, 6, 28, 553, 4, 1139, 748]
theorem told_val (ns : List Int) (h1 : ρ "fronts" = some (.list ((frontsL p).map .str))) (h2 : ρ "script" = some (.list (ns.map .int))) :
    compE ["fronts"] (itemsL (binE .Add (twoE hiD (varE "script") (litE (.int 3))) (listE (consL (litE (.int 2)) (consL (litE (.int 6)) (consL (litE (.int 28)) (consL (litE (.int 553)) (consL (litE (.int 4)) (consL (litE (.int 1139)) (consL (litE (.int 748)) nilL)))))))))) (loopC (bf1 "x") trueT (oneL (listE (consL (idxE (varE "fronts") (binE .Mod (varE "x") (litE (.int 23)))) (consL (boolE (cmpE .Eq (binE .Mod (binE .FloorDiv (varE "x") (litE (.int 23))) (litE (.int 2))) (litE (.int 1)))) (consL (compE ["x"] (enumL (litE (.str (Str.ofString "abc")))) (loopC (bf2 "k" "agent") (cmpE .Eq (binE .Mod (binE .FloorDiv (binE .FloorDiv (varE "x") (litE (.int 46))) (binE .Pow (litE (.int 2)) (varE "k"))) (litE (.int 2))) (litE (.int 0))) (oneL (varE "agent")))) (consL (idxE (listE (consL (litE .none) (consL (litE (.int 3)) (consL (litE (.int 5)) (consL (litE (.int 0)) nilL))))) (binE .Mod (binE .FloorDiv (varE "x") (litE (.int 368))) (litE (.int 4)))) nilL))))))) ρ k =
      some (.list (((ns.take 3 ++ consts).map (rwOf p)).map Rw.enc), k) := by
  have hl : (ns.take 3).length ≤ 3 := by rw [List.length_take]; omega
  refine compE_val (k1 := k) (ds := (ns.take 3 ++ consts).map .int) (itemsL_list (binE_val (k1 := k) (k2 := k) (a := .list ((ns.take 3).map .int)) (b := .list (consts.map .int)) (twoE_val (k1 := k) (k2 := k) (b := .int ((3 : Nat) : Int)) (vL h2) rfl ((hi_list _ 3).trans ?_)) rfl ?_)) ?_ ?_
  · rw [List.map_take]
  · unfold binD; dsimp only [int2, addD]
    rw [if_pos (by rw [List.length_map]; show _ + 7 ≤ big; unfold big; omega), List.map_append]
  · rw [List.map_map]
    refine loopC_map (ns.take 3 ++ consts) D.int _ fun x _ => ⟨_, bf1_rest (by simp [ofString_inj]), oneL_val ?_⟩
    generalize hρ1 : upd (restrN ["fronts"] ρ) "x" (.int x) = ρ1
    have f1 : ρ1 "fronts" = some (.list ((frontsL p).map .str)) := by rw [← hρ1]; simp [varE, upd, restrN, bindP, ofString_inj, ofString_beq, List.lookup, Rw.enc, h1]
    have x1 : ρ1 "x" = some (.int x) := by rw [← hρ1]; simp [varE, upd, restrN, bindP, ofString_inj, ofString_beq, List.lookup, Rw.enc]
    exact listE_val (consL_val (told_fr f1 x1) (consL_val (told_al (p := p) x1) (consL_val (told_ag (p := p) x1) (consL_val (told_de (p := p) x1) rfl))))
  · rw [List.length_map, List.length_map, List.length_append]
    show _ + 7 ≤ big
    unfold big; omega

noncomputable def entBody : Lx := oneL (callE entryF (consL (revE (idxE (varE "row") (litE (.int 2)))) (consL (listE (consL (callE ruleF (consL (binE .Add (varE "lead") (idxE (varE "row") (litE (.int 0)))) (consL (idxE (varE "row") (litE (.int 1))) nilL))) nilL)) (consL (idxE (varE "row") (litE (.int 3))) nilL))))
theorem ent_one {lead : Str} {r : Rw} (hl : lead.length + r.f.length ≤ 1000) (h1 : ρ "lead" = some (.str lead)) (h2 : ∀ k, varE "row" ρ k = some (r.enc, k)) (k : Nat) : entBody ρ k = some ([entR lead k r], k + 1) := by
  refine oneL_val ((callE_val (consL_val (k1 := k) (k2 := k) (d := .list (r.ag.reverse.map .str)) ?_ (consL_val (k1 := k) (k2 := k) (d := .list [.rule (lead ++ r.f) r.a]) ?_ (consL_val (k1 := k) (k2 := k) (idxE_val (h2 k) rfl idx3) rfl)))).trans rfl)
  · unfold revE
    rw [idxE_val (h2 k) (rfl : litE (.int 2) ρ k = _) idx2]
    dsimp only
    rw [List.map_reverse]
  · refine listE_val (consL_val (k1 := k) (k2 := k) ((callE_val (consL_val (k1 := k) (k2 := k) (d := .str (lead ++ r.f)) (binE_val (k1 := k) (vS h1) (idxE_val (h2 k) rfl idx0) ?_) (consL_val (k1 := k) (k2 := k) (idxE_val (h2 k) rfl idx1) rfl))).trans rfl) rfl)
    unfold binD; dsimp only [int2, addD]; rw [if_pos (by unfold big; omega)]
theorem ents_loop {lead : Str} (h1 : ρ "lead" = some (.str lead)) (h2 : ρ "row" = none) : ∀ (rs : List Rw) (k : Nat), (∀ r ∈ rs, lead.length + r.f.length ≤ 1000) →
    loopC (bf1 "row") trueT entBody ρ (rs.map Rw.enc) k = some (entsD lead rs (fun j => k + j) (List.range rs.length), k + rs.length)
  | [], k, _ => rfl
  | r :: rs, k, h => by
    have ih := ents_loop h1 h2 rs (k + 1) fun q hq => h q (List.mem_cons_of_mem _ hq)
    rw [List.map_cons]
    unfold loopC
    rw [bf1_val h2]
    dsimp only [trueT]
    rw [ent_one (lead := lead) (r := r) (h r List.mem_cons_self) (by simp [varE, upd, restrN, bindP, ofString_inj, ofString_beq, List.lookup, Rw.enc, h1]) (fun k => vE) k]
    dsimp only
    rw [ih]
    unfold entsD
    rw [List.length_cons, List.range_succ_eq_map, List.map_cons, List.map_map]
    have e : (List.range rs.length).map (fun j => entR lead (k + 1 + j) (getW rs j)) = (List.range rs.length).map ((fun j => entR lead (k + j) (getW (r :: rs) j)) ∘ Nat.succ) := by
      refine List.map_congr_left fun j _ => ?_
      show entR lead (k + 1 + j) (getW rs j) = entR lead (k + (j + 1)) (getW rs j)
      rw [show k + 1 + j = k + (j + 1) by omega]
    rw [e, show k + 1 + rs.length = k + (rs.length + 1) by omega]
    rfl
theorem getW_range (rs : List Rw) : (List.range rs.length).map (getW rs) = rs := by
  apply List.ext_getElem
  · simp
  · intro i h1 h2
    simp [getW, List.getD, h2]
theorem ents_val {lead : Str} {rs : List Rw} (hb : rs.length ≤ 1000) (hl : ∀ r ∈ rs, lead.length + r.f.length ≤ 1000) (h1 : ρ "lead" = some (.str lead)) (h2 : ρ "told" = some (.list (rs.map Rw.enc))) :
    compE ["lead"] (itemsL (varE "told")) (loopC (bf1 "row") trueT entBody) ρ k = some (.list (entsD lead rs (fun j => k + j) (List.range rs.length)), k + rs.length) := by
  refine compE_val (k1 := k) (itemsL_list (vL h2)) (ents_loop (by simp [varE, upd, restrN, bindP, ofString_inj, ofString_beq, List.lookup, Rw.enc, h1]) (by simp [varE, upd, restrN, bindP, ofString_inj, ofString_beq, List.lookup, Rw.enc]) rs k hl) ?_
  unfold entsD; rw [List.length_map, List.length_range]; exact Nat.le_trans hb (by decide)

noncomputable def checkE : Ex := compE ["entries", "lead", "told"] (rangeL (binE .Add (oneE lenD (varE "entries")) (litE (.int 1)))) (loopC (bf1 "k") (cmpE .NotEq (callE partsF (consL (callE mergeF (consL (callE mergedF (consL (twoE hiD (varE "entries") (varE "k")) nilL)) (consL (callE mergedF (consL (twoE loD (varE "entries") (varE "k")) nilL)) nilL))) nilL)) (callE dueF (consL (varE "told") (consL (varE "lead") nilL)))) (oneL (varE "k")))
theorem check_val {lead : Str} {rs : List Rw} (idf : Nat → Nat) (hb : rs.length ≤ 900) (hl : ∀ r ∈ rs, lead.length + r.f.length ≤ 1000) (hag : ∀ r ∈ rs, r.ag.length ≤ 1000) (hde : ∀ r ∈ rs, DeOk r.de) (h1 : ρ "lead" = some (.str lead)) (h2 : ρ "told" = some (.list (rs.map Rw.enc)))
    (h3 : ρ "entries" = some (.list (entsD lead rs idf (List.range rs.length)))) : ∃ k', checkE ρ k = some (.list [], k') := by
  obtain ⟨ps, hps, hps2, hpl⟩ : ∃ ps : List (Nat × Rw), entsD lead rs idf (List.range rs.length) = ps.map (fun p => entR lead p.1 p.2) ∧ ps.map (·.2) = rs ∧ ps.length = rs.length := by
    refine ⟨(List.range rs.length).map fun j => (idf j, getW rs j), entsD_ps _ _ _ _, ?_, by simp⟩
    rw [List.map_map]; exact getW_range rs
  rw [hps] at h3
  have hmem : ∀ p ∈ ps, p.2.ag.length ≤ 1000 := fun p hp => hag _ (by rw [← hps2]; exact List.mem_map.mpr ⟨p, hp, rfl⟩)
  have key : ∀ k, ∃ k', loopC (bf1 "k") (cmpE .NotEq (callE partsF (consL (callE mergeF (consL (callE mergedF (consL (twoE hiD (varE "entries") (varE "k")) nilL)) (consL (callE mergedF (consL (twoE loD (varE "entries") (varE "k")) nilL)) nilL))) nilL)) (callE dueF (consL (varE "told") (consL (varE "lead") nilL)))) (oneL (varE "k")) (restrN ["entries", "lead", "told"] ρ) (intsL (List.range (rs.length + 1))) k = some ([], k') := by
    intro k
    have := loopC_made (bf := bf1 "k") (t := cmpE .NotEq (callE partsF (consL (callE mergeF (consL (callE mergedF (consL (twoE hiD (varE "entries") (varE "k")) nilL)) (consL (callE mergedF (consL (twoE loD (varE "entries") (varE "k")) nilL)) nilL))) nilL)) (callE dueF (consL (varE "told") (consL (varE "lead") nilL)))) (body := oneL (varE "k")) (ρ := restrN ["entries", "lead", "told"] ρ)
      (List.range (rs.length + 1)) (fun j : Nat => D.int (j : Int)) (fun _ => false) (fun j : Nat => D.int (j : Int)) ?_ k
    · obtain ⟨k', e⟩ := this
      exact ⟨k', by rw [show intsL (List.range (rs.length + 1)) = (List.range (rs.length + 1)).map fun j : Nat => D.int (j : Int) from rfl, e]; simp⟩
    · intro j hj k
      generalize hρ1 : upd (restrN ["entries", "lead", "told"] ρ) "k" (.int (j : Int)) = ρ1
      have n1 : ρ1 "entries" = some (.list (ps.map fun p => entR lead p.1 p.2)) := by rw [← hρ1]; simp [varE, upd, restrN, bindP, ofString_inj, ofString_beq, List.lookup, Rw.enc, h3]
      have l1 : ρ1 "lead" = some (.str lead) := by rw [← hρ1]; simp [varE, upd, restrN, bindP, ofString_inj, ofString_beq, List.lookup, Rw.enc, h1]
      have t1 : ρ1 "told" = some (.list (rs.map Rw.enc)) := by rw [← hρ1]; simp [varE, upd, restrN, bindP, ofString_inj, ofString_beq, List.lookup, Rw.enc, h2]
      have k1 : ρ1 "k" = some (.int (j : Int)) := by rw [← hρ1]; simp [varE, upd, restrN, bindP, ofString_inj, ofString_beq, List.lookup, Rw.enc]
      obtain ⟨i1, ka, ea⟩ := mergedF_val lead (ps.take j) (by rw [List.length_take]; omega) (fun p hp => hmem p (List.mem_of_mem_take hp)) k
      obtain ⟨i2, kb, eb⟩ := mergedF_val lead (ps.drop j) (by rw [List.length_drop]; omega) (fun p hp => hmem p (List.mem_of_mem_drop hp)) ka
      refine ⟨ρ1, kb + 1, by rw [← hρ1]; exact bf1_rest (by simp [ofString_inj]), ?_, fun h => by cases h⟩
      have e1 : callE mergedF (consL (twoE hiD (varE "entries") (varE "k")) nilL) ρ1 k = some (mgR lead i1 ((ps.take j).map (·.2)), ka) := by
        refine (callE_val (consL_val (k1 := k) (k2 := k) (d := .list ((ps.take j).map fun p => entR lead p.1 p.2)) (twoE_val (k1 := k) (vL n1) (vI k1) ((hi_list _ _).trans ?_)) rfl)).trans ea
        rw [List.map_take]
      have e2 : callE mergedF (consL (twoE loD (varE "entries") (varE "k")) nilL) ρ1 ka = some (mgR lead i2 ((ps.drop j).map (·.2)), kb) := by
        refine (callE_val (consL_val (k1 := ka) (k2 := ka) (d := .list ((ps.drop j).map fun p => entR lead p.1 p.2)) (twoE_val (k1 := ka) (vL n1) (vI k1) ?_) rfl)).trans eb
        unfold loD; dsimp only; rw [if_pos (by omega), List.map_drop]; rfl
      have e3 : callE mergeF (consL (callE mergedF (consL (twoE hiD (varE "entries") (varE "k")) nilL)) (consL (callE mergedF (consL (twoE loD (varE "entries") (varE "k")) nilL)) nilL)) ρ1 k = some (mgR lead kb rs, kb + 1) := by
        refine (callE_val (consL_val e1 (consL_val e2 rfl))).trans ((merge_two lead i1 i2 _ _ ?_ ?_ kb).trans ?_)
        · rw [List.length_map, List.length_take]; omega
        · rw [List.length_map, List.length_drop]; omega
        · rw [← List.map_append, List.take_append_drop, hps2]
      obtain ⟨pp, epp⟩ := due_py (lead := lead) (rs := rs) hde
      refine cmpE_val (k1 := kb + 1) ((callE_val (consL_val e3 rfl)).trans (partsF_val lead kb rs (by omega) (kb + 1))) ((callE_val (consL_val (k1 := kb + 1) (k2 := kb + 1) (vL t1) (consL_val (k1 := kb + 1) (k2 := kb + 1) (vS l1) rfl))).trans (dueF_val rs lead (by omega) hl hde (kb + 1))) ?_
      rw [ne_def, eqD_refl epp]; rfl
  obtain ⟨k', e⟩ := key k
  refine ⟨k', compE_val (k1 := k) (ds := intsL (List.range (rs.length + 1))) ?_ e (by decide)⟩
  unfold rangeL
  rw [binE_val (d := .int ((rs.length + 1 : Nat) : Int)) (oneE_val (vL h3) (rfl : lenD _ = _)) (rfl : litE (.int 1) ρ k = _) ?_]
  · dsimp only
    unfold rangeD
    dsimp only
    rw [if_pos ⟨by omega, by omega⟩]
    rfl
  · show some (D.int _) = some (D.int _)
    rw [List.length_map, hpl]; rfl
end
end Mine
end

section
open PySem PySem.W
set_option Elab.async false
set_option maxRecDepth 100000
set_option linter.unusedVariables false
set_option linter.unusedSimpArgs false
namespace Mine
theorem ex_next {f g : Sx} {ρ ρ1 : Rho} {k k1 : Nat} {d : D} (h : f ρ k = some (.next, ρ1, k1)) (h2 : ∃ ρ' k', g ρ1 k1 = some (.ret d, ρ', k')) : ∃ ρ' k', seqS f g ρ k = some (.ret d, ρ', k') := by
  rw [seqS_next h]; exact h2
theorem if_skip {t : Tx} {f : Sx} {ρ : Rho} {k k1 : Nat} (h : t ρ k = some (false, k1)) : ifS t f nilS ρ k = some (.next, ρ, k1) := by rw [ifS_false h]; rfl
theorem rows_py (lead : Str) (ss : List Str) : ∃ p, toPy 6 (.list (rowsD lead ss)) = some p := ⟨_, mapO_all (m := 5) ss (fun s => .str (lead ++ s)) (fun s => .str (lead ++ s)) fun _ _ => rfl⟩
theorem asgT3 {x y z : Str} {f g h : Ex} {ρ : Rho} {k : Nat} {a b c : D} (h1 : f ρ k = some (a, k)) (h2 : g ρ k = some (b, k)) (h3 : h ρ k = some (c, k)) : asgTS [x, y, z] (consL f (consL g (consL h nilL))) ρ k = some (.next, upd (upd (upd ρ x a) y b) z c, k) := by
  unfold asgTS; rw [consL_val h1 (consL_val h2 (consL_val h3 rfl))]; rfl
theorem asgT2 {x y : Str} {f g : Ex} {ρ : Rho} {k : Nat} {a b : D} (h1 : f ρ k = some (a, k)) (h2 : g ρ k = some (b, k)) : asgTS [x, y] (consL f (consL g nilL)) ρ k = some (.next, upd (upd ρ x a) y b, k) := by
  unfold asgTS; rw [consL_val h1 (consL_val h2 rfl)]; rfl
theorem said_verdicts (p t : Nat) (f : Nat → Bool) (rs : List Rw) (h : ∀ r ∈ rs, r.f.length ≤ 3) : saidB rs (ssL t p f) = (qs.map fun q => tl (cls p q)).map (M.verdict (rs.map Rw.m)) := by
  unfold saidB ssL
  rw [List.map_map, List.map_map]
  refine List.map_congr_left fun q _ => ?_
  show M.verdict (rs.map Rw.m) (tl (cls p q ++ tailS t p f)) = M.verdict (rs.map Rw.m) (tl (cls p q))
  rw [tl_append]
  refine M.verdict_trunc fun r hr => ?_
  obtain ⟨r', hr', rfl⟩ := List.mem_map.mp hr
  have := h r' hr'
  rw [str_len] at this
  exact this
theorem getWs_m (rs : List Rw) (l : List Nat) : (l.map (getW rs)).map Rw.m = l.map (M.getR (rs.map Rw.m)) := by
  rw [List.map_map]; exact List.map_congr_left fun j _ => getW_m rs j
theorem drops_eqv (p t : Nat) (hp : p < 3) (f : Nat → Bool) (rs : List Rw) (hf : ∀ r ∈ rs, r.f ∈ frontsL p) :
    M.drops (fun others _ => decide (saidB (others.map (getW rs)) (ssL t p f) = saidB ((List.range rs.length).map (getW rs)) (ssL t p f))) (List.range rs.length) (List.range rs.length) =
    M.drops (fun others k => M.idle share (others.map (M.getR (rs.map Rw.m))) (M.getR (rs.map Rw.m) k)) (List.range rs.length) (List.range rs.length) := by
  have h3 : ∀ r ∈ rs, r.f.length ≤ 3 := fun r hr => front_len p _ (hf r hr)
  have h3' : ∀ l : List Nat, ∀ r ∈ l.map (getW rs), r.f.length ≤ 3 := fun l r hr => by
    obtain ⟨j, _, rfl⟩ := List.mem_map.mp hr
    by_cases hj : j < rs.length
    · exact h3 _ (getW_mem hj)
    · have : getW rs j = dfltR := by unfold getW; simp [List.getD, hj]
      rw [this]; decide
  have e := M.thin_eq (tree_ok p hp) (rs := rs.map Rw.m) (fun r hr => by
    obtain ⟨r', hr', rfl⟩ := List.mem_map.mp hr
    exact List.mem_map.mpr ⟨_, hf r' hr', rfl⟩)
  rw [List.length_map] at e
  rw [e]
  congr 1
  funext others k
  rw [said_verdicts p t f _ (h3' _), said_verdicts p t f _ (h3' _), getWs_m, getW_range]
theorem law_val (ns : List Int) : ∃ k', lawF [.list (ns.map .int)] 0 = some (.bool true, k') := by
  suffices h : ∃ ρ' k', lawS (bindP ["script"] [.list (ns.map .int)]) 0 = some (.ret (.bool true), ρ', k') by
    obtain ⟨ρ', k', h⟩ := h
    exact ⟨k', defF_val rfl h⟩
  generalize hρ0 : bindP ["script"] [.list (ns.map .int)] = ρ0
  have s0 : ρ0 "script" = some (.list (ns.map .int)) := by rw [← hρ0]; simp [varE, upd, restrN, bindP, ofString_inj, ofString_beq, List.lookup, Rw.enc]
  unfold lawS
  -- the total
  refine ex_next (asgS_val (d := .int ((ns.take 5).sum + 7438)) (k' := 0) (binE_val (k1 := 0) (a := .int (ns.take 5).sum) (oneE_val (a := .list ((ns.take 5).map .int)) (twoE_val (k1 := 0) (k2 := 0) (b := .int ((5 : Nat) : Int)) (vL s0) rfl ((hi_list _ 5).trans (by rw [List.map_take]))) ?_) rfl rfl)) ?_
  · unfold sumD; dsimp only
    have := intsD_map (fun i : Int => i) (ns.take 5)
    rw [List.map_id'] at this
    rw [this]; rfl
  generalize (ns.take 5).sum + 7438 = T
  generalize hρ1 : upd ρ0 "total" (.int T) = ρ1
  have s1 : ρ1 "script" = some (.list (ns.map .int)) := by rw [← hρ1]; simp [varE, upd, restrN, bindP, ofString_inj, ofString_beq, List.lookup, Rw.enc, s0]
  have T1 : ρ1 "total" = some (.int T) := by rw [← hρ1]; simp [varE, upd, restrN, bindP, ofString_inj, ofString_beq, List.lookup, Rw.enc]
  obtain ⟨p, hp, ep⟩ := fmod_pos T 3 (by decide)
  obtain ⟨B, hB, eB⟩ := fmod_pos (T.fdiv 3) 4096 (by decide)
  obtain ⟨f, rfl⟩ := bits_ex B hB
  obtain ⟨i, hi, ei⟩ := fmod_pos (T.fdiv 12288) 2 (by decide)
  have ep' : T.fmod 3 = (p : Int) := ep
  have eB' : (T.fdiv 3).fmod 4096 = (num 0 f : Int) := eB
  have ei' : (T.fdiv 12288).fmod 2 = (i : Int) := ei
  obtain ⟨t, ht, et⟩ : ∃ t : Nat, (t = 4 ∨ t = 8) ∧ idxD (.list [.int 8, .int 4]) (.int (i : Int)) = some (.int (t : Int)) := by
    match i, hi with
    | 0, _ => exact ⟨8, .inr rfl, rfl⟩
    | 1, _ => exact ⟨4, .inl rfl, rfl⟩
  refine ex_next (asgT3 (a := .int (p : Int)) (b := .int (num 0 f : Int)) (c := .int (t : Int)) ?_ ?_ ?_) ?_
  · refine binE_val (k1 := 0) (vI T1) rfl ?_
    rw [← ep']; rfl
  · refine binE_val (k1 := 0) (binE_val (k1 := 0) (vI T1) rfl (d := .int (T.fdiv 3)) rfl) rfl ?_
    rw [← eB']; rfl
  · refine idxE_val (k1 := 0) (a := .list [.int 8, .int 4]) rfl (binE_val (k1 := 0) (binE_val (k1 := 0) (vI T1) rfl (d := .int (T.fdiv 12288)) rfl) rfl (d := .int (i : Int)) ?_) et
    rw [← ei']; rfl
  generalize hρ2 : upd (upd (upd ρ1 "place" (.int (p : Int))) "bits" (.int (num 0 f : Int))) "kind" (.int (t : Int)) = ρ2
  have s2 : ρ2 "script" = some (.list (ns.map .int)) := by rw [← hρ2]; simp [varE, upd, restrN, bindP, ofString_inj, ofString_beq, List.lookup, Rw.enc, s1]
  have p2 : ρ2 "place" = some (.int (p : Int)) := by rw [← hρ2]; simp [varE, upd, restrN, bindP, ofString_inj, ofString_beq, List.lookup, Rw.enc]
  refine ex_next (asgS_val (bare_val hp t f p2 (by rw [← hρ2]; simp [varE, upd, restrN, bindP, ofString_inj, ofString_beq, List.lookup, Rw.enc]) (by rw [← hρ2]; simp [varE, upd, restrN, bindP, ofString_inj, ofString_beq, List.lookup, Rw.enc]))) ?_
  generalize hρ3 : upd ρ2 "bare" (.int (bare t p f : Int)) = ρ3
  have s3 : ρ3 "script" = some (.list (ns.map .int)) := by rw [← hρ3]; simp [varE, upd, restrN, bindP, ofString_inj, ofString_beq, List.lookup, Rw.enc, s2]
  have p3 : ρ3 "place" = some (.int (p : Int)) := by rw [← hρ3]; simp [varE, upd, restrN, bindP, ofString_inj, ofString_beq, List.lookup, Rw.enc, p2]
  have b3 : ρ3 "bare" = some (.int (bare t p f : Int)) := by rw [← hρ3]; simp [varE, upd, restrN, bindP, ofString_inj, ofString_beq, List.lookup, Rw.enc]
  refine ex_next (asgS_val (modes_val hp t f p3 b3)) ?_
  generalize hρ4 : upd ρ3 "modes" (.list (qs.map fun q => .int (num t (put p f q) : Int))) = ρ4
  have s4 : ρ4 "script" = some (.list (ns.map .int)) := by rw [← hρ4]; simp [varE, upd, restrN, bindP, ofString_inj, ofString_beq, List.lookup, Rw.enc, s3]
  have p4 : ρ4 "place" = some (.int (p : Int)) := by rw [← hρ4]; simp [varE, upd, restrN, bindP, ofString_inj, ofString_beq, List.lookup, Rw.enc, p3]
  have b4 : ρ4 "bare" = some (.int (bare t p f : Int)) := by rw [← hρ4]; simp [varE, upd, restrN, bindP, ofString_inj, ofString_beq, List.lookup, Rw.enc, b3]
  have m4 : ρ4 "modes" = some (.list (qs.map fun q => .int (num t (put p f q) : Int))) := by rw [← hρ4]; simp [varE, upd, restrN, bindP, ofString_inj, ofString_beq, List.lookup, Rw.enc]
  refine ex_next (asgS_val (classes_val hp p4)) ?_
  generalize hρ5 : upd ρ4 "classes" (.list (qs.map fun q => .str (cls p q))) = ρ5
  have s5 : ρ5 "script" = some (.list (ns.map .int)) := by rw [← hρ5]; simp [varE, upd, restrN, bindP, ofString_inj, ofString_beq, List.lookup, Rw.enc, s4]
  have p5 : ρ5 "place" = some (.int (p : Int)) := by rw [← hρ5]; simp [varE, upd, restrN, bindP, ofString_inj, ofString_beq, List.lookup, Rw.enc, p4]
  have b5 : ρ5 "bare" = some (.int (bare t p f : Int)) := by rw [← hρ5]; simp [varE, upd, restrN, bindP, ofString_inj, ofString_beq, List.lookup, Rw.enc, b4]
  have m5 : ρ5 "modes" = some (.list (qs.map fun q => .int (num t (put p f q) : Int))) := by rw [← hρ5]; simp [varE, upd, restrN, bindP, ofString_inj, ofString_beq, List.lookup, Rw.enc, m4]
  have c5 : ρ5 "classes" = some (.list (qs.map fun q => .str (cls p q))) := by rw [← hρ5]; simp [varE, upd, restrN, bindP, ofString_inj, ofString_beq, List.lookup, Rw.enc]
  refine ex_next (asgT2 (lead_val hp t ht f p5 b5) (rows_val hp t ht f m5)) ?_
  generalize hρ6 : upd (upd ρ5 "lead" (.str (leadS t p f))) "rows" (.list (rowsD (leadS t p f) (ssL t p f))) = ρ6
  have s6 : ρ6 "script" = some (.list (ns.map .int)) := by rw [← hρ6]; simp [varE, upd, restrN, bindP, ofString_inj, ofString_beq, List.lookup, Rw.enc, s5]
  have p6 : ρ6 "place" = some (.int (p : Int)) := by rw [← hρ6]; simp [varE, upd, restrN, bindP, ofString_inj, ofString_beq, List.lookup, Rw.enc, p5]
  have b6 : ρ6 "bare" = some (.int (bare t p f : Int)) := by rw [← hρ6]; simp [varE, upd, restrN, bindP, ofString_inj, ofString_beq, List.lookup, Rw.enc, b5]
  have c6 : ρ6 "classes" = some (.list (qs.map fun q => .str (cls p q))) := by rw [← hρ6]; simp [varE, upd, restrN, bindP, ofString_inj, ofString_beq, List.lookup, Rw.enc, c5]
  have l6 : ρ6 "lead" = some (.str (leadS t p f)) := by rw [← hρ6]; simp [varE, upd, restrN, bindP, ofString_inj, ofString_beq, List.lookup, Rw.enc]
  have r6 : ρ6 "rows" = some (.list (rowsD (leadS t p f) (ssL t p f))) := by rw [← hρ6]; simp [varE, upd, restrN, bindP, ofString_inj, ofString_beq, List.lookup, Rw.enc]
  obtain ⟨pr, epr⟩ := rows_py (leadS t p f) (ssL t p f)
  refine ex_next (if_skip (k1 := 0) (cmpE_val (k1 := 0) (vL r6) (rows2_val hp t ht f p6 b6 l6 c6) ?_)) ?_
  · rw [ne_def, eqD_refl epr]; rfl
  -- the fronts
  refine ex_next (asgS_val (d := .list ((frontsL p).map .str)) (k' := 0) (binE_val (k1 := 0) (a := .list ([Str.ofString "", Str.ofString "-", Str.ofString "r", Str.ofString "--", Str.ofString "-w", Str.ofString "r-", Str.ofString "rw"].map .str)) rfl (vL c6) ?_)) ?_
  · unfold binD; dsimp only [int2, addD]
    rw [if_pos (by rw [List.length_map, List.length_map]; decide)]
    unfold frontsL
    rw [List.map_append, List.map_map]; rfl
  generalize hρ7 : upd ρ6 "fronts" (.list ((frontsL p).map .str)) = ρ7
  have s7 : ρ7 "script" = some (.list (ns.map .int)) := by rw [← hρ7]; simp [varE, upd, restrN, bindP, ofString_inj, ofString_beq, List.lookup, Rw.enc, s6]
  have c7 : ρ7 "classes" = some (.list (qs.map fun q => .str (cls p q))) := by rw [← hρ7]; simp [varE, upd, restrN, bindP, ofString_inj, ofString_beq, List.lookup, Rw.enc, c6]
  have l7 : ρ7 "lead" = some (.str (leadS t p f)) := by rw [← hρ7]; simp [varE, upd, restrN, bindP, ofString_inj, ofString_beq, List.lookup, Rw.enc, l6]
  have r7 : ρ7 "rows" = some (.list (rowsD (leadS t p f) (ssL t p f))) := by rw [← hρ7]; simp [varE, upd, restrN, bindP, ofString_inj, ofString_beq, List.lookup, Rw.enc, r6]
  have f7 : ρ7 "fronts" = some (.list ((frontsL p).map .str)) := by rw [← hρ7]; simp [varE, upd, restrN, bindP, ofString_inj, ofString_beq, List.lookup, Rw.enc]
  refine ex_next (asgS_val (told_val ns f7 s7)) ?_
  have hlen : ((ns.take 3 ++ consts).map (rwOf p)).length ≤ 10 := by
    rw [List.length_map, List.length_append, List.length_take]; show _ + 7 ≤ 10; omega
  have hfr : ∀ r ∈ (ns.take 3 ++ consts).map (rwOf p), r.f ∈ frontsL p ∧ r.ag.length ≤ 3 ∧ DeOk r.de := fun r hr => by
    obtain ⟨x, _, rfl⟩ := List.mem_map.mp hr
    exact ⟨rwOf_front p x, agOf_len x, deOf_ok x⟩
  generalize (ns.take 3 ++ consts).map (rwOf p) = rs at *
  have ll := lead_len t p f
  have h3 : ∀ r ∈ rs, r.f.length ≤ 3 := fun r hr => front_len p _ (hfr r hr).1
  have hll : ∀ r ∈ rs, (leadS t p f).length + r.f.length ≤ 1000 := fun r hr => by have := h3 r hr; omega
  have hag : ∀ r ∈ rs, r.ag.length ≤ 1000 := fun r hr => Nat.le_trans (hfr r hr).2.1 (by decide)
  have hde : ∀ r ∈ rs, DeOk r.de := fun r hr => (hfr r hr).2.2
  generalize hρ8 : upd ρ7 "told" (.list (rs.map Rw.enc)) = ρ8
  have c8 : ρ8 "classes" = some (.list (qs.map fun q => .str (cls p q))) := by rw [← hρ8]; simp [varE, upd, restrN, bindP, ofString_inj, ofString_beq, List.lookup, Rw.enc, c7]
  have l8 : ρ8 "lead" = some (.str (leadS t p f)) := by rw [← hρ8]; simp [varE, upd, restrN, bindP, ofString_inj, ofString_beq, List.lookup, Rw.enc, l7]
  have r8 : ρ8 "rows" = some (.list (rowsD (leadS t p f) (ssL t p f))) := by rw [← hρ8]; simp [varE, upd, restrN, bindP, ofString_inj, ofString_beq, List.lookup, Rw.enc, r7]
  have t8 : ρ8 "told" = some (.list (rs.map Rw.enc)) := by rw [← hρ8]; simp [varE, upd, restrN, bindP, ofString_inj, ofString_beq, List.lookup, Rw.enc]
  refine ex_next (asgS_val (ents_val (k := 0) (by omega) hll l8 t8)) ?_
  have hid : ∀ i j : Nat, (fun j => 0 + j) i = (fun j => 0 + j) j → i = j := fun i j h => by simpa using h
  generalize (fun j => 0 + j : Nat → Nat) = idf at *
  generalize hρ9 : upd ρ8 "entries" (.list (entsD (leadS t p f) rs idf (List.range rs.length))) = ρ9
  have c9 : ρ9 "classes" = some (.list (qs.map fun q => .str (cls p q))) := by rw [← hρ9]; simp [varE, upd, restrN, bindP, ofString_inj, ofString_beq, List.lookup, Rw.enc, c8]
  have l9 : ρ9 "lead" = some (.str (leadS t p f)) := by rw [← hρ9]; simp [varE, upd, restrN, bindP, ofString_inj, ofString_beq, List.lookup, Rw.enc, l8]
  have r9 : ρ9 "rows" = some (.list (rowsD (leadS t p f) (ssL t p f))) := by rw [← hρ9]; simp [varE, upd, restrN, bindP, ofString_inj, ofString_beq, List.lookup, Rw.enc, r8]
  have t9 : ρ9 "told" = some (.list (rs.map Rw.enc)) := by rw [← hρ9]; simp [varE, upd, restrN, bindP, ofString_inj, ofString_beq, List.lookup, Rw.enc, t8]
  have n9 : ρ9 "entries" = some (.list (entsD (leadS t p f) rs idf (List.range rs.length))) := by rw [← hρ9]; simp [varE, upd, restrN, bindP, ofString_inj, ofString_beq, List.lookup, Rw.enc]
  generalize 0 + rs.length = k9
  obtain ⟨ka, ea⟩ := check_val (k := k9) (ρ := ρ9) idf (by omega) hll hag hde l9 t9 n9
  refine ex_next (if_skip (k1 := ka) (cmpE_val (b := .list []) ea rfl ?_)) ?_
  · rw [ne_def]; rfl
  have hss : (ssL t p f).length ≤ 1000 := by unfold ssL; rw [List.length_map]; decide
  obtain ⟨kb, eb⟩ := said_ents (leadS t p f) rs idf (List.range rs.length) (ssL t p f) (by rw [List.length_range]; omega) (fun j hj => List.mem_range.mp hj) hss hag ka
  refine ex_next (if_skip (k1 := kb) (cmpE_val (k1 := kb) ((callE_val (consL_val (k1 := ka) (k2 := ka) (vL n9) (consL_val (k1 := ka) (k2 := ka) (vL r9) rfl))).trans eb) (compE_val (k1 := kb) (xs := (saidB rs (ssL t p f)).map .bool) (itemsL_list (vL c9)) ?_ ?_) ?_)) ?_
  · rw [said_verdicts p t f rs h3, List.map_map, List.map_map]
    refine loopC_map qs (fun q => .str (cls p q)) _ fun q _ => ⟨_, bf1_rest (by simp [ofString_inj]), oneL_val ?_⟩
    refine (callE_val (consL_val (k1 := kb) (d := .list (rs.map Rw.enc)) (vL (by simp [varE, upd, restrN, bindP, ofString_inj, ofString_beq, List.lookup, Rw.enc, t9])) (consL_val (k1 := kb) (k2 := kb) (hereV (by intro xs h; cases h)) rfl))).trans ?_
    exact verdictF_val rs (cls p q) (by omega) kb
  · unfold saidB; rw [List.length_map, List.length_map]; exact Nat.le_trans hss (by decide)
  · rw [ne_def, getW_range, eq_bools]; simp
  -- what is left
  obtain ⟨kc, ec⟩ := thinnedF_val (leadS t p f) rs idf hid (ssL t p f) (by omega) hss hag kb
  rw [drops_eqv p t hp f rs fun r hr => (hfr r hr).1] at ec
  have hneed := neededF_val rs (by omega) h3
  generalize hks : M.drops (fun others k => M.idle share (others.map (M.getR (rs.map Rw.m))) (M.getR (rs.map Rw.m) k)) (List.range rs.length) (List.range rs.length) = ks at *
  have hks1 : ks.length ≤ 1000 := by
    rw [← hks]; refine Nat.le_trans (M.drops_length _ _ _) ?_; rw [List.length_range]; omega
  have hks2 : ∀ j ∈ ks, j < rs.length := fun j hj => by
    rw [← hks] at hj
    exact List.mem_range.mp (M.drops_sub _ _ _ _ hj)
  have hmem : ∀ r ∈ ks.map (getW rs), r ∈ rs := fun r hr => by
    obtain ⟨j, hj, rfl⟩ := List.mem_map.mp hr
    exact getW_mem (hks2 j hj)
  rw [entsD_ps (ks := ks)] at ec
  obtain ⟨i1, kd, ed⟩ := mergedF_val (leadS t p f) (ks.map fun j => (idf j, getW rs j)) (by rw [List.length_map]; exact hks1) (fun q hq => by
    obtain ⟨j, hj, rfl⟩ := List.mem_map.mp hq
    exact hag _ (getW_mem (hks2 j hj))) kc
  have emap : (ks.map fun j => (idf j, getW rs j)).map (·.2) = ks.map (getW rs) := by rw [List.map_map]; rfl
  rw [emap] at ed
  have hkl : (ks.map (getW rs)).length ≤ 1000 := by rw [List.length_map]; exact hks1
  have epart := partsF_val (leadS t p f) i1 (ks.map (getW rs)) hkl kd
  have edue := dueF_val (ks.map (getW rs)) (leadS t p f) hkl (fun r hr => hll r (hmem r hr)) (fun r hr => hde r (hmem r hr)) kd
  obtain ⟨pp, epp⟩ := due_py (lead := leadS t p f) (rs := ks.map (getW rs)) fun r hr => hde r (hmem r hr)
  refine ⟨ρ9, kd, seqS_ret (retS_val (boolE_val (cmpE_val (k1 := kd) ((callE_val (consL_val (k1 := kd) (k2 := kd) ((callE_val (consL_val (k1 := kc) (k2 := kc) ((callE_val (consL_val (k1 := kb) (k2 := kb) (vL n9) (consL_val (k1 := kb) (k2 := kb) (vL r9) rfl))).trans ec) rfl)).trans ed) rfl)).trans epart)
    ((callE_val (consL_val (k1 := kd) (k2 := kd) ((callE_val (consL_val (k1 := kd) (k2 := kd) (vL t9) rfl)).trans (hneed kd)) (consL_val (k1 := kd) (k2 := kd) (vS l9) rfl))).trans edue) (eqD_refl epp))))⟩
end Mine
end

section
open PySem PySem.W PySem.Calls PyProof.Rows
set_option Elab.async false
set_option maxRecDepth 100000
set_option maxHeartbeats 4000000
set_option linter.unusedVariables false
namespace Mine
theorem reps_ints {P : Params} {h : Heap} {W : Wd} : ∀ {vs : List Value} {ns : List Int}, WellAll P h vs (ns.map .int) → RepL W vs (ns.map .int)
  | _, [], x => by cases x; exact .nil
  | _, n :: ns, x => by
    cases x with
    | cons a b =>
      cases a
      exact .cons (.int _ _) (reps_ints b)
theorem ofPys_ints (ns : List Int) : ofPy (PyData.list (ns.map .int)) = .list (ns.map .int) := by
  show WData.list (ofPys (ns.map .int)) = _
  rw [ofPys_eq, List.map_map]
  rfl
theorem gnd_of {prog : Program} {w : World} {s₁ : Shared} {p : Program} {loose : List Str} {mean : ExcName → Option Value} {mg mb : Str → Option Value} (htree : prog.given.tree = none) (T : Top p loose mean mg mb s₁.heap) (hsee : s₁.heap.NoSeer) (KX : (hd.heap_39 w.params).In s₁.heap) (hT : TabsAt [(132, 128)] s₁.heap) :
    Gnd prog w (ghostOf s₁.heap [(132, 128)]) mg mb where
  g := ghost_ns hT T.g
  b := ghost_ns hT T.b
  nolimit := let ⟨mc, a, r⟩ := T.nolimit; ⟨mc, ghost_ns hT a, r⟩
  seer := ⟨let ⟨mc, a, r⟩ := hsee.statics; ⟨mc, ghost_ns hT a, r⟩, let ⟨mc, a, r⟩ := hsee.mods; ⟨mc, ghost_ns hT a, r⟩, let ⟨mc, a, r⟩ := hsee.imp; ⟨mc, ghost_ns hT a, r⟩,
    let ⟨mg', bm, ob, a1, a2, a3, a4, r⟩ := hsee.main; ⟨mg', bm, ob, ghost_ns hT a1, a2, ghost_get hT a3 (fun q => by rw [q] at a4; cases a4), a4, r⟩⟩
  builtins := T.builtins
  bmain := let ⟨bm, ob, a1, a2, a3, a4, r⟩ := T.bmain; ⟨bm, ob, a1, a2, ghost_get hT a3 (fun q => by rw [q] at a4; cases a4), a4, r⟩
  X := ghost_K hT KX (by kernel_rfl)
  ch := (ghost_code hT).1
  tree := htree
noncomputable def W0 (G : Heap) : Wd := { P := G.get?, η := fun _ => 0, k := 0 }
theorem fin {w : World} {s₁ : Shared} {p : Program} {loose : List Str} {mean : ExcName → Option Value} {mg mb : Str → Option Value} {cl : Str → Option Addr} {mean' : ExcName → Option Value} (T : Top p loose mean mg mb s₁.heap) (hsee : s₁.heap.NoSeer) (KX : (hd.heap_39 w.params).In s₁.heap) (hT : TabsAt [(132, 128)] s₁.heap) (hg : s₁.gens = #[])
    (l : Addr) (ns : List Int) (hlen : ns.length ≤ 63) (w1 : Well w.params s₁.heap (.ref l) (ofPy (.list (ns.map .int)))) :
    codeAny (model Challenge.rw_oy0142_01.row.prog w) callerA (.call (.ref 187) ⟨[.ref l], []⟩) (GoodWG Challenge.rw_oy0142_01.row.claim cl mean' [ofPy (PyData.list (ns.map .int))] s₁) s₁ := by
  have gn : Gnd Challenge.rw_oy0142_01.row.prog w (ghostOf s₁.heap [(132, 128)]) mg mb := gnd_of rfl T hsee KX hT
  refine kn_post hT (fun a x => rfl) ?_
  obtain ⟨k', hv⟩ := law_val ns
  generalize hG : ghostOf s₁.heap [(132, 128)] = G at *
  have hsub : ∀ b o, G.get? b = some o → s₁.heap.get? b = some o := fun b o e => by rw [← hG] at e; exact of_hideAll _ e
  have hTB : G.get? TB = none := by rw [← hG]; exact hideAll_none _ (.head _)
  have h0 := (hT (132, 128) (.head _)).2
  have hi : Inv G (W0 G) s₁ := ⟨hsub, fun a o e => e, ⟨#[], h0, .inl rfl⟩, hTB, fun i j h => absurd h (Nat.not_lt_zero _), fun i h => absurd h (Nat.not_lt_zero _)⟩
  rw [ofPys_ints] at w1
  obtain ⟨vs, hget, hall⟩ : ∃ vs : List Value, s₁.heap.get? l = some { cls := .type "list", data := .seq vs.toArray } ∧ WellAll w.params s₁.heap vs (ns.map .int) := by
    cases w1 with
    | list h1 h2 => exact ⟨_, h1, h2⟩
  have hr := reps_ints (W := W0 G) hall
  have hvl : vs.length ≤ 63 := by have := hr.length; rw [List.length_map] at this; omega
  have hgl : G.get? l = some (listO vs 0) := by rw [← hG]; exact ghost_get hT hget (fun q => by cases q)
  refine law_ok gn callerA (W0 G) s₁ [.ref l] [.list (ns.map .int)] _ (.bool true) k' ⟨rfl, by decide, by decide, [], rfl⟩ hi (.cons (.list (n := 0) hgl (by unfold big; omega) hr) .nil) hv fun v W' s' x hk r => ?_
  cases r
  obtain ⟨h', tk, hs⟩ := x.same
  refine ⟨⟨.inl ⟨.bool true, .bool true, [], rfl, fun _ => rfl, .bool true, by kernel_rfl, fun _ => ⟨.nil, fun a ha => nomatch ha⟩⟩, fun b o e => ?_, ?_, ?_⟩, ?_⟩
  · exact x.keep b o (fun q => by rw [q] at e; rw [show ({ s₁ with heap := G } : Shared).heap = G from rfl, hTB] at e; cases e) (hsub b o e)
  · rw [hs]
  · rw [hs]; exact hg
  · obtain ⟨ps, e, _⟩ := x.inv.tab
    exact ⟨⟨ps, e⟩, trivial⟩
end Mine
end

section
open PySem PySem.W PyProof.Rows
set_option Elab.async false
set_option maxRecDepth 100000
set_option maxHeartbeats 8000000
theorem PySem.Challenge.cw_oy0142_01_holds : PySem.Challenge.rw_oy0142_01.Holds := by
  exact Mine.hd (by
  k_fill
  intro w s₀ s₁ mg mb G Y fa o pm cd doc dV kV ho hd hcd hD hmg hg args vals as hpre hlay hrd hwl hlo
  have KX := km_in_of Y
  km_tabs Y
  have X := (Ground.X G).1
  have V := (Ground.X G).2
  refine Ground.open G ?_
  intro T B D TE TW
  try (refine guard_noD D (by decide +kernel) ?_; clear D)
  km_lay T hmg ho hd cd
  have hfa : mg (PySem.Str.ofString "law") = some (.ref 187) := mg_of KX T.g (by kernel_rfl)
  have hfb : fa = 187 := by
    have h9 : mg (PySem.Str.ofString "law") = some (.ref fa) := hmg
    rw [hfa] at h9
    cases h9
    rfl
  wrow_args hpre hlay hrd hwl hlo
  rename_i w1 r0 hI hr hcond hcond2
  refine enter_call ?_
  rw [hfb]
  refine Mine.fin T (T.seer (by decide +kernel)) KX hT9 hg _ _ ?_ w1
  omega)
end
