import PyProof.Rows.All
import PySem.Sre
import PyProof.StrCalls6
import PyProof.Rows.StrCut
import KE.KLam
import KE.KEqDict
import KE.KSetIn
import Wide.FinOn
import OpenK.AllK
import Wide.All
import PySem.Challenge.RW_bl0028_01
set_option Elab.async false
section
open PySem PySem.W PyProof.Rows
set_option Elab.async false
namespace Mine
set_option maxRecDepth 100000
set_option maxHeartbeats 8000000
local macro_rules
  | `(tactic| o_head ($h $k $a $e $ts)) => do
    if (ts.raw.find? fun s => s.isNatLit? == some 48).isSome then Lean.Macro.throwUnsupported
    `(tactic| o_head ($h $k $a $e (48 :: $ts)))
open_top hd for PySem.Challenge.rw_bl0028_01
end Mine
end
section
open PySem PySem.W PySem.Calls PyProof.Rows
set_option Elab.async false
set_option maxRecDepth 100000
namespace Mine

abbrev PG : Program := PySem.Challenge.rw_bl0028_01.prog
noncomputable section
abbrev KF : Params → Frag := hd.heap_39

structure Wd where
  w : World
  mg : Str → Option Value
  mb : Str → Option Value

abbrev Wd.K (c : Wd) : Frag := KF c.w.params
abbrev Md (c : Wd) : Model := model PG c.w
abbrev nE : Value → Shared → Prop := fun _ _ => False

def tabAddr (b : Addr) : Prop := b = 60 ∨ b = 48

def Keep (h h' : Heap) : Prop := ∀ b o, b ≠ 60 → b ≠ 48 → h.get? b = some o → h'.get? b = some o

theorem Keep.refl (h : Heap) : Keep h h := fun _ _ _ _ e => e
theorem Keep.trans {a b c : Heap} (x : Keep a b) (y : Keep b c) : Keep a c := fun p o h1 h2 e => y p o h1 h2 (x p o h1 h2 e)
theorem Keep.of {h h' : Heap} (k : ∀ b o, h.get? b = some o → h'.get? b = some o) : Keep h h' := fun b o _ _ e => k b o e
theorem Keep.push (h : Heap) (o : Obj) : Keep h (h.push o) := .of fun _ _ e => Heap.get?_push_of_some o e

def CodeC (h : Heap) (c : Addr) (q : Str) : Prop := ∃ o vs t, h.get? c = some o ∧ o.cls = .type "code" ∧ o.data = .fields vs ∧ vs[1]? = some (.str q t)
theorem CodeC.rec {h : Heap} {c : Addr} {q : Str} (x : CodeC h c q) : h.CodeRec (.ref c) q := let ⟨o, vs, t, e, _, d, r⟩ := x; ⟨c, o, vs, t, rfl, e, d, r⟩
theorem CodeC.get {h h' : Heap} {c : Addr} {q : Str} (x : CodeC h c q) (k : h'.get? c = h.get? c) : CodeC h' c q := let ⟨o, vs, t, e, r⟩ := x; ⟨o, vs, t, k.trans e, r⟩

/-- the table of a code's inner codes: empty, or it holds the one inner code -/
def TabAt (h : Heap) (P : Addr) (line col : Nat) (qual : Str) : Prop :=
  ∃ ps, h.get? P = some (tabObj ps) ∧ (ps = #[] ∨ ∃ c', ps = #[rawInt line, rawInt col, .ref c'] ∧ c' ≠ 60 ∧ c' ≠ 48 ∧ CodeC h c' qual)

structure Tabs (h : Heap) : Prop where
  l : TabAt h 60 39 31 "unquote_header_value.<locals>.<lambda>"
  g : TabAt h 48 32 15 "quote_header_value.<locals>.<genexpr>"

theorem CodeC.keep {h h' : Heap} {c : Addr} {q : Str} (x : CodeC h c q) (h1 : c ≠ 60) (h2 : c ≠ 48) (k : Keep h h') : CodeC h' c q :=
  let ⟨o, vs, t, e, r⟩ := x; ⟨o, vs, t, k _ _ h1 h2 e, r⟩

theorem TabAt.keep {h h' : Heap} {P : Addr} {line col : Nat} {q : Str} (x : TabAt h P line col q) (k : Keep h h') (e : h'.get? P = h.get? P) : TabAt h' P line col q := by
  obtain ⟨ps, e1, e2⟩ := x
  refine ⟨ps, e.trans e1, e2.imp id ?_⟩
  rintro ⟨c', rfl, h1, h2, r⟩
  exact ⟨c', rfl, h1, h2, r.keep h1 h2 k⟩

theorem Tabs.keep {h h' : Heap} (x : Tabs h) (k : Keep h h') (e1 : h'.get? 60 = h.get? 60) (e2 : h'.get? 48 = h.get? 48) : Tabs h' :=
  ⟨x.l.keep k e1, x.g.keep k e2⟩

theorem Tabs.get60 {h : Heap} (x : Tabs h) : ∃ ps, h.get? 60 = some (tabObj ps) := let ⟨ps, e, _⟩ := x.l; ⟨ps, e⟩
theorem Tabs.get48 {h : Heap} (x : Tabs h) : ∃ ps, h.get? 48 = some (tabObj ps) := let ⟨ps, e, _⟩ := x.g; ⟨ps, e⟩

theorem get_push_eq {h : Heap} {a : Addr} {o' : Obj} (o : Obj) (e : h.get? a = some o') : (h.push o).get? a = h.get? a := (Heap.get?_push_of_some o e).trans e.symm

theorem Tabs.push {h : Heap} (x : Tabs h) (o : Obj) : Tabs (h.push o) :=
  let ⟨_, e1⟩ := x.get60; let ⟨_, e2⟩ := x.get48
  x.keep (.push h o) (get_push_eq o e1) (get_push_eq o e2)

theorem Tabs.ne60 {h : Heap} (x : Tabs h) {a : Addr} {o : Obj} (e : h.get? a = some o) (hc : o.cls ≠ .none) : a ≠ 60 := fun q => by
  subst q; obtain ⟨ps, e1⟩ := x.get60; rw [e] at e1; cases e1; exact hc rfl
theorem Tabs.ne48 {h : Heap} (x : Tabs h) {a : Addr} {o : Obj} (e : h.get? a = some o) (hc : o.cls ≠ .none) : a ≠ 48 := fun q => by
  subst q; obtain ⟨ps, e1⟩ := x.get48; rw [e] at e1; cases e1; exact hc rfl

/-- what stands of the top at every moment of the run -/
structure Base (c : Wd) (h : Heap) : Prop where
  K : c.K.In h
  g : h.Ns mainGlobals c.mg
  b : h.Ns builtinsNs c.mb
  bb : ∀ x : Str, x ≠ "__name__" → c.mb x = bootBuiltins x
  lim : h.NoLimit
  dig : ∃ mc, h.Ns cStatics mc ∧ mc "sys.int_max_str_digits" = none
  bm : ∃ bm ob, c.mg "__builtins__" = some (.ref bm) ∧ bm ≠ builtinsNs ∧ h.get? bm = some ob ∧ ob.cls = .type "module" ∧ ob.dict = some builtinsNs ∧ ob.data = .plain

theorem ns_keep {h h' : Heap} {a : Addr} {m : Str → Option Value} (x : h.Ns a m) (k : Keep h h') (h1 : a ≠ 60) (h2 : a ≠ 48) : h'.Ns a m :=
  let ⟨o, es, ep, e, r⟩ := x; ⟨o, es, ep, k _ _ h1 h2 e, r⟩

theorem K_no60 (P : Params) : (KF P).lookup 60 = none := by rfl
theorem K_no48 (P : Params) : (KF P).lookup 48 = none := by rfl

theorem Base.keep {c : Wd} {h h' : Heap} (x : Base c h) (T : Tabs h) (k : Keep h h') : Base c h' where
  K := fun a o e => k a o (fun q => by subst q; rw [K_no60] at e; cases e) (fun q => by subst q; rw [K_no48] at e; cases e) (x.K a o e)
  g := ns_keep x.g k (by decide) (by decide)
  b := ns_keep x.b k (by decide) (by decide)
  bb := x.bb
  lim := let ⟨mc, a, b⟩ := x.lim; ⟨mc, ns_keep a k (by decide) (by decide), b⟩
  dig := let ⟨mc, a, b⟩ := x.dig; ⟨mc, ns_keep a k (by decide) (by decide), b⟩
  bm := let ⟨bm, ob, h1, h2, h3, h4, r⟩ := x.bm
    have hn : ob.cls ≠ .none := by rw [h4]; nofun
    ⟨bm, ob, h1, h2, k _ _ (T.ne60 h3 hn) (T.ne48 h3 hn) h3, h4, r⟩

structure Ok (c : Wd) (s : Shared) : Prop where
  base : Base c s.heap
  tabs : Tabs s.heap
  bare : AllBare s.gens

/-- one state grown out of another: nothing that stood is changed (the two code tables but for their growth) -/
structure ExtW (c : Wd) (s s' : Shared) : Prop where
  ok : Ok c s'
  keep : Keep s.heap s'.heap
  size : s.heap.objs.size ≤ s'.heap.objs.size
  os : s'.os = s.os

theorem ExtW.refl {c : Wd} {s : Shared} (x : Ok c s) : ExtW c s s := ⟨x, .refl _, Nat.le_refl _, rfl⟩
theorem ExtW.trans {c : Wd} {s₁ s₂ s₃ : Shared} (x : ExtW c s₁ s₂) (y : ExtW c s₂ s₃) : ExtW c s₁ s₃ := ⟨y.ok, x.keep.trans y.keep, Nat.le_trans x.size y.size, y.os.trans x.os⟩
theorem ExtW.toks {c : Wd} {s s' : Shared} (x : ExtW c s s') (t : Nat) : ExtW c s { s' with toks := t } := ⟨⟨x.ok.base, x.ok.tabs, x.ok.bare⟩, x.keep, x.size, x.os⟩
theorem ExtW.push {c : Wd} {s s' : Shared} (x : ExtW c s s') (o : Obj) : ExtW c s { s' with heap := s'.heap.push o } :=
  ⟨⟨x.ok.base.keep x.ok.tabs (.push _ o), x.ok.tabs.push o, x.ok.bare⟩, x.keep.trans (.push _ o), by rw [Heap.size_push]; exact Nat.le_succ_of_le x.size, x.os⟩

structure Ext (c : Wd) (s s' : Shared) : Prop extends ExtW c s s' where
  tk : s.toks ≤ s'.toks

theorem Ext.refl {c : Wd} {s : Shared} (x : Ok c s) : Ext c s s := ⟨.refl x, Nat.le_refl _⟩
theorem Ext.trans {c : Wd} {s₁ s₂ s₃ : Shared} (x : Ext c s₁ s₂) (y : Ext c s₂ s₃) : Ext c s₁ s₃ := ⟨x.toExtW.trans y.toExtW, Nat.le_trans x.tk y.tk⟩
theorem Ext.toks {c : Wd} {s s' : Shared} (x : Ext c s s') (t : Nat) (h : s'.toks ≤ t := by first | omega | (dsimp only; omega)) : Ext c s { s' with toks := t } := ⟨x.toExtW.toks t, Nat.le_trans x.tk h⟩
theorem Ext.push {c : Wd} {s s' : Shared} (x : Ext c s s') (o : Obj) : Ext c s { s' with heap := s'.heap.push o } := ⟨x.toExtW.push o, x.tk⟩

/-- the tokens only grow: so it is enough to tell of the rest -/
theorem up {c : Wd} {α : Type} {A : Around} {t : Sem α} {s : Shared} {Q : α → Shared → Prop} (h : wpAny (Md c) A t (fun v s' => ExtW c s s' ∧ Q v s') nE s) : wpAny (Md c) A t (fun v s' => Ext c s s' ∧ Q v s') nE s :=
  wpAny_mono (wpAny_toks h) (fun _ _ ⟨a, b, d⟩ => ⟨⟨b, a⟩, d⟩) fun _ _ h => h.2

inductive F2 {α β : Type} (R : α → β → Prop) : List α → List β → Prop
  | nil : F2 R [] []
  | cons {a b l l'} : R a b → F2 R l l' → F2 R (a :: l) (b :: l')
theorem F2.imp {α β : Type} {R S : α → β → Prop} (h : ∀ a b, R a b → S a b) : ∀ {l : List α} {l' : List β}, F2 R l l' → F2 S l l'
  | _, _, .nil => .nil
  | _, _, .cons a r => .cons (h _ _ a) (F2.imp h r)
theorem F2.length {α β : Type} {R : α → β → Prop} : ∀ {l : List α} {l' : List β}, F2 R l l' → l.length = l'.length
  | _, _, .nil => rfl
  | _, _, .cons _ r => by simp [F2.length r]
theorem F2.append {α β : Type} {R : α → β → Prop} : ∀ {l k : List α} {l' k' : List β}, F2 R l l' → F2 R k k' → F2 R (l ++ k) (l' ++ k')
  | _, _, _, _, .nil, y => y
  | _, _, _, _, .cons a r, y => .cons a (F2.append r y)
theorem F2.get {α β : Type} {R : α → β → Prop} : ∀ {l : List α} {l' : List β} {i : Nat} {a : α}, F2 R l l' → l[i]? = some a → ∃ b, l'[i]? = some b ∧ R a b
  | _, _, i, a, .nil, e => by simp at e
  | _, _, 0, a, .cons (a := x) h r, e => by simp at e; subst e; exact ⟨_, rfl, h⟩
  | _, _, i + 1, a, .cons h r, e => by simpa using F2.get r (by simpa using e)

inductive V where
  | none
  | bool (b : Bool)
  | int (i : Int)
  | intN (i : Int)
  | str (x : List Nat)
  | bytes (b : List UInt8)
  | ref (a : Addr)
  | bi (id : String)
  | ty (n : String)

abbrev mkS (x : List Nat) : Str := ⟨x.toArray⟩

def V.rep : V → Value → Prop
  | .none, v => v = .none
  | .bool b, v => v = .bool b
  | .int i, v => ∃ t, v = .int i t
  | .intN i, v => ∃ t, t ≠ 0 ∧ v = .int i t
  | .str x, v => ∃ t, v = .str (mkS x) t
  | .bytes b, v => ∃ t, v = .bytes b.toArray t
  | .ref a, v => v = .ref a
  | .bi id, v => v = .builtin id
  | .ty n, v => v = .type n

inductive AO where
  | list (xs : List V)
  | pairs (xs : List (List Nat × List Nat))
  | dict (kvs : List (List Nat × V))
  | raw (o : Obj)
  | fix (o : Obj) (xs : List (List Nat × List Nat))
  | mat (x : List Nat) (nums : List Int)

def TupAt (h : Heap) (a : Addr) (xs : List V) : Prop :=
  ∃ vs n, h.get? a = some { cls := .type "tuple", data := .seq vs n } ∧ F2 V.rep xs vs.toList
def ListAt (h : Heap) (a : Addr) (xs : List V) : Prop :=
  ∃ vs n, h.get? a = some { cls := .type "list", data := .seq vs n } ∧ F2 V.rep xs vs.toList
def EntryRep (P : Params) (kv : List Nat × V) (e : DictEntry) : Prop :=
  (∃ t, e.key = .str (mkS kv.1) t) ∧ e.hash = PyData.keyHash P (mkS kv.1) ∧ kv.2.rep e.val
def DictAt (P : Params) (h : Heap) (a : Addr) (kvs : List (List Nat × V)) : Prop :=
  (∃ es n, h.get? a = some { cls := .type "dict", data := .dict es n } ∧ F2 (EntryRep P) kvs es.toList) ∧ (kvs.map (·.1)).Nodup
def PairsAt (h : Heap) (a : Addr) (xs : List (List Nat × List Nat)) : Prop :=
  ∃ vs n, h.get? a = some { cls := .type "list", data := .seq vs n } ∧
    F2 (fun x v => ∃ b, v = .ref b ∧ TupAt h b [.str x.1, .str x.2]) xs vs.toList

/-- a match: its text, its ends and those of its groups -/
def MatAt (h : Heap) (a : Addr) (x : List Nat) (nums : List Int) : Prop :=
  ∃ b t p q r l n, h.get? a = some { cls := .type "re.Match", data := .fields #[.str (mkS x) t, p, q, r, l, .ref b] } ∧ h.get? b = some { cls := .type "tuple", data := .seq (nums.map rawInt).toArray n }

def AO.rep (P : Params) (h : Heap) (a : Addr) : AO → Prop
  | .list xs => ListAt h a xs
  | .pairs xs => PairsAt h a xs
  | .dict kvs => DictAt P h a kvs
  | .raw o => h.get? a = some o ∧ o.cls ≠ .none ∧ o.cls ≠ .type "tuple" ∧ o.cls ≠ .type "code"
  | .fix o xs => h.get? a = some o ∧ o.cls = .type "list" ∧ PairsAt h a xs
  | .mat x nums => MatAt h a x nums


theorem TupAt.keep {h h' : Heap} {a : Addr} {xs : List V} (x : TupAt h a xs) (T : Tabs h) (k : Keep h h') : TupAt h' a xs :=
  let ⟨vs, n, e, r⟩ := x; ⟨vs, n, k _ _ (T.ne60 e nofun) (T.ne48 e nofun) e, r⟩
theorem ListAt.keep {h h' : Heap} {a : Addr} {xs : List V} (x : ListAt h a xs) (T : Tabs h) (k : Keep h h') : ListAt h' a xs :=
  let ⟨vs, n, e, r⟩ := x; ⟨vs, n, k _ _ (T.ne60 e nofun) (T.ne48 e nofun) e, r⟩
theorem DictAt.keep {P : Params} {h h' : Heap} {a : Addr} {xs} (x : DictAt P h a xs) (T : Tabs h) (k : Keep h h') : DictAt P h' a xs :=
  let ⟨⟨vs, n, e, r⟩, nd⟩ := x; ⟨⟨vs, n, k _ _ (T.ne60 e nofun) (T.ne48 e nofun) e, r⟩, nd⟩
theorem PairsAt.keep {h h' : Heap} {a : Addr} {xs} (x : PairsAt h a xs) (T : Tabs h) (k : Keep h h') : PairsAt h' a xs :=
  let ⟨vs, n, e, r⟩ := x
  ⟨vs, n, k _ _ (T.ne60 e nofun) (T.ne48 e nofun) e, F2.imp (fun _ _ ⟨b, e, t⟩ => ⟨b, e, t.keep T k⟩) r⟩
theorem AO.rep.keep {P : Params} {h h' : Heap} {a : Addr} : ∀ {o : AO}, o.rep P h a → Tabs h → Keep h h' → o.rep P h' a
  | .list _, x, T, k => ListAt.keep x T k
  | .pairs _, x, T, k => PairsAt.keep x T k
  | .dict _, x, T, k => DictAt.keep x T k
  | .raw _, ⟨e, h1, h2⟩, T, k => ⟨k _ _ (T.ne60 e h1) (T.ne48 e h1) e, h1, h2⟩
  | .mat _ _, ⟨b, t, p, q, r, l, n, e1, e2⟩, T, k => ⟨b, t, p, q, r, l, n, k _ _ (T.ne60 e1 nofun) (T.ne48 e1 nofun) e1, k _ _ (T.ne60 e2 nofun) (T.ne48 e2 nofun) e2⟩
  | .fix _ _, ⟨e, h1, h2⟩, T, k => ⟨k _ _ (T.ne60 e (by rw [h1]; nofun)) (T.ne48 e (by rw [h1]; nofun)) e, h1, PairsAt.keep h2 T k⟩

/-- an address that bears a ledger's object -/
theorem AO.rep.get {P : Params} {h : Heap} {a : Addr} : ∀ {o : AO}, o.rep P h a → ∃ ob, h.get? a = some ob ∧ ob.cls ≠ .none ∧ ob.cls ≠ .type "tuple" ∧ ob.cls ≠ .type "code"
  | .list _, ⟨_, _, e, _⟩ => ⟨_, e, nofun, by simp, by simp⟩
  | .pairs _, ⟨_, _, e, _⟩ => ⟨_, e, nofun, by simp, by simp⟩
  | .dict _, ⟨⟨_, _, e, _⟩, _⟩ => ⟨_, e, nofun, by simp, by simp⟩
  | .raw _, ⟨e, h1, h2⟩ => ⟨_, e, h1, h2⟩
  | .mat _ _, ⟨b, t, p, q, r, l, n, e1, e2⟩ => ⟨_, e1, nofun, by simp, by simp⟩
  | .fix _ _, ⟨e, h1, h2⟩ => ⟨_, e, by rw [h1]; nofun, by rw [h1]; simp, by rw [h1]; simp⟩

/-- a change at one address (no tuple): what lies elsewhere stands -/
theorem TupAt.but {h h' : Heap} {a b : Addr} {xs : List V} (x : TupAt h b xs) (hs : Heap.SameBut a h h') (ha : ∀ vs n, h.get? a ≠ some { cls := .type "tuple", data := .seq vs n }) : TupAt h' b xs :=
  let ⟨vs, n, e, r⟩ := x; ⟨vs, n, (hs.2 b fun q => ha _ _ (q ▸ e)).trans e, r⟩
theorem AO.rep.but {P : Params} {h h' : Heap} {a b : Addr} (hab : b ≠ a) (hs : Heap.SameBut a h h') (ha : ∀ vs n, h.get? a ≠ some { cls := .type "tuple", data := .seq vs n }) : ∀ {o : AO}, o.rep P h b → o.rep P h' b
  | .list _, ⟨vs, n, e, r⟩ => ⟨vs, n, (hs.2 b hab).trans e, r⟩
  | .pairs _, ⟨vs, n, e, r⟩ => ⟨vs, n, (hs.2 b hab).trans e, F2.imp (fun _ _ ⟨c, e, t⟩ => ⟨c, e, t.but hs ha⟩) r⟩
  | .dict _, ⟨⟨vs, n, e, r⟩, nd⟩ => ⟨⟨vs, n, (hs.2 b hab).trans e, r⟩, nd⟩
  | .raw _, ⟨e, h1, h2⟩ => ⟨(hs.2 b hab).trans e, h1, h2⟩
  | .mat _ _, ⟨c, t, p, q, r, l, n, e1, e2⟩ => ⟨c, t, p, q, r, l, n, (hs.2 b hab).trans e1, (hs.2 c fun q => ha _ _ (q ▸ e2)).trans e2⟩
  | .fix _ _, ⟨e0, h1, vs, n, e, r⟩ => ⟨(hs.2 b hab).trans e0, h1, vs, n, (hs.2 b hab).trans e, F2.imp (fun _ _ ⟨c, e, t⟩ => ⟨c, e, t.but hs ha⟩) r⟩

/-- the frame of one def under way -/
structure Cx where
  c : Wd
  A : Around
  env : Env
  B : Heap
  ns : List Str
  os : OsState
  lvl : Nat
  hh : A.handled = none
  hdep : A.depth + 10 * lvl + 10 < recursionLimit
  hun : A.units + 100 * lvl + 100 < cLine
  hk : env.scope.kind = .function
  hg : env.globals = mainGlobals
  hb : env.builtins = builtinsNs
  hns : ∀ (i : Nat) (n : Str), ns[i]? = some n → env.kindOf n = some .local
  hnd : ns.Nodup
  hB : Base c B
  tB : Tabs B
  hL : B.objs.size ≤ env.locals

abbrev Lc := List (Option V)
abbrev Ld := List (Addr × AO)

def LocRep (ns : List Str) (m : Lc) (mm : Str → Option Value) : Prop :=
  ∀ (i : Nat) (n : Str) (v : V), ns[i]? = some n → m[i]? = some (some v) → ∃ v', mm n = some v' ∧ v.rep v'

structure St (x : Cx) (m : Lc) (led : Ld) (s : Shared) : Prop where
  keep : Keep x.B s.heap
  tabs : Tabs s.heap
  bare : AllBare s.gens
  loc : ∃ mm, s.heap.Ns x.env.locals mm ∧ LocRep x.ns m mm
  size : x.B.objs.size ≤ s.heap.objs.size
  hled : ∀ p ∈ led, x.B.objs.size ≤ p.1 ∧ p.1 ≠ x.env.locals ∧ p.2.rep x.c.w.params s.heap p.1
  nodup : (led.map (·.1)).Nodup
  os : s.os = x.os
  tk : 0 < s.toks

theorem St.base {x : Cx} {m : Lc} {led : Ld} {s : Shared} (S : St x m led s) : Base x.c s.heap := x.hB.keep x.tB S.keep
theorem St.ok {x : Cx} {m : Lc} {led : Ld} {s : Shared} (S : St x m led s) : Ok x.c s := ⟨S.base, S.tabs, S.bare⟩

theorem Cx.new_ne (x : Cx) {a b : Addr} {o : Obj} (h : x.B.objs.size ≤ a) (e : x.B.get? b = some o) : b ≠ a := fun q => by
  subst q; exact absurd (Heap.lt_size e) (Nat.not_lt.mpr h)
theorem Cx.L60 (x : Cx) : x.env.locals ≠ 60 := fun q => by
  obtain ⟨ps, e⟩ := x.tB.get60; exact x.new_ne x.hL e q.symm
theorem Cx.L48 (x : Cx) : x.env.locals ≠ 48 := fun q => by
  obtain ⟨ps, e⟩ := x.tB.get48; exact x.new_ne x.hL e q.symm

theorem St.ext {x : Cx} {m : Lc} {led : Ld} {s s' : Shared} (S : St x m led s) (E : Ext x.c s s') : St x m led s' where
  keep := S.keep.trans E.keep
  tabs := E.ok.tabs
  bare := E.ok.bare
  loc := let ⟨mm, a, b⟩ := S.loc; ⟨mm, ns_keep a E.keep x.L60 x.L48, b⟩
  hled := fun p hp => let ⟨a, b, r⟩ := S.hled p hp; ⟨a, b, r.keep S.tabs E.keep⟩
  size := Nat.le_trans S.size E.size
  nodup := S.nodup
  os := E.os.trans S.os
  tk := Nat.lt_of_lt_of_le S.tk E.tk

def Post (x : Cx) (s : Shared) (P : Nat → Value → Heap → Prop) : Value → Shared → Prop := fun v s' => Ext x.c s s' ∧ P s.heap.objs.size v s'.heap

/-- an expression that only reads (it may make things) -/
def EX (x : Cx) (m : Lc) (led : Ld) (e : Expr) (P : Nat → Value → Heap → Prop) : Prop :=
  ∀ s, St x m led s → wpAny (Md x.c) x.A (eval e x.env) (Post x s P) nE s
abbrev isV (v : V) : Nat → Value → Heap → Prop := fun _ v' _ => v.rep v'
abbrev EV (x : Cx) (m : Lc) (led : Ld) (e : Expr) (v : V) : Prop := EX x m led e (isV v)
/-- a test -/
def IT (x : Cx) (m : Lc) (led : Ld) (e : Expr) (b : Bool) : Prop :=
  ∀ s, St x m led s → wpAny (Md x.c) x.A (isTrue e x.env (eval e x.env)) (fun r s' => Ext x.c s s' ∧ r = b) nE s

/-- statements, with what is wanted behind them -/
def SX (x : Cx) (ss : List Stmt) (m : Lc) (led : Ld) (Q : Flow → Shared → Prop) : Prop :=
  ∀ s, St x m led s → wpAny (Md x.c) x.A (execs ss x.env) Q nE s

end
end Mine
end
section
open PySem PySem.W PySem.Calls PyProof.Rows
set_option Elab.async false
set_option maxRecDepth 100000
set_option linter.all false
namespace Mine
noncomputable section

theorem mkS_toList (s : Str) : mkS s.cps.toList = s := by cases s; simp [mkS]
theorem mkS_inj {x y : List Nat} : mkS x = mkS y ↔ x = y := by
  constructor
  · intro h; simpa [mkS] using h
  · intro h; rw [h]
@[simp] theorem mkS_cps (x : List Nat) : (mkS x).cps.toList = x := by simp [mkS]
@[simp] theorem mkS_length (x : List Nat) : (mkS x).length = x.length := by simp [mkS, Str.length]
theorem mkS_append (x y : List Nat) : mkS x ++ mkS y = mkS (x ++ y) := by
  show Str.mk (x.toArray ++ y.toArray) = _
  simp [mkS]
theorem rep_str {x : Str} {t : Tok} {y : List Nat} (h : x = mkS y) : (V.str y).rep (.str x t) := ⟨t, by rw [h]⟩
/-- the code points of a written text -/
def cp (s : Str) : List Nat := s.cps.toList
theorem mkS_cp (s : Str) : mkS (cp s) = s := mkS_toList s


section
variable {x : Cx} {m : Lc} {led : Ld}

theorem Ext.selfT {s : Shared} (S : St x m led s) (t : Nat) (h : s.toks ≤ t := by omega) : Ext x.c s { s with toks := t } := (Ext.refl S.ok).toks t h
theorem ExtW.selfT {s : Shared} (S : St x m led s) (t : Nat) : ExtW x.c s { s with toks := t } := (ExtW.refl S.ok).toks t
theorem Ext.self {s : Shared} (S : St x m led s) : Ext x.c s s := Ext.refl S.ok

/-- told of a later start, it holds of an earlier one -/
def PMono (P : Nat → Value → Heap → Prop) : Prop := ∀ n n' v h, n ≤ n' → P n' v h → P n v h

/-! ## names and constants -/

theorem nd (x : Cx) {i : Nat} {n : Str} (h : x.ns[i]? = some n) (hd : (x.ns.all fun n => n != "__debug__") = true) : (n == ("__debug__" : Str)) = false := by
  have := List.all_eq_true.mp hd n (List.mem_of_getElem? h)
  simpa using this

theorem EX.name (i : Nat) {n : Str} {v : V} {pos : Pos} (h1 : x.ns[i]? = some n) (h2 : m[i]? = some (some v)) (hd : (x.ns.all fun n => n != "__debug__") = true := by rfl) : EV x m led (.Name n pos) v := by
  intro s S
  obtain ⟨mm, hn, hr⟩ := S.loc
  obtain ⟨v', e, r⟩ := hr i n v h1 h2
  exact wpAny_Name (wpAny_loadName_local x.hk (x.hns i n h1) hn e ⟨.self S, r⟩) (nd x h1 hd)

theorem glob_some {c : Wd} {h : Heap} {n : Str} {v : Value} (B : Base c h) (e : nsIn c.K mainGlobals n = some (some v)) : c.mg n = some v := mg_of B.K B.g e
theorem glob_none {c : Wd} {h : Heap} {n : Str} (B : Base c h) (e : nsIn c.K mainGlobals n = some none) : c.mg n = none := by
  obtain ⟨o, es, ep, ho, hd, _, hf⟩ := B.g
  unfold nsIn at e
  split at e
  · rename_i c' d es' n' sl q
    have h1 := B.K _ _ q
    rw [ho] at h1
    cases h1
    cases hd
    rw [← hf n, nsFind, findBy]
    split at e
    · cases e
    · rename_i hx
      rw [← Array.find?_toList, hx]; rfl
  · cases e

theorem EX.glob {n : Str} {v : V} {w : Value} {pos : Pos} (e : nsIn x.c.K mainGlobals n = some (some w)) (r : v.rep w) (hx : x.env.kindOf n = some .globalImplicit) (hd : (n == ("__debug__" : Str)) = false := by decide +kernel) : EV x m led (.Name n pos) v := by
  intro s S
  have B := S.base
  exact Name_function_global x.hk hx (loadGlobal_global (x.hg ▸ B.g) (glob_some B e) ⟨.self S, r⟩) hd

theorem EX.builtin {n : Str} {v : V} {w : Value} {pos : Pos} (e : nsIn x.c.K mainGlobals n = some none) (hb : bootBuiltins n = some w) (r : v.rep w) (hx : x.env.kindOf n = some .globalImplicit) (hne : n ≠ "__name__" := by decide +kernel) (hd : (n == ("__debug__" : Str)) = false := by decide +kernel) : EV x m led (.Name n pos) v := by
  intro s S
  have B := S.base
  exact Name_function_global x.hk hx (loadGlobal_builtin (x.hg ▸ B.g) (glob_none B e) (x.hb ▸ B.b) ((B.bb n hne).trans hb) ⟨.self S, r⟩) hd

theorem EX.int {i : Int} {k pos} : EV x m led (.Constant (.int i) k pos) (.int i) := fun s S => wpAny_Constant_int ⟨.selfT S _, ⟨_, rfl⟩⟩
theorem EX.intN {i : Int} {k pos} : EV x m led (.Constant (.int i) k pos) (.intN i) := fun s S => wpAny_Constant_int ⟨.selfT S _, ⟨_, Nat.ne_of_gt S.tk, rfl⟩⟩
theorem EX.str {a : Str} {k pos} : EV x m led (.Constant (.str a) k pos) (.str (cp a)) := fun s S => wpAny_Constant_str ⟨.selfT S _, ⟨_, by rw [mkS_cp]⟩⟩
theorem EX.noneC {k pos} : EV x m led (.Constant .none k pos) .none := fun s S => wpAny_Constant_none ⟨.self S, rfl⟩
theorem EX.bool {b k pos} : EV x m led (.Constant (.bool b) k pos) (.bool b) := fun s S => wpAny_Constant_bool ⟨.self S, rfl⟩
theorem EX.bytes {b : List UInt8} {k pos} : EV x m led (.Constant (.bytes b) k pos) (.bytes b) := fun s S => by
  show wpAny (Md x.c) x.A (mkTextBytes b.toArray) _ _ _
  exact fun _ _ _ => ⟨.selfT S _, ⟨_, rfl⟩⟩

/-- weakening -/
theorem EX.imp {e : Expr} {P Q : Nat → Value → Heap → Prop} (h : EX x m led e P) (hi : ∀ h v h', P h v h' → Q h v h') : EX x m led e Q :=
  fun s S => wpAny_mono (h s S) (fun _ _ ⟨a, b⟩ => ⟨a, hi _ _ _ b⟩) fun _ _ e => e

/-! ## binary operations -/

def BinOk (x : Cx) (m : Lc) (led : Ld) (op : Operator) (a b : V) (P : Nat → Value → Heap → Prop) : Prop :=
  ∀ s u v, St x m led s → a.rep u → b.rep v → wpAny (Md x.c) x.A (binaryOp op u v) (Post x s P) nE s

theorem Post.step {s s₁ : Shared} {P : Nat → Value → Heap → Prop} (E : Ext x.c s s₁) (hP : PMono P) {v : Value} {s' : Shared} (h : Post x s₁ P v s') : Post x s P v s' :=
  ⟨E.trans h.1, hP _ _ _ _ E.size h.2⟩

theorem EX.bin {l r : Expr} {op : Operator} {pos : Pos} {a b c : V} (hl : EV x m led l a) (hr : EV x m led r b) (ho : BinOk x m led op a b (isV c)) : EV x m led (.BinOp l op r pos) c := by
  intro s S
  refine wpAny_BinOp (wpAny_mono (hl s S) (fun u s₁ h₁ => ?_) fun _ _ e => e)
  have S₁ := S.ext h₁.1
  refine wpAny_mono (hr s₁ S₁) (fun v s₂ h₂ => ?_) fun _ _ e => e
  have S₂ := S₁.ext h₂.1
  exact wpAny_mono (ho s₂ u v S₂ h₁.2 h₂.2) (fun r s₃ h₃ => ⟨h₁.1.trans (h₂.1.trans h₃.1), h₃.2⟩) fun _ _ e => e

theorem bin_add_int {a b : Int} : BinOk x m led .Add (.int a) (.int b) (isV (.int (a + b))) := by
  rintro s _ _ S ⟨t, rfl⟩ ⟨u, rfl⟩; exact add_int ⟨.selfT S _, ⟨_, rfl⟩⟩
theorem bin_sub_int {a b : Int} : BinOk x m led .Sub (.int a) (.int b) (isV (.int (a - b))) := by
  rintro s _ _ S ⟨t, rfl⟩ ⟨u, rfl⟩; exact sub_int ⟨.selfT S _, ⟨_, rfl⟩⟩
theorem bin_mul_int {a b : Int} (hm : IntMulOk a b) : BinOk x m led .Mult (.int a) (.int b) (isV (.int (a * b))) := by
  rintro s _ _ S ⟨t, rfl⟩ ⟨u, rfl⟩; exact mul_int ⟨.selfT S _, ⟨_, rfl⟩⟩ hm
theorem bin_mod_int {a b : Int} (hb : b ≠ 0) : BinOk x m led .Mod (.int a) (.int b) (isV (.int (a.fmod b))) := by
  rintro s _ _ S ⟨t, rfl⟩ ⟨u, rfl⟩; exact mod_int' hb ⟨.selfT S _, ⟨_, rfl⟩⟩
theorem bin_div_int {a b : Int} (hb : b ≠ 0) (hs : b.natAbs < 1073741824) : BinOk x m led .FloorDiv (.int a) (.int b) (isV (.int (a.fdiv b))) := by
  rintro s _ _ S ⟨t, rfl⟩ ⟨u, rfl⟩; exact floordiv_int hb ⟨.selfT S _, ⟨_, rfl⟩⟩ (.inl (PyProof.noPylong_small (by omega)))
theorem bin_pow_int {a n : Int} (hn : 0 ≤ n) (hn2 : n ≤ 1000000) (ha : a.natAbs < 2 ^ 64) : BinOk x m led .Pow (.int a) (.int n) (isV (.int (a ^ n.toNat))) := by
  rintro s _ _ S ⟨t, rfl⟩ ⟨u, rfl⟩; exact pow_int_small hn hn2 ha ⟨.selfT S _, ⟨_, rfl⟩⟩
theorem bin_add_str {a b : List Nat} (hsz : a.length + b.length ≤ sizeLine) : BinOk x m led .Add (.str a) (.str b) (isV (.str (a ++ b))) := by
  rintro s _ _ S ⟨t, rfl⟩ ⟨u, rfl⟩
  exact up (SB.add (fun t' k => ⟨.selfT S _, ⟨t', by rw [mkS_append]⟩⟩) (by rw [mkS_length, mkS_length]; exact hsz))

/-! ## tests -/

def CmpOk (x : Cx) (m : Lc) (led : Ld) (op : CmpOp) (a b : V) (r : Bool) : Prop :=
  ∀ s u v, St x m led s → a.rep u → b.rep v → wpAny (Md x.c) x.A (compareOp op u v) (fun q s' => Ext x.c s s' ∧ q = .bool r) nE s

theorem EX.cmp {l r : Expr} {op : CmpOp} {pos : Pos} {a b : V} {q : Bool} (hl : EV x m led l a) (hr : EV x m led r b) (ho : CmpOk x m led op a b q) (hm : behindInMarks op r = false := by rfl) : EV x m led (.Compare l [op] [r] pos) (.bool q) := by
  intro s S
  refine wpAny_Compare1 (wpAny_mono (hl s S) (fun u s₁ h₁ => ?_) fun _ _ e => e) hm
  have S₁ := S.ext h₁.1
  refine wpAny_mono (hr s₁ S₁) (fun v s₂ h₂ => ?_) fun _ _ e => e
  have S₂ := S₁.ext h₂.1
  exact wpAny_mono (ho s₂ u v S₂ h₁.2 h₂.2) (fun r s₃ h₃ => ⟨h₁.1.trans (h₂.1.trans h₃.1), h₃.2⟩) fun _ _ e => e

theorem IT.cmp {l r : Expr} {op : CmpOp} {pos : Pos} {a b : V} {q : Bool} (hl : EV x m led l a) (hr : EV x m led r b) (ho : CmpOk x m led op a b q) (hm : behindInMarks op r = false := by rfl) : IT x m led (.Compare l [op] [r] pos) q := by
  intro s S
  refine wpAny_isTrue_Compare1 (wpAny_mono (hl s S) (fun u s₁ h₁ => ?_) fun _ _ e => e) hm
  have S₁ := S.ext h₁.1
  refine wpAny_mono (hr s₁ S₁) (fun v s₂ h₂ => ?_) fun _ _ e => e
  have S₂ := S₁.ext h₂.1
  refine wpAny_mono (ho s₂ u v S₂ h₁.2 h₂.2) (fun r s₃ h₃ => ?_) fun _ _ e => e
  obtain ⟨E, rfl⟩ := h₃
  exact wpAny_truthy_bool ⟨h₁.1.trans (h₂.1.trans E), rfl⟩

theorem cmp_eq_int {a b : Int} : CmpOk x m led .Eq (.int a) (.int b) (a == b) := by
  rintro s _ _ S ⟨t, rfl⟩ ⟨u, rfl⟩; exact eq_int ⟨.self S, rfl⟩
theorem cmp_ne_int {a b : Int} : CmpOk x m led .NotEq (.int a) (.int b) (a != b) := by
  rintro s _ _ S ⟨t, rfl⟩ ⟨u, rfl⟩; exact ne_int ⟨.self S, rfl⟩
theorem cmp_lt_int {a b : Int} : CmpOk x m led .Lt (.int a) (.int b) (decide (a < b)) := by
  rintro s _ _ S ⟨t, rfl⟩ ⟨u, rfl⟩; exact lt_int ⟨.self S, rfl⟩
theorem cmp_gt_int {a b : Int} : CmpOk x m led .Gt (.int a) (.int b) (decide (b < a)) := by
  rintro s _ _ S ⟨t, rfl⟩ ⟨u, rfl⟩; exact gt_int ⟨.self S, rfl⟩
theorem cmp_le_int {a b : Int} : CmpOk x m led .LtE (.int a) (.int b) (decide (a ≤ b)) := by
  rintro s _ _ S ⟨t, rfl⟩ ⟨u, rfl⟩; exact le_int ⟨.self S, rfl⟩
theorem cmp_ge_int {a b : Int} : CmpOk x m led .GtE (.int a) (.int b) (decide (b ≤ a)) := by
  rintro s _ _ S ⟨t, rfl⟩ ⟨u, rfl⟩; exact ge_int ⟨.self S, rfl⟩
theorem cmp_eq_str {a b : List Nat} : CmpOk x m led .Eq (.str a) (.str b) (a == b) := by
  rintro s _ _ S ⟨t, rfl⟩ ⟨u, rfl⟩; exact P.eq_str ⟨.self S, by simp⟩
theorem cmp_ne_str {a b : List Nat} : CmpOk x m led .NotEq (.str a) (.str b) (a != b) := by
  rintro s _ _ S ⟨t, rfl⟩ ⟨u, rfl⟩; exact P.ne_str ⟨.self S, by simp⟩

theorem IT.and_nil {s : Shared} (S : St x m led s) : wpAny (Md x.c) x.A (allTrue .And [] x.env) (fun r s' => Ext x.c s s' ∧ r = true) nE s := wpAny_allTrue_And_nil ⟨.self S, rfl⟩

/-- «a and b and ..»: the tests one by one; behind the first that is false nothing is asked -/
inductive ITs (x : Cx) (m : Lc) (led : Ld) (op : BoolOp) : List Expr → Bool → Prop
  | nil : ITs x m led op [] (op == .And)
  | last {e r} : IT x m led e r → ITs x m led op [e] r
  | cons {e es b r} : IT x m led e b → ((b = (op == .And)) → ITs x m led op es r) → ITs x m led op (e :: es) (if b = (op == .And) then r else b)

theorem ITs.wp {op : BoolOp} {es : List Expr} {r : Bool} (h : ITs x m led op es r) : ∀ s, St x m led s → wpAny (Md x.c) x.A (allTrue op es x.env) (fun q s' => Ext x.c s s' ∧ q = r) nE s := by
  induction h with
  | nil => intro s S; cases op <;> exact wpAny_pure ⟨.self S, rfl⟩
  | last h1 =>
    intro s S
    cases op with
    | And =>
      refine wpAny_allTrue_And_cons (wpAny_mono (h1 s S) (fun q s₁ h => ?_) fun _ _ e => e)
      obtain ⟨E, rfl⟩ := h
      cases q
      · exact ⟨E, rfl⟩
      · exact wpAny_allTrue_And_nil ⟨E, rfl⟩
    | Or =>
      refine wpAny_allTrue_Or_cons (wpAny_mono (h1 s S) (fun q s₁ h => ?_) fun _ _ e => e)
      obtain ⟨E, rfl⟩ := h
      cases q
      · exact wpAny_allTrue_Or_nil ⟨E, rfl⟩
      · exact ⟨E, rfl⟩
  | @cons e es b r h1 h2 ih =>
    intro s S
    cases op with
    | And =>
      refine wpAny_allTrue_And_cons (wpAny_mono (h1 s S) (fun q s₁ h => ?_) fun _ _ e => e)
      obtain ⟨E, rfl⟩ := h
      cases q
      · exact ⟨E, by simp⟩
      · exact wpAny_mono (ih (by rfl) s₁ (S.ext E)) (fun q s₂ h => ⟨E.trans h.1, by simpa using h.2⟩) fun _ _ e => e
    | Or =>
      refine wpAny_allTrue_Or_cons (wpAny_mono (h1 s S) (fun q s₁ h => ?_) fun _ _ e => e)
      obtain ⟨E, rfl⟩ := h
      cases q
      · exact wpAny_mono (ih (by rfl) s₁ (S.ext E)) (fun q s₂ h => ⟨E.trans h.1, by simpa using h.2⟩) fun _ _ e => e
      · exact ⟨E, by simp⟩

theorem IT.bool {op : BoolOp} {es : List Expr} {r : Bool} {pos : Pos} (h : ITs x m led op es r) : IT x m led (.BoolOp op es pos) r := fun s S => wpAny_isTrue_BoolOp (h.wp s S)
theorem IT.not {e : Expr} {b : Bool} {pos : Pos} (h : IT x m led e b) : IT x m led (.UnaryOp .Not e pos) (!b) := fun s S =>
  wpAny_isTrue_Not (wpAny_mono (h s S) (fun q s₁ h => ⟨h.1, by rw [h.2]⟩) fun _ _ e => e)

def TruthOk (x : Cx) (m : Lc) (led : Ld) (a : V) (r : Bool) : Prop :=
  ∀ s u, St x m led s → a.rep u → wpAny (Md x.c) x.A (truthy u) (fun q s' => Ext x.c s s' ∧ q = r) nE s
theorem IT.value {e : Expr} {a : V} {r : Bool} (h : EV x m led e a) (ht : TruthOk x m led a r) (he : ∀ w, isTrue e x.env w = (do let v ← w; standAt e.pos; holding [v] (truthy v)) := by intro _; rfl) : IT x m led e r := fun s S =>
  wpAny_isTrue_value (wpAny_mono (h s S) (fun v s₁ h₁ => wpAny_mono (ht s₁ v (S.ext h₁.1) h₁.2) (fun q s₂ h₂ => ⟨h₁.1.trans h₂.1, h₂.2⟩) fun _ _ e => e) fun _ _ e => e) (he _)
theorem truth_bool {b : Bool} : TruthOk x m led (.bool b) b := by rintro s _ S rfl; exact wpAny_truthy_bool ⟨.self S, rfl⟩
theorem truth_none : TruthOk x m led .none false := by rintro s _ S rfl; exact fun _ _ _ => ⟨.self S, rfl⟩

theorem EX.ifexp {t a b : Expr} {pos : Pos} {r : Bool} {P : Nat → Value → Heap → Prop} (ht : IT x m led t r) (hP : PMono P)
    (ha : r = true → EX x m led a P) (hb : r = false → EX x m led b P) : EX x m led (.IfExp t a b pos) P := fun s S =>
  wpAny_IfExp (wpAny_mono (ht s S) (fun q s₁ h => by
    obtain ⟨E, rfl⟩ := h
    cases q
    · exact wpAny_mono (hb rfl s₁ (S.ext E)) (fun _ _ h => ⟨E.trans h.1, hP _ _ _ _ E.size h.2⟩) fun _ _ e => e
    · exact wpAny_mono (ha rfl s₁ (S.ext E)) (fun _ _ h => ⟨E.trans h.1, hP _ _ _ _ E.size h.2⟩) fun _ _ e => e) fun _ _ e => e)
theorem EX.ifV {t a b : Expr} {pos : Pos} {r : Bool} {v : V} (ht : IT x m led t r) (ha : r = true → EV x m led a v) (hb : r = false → EV x m led b v) : EV x m led (.IfExp t a b pos) v :=
  .ifexp ht (fun _ _ _ _ _ h => h) ha hb

/-! ## lists of expressions -/

def notStar : Expr → Bool
  | .Starred _ _ => false
  | _ => true
theorem starEach_cons {e : Expr} {es : List Expr} {env : Env} (h : notStar e = true) : starEach (e :: es) env = (false, eval e env) :: starEach es env := by
  cases e <;> first | rfl | cases h

inductive EVs (x : Cx) (m : Lc) (led : Ld) : List Expr → List V → Prop
  | nil : EVs x m led [] []
  | cons {e es v vs} : EV x m led e v → EVs x m led es vs → notStar e = true → EVs x m led (e :: es) (v :: vs)

theorem EVs.wp {es : List Expr} {vs : List V} (h : EVs x m led es vs) (pos : Pos) : ∀ s, St x m led s → wpAny (Md x.c) x.A (spliced (backTo pos (starEach es x.env))) (fun us s' => Ext x.c s s' ∧ F2 V.rep vs us) nE s := by
  induction h with
  | nil => intro s S; exact spliced_nil ⟨.self S, .nil⟩
  | cons h1 h2 hs ih =>
    intro s S
    rw [starEach_cons hs]
    refine spliced_cons (wpAny_mono (h1 s S) (fun v s₁ h₁ => ?_) fun _ _ e => e)
    exact wpAny_mono (ih s₁ (S.ext h₁.1)) (fun us s₂ h₂ => ⟨h₁.1.trans h₂.1, .cons h₁.2 h₂.2⟩) fun _ _ e => e

/-- a new tuple, a new list -/
abbrev isTup (vs : List V) : Nat → Value → Heap → Prop := fun n v h' => ∃ a, v = .ref a ∧ TupAt h' a vs ∧ n ≤ a
abbrev isList (vs : List V) : Nat → Value → Heap → Prop := fun n v h' => ∃ a, v = .ref a ∧ ListAt h' a vs ∧ n ≤ a

theorem isTup_mono {vs : List V} : PMono (isTup vs) := fun _ _ _ _ hn ⟨a, e, t, l⟩ => ⟨a, e, t, Nat.le_trans hn l⟩
theorem isList_mono {vs : List V} : PMono (isList vs) := fun _ _ _ _ hn ⟨a, e, t, l⟩ => ⟨a, e, t, Nat.le_trans hn l⟩
theorem isV_mono {v : V} : PMono (isV v) := fun _ _ _ _ _ h => h

theorem EX.tuple {es : List Expr} {vs : List V} {k pos} (h : EVs x m led es vs) (hl : vs.length ≤ 1000 := by first | (simp; done) | decide) : EX x m led (.Tuple es k pos) (isTup vs) := fun s S =>
  wpAny_Tuple_spliced (wpAny_mono (h.wp pos s S) (fun us s₁ h₁ => ⟨by rw [← h₁.2.length, sizeLine_eq]; omega, h₁.1.push _, _, rfl, ⟨us.toArray, 0, Heap.get?_push_size _ rfl, by simpa using h₁.2⟩, h₁.1.size⟩) fun _ _ e => e)
theorem EX.list {es : List Expr} {vs : List V} {pos} (h : EVs x m led es vs) (hl : vs.length ≤ 1000 := by first | (simp; done) | decide) : EX x m led (.List es pos) (isList vs) := fun s S =>
  wpAny_List_spliced (wpAny_mono (h.wp pos s S) (fun us s₁ h₁ => ⟨by rw [← h₁.2.length, sizeLine_eq]; omega, h₁.1.push _, _, rfl, ⟨us.toArray, 0, Heap.get?_push_size _ rfl, by simpa using h₁.2⟩, h₁.1.size⟩) fun _ _ e => e)

end
end
end Mine
end
section
open PySem
/-! plain functions: what the law's own defs reckon -/
namespace Mine
abbrev Tx := List Nat
def tabSign (tab : List (Tx × Tx)) (number : Int) (place : Nat) : Tx × Tx :=
  tab.getD ((((number.fdiv 4).fdiv (3 ^ place)) + 5 * (place : Int)).fmod tab.length).toNat ([], [])
def signsN (number least : Int) : Nat := (least + number.fmod 4).toNat
def signsFold (tab : List (Tx × Tx)) (number : Int) : Nat → Tx × Tx
  | 0 => ([], [])
  | k + 1 => ((signsFold tab number k).1 ++ (tabSign tab number k).1, (signsFold tab number k).2 ++ (tabSign tab number k).2)
def signs (tab : List (Tx × Tx)) (number least : Int) : Tx × Tx := signsFold tab number (signsN number least)

theorem fmod4 (n : Int) : 0 ≤ n.fmod 4 ∧ n.fmod 4 < 4 := ⟨Int.fmod_nonneg_of_pos n (by decide), Int.fmod_lt_of_pos n (by decide)⟩
theorem fmod_range (n : Int) {k : Int} (h : 0 < k) : 0 ≤ n.fmod k ∧ n.fmod k < k := ⟨Int.fmod_nonneg_of_pos n h, Int.fmod_lt_of_pos n h⟩

def tabOk (tab : List (Tx × Tx)) : Prop := 0 < tab.length ∧ tab.length ≤ 20 ∧ ∀ p ∈ tab, p.1.length ≤ 12 ∧ p.2.length ≤ 12

theorem tabSign_get {tab : List (Tx × Tx)} (h : tabOk tab) (number : Int) (place : Nat) :
    tab[((((number.fdiv 4).fdiv (3 ^ place)) + 5 * (place : Int)).fmod tab.length).toNat]? = some (tabSign tab number place) := by
  have hr := fmod_range (((number.fdiv 4).fdiv (3 ^ place)) + 5 * (place : Int)) (k := (tab.length : Int)) (by have := h.1; omega)
  unfold tabSign
  rw [List.getD_eq_getElem?_getD, List.getElem?_eq_getElem (by omega)]
  rfl
theorem tabSign_mem {tab : List (Tx × Tx)} (h : tabOk tab) (number : Int) (place : Nat) : tabSign tab number place ∈ tab := List.mem_of_getElem? (tabSign_get h number place)
theorem signsFold_len {tab : List (Tx × Tx)} (h : tabOk tab) (number : Int) : ∀ k, (signsFold tab number k).1.length ≤ 12 * k ∧ (signsFold tab number k).2.length ≤ 12 * k
  | 0 => by simp [signsFold]
  | k + 1 => by
    have ih := signsFold_len h number k
    have hs := h.2.2 _ (tabSign_mem h number k)
    simp only [signsFold, List.length_append]
    omega
def quotedT : List (Tx × Tx) := [(cp "a", cp "a"), (cp "\"", cp "\\\""), (cp "\\", cp "\\\\"), (cp ";", cp ";"), (cp "\"", cp "%22"), (cp " ", cp " "), (cp "é", cp "é"), (cp "=", cp "="), (cp ",", cp ","), (cp "%z", cp "%z"), (cp "'", cp "'"), (cp "x", cp "\\x")]
def percT0 : List (Tx × Tx) := [(cp "A", cp "A"), (cp "é", cp "%C3%A9"), (cp "€", cp "%e2%82%AC"), (cp " ", cp "%20"), (cp "%", cp "%25"), (cp "\uFFFD", cp "%FF"), (cp "%zz", cp "%zz"), (cp "+", cp "+")]
def percT1 : List (Tx × Tx) := [(cp "A", cp "%41"), (cp "é", cp "%E9"), (cp "ÿ", cp "%ff"), (cp " ", cp "%20"), (cp "Ã©", cp "%C3%A9"), (cp ";", cp "%3B"), (cp "%", cp "%"), (cp "-", cp "-")]
def percT2 : List (Tx × Tx) := [(cp "A", cp "%41"), (cp "\uFFFD", cp "%E9"), (cp "z", cp "z"), (cp " ", cp "%20"), (cp "\"", cp "%22"), (cp ";", cp "%3b"), (cp "%G", cp "%G"), (cp "-", cp "-")]
theorem quotedT_ok : tabOk quotedT := by unfold tabOk; decide +kernel
theorem percT0_ok : tabOk percT0 := by unfold tabOk; decide +kernel
theorem percT1_ok : tabOk percT1 := by unfold tabOk; decide +kernel
theorem percT2_ok : tabOk percT2 := by unfold tabOk; decide +kernel
def charsetsT : List (Tx × Int) := [(cp "UTF-8", 0), (cp "utf-8", 0), (cp "ISO-8859-1", 1), (cp "us-ascii", 2), (cp "ASCII", 2)]
def noneT : List Tx := [cp "bare", cp "na me=1", cp "empty=", cp "=1", cp "\"q\"=2", cp "", cp "x y"]
def tokensT : List Tx := [cp "1", cp "a.b", cp "%41", cp "it's", cp "^_~!#", cp "x*y|+-$&`"]
def namesT : List Tx := [cp "a", cp "File-Name", cp "b"]
end Mine
end
section
open PySem
/-! plain functions: what _law_part and its users reckon -/
namespace Mine
def un (known : Option Int) : Bool := known == none || known == some 3
def percT (k : Int) : List (Tx × Tx) := if k = 0 then percT0 else if k = 1 then percT1 else percT2
def langsT : List Tx := [cp "''", cp "'en'", cp "'x-y'"]
def lawPart (number : Int) (known : Option Int) : Tx × Tx × Option Int :=
  let kind := number.fmod 5
  let n := number.fdiv 5
  if kind = 0 then (tokensT.getD (n.fmod 6).toNat [], cp "=" ++ tokensT.getD (n.fmod 6).toNat [], known)
  else if kind = 1 then ((signs quotedT n 0).1, cp "=\"" ++ (signs quotedT n 0).2 ++ cp "\"", known)
  else if kind = 3 then
    (if un known then (signs (percT 0) n 1).2 else (signs (percT (known.getD 0)) n 1).1, cp "*=" ++ (signs (percT (if un known then 0 else known.getD 0)) n 1).2, known)
  else if kind = 4 then ((signs (percT 0) n 1).2, cp "*=KOI8-R''" ++ (signs (percT 0) n 1).2, some 3)
  else
    let c := charsetsT.getD (n.fmod 5).toNat ([], 0)
    ((signs (percT c.2) (n.fdiv 15) 1).1, cp "*=" ++ c.1 ++ langsT.getD ((n.fdiv 5).fmod 3).toNat [] ++ (signs (percT c.2) (n.fdiv 15) 1).2, some c.2)

/-- what known may be -/
def knownOk (known : Option Int) : Prop := known = none ∨ known = some 0 ∨ known = some 1 ∨ known = some 2 ∨ known = some 3

theorem signs_len {tab : List (Tx × Tx)} (h : tabOk tab) (number least : Int) (h0 : 0 ≤ least) (h1 : least ≤ 1) : (signs tab number least).1.length ≤ 48 ∧ (signs tab number least).2.length ≤ 48 := by
  have hn : signsN number least ≤ 4 := by have := fmod4 number; unfold signsN; omega
  have := signsFold_len h number (signsN number least)
  unfold signs
  omega
theorem percT_ok (k : Int) : tabOk (percT k) := by unfold percT; split; · exact percT0_ok
                                                   · split; · exact percT1_ok
                                                     · exact percT2_ok
theorem getD_get {α : Type} (l : List α) (d : α) (i : Nat) (h : i < l.length) : l[i]? = some (l.getD i d) := by
  rw [List.getD_eq_getElem?_getD, List.getElem?_eq_getElem h]; rfl
theorem getD_mem {α : Type} (l : List α) (d : α) (i : Nat) (h : i < l.length) : l.getD i d ∈ l := List.mem_of_getElem? (getD_get l d i h)
theorem tokensT_len : ∀ t ∈ tokensT, t.length ≤ 12 := by decide +kernel
theorem langsT_len : ∀ t ∈ langsT, t.length ≤ 12 := by decide +kernel
theorem charsetsT_len : ∀ t ∈ charsetsT, t.1.length ≤ 12 ∧ (t.2 = 0 ∨ t.2 = 1 ∨ t.2 = 2) := by decide +kernel
end Mine
end
section
open PySem PySem.W PySem.Calls PyProof.Rows
set_option Elab.async false
set_option maxRecDepth 100000
set_option linter.all false
namespace Mine
noncomputable section

/-! ## statements -/
section
variable {x : Cx} {m : Lc} {led : Ld} {Q : Flow → Shared → Prop}

theorem Ns.notTup {h : Heap} {a : Addr} {mm : Str → Option Value} (N : h.Ns a mm) : ∀ vs n, h.get? a ≠ some { cls := .type "tuple", data := .seq vs n } := by
  intro vs n e
  obtain ⟨o, es, ep, ho, hd, _⟩ := N
  rw [e] at ho; cases ho; cases hd

theorem LocRep.set {ns : List Str} {m : Lc} {mm : Str → Option Value} {i : Nat} {n : Str} {v : V} {v' : Value} (hnd : ns.Nodup) (h : LocRep ns m mm) (hi : ns[i]? = some n) (r : v.rep v') :
    LocRep ns (m.set i (some v)) (fun y => if y = n then some v' else mm y) := by
  intro j k u hj hu
  by_cases hij : j = i
  · subst hij
    rw [hi] at hj; cases hj
    rw [List.getElem?_set_self'] at hu
    cases hm : m[j]? with
    | none => rw [hm] at hu; cases hu
    | some o => rw [hm] at hu; cases hu; exact ⟨v', by simp, r⟩
  · rw [List.getElem?_set_ne (Ne.symm hij)] at hu
    obtain ⟨w, e, rw'⟩ := h j k u hj hu
    refine ⟨w, ?_, rw'⟩
    have hne : k ≠ n := by
      intro q
      subst q
      have h1 := (List.getElem?_eq_some_iff.mp hj)
      have h2 := (List.getElem?_eq_some_iff.mp hi)
      obtain ⟨l1, e1⟩ := h1
      obtain ⟨l2, e2⟩ := h2
      have hp := List.pairwise_iff_getElem.mp hnd
      rcases Nat.lt_or_gt_of_ne hij with hlt | hlt
      · exact hp _ _ l1 l2 hlt (e1.trans e2.symm)
      · exact hp _ _ l2 l1 hlt (e2.trans e1.symm)
    simp [hne, e]

/-- a name is stored -/
theorem store_wp {s : Shared} {i : Nat} {n : Str} {v : V} {v' : Value} {R : Unit → Shared → Prop} (S : St x m led s) (hi : x.ns[i]? = some n) (r : v.rep v')
    (h : ∀ s', St x (m.set i (some v)) led s' → R () s') : wpAny (Md x.c) x.A (storeName x.env n v') R nE s := by
  obtain ⟨mm, N, L⟩ := S.loc
  refine wpAny_storeName_local (x.hns i n hi) N (fun h' hn hs => h _ ⟨?_, ?_, S.bare, ⟨_, hn, L.set x.hnd hi r⟩, by rw [show h'.objs.size = _ from hs.1]; exact S.size, ?_, S.nodup, S.os, Nat.lt_succ_of_lt S.tk⟩) (by rw [x.hk]; rfl)
  · intro b o h1 h2 e
    exact (hs.2 b (x.new_ne x.hL e)).trans (S.keep b o h1 h2 e)
  · have k60 := hs.2 60 x.L60.symm
    have k48 := hs.2 48 x.L48.symm
    obtain ⟨⟨p1, a1, b1⟩, ⟨p2, a2, b2⟩⟩ := S.tabs
    have kc : ∀ c' q, CodeC s.heap c' q → CodeC h' c' q := by
      intro c' q hc
      refine hc.get (hs.2 c' fun q => ?_)
      obtain ⟨o, vs, t, g, _, d, _⟩ := hc
      obtain ⟨o2, es, ep, ho, hd, _⟩ := N
      rw [q] at g; rw [ho] at g; cases g; rw [hd] at d; cases d
    exact ⟨⟨p1, k60.trans a1, b1.imp id fun ⟨c', e, h1, h2, r⟩ => ⟨c', e, h1, h2, kc _ _ r⟩⟩, ⟨p2, k48.trans a2, b2.imp id fun ⟨c', e, h1, h2, r⟩ => ⟨c', e, h1, h2, kc _ _ r⟩⟩⟩
  · intro p hp
    obtain ⟨h1, h2, h3⟩ := S.hled p hp
    exact ⟨h1, h2, h3.but h2 hs (Ns.notTup N)⟩

theorem SX.nil (h : ∀ s, St x m led s → Q .next s) : SX x [] m led Q := fun s S => wpAny_execs_nil (h s S)

theorem SX.assign (i : Nat) {n : Str} {v : V} {e : Expr} {p pos : Pos} {rest : List Stmt} (hi : x.ns[i]? = some n) (he : EV x m led e v) (k : SX x rest (m.set i (some v)) led Q)
    (hs : swapsWith e (some (.Name n p)) pos.line x.env = pure false := by rfl) : SX x (.Assign [.Name n p] e pos :: rest) m led Q := fun s S =>
  wpAny_execs_cons (wpAny_Assign_Name (wpAny_mono (he s S) (fun u s₁ h₁ => store_wp (S.ext h₁.1) hi h₁.2 fun s' S' => k s' S') fun _ _ e => e) hs)

def flowVal : Flow → Value
  | .ret v => v
  | _ => .none
/-- what a def's body is to end in -/
def FQ (x : Cx) (R : Nat → Value → Heap → Prop) : Flow → Shared → Prop := fun fl s' => (∃ m led, St x m led s') ∧ R x.B.objs.size (flowVal fl) s'.heap

theorem SX.retQ {e : Expr} {pos : Pos} {rest : List Stmt} {P R : Nat → Value → Heap → Prop} (he : EX x m led e P) (h : ∀ s' v n, St x m led s' → x.B.objs.size ≤ n → P n v s'.heap → R x.B.objs.size v s'.heap) :
    SX x (.Return (some e) pos :: rest) m led (FQ x R) := fun s S =>
  wpAny_execs_cons (wpAny_Return_some (wpAny_mono (he s S) (fun v s' h₁ => ⟨⟨m, led, S.ext h₁.1⟩, h s' v _ (S.ext h₁.1) S.size h₁.2⟩) fun _ _ e => e))
theorem SX.ret {e : Expr} {pos : Pos} {rest : List Stmt} {R : Nat → Value → Heap → Prop} (he : EX x m led e R) (hm : PMono R) :
    SX x (.Return (some e) pos :: rest) m led (FQ x R) := SX.retQ he fun _ _ _ _ hn h => hm _ _ _ _ hn h
theorem SX.retV {e : Expr} {pos : Pos} {rest : List Stmt} {v : V} (he : EV x m led e v) : SX x (.Return (some e) pos :: rest) m led (FQ x (isV v)) := SX.ret he isV_mono

theorem SX.if_ {t : Expr} {a b : List Stmt} {pos : Pos} {rest : List Stmt} {r : Bool} (ht : IT x m led t r)
    (ha : r = true → SX x a m led (fun f s' => match f with | .next => wpAny (Md x.c) x.A (execs rest x.env) Q nE s' | f => Q f s'))
    (hb : r = false → SX x b m led (fun f s' => match f with | .next => wpAny (Md x.c) x.A (execs rest x.env) Q nE s' | f => Q f s')) : SX x (.If t a b pos :: rest) m led Q := fun s S =>
  wpAny_execs_cons (wpAny_If (wpAny_mono (ht s S) (fun q s₁ h => by
    obtain ⟨E, rfl⟩ := h
    cases q
    · exact hb rfl s₁ (S.ext E)
    · exact ha rfl s₁ (S.ext E)) fun _ _ e => e))

/-- a branch that falls through: the rest is walked behind it -/
theorem SX.thru {a : List Stmt} {rest : List Stmt} {m' : Lc} {led' : Ld} (h : SX x rest m' led' Q) : ∀ s, St x m' led' s → (fun f s' => match f with | Flow.next => wpAny (Md x.c) x.A (execs rest x.env) Q nE s' | f => Q f s') .next s := fun s S => h s S

theorem SX.pass {pos rest} (k : SX x rest m led Q) : SX x (.Pass pos :: rest) m led Q := fun s S => wpAny_execs_cons (wpAny_Pass (k s S))
theorem SX.cont {pos rest} (h : ∀ s, St x m led s → Q .cont s) : SX x (.Continue pos :: rest) m led Q := fun s S => wpAny_execs_cons (wpAny_Continue (h s S))
theorem SX.brk {pos rest} (h : ∀ s, St x m led s → Q .brk s) : SX x (.Break pos :: rest) m led Q := fun s S => wpAny_execs_cons (wpAny_Break (h s S))
end

/-! ## calls -/

def Ct (c : Wd) (f : Addr) (lvl : Nat) (vs : List V) (Pre : Heap → Prop) (R : Nat → Value → Heap → Prop) : Prop :=
  ∀ (A : Around) (s : Shared) (us : List Value), A.handled = none → A.depth + 10 * lvl + 10 < recursionLimit → A.units + 100 * lvl + 100 < cLine → Ok c s → 0 < s.toks → F2 V.rep vs us → Pre s.heap →
    wpAny (Md c) A (call (.ref f) us) (fun v s' => Ext c s s' ∧ R s.heap.objs.size v s'.heap) nE s

section
variable {x : Cx} {m : Lc} {led : Ld} {Q : Flow → Shared → Prop}

theorem evalArgs_EVs {es : List Expr} {vs : List V} (h : EVs x m led es vs) (f : Value) (pos : Pos) {s : Shared} (S : St x m led s) :
    wpAny (Md x.c) x.A (evalArgs f true (backTo pos (starEach es x.env)) []) (fun a s' => Ext x.c s s' ∧ ∃ us, a = ⟨us, []⟩ ∧ F2 V.rep vs us) nE s := by
  have hw := h.wp pos s S
  cases h with
  | nil => exact PySem.evalArgs_none ⟨.self S, [], rfl, .nil⟩
  | cons h1 h2 hs =>
    rw [starEach_cons hs] at hw ⊢
    exact evalArgs_plain (wpAny_mono hw (fun us s' h => ⟨h.1, us, rfl, h.2⟩) fun _ _ e => e)

theorem starEach_plain : ∀ {es : List Expr} {vs : List V}, EVs x m led es vs → (backTo pos (starEach es x.env)).any (·.1) = false
  | _, _, .nil => rfl
  | _, _, .cons h1 h2 hs => by
    rw [starEach_cons hs]
    exact (starEach_plain h2)

theorem EX.call {f : Addr} {n : Str} {p pos : Pos} {es : List Expr} {vs : List V} {lvl : Nat} {Pre : Heap → Prop} {R : Nat → Value → Heap → Prop} 
    (hC : Ct x.c f lvl vs Pre R) (hl : lvl ≤ x.lvl) (hf : EV x m led (.Name n p) (.ref f)) (hK : ∃ o fd, x.c.K.lookup f = some o ∧ o.data = .func fd) (ha : EVs x m led es vs)
    (hpre : ∀ s, St x m led s → Pre s.heap) (hm : PMono R) : EX x m led (.Call (.Name n p) es [] pos) R := by
  intro s S
  obtain ⟨o, fd, hk, hd⟩ := hK
  refine wpAny_Call_ofName (wpAny_mono (hf s S) (fun u s₁ h₁ => ?_) fun _ _ e => e)
  obtain ⟨E₁, r₁⟩ := h₁
  cases r₁
  have S₁ := S.ext E₁
  refine callWith_function (o := o) (fd := fd) (wpAny_mono (evalArgs_EVs ha _ pos S₁) (fun a s₂ h₂ => ?_) fun _ _ e => e)
  obtain ⟨E₂, us, rfl, hr⟩ := h₂
  have S₂ := S₁.ext E₂
  refine ⟨⟨S₂.base.K _ _ hk, hd⟩, ?_⟩
  have hdep := x.hdep
  have hun := x.hun
  refine wpAny_mono (hC x.A s₂ us x.hh (by omega) (by omega) S₂.ok S₂.tk hr (hpre s₂ S₂)) (fun v s₃ h₃ => ⟨E₁.trans (E₂.trans h₃.1), hm _ _ _ _ (Nat.le_trans E₁.size E₂.size) h₃.2⟩) fun _ _ e => e

end

theorem mem_zip_lookup {β : Type} {n : Str} {u : β} : ∀ {l : List (Str × β)}, (n, u) ∈ l → (l.map (·.1)).Nodup → l.lookup n = some u
  | (k, w) :: r, h, hn => by
    rw [List.lookup_cons]
    simp only [List.map_cons, List.nodup_cons] at hn
    rcases List.mem_cons.mp h with e | h
    · cases e; simp
    · have hne : n ≠ k := fun q => hn.1 (q ▸ List.mem_map_of_mem (f := (·.1)) h)
      have : (n == k) = false := by simpa using hne
      rw [this]
      exact mem_zip_lookup h hn.2

theorem locRep_start {ns : List Str} {vs : List V} {us : List Value} (hnd : ns.Nodup) (hr : F2 V.rep vs us) (hle : vs.length ≤ ns.length) :
    LocRep ns (vs.map some ++ List.replicate (ns.length - vs.length) none) (fun y => ((ns.take vs.length).zip us).reverse.lookup y) := by
  intro i n v hi hv
  have hlen := hr.length
  by_cases hlt : i < vs.length
  · rw [List.getElem?_append_left (by simpa using hlt)] at hv
    have hv' : vs[i]? = some v := by
      rw [List.getElem?_map] at hv
      cases hq : vs[i]? with
      | none => rw [hq] at hv; cases hv
      | some q => rw [hq] at hv; cases hv; rfl
    obtain ⟨u, hu, ru⟩ := hr.get hv'
    refine ⟨u, mem_zip_lookup ?_ ?_, ru⟩
    · rw [List.mem_reverse]
      refine List.mem_of_getElem? (i := i) ?_
      rw [List.getElem?_zip_eq_some]
      exact ⟨by rw [List.getElem?_take_of_lt hlt]; exact hi, hu⟩
    · rw [List.map_reverse]
      refine List.pairwise_reverse.mpr (List.Pairwise.imp (fun h => Ne.symm h) ?_)
      show List.Nodup _
      have : (List.map (·.1) ((ns.take vs.length).zip us)) = ns.take vs.length := by
        rw [List.map_fst_zip]; rw [List.length_take]; omega
      rw [this]
      exact hnd.sublist (List.take_sublist _ _)
  · rw [List.getElem?_append_right (by simpa using Nat.le_of_not_lt hlt)] at hv
    rw [List.getElem?_replicate] at hv
    split at hv <;> cases hv

theorem Ct.of {c : Wd} {f cd : Addr} {lvl : Nat} {vs : List V} {Pre : Heap → Prop} {R : Nat → Value → Heap → Prop} {o oc : Obj} {name : Str} {params : Arguments} {body : List Stmt} {scope : Scope} {pm doc : Value} {fs : Array Value} {t : Tok}
    (ns : List Str) (hk : c.K.lookup f = some o) (hd : o.data = .func (docDef name params body scope pm (.ref cd) doc))
    (hkc : c.K.lookup cd = some oc) (hdc : oc.data = .fields fs) (hq : fs[1]? = some (.str name t))
    (hns : (ns.all fun n => scope.names.lookup n == some .local) = true) (hnd : ns.Nodup) (hle : vs.length ≤ ns.length)
    (hbind : ∀ us : List Value, us.length = vs.length → bindArgs (docDef name params body scope pm (.ref cd) doc) ⟨us, []⟩ = pure ((ns.take vs.length).zip us))
    (hbody : ∀ x : Cx, x.c = c → x.lvl + 1 = lvl → x.ns = ns → (∃ L, x.env = envOf name scope L f (.ref cd)) → Pre x.B →
      SX x body (vs.map some ++ List.replicate (ns.length - vs.length) none) [] (FQ x R))
    (hco : scope.isCoroutine = false := by rfl) (hgen : scope.isGenerator = false := by rfl) (hkf : scope.kind = .function := by rfl)
    (hcell : ∀ x ∈ scope.names, x.2 ≠ .cell := by decide) (hlv : 0 < lvl := by decide) : Ct c f lvl vs Pre R := by
  intro A s us hh hdep hun hok htk hr hpre
  refine up ?_
  have hlen := hr.length
  have hloc : ∀ n ∈ ns, scope.names.lookup n = some .local := fun n hn => by simpa using List.all_eq_true.mp hns n hn
  refine wpAny_call (call_plain_ret (by omega) (hok.base.K _ _ hk) hd hok.base.lim ⟨cd, oc, fs, t, rfl, hok.base.K _ _ hkc, hdc, hq⟩ (hbind us hlen.symm) ?_ (fun h₁ F => ?_) hco hgen hkf hcell)
  · intro q hq'
    exact hloc _ (List.mem_of_mem_take (List.of_mem_zip hq').1)
  · let x : Cx := { c := c, A := A.deeper (envOf name scope s.heap.objs.size f (.ref cd)), env := envOf name scope s.heap.objs.size f (.ref cd), B := s.heap, ns := ns, os := s.os, lvl := lvl - 1, hh := hh, hdep := (by show A.depth + 1 + 10 * (lvl - 1) + 10 < recursionLimit; omega), hun := (by show A.units + 3 + 100 * (lvl - 1) + 100 < cLine; omega), hk := hkf, hg := rfl, hb := rfl, hns := fun i n e => hloc n (List.mem_of_getElem? e), hnd := hnd, hB := hok.base, tB := hok.tabs, hL := Nat.le_refl _ }
    have S : St x (vs.map some ++ List.replicate (ns.length - vs.length) none) [] { s with heap := h₁, toks := s.toks + ((ns.take vs.length).zip us).length } := by
      refine ⟨.of F.keep, ?_, hok.bare, ⟨_, F.ns, locRep_start hnd hr hle⟩, ?_, (fun _ h => nomatch h), .nil, rfl, Nat.lt_of_lt_of_le htk (Nat.le_add_right _ _)⟩
      · obtain ⟨p1, e1⟩ := hok.tabs.get60
        obtain ⟨p2, e2⟩ := hok.tabs.get48
        exact hok.tabs.keep (.of F.keep) ((F.keep _ _ e1).trans e1.symm) ((F.keep _ _ e2).trans e2.symm)
      · exact Nat.le_of_lt F.ns.lt
    refine wpAny_mono (hbody x rfl (by show lvl - 1 + 1 = lvl; omega) rfl ⟨_, rfl⟩ hpre _ S) (fun fl s' h => ?_) fun _ _ e => e
    obtain ⟨⟨m', led', S'⟩, hR⟩ := h
    have g : ExtW c s s' ∧ R s.heap.objs.size (flowVal fl) s'.heap := ⟨⟨S'.ok, S'.keep, S'.size, S'.os⟩, hR⟩
    cases fl <;> exact g
end
end Mine
end
section
open PySem PySem.W PySem.Calls PyProof.Rows
open PySem.Builtin.Str (strSliceIndices)
set_option Elab.async false
set_option maxRecDepth 100000
set_option linter.all false
namespace Mine
noncomputable section

/-! ## items and slices -/

theorem subscripted_false (slice : Expr) (o i : Value) : ∃ l, subscripted slice false o i = operate l (getItem o i) := by
  unfold subscripted
  split
  · exact ⟨_, rfl⟩
  · rename_i h; cases h
  · exact ⟨_, rfl⟩

section
variable {x : Cx} {m : Lc} {led : Ld}

def SubOn (x : Cx) (o i : Value) (Q : Value → Shared → Prop) (s : Shared) : Prop :=
  ∃ T id, typeLookup (.type T) "__getitem__" = pure (some (.builtin id)) ∧ s.TypeIs o T ∧ wpAny (Md x.c) x.A (getItem o i) Q nE s

theorem wp_sub {value slice : Expr} {pos : Pos} {Q : Value → Shared → Prop} {s : Shared}
    (h : wpAny (Md x.c) x.A (eval value x.env) (fun o s₁ => wpAny (Md x.c) x.A (eval slice x.env) (fun i s₂ => SubOn x o i Q s₂) nE s₁) nE s) :
    wpAny (Md x.c) x.A (eval (.Subscript value slice pos) x.env) Q nE s := by
  rw [eval_Subscript]
  refine wpAny_bind (wpAny_mono h (fun o s₁ h₁ => wpAny_bind (wpAny_holding (wpAny_mono h₁ (fun i s₂ h₂ => wpAny_bind (wpAny_standAt ?_)) fun _ _ x => x)))
    fun _ _ x => x)
  obtain ⟨T, id, hl, hT, hg⟩ := h₂
  refine wpAny_bind ?_
  rw [getitemInPython_of_ne hT.not_modules]
  refine wpAny_bind (wpAny_specialOf hT hl ?_)
  obtain ⟨l, e⟩ := subscripted_false slice o i
  have fin : wpAny (Md x.c) x.A (operate l (getItem o i)) (fun r s₃ => wpAny (Md x.c) x.A (letTemporaryGo value o r >>= fun _ => pure r) Q nE s₃) nE s₂ :=
    wpAny_operating (wpAny_mono hg (fun r s₃ h₃ => wpAny_bind (wpAny_letTemporaryGo (wpAny_pure h₃))) fun _ _ x => x)
  refine wpAny_pure (wpAny_bind ?_)
  rw [e]
  exact fin

/-- what stands stays -/
def PKeep (P : Nat → Value → Heap → Prop) : Prop := ∀ n v h h', P n v h → Tabs h → Keep h h' → P n v h'
theorem isV_keep {v : V} : PKeep (isV v) := fun _ _ _ _ h _ _ => h
theorem isTup_keep {vs : List V} : PKeep (isTup vs) := fun _ _ _ _ ⟨a, e, t, l⟩ T k => ⟨a, e, t.keep T k, l⟩
theorem isList_keep {vs : List V} : PKeep (isList vs) := fun _ _ _ _ ⟨a, e, t, l⟩ T k => ⟨a, e, t.keep T k, l⟩

theorem EX.sub {value slice : Expr} {pos : Pos} {Po R : Nat → Value → Heap → Prop} {b : V} (ho : EX x m led value Po) (hk : PKeep Po) (hi : EV x m led slice b)
    (hg : ∀ n s u v, St x m led s → Po n u s.heap → b.rep v → n ≤ s.heap.objs.size → SubOn x u v (fun w s' => Ext x.c s s' ∧ R n w s'.heap) s) : EX x m led (.Subscript value slice pos) R := fun s S =>
  wp_sub (wpAny_mono (ho s S) (fun u s₁ h₁ => wpAny_mono (hi s₁ (S.ext h₁.1)) (fun v s₂ h₂ => by
    have S₂ := (S.ext h₁.1).ext h₂.1
    obtain ⟨T, id, a1, a2, a3⟩ := hg _ s₂ u v S₂ (hk _ _ _ _ h₁.2 h₁.1.ok.tabs h₂.1.keep) h₂.2 (Nat.le_trans h₁.1.size h₂.1.size)
    exact ⟨T, id, a1, a2, wpAny_mono a3 (fun w s₃ h₃ => ⟨h₁.1.trans (h₂.1.trans h₃.1), h₃.2⟩) fun _ _ e => e⟩) fun _ _ e => e) fun _ _ e => e)

theorem typeIs_strV (s : Shared) (y : Str) (t : Tok) : s.TypeIs (.str y t) "str" := typeIs_str s y t

/-- a text's sign at a place -/
theorem EX.strItem {value slice : Expr} {pos : Pos} {l : List Nat} {k : Int} {c : Nat} (ho : EV x m led value (.str l)) (hi : EV x m led slice (.int k)) (h0 : 0 ≤ k) (hlt : k < 2 ^ 63) (hc : l[k.toNat]? = some c) :
    EV x m led (.Subscript value slice pos) (.str [c]) := by
  refine .sub ho isV_keep hi ?_
  rintro n s _ _ S ⟨t, rfl⟩ ⟨u, rfl⟩ _
  refine ⟨"str", _, F.slot_str_getitem.lookup, typeIs_str _ _ _, P.getItem_str (by simp; omega) ?_ ⟨.selfT S _, _, rfl⟩⟩
  have hl : k.toNat < l.length := (List.getElem?_eq_some_iff.mp hc).1
  have : seqIndex? k (mkS l).length = some k.toNat := by
    unfold seqIndex?
    rw [mkS_length]
    have h1 : ¬ k < 0 := by omega
    have h2 : k < (l.length : Int) := by omega
    simp [h1, h0, h2]
  rw [this]
  simpa [mkS] using hc
end

def pyCl (n : Nat) (i : Int) : Nat := (max 0 (min (if i < 0 then i + n else i) n)).toNat
def pySl {α : Type} (l : List α) (lo hi : Option Int) : List α :=
  (l.take (match hi with | none => l.length | some i => pyCl l.length i)).drop (match lo with | none => 0 | some i => pyCl l.length i)

theorem range_picks {α : Type} (l : List α) (a b : Int) (ha : 0 ≤ a) (hb : b ≤ l.length) :
    (sliceRange a b 1).filterMap (l[·]?) = (l.take b.toNat).drop a.toNat := by
  unfold sliceRange
  by_cases h : a < b
  · have e : (if (1 : Int) > 0 then (if a < b then (b - a + 1 - 1) / 1 else 0) else (if a > b then (a - b - 1 - 1) / (-1) else 0)) = b - a := by
      rw [if_pos (by decide), if_pos h]; omega
    rw [e]
    have e2 : (List.range (b - a).toNat).map (fun k : Nat => (a + 1 * (k : Int)).toNat) = (List.range (b - a).toNat).map (fun k => a.toNat + k) :=
      List.map_congr_left fun k _ => by omega
    rw [e2, StrLaws.picks l _ _ (by omega), List.drop_take]
    congr 1
    omega
  · have e : (if (1 : Int) > 0 then (if a < b then (b - a + 1 - 1) / 1 else 0) else (if a > b then (a - b - 1 - 1) / (-1) else 0)) = 0 := by
      rw [if_pos (by decide), if_neg h]
    rw [e]
    simp only [Int.toNat_zero, List.range_zero, List.map_nil, List.filterMap_nil]
    symm
    apply List.drop_eq_nil_of_le
    rw [List.length_take]
    omega

theorem range_len {α : Type} (l : List α) (a b : Int) (ha : 0 ≤ a) (hb : b ≤ l.length) : (sliceRange a b 1).length = ((l.take b.toNat).drop a.toNat).length := by
  unfold sliceRange
  rw [List.length_map, List.length_range, List.length_drop, List.length_take]
  rw [if_pos (by decide)]
  split <;> omega

theorem str_len (l : List Nat) (lo hi : Option Int) : (strSliceIndices lo hi 1 l.length).length = (pySl l lo hi).length := by
  unfold strSliceIndices pySl
  simp only [show ((1 : Int) > 0) = True from by simp, if_true]
  rw [range_len l]
  · congr 2
    · cases lo <;> simp [pyCl]
    · congr 1
      cases hi <;> simp [pyCl]
  · cases lo <;> simp <;> omega
  · cases hi <;> simp <;> omega
theorem pySl_sub {α : Type} (l : List α) (lo hi : Option Int) : (pySl l lo hi).Sublist l := (List.drop_sublist _ _).trans (List.take_sublist _ _)

theorem str_picks (l : List Nat) (lo hi : Option Int) : (strSliceIndices lo hi 1 l.length).filterMap (l[·]?) = pySl l lo hi := by
  unfold strSliceIndices pySl
  simp only [show ((1 : Int) > 0) = True from by simp, if_true]
  rw [range_picks]
  · congr 1
    · cases lo <;> simp [pyCl]
    · congr 1
      cases hi <;> simp [pyCl]
  · cases lo <;> simp <;> omega
  · cases hi <;> simp <;> omega

theorem list_picks (items : Array Value) (lo hi : Option Int) : (slicePick items lo hi none).toList = pySl items.toList lo hi := by
  unfold slicePick pySl sliceBounds
  simp only [Option.getD_none, show ((1 : Int) > 0) = True from by simp, if_true]
  have e : (fun i : Nat => items[i]?) = fun i : Nat => items.toList[i]? := by funext i; simp
  rw [e, range_picks items.toList]
  · congr 1
    · cases lo <;> simp [pyCl]
    · congr 1
      cases hi <;> simp [pyCl]
  · cases lo <;> simp <;> omega
  · cases hi <;> simp <;> omega

section
variable {x : Cx} {m : Lc} {led : Ld}

/-- a slice's end: left out, or an int -/
inductive Part (x : Cx) (m : Lc) (led : Ld) : Option Expr → Option Int → Prop
  | no : Part x m led none none
  | at {e i} : EV x m led e (.int i) → Part x m led (some e) (some i)

theorem Part.wp {e : Option Expr} {i : Option Int} (h : Part x m led e i) {s : Shared} (S : St x m led s) :
    wpAny (Md x.c) x.A (evalPart e x.env) (fun v s' => Ext x.c s s' ∧ ∃ p : Option (Int × Tok), v = partValue p ∧ p.map (·.1) = i) nE s := by
  cases h with
  | no => exact wpAny_evalPart_none ⟨.self S, none, rfl, rfl⟩
  | «at» h => exact wpAny_evalPart_some (wpAny_mono (h s S) (fun v s' ⟨E, t, e⟩ => ⟨E, some (_, t), e, rfl⟩) fun _ _ e => e)

theorem eval_slice {lo hi : Option Expr} {i j : Option Int} {p : Pos} (hl : Part x m led lo i) (hh : Part x m led hi j) {s : Shared} (S : St x m led s) :
    wpAny (Md x.c) x.A (eval (.Slice lo hi none p) x.env) (fun v s' => Ext x.c s s' ∧ ∃ a l u, v = .ref a ∧ s'.heap.IsSlice a l u none ∧ l.map (·.1) = i ∧ u.map (·.1) = j) nE s := by
  refine wpAny_Slice (wpAny_mono (hl.wp S) (fun v s₁ h₁ => ?_) fun _ _ e => e)
  obtain ⟨E₁, l, rfl, el⟩ := h₁
  refine wpAny_mono (hh.wp (S.ext E₁)) (fun v s₂ h₂ => ?_) fun _ _ e => e
  obtain ⟨E₂, u, rfl, eu⟩ := h₂
  exact wpAny_evalPart_none ⟨(E₁.trans E₂).push _, _, l, u, rfl, ⟨_, Heap.get?_push_size _ rfl, rfl, rfl⟩, el, eu⟩

/-- a cut of a text -/
theorem EX.strSlice {value : Expr} {lo hi : Option Expr} {i j : Option Int} {p pos : Pos} {l : List Nat} (ho : EV x m led value (.str l)) (hl : Part x m led lo i) (hh : Part x m led hi j) (hsz : l.length ≤ sizeLine) :
    EV x m led (.Subscript value (.Slice lo hi none p) pos) (.str (pySl l i j)) := fun s S =>
  wp_sub (wpAny_mono (ho s S) (fun u s₁ h₁ => wpAny_mono (eval_slice hl hh (S.ext h₁.1)) (fun v s₂ h₂ => by
    obtain ⟨E₁, t, rfl⟩ := h₁
    obtain ⟨E₂, a, l', u', rfl, hs, rfl, rfl⟩ := h₂
    have S₂ := (S.ext E₁).ext E₂
    refine ⟨"str", _, F.slot_str_getitem.lookup, typeIs_str _ _ _, wpAny_getItem_str_slice hs rfl ?_⟩
    unfold sliceMade
    have hp : (slicePicked (mkS l) l' u' none).filterMap ((mkS l).cps[·]?) = pySl l (l'.map (·.1)) (u'.map (·.1)) := by
      unfold slicePicked
      rw [mkS_length]
      have := str_picks l (l'.map (·.1)) (u'.map (·.1))
      simpa [mkS] using this
    have hlen : (slicePicked (mkS l) l' u' none).length = (pySl l (l'.map (·.1)) (u'.map (·.1))).length := by
      unfold slicePicked; rw [mkS_length]; exact str_len _ _ _
    split
    · rename_i hc
      simp only [Option.map_none, Option.getD_none, Bool.and_eq_true, beq_iff_eq, mkS_length] at hc
      refine ⟨(E₁.trans E₂), t, ?_⟩
      have hq : pySl l (l'.map (·.1)) (u'.map (·.1)) = l := (pySl_sub _ _ _).eq_of_length (by rw [← hlen]; exact hc.2)
      rw [hq]
    · rw [hp]
      refine ⟨?_, (E₁.trans E₂).toks _, _, rfl⟩
      show (mkS _).length ≤ _
      rw [mkS_length]
      exact Nat.le_trans (pySl_sub _ _ _).length_le hsz) fun _ _ e => e) fun _ _ e => e)

theorem F2.toList_get {R : V → Value → Prop} {xs : List V} {vs : Array Value} {i : Nat} {v : V} (h : F2 R xs vs.toList) (e : xs[i]? = some v) : ∃ u, vs[i]? = some u ∧ R v u := by
  obtain ⟨u, e, r⟩ := h.get e
  exact ⟨u, by simpa using e, r⟩

theorem ListAt.isList {h : Heap} {a : Addr} {xs : List V} (L : ListAt h a xs) : ∃ vs, h.IsList a vs ∧ F2 V.rep xs vs.toList :=
  let ⟨vs, n, e, r⟩ := L; ⟨vs, ⟨_, e, rfl, n, rfl⟩, r⟩
theorem TupAt.isTuple {h : Heap} {a : Addr} {xs : List V} (L : TupAt h a xs) : ∃ vs, h.IsTuple a vs ∧ F2 V.rep xs vs.toList :=
  let ⟨vs, n, e, r⟩ := L; ⟨vs, ⟨_, e, rfl, n, rfl⟩, r⟩

theorem getItem_listAt {s : Shared} (S : St x m led s) {a : Addr} {xs : List V} {k : Int} {t : Tok} {v : V} (L : ListAt s.heap a xs) (h0 : 0 ≤ k) (hlt : k < 2 ^ 63) (hv : xs[k.toNat]? = some v) {n : Nat} :
    SubOn x (.ref a) (.int k t) (fun w s' => Ext x.c s s' ∧ isV v n w s'.heap) s := by
  obtain ⟨vs, hl, r⟩ := L.isList
  obtain ⟨u, e, ru⟩ := F2.toList_get r hv
  exact ⟨"list", _, slot_list_getitem.lookup, hl.typeIs, wpAny_getItem_list hl h0 hlt e ⟨.self S, ru⟩⟩

/-- an item of a list that was just made -/
theorem EX.newItem {value slice : Expr} {pos : Pos} {xs : List V} {k : Int} {v : V} (ho : EX x m led value (isList xs)) (hi : EV x m led slice (.int k)) (h0 : 0 ≤ k) (hlt : k < 2 ^ 63) (hv : xs[k.toNat]? = some v) :
    EV x m led (.Subscript value slice pos) v := by
  refine .sub ho isList_keep hi ?_
  rintro n s _ _ S ⟨a, rfl, L, _⟩ ⟨u, rfl⟩ _
  exact getItem_listAt S L h0 hlt hv

/-- an item of a list that stands -/
theorem EX.listItem {value slice : Expr} {pos : Pos} {a : Addr} {xs : List V} {k : Int} {v : V} (ho : EV x m led value (.ref a)) (hi : EV x m led slice (.int k)) (hL : ∀ s, St x m led s → ListAt s.heap a xs) (h0 : 0 ≤ k) (hlt : k < 2 ^ 63) (hv : xs[k.toNat]? = some v) :
    EV x m led (.Subscript value slice pos) v := by
  refine .sub ho isV_keep hi ?_
  rintro n s _ _ S rfl ⟨u, rfl⟩ _
  exact getItem_listAt S (hL s S) h0 hlt hv

theorem F2.take {α β : Type} {R : α → β → Prop} : ∀ {l : List α} {l' : List β} (n : Nat), F2 R l l' → F2 R (l.take n) (l'.take n)
  | _, _, 0, _ => by simpa using F2.nil
  | _, _, n + 1, .nil => by simpa using F2.nil
  | _, _, n + 1, .cons a r => .cons a (F2.take n r)
theorem F2.drop {α β : Type} {R : α → β → Prop} : ∀ {l : List α} {l' : List β} (n : Nat), F2 R l l' → F2 R (l.drop n) (l'.drop n)
  | _, _, 0, h => h
  | _, _, n + 1, .nil => .nil
  | _, _, n + 1, .cons a r => F2.drop n r
theorem F2.pySl {α β : Type} {R : α → β → Prop} {l : List α} {l' : List β} (h : F2 R l l') (lo hi : Option Int) : F2 R (pySl l lo hi) (Mine.pySl l' lo hi) := by
  unfold Mine.pySl
  rw [h.length]
  exact (h.take _).drop _

theorem isPart_partValue (p : Option (Int × Tok)) : IsPart (partValue p) (p.map (·.1)) := by
  cases p with
  | none => exact .none
  | some q => exact .int q.1 q.2

/-- a cut of a list: a new list -/
theorem EX.listSlice {value : Expr} {lo hi : Option Expr} {i j : Option Int} {p pos : Pos} {a : Addr} {xs : List V} (ho : EV x m led value (.ref a)) (hl : Part x m led lo i) (hh : Part x m led hi j)
    (hL : ∀ s, St x m led s → ListAt s.heap a xs) (hsz : xs.length ≤ 1000) :
    EX x m led (.Subscript value (.Slice lo hi none p) pos) (isList (pySl xs i j)) := fun s S =>
  wp_sub (wpAny_mono (ho s S) (fun u s₁ h₁ => wpAny_mono (eval_slice hl hh (S.ext h₁.1)) (fun v s₂ h₂ => by
    obtain ⟨E₁, rfl⟩ := h₁
    obtain ⟨E₂, b, l', u', rfl, hs, rfl, rfl⟩ := h₂
    have S₂ := (S.ext E₁).ext E₂
    obtain ⟨vs, hL', r⟩ := (hL s₂ S₂).isList
    obtain ⟨o, ho', hc, hd⟩ := hs
    refine ⟨"list", _, slot_list_getitem.lookup, hL'.typeIs, wpAny_getItem_list_slice hL' ⟨o, ho', hc, hd⟩ (isPart_partValue _) (isPart_partValue _) .none (by simp) ⟨(E₁.trans E₂).push _, _, rfl, ⟨_, 0, Heap.get?_push_size _ rfl, ?_⟩, Nat.le_trans E₁.size E₂.size⟩ ?_⟩
    · rw [list_picks]; exact r.pySl _ _
    · have := r.length; simp at this; rw [sizeLine_eq]; omega) fun _ _ e => e) fun _ _ e => e)

end
end
end Mine
end
section
open PySem PySem.W PySem.Calls PyProof.Rows
set_option Elab.async false
set_option maxRecDepth 100000
set_option linter.all false
namespace Mine
noncomputable section

section
variable {x : Cx} {m : Lc} {led : Ld}

/-! ## built-ins and types called -/

theorem callWith_type {pos : Pos} {T : String} {args : List (Bool × Sem Value)} {Q : Value → Shared → Prop} {s : Shared} (hplain : args.any (·.1) = false)
    (h : wpAny (Md x.c) x.A (evalArgs (.type T) true args []) (fun a s₁ => wpAny (Md x.c) x.A (PySem.call (.type T) a.pos a.kw) Q nE s₁) nE s) :
    wpAny (Md x.c) x.A (callWith pos (.type T) [] args []) Q nE s := by
  unfold callWith
  refine wpAny_bind (wpAny_holding (wpAny_mono h (fun a s₁ h₁ => wpAny_bind (wpAny_standAt ?_)) fun _ _ x => x))
  simp only [hplain, List.any_nil, Bool.or_false]
  refine wpAny_bind (m := keeperOf _) (wpAny_pure ?_)
  exact wpAny_bind (wpAny_mono h₁ (fun r s₂ hr => wpAny_bind (wpAny_holding (wpAny_point (wpAny_pure hr)))) fun _ _ x => x)

theorem EX.callB {n : Str} {p pos : Pos} {es : List Expr} {vs : List V} {id : String} {P : Nat → Value → Heap → Prop} (hf : EV x m led (.Name n p) (.bi id)) (ha : EVs x m led es vs) (hm : PMono P)
    (hc : ∀ s us, St x m led s → F2 V.rep vs us → wpAny (Md x.c) x.A (PySem.call (.builtin id) us) (Post x s P) nE s) : EX x m led (.Call (.Name n p) es [] pos) P := by
  intro s S
  refine wpAny_Call_ofName (wpAny_mono (hf s S) (fun u s₁ h₁ => ?_) fun _ _ e => e)
  obtain ⟨E₁, r₁⟩ := h₁
  cases r₁
  have S₁ := S.ext E₁
  refine callWith_builtin (starEach_plain ha) (wpAny_mono (evalArgs_EVs ha _ pos S₁) (fun a s₂ h₂ => ?_) fun _ _ e => e)
  obtain ⟨E₂, us, rfl, hr⟩ := h₂
  exact wpAny_mono (hc s₂ us (S₁.ext E₂) hr) (fun v s₃ h₃ => ⟨E₁.trans (E₂.trans h₃.1), hm _ _ _ _ (Nat.le_trans E₁.size E₂.size) h₃.2⟩) fun _ _ e => e

theorem EX.callT {n : Str} {p pos : Pos} {es : List Expr} {vs : List V} {T : String} {P : Nat → Value → Heap → Prop} (hf : EV x m led (.Name n p) (.ty T)) (ha : EVs x m led es vs) (hm : PMono P)
    (hc : ∀ s us, St x m led s → F2 V.rep vs us → wpAny (Md x.c) x.A (PySem.call (.type T) us) (Post x s P) nE s) : EX x m led (.Call (.Name n p) es [] pos) P := by
  intro s S
  refine wpAny_Call_ofName (wpAny_mono (hf s S) (fun u s₁ h₁ => ?_) fun _ _ e => e)
  obtain ⟨E₁, r₁⟩ := h₁
  cases r₁
  have S₁ := S.ext E₁
  refine callWith_type (starEach_plain ha) (wpAny_mono (evalArgs_EVs ha _ pos S₁) (fun a s₂ h₂ => ?_) fun _ _ e => e)
  obtain ⟨E₂, us, rfl, hr⟩ := h₂
  exact wpAny_mono (hc s₂ us (S₁.ext E₂) hr) (fun v s₃ h₃ => ⟨E₁.trans (E₂.trans h₃.1), hm _ _ _ _ (Nat.le_trans E₁.size E₂.size) h₃.2⟩) fun _ _ e => e

theorem EX.len_str {p pos : Pos} {e : Expr} {l : List Nat} (hf : EV x m led (.Name "len" p) (.bi "len")) (ha : EV x m led e (.str l)) (hs : notStar e = true) (hsz : l.length ≤ sizeLine) :
    EV x m led (.Call (.Name "len" p) [e] [] pos) (.int l.length) := by
  refine .callB hf (.cons ha .nil hs) isV_mono ?_
  rintro s _ S (_ | ⟨⟨t, rfl⟩, _ | _⟩)
  refine P.len_str (by rw [mkS_length]; rw [sizeLine_eq] at hsz; omega) ⟨(Ext.self S).toks _, _, by rw [mkS_length]⟩

theorem EX.len_list {p pos : Pos} {e : Expr} {a : Addr} {xs : List V} (hf : EV x m led (.Name "len" p) (.bi "len")) (ha : EV x m led e (.ref a)) (hs : notStar e = true) (hL : ∀ s, St x m led s → ListAt s.heap a xs) (hsz : xs.length ≤ sizeLine) :
    EV x m led (.Call (.Name "len" p) [e] [] pos) (.int xs.length) := by
  refine .callB hf (.cons ha .nil hs) isV_mono ?_
  rintro s _ S (_ | ⟨rfl, _ | _⟩)
  obtain ⟨vs, hl, r⟩ := (hL s S).isList
  have e := r.length
  have e' : vs.size = xs.length := by simpa using e.symm
  exact call_len_list hl (by rw [e']; rw [sizeLine_eq] at hsz; omega) ⟨(Ext.self S).toks _, _, by rw [e']⟩

theorem EX.ord {p pos : Pos} {e : Expr} {c : Nat} (hf : EV x m led (.Name "ord" p) (.bi "ord")) (ha : EV x m led e (.str [c])) (hs : notStar e = true) :
    EV x m led (.Call (.Name "ord" p) [e] [] pos) (.int c) := by
  refine .callB hf (.cons ha .nil hs) isV_mono ?_
  rintro s _ S (_ | ⟨⟨t, rfl⟩, _ | _⟩)
  exact P.ord_of_char ⟨(Ext.self S).toks _, _, rfl⟩

theorem EX.chr {p pos : Pos} {e : Expr} {i : Int} (hf : EV x m led (.Name "chr" p) (.bi "chr")) (ha : EV x m led e (.int i)) (hs : notStar e = true) (h0 : 0 ≤ i) (h1 : i ≤ 1114111) :
    EV x m led (.Call (.Name "chr" p) [e] [] pos) (.str [i.toNat]) := by
  refine .callB hf (.cons ha .nil hs) isV_mono ?_
  rintro s _ S (_ | ⟨⟨t, rfl⟩, _ | _⟩)
  exact chr_of_range h0 h1 ⟨(Ext.self S).toks _, _, rfl⟩

theorem EX.str_str {p pos : Pos} {e : Expr} {l : List Nat} (hf : EV x m led (.Name "str" p) (.ty "str")) (ha : EV x m led e (.str l)) (hs : notStar e = true) :
    EV x m led (.Call (.Name "str" p) [e] [] pos) (.str l) := by
  refine .callT hf (.cons ha .nil hs) isV_mono ?_
  rintro s _ S (_ | ⟨⟨t, rfl⟩, _ | _⟩)
  exact P.str_of_str ⟨.self S, _, rfl⟩

theorem EX.str_int {p pos : Pos} {e : Expr} {i : Int} (hf : EV x m led (.Name "str" p) (.ty "str")) (ha : EV x m led e (.int i)) (hs : notStar e = true) (hb : i.natAbs.log2 < 1920) :
    EV x m led (.Call (.Name "str" p) [e] [] pos) (.str (cp (toString i : String))) := by
  refine .callT hf (.cons ha .nil hs) isV_mono ?_
  rintro s _ S (_ | ⟨⟨t, rfl⟩, _ | _⟩)
  exact P.str_of_int hb ⟨(Ext.self S).toks _, _, by rw [mkS_cp]⟩

/-! ## methods of built-in types -/

/-- what the model says of a type's method -/
structure Mth (T : String) (name : Str) (id : String) : Prop where
  pa : PlainAttrs T
  slot : Slot T name id
  ty : typeOf (.builtin id) = pure (.type "method_descriptor")

theorem fewArgs {es : List Expr} {vs : List V} (h : EVs x m led es vs) (pos : Pos) (hl : es.length < 30) :
    ((backTo pos (starEach es x.env)).all (fun x => !x.1) && (backToKw pos (keywordEach [] x.env)).all (fun x => x.1.isSome) && decide (es.length + ([] : List Keyword).length + (if ([] : List Keyword).isEmpty then 0 else 1) < 30)) = true := by
  have h1 : (backTo pos (starEach es x.env)).all (fun x => !x.1) = true := by
    induction h with
    | nil => rfl
    | cons h1 h2 hs ih =>
      rw [starEach_cons hs]
      simp only [backTo, List.map_cons, List.all_cons, Bool.not_false, Bool.true_and]
      exact ih (by simp only [List.length_cons] at hl; omega)
  rw [h1]
  have h2 : (backToKw pos (keywordEach [] x.env)) = [] := rfl
  rw [h2]
  simpa using hl

theorem EX.meth {o : Expr} {name : Str} {apos pos : Pos} {es : List Expr} {a : V} {vs : List V} {P : Nat → Value → Heap → Prop} {T id : String} (M : Mth T name id) (ho : EV x m led o a) (ha : EVs x m led es vs) (hm : PMono P)
    (hT : ∀ s u, St x m led s → a.rep u → s.TypeIs u T ∧ (∀ b, u = .ref b → ∃ ob, s.heap.get? b = some ob ∧ ob.dict = none))
    (hc : ∀ s u us, St x m led s → a.rep u → F2 V.rep vs us → wpAny (Md x.c) x.A (PySem.call (.builtin id) (u :: us)) (Post x s P) nE s)
    (hbase : attributeBase o name x.env (eval o x.env) = eval o x.env := by rfl) (hline : (apos.endLine == pos.line) = true := by rfl) (hl : es.length < 30 := by first | decide | simp) : EX x m led (.Call (.Attribute o name apos) es [] pos) P := by
  intro s S
  refine wpAny_Call_method_lateS hbase (fewArgs ha pos hl) hline (wpAny_mono (ho s S) (fun u s₁ h₁ => ?_) fun _ _ e => e)
  have S₁ := S.ext h₁.1
  obtain ⟨t1, t2⟩ := hT s₁ u S₁ h₁.2
  refine ⟨T, id, M.pa, M.slot, M.ty, t1, t2, ?_⟩
  refine callWith_builtin (starEach_plain ha) (wpAny_mono (evalArgs_EVs ha _ pos S₁) (fun a s₂ h₂ => ?_) fun _ _ e => e)
  obtain ⟨E₂, us, rfl, hr⟩ := h₂
  exact wpAny_mono (hc s₂ u us (S₁.ext E₂) h₁.2 hr) (fun v s₃ h₃ => ⟨h₁.1.trans (E₂.trans h₃.1), hm _ _ _ _ (Nat.le_trans h₁.1.size E₂.size) h₃.2⟩) fun _ _ e => e

theorem strT {l : List Nat} : ∀ s u, St x m led s → (V.str l).rep u → s.TypeIs u "str" ∧ (∀ b, u = .ref b → ∃ ob, s.heap.get? b = some ob ∧ ob.dict = none) := by
  rintro s _ S ⟨t, rfl⟩
  exact ⟨typeIs_str _ _ _, fun b e => nomatch e⟩

theorem mth_lower : Mth "str" "lower" "str.lower" := ⟨F.plainAttrs_str, F.slot_str_lower, F.type_str_lower⟩
theorem mth_upper : Mth "str" "upper" "str.upper" := ⟨F.plainAttrs_str, F.slot_str_upper, F.type_str_upper⟩
theorem mth_startswith : Mth "str" "startswith" "str.startswith" := ⟨F.plainAttrs_str, F.slot_str_startswith, F.type_str_startswith⟩
theorem mth_endswith : Mth "str" "endswith" "str.endswith" := ⟨F.plainAttrs_str, F.slot_str_endswith, F.type_str_endswith⟩
theorem mth_strip : Mth "str" "strip" "str.strip" := ⟨F.plainAttrs_str, F.slot_str_strip, F.type_str_strip⟩
theorem mth_replace : Mth "str" "replace" "str.replace" := ⟨F.plainAttrs_str, F.slot_str_replace, F.type_str_replace⟩
theorem mth_partition : Mth "str" "partition" "str.partition" := ⟨F.plainAttrs_str, F.slot_str_partition, F.type_str_partition⟩
theorem mth_join : Mth "str" "join" "str.join" := ⟨F.plainAttrs_str, F.slot_str_join, F.type_str_join⟩

def lowerL (l : List Nat) : List Nat := (Txt.lower (mkS l)).cps.toList
def upperL (l : List Nat) : List Nat := (Txt.upper (mkS l)).cps.toList
theorem mkS_lowerL (l : List Nat) : Txt.lower (mkS l) = mkS (lowerL l) := (mkS_toList _).symm
theorem mkS_upperL (l : List Nat) : Txt.upper (mkS l) = mkS (upperL l) := (mkS_toList _).symm

theorem tooLong_of {n : Nat} (h : n ≤ sizeLine) : Builtin.Str.tooLong n = false := by
  unfold Builtin.Str.tooLong; exact decide_eq_false (Nat.not_lt.mpr h)

theorem EX.lower {o : Expr} {apos pos : Pos} {l : List Nat} (ho : EV x m led o (.str l)) (hsz : (lowerL l).length ≤ sizeLine)
    (hbase : attributeBase o "lower" x.env (eval o x.env) = eval o x.env := by rfl) (hline : (apos.endLine == pos.line) = true := by rfl) : EV x m led (.Call (.Attribute o "lower" apos) [] [] pos) (.str (lowerL l)) := by
  refine .meth mth_lower ho .nil isV_mono strT ?_ hbase hline
  rintro s _ _ S ⟨t, rfl⟩ (_ | _)
  exact SC.lower (tooLong_of (by rw [mkS_lowerL, mkS_length]; exact hsz)) ⟨(Ext.self S).toks _, _, by rw [mkS_lowerL]⟩
theorem EX.upper {o : Expr} {apos pos : Pos} {l : List Nat} (ho : EV x m led o (.str l)) (hsz : (upperL l).length ≤ sizeLine)
    (hbase : attributeBase o "upper" x.env (eval o x.env) = eval o x.env := by rfl) (hline : (apos.endLine == pos.line) = true := by rfl) : EV x m led (.Call (.Attribute o "upper" apos) [] [] pos) (.str (upperL l)) := by
  refine .meth mth_upper ho .nil isV_mono strT ?_ hbase hline
  rintro s _ _ S ⟨t, rfl⟩ (_ | _)
  exact SC.upper (tooLong_of (by rw [mkS_upperL, mkS_length]; exact hsz)) ⟨(Ext.self S).toks _, _, by rw [mkS_upperL]⟩

theorem subAt_list (a b : List Nat) (i : Nat) (h : i + b.length ≤ a.length) : Builtin.Str.subAt (mkS a) (mkS b) i = (((a.drop i).take b.length) == b) := by
  rw [StrLaws.subAt_eq]
  simp [mkS]

end
end
end Mine
end
section
open PySem PySem.W PySem.Calls PyProof.Rows
open PySem.Builtin.Str (strSub occurrences partsBetween glued)
set_option Elab.async false
set_option maxRecDepth 100000
set_option linter.all false
namespace Mine
noncomputable section

/-- does b stand in a at i -/
def swAt (a b : List Nat) (i : Nat) : Bool := decide (i + b.length ≤ a.length) && ((a.drop i).take b.length == b)
def stripL (l cs : List Nat) : List Nat := (Txt.stripChars (mkS l) (mkS cs)).cps.toList
def containsL (l y : List Nat) : Bool := Txt.contains (mkS l) (mkS y)
def replL (l y z : List Nat) : List Nat := (Txt.replace (mkS l) (mkS y) (mkS z)).cps.toList
def partL (l y : List Nat) : List Nat × List Nat × List Nat := match occurrences (mkS l) (mkS y) 0 l.length 1 with
  | i :: _ => ((strSub (mkS l) 0 i).cps.toList, y, (strSub (mkS l) (i + y.length) l.length).cps.toList)
  | [] => (l, [], [])
def joinL (sep : List Nat) (ls : List (List Nat)) : List Nat := (Txt.join (mkS sep) (ls.map mkS)).cps.toList

section
variable {x : Cx} {m : Lc} {led : Ld}

theorem EX.startswith {o e : Expr} {apos pos : Pos} {a b : List Nat} (ho : EV x m led o (.str a)) (he : EV x m led e (.str b)) (hs : notStar e = true)
    (hbase : attributeBase o "startswith" x.env (eval o x.env) = eval o x.env := by rfl) (hline : (apos.endLine == pos.line) = true := by rfl) : EV x m led (.Call (.Attribute o "startswith" apos) [e] [] pos) (.bool (swAt a b 0)) := by
  refine .meth mth_startswith ho (.cons he .nil hs) isV_mono strT ?_ hbase hline
  rintro s _ _ S ⟨t, rfl⟩ (_ | ⟨⟨u, rfl⟩, _ | _⟩)
  refine SC.startswith ⟨.self S, ?_⟩
  unfold Txt.startswith swAt
  rw [StrLaws.subAt_eq]
  simp [mkS, Str.length, isV, V.rep]
theorem EX.startswith3 {o e k : Expr} {apos pos : Pos} {a b : List Nat} {i : Int} (ho : EV x m led o (.str a)) (he : EV x m led e (.str b)) (hs : notStar e = true) (hk : EV x m led k (.int i)) (hsk : notStar k = true) (h0 : 0 ≤ i)
    (hbase : attributeBase o "startswith" x.env (eval o x.env) = eval o x.env := by rfl) (hline : (apos.endLine == pos.line) = true := by rfl) : EV x m led (.Call (.Attribute o "startswith" apos) [e, k] [] pos) (.bool (swAt a b i.toNat)) := by
  refine .meth mth_startswith ho (.cons he (.cons hk .nil hsk) hs) isV_mono strT ?_ hbase hline
  rintro s _ _ S ⟨t, rfl⟩ (_ | ⟨⟨u, rfl⟩, _ | ⟨⟨v, rfl⟩, _ | _⟩⟩)
  refine SC.startswith3 ⟨.self S, ?_⟩
  unfold Txt.startswith3 swAt
  have e : fromIndex (mkS a).length i = i.toNat := by unfold fromIndex; rw [mkS_length]; omega
  rw [e, StrLaws.subAt_eq]
  simp [mkS, Str.length, isV, V.rep]
theorem EX.endswith {o e : Expr} {apos pos : Pos} {a b : List Nat} (ho : EV x m led o (.str a)) (he : EV x m led e (.str b)) (hs : notStar e = true)
    (hbase : attributeBase o "endswith" x.env (eval o x.env) = eval o x.env := by rfl) (hline : (apos.endLine == pos.line) = true := by rfl) : EV x m led (.Call (.Attribute o "endswith" apos) [e] [] pos) (.bool (decide (b.length ≤ a.length) && ((a.drop (a.length - b.length)).take b.length == b))) := by
  refine .meth mth_endswith ho (.cons he .nil hs) isV_mono strT ?_ hbase hline
  rintro s _ _ S ⟨t, rfl⟩ (_ | ⟨⟨u, rfl⟩, _ | _⟩)
  refine SC.endswith ⟨.self S, ?_⟩
  unfold Txt.endswith
  rw [StrLaws.subAt_eq]
  simp [mkS, Str.length, isV, V.rep]
theorem EX.strip {o e : Expr} {apos pos : Pos} {a b : List Nat} (ho : EV x m led o (.str a)) (he : EV x m led e (.str b)) (hs : notStar e = true) (hsz : a.length ≤ sizeLine)
    (hbase : attributeBase o "strip" x.env (eval o x.env) = eval o x.env := by rfl) (hline : (apos.endLine == pos.line) = true := by rfl) : EV x m led (.Call (.Attribute o "strip" apos) [e] [] pos) (.str (stripL a b)) := by
  refine .meth mth_strip ho (.cons he .nil hs) isV_mono strT ?_ hbase hline
  rintro s _ _ S ⟨t, rfl⟩ (_ | ⟨⟨u, rfl⟩, _ | _⟩)
  exact up (SC.stripChars (fun t' k => ⟨.selfT S _, _, by unfold stripL; rw [mkS_toList]⟩) (by rw [mkS_length]; exact hsz))
theorem cmp_in_str {a b : List Nat} : CmpOk x m led .In (.str b) (.str a) (containsL a b) := by
  rintro s _ _ S ⟨t, rfl⟩ ⟨u, rfl⟩; exact SB.contains ⟨.self S, rfl⟩
theorem cmp_notIn_str {a b : List Nat} : CmpOk x m led .NotIn (.str b) (.str a) (!containsL a b) := by
  rintro s _ _ S ⟨t, rfl⟩ ⟨u, rfl⟩; exact SB.notContains ⟨.self S, rfl⟩
theorem containsL_one (l : List Nat) (c : Nat) : containsL l [c] = decide (c ∈ l) := by
  unfold containsL Txt.contains
  have := StrLaws.found_one (mkS l) c
  simpa [mkS] using this

theorem truth_str {a : List Nat} (hsz : a.length ≤ sizeLine) : TruthOk x m led (.str a) (!a.isEmpty) := by
  rintro s _ S ⟨t, rfl⟩
  refine P.truthy_str (by rw [mkS_length]; rw [sizeLine_eq] at hsz; omega) ⟨(Ext.self S).toks _, ?_⟩
  rw [mkS_length]
  cases a with
  | nil => rfl
  | cons c r => simp; omega
theorem truth_int {a : Int} : TruthOk x m led (.int a) (a != 0) := by
  rintro s _ S ⟨t, rfl⟩
  exact P.truthy_int ⟨.self S, rfl⟩

/-- «v.replace(c, d)» with written texts: their tokens are two, and none -/
theorem EX.replaceC {o : Expr} {apos pos : Pos} {a : List Nat} {y z : Str} {ky kz py pz} (ho : EV x m led o (.str a)) (hyz : (y == z) = false) (hsz : a.length + (a.length + 1) * z.length ≤ 16777216)
    (hbase : attributeBase o "replace" x.env (eval o x.env) = eval o x.env := by rfl) (hline : (apos.endLine == pos.line) = true := by rfl) :
    EV x m led (.Call (.Attribute o "replace" apos) [.Constant (.str y) ky py, .Constant (.str z) kz pz] [] pos) (.str (replL a (cp y) (cp z))) := by
  intro s S
  have ha : EVs x m led [.Constant (.str y) ky py, .Constant (.str z) kz pz] [.str (cp y), .str (cp z)] := .cons .str (.cons .str .nil rfl) rfl
  refine wpAny_Call_method_lateS hbase (fewArgs ha pos (by simp)) hline (wpAny_mono (ho s S) (fun u s₁ h₁ => ?_) fun _ _ e => e)
  obtain ⟨E₁, t, rfl⟩ := h₁
  have S₁ := S.ext E₁
  have M := mth_replace
  refine ⟨"str", _, M.pa, M.slot, M.ty, typeIs_str _ _ _, (fun b e => nomatch e), ?_⟩
  refine callWith_builtin (starEach_plain (pos := pos) ha) (evalArgs_plain (spliced_cons (wpAny_Constant_str (k := ky) (pos := py) (spliced_cons (wpAny_Constant_str (k := kz) (pos := pz) (spliced_nil ?_))))))
  have htk := S₁.tk
  have hne : s₁.toks ≠ 0 := Nat.ne_of_gt htk
  refine wpAny_mono (up (c := x.c) (s := { s₁ with toks := s₁.toks + 1 + 1 }) (Q := fun v _ => (V.str (replL a (cp y) (cp z))).rep v) (SC.replace (x := mkS a) (y := y) (z := z) hne (Nat.succ_ne_zero _) (Nat.ne_of_lt (Nat.lt_succ_self _)) hyz (by rw [mkS_length]; exact hsz) fun t' k => ⟨?_, t', ?_⟩)) (fun v s' h => ⟨(E₁.toks _).trans h.1, h.2⟩) fun _ _ e => e
  · exact ExtW.toks (s' := { s₁ with toks := s₁.toks + 1 + 1 }) ((ExtW.refl S₁.ok).toks _ |>.ok |> ExtW.refl) k
  · unfold replL
    rw [mkS_cp, mkS_cp, mkS_toList]

theorem EX.partition {o e : Expr} {apos pos : Pos} {a b : List Nat} (ho : EV x m led o (.str a)) (he : EV x m led e (.str b)) (hs : notStar e = true) (hsz : a.length ≤ sizeLine) (hb : b ≠ [])
    (hbase : attributeBase o "partition" x.env (eval o x.env) = eval o x.env := by rfl) (hline : (apos.endLine == pos.line) = true := by rfl) :
    EX x m led (.Call (.Attribute o "partition" apos) [e] [] pos) (isTup [.str (partL a b).1, .str (partL a b).2.1, .str (partL a b).2.2]) := by
  refine .meth mth_partition ho (.cons he .nil hs) isTup_mono strT ?_ hbase hline
  rintro s _ _ S ⟨t, rfl⟩ (_ | ⟨⟨u, rfl⟩, _ | _⟩)
  refine call_meets F.slot_str_partition (typeIs_str _ _ _) F.entry_str_partition (F.args_str_partition_2 _ _) (meets_str_partition (mkS a) (mkS b) t u (by cases b with | nil => exact absurd rfl hb | cons _ _ => simp [mkS, Str.length]) (by rw [mkS_length]; exact hsz)) ?_
  have e2 : (mkS a).length = a.length := mkS_length a
  have e3 : (mkS b).length = b.length := mkS_length b
  unfold partL
  rw [e2, e3]
  cases occurrences (mkS a) (mkS b) 0 a.length 1 with
  | nil => exact ⟨((Ext.self S).push _).toks _, _, rfl, ⟨_, 0, Heap.get?_push_size _ rfl, .cons ⟨_, rfl⟩ (.cons ⟨_, rfl⟩ (.cons ⟨_, rfl⟩ .nil))⟩, Nat.le_refl _⟩
  | cons i r => exact ⟨((Ext.self S).push _).toks _, _, rfl, ⟨_, 0, Heap.get?_push_size _ rfl, .cons ⟨_, by rw [mkS_toList]⟩ (.cons ⟨_, rfl⟩ (.cons ⟨_, by rw [mkS_toList]⟩ .nil))⟩, Nat.le_refl _⟩

end
end
end Mine
end
section
open PySem PySem.W PySem.Calls PyProof.Rows
set_option Elab.async false
set_option maxRecDepth 100000
set_option linter.all false
namespace Mine
noncomputable section

section
variable {x : Cx} {m : Lc} {led : Ld} {Q : Flow → Shared → Prop}

/-! ## the ledger -/

theorem St.toks {s : Shared} (S : St x m led s) (t : Nat) (h : 0 < t) : St x m led { s with toks := t } :=
  ⟨S.keep, S.tabs, S.bare, S.loc, S.size, S.hled, S.nodup, S.os, h⟩

theorem St.sub {s : Shared} {led' : Ld} (S : St x m led s) (h : led'.Sublist led) : St x m led' s :=
  ⟨S.keep, S.tabs, S.bare, S.loc, S.size, fun p hp => S.hled p (h.subset hp), S.nodup.sublist (h.map _), S.os, S.tk⟩
theorem St.left {s : Shared} {l₁ l₂ : Ld} (S : St x m (l₁ ++ l₂) s) : St x m l₁ s := S.sub (List.sublist_append_left _ _)

/-- the heap grows, nothing is changed -/
theorem St.grow {s : Shared} {h' : Heap} (S : St x m led s) (k : ∀ b o, s.heap.get? b = some o → h'.get? b = some o) : St x m led { s with heap := h' } := by
  obtain ⟨mm, N, R⟩ := S.loc
  have N' := N.keeps k
  obtain ⟨p1, e1⟩ := S.tabs.get60
  obtain ⟨p2, e2⟩ := S.tabs.get48
  exact ⟨S.keep.trans (.of k), S.tabs.keep (.of k) ((k _ _ e1).trans e1.symm) ((k _ _ e2).trans e2.symm), S.bare, ⟨mm, N', R⟩, Nat.le_trans x.hL (Nat.le_of_lt N'.lt),
    fun p hp => let ⟨a, b, r⟩ := S.hled p hp; ⟨a, b, r.keep S.tabs (.of k)⟩, S.nodup, S.os, S.tk⟩

theorem St.lt {s : Shared} (S : St x m led s) : x.env.locals < s.heap.objs.size := let ⟨_, N, _⟩ := S.loc; N.lt
theorem St.ledLt {s : Shared} (S : St x m led s) {p : Addr × AO} (hp : p ∈ led) : p.1 < s.heap.objs.size := by
  obtain ⟨_, _, r⟩ := S.hled p hp
  obtain ⟨ob, e, _⟩ := r.get
  exact Heap.lt_size e

/-- a thing that was made goes onto the ledger -/
theorem St.add {s s' : Shared} {a : Addr} {o : AO} (S : St x m led s) (S' : St x m led s') (ha : s.heap.objs.size ≤ a) (r : o.rep x.c.w.params s'.heap a) : St x m (led ++ [(a, o)]) s' where
  keep := S'.keep
  tabs := S'.tabs
  bare := S'.bare
  loc := S'.loc
  size := S'.size
  hled := fun p hp => by
    rcases List.mem_append.mp hp with hp | hp
    · exact S'.hled p hp
    · rw [List.mem_singleton.mp hp]
      exact ⟨Nat.le_trans S.size ha, Nat.ne_of_gt (Nat.lt_of_lt_of_le S.lt ha), r⟩
  nodup := by
    rw [List.map_append]
    refine List.nodup_append.mpr ⟨S'.nodup, by simp, ?_⟩
    intro b hb c hc e
    subst e
    simp only [List.map_cons, List.map_nil, List.mem_singleton] at hc
    subst hc
    obtain ⟨p, hp, e⟩ := List.mem_map.mp hb
    have := S.ledLt hp
    rw [e] at this
    exact absurd this (Nat.not_lt.mpr ha)
  os := S'.os
  tk := S'.tk

/-- a thing that lies apart goes onto the ledger -/
theorem St.add' {s : Shared} {a : Addr} {o : AO} (S : St x m led s) (h1 : x.B.objs.size ≤ a) (h2 : a ≠ x.env.locals) (h3 : a ∉ led.map (·.1)) (r : o.rep x.c.w.params s.heap a) : St x m (led ++ [(a, o)]) s where
  keep := S.keep
  tabs := S.tabs
  bare := S.bare
  loc := S.loc
  size := S.size
  hled := fun p hp => by
    rcases List.mem_append.mp hp with hp | hp
    · exact S.hled p hp
    · rw [List.mem_singleton.mp hp]; exact ⟨h1, h2, r⟩
  nodup := by
    rw [List.map_append]
    refine List.nodup_append.mpr ⟨S.nodup, by simp, ?_⟩
    intro b hb c hc e
    subst e
    simp only [List.map_cons, List.map_nil, List.mem_singleton] at hc
    subst hc
    exact h3 hb
  os := S.os
  tk := S.tk
theorem St.perm {s : Shared} {led' : Ld} (S : St x m led s) (h : led.Perm led') : St x m led' s :=
  ⟨S.keep, S.tabs, S.bare, S.loc, S.size, fun p hp => S.hled p (h.mem_iff.mpr hp), (h.map _).nodup_iff.mp S.nodup, S.os, S.tk⟩

theorem set_map_fst : ∀ (l : Ld) (k : Nat) (a : Addr) (o o' : AO), l[k]? = some (a, o) → (l.set k (a, o')).map (·.1) = l.map (·.1)
  | [], _, _, _, _, h => by simp at h
  | p :: r, 0, a, o, o', h => by simp at h; subst h; rfl
  | p :: r, k + 1, a, o, o', h => by simp only [List.set_cons_succ, List.map_cons]; rw [set_map_fst r k a o o' (by simpa using h)]

theorem AO.notTup {P : Params} {h : Heap} {a : Addr} {o : AO} (r : o.rep P h a) : ∀ vs n, h.get? a ≠ some { cls := .type "tuple", data := .seq vs n } := by
  intro vs n e
  obtain ⟨ob, e1, _, h2, _⟩ := r.get
  rw [e] at e1
  cases e1
  exact h2 rfl

/-- a thing on the ledger is changed -/
theorem St.upd {s : Shared} {h' : Heap} {k : Nat} {a : Addr} {o o' : AO} (S : St x m led s) (hk : led[k]? = some (a, o)) (hs : Heap.SameBut a s.heap h') (r : o'.rep x.c.w.params h' a) {t : Nat} (ht : 0 < t) : St x m (led.set k (a, o')) { s with heap := h', toks := t } := by
  have hm := List.mem_of_getElem? hk
  obtain ⟨a1, a2, ra⟩ := S.hled _ hm
  have nt := AO.notTup ra
  have neB : ∀ {b o}, x.B.get? b = some o → b ≠ a := fun e => x.new_ne a1 e
  obtain ⟨mm, N, R⟩ := S.loc
  obtain ⟨p1, e1⟩ := x.tB.get60
  obtain ⟨p2, e2⟩ := x.tB.get48
  refine ⟨fun b o h1 h2 e => (hs.2 b (neB e)).trans (S.keep b o h1 h2 e), ?_, S.bare, ⟨mm, N.sameBut hs (Ne.symm a2), R⟩, by rw [show h'.objs.size = _ from hs.1]; exact S.size, ?_, ?_, S.os, ht⟩
  · have k60 := hs.2 60 (neB e1)
    have k48 := hs.2 48 (neB e2)
    obtain ⟨⟨q1, b1, c1⟩, ⟨q2, b2, c2⟩⟩ := S.tabs
    have kc : ∀ c' q, CodeC s.heap c' q → CodeC h' c' q := by
      intro c' q hc
      refine hc.get (hs.2 c' fun q => ?_)
      obtain ⟨oc, vs, t, g, g2, _⟩ := hc
      subst q
      obtain ⟨ob, e3, _, _, e4⟩ := ra.get
      rw [e3] at g; cases g; exact e4 g2
    exact ⟨⟨q1, k60.trans b1, c1.imp id fun ⟨c', e, h1, h2, r⟩ => ⟨c', e, h1, h2, kc _ _ r⟩⟩, ⟨q2, k48.trans b2, c2.imp id fun ⟨c', e, h1, h2, r⟩ => ⟨c', e, h1, h2, kc _ _ r⟩⟩⟩
  · intro p hp
    rw [List.mem_iff_getElem?] at hp
    obtain ⟨j, hj⟩ := hp
    by_cases hjk : j = k
    · subst hjk
      rw [List.getElem?_set_self'] at hj
      rw [hk] at hj
      cases hj
      exact ⟨a1, a2, r⟩
    · rw [List.getElem?_set_ne (Ne.symm hjk)] at hj
      obtain ⟨b1, b2, rb⟩ := S.hled p (List.mem_of_getElem? hj)
      refine ⟨b1, b2, rb.but ?_ hs nt⟩
      intro q
      have hnd := List.pairwise_iff_getElem.mp S.nodup
      obtain ⟨l1, g1⟩ := List.getElem?_eq_some_iff.mp hj
      obtain ⟨l2, g2⟩ := List.getElem?_eq_some_iff.mp hk
      rcases Nat.lt_or_gt_of_ne hjk with hlt | hlt
      · have := hnd j k (by simpa using l1) (by simpa using l2) hlt
        simp [g1, g2, q] at this
      · have := hnd k j (by simpa using l2) (by simpa using l1) hlt
        simp [g1, g2, q] at this
  · rw [set_map_fst led k a o o' hk]; exact S.nodup

end
end
end Mine
end
section
open PySem PySem.W PySem.Calls PyProof.Rows
set_option Elab.async false
set_option maxRecDepth 100000
set_option linter.all false
namespace Mine
noncomputable section

section
variable {x : Cx} {m : Lc} {led : Ld} {Q : Flow → Shared → Prop}

/-! ## more statements -/

def InOk (x : Cx) (m : Lc) (led : Ld) (op : Operator) (a b : V) (c : V) : Prop :=
  ∀ s u v, St x m led s → a.rep u → b.rep v → wpAny (Md x.c) x.A (inplaceOp op u v) (Post x s (isV c)) nE s
theorem in_add_int {a b : Int} : InOk x m led .Add (.int a) (.int b) (.int (a + b)) := by
  rintro s _ _ S ⟨t, rfl⟩ ⟨u, rfl⟩; exact wpAny_iadd_int ⟨.selfT S _, ⟨_, rfl⟩⟩
theorem in_add_str {a b : List Nat} (hsz : a.length + b.length ≤ sizeLine) : InOk x m led .Add (.str a) (.str b) (.str (a ++ b)) := by
  rintro s _ _ S ⟨t, rfl⟩ ⟨u, rfl⟩
  exact up (SB.iadd (fun t' k => ⟨.selfT S _, ⟨t', by rw [mkS_append]⟩⟩) (by rw [mkS_length, mkS_length]; exact hsz))

theorem SX.aug (i : Nat) {n : Str} {op : Operator} {a b c : V} {e : Expr} {p pos : Pos} {rest : List Stmt} (hi : x.ns[i]? = some n) (hm : m[i]? = some (some a)) (he : EV x m led e b) (ho : InOk x m led op a b c)
    (k : SX x rest (m.set i (some c)) led Q) : SX x (.AugAssign (.Name n p) op e pos :: rest) m led Q := fun s S => by
  refine wpAny_execs_cons (wpAny_AugAssign_Name ?_)
  obtain ⟨mm, hn, hr⟩ := S.loc
  obtain ⟨v', e', r⟩ := hr i n a hi hm
  refine wpAny_loadName_local x.hk (x.hns i n hi) hn e' ?_
  refine wpAny_mono (he s S) (fun u s₁ h₁ => ?_) fun _ _ e => e
  refine wpAny_mono (ho s₁ v' u (S.ext h₁.1) r h₁.2) (fun w s₂ h₂ => ?_) fun _ _ e => e
  exact store_wp ((S.ext h₁.1).ext h₂.1) hi h₂.2 fun s' S' => k s' S'

/-- several names -/
inductive Names (x : Cx) : List Expr → List Nat → Prop
  | nil : Names x [] []
  | cons {n p es i is} : x.ns[i]? = some n → Names x es is → Names x (.Name n p :: es) (i :: is)

def setAll (m : Lc) : List Nat → List V → Lc
  | i :: is, v :: vs => setAll (m.set i (some v)) is vs
  | _, _ => m

theorem Names.len {es : List Expr} {is : List Nat} (h : Names x es is) : (assignEach es x.env).length = is.length := by
  induction h with
  | nil => rfl
  | cons _ _ ih => simpa [assignEach] using ih
theorem Names.star {es : List Expr} {is : List Nat} (h : Names x es is) : (assignEach es x.env).findIdx? (·.1) = none := by
  induction h with
  | nil => rfl
  | cons _ _ ih => simp [assignEach, List.findIdx?_cons, ih]

theorem names_wp {es : List Expr} {is : List Nat} (h : Names x es is) : ∀ {m : Lc} {vs : List V} {us : List Value} {s : Shared} {R : Unit → Shared → Prop}, is.length = vs.length → F2 V.rep vs us → St x m led s →
    (∀ s', St x (setAll m is vs) led s' → R () s') → wpAny (Md x.c) x.A (assignInOrder ((assignEach es x.env).map (·.2)) us) R nE s := by
  induction h with
  | nil =>
    intro m vs us s R hl hr S k
    cases hr with
    | nil => exact wpAny_pure (k s S)
    | cons _ _ => simp at hl
  | cons hi hn ih =>
    intro m vs us s R hl hr S k
    cases hr with
    | nil => simp at hl
    | cons r rs =>
      refine wpAny_assignInOrder_more (wpAny_assign_Name (store_wp S hi r fun s' S' => ?_))
      exact ih (by simpa using hl) rs S' k

theorem unpack_wp {elts : List Expr} {is : List Nat} {vs : List V} {k pt} {a : Addr} {s : Shared} {R : Unit → Shared → Prop} (hn : Names x elts is) (hl : is.length = vs.length) (S : St x m led s) (T : TupAt s.heap a vs)
    (h : ∀ s', St x (setAll m is vs) led s' → R () s') : wpAny (Md x.c) x.A (assign (.Tuple elts k pt) x.env (.ref a)) R nE s := by
  obtain ⟨us, ht, hr⟩ := T.isTuple
  refine wpAny_assign_Tuple x.hh ht (by rw [hn.len, hl, hr.length]; simp) hn.star (fun h' he => ?_)
  refine names_wp hn hl hr (S.grow fun b o e => he b o (Nat.ne_of_lt (Heap.lt_size e)) e) h

/-- «a, b = ..»: the right side makes a tuple (and may make more: G says what goes onto the ledger) -/
theorem SX.unpackG {elts : List Expr} {is : List Nat} {k : Nat} {pt pos : Pos} {e : Expr} {rest : List Stmt} {P : Nat → Value → Heap → Prop} (hn : Names x elts is) (he : EX x m led e P)
    (h : ∀ s s' v, St x m led s → St x m led s' → P s.heap.objs.size v s'.heap → ∃ a vs led', v = .ref a ∧ TupAt s'.heap a vs ∧ is.length = vs.length ∧ St x m led' s' ∧ SX x rest (setAll m is vs) led' Q)
    (hs : swapsWithSole [.Tuple elts k pt] e pos.line x.env = pure false := by rfl) (hw : swappedStores [.Tuple elts k pt] e x.env = pure none := by rfl) : SX x (.Assign [.Tuple elts k pt] e pos :: rest) m led Q := fun s S => by
  refine wpAny_execs_cons (wpAny_Assign_stores (wpAny_mono (he s S) (fun v s₁ h₁ => ?_) fun _ _ e => e) hs hw)
  obtain ⟨a, vs, led', rfl, T, hl, S', kk⟩ := h s s₁ v S (S.ext h₁.1) h₁.2
  exact unpack_wp (k := k) (pt := pt) hn hl S' T fun s' S' => kk s' S'
theorem SX.unpack {elts : List Expr} {is : List Nat} {k : Nat} {pt pos : Pos} {e : Expr} {rest : List Stmt} {vs : List V} (hn : Names x elts is) (he : EX x m led e (isTup vs)) (hl : is.length = vs.length)
    (kk : SX x rest (setAll m is vs) led Q)
    (hs : swapsWithSole [.Tuple elts k pt] e pos.line x.env = pure false := by rfl) (hw : swappedStores [.Tuple elts k pt] e x.env = pure none := by rfl) : SX x (.Assign [.Tuple elts k pt] e pos :: rest) m led Q :=
  SX.unpackG hn he (fun _ _ _ _ S' ⟨a, e, T, _⟩ => ⟨a, vs, led, e, T, hl, S', kk⟩) hs hw

/-- an expression that writes: told by what is wanted behind it -/
def WX (x : Cx) (m : Lc) (led : Ld) (e : Expr) (R : Value → Shared → Prop) : Prop := ∀ s, St x m led s → wpAny (Md x.c) x.A (eval e x.env) R nE s

theorem SX.expr {e : Expr} {pos : Pos} {rest : List Stmt} {m' : Lc} {led' : Ld} (he : WX x m led e (fun _ s' => St x m' led' s')) (k : SX x rest m' led' Q)
    (hi : interactive x.env = false := by rfl) (hs : swapsWith e none pos.line x.env = pure false := by rfl) : SX x (.Expr e pos :: rest) m led Q := fun s S =>
  wpAny_execs_cons (wpAny_Expr_any (wpAny_mono (he s S) (fun _ s' S' => k s' S') fun _ _ e => e) hi hs)

/-! ## while -/

theorem SX.while_ {σ : Type} {test : Expr} {body orelse : List Stmt} {pos : Pos} {rest : List Stmt} (mf : σ → Lc) (lf : σ → Ld) (ok : σ → Prop) (meas : σ → Nat) (R : Shared → Prop)
    (turn : ∀ a, ok a → ∃ b, IT x (mf a) (lf a) test b ∧
      (b = true → SX x body (mf a) (lf a) (fun f s' => match f with | .next | .cont => ∃ a', ok a' ∧ meas a' < meas a ∧ St x (mf a') (lf a') s' | .brk => R s' | .ret v => Q (.ret v) s')) ∧
      (b = false → SX x orelse (mf a) (lf a) (fun f s' => match f with | .next => R s' | f => Q f s')))
    (after : ∀ s, R s → wpAny (Md x.c) x.A (execs rest x.env) Q nE s) (a : σ) (ha : ok a) (hm : m = mf a) (hl : led = lf a) : SX x (.While test body orelse pos :: rest) m led Q := by
  subst hm hl
  intro s S
  refine wpAny_execs_cons (wpAny_While (codeAny_whileLoop (fun n s' => ∃ a, ok a ∧ meas a = n ∧ St x (mf a) (lf a) s') ?_ (meas a) ⟨a, ha, rfl, S⟩))
  rintro n s' ⟨a, ha, rfl, S⟩
  obtain ⟨b, ht, h1, h2⟩ := turn a ha
  refine wpAny_mono (ht s' S) (fun q s₂ h => ?_) fun _ _ e => e.elim
  obtain ⟨E, rfl⟩ := h
  have S₂ := S.ext E
  cases q
  · simp only [Bool.false_eq_true, if_false]
    refine wpAny_mono (h2 rfl s₂ S₂) (fun f s₃ h => ?_) fun _ _ e => e.elim
    cases f <;> first | exact after s₃ h | exact h
  · simp only [if_true]
    refine wpAny_mono (h1 rfl s₂ S₂) (fun f s₃ h => ?_) fun _ _ e => e.elim
    cases f with
    | next => obtain ⟨a', o, l, S'⟩ := h; exact ⟨_, l, a', o, rfl, S'⟩
    | cont => obtain ⟨a', o, l, S'⟩ := h; exact ⟨_, l, a', o, rfl, S'⟩
    | brk => exact after s₃ h
    | ret v => exact h

end
end
end Mine
end
section
open PySem PySem.W PySem.Calls PyProof.Rows
set_option Elab.async false
set_option maxRecDepth 100000
set_option linter.all false
namespace Mine
noncomputable section

section
variable {x : Cx} {m : Lc} {led : Ld} {Q : Flow → Shared → Prop}

/-- a name bound to a thing that was just made -/
theorem SX.assignNew (i : Nat) {n : Str} {e : Expr} {p pos : Pos} {rest : List Stmt} {P : Nat → Value → Heap → Prop} (o : AO) (hi : x.ns[i]? = some n) (he : EX x m led e P)
    (hP : ∀ n v h, P n v h → ∃ a, v = .ref a ∧ o.rep x.c.w.params h a ∧ n ≤ a) (k : ∀ a, SX x rest (m.set i (some (.ref a))) (led ++ [(a, o)]) Q)
    (hs : swapsWith e (some (.Name n p)) pos.line x.env = pure false := by rfl) : SX x (.Assign [.Name n p] e pos :: rest) m led Q := fun s S =>
  wpAny_execs_cons (wpAny_Assign_Name (wpAny_mono (he s S) (fun u s₁ h₁ => by
    obtain ⟨a, rfl, r, l⟩ := hP _ _ _ h₁.2
    exact store_wp (v := .ref a) (S.add (S.ext h₁.1) l r) hi rfl fun s' S' => k a s' S') fun _ _ e => e) hs)

theorem isList_rep {vs : List V} {P : Params} : ∀ n v h, isList vs n v h → ∃ a, v = .ref a ∧ (AO.list vs).rep P h a ∧ n ≤ a := fun _ _ _ h => h

/-- an attribute's call on a list of the ledger: append -/
theorem WX.append {o e : Expr} {apos pos : Pos} {k : Nat} {a : Addr} {xs : List V} {v : V} (ho : EV x m led o (.ref a)) (hk : led[k]? = some (a, .list xs)) (he : EV x m led e v) (hs : notStar e = true) (hsz : xs.length ≤ 100000)
    (hbase : attributeBase o "append" x.env (eval o x.env) = eval o x.env := by rfl) (hline : (apos.endLine == pos.line) = true := by rfl) : WX x m led (.Call (.Attribute o "append" apos) [e] [] pos) (fun _ s' => St x m (led.set k (a, .list (xs ++ [v]))) s') := by
  intro s S
  have ha : EVs x m led [e] [v] := .cons he .nil hs
  refine wpAny_Call_method_lateS hbase (fewArgs ha pos (by simp)) hline (wpAny_mono (ho s S) (fun u s₁ h₁ => ?_) fun _ _ e => e)
  obtain ⟨E₁, rfl⟩ := h₁
  have S₁ := S.ext E₁
  have hm := List.mem_of_getElem? hk
  obtain ⟨ws, n, e1, r1⟩ := (S₁.hled _ hm).2.2
  refine ⟨"list", "list.append", F.plainAttrs_list, F.slot_list_append, F.type_list_append, ⟨_, e1, rfl⟩, (fun b hb => by cases hb; exact ⟨_, e1, rfl⟩), ?_⟩
  refine callWith_builtin (starEach_plain (pos := pos) ha) (wpAny_mono (evalArgs_EVs ha _ pos S₁) (fun g s₂ h₂ => ?_) fun _ _ e => e)
  obtain ⟨E₂, us, rfl, hr⟩ := h₂
  have S₂ := S₁.ext E₂
  cases hr with
  | cons r rs =>
    cases rs
    obtain ⟨ws2, n2, e2, r2⟩ := (S₂.hled _ hm).2.2
    have hlen := r2.length
    refine wpAny_list_append_plain ⟨n2, e2⟩ (fun h' ⟨n3, hp⟩ hsb => ?_) (by rw [sizeLine_eq]; simp at hlen; omega)
    refine S₂.upd (o' := .list (xs ++ [v])) hk hsb ?_ S₂.tk
    exact ⟨_, n3, hp, by simpa using r2.append (.cons r .nil)⟩

/-! ## for -/

/-- what an iterator is known to do: of n things, its object told by It -/
structure Iter (x : Cx) (n : Nat) (It : Nat → Obj → Prop) (Side : Heap → Prop) (Pit : Nat → Value → Heap → Prop) (target : Expr) : Prop where
  plain : ∀ i o, It i o → o.cls ≠ .none ∧ o.cls ≠ .type "tuple" ∧ o.cls ≠ .type "code"
  next : ∀ i (s : Shared) (I : Addr) (o : Obj) (R : Value → Shared → Prop), i < n → s.heap.get? I = some o → It i o → Side s.heap → Tabs s.heap →
    (∀ o' h' tk v, It (i + 1) o' → h'.get? I = some o' → Heap.ExtBut I s.heap h' → Pit i v h' → s.toks ≤ tk → R v { s with heap := h', toks := tk }) →
    wpAny (Md x.c) x.A (pyNext (.ref I)) (fun r s₁ => match r with | none => False | some v => wpAny (Md x.c) x.A (letOwnedTupleGo target (.ref I) v) (fun _ s₂ => R v s₂) nE s₁) nE s
  done : ∀ (s : Shared) (I : Addr) (o : Obj) (R : Option Value → Shared → Prop), s.heap.get? I = some o → It n o → Side s.heap → (∀ h', Heap.ExtBut I s.heap h' → R none { s with heap := h' }) → wpAny (Md x.c) x.A (pyNext (.ref I)) R nE s

/-- behind the end the iterator's own object is let go -/
theorem St.extBut {s : Shared} {I : Addr} {o : AO} {h' : Heap} (S : St x m (led ++ [(I, o)]) s) (he : Heap.ExtBut I s.heap h') : St x m led { s with heap := h' } := by
  obtain ⟨mm, N, R⟩ := S.loc
  have hI := S.hled (I, o) (List.mem_append_right _ (.head _))
  have N' := N.extBut he (Ne.symm hI.2.1)
  obtain ⟨p1, e1⟩ := x.tB.get60
  obtain ⟨p2, e2⟩ := x.tB.get48
  obtain ⟨ob, ho, c1, c2, c3⟩ := hI.2.2.get
  have n60 : (60 : Addr) ≠ I := x.new_ne hI.1 e1
  have n48 : (48 : Addr) ≠ I := x.new_ne hI.1 e2
  obtain ⟨q1, f1⟩ := S.tabs.get60
  obtain ⟨q2, f2⟩ := S.tabs.get48
  have hnd := S.nodup
  rw [List.map_append] at hnd
  have hnd' := List.nodup_append.mp hnd
  have keep1 : ∀ b o, b ≠ I → s.heap.get? b = some o → h'.get? b = some o := he
  have kc : ∀ c' q, CodeC s.heap c' q → CodeC h' c' q := fun c' q ⟨oc, vs, t, g, g2, r⟩ => ⟨oc, vs, t, he _ _ (fun q => by subst q; rw [ho] at g; cases g; exact c3 g2) g, g2, r⟩
  refine ⟨fun b ob h1 h2 e => he _ _ (x.new_ne hI.1 e) (S.keep b ob h1 h2 e), ?_, S.bare, ⟨mm, N', R⟩, Nat.le_trans x.hL (Nat.le_of_lt N'.lt), ?_, hnd'.1, S.os, S.tk⟩
  · obtain ⟨⟨p1, a1, b1⟩, ⟨p2, a2, b2⟩⟩ := S.tabs
    exact ⟨⟨p1, he _ _ n60 a1, b1.imp id fun ⟨c', e, h1, h2, r⟩ => ⟨c', e, h1, h2, kc _ _ r⟩⟩, ⟨p2, he _ _ n48 a2, b2.imp id fun ⟨c', e, h1, h2, r⟩ => ⟨c', e, h1, h2, kc _ _ r⟩⟩⟩
  · intro p hp
    obtain ⟨a1, a2, r⟩ := S.hled p (List.mem_append_left _ hp)
    have hne : p.1 ≠ I := hnd'.2.2 p.1 (List.mem_map_of_mem hp) I (by simp)
    refine ⟨a1, a2, ?_⟩
    obtain ⟨pa, po⟩ := p
    have tup : ∀ {b : Addr} {xs : List V}, TupAt s.heap b xs → TupAt h' b xs := fun ⟨vs, n, e, r⟩ => ⟨vs, n, he _ _ (fun q => by subst q; rw [ho] at e; cases e; exact c2 rfl) e, r⟩
    cases po with
    | list xs => obtain ⟨vs, n, e, r⟩ := r; exact ⟨vs, n, he _ _ hne e, r⟩
    | pairs xs => obtain ⟨vs, n, e, r⟩ := r; exact ⟨vs, n, he _ _ hne e, F2.imp (fun _ _ ⟨b, e, t⟩ => ⟨b, e, tup t⟩) r⟩
    | dict xs => obtain ⟨⟨vs, n, e, r⟩, nd⟩ := r; exact ⟨⟨vs, n, he _ _ hne e, r⟩, nd⟩
    | raw ob' => obtain ⟨e, r⟩ := r; exact ⟨he _ _ hne e, r⟩
    | mat y nums => obtain ⟨b, t, p, q, r, l, n, e1, e2⟩ := r; exact ⟨b, t, p, q, r, l, n, he _ _ hne e1, he _ _ (fun q => by subst q; rw [ho] at e2; cases e2; exact c2 rfl) e2⟩
    | fix ob' xs => obtain ⟨e0, h1, vs, n, e, r⟩ := r; exact ⟨he _ _ hne e0, h1, vs, n, he _ _ hne e, F2.imp (fun _ _ ⟨b, e, t⟩ => ⟨b, e, tup t⟩) r⟩

theorem setLast {α : Type} (l : List α) (a b : α) : (l ++ [a]).set l.length b = l ++ [b] := by
  rw [List.set_append_right (h := Nat.le_refl _)]
  simp

/-- the loop, from its iterator on -/
theorem for_loop {n : Nat} {It : Nat → Obj → Prop} {Side : Heap → Prop} {Pit : Nat → Value → Heap → Prop} {target : Expr} {body : List Stmt} {rest : List Stmt} (W : Iter x n It Side Pit target) (Inv : Nat → Lc → Ld → Prop)
    (hside : ∀ i m led s, Inv i m led → St x m led s → Side s.heap)
    (step : ∀ i m led I o v s, i < n → Inv i m led → It (i + 1) o → Pit i v s.heap → St x m (led ++ [(I, .raw o)]) s →
      wpAny (Md x.c) x.A (assign target x.env v) (fun _ s₂ => wpAny (Md x.c) x.A (execs body x.env) (fun f s₃ => match f with
        | .next | .cont => ∃ m' led', Inv (i + 1) m' led' ∧ St x m' (led' ++ [(I, .raw o)]) s₃
        | .brk => False
        | .ret v => Q (.ret v) s₃) nE s₂) nE s)
    (fin : ∀ m led, Inv n m led → SX x rest m led Q) {I : Addr} {o : Obj} {s : Shared} (S : St x m (led ++ [(I, .raw o)]) s) (h0 : Inv 0 m led) (hit : It 0 o) :
    codeAny (Md x.c) x.A (.forLoop target (.ref I) body [] x.env) (fun r s' => match r with | .ok f => (match f with | .next => wpAny (Md x.c) x.A (execs rest x.env) Q nE s' | f => Q f s') | .error e => cameBackBy (Md x.c) x.A x.env nE e s') s := by
  refine codeAny_forLoop_any (fun k s' => ∃ i m led o, k = n - i ∧ i ≤ n ∧ Inv i m led ∧ It i o ∧ St x m (led ++ [(I, .raw o)]) s') ?_ n ⟨0, m, led, o, rfl, Nat.zero_le _, h0, hit, S⟩
  rintro k s' ⟨i, m, led, o, rfl, hle, hI, hit, S⟩
  have hmem : (I, AO.raw o) ∈ led ++ [(I, AO.raw o)] := List.mem_append_right _ (.head _)
  have hget := (S.hled _ hmem).2.2.1
  have hsd := hside i m led s' hI S.left
  rcases Nat.lt_or_ge i n with hlt | hge
  · refine wpAny_mono (W.next i s' I o (fun v s₁ => wpAny (Md x.c) x.A (assign target x.env v) (fun _ s₂ => wpAny (Md x.c) x.A (execs body x.env) (fun f s₃ => match f with
        | .next | .cont => ∃ k', k' < n - i ∧ ∃ i m led o, k' = n - i ∧ i ≤ n ∧ Inv i m led ∧ It i o ∧ St x m (led ++ [(I, .raw o)]) s₃
        | .brk => wpAny (Md x.c) x.A (execs rest x.env) Q nE s₃
        | .ret v => Q (.ret v) s₃) nE s₂) nE s₁) hlt hget hit hsd S.tabs (fun o' h' tk v hit' hget' hsb hP htk => ?_)) (fun r s₁ h => ?_) fun _ _ e => e.elim
    · have S₁ : St x m (led ++ [(I, .raw o')]) { s' with heap := h', toks := tk } := by
        have hnd := S.nodup
        rw [List.map_append] at hnd
        have hI' := S.hled _ hmem
        exact ((S.extBut hsb).toks tk (Nat.lt_of_lt_of_le S.tk htk)).add' hI'.1 hI'.2.1 (fun hm => (List.nodup_append.mp hnd).2.2 _ hm _ (by simp) rfl) ⟨hget', W.plain _ _ hit'⟩
      refine wpAny_mono (step i m led I o' v _ hlt hI hit' hP S₁) (fun _ s₂ h₂ => wpAny_mono h₂ (fun f s₃ h₃ => ?_) fun _ _ e => e) fun _ _ e => e
      cases f with
      | next => obtain ⟨m', led', hI', S'⟩ := h₃; exact ⟨n - (i + 1), by omega, i + 1, m', led', o', rfl, hlt, hI', hit', S'⟩
      | cont => obtain ⟨m', led', hI', S'⟩ := h₃; exact ⟨n - (i + 1), by omega, i + 1, m', led', o', rfl, hlt, hI', hit', S'⟩
      | brk => exact h₃.elim
      | ret v => exact h₃
    · cases r with
      | none => exact h.elim
      | some v => exact wpAny_mono h (fun _ s₂ h₂ => wpAny_mono h₂ (fun _ s₃ h₃ => wpAny_mono h₃ (fun f s₄ h₄ => by cases f <;> exact h₄) fun _ _ e => e.elim) fun _ _ e => e.elim) fun _ _ e => e.elim
  · have e : i = n := Nat.le_antisymm hle hge
    subst e
    refine wpAny_mono (W.done s' I o _ hget hit hsd (fun h' he => ?_)) (fun _ _ h => h) fun _ _ e => e.elim
    have S₁ := S.extBut he
    exact wpAny_execs_nil (fin m led hI _ S₁)

end
end
end Mine
end
section
open PySem PySem.W PySem.Calls PyProof.Rows
set_option Elab.async false
set_option maxRecDepth 100000
set_option linter.all false
namespace Mine
noncomputable section

section
variable {x : Cx} {m : Lc} {led : Ld} {Q : Flow → Shared → Prop}

abbrev ItList (a : Addr) (i : Nat) (o : Obj) : Prop := o.cls = .type "list_iterator" ∧ o.data = .fields #[.ref a, .int i 0]
abbrev listObj (vs : Array Value) (n : Nat) : Obj := { cls := .type "list", data := .seq vs n }

theorem iter_list (a : Addr) (vs : Array Value) (n : Nat) (nm : Str) (p : Pos) : Iter x vs.size (ItList a) (fun h => h.get? a = some (listObj vs n)) (fun i v _ => vs[i]? = some v) (.Name nm p) where
  plain := fun i o h => by rw [h.1]; exact ⟨nofun, by simp, by simp⟩
  next := fun i s I o R hi ho hit hs _ k => by
    obtain ⟨v, hv⟩ : ∃ v, vs[i]? = some v := ⟨vs[i], by simp [hi]⟩
    refine wpAny_pyNext_list_item (l := a) ⟨o, ho, hit.1, hit.2⟩ ⟨_, hs, rfl, n, rfl⟩ hv fun h' ⟨o', ho', r⟩ hsb => ?_
    exact wpAny_pure (k o' h' s.toks v r ho' hsb.extBut hv (Nat.le_refl _))
  done := fun s I o R ho hit hs k => wpAny_pyNext_list_end x.hh (l := a) ⟨o, ho, hit.1, hit.2⟩ ⟨_, hs, rfl, n, rfl⟩ (by simp) k
abbrev ItRange (n : Nat) (i : Nat) (o : Obj) : Prop := o = { cls := .type "range_iterator", dict := none, data := .fields #[rawInt (i : Int), rawInt ((n : Int) - i), rawInt 1], slots := #[] }
theorem iter_range (n : Nat) (nm : Str) (p : Pos) : Iter x n (ItRange n) (fun _ => True) (fun i v _ => (V.int i).rep v) (.Name nm p) where
  plain := fun i o h => by rw [h]; exact ⟨nofun, by simp, by simp⟩
  next := fun i s I o R hi ho hit hs _ k => by
    subst hit
    refine wpAny_pyNext_range_item (x := i) (left := (n : Int) - i) (step := 1) ho (by omega) fun h' hit' hsb => ?_
    refine wpAny_pure (k _ h' _ _ ?_ hit' hsb.extBut ⟨_, rfl⟩ (Nat.le_succ _))
    show _ = _
    rw [show ((i + 1 : Nat) : Int) = (i : Int) + 1 from by omega, show (n : Int) - (i + 1) = (n : Int) - i - 1 from by omega]
  done := fun s I o R ho hit hs k => by
    subst hit
    exact wpAny_pyNext_range_end x.hh (x := n) (left := (n : Int) - n) (step := 1) ho (by omega) k

abbrev ItStr (ty : String) (y : Str) (t : Tok) (i : Nat) (o : Obj) : Prop := o.cls = .type ty ∧ o.data = .fields #[.str y t, .int i 0]
theorem iter_ascii (l : List Nat) (t : Tok) (nm : Str) (p : Pos) : Iter x l.length (ItStr "str_ascii_iterator" (mkS l) t) (fun _ => True) (fun i v _ => ∃ c, l[i]? = some c ∧ (V.str [c]).rep v) (.Name nm p) where
  plain := fun i o h => by rw [h.1]; exact ⟨nofun, by simp, by simp⟩
  next := fun i s I o R hi ho hit hs _ k => by
    obtain ⟨c, hc⟩ : ∃ c, l[i]? = some c := ⟨l[i], by simp [hi]⟩
    refine wpAny_pyNext_ascii_item ⟨o, ho, hit.1, hit.2⟩ (c := c) (by simpa [mkS] using hc) fun h' ⟨o', ho', r⟩ hsb => ?_
    exact wpAny_pure (k o' h' _ _ r ho' hsb.extBut ⟨c, hc, _, rfl⟩ (Nat.le_succ _))
  done := fun s I o R ho hit hs k => wpAny_pyNext_ascii_end x.hh ⟨o, ho, hit.1, hit.2⟩ (by simp [mkS]) k
theorem iter_wide (l : List Nat) (t : Tok) (nm : Str) (p : Pos) : Iter x l.length (ItStr "str_iterator" (mkS l) t) (fun _ => True) (fun i v _ => ∃ c, l[i]? = some c ∧ (V.str [c]).rep v) (.Name nm p) where
  plain := fun i o h => by rw [h.1]; exact ⟨nofun, by simp, by simp⟩
  next := fun i s I o R hi ho hit hs _ k => by
    obtain ⟨c, hc⟩ : ∃ c, l[i]? = some c := ⟨l[i], by simp [hi]⟩
    refine wpAny_pyNext_wide_item ⟨o, ho, hit.1, hit.2⟩ (c := c) (by simpa [mkS] using hc) fun h' ⟨o', ho', r⟩ hsb => ?_
    exact wpAny_pure (k o' h' _ _ r ho' hsb.extBut ⟨c, hc, _, rfl⟩ (Nat.le_succ _))
  done := fun s I o R ho hit hs k => wpAny_pyNext_wide_end x.hh ⟨o, ho, hit.1, hit.2⟩ (by simp [mkS]) k

/-- what a turn is to end in -/
def TurnQ (x : Cx) (Inv : Nat → Lc → Ld → Prop) (i : Nat) (I : Addr) (o : Obj) (Q : Flow → Shared → Prop) : Flow → Shared → Prop := fun f s₃ => match f with
  | .next | .cont => ∃ m' led', Inv (i + 1) m' led' ∧ St x m' (led' ++ [(I, .raw o)]) s₃
  | .brk => False
  | .ret v => Q (.ret v) s₃

/-- for over a list that stood ahead of the call -/
theorem SX.forOld {t : Nat} {nm : Str} {p pos : Pos} {iter : Expr} {body rest : List Stmt} {a : Addr} {xs : List V} (ht : x.ns[t]? = some nm) (hi : EV x m led iter (.ref a)) (hL : ListAt x.B a xs) (Inv : Nat → Lc → Ld → Prop) (h0 : Inv 0 m led)
    (step : ∀ i v m led I o, xs[i]? = some v → Inv i m led → SX x body (m.set t (some v)) (led ++ [(I, .raw o)]) (TurnQ x Inv i I o Q))
    (fin : ∀ m led, Inv xs.length m led → SX x rest m led Q) (hs : ∀ v, foldedSetIterable iter x.env v = pure v := by intro _; rfl) : SX x (.For (.Name nm p) iter body [] pos :: rest) m led Q := fun s S => by
  obtain ⟨vs, n, e, r⟩ := hL
  have hlen : xs.length = vs.size := by simpa using r.length
  have side : ∀ {m led} {s : Shared}, St x m led s → s.heap.get? a = some (listObj vs n) := fun S => S.keep _ _ (x.tB.ne60 e nofun) (x.tB.ne48 e nofun) e
  refine wpAny_execs_cons (wpAny_For (wpAny_mono (hi s S) (fun u s₁ h₁ => ?_) fun _ _ e => e) hs)
  obtain ⟨E₁, rfl⟩ := h₁
  have S₁ := S.ext E₁
  refine wpAny_pyIter_list ⟨_, side S₁, rfl, n, rfl⟩ ?_
  have S₂ : St x m (led ++ [(s₁.heap.objs.size, .raw { cls := .type "list_iterator", data := .fields #[.ref a, .int 0 0] })]) { s₁ with heap := s₁.heap.push { cls := .type "list_iterator", data := .fields #[.ref a, .int 0 0] } } :=
    S₁.add (S₁.grow fun b o e => Heap.get?_push_of_some _ e) (Nat.le_refl _) ⟨Heap.get?_push_size _ rfl, nofun, by simp, by simp⟩
  refine for_loop (iter_list a vs n nm p) Inv (fun i m led s _ S => side S) (fun i m led I o v s hlt hI hit hv S => ?_) (fun m led hI => fin m led (hlen ▸ hI)) S₂ h0 ⟨rfl, rfl⟩
  obtain ⟨w, hw⟩ : ∃ w, xs[i]? = some w := ⟨xs[i], by simp [hlen, hlt]⟩
  obtain ⟨u, hu, ru⟩ := F2.toList_get r hw
  rw [hv] at hu; cases hu
  exact wpAny_assign_Name (store_wp S ht ru fun s' S' => wpAny_mono (step i w m led I o hw hI s' S') (fun f s₃ h => by cases f <;> exact h) fun _ _ e => e)

/-- for over a text's signs -/
theorem SX.forStr {t : Nat} {nm : Str} {p pos : Pos} {iter : Expr} {body rest : List Stmt} {l : List Nat} (ht : x.ns[t]? = some nm) (hi : EV x m led iter (.str l)) (Inv : Nat → Lc → Ld → Prop) (h0 : Inv 0 m led)
    (step : ∀ i c m led I o, l[i]? = some c → Inv i m led → SX x body (m.set t (some (.str [c]))) (led ++ [(I, .raw o)]) (TurnQ x Inv i I o Q))
    (fin : ∀ m led, Inv l.length m led → SX x rest m led Q) (hs : ∀ v, foldedSetIterable iter x.env v = pure v := by intro _; rfl) : SX x (.For (.Name nm p) iter body [] pos :: rest) m led Q := fun s S => by
  refine wpAny_execs_cons (wpAny_For (wpAny_mono (hi s S) (fun u s₁ h₁ => ?_) fun _ _ e => e) hs)
  obtain ⟨E₁, tk, rfl⟩ := h₁
  have S₁ := S.ext E₁
  have turn : ∀ i m led I o v s, Inv i m led → (∃ c, l[i]? = some c ∧ (V.str [c]).rep v) → St x m (led ++ [(I, .raw o)]) s → wpAny (Md x.c) x.A (PySem.assign (.Name nm p) x.env v) (fun _ s₂ => wpAny (Md x.c) x.A (execs body x.env) (fun f s₃ => match f with
        | .next | .cont => ∃ m' led', Inv (i + 1) m' led' ∧ St x m' (led' ++ [(I, .raw o)]) s₃
        | .brk => False
        | .ret v => Q (.ret v) s₃) nE s₂) nE s := by
    rintro i m led I o v s hI ⟨c, hc, r⟩ S
    exact wpAny_assign_Name (store_wp S ht r fun s' S' => wpAny_mono (step i c m led I o hc hI s' S') (fun f s₃ h => by cases f <;> exact h) fun _ _ e => e)
  cases ha : (mkS l).cps.all (· < 128)
  · refine wpAny_pyIter_wide ha ?_
    have S₂ := S₁.add (o := .raw { cls := .type "str_iterator", data := .fields #[.str (mkS l) tk, .int 0 0] }) (S₁.grow fun b o e => Heap.get?_push_of_some { cls := .type "str_iterator", data := .fields #[.str (mkS l) tk, .int 0 0] } e) (Nat.le_refl _) ⟨Heap.get?_push_size _ rfl, nofun, by simp, by simp⟩
    exact for_loop (iter_wide l tk nm p) Inv (fun _ _ _ _ _ _ => trivial) (fun i m led I o v s hlt hI hit hv S => turn i m led I o v s hI hv S) fin S₂ h0 ⟨rfl, rfl⟩
  · refine wpAny_pyIter_ascii ha ?_
    have S₂ := S₁.add (o := .raw { cls := .type "str_ascii_iterator", data := .fields #[.str (mkS l) tk, .int 0 0] }) (S₁.grow fun b o e => Heap.get?_push_of_some { cls := .type "str_ascii_iterator", data := .fields #[.str (mkS l) tk, .int 0 0] } e) (Nat.le_refl _) ⟨Heap.get?_push_size _ rfl, nofun, by simp, by simp⟩
    exact for_loop (iter_ascii l tk nm p) Inv (fun _ _ _ _ _ _ => trivial) (fun i m led I o v s hlt hI hit hv S => turn i m led I o v s hI hv S) fin S₂ h0 ⟨rfl, rfl⟩

/-- a range of n -/
abbrev isRange (n : Nat) : Nat → Value → Heap → Prop := fun _ v h' => ∃ a t u w, v = .ref a ∧ IsRange h' a 0 n 1 t u w
theorem isRange_mono {n : Nat} : PMono (isRange n) := fun _ _ _ _ _ h => h
theorem EX.range {p pos : Pos} {e : Expr} {n : Nat} (hf : EV x m led (.Name "range" p) (.ty "range")) (ha : EV x m led e (.int n)) (hs : notStar e = true) : EX x m led (.Call (.Name "range" p) [e] [] pos) (isRange n) := by
  refine .callT hf (.cons ha .nil hs) isRange_mono ?_
  rintro s _ S (_ | ⟨⟨t, rfl⟩, _ | _⟩)
  exact call_range_1 ⟨((Ext.self S).push _).toks _, _, _, _, _, rfl, Heap.get?_push_size _ rfl⟩

theorem small_range (n : Nat) (h : n ≤ 100000) : Builtin.Range.small 0 (n : Int) 1 = true ∧ Builtin.Range.rangeSize 0 (n : Int) 1 = n := by
  have e : Builtin.Range.rangeSize 0 (n : Int) 1 = n := by
    unfold Builtin.Range.rangeSize
    rw [if_pos (by decide)]
    split <;> omega
  refine ⟨?_, e⟩
  unfold Builtin.Range.small
  rw [e]
  unfold Builtin.Range.rangeFitsLong
  simp
  omega

theorem SX.forRange {t : Nat} {nm : Str} {p pos : Pos} {iter : Expr} {body rest : List Stmt} {n : Nat} (ht : x.ns[t]? = some nm) (hi : EX x m led iter (isRange n)) (hn : n ≤ 100000) (Inv : Nat → Lc → Ld → Prop) (h0 : Inv 0 m led)
    (step : ∀ i m led I o, i < n → Inv i m led → SX x body (m.set t (some (.int i))) (led ++ [(I, .raw o)]) (TurnQ x Inv i I o Q))
    (fin : ∀ m led, Inv n m led → SX x rest m led Q) (hs : ∀ v, foldedSetIterable iter x.env v = pure v := by intro _; rfl) : SX x (.For (.Name nm p) iter body [] pos :: rest) m led Q := fun s S => by
  refine wpAny_execs_cons (wpAny_For (wpAny_mono (hi s S) (fun u s₁ h₁ => ?_) fun _ _ e => e) hs)
  obtain ⟨E₁, a, t1, t2, t3, rfl, hr⟩ := h₁
  have S₁ := S.ext E₁
  obtain ⟨h1, h2⟩ := small_range n hn
  refine wpAny_pyIter_range hr h1 ?_
  rw [h2]
  have S₂ := S₁.add (o := .raw { cls := .type "range_iterator", data := .fields #[rawInt 0, rawInt (n : Int), rawInt 1] }) (S₁.grow fun b o e => Heap.get?_push_of_some { cls := .type "range_iterator", data := .fields #[rawInt 0, rawInt (n : Int), rawInt 1] } e) (Nat.le_refl _) ⟨Heap.get?_push_size _ rfl, nofun, by simp, by simp⟩
  refine for_loop (iter_range n nm p) Inv (fun _ _ _ _ _ _ => trivial) (fun i m led I o v s hlt hI hit hv S => ?_) fin S₂ h0 (by simp)
  exact wpAny_assign_Name (store_wp S ht hv fun s' S' => wpAny_mono (step i m led I o hlt hI s' S') (fun f s₃ h => by cases f <;> exact h) fun _ _ e => e)

end
end
end Mine
end
section
open PySem PySem.W PySem.Calls PyProof.Rows
set_option Elab.async false
set_option maxRecDepth 100000
set_option linter.all false
namespace Mine
noncomputable section

def fdOf (P : Params) (f : Addr) : FuncData := match (KF P).lookup f with
  | some o => (match o.data with | .func fd => fd | _ => default)
  | none => default
def bodyOf (P : Params) (f : Addr) : List Stmt := match (fdOf P f).body with
  | .stmts b => b
  | .expr _ => []

structure Dyn (c : Wd) where
  A : Around
  L : Addr
  B : Heap
  os : OsState
  lvl : Nat
  hh : A.handled = none
  hdep : A.depth + 10 * lvl + 10 < recursionLimit
  hun : A.units + 100 * lvl + 100 < cLine
  hB : Base c B
  tB : Tabs B
  hL : B.objs.size ≤ L

/-- what is known of a def of the top: its object in the written part, its code's record, its names -/
structure Fn (c : Wd) (f cd : Addr) (ns : List Str) (k : Nat) : Prop where
  ob : ∃ o doc pm, c.K.lookup f = some o ∧ o.data = .func (docDef (fdOf c.w.params f).name (fdOf c.w.params f).params (bodyOf c.w.params f) (fdOf c.w.params f).scope pm (.ref cd) doc) ∧
    (∀ us : List Value, us.length = k → bindArgs (docDef (fdOf c.w.params f).name (fdOf c.w.params f).params (bodyOf c.w.params f) (fdOf c.w.params f).scope pm (.ref cd) doc) ⟨us, []⟩ = pure ((ns.take k).zip us))
  cod : ∃ oc fs t, c.K.lookup cd = some oc ∧ oc.data = .fields fs ∧ fs[1]? = some (.str (fdOf c.w.params f).name t)
  hns : (ns.all fun n => (fdOf c.w.params f).scope.names.lookup n == some .local) = true
  hnd : (ns.eraseDups.length == ns.length) = true
  le : k ≤ ns.length
  co : (fdOf c.w.params f).scope.isCoroutine = false
  gen : (fdOf c.w.params f).scope.isGenerator = false
  kind : (fdOf c.w.params f).scope.kind = .function
  cell : ((fdOf c.w.params f).scope.names.all fun y => y.2 != .cell) = true

theorem nodup_of_eraseDups {α : Type} [BEq α] [LawfulBEq α] : ∀ (n : Nat) (l : List α), l.length ≤ n → l.eraseDups.length = l.length → l.Nodup
  | _, [], _, _ => .nil
  | 0, a :: r, h, _ => by simp at h
  | n + 1, a :: r, h, e => by
    rw [List.eraseDups_cons] at e
    simp only [List.length_cons, Nat.add_right_cancel_iff] at e h
    have h1 : (r.filter fun b => !b == a).eraseDups.length ≤ (r.filter fun b => !b == a).length := by
      have : ∀ (k : Nat) (l : List α), l.length ≤ k → l.eraseDups.length ≤ l.length := by
        intro k
        induction k with
        | zero => intro l hl; have : l = [] := List.eq_nil_of_length_eq_zero (Nat.le_zero.mp hl); subst this; simp
        | succ k ih =>
          intro l hl
          cases l with
          | nil => simp
          | cons b s =>
            rw [List.eraseDups_cons]
            simp only [List.length_cons] at hl ⊢
            have hf : (s.filter fun c => !c == b).length ≤ s.length := List.length_filter_le _ _
            have := ih (s.filter fun c => !c == b) (by omega)
            omega
      exact this _ _ (Nat.le_refl _)
    have h2 : (r.filter fun b => !b == a).length ≤ r.length := List.length_filter_le _ _
    have h3 : (r.filter fun b => !b == a).length = r.length := by omega
    have h4 : r.filter (fun b => !b == a) = r := List.filter_sublist.eq_of_length h3
    refine List.nodup_cons.mpr ⟨fun hm => ?_, nodup_of_eraseDups n r (by omega) (by rw [h4] at e; exact e)⟩
    have := List.filter_eq_self.mp h4 a hm
    simp at this

abbrev Fn.cx {c : Wd} {f cd : Addr} {ns : List Str} {k : Nat} (F : Fn c f cd ns k) (d : Dyn c) : Cx where
  c := c
  A := d.A
  env := envOf (fdOf c.w.params f).name (fdOf c.w.params f).scope d.L f (.ref cd)
  B := d.B
  ns := ns
  os := d.os
  lvl := d.lvl
  hh := d.hh
  hdep := d.hdep
  hun := d.hun
  hk := F.kind
  hg := rfl
  hb := rfl
  hns := fun i n e => by
    show (fdOf c.w.params f).scope.names.lookup n = some .local
    simpa using List.all_eq_true.mp F.hns n (List.mem_of_getElem? e)
  hnd := nodup_of_eraseDups _ ns (Nat.le_refl _) (by simpa using F.hnd)
  hB := d.hB
  tB := d.tB
  hL := d.hL

theorem Fn.ct {c : Wd} {f cd : Addr} {ns : List Str} {vs : List V} (F : Fn c f cd ns vs.length) {lvl : Nat} {Pre : Heap → Prop} {R : Nat → Value → Heap → Prop}
    (hbody : ∀ d : Dyn c, d.lvl + 1 = lvl → Pre d.B → SX (F.cx d) (bodyOf c.w.params f) (vs.map some ++ List.replicate (ns.length - vs.length) none) [] (FQ (F.cx d) R)) (hlv : 0 < lvl := by decide) : Ct c f lvl vs Pre R := by
  obtain ⟨o, doc, pm, h1, h2, h3⟩ := F.ob
  obtain ⟨oc, fs, t, h4, h5, h6⟩ := F.cod
  refine Ct.of ns h1 h2 h4 h5 h6 F.hns (nodup_of_eraseDups _ ns (Nat.le_refl _) (by simpa using F.hnd)) F.le h3 (fun x hc hl hn he hp => ?_) F.co F.gen F.kind (fun y hy => by simpa using List.all_eq_true.mp F.cell y hy) hlv
  obtain ⟨L, he⟩ := he
  obtain ⟨xc, xA, xenv, xB, xns, xos, xlvl, xhh, xhdep, xhun, xhk, xhg, xhb, xhns, xhnd, xhB, xtB, xhL⟩ := x
  change xc = c at hc
  subst hc
  change xns = ns at hn
  subst hn
  change xenv = envOf (fdOf xc.w.params f).name (fdOf xc.w.params f).scope L f (.ref cd) at he
  subst he
  exact hbody ⟨xA, L, xB, xos, xlvl, xhh, xhdep, xhun, xhB, xtB, xhL⟩ hl hp

section
variable {x : Cx} {m : Lc} {led : Ld} {Q : Flow → Shared → Prop}
/-- a tuple, new or not -/
abbrev isTupO (vs : List V) : Nat → Value → Heap → Prop := fun _ v h' => ∃ a, v = .ref a ∧ TupAt h' a vs
theorem isTupO_mono {vs : List V} : PMono (isTupO vs) := fun _ _ _ _ _ h => h
theorem isTupO_keep {vs : List V} : PKeep (isTupO vs) := fun _ _ _ _ ⟨a, e, t⟩ T k => ⟨a, e, t.keep T k⟩
theorem EX.tupO {e : Expr} {vs : List V} (h : EX x m led e (isTup vs)) : EX x m led e (isTupO vs) := h.imp fun _ _ _ ⟨a, e, t, _⟩ => ⟨a, e, t⟩

theorem getItem_pairsAt {s : Shared} (S : St x m led s) {a : Addr} {xs : List (List Nat × List Nat)} {k : Int} {t : Tok} {v : List Nat × List Nat} (L : PairsAt s.heap a xs) (h0 : 0 ≤ k) (hlt : k < 2 ^ 63) (hv : xs[k.toNat]? = some v) {n : Nat} :
    SubOn x (.ref a) (.int k t) (fun w s' => Ext x.c s s' ∧ isTupO [.str v.1, .str v.2] n w s'.heap) s := by
  obtain ⟨vs, nn, e, r⟩ := L
  obtain ⟨u, e', b, rfl, tb⟩ := r.get hv
  exact ⟨"list", _, slot_list_getitem.lookup, ⟨_, e, rfl⟩, wpAny_getItem_list ⟨_, e, rfl, nn, rfl⟩ h0 hlt (by simpa using e') ⟨.self S, b, rfl, tb⟩⟩
theorem EX.pairItem {value slice : Expr} {pos : Pos} {a : Addr} {xs : List (List Nat × List Nat)} {k : Int} {v : List Nat × List Nat} (ho : EV x m led value (.ref a)) (hi : EV x m led slice (.int k)) (hL : ∀ s, St x m led s → PairsAt s.heap a xs) (h0 : 0 ≤ k) (hlt : k < 2 ^ 63) (hv : xs[k.toNat]? = some v) :
    EX x m led (.Subscript value slice pos) (isTupO [.str v.1, .str v.2]) := by
  refine .sub ho isV_keep hi ?_
  rintro n s _ _ S rfl ⟨u, rfl⟩ _
  exact getItem_pairsAt S (hL s S) h0 hlt hv
theorem EX.len_pairs {p pos : Pos} {e : Expr} {a : Addr} {xs : List (List Nat × List Nat)} (hf : EV x m led (.Name "len" p) (.bi "len")) (ha : EV x m led e (.ref a)) (hs : notStar e = true) (hL : ∀ s, St x m led s → PairsAt s.heap a xs) (hsz : xs.length ≤ 100000) :
    EV x m led (.Call (.Name "len" p) [e] [] pos) (.int xs.length) := by
  refine .callB hf (.cons ha .nil hs) isV_mono ?_
  rintro s _ S (_ | ⟨rfl, _ | _⟩)
  obtain ⟨vs, n, e1, r⟩ := hL s S
  have e' : vs.size = xs.length := by simpa using r.length.symm
  exact call_len_list ⟨_, e1, rfl, n, rfl⟩ (by rw [e']; omega) ⟨(Ext.self S).toks _, _, by rw [e']⟩
theorem SX.unpackO {elts : List Expr} {is : List Nat} {k : Nat} {pt pos : Pos} {e : Expr} {rest : List Stmt} {vs : List V} (hn : Names x elts is) (he : EX x m led e (isTupO vs)) (hl : is.length = vs.length)
    (kk : SX x rest (setAll m is vs) led Q)
    (hs : swapsWithSole [.Tuple elts k pt] e pos.line x.env = pure false := by rfl) (hw : swappedStores [.Tuple elts k pt] e x.env = pure none := by rfl) : SX x (.Assign [.Tuple elts k pt] e pos :: rest) m led Q :=
  SX.unpackG hn he (fun _ _ _ _ S' ⟨a, e, T⟩ => ⟨a, vs, led, e, T, hl, S', kk⟩) hs hw
end

end
end Mine
end
section
open PySem PySem.W PySem.Calls PyProof.Rows
set_option Elab.async false
set_option maxRecDepth 100000
set_option linter.all false
namespace Mine
noncomputable section

def dget {β : Type} (kvs : List (List Nat × β)) (k : List Nat) : Option β := (kvs.find? fun p => p.1 == k).map (·.2)
def dset {β : Type} (kvs : List (List Nat × β)) (k : List Nat) (v : β) : List (List Nat × β) :=
  if kvs.any (fun p => p.1 == k) then kvs.map (fun p => if p.1 == k then (p.1, v) else p) else kvs ++ [(k, v)]
def ddel {β : Type} (kvs : List (List Nat × β)) (k : List Nat) : List (List Nat × β) := kvs.filter fun p => p.1 != k

abbrev SK (w : World) := strKind PG w
def KV (p : List Nat × V) (q : Str × Value) : Prop := q.1 = mkS p.1 ∧ p.2.rep q.2

theorem F2.pairs_of {w : World} : ∀ {kvs : List (List Nat × V)} {es : List DictEntry}, F2 (EntryRep w.params) kvs es → ∃ kvs', F2 KV kvs kvs' ∧ Pairs (SK w) es kvs' ∧ ∀ e ∈ es, ∃ k, (SK w).is k e.key = true ∧ e.hash = (SK w).hash k
  | [], [], .nil => ⟨[], .nil, .nil, fun _ h => nomatch h⟩
  | (k, v) :: _, e :: _, .cons ⟨⟨t, h1⟩, h2, h3⟩ r => by
    obtain ⟨l, a, b, c⟩ := F2.pairs_of r
    refine ⟨(mkS k, e.val) :: l, .cons ⟨rfl, h3⟩ a, .cons (by rw [h1]; exact strKind_is _ _ _ _) rfl b, ?_⟩
    intro e' he'
    rcases List.mem_cons.mp he' with q | q
    · subst q; exact ⟨mkS k, by rw [h1]; exact strKind_is _ _ _ _, h2⟩
    · exact c _ q
theorem F2.pairs_to {w : World} : ∀ {kvs : List (List Nat × V)} {kvs' : List (Str × Value)} {es : List DictEntry}, F2 KV kvs kvs' → Pairs (SK w) es kvs' → (∀ e ∈ es, ∃ k, (SK w).is k e.key = true ∧ e.hash = (SK w).hash k) → F2 (EntryRep w.params) kvs es
  | [], [], [], .nil, .nil, _ => .nil
  | (k, v) :: _, (k', v') :: _, e :: _, .cons ⟨h1, h2⟩ r, .cons a b c, hk => by
    refine .cons ?_ (F2.pairs_to r c fun e' he' => hk e' (List.mem_cons_of_mem _ he'))
    obtain ⟨k2, q1, q2⟩ := hk e (.head _)
    have e1 : k' = mkS k := h1
    subst e1
    have e2 : k2 = mkS k := (SK w).inj _ _ _ q1 a
    subst e2
    obtain ⟨t, ht⟩ := Value.isStrOf_shape a
    refine ⟨⟨t, ht⟩, q2, ?_⟩
    rw [b]; exact h2
theorem KV.keys {kvs : List (List Nat × V)} {kvs' : List (Str × Value)} (h : F2 KV kvs kvs') : kvs'.map (·.1) = (kvs.map (·.1)).map mkS := by
  induction h with
  | nil => rfl
  | cons a _ ih => simp only [List.map_cons, ih, a.1]
theorem nodup_mkS {l : List (List Nat)} : (l.map mkS).Nodup ↔ l.Nodup := by
  induction l with
  | nil => simp
  | cons a l ih =>
    rw [List.map_cons, List.nodup_cons, List.nodup_cons, ih]
    have : mkS a ∈ l.map mkS ↔ a ∈ l := by
      rw [List.mem_map]
      constructor
      · rintro ⟨b, h1, h2⟩; rw [mkS_inj] at h2; exact h2 ▸ h1
      · intro h; exact ⟨a, h, rfl⟩
    rw [this]
theorem DictAt.of {w : World} {h : Heap} {a : Addr} {kvs : List (List Nat × V)} (D : DictAt w.params h a kvs) : ∃ kvs', h.DictOf (SK w) a kvs' ∧ F2 KV kvs kvs' := by
  obtain ⟨⟨es, n, e, r⟩, nd⟩ := D
  obtain ⟨l, h1, h2, h3⟩ := r.pairs_of
  refine ⟨l, ⟨_, es, n, e, ⟨rfl, rfl, rfl⟩, rfl, fun x hx => h3 x (by simpa using hx), h2, ?_⟩, h1⟩
  rw [KV.keys h1, nodup_mkS]; exact nd
theorem DictAt.to {w : World} {h : Heap} {a : Addr} {kvs : List (List Nat × V)} {kvs'} (D : h.DictOf (SK w) a kvs') (r : F2 KV kvs kvs') : DictAt w.params h a kvs := by
  obtain ⟨⟨cls, dd, data, sl⟩, es, n, e, ⟨x1, x2, x3⟩, hd, hk, hp, nd⟩ := D
  dsimp only at x1 x2 x3 hd
  subst x1 x2 x3 hd
  refine ⟨⟨es, n, e, F2.pairs_to r hp fun e' he' => hk e' (by simpa using he')⟩, ?_⟩
  rw [KV.keys r, nodup_mkS] at nd; exact nd

theorem KV.get {kvs : List (List Nat × V)} {kvs' : List (Str × Value)} (h : F2 KV kvs kvs') (k : List Nat) : (dget kvs k = none ∧ valueAt kvs' (mkS k) = none) ∨ ∃ v v', dget kvs k = some v ∧ valueAt kvs' (mkS k) = some v' ∧ v.rep v' := by
  induction h with
  | nil => exact .inl ⟨rfl, rfl⟩
  | @cons a b l l' r _ ih =>
    unfold dget valueAt at ih ⊢
    rw [List.find?_cons, List.find?_cons, r.1]
    by_cases hq : a.1 = k
    · subst hq
      simp only [beq_self_eq_true, decide_true]
      exact .inr ⟨_, _, rfl, rfl, r.2⟩
    · have e1 : (a.1 == k) = false := by simpa using hq
      have e2 : decide (mkS a.1 = mkS k) = false := decide_eq_false fun e => hq (mkS_inj.mp e)
      rw [e1, e2]
      exact ih
theorem KV.isSome {kvs : List (List Nat × V)} {kvs' : List (Str × Value)} (h : F2 KV kvs kvs') (k : List Nat) : (valueAt kvs' (mkS k)).isSome = (dget kvs k).isSome := by
  rcases KV.get h k with ⟨a, b⟩ | ⟨v, v', a, b, _⟩ <;> rw [a, b] <;> rfl
theorem any_KV {kvs : List (List Nat × V)} {kvs' : List (Str × Value)} (h : F2 KV kvs kvs') (k : List Nat) : (kvs'.any fun kv => decide (kv.1 = mkS k)) = kvs.any fun p => p.1 == k := by
  induction h with
  | nil => rfl
  | @cons a b l l' r _ ih =>
    rw [List.any_cons, List.any_cons, ih, r.1]
    congr 1
    by_cases hq : a.1 = k
    · simp [hq]
    · simp only [beq_eq_false_iff_ne.mpr hq]; exact decide_eq_false fun e => hq (mkS_inj.mp e)
theorem KV.map {kvs : List (List Nat × V)} {kvs' : List (Str × Value)} (h : F2 KV kvs kvs') (k : List Nat) {v : V} {v' : Value} (r : v.rep v') : F2 KV (kvs.map (fun p => if p.1 == k then (p.1, v) else p)) (kvs'.map fun kv => if kv.1 = mkS k then (kv.1, v') else kv) := by
  induction h with
  | nil => exact .nil
  | @cons a b l l' q _ ih =>
    rw [List.map_cons, List.map_cons]
    refine .cons ?_ ih
    by_cases hq : a.1 = k
    · rw [if_pos (by simpa using hq), if_pos (by rw [q.1, hq])]; exact ⟨q.1, r⟩
    · rw [if_neg (by simpa using hq), if_neg (by rw [q.1]; exact fun e => hq (mkS_inj.mp e))]; exact q
theorem KV.stored {kvs : List (List Nat × V)} {kvs' : List (Str × Value)} (h : F2 KV kvs kvs') (k : List Nat) {v : V} {v' : Value} (r : v.rep v') : F2 KV (dset kvs k v) (PySem.stored kvs' (mkS k) v') := by
  unfold dset PySem.stored
  rw [any_KV h k]
  split
  · exact KV.map h k r
  · exact h.append (.cons ⟨rfl, r⟩ .nil)
theorem KV.without {kvs : List (List Nat × V)} {kvs' : List (Str × Value)} (h : F2 KV kvs kvs') (k : List Nat) : F2 KV (ddel kvs k) (PySem.without kvs' (mkS k)) := by
  induction h with
  | nil => exact .nil
  | @cons a b l l' r _ ih =>
    unfold ddel PySem.without at ih ⊢
    rw [List.filter_cons, List.filter_cons]
    by_cases hq : a.1 = k
    · rw [if_neg (by simp [hq]), if_neg (by simp [r.1, hq])]; exact ih
    · rw [if_pos (by simpa using hq), if_pos (by rw [r.1]; simpa using fun e => hq (mkS_inj.mp e))]; exact .cons r ih
theorem F2.lenEq {kvs : List (List Nat × V)} {kvs' : List (Str × Value)} (h : F2 KV kvs kvs') : kvs'.length = kvs.length := h.length.symm

section
variable {x : Cx} {m : Lc} {led : Ld} {Q : Flow → Shared → Prop}

theorem sysMods {a : Addr} (h : a ≠ 1) : (a == sysModules) = false := by simpa [sysModules] using h

theorem cmp_in_dict {a : Addr} {kvs : List (List Nat × V)} {k : List Nat} (hD : ∀ s, St x m led s → DictAt x.c.w.params s.heap a kvs) (ha : a ≠ 1) : CmpOk x m led .In (.str k) (.ref a) (dget kvs k).isSome := by
  rintro s _ _ S ⟨t, rfl⟩ rfl
  obtain ⟨kvs', D, r⟩ := (hD s S).of
  refine wpAny_in_of (knd := SK x.c.w) (strKind_is _ _ _ _) (sysMods ha) D.mapOf ⟨.selfT S _, ?_⟩
  rw [KV.isSome r]

theorem EX.dictItem {value slice : Expr} {pos : Pos} {a : Addr} {kvs : List (List Nat × V)} {k : List Nat} {v : V} (ho : EV x m led value (.ref a)) (hi : EV x m led slice (.str k)) (hD : ∀ s, St x m led s → DictAt x.c.w.params s.heap a kvs) (hv : dget kvs k = some v) :
    EV x m led (.Subscript value slice pos) v := by
  refine .sub ho isV_keep hi ?_
  rintro n s _ _ S rfl ⟨u, rfl⟩ _
  obtain ⟨kvs', D, r⟩ := (hD s S).of
  rcases KV.get r k with ⟨e, _⟩ | ⟨v1, v', e1, e2, rv⟩
  · rw [hv] at e; cases e
  · rw [hv] at e1; cases e1
    exact ⟨"dict", _, slot_dict_getitem.lookup, D.typeIs, wpAny_getItem_of (knd := SK x.c.w) (strKind_is _ _ _ _) D.mapOf e2 ⟨.selfT S _, rv⟩⟩

/-- «{}» -/
abbrev isDict (c : Wd) (kvs : List (List Nat × V)) : Nat → Value → Heap → Prop := fun n v h' => ∃ a, v = .ref a ∧ DictAt c.w.params h' a kvs ∧ n ≤ a
theorem isDict_mono {kvs} {c : Wd} : PMono (isDict c kvs) := fun _ _ _ _ hn ⟨a, e, t, l⟩ => ⟨a, e, t, Nat.le_trans hn l⟩
theorem isDict_keep {kvs} {c : Wd} : PKeep (isDict c kvs) := fun _ _ _ _ ⟨a, e, t, l⟩ T k => ⟨a, e, t.keep T k, l⟩
theorem isDict_rep {kvs} {c : Wd} : ∀ n v h, isDict c kvs n v h → ∃ a, v = .ref a ∧ (AO.dict kvs).rep c.w.params h a ∧ n ≤ a := fun _ _ _ h => h
theorem EX.dictNew {pos : Pos} : EX x m led (.Dict [] [] pos) (isDict x.c []) := fun s S =>
  wpAny_Dict_empty ⟨(Ext.self S).push _, _, rfl, ⟨⟨#[], 0, Heap.get?_push_size _ rfl, .nil⟩, .nil⟩, Nat.le_refl _⟩

theorem ledDict {s : Shared} (S : St x m led s) {i : Nat} {a : Addr} {kvs} (hk : led[i]? = some (a, .dict kvs)) : DictAt x.c.w.params s.heap a kvs := (S.hled _ (List.mem_of_getElem? hk)).2.2

/-- «d[k] = v» -/
theorem SX.setItem (i : Nat) {o key e : Expr} {p pos : Pos} {rest : List Stmt} {a : Addr} {kvs : List (List Nat × V)} {k : List Nat} {v : V} (he : EV x m led e v) (ho : EV x m led o (.ref a)) (hkey : EV x m led key (.str k))
    (hk : led[i]? = some (a, .dict kvs)) (hsz : kvs.length ≤ 1000) (kk : SX x rest m (led.set i (a, .dict (dset kvs k v))) Q)
    (hs : swapsWith e (some (.Subscript o key p)) pos.line x.env = pure false := by rfl) : SX x (.Assign [.Subscript o key p] e pos :: rest) m led Q := fun s S => by
  refine wpAny_execs_cons (wpAny_Assign_Subscript (wpAny_mono (he s S) (fun u s₁ h₁ => wpAny_mono (ho s₁ (S.ext h₁.1)) (fun ov s₂ h₂ => wpAny_mono (hkey s₂ ((S.ext h₁.1).ext h₂.1)) (fun kv s₃ h₃ => ?_) fun _ _ e => e) fun _ _ e => e) fun _ _ e => e) hs)
  have S₃ := ((S.ext h₁.1).ext h₂.1).ext h₃.1
  obtain ⟨t, rfl⟩ := h₃.2
  obtain rfl := h₂.2
  obtain ⟨kvs', D, r⟩ := (ledDict S₃ hk).of
  refine wpAny_setItem_pairs (knd := SK x.c.w) (strKind_is _ _ _ _) D (fun h' D' hs' => ?_) (by rw [r.lenEq, sizeLine_eq]; omega)
  exact kk _ (S₃.upd (o' := .dict (dset kvs k v)) hk hs' (DictAt.to D' (KV.stored r k h₁.2)) (Nat.succ_pos _))

/-- «del d[k]» -/
theorem SX.delItem (i : Nat) {o key : Expr} {p pos : Pos} {rest : List Stmt} {a : Addr} {kvs : List (List Nat × V)} {k : List Nat} (ho : EV x m led o (.ref a)) (hkey : EV x m led key (.str k))
    (hk : led[i]? = some (a, .dict kvs)) (hsz : kvs.length ≤ 1000) (hhas : (dget kvs k).isSome = true) (kk : SX x rest m (led.set i (a, .dict (ddel kvs k))) Q) : SX x (.Delete [.Subscript o key p] pos :: rest) m led Q := fun s S => by
  refine wpAny_execs_cons (wpAny_Delete (wpAny_deleteEach_cons (PyProof.Rows.delete_Subscript (wpAny_mono (ho s S) (fun ov s₂ h₂ => wpAny_mono (hkey s₂ (S.ext h₂.1)) (fun kv s₃ h₃ => ?_) fun _ _ e => e) fun _ _ e => e))))
  have S₃ := (S.ext h₂.1).ext h₃.1
  obtain ⟨t, rfl⟩ := h₃.2
  obtain rfl := h₂.2
  obtain ⟨kvs', D, r⟩ := (ledDict S₃ hk).of
  unfold PySem.delItem
  try with_reducible refine wpAny_holding ?_
  refine wpAny_bind (wpAny_sequenceKey D.typeIs (by decide) ?_)
  refine wpAny_bind (wpAny_callSpecial?_slot (name := Str.ofString "__delitem__") D.typeIs PySem.F.slot_dict_delitem
    (call_meetsIn PySem.F.slot_dict_delitem D.typeIs PySem.F.entry_dict_delitem (PySem.F.args_dict_delitem_2 _ _) (meets_dict_delitem_pairs (SK x.c.w) a (strKind_is _ _ _ _)) ⟨kvs', D, (by rw [r.lenEq, sizeLine_eq]; omega), by rw [KV.isSome r]; exact hhas, fun h' D' hs' => ?_⟩))
  refine wpAny_pure (wpAny_deleteEach_nil ?_)
  exact kk _ (S₃.upd (o' := .dict (ddel kvs k)) hk hs' (DictAt.to D' (KV.without r k)) (Nat.succ_pos _))

theorem dictT {a : Addr} {kvs : List (List Nat × V)} (hD : ∀ s, St x m led s → DictAt x.c.w.params s.heap a kvs) : ∀ s u, St x m led s → (V.ref a).rep u → s.TypeIs u "dict" ∧ (∀ b, u = .ref b → ∃ ob, s.heap.get? b = some ob ∧ ob.dict = none) := by
  rintro s _ S rfl
  obtain ⟨⟨es, n, e, r⟩, _⟩ := hD s S
  exact ⟨⟨_, e, rfl⟩, fun b q => by cases q; exact ⟨_, e, rfl⟩⟩
theorem mth_get : Mth "dict" "get" "dict.get" := ⟨F.plainAttrs_dict, F.slot_dict_get, F.type_dict_get⟩
theorem mth_pop : Mth "dict" "pop" "dict.pop" := ⟨F.plainAttrs_dict, F.slot_dict_pop, F.type_dict_pop⟩
end
end
end Mine
end
section
open PySem PySem.W PySem.Calls PyProof.Rows
set_option Elab.async false
set_option maxRecDepth 100000
set_option linter.all false
namespace Mine
noncomputable section

def V.isNone : V → Bool
  | .none => true
  | _ => false
def V.notBi : V → Bool
  | .bi _ => false
  | _ => true
/-- equality of two plain values, where it is asked -/
def veq : V → V → Bool
  | .none, .none => true
  | .int a, .int b => a == b
  | .str a, .str b => a == b
  | _, _ => false
def V.eqPlain : V → Bool
  | .none | .int _ | .str _ => true
  | _ => false
theorem veq_at {A : Around} {s : Shared} {a b : V} {u v : Value} (ha : a.rep u) (hb : b.rep v) (pa : a.eqPlain = true) (pb : b.eqPlain = true) : SeqAt.EqAt A s u v (veq a b) := by
  cases a <;> simp only [V.eqPlain] at pa <;> first | (exact absurd pa (by decide)) | skip
  all_goals cases b <;> simp only [V.eqPlain] at pb <;> first | (exact absurd pb (by decide)) | skip
  · obtain rfl := ha; obtain rfl := hb; exact .same _
  · obtain rfl := ha; obtain ⟨t, rfl⟩ := hb; exact .none_int _ _
  · obtain rfl := ha; obtain ⟨t, rfl⟩ := hb; exact .none_str _ _
  · obtain ⟨t, rfl⟩ := ha; obtain rfl := hb; exact .int_none _ _
  · obtain ⟨t, rfl⟩ := ha; obtain ⟨t', rfl⟩ := hb; exact .int_int _ _ _ _
  · obtain ⟨t, rfl⟩ := ha; obtain ⟨t', rfl⟩ := hb; exact .int_str _ _ _ _
  · obtain ⟨t, rfl⟩ := ha; obtain rfl := hb; exact .str_none _ _
  · obtain ⟨t, rfl⟩ := ha; obtain ⟨t', rfl⟩ := hb; exact .str_int _ _ _ _
  · obtain ⟨t, rfl⟩ := ha; obtain ⟨t', rfl⟩ := hb
    have := SeqAt.EqAt.str_str (A := A) (s := s) (mkS ‹List Nat›) t (mkS ‹List Nat›) t'
    rename_i x y
    have := SeqAt.EqAt.str_str (A := A) (s := s) (mkS x) t (mkS y) t'
    have e : (mkS x == mkS y) = veq (.str x) (.str y) := by
      show _ = (x == y)
      by_cases h : x = y
      · subst h; simp
      · rw [beq_eq_false_iff_ne.mpr h, beq_eq_false_iff_ne.mpr fun q => h (mkS_inj.mp q)]
    rw [← e]; exact this

section
variable {x : Cx} {m : Lc} {led : Ld} {Q : Flow → Shared → Prop}

theorem none_is {v : V} {u : Value} (h : v.rep u) (hb : v.notBi = true) : plainIs u .none = true ∧ (u == Value.none) = v.isNone := by
  cases v <;> simp only [V.notBi] at hb <;> first | (exact absurd hb (by decide)) | skip
  all_goals first
    | (obtain rfl := h; exact ⟨rfl, rfl⟩)
    | (obtain ⟨t, rfl⟩ := h; exact ⟨rfl, rfl⟩)
    | (obtain ⟨t, _, rfl⟩ := h; exact ⟨rfl, rfl⟩)
theorem cmp_is_none {v : V} (hb : v.notBi = true) : CmpOk x m led .Is v .none v.isNone := by
  rintro s u _ S h rfl
  obtain ⟨h1, h2⟩ := none_is h hb
  exact wpAny_is_plain h1 ⟨.self S, by rw [h2]⟩
theorem cmp_isNot_none {v : V} (hb : v.notBi = true) : CmpOk x m led .IsNot v .none (!v.isNone) := by
  rintro s u _ S h rfl
  obtain ⟨h1, h2⟩ := none_is h hb
  exact wpAny_isNot_plain h1 ⟨.self S, by rw [h2]⟩
theorem IT.isNone {l : Expr} {k p pos : _} {v : V} (hl : EV x m led l v) (hb : v.notBi = true) : IT x m led (.Compare l [.Is] [.Constant .none k p] pos) v.isNone := .cmp hl .noneC (cmp_is_none hb)
theorem IT.isNotNone {l : Expr} {k p pos : _} {v : V} (hl : EV x m led l v) (hb : v.notBi = true) : IT x m led (.Compare l [.IsNot] [.Constant .none k p] pos) (!v.isNone) := .cmp hl .noneC (cmp_isNot_none hb)

/-- a comparison, the right side whatever was made -/
theorem IT.cmpG {l r : Expr} {op : CmpOp} {pos : Pos} {a : V} {P : Nat → Value → Heap → Prop} {q : Bool} (hl : EV x m led l a) (hr : EX x m led r P)
    (ho : ∀ n s u v, St x m led s → a.rep u → P n v s.heap → wpAny (Md x.c) x.A (compareOp op u v) (fun w s' => Ext x.c s s' ∧ w = .bool q) nE s) (hm : behindInMarks op r = false := by rfl) : IT x m led (.Compare l [op] [r] pos) q := by
  intro s S
  refine wpAny_isTrue_Compare1 (wpAny_mono (hl s S) (fun u s₁ h₁ => ?_) fun _ _ e => e) hm
  have S₁ := S.ext h₁.1
  refine wpAny_mono (hr s₁ S₁) (fun v s₂ h₂ => ?_) fun _ _ e => e
  have S₂ := S₁.ext h₂.1
  refine wpAny_mono (ho _ s₂ u v S₂ h₁.2 h₂.2) (fun r s₃ h₃ => ?_) fun _ _ e => e
  obtain ⟨E, rfl⟩ := h₃
  exact wpAny_truthy_bool ⟨h₁.1.trans (h₂.1.trans E), rfl⟩

theorem F2.mem {α β : Type} {R : α → β → Prop} : ∀ {l : List α} {l' : List β} {b : β}, F2 R l l' → b ∈ l' → ∃ a ∈ l, R a b
  | _, _, b, .cons h r, hm => by
    rcases List.mem_cons.mp hm with q | q
    · subst q; exact ⟨_, .head _, h⟩
    · obtain ⟨a, h1, h2⟩ := F2.mem r q; exact ⟨a, List.mem_cons_of_mem _ h1, h2⟩

theorem eqAt_fun {A : Around} {s : Shared} {xs : List V} {a : V} {vs : List Value} {u : Value} (h : F2 V.rep xs vs) (hu : a.rep u) (pa : a.eqPlain = true) (px : xs.all V.eqPlain = true) :
    ∃ e : Value → Bool, (∀ y ∈ vs, SeqAt.EqAt A s y u (e y)) ∧ vs.any e = xs.any fun b => veq b a := by
  let e : Value → Bool := fun y => match y, a with
    | .none, .none => true
    | .int i _, .int j => i == j
    | .str i _, .str j => i == mkS j
    | _, _ => false
  have key : ∀ b y, b.rep y → b.eqPlain = true → e y = veq b a := by
    intro b y hb pb
    cases b <;> simp only [V.eqPlain] at pb <;> first | (exact absurd pb (by decide)) | skip
    · obtain rfl := hb; cases a <;> rfl
    · obtain ⟨t, rfl⟩ := hb; cases a <;> rfl
    · obtain ⟨t, rfl⟩ := hb
      cases a with
      | str j =>
        rename_i i
        show (mkS i == mkS j) = (i == j)
        by_cases h : i = j
        · subst h; simp
        · rw [beq_eq_false_iff_ne.mpr h, beq_eq_false_iff_ne.mpr fun q => h (mkS_inj.mp q)]
      | _ => rfl
  refine ⟨e, fun y hy => ?_, ?_⟩
  · obtain ⟨b, hb, r⟩ := h.mem hy
    have pb := List.all_eq_true.mp px b hb
    rw [key b y r pb]
    exact veq_at r hu pb pa
  · clear_value e
    induction h with
    | nil => rfl
    | cons r _ ih =>
      simp only [List.all_cons, Bool.and_eq_true] at px
      rw [List.any_cons, List.any_cons, key _ _ r px.1, ih px.2]

/-- «v in [..]» -/
theorem IT.inList {l r : Expr} {pos : Pos} {a : V} {xs : List V} (hl : EV x m led l a) (hr : EX x m led r (isList xs)) (pa : a.eqPlain = true) (px : xs.all V.eqPlain = true) (hm : behindInMarks .In r = false := by rfl) :
    IT x m led (.Compare l [.In] [r] pos) (xs.any fun b => veq b a) := by
  refine .cmpG hl hr ?_ hm
  rintro n s u _ S hu ⟨b, rfl, L, _⟩
  obtain ⟨vs, hL, r⟩ := L.isList
  obtain ⟨e, h1, h2⟩ := eqAt_fun (A := x.A.in1) (s := s) r hu pa px
  refine SeqAt.in_listAt e hL (fun y hy => h1 y (by simpa using hy)) ⟨.self S, ?_⟩
  rw [← h2]; simp

/-! dict: get and pop -/
theorem EX.dget {o e : Expr} {apos pos : Pos} {a : Addr} {kvs : List (List Nat × V)} {k : List Nat} (ho : EV x m led o (.ref a)) (he : EV x m led e (.str k)) (hs : notStar e = true) (hD : ∀ s, St x m led s → DictAt x.c.w.params s.heap a kvs) (ha : a ≠ 1)
    (hbase : attributeBase o "get" x.env (eval o x.env) = eval o x.env := by rfl) (hline : (apos.endLine == pos.line) = true := by rfl) : EV x m led (.Call (.Attribute o "get" apos) [e] [] pos) ((dget kvs k).getD .none) := by
  refine .meth mth_get ho (.cons he .nil hs) isV_mono (dictT hD) ?_ hbase hline
  rintro s _ _ S rfl (_ | ⟨⟨u, rfl⟩, _ | _⟩)
  obtain ⟨kvs', D, r⟩ := (hD s S).of
  refine call_meetsIn F.slot_dict_get D.typeIs F.entry_dict_get (F.args_dict_get_2 _ _) (meets_dict_get (SK x.c.w) a (strKind_is _ _ _ _) (sysMods ha)) ⟨_, D.mapOf, .selfT S _, ?_⟩
  rcases KV.get r k with ⟨e1, e2⟩ | ⟨v1, v', e1, e2, rv⟩
  · rw [e1, e2]; rfl
  · rw [e1, e2]; exact rv

theorem WX.pop {o e d : Expr} {apos pos : Pos} {i : Nat} {a : Addr} {kvs : List (List Nat × V)} {k : List Nat} {v : V} (ho : EV x m led o (.ref a)) (hk : led[i]? = some (a, .dict kvs)) (ha : a ≠ 1) (he : EV x m led e (.str k)) (hs : notStar e = true) (hd : EV x m led d v) (hsd : notStar d = true) (hsz : kvs.length ≤ 1000)
    (hbase : attributeBase o "pop" x.env (eval o x.env) = eval o x.env := by rfl) (hline : (apos.endLine == pos.line) = true := by rfl) : WX x m led (.Call (.Attribute o "pop" apos) [e, d] [] pos) (fun _ s' => St x m (led.set i (a, .dict (ddel kvs k))) s') := by
  intro s S
  have hargs : EVs x m led [e, d] [.str k, v] := .cons he (.cons hd .nil hsd) hs
  refine wpAny_Call_method_lateS hbase (fewArgs hargs pos (by simp)) hline (wpAny_mono (ho s S) (fun u s₁ h₁ => ?_) fun _ _ e => e)
  obtain ⟨E₁, rfl⟩ := h₁
  have S₁ := S.ext E₁
  obtain ⟨t1, t2⟩ := dictT (fun s S => ledDict S hk) s₁ _ S₁ rfl
  refine ⟨"dict", "dict.pop", mth_pop.pa, mth_pop.slot, mth_pop.ty, t1, t2, ?_⟩
  refine callWith_builtin (starEach_plain hargs) (wpAny_mono (evalArgs_EVs hargs _ pos S₁) (fun w s₂ h₂ => ?_) fun _ _ e => e)
  obtain ⟨E₂, us, rfl, hr⟩ := h₂
  have S₂ := S₁.ext E₂
  rcases hr with _ | ⟨⟨u, rfl⟩, _ | ⟨rv, _ | _⟩⟩
  rename_i dv
  obtain ⟨kvs', D, r⟩ := (ledDict S₂ hk).of
  have hl : kvs'.length ≤ sizeLine := by rw [r.lenEq, sizeLine_eq]; omega
  rcases KV.get r k with ⟨e1, e2⟩ | ⟨v1, v', e1, e2, rv⟩
  · refine call_meetsIn F.slot_dict_pop D.typeIs F.entry_dict_pop (F.args_dict_pop_3 _ _ _) (meets_dict_pop_default (SK x.c.w) a (strKind_is _ _ _ _) (sysMods ha) rfl dv) ⟨kvs', D, e2, ?_⟩
    have hdel : ddel kvs k = kvs := by
      unfold ddel
      refine List.filter_eq_self.mpr fun p hp => ?_
      unfold dget at e1
      simp only [Option.map_eq_none_iff, List.find?_eq_none] at e1
      have := e1 p hp
      simp only [beq_iff_eq] at this
      simpa using this
    rw [hdel]
    have hset : led.set i (a, AO.dict kvs) = led := by
      obtain ⟨l, q⟩ := List.getElem?_eq_some_iff.mp hk
      rw [← q]; exact List.set_getElem_self l
    rw [hset]
    exact S₂.toks _ (Nat.succ_pos _)
  · refine call_meetsIn F.slot_dict_pop D.typeIs F.entry_dict_pop (F.args_dict_pop_3 _ _ _) (meets_dict_pop_there (SK x.c.w) a (strKind_is _ _ _ _) [dv] (.inr ⟨_, rfl⟩) rfl) ⟨kvs', v', D, hl, e2, fun h' D' hs' => ?_⟩
    exact S₂.upd (o' := .dict (ddel kvs k)) hk hs' (DictAt.to D' (KV.without r k)) (Nat.succ_pos _)

/-! swapped stores -/
theorem binds_wp (is : List Nat) : ∀ (names : List Str) (m : Lc) (vs : List V) (us : List Value) (s : Shared) (R : Unit → Shared → Prop), is.length = vs.length → is.length = names.length → (∀ (j i : Nat), is[j]? = some i → x.ns[i]? = names[j]?) → F2 V.rep vs us → St x m led s →
    (∀ s', St x (setAll m is vs) led s' → R () s') → wpAny (Md x.c) x.A (assignInOrder (names.map fun n => bindName x.env n) us) R nE s := by
  induction is with
  | nil =>
    intro names m vs us s R h1 h2 h3 hr S k
    have e1 := List.eq_nil_of_length_eq_zero h1.symm
    have e2 := List.eq_nil_of_length_eq_zero h2.symm
    subst e1 e2
    cases hr
    exact wpAny_pure (k s S)
  | cons i is ih =>
    intro names m vs us s R h1 h2 h3 hr S k
    obtain ⟨n, names, rfl⟩ : ∃ n l, names = n :: l := by cases names with | nil => simp at h2 | cons n l => exact ⟨n, l, rfl⟩
    cases hr with
    | nil => simp at h1
    | cons r rs =>
      refine wpAny_assignInOrder_more (wpAny_bindName (store_wp S (h3 0 i rfl) r fun s' S' => ?_))
      exact ih names _ _ _ _ _ (by simpa using h1) (by simpa using h2) (fun j i' hj => h3 (j + 1) i' (by simpa using hj)) rs S' k

theorem F2.reverse {α β : Type} {R : α → β → Prop} {l : List α} {l' : List β} (h : F2 R l l') : F2 R l.reverse l'.reverse := by
  induction h with
  | nil => exact .nil
  | cons a _ ih => rw [List.reverse_cons, List.reverse_cons]; exact ih.append (.cons a .nil)

theorem SX.swappedG {elts : List Expr} {names : List Str} {is : List Nat} {k : Nat} {pt pos : Pos} {e : Expr} {rest : List Stmt} {P : Nat → Value → Heap → Prop} (he : EX x m led e P)
    (hn : ∀ (j i : Nat), is[j]? = some i → x.ns[i]? = names.reverse[j]?) (hl : is.length = names.length)
    (h : ∀ s s' v, St x m led s → St x m led s' → P s.heap.objs.size v s'.heap → ∃ a vs led', v = .ref a ∧ TupAt s'.heap a vs ∧ names.length = vs.length ∧ St x m led' s' ∧ SX x rest (setAll m is vs.reverse) led' Q)
    (hw : swappedStores [.Tuple elts k pt] e x.env = pure (some names) := by rfl) (hs : swapsWithSole [.Tuple elts k pt] e pos.line x.env = pure false := by rfl) : SX x (.Assign [.Tuple elts k pt] e pos :: rest) m led Q := fun s S => by
  refine wpAny_execs_cons (PyProof.Rows.Assign_Tuple_swapped (wpAny_mono (he s S) (fun v s₁ h₁ => ?_) fun _ _ e => e) hs hw)
  obtain ⟨a, vs, led', rfl, T, hl', S', kk⟩ := h s s₁ v S (S.ext h₁.1) h₁.2
  obtain ⟨us, ht, hr⟩ := T.isTuple
  have hsz : names.length = us.size := by rw [hl', hr.length]; simp
  rw [hsz]
  refine wpAny_unpackItems_tuple x.hh ht fun h' hx => ?_
  have S'' := S'.grow fun b o e => hx b o (Nat.ne_of_lt (Heap.lt_size e)) e
  exact binds_wp is _ _ _ _ _ _ (by simpa using hl.trans hl') (by simpa using hl) hn hr.reverse S'' fun s' S3 => kk s' S3

/-! tuples with new dicts -/
inductive FD (P : Params) (h' : Heap) : Nat → List (Option V) → List V → Prop
  | nil {n} : FD P h' n [] []
  | v {n v r vs} : FD P h' n r vs → FD P h' n (some v :: r) (v :: vs)
  | d {n b r vs} : n ≤ b → DictAt P h' b [] → FD P h' (b + 1) r vs → FD P h' n (none :: r) (.ref b :: vs)
theorem FD.keep {P : Params} {h h' : Heap} {n r vs} (x : FD P h n r vs) (T : Tabs h) (k : Keep h h') : FD P h' n r vs := by
  induction x with
  | nil => exact .nil
  | v _ ih => exact .v ih
  | d a b _ ih => exact .d a (b.keep T k) ih
theorem FD.mono {P : Params} {h : Heap} {n r vs} (x : FD P h n r vs) : ∀ {n'}, n' ≤ n → FD P h n' r vs := by
  induction x with
  | nil => intro _ _; exact .nil
  | v _ ih => intro _ hn; exact .v (ih hn)
  | d a b c _ => intro _ hn; exact .d (Nat.le_trans hn a) b c

theorem FD.len {P : Params} {h : Heap} {n r vs} (x : FD P h n r vs) : vs.length = r.length := by
  induction x with
  | nil => rfl
  | v _ ih => simp [ih]
  | d _ _ _ ih => simp [ih]

inductive EDs (x : Cx) (m : Lc) (led : Ld) : List Expr → List (Option V) → Prop
  | nil : EDs x m led [] []
  | v {e es v vs} : EV x m led e v → EDs x m led es vs → notStar e = true → EDs x m led (e :: es) (some v :: vs)
  | d {p es vs} : EDs x m led es vs → EDs x m led (.Dict [] [] p :: es) (none :: vs)
theorem EDs.wp {es : List Expr} {r : List (Option V)} (h : EDs x m led es r) (pos : Pos) : ∀ s, St x m led s → wpAny (Md x.c) x.A (spliced (backTo pos (starEach es x.env))) (fun us s' => Ext x.c s s' ∧ ∃ vs, FD x.c.w.params s'.heap s.heap.objs.size r vs ∧ F2 V.rep vs us) nE s := by
  induction h with
  | nil => intro s S; exact spliced_nil ⟨.self S, _, .nil, .nil⟩
  | v h1 h2 hs ih =>
    intro s S
    rw [starEach_cons hs]
    refine spliced_cons (wpAny_mono (h1 s S) (fun v s₁ h₁ => ?_) fun _ _ e => e)
    exact wpAny_mono (ih s₁ (S.ext h₁.1)) (fun us s₂ ⟨E, vs, a, b⟩ => ⟨h₁.1.trans E, _, .v (a.mono h₁.1.size), .cons h₁.2 b⟩) fun _ _ e => e
  | d h2 ih =>
    intro s S
    rw [starEach_cons rfl]
    refine spliced_cons (wpAny_mono (EX.dictNew s S) (fun v s₁ h₁ => ?_) fun _ _ e => e)
    obtain ⟨E₁, b, rfl, D, hb⟩ := h₁
    refine wpAny_mono (ih s₁ (S.ext E₁)) (fun us s₂ ⟨E, vs, a, bb⟩ => ⟨E₁.trans E, _, .d hb (D.keep E₁.ok.tabs E.keep) (a.mono ?_), .cons rfl bb⟩) fun _ _ e => e
    obtain ⟨⟨_, _, e, _⟩, _⟩ := D
    exact Heap.lt_size e
theorem EX.tupleD {es : List Expr} {r : List (Option V)} {k pos} (h : EDs x m led es r) (hl : r.length ≤ 1000 := by first | (simp; done) | decide) :
    EX x m led (.Tuple es k pos) (fun n v h' => ∃ a vs, v = .ref a ∧ TupAt h' a vs ∧ FD x.c.w.params h' n r vs) := fun s S =>
  wpAny_Tuple_spliced (wpAny_mono (h.wp pos s S) (fun us s₁ ⟨E, vs, a, b⟩ => by
    have hlen : us.length = r.length := b.length.symm.trans a.len
    exact ⟨by rw [hlen, sizeLine_eq]; omega, E.push _, _, vs, rfl, ⟨us.toArray, 0, Heap.get?_push_size _ rfl, by simpa using b⟩, a.keep E.ok.tabs (.push _ _)⟩) fun _ _ e => e)

theorem SX.assign2 (i j : Nat) {n1 n2 : Str} {v : V} {e : Expr} {p1 p2 pos : Pos} {rest : List Stmt} (hi : x.ns[i]? = some n1) (hj : x.ns[j]? = some n2) (he : EV x m led e v) (k : SX x rest ((m.set i (some v)).set j (some v)) led Q)
    (hw : swappedStores [.Name n1 p1, .Name n2 p2] e x.env = pure none := by rfl) : SX x (.Assign [.Name n1 p1, .Name n2 p2] e pos :: rest) m led Q := fun s S =>
  wpAny_execs_cons (wpAny_Assign_two (wpAny_mono (he s S) (fun u s₁ h₁ => wpAny_assign_Name (store_wp (S.ext h₁.1) hi h₁.2 fun s' S' => wpAny_assign_Name (store_wp S' hj h₁.2 fun s'' S'' => k s'' S''))) fun _ _ e => e) rfl hw)

end
end
end Mine
end
section
open PySem
namespace Mine
def natTx (k : Nat) : Tx := cp (toString (k : Int) : String)
def paramFold (number : Int) (name : Tx) (k0 : Option Int) : Nat → Tx × Tx × Option Int
  | 0 => ([], [], k0)
  | k + 1 =>
    let s := paramFold number name k0 k
    let p := lawPart (number.fdiv (3 ^ (k + 1)) + 7 * (k : Int)) s.2.2
    (s.1 ++ p.1, s.2.1 ++ (if 0 < k then cp " ; " else []) ++ name ++ cp "*" ++ natTx k ++ p.2.1, p.2.2)
structure Par where
  text : Tx
  name : Tx
  value : Option Tx
  cont : Bool
  known : Option Int
def paramN (number : Int) : Nat := (2 + number.fmod 3).toNat
def lawParameter (number : Int) (codes : List (Tx × Option Int)) : Par :=
  let name := namesT.getD (number.fmod 3).toNat []
  let kind := (number.fdiv 3).fmod 8
  let n := number.fdiv 24
  if kind = 7 then ⟨noneT.getD (n.fmod 7).toNat [], [], none, false, none⟩
  else if 2 < kind then
    let p := lawPart n none
    ⟨(if n.fmod 2 = 0 then name else upperL name) ++ p.2.1, name, some p.1, false, none⟩
  else
    let s := paramFold n name ((dget codes (lowerL name)).getD none) (paramN n)
    ⟨s.2.1, name, some s.1, true, s.2.2⟩

theorem lawPart_known (number : Int) (known : Option Int) (hk : knownOk known) : knownOk (lawPart number known).2.2 := by
  unfold lawPart
  dsimp only
  split
  · exact hk
  · split
    · exact hk
    · split
      · exact hk
      · split
        · exact .inr (.inr (.inr (.inr rfl)))
        · have rc := fmod_range (number.fdiv 5) (k := 5) (by decide)
          rcases (charsetsT_len _ (getD_mem charsetsT ([], 0) ((number.fdiv 5).fmod 5).toNat (by show _ < 5; omega))).2 with h | h | h <;> rw [h]
          · exact .inr (.inl rfl)
          · exact .inr (.inr (.inl rfl))
          · exact .inr (.inr (.inr (.inl rfl)))
theorem lawPart_len (number : Int) (known : Option Int) : (lawPart number known).1.length ≤ 48 ∧ (lawPart number known).2.1.length ≤ 80 := by
  have l1 : (cp "=").length = 1 := by decide +kernel
  have l2 : (cp "=\"").length = 2 := by decide +kernel
  have l3 : (cp "\"").length = 1 := by decide +kernel
  have l4 : (cp "*=").length = 2 := by decide +kernel
  have l5 : (cp "*=KOI8-R''").length = 10 := by decide +kernel
  have r6 := fmod_range (number.fdiv 5) (k := 6) (by decide)
  have tokl : (tokensT.getD ((number.fdiv 5).fmod 6).toNat []).length ≤ 12 := tokensT_len _ (getD_mem _ _ _ (by show _ < 6; omega))
  unfold lawPart
  dsimp only
  split
  · simp only [List.length_append]; omega
  · split
    · have sl := signs_len quotedT_ok (number.fdiv 5) 0 (by decide) (by decide)
      simp only [List.length_append]; omega
    · split
      · have sl := signs_len (percT_ok (if un known then 0 else known.getD 0)) (number.fdiv 5) 1 (by decide) (by decide)
        have sl0 := signs_len (percT_ok 0) (number.fdiv 5) 1 (by decide) (by decide)
        have sl1 := signs_len (percT_ok (known.getD 0)) (number.fdiv 5) 1 (by decide) (by decide)
        simp only [List.length_append]
        split <;> omega
      · split
        · have sl := signs_len (percT_ok 0) (number.fdiv 5) 1 (by decide) (by decide)
          simp only [List.length_append]; omega
        · have rc := fmod_range (number.fdiv 5) (k := 5) (by decide)
          have rl := fmod_range ((number.fdiv 5).fdiv 5) (k := 3) (by decide)
          have hcm := charsetsT_len _ (getD_mem charsetsT ([], 0) ((number.fdiv 5).fmod 5).toNat (by show _ < 5; omega))
          have hlm := langsT_len _ (getD_mem langsT [] (((number.fdiv 5).fdiv 5).fmod 3).toNat (by show _ < 3; omega))
          have sl := signs_len (percT_ok (charsetsT.getD ((number.fdiv 5).fmod 5).toNat ([], 0)).2) ((number.fdiv 5).fdiv 15) 1 (by decide) (by decide)
          simp only [List.length_append]; omega
theorem natTx_len {k : Nat} (h : k < 10) : (natTx k).length = 1 := by
  have : ∀ k : Fin 10, (natTx k).length = 1 := by decide +kernel
  exact this ⟨k, h⟩
theorem paramFold_len (number : Int) (name : Tx) (k0 : Option Int) (hname : name.length ≤ 9) : ∀ k, k ≤ 5 → (paramFold number name k0 k).1.length ≤ 48 * k ∧ (paramFold number name k0 k).2.1.length ≤ 100 * k
  | 0, _ => by simp [paramFold]
  | k + 1, h => by
    have ih := paramFold_len number name k0 hname k (by omega)
    have hp := lawPart_len (number.fdiv (3 ^ (k + 1)) + 7 * (k : Int)) (paramFold number name k0 k).2.2
    have l1 : (cp " ; ").length = 3 := by decide +kernel
    have l2 : (cp "*").length = 1 := by decide +kernel
    have l3 := natTx_len (k := k) (by omega)
    simp only [paramFold, List.length_append]
    split
    · omega
    · simp only [List.length_nil]; omega
theorem paramFold_known (number : Int) (name : Tx) (k0 : Option Int) (hk : knownOk k0) : ∀ k, knownOk (paramFold number name k0 k).2.2
  | 0 => hk
  | k + 1 => lawPart_known _ _ (paramFold_known number name k0 hk k)
theorem namesT_len : ∀ n ∈ namesT, n.length ≤ 9 ∧ (lowerL n).length ≤ 9 ∧ (upperL n).length ≤ 9 := by decide +kernel
theorem noneT_len : ∀ n ∈ noneT, n.length ≤ 9 := by decide +kernel
theorem paramN_le (n : Int) : 2 ≤ paramN n ∧ paramN n ≤ 4 := by have := fmod_range n (k := 3) (by decide); unfold paramN; omega
end Mine
end
section
open PySem
namespace Mine
structure RS where
  text : Tx
  plain : List (Tx × Tx)
  parted : List (Tx × Tx)
  codes : List (Tx × Option Int)
def sepsT : List Tx := [cp ";", cp "; ", cp " ;\t"]
def joined (d : List (Tx × Tx)) (k v : Tx) : Tx := match dget d k with
  | some w => w ++ v
  | none => v
def readStep (s : RS) (n : Int) : RS :=
  let p := lawParameter n s.codes
  let text := s.text ++ sepsT.getD ((n.fdiv 24).fmod 3).toNat [] ++ p.text
  match p.value with
  | none => ⟨text, s.plain, s.parted, s.codes⟩
  | some v =>
    let low := lowerL p.name
    if p.cont then ⟨text, ddel s.plain low, dset s.parted low (joined s.parted low v), dset s.codes low p.known⟩
    else ⟨text, dset (ddel s.plain low) low v, ddel s.parted low, ddel s.codes low⟩
def merge (plain parted : List (Tx × Tx)) : List (Tx × Tx) := parted.foldl (fun d p => dset d p.1 p.2) plain
def readFold (ns : List Int) : RS := ns.foldl readStep ⟨[], [], [], []⟩
def lawRead (ns : List Int) : Tx × List (Tx × Tx) := ((readFold ns).text, merge (readFold ns).plain (readFold ns).parted)

theorem dget_mapV {α β : Type} (f : α → β) (l : List (Tx × α)) (k : Tx) : dget (l.map fun p => (p.1, f p.2)) k = (dget l k).map f := by
  unfold dget
  induction l with
  | nil => rfl
  | cons a l ih =>
    rw [List.map_cons, List.find?_cons, List.find?_cons]
    dsimp only
    cases a.1 == k
    · exact ih
    · rfl
theorem dset_map {α β : Type} (f : α → β) (l : List (Tx × α)) (k : Tx) (v : α) : (dset l k v).map (fun p => (p.1, f p.2)) = dset (l.map fun p => (p.1, f p.2)) k (f v) := by
  unfold dset
  rw [List.any_map]
  have : ((fun p : Tx × β => p.1 == k) ∘ fun p : Tx × α => (p.1, f p.2)) = fun p => p.1 == k := rfl
  rw [this]
  split
  · rw [List.map_map, List.map_map]
    refine List.map_congr_left fun p _ => ?_
    simp only [Function.comp]
    split <;> rfl
  · rw [List.map_append]; rfl
theorem ddel_map {α β : Type} (f : α → β) (l : List (Tx × α)) (k : Tx) : (ddel l k).map (fun p => (p.1, f p.2)) = ddel (l.map fun p => (p.1, f p.2)) k := by
  unfold ddel
  rw [List.filter_map]; rfl
theorem dset_len {α : Type} (l : List (Tx × α)) (k : Tx) (v : α) : (dset l k v).length ≤ l.length + 1 := by
  unfold dset; split <;> simp
theorem ddel_len {α : Type} (l : List (Tx × α)) (k : Tx) : (ddel l k).length ≤ l.length := List.length_filter_le _ _
theorem dget_none_iff {α : Type} (l : List (Tx × α)) (k : Tx) : dget l k = none ↔ k ∉ l.map (·.1) := by
  unfold dget
  rw [Option.map_eq_none_iff, List.find?_eq_none]
  simp only [List.mem_map, not_exists, not_and, beq_iff_eq]
theorem ddel_none {α : Type} (l : List (Tx × α)) (k : Tx) (h : dget l k = none) : ddel l k = l := by
  rw [dget_none_iff] at h
  refine List.filter_eq_self.mpr fun p hp => ?_
  simp only [bne_iff_ne, ne_eq]
  exact fun q => h (q ▸ List.mem_map_of_mem hp)
theorem dset_keys {α β : Type} (l : List (Tx × α)) (l' : List (Tx × β)) (k : Tx) (v : α) (v' : β) (h : l.map (·.1) = l'.map (·.1)) : (dset l k v).map (·.1) = (dset l' k v').map (·.1) := by
  have hany : (l.any fun p => p.1 == k) = l'.any fun p => p.1 == k := by
    have e1 : (l.any fun p => p.1 == k) = (l.map (·.1)).any (· == k) := by rw [List.any_map]; rfl
    have e2 : (l'.any fun p => p.1 == k) = (l'.map (·.1)).any (· == k) := by rw [List.any_map]; rfl
    rw [e1, e2, h]
  have hm : ∀ {γ : Type} (l : List (Tx × γ)) (v : γ), (l.map fun p => if p.1 == k then (p.1, v) else p).map (·.1) = l.map (·.1) := by
    intro γ l v
    rw [List.map_map]
    refine List.map_congr_left fun p _ => ?_
    simp only [Function.comp]; split <;> rfl
  unfold dset
  rw [hany]
  split
  · rw [hm, hm, h]
  · rw [List.map_append, List.map_append, h]; rfl
theorem ddel_keys {α β : Type} (l : List (Tx × α)) (l' : List (Tx × β)) (k : Tx) (h : l.map (·.1) = l'.map (·.1)) : (ddel l k).map (·.1) = (ddel l' k).map (·.1) := by
  have e : ∀ {γ : Type} (l : List (Tx × γ)), (ddel l k).map (·.1) = (l.map (·.1)).filter (· != k) := by
    intro γ l; unfold ddel; rw [List.filter_map]; rfl
  rw [e, e, h]
theorem dget_isSome_keys {α β : Type} (l : List (Tx × α)) (l' : List (Tx × β)) (k : Tx) (h : l.map (·.1) = l'.map (·.1)) : (dget l k).isSome = (dget l' k).isSome := by
  cases h1 : dget l k with
  | none => rw [dget_none_iff, h, ← dget_none_iff] at h1; rw [h1]; rfl
  | some v =>
    cases h2 : dget l' k with
    | none => rw [dget_none_iff, ← h, ← dget_none_iff] at h2; rw [h2] at h1; cases h1
    | some w => rfl
theorem dset_mem {α : Type} {l : List (Tx × α)} {k : Tx} {v : α} {p : Tx × α} (h : p ∈ dset l k v) : p.2 = v ∨ p ∈ l := by
  unfold dset at h
  split at h
  · obtain ⟨q, hq, e⟩ := List.mem_map.mp h
    split at e
    · subst e; exact .inl rfl
    · subst e; exact .inr hq
  · rcases List.mem_append.mp h with h | h
    · exact .inr h
    · rw [List.mem_singleton] at h; subst h; exact .inl rfl
theorem ddel_mem {α : Type} {l : List (Tx × α)} {k : Tx} {p : Tx × α} (h : p ∈ ddel l k) : p ∈ l := (List.mem_filter.mp h).1
theorem dget_mem {α : Type} {l : List (Tx × α)} {k : Tx} {v : α} (h : dget l k = some v) : ∃ p ∈ l, p.2 = v := by
  unfold dget at h
  obtain ⟨p, hp, rfl⟩ := Option.map_eq_some_iff.mp h
  exact ⟨p, List.mem_of_find?_eq_some hp, rfl⟩

structure RSok (k : Nat) (s : RS) : Prop where
  text : s.text.length ≤ 600 * k
  plain : s.plain.length ≤ k
  parted : s.parted.length ≤ k
  keys : s.codes.map (·.1) = s.parted.map (·.1)
  vals : ∀ p ∈ s.parted, p.2.length ≤ 250 * k
  kn : ∀ p ∈ s.codes, knownOk p.2

theorem dget_known {codes : List (Tx × Option Int)} (hk : ∀ p ∈ codes, knownOk p.2) (k : Tx) : knownOk ((dget codes k).getD none) := by
  cases hq : dget codes k with
  | none => exact .inl rfl
  | some v => obtain ⟨p, hp, rfl⟩ := dget_mem hq; exact hk p hp
theorem parameter_ok (n : Int) (codes : List (Tx × Option Int)) (hk : ∀ p ∈ codes, knownOk p.2) : (lawParameter n codes).text.length ≤ 500 ∧ (∀ v, (lawParameter n codes).value = some v → v.length ≤ 200) ∧ knownOk (lawParameter n codes).known ∧ (lowerL (lawParameter n codes).name).length ≤ 9 := by
  have r3 := fmod_range n (k := 3) (by decide)
  have r7 := fmod_range (n.fdiv 24) (k := 7) (by decide)
  have nml := namesT_len _ (getD_mem namesT [] (n.fmod 3).toNat (by show _ < 3; omega))
  have l0 : (lowerL []).length = 0 := by decide +kernel
  unfold lawParameter
  dsimp only
  split
  · have := noneT_len _ (getD_mem noneT [] ((n.fdiv 24).fmod 7).toNat (by show _ < 7; omega))
    exact ⟨by dsimp only; omega, fun v h => (nomatch h), .inl rfl, by dsimp only; omega⟩
  · split
    · have pl := lawPart_len (n.fdiv 24) none
      refine ⟨?_, fun v h => ?_, .inl rfl, by dsimp only; omega⟩
      · dsimp only; rw [List.length_append]; split <;> omega
      · cases h; omega
    · have pn := paramN_le (n.fdiv 24)
      have fl := paramFold_len (n.fdiv 24) (namesT.getD (n.fmod 3).toNat []) ((dget codes (lowerL (namesT.getD (n.fmod 3).toNat []))).getD none) nml.1 (paramN (n.fdiv 24)) (by omega)
      refine ⟨by dsimp only; omega, fun v h => by cases h; omega, paramFold_known _ _ _ (dget_known hk _) _, by dsimp only; omega⟩
theorem sepsT_len : ∀ t ∈ sepsT, t.length ≤ 3 := by decide +kernel
theorem readStep_ok {k : Nat} {s : RS} (h : RSok k s) (n : Int) : RSok (k + 1) (readStep s n) := by
  obtain ⟨h1, h2, h3, h4, h5, h6⟩ := h
  obtain ⟨p1, p2, p3, _⟩ := parameter_ok n s.codes h6
  have r3 := fmod_range (n.fdiv 24) (k := 3) (by decide)
  have sl := sepsT_len _ (getD_mem sepsT [] ((n.fdiv 24).fmod 3).toNat (by show _ < 3; omega))
  have ht : (s.text ++ sepsT.getD ((n.fdiv 24).fmod 3).toNat [] ++ (lawParameter n s.codes).text).length ≤ 600 * (k + 1) := by rw [List.length_append, List.length_append]; omega
  unfold readStep
  dsimp only
  split
  · exact ⟨ht, by dsimp only; omega, by dsimp only; omega, h4, fun p hp => by have := h5 p hp; omega, h6⟩
  · rename_i v hv
    have hv' := p2 v hv
    split
    · refine ⟨ht, ?_, ?_, dset_keys _ _ _ _ _ h4, fun p hp => ?_, fun p hp => ?_⟩
      · have := ddel_len s.plain (lowerL (lawParameter n s.codes).name); dsimp only; omega
      · have := dset_len s.parted (lowerL (lawParameter n s.codes).name) (joined s.parted (lowerL (lawParameter n s.codes).name) v); dsimp only; omega
      · rcases dset_mem hp with e | e
        · rw [e]; unfold joined
          split
          · rename_i w hw
            obtain ⟨q, hq, rfl⟩ := dget_mem hw
            have := h5 q hq
            rw [List.length_append]; omega
          · omega
        · have := h5 p e; omega
      · rcases dset_mem hp with e | e
        · rw [e]; exact p3
        · exact h6 p e
    · refine ⟨ht, ?_, ?_, ddel_keys _ _ _ h4, fun p hp => ?_, fun p hp => ?_⟩
      · have := dset_len (ddel s.plain (lowerL (lawParameter n s.codes).name)) (lowerL (lawParameter n s.codes).name) v
        have := ddel_len s.plain (lowerL (lawParameter n s.codes).name); dsimp only; omega
      · have := ddel_len s.parted (lowerL (lawParameter n s.codes).name); dsimp only; omega
      · have := h5 p (ddel_mem hp); omega
      · exact h6 p (ddel_mem hp)
theorem readStep_none {s : RS} {n : Int} (hv : (lawParameter n s.codes).value = none) : readStep s n = ⟨s.text ++ sepsT.getD ((n.fdiv 24).fmod 3).toNat [] ++ (lawParameter n s.codes).text, s.plain, s.parted, s.codes⟩ := by
  unfold readStep; dsimp only; rw [hv]
theorem readStep_some {s : RS} {n : Int} {v : Tx} (hv : (lawParameter n s.codes).value = some v) : readStep s n = if (lawParameter n s.codes).cont then ⟨s.text ++ sepsT.getD ((n.fdiv 24).fmod 3).toNat [] ++ (lawParameter n s.codes).text, ddel s.plain (lowerL (lawParameter n s.codes).name), dset s.parted (lowerL (lawParameter n s.codes).name) (joined s.parted (lowerL (lawParameter n s.codes).name) v), dset s.codes (lowerL (lawParameter n s.codes).name) (lawParameter n s.codes).known⟩
    else ⟨s.text ++ sepsT.getD ((n.fdiv 24).fmod 3).toNat [] ++ (lawParameter n s.codes).text, dset (ddel s.plain (lowerL (lawParameter n s.codes).name)) (lowerL (lawParameter n s.codes).name) v, ddel s.parted (lowerL (lawParameter n s.codes).name), ddel s.codes (lowerL (lawParameter n s.codes).name)⟩ := by
  unfold readStep; dsimp only; rw [hv]
theorem readFold_snoc (ns : List Int) (n : Int) : readFold (ns ++ [n]) = readStep (readFold ns) n := by
  unfold readFold; rw [List.foldl_append]; rfl
theorem foldl_ok : ∀ (ns : List Int) (k : Nat) (s : RS), RSok k s → RSok (k + ns.length) (ns.foldl readStep s)
  | [], _, _, h => h
  | n :: ns, k, s, h => by
    have := foldl_ok ns (k + 1) (readStep s n) (readStep_ok h n)
    rw [List.length_cons, List.foldl_cons]
    rw [show k + (ns.length + 1) = k + 1 + ns.length from by omega]; exact this
theorem readFold_ok (ns : List Int) : RSok ns.length (readFold ns) := by
  have := foldl_ok ns 0 ⟨[], [], [], []⟩ ⟨Nat.zero_le _, Nat.zero_le _, Nat.zero_le _, rfl, fun _ h => (nomatch h), fun _ h => (nomatch h)⟩
  rwa [Nat.zero_add] at this
theorem dget_of_nodup {α : Type} : ∀ {l : List (Tx × α)} {k : Tx} {v : α} {i : Nat}, (l.map (·.1)).Nodup → l[i]? = some (k, v) → dget l k = some v
  | [], _, _, _, _, h => by simp at h
  | (k', v') :: l, k, v, 0, _, h => by simp at h; obtain ⟨rfl, rfl⟩ := h; unfold dget; simp
  | (k', v') :: l, k, v, i + 1, hn, h => by
    rw [List.map_cons, List.nodup_cons] at hn
    have hm : k ∈ l.map (·.1) := List.mem_map.mpr ⟨(k, v), List.mem_of_getElem? (i := i) (by simpa using h), rfl⟩
    have hne : k' ≠ k := fun q => hn.1 (q ▸ hm)
    have ih := dget_of_nodup (i := i) hn.2 (by simpa using h)
    unfold dget at ih ⊢
    rw [List.find?_cons, beq_eq_false_iff_ne.mpr hne]; exact ih
theorem merge_take (plain parted : List (Tx × Tx)) (i : Nat) (p : Tx × Tx) (h : parted[i]? = some p) : merge plain (parted.take (i + 1)) = dset (merge plain (parted.take i)) p.1 p.2 := by
  unfold merge
  obtain ⟨hl, e⟩ := List.getElem?_eq_some_iff.mp h
  rw [List.take_add_one, h, Option.toList_some, List.foldl_append]; rfl
theorem merge_len (plain parted : List (Tx × Tx)) : (merge plain parted).length ≤ plain.length + parted.length := by
  unfold merge
  induction parted generalizing plain with
  | nil => simp
  | cons p l ih => rw [List.foldl_cons, List.length_cons]; have := ih (dset plain p.1 p.2); have := dset_len plain p.1 p.2; omega
end Mine
end
section
open PySem
namespace Mine
def optCode (number : Int) (place : Nat) : Int := 32 + ((number.fdiv 4).fdiv (7 ^ place) + 31 * (place : Int)).fmod 95
def optSign (number : Int) (place : Nat) : Nat := if optCode number place = 37 then 233 else (optCode number place).toNat
def optFold (number : Int) : Nat → Tx
  | 0 => []
  | k + 1 => optFold number k ++ [optSign number k]
def lawOption (number : Int) : Tx := optFold number (number.fmod 4).toNat
def dumpedT : Tx := cp "!#$%&'*+-.^_~0123456789abcdefghijklmnopqrstuvwxyzABCDEFGHIJKLMNOPQRSTUVWXYZ|"
def isTok (c : Nat) : Bool := decide (c ∈ dumpedT) || c == 96
def lawDumped (value : Tx) : Tx := if !value.isEmpty && value.all isTok then value else cp "\"" ++ replL (replL value (cp "\\") (cp "\\\\")) (cp "\"") (cp "\\\"") ++ cp "\""
theorem optCode_range (number : Int) (place : Nat) : 32 ≤ optCode number place ∧ optCode number place < 127 := by
  have := fmod_range ((number.fdiv 4).fdiv (7 ^ place) + 31 * (place : Int)) (k := 95) (by decide)
  unfold optCode; omega
theorem optFold_len (number : Int) : ∀ k, (optFold number k).length = k
  | 0 => rfl
  | k + 1 => by rw [optFold, List.length_append, optFold_len number k]; rfl
theorem lawOption_len (number : Int) : (lawOption number).length ≤ 3 := by
  have := fmod_range number (k := 4) (by decide)
  unfold lawOption; rw [optFold_len]; omega
end Mine
end
section
open PySem PySem.Sre
set_option Elab.async false
set_option maxRecDepth 100000
set_option linter.all false
namespace Mine

/-- a machine under way -/
abbrev MS (code text : Array Nat) (lim start ls pc pos handed : Nat) (om : Bool) (marks : Array (Option Nat)) (lm li : Int) (loops : Array Loop) (inner : Option Nat) (fr : List Sre.Frame) (wt : Nat) (ans : Option Bool) (sn : Seen) : M :=
  { code := code, text := text, lim := lim, start := start, lastStart := ls, wholeText := false, mustAdvance := false, pc := pc, pos := pos, handed := handed, outermost := om, marks := marks, lastmark := lm, lastindex := li, loops := loops, inner := inner, frames := fr, weight := wt, answer := ans, seen := sn, outcome := none }

/-- within n steps the machine comes to where Q holds -/
def Go (n : Nat) (m : M) (Q : M → Prop) : Prop := ∃ k, k ≤ n ∧ Q (M.runFor k m)

theorem runFor_out {m : M} (h : m.outcome.isSome = true) : ∀ k, M.runFor k m = m
  | 0 => rfl
  | k + 1 => by rw [M.runFor]; simp [h]
theorem step_out {m : M} (h : m.outcome.isSome = true) : M.step m = m := by unfold M.step; simp [h]
theorem runFor_succ (k : Nat) (m : M) : M.runFor (k + 1) m = M.runFor k (M.step m) := by
  rw [M.runFor]
  by_cases h : m.outcome.isSome = true
  · rw [if_pos h, step_out h, runFor_out h]
  · rw [if_neg h]
theorem runFor_add (a b : Nat) (m : M) : M.runFor (a + b) m = M.runFor b (M.runFor a m) := by
  induction a generalizing m with
  | zero => simp [M.runFor]
  | succ a ih => rw [show a + 1 + b = (a + b) + 1 from by omega, runFor_succ, runFor_succ, ih]
theorem Go.now {n : Nat} {m : M} {Q : M → Prop} (h : Q m) : Go n m Q := ⟨0, Nat.zero_le _, h⟩
theorem Go.step {n : Nat} {m : M} {Q : M → Prop} (h : Go n (M.step m) Q) : Go (n + 1) m Q := by
  obtain ⟨k, hk, h⟩ := h
  exact ⟨k + 1, by omega, by rw [runFor_succ]; exact h⟩
theorem Go.mono {n n' : Nat} {m : M} {Q : M → Prop} (h : Go n m Q) (hn : n ≤ n') : Go n' m Q := by
  obtain ⟨k, hk, h⟩ := h; exact ⟨k, by omega, h⟩
theorem Go.imp {n : Nat} {m : M} {Q R : M → Prop} (h : Go n m Q) (hi : ∀ m, Q m → R m) : Go n m R := by
  obtain ⟨k, hk, h⟩ := h; exact ⟨k, hk, hi _ h⟩
theorem Go.bind {n n' : Nat} {m : M} {Q R : M → Prop} (h : Go n m Q) (hi : ∀ m, Q m → Go n' m R) : Go (n + n') m R := by
  obtain ⟨k, hk, h⟩ := h
  obtain ⟨k', hk', h'⟩ := hi _ h
  exact ⟨k + k', by omega, by rw [runFor_add]; exact h'⟩

section
variable {code text : Array Nat} {lim start ls pc pos handed : Nat} {om : Bool} {marks : Array (Option Nat)} {lm li : Int} {loops : Array Loop} {inner : Option Nat} {fr : List Sre.Frame} {wt n : Nat} {sn : Seen} {Q : M → Prop}

/-- one step ahead -/
theorem step_exec (hsz : pc < code.size) : M.step (MS code text lim start ls pc pos handed om marks lm li loops inner fr wt none sn) = M.exec (MS code text lim start ls pc pos handed om marks lm li loops inner fr wt none sn) := by
  unfold M.step
  simp only [Option.isSome_none, Bool.false_eq_true, if_false]
  rw [if_pos hsz]

theorem go_literal (c : Nat) (hsz : pc < code.size) (hop : code.getD pc 0 = 16) (hc : code.getD (pc + 1) 0 = c)
    (hyes : pos < lim → text.getD pos 0 = c → ∀ sn, Go n (MS code text lim start ls (pc + 2) (pos + 1) handed om marks lm li loops inner fr wt none sn) Q)
    (hno : (pos < lim → text.getD pos 0 ≠ c) → ∀ sn, Go n (MS code text lim start ls pc pos handed om marks lm li loops inner fr wt (some false) sn) Q) :
    Go (n + 1) (MS code text lim start ls pc pos handed om marks lm li loops inner fr wt none sn) Q := by
  refine .step ?_
  rw [step_exec hsz]
  unfold M.exec
  have hw : M.word (MS code text lim start ls pc pos handed om marks lm li loops inner fr wt none sn) 0 = 16 := by simpa [M.word] using hop
  rw [hw]
  dsimp only [ops]
  simp only [List.getElem?_toArray, List.getElem?_cons_succ, List.getElem?_cons_zero]
  by_cases hp : pos ≥ lim
  · rw [if_pos hp]
    exact hno (fun h => absurd h (Nat.not_lt.mpr hp)) _
  · rw [if_neg hp]
    have hacc : ∀ s, accepts code pc (text.getD pos 0) s = .ok (text.getD pos 0 == c, s) := by
      intro s
      unfold accepts
      rw [hop]
      simp only [ops, List.getElem?_toArray, List.getElem?_cons_succ, List.getElem?_cons_zero]
      rw [hc]
    rw [hacc]
    by_cases he : text.getD pos 0 = c
    · rw [beq_iff_eq.mpr he]
      have hiw : itemWidth code pc = 2 := by unfold itemWidth; rw [hop]; rfl
      dsimp only
      rw [hiw]
      exact hyes (Nat.lt_of_not_le hp) he _
    · rw [beq_eq_false_iff_ne.mpr he]
      exact hno (fun _ => he) _

theorem word0 : M.word (MS code text lim start ls pc pos handed om marks lm li loops inner fr wt none sn) 0 = code.getD pc 0 := by simp [M.word]

theorem go_success (hsz : pc < code.size) (hop : code.getD pc 0 = 1)
    (k : ∀ sn, Go n (MS code text lim start ls pc pos pos om marks lm li loops inner fr wt (some true) sn) Q) :
    Go (n + 1) (MS code text lim start ls pc pos handed om marks lm li loops inner fr wt none sn) Q := by
  refine .step ?_
  rw [step_exec hsz]
  unfold M.exec
  rw [word0, hop]
  dsimp only [ops]
  simp only [List.getElem?_toArray, List.getElem?_cons_succ, List.getElem?_cons_zero]
  rw [if_neg (by simp)]
  exact k _

theorem go_any (hsz : pc < code.size) (hop : code.getD pc 0 = 2)
    (hyes : pos < lim → text.getD pos 0 ≠ 10 → ∀ sn, Go n (MS code text lim start ls (pc + 1) (pos + 1) handed om marks lm li loops inner fr wt none sn) Q)
    (hno : (pos < lim → text.getD pos 0 = 10) → ∀ sn, Go n (MS code text lim start ls pc pos handed om marks lm li loops inner fr wt (some false) sn) Q) :
    Go (n + 1) (MS code text lim start ls pc pos handed om marks lm li loops inner fr wt none sn) Q := by
  refine .step ?_
  rw [step_exec hsz]
  unfold M.exec
  rw [word0, hop]
  dsimp only [ops]
  simp only [List.getElem?_toArray, List.getElem?_cons_succ, List.getElem?_cons_zero]
  by_cases hp : pos ≥ lim
  · rw [if_pos hp]
    exact hno (fun h => absurd h (Nat.not_lt.mpr hp)) _
  · rw [if_neg hp]
    have hacc : ∀ s, accepts code pc (text.getD pos 0) s = .ok (text.getD pos 0 != 10, s) := by
      intro s
      unfold accepts
      rw [hop]
      simp only [ops, List.getElem?_toArray, List.getElem?_cons_succ, List.getElem?_cons_zero]
    rw [hacc]
    by_cases he : text.getD pos 0 = 10
    · rw [show (text.getD pos 0 != 10) = false from by rw [he]; rfl]
      exact hno (fun _ => he) _
    · rw [bne_iff_ne.mpr he]
      have hiw : itemWidth code pc = 1 := by unfold itemWidth; rw [hop]; rfl
      dsimp only
      rw [hiw]
      exact hyes (Nat.lt_of_not_le hp) he _
theorem go_mark (i : Nat) (hsz : pc < code.size) (hop : code.getD pc 0 = 17) (hi : code.getD (pc + 1) 0 = i) (hle : (i : Int) ≤ lm + 1)
    (k : ∀ sn, Go n (MS code text lim start ls (pc + 2) pos handed om (marks.setIfInBounds i (some pos)) (max lm i) (if i % 2 == 1 then (i / 2 + 1 : Nat) else li) loops inner fr wt none sn) Q) :
    Go (n + 1) (MS code text lim start ls pc pos handed om marks lm li loops inner fr wt none sn) Q := by
  refine .step ?_
  rw [step_exec hsz]
  unfold M.exec
  rw [word0, hop]
  dsimp only [ops]
  simp only [List.getElem?_toArray, List.getElem?_cons_succ, List.getElem?_cons_zero]
  have hw : ∀ sn, M.word (MS code text lim start ls pc pos handed om marks lm li loops inner fr wt none sn) 1 = i := fun sn => by simpa [M.word] using hi
  rw [hw]
  unfold M.mark
  dsimp only
  rw [if_pos hle]
  exact k _

theorem go_atEnd (hsz : pc < code.size) (hop : code.getD pc 0 = 6) (hi : code.getD (pc + 1) 0 = 5)
    (hyes : (pos = lim ∨ (pos + 1 = lim ∧ text.getD pos 0 = 10)) → ∀ sn, Go n (MS code text lim start ls (pc + 2) pos handed om marks lm li loops inner fr wt none sn) Q)
    (hno : ¬ (pos = lim ∨ (pos + 1 = lim ∧ text.getD pos 0 = 10)) → ∀ sn, Go n (MS code text lim start ls pc pos handed om marks lm li loops inner fr wt (some false) sn) Q) :
    Go (n + 1) (MS code text lim start ls pc pos handed om marks lm li loops inner fr wt none sn) Q := by
  refine .step ?_
  rw [step_exec hsz]
  unfold M.exec
  rw [word0, hop]
  dsimp only [ops]
  simp only [List.getElem?_toArray, List.getElem?_cons_succ, List.getElem?_cons_zero]
  have hw : ∀ sn, M.word (MS code text lim start ls pc pos handed om marks lm li loops inner fr wt none sn) 1 = 5 := fun sn => by simpa [M.word] using hi
  rw [hw]
  unfold M.isAt
  dsimp only
  by_cases h : pos = lim ∨ (pos + 1 = lim ∧ text.getD pos 0 = 10)
  · have e : (pos == lim || (pos + 1 == lim && text.getD pos 0 == 10)) = true := by simpa using h
    rw [e]
    exact hyes h _
  · have e : (pos == lim || (pos + 1 == lim && text.getD pos 0 == 10)) = false := by
      rw [Bool.eq_false_iff]; intro q; exact h (by simpa using q)
    rw [e]
    exact hno h _

/-- the frame of a run that may give back -/
abbrev gb (pc pos : Nat) (om : Bool) (count : Int) (lm li : Int) : Sre.Frame := { wait := .giveBack, pc := pc, pos := pos, outermost := om, count := count, kept := { lastmark := lm, lastindex := li } }
abbrev ns (pc pos : Nat) (first : Bool) : Sre.Frame := { wait := .nextStart, pc := pc, pos := pos, outermost := first }

theorem go_repeatOne (w1 least most k : Nat) (hsz : pc < code.size) (hop : code.getD pc 0 = 24) (h1 : code.getD (pc + 1) 0 = w1) (h2 : code.getD (pc + 2) 0 = least) (h3 : code.getD (pc + 3) 0 = most)
    (hp : pos ≤ lim) (hin : inner = none) (hwt : wt < 1000000)
    (hrun : least ≤ lim - pos → ∀ s, ∃ s', Sre.run code text (pc + 4) (min most (lim - pos)) pos 0 s = .ok (k, s'))
    (hno : k < least ∨ lim - pos < least → ∀ sn, Go n (MS code text lim start ls pc pos handed om marks lm li loops inner fr wt (some false) sn) Q)
    (hyes : least ≤ k → ∀ sn, Go n (MS code text lim start ls (pc + 1 + w1) (pos + k) (pos + k) om marks lm li loops inner (gb pc (pos + k) om k lm li :: fr) (wt + 1) none sn) Q) :
    Go (n + 1) (MS code text lim start ls pc pos handed om marks lm li loops inner fr wt none sn) Q := by
  subst hin
  refine .step ?_
  rw [step_exec hsz]
  unfold M.exec
  rw [word0, hop]
  dsimp only [ops]
  simp only [List.getElem?_toArray, List.getElem?_cons_succ, List.getElem?_cons_zero]
  have hw1 : ∀ sn, M.word (MS code text lim start ls pc pos handed om marks lm li loops none fr wt none sn) 1 = w1 := fun sn => by simpa [M.word] using h1
  have hw2 : ∀ sn, M.word (MS code text lim start ls pc pos handed om marks lm li loops none fr wt none sn) 2 = least := fun sn => by simpa [M.word] using h2
  have hw3 : ∀ sn, M.word (MS code text lim start ls pc pos handed om marks lm li loops none fr wt none sn) 3 = most := fun sn => by simpa [M.word] using h3
  rw [hw2, hw3]
  have hroom : ((lim : Int) - pos).toNat = lim - pos := by omega
  by_cases hl : (least : Int) > (lim : Int) - pos
  · rw [if_pos hl]
    exact hno (.inr (by omega)) _
  · rw [if_neg hl, hroom]
    obtain ⟨s', e⟩ := hrun (by omega) (((sn.add 24).add (M.word (MS code text lim start ls pc pos handed om marks lm li loops none fr wt none (sn.add 24)) 4)))
    simp only [Bool.false_eq_true, if_false]
    rw [e]
    dsimp only
    by_cases hk : k < least
    · rw [if_pos hk]; exact hno (.inl hk) _
    · rw [if_neg hk]
      unfold M.afterRun M.attempt
      have hm : ¬ (wt + 1 + (M.keep (MS code text lim start ls pc (pos + k) handed om marks lm li loops none fr wt none s') false).marks.size > 16777216) := by
        simp [M.keep]; omega
      dsimp only [Option.isSome_none]
      rw [if_neg hm]
      have hw1' : M.word (MS code text lim start ls pc (pos + k) handed om marks lm li loops none fr wt none s') 1 = w1 := by simpa [M.word] using h1
      rw [hw1']
      exact hyes (by omega) s'

theorem go_gbYes {fpc fpos : Nat} {fom : Bool} {cnt flm fli : Int}
    (k : Go n (MS code text lim start ls fpc fpos handed fom marks lm li loops inner fr (wt - 1) (some true) sn) Q) :
    Go (n + 1) (MS code text lim start ls pc pos handed om marks lm li loops inner (gb fpc fpos fom cnt flm fli :: fr) wt (some true) sn) Q := .step k
theorem go_nsYes {fpc fpos : Nat} {fom : Bool}
    (k : Go n (MS code text lim start ls fpc fpos handed fom marks lm li loops inner fr (wt - 1) (some true) sn) Q) :
    Go (n + 1) (MS code text lim start ls pc pos handed om marks lm li loops inner (ns fpc fpos fom :: fr) wt (some true) sn) Q := .step k

/-- no more to give back -/
theorem go_gbEnd {fpc fpos : Nat} {fom : Bool} {cnt flm fli : Int} (least : Nat) (h2 : code.getD (fpc + 2) 0 = least) (hc : cnt - 1 < least)
    (k : Go n (MS code text lim start ls fpc fpos handed fom marks flm fli loops inner fr (wt - 1) (some false) sn) Q) :
    Go (n + 1) (MS code text lim start ls pc pos handed om marks lm li loops inner (gb fpc fpos fom cnt flm fli :: fr) wt (some false) sn) Q := by
  refine .step ?_
  have e : M.step (MS code text lim start ls pc pos handed om marks lm li loops inner (gb fpc fpos fom cnt flm fli :: fr) wt (some false) sn) = if cnt - 1 < (code.getD (fpc + 2) 0 : Nat) then MS code text lim start ls fpc fpos handed fom marks flm fli loops inner fr (wt - 1) (some false) sn else M.afterRun (MS code text lim start ls fpc (fpos - 1) handed fom marks flm fli loops inner fr (wt - 1) none sn) .giveBack (cnt - 1) { lastmark := flm, lastindex := fli } := rfl
  rw [e, h2, if_pos hc]
  exact k
theorem go_gbMore {fpc fpos : Nat} {fom : Bool} {cnt flm fli : Int} (w1 least : Nat) (h1 : code.getD (fpc + 1) 0 = w1) (h2 : code.getD (fpc + 2) 0 = least) (hc : ¬ cnt - 1 < least) (hwt : wt < 1000000) (hw0 : 0 < wt)
    (k : Go n (MS code text lim start ls (fpc + 1 + w1) (fpos - 1) (fpos - 1) fom marks flm fli loops inner (gb fpc (fpos - 1) fom (cnt - 1) flm fli :: fr) wt none sn) Q) :
    Go (n + 1) (MS code text lim start ls pc pos handed om marks lm li loops inner (gb fpc fpos fom cnt flm fli :: fr) wt (some false) sn) Q := by
  refine .step ?_
  have e : M.step (MS code text lim start ls pc pos handed om marks lm li loops inner (gb fpc fpos fom cnt flm fli :: fr) wt (some false) sn) = if cnt - 1 < (code.getD (fpc + 2) 0 : Nat) then MS code text lim start ls fpc fpos handed fom marks flm fli loops inner fr (wt - 1) (some false) sn else M.afterRun (MS code text lim start ls fpc (fpos - 1) handed fom marks flm fli loops inner fr (wt - 1) none sn) .giveBack (cnt - 1) { lastmark := flm, lastindex := fli } := rfl
  rw [e, h2, if_neg hc]
  have e2 : M.afterRun (MS code text lim start ls fpc (fpos - 1) handed fom marks flm fli loops inner fr (wt - 1) none sn) .giveBack (cnt - 1) { lastmark := flm, lastindex := fli } = if wt - 1 + 1 + 0 > 16777216 then M.stick (MS code text lim start ls fpc (fpos - 1) handed fom marks flm fli loops inner fr (wt - 1) none sn) "frames:memory" else MS code text lim start ls (fpc + 1 + code.getD (fpc + 1) 0) (fpos - 1) (fpos - 1) fom marks flm fli loops inner (gb fpc (fpos - 1) fom (cnt - 1) flm fli :: fr) (wt - 1 + 1 + 0) none sn := rfl
  rw [e2, if_neg (by omega), h1, show wt - 1 + 1 + 0 = wt from by omega]
  exact k

/-- the last start failed too -/
theorem go_nsEnd {fpc fpos : Nat} {fom : Bool} (hc : ¬ fpos < ls)
    (k : Go n (MS code text lim start ls fpc fpos handed fom marks lm li loops inner fr (wt - 1) (some false) sn) Q) :
    Go (n + 1) (MS code text lim start ls pc pos handed om marks lm li loops inner (ns fpc fpos fom :: fr) wt (some false) sn) Q := by
  refine .step ?_
  have e : M.step (MS code text lim start ls pc pos handed om marks lm li loops inner (ns fpc fpos fom :: fr) wt (some false) sn) = if fpos < ls then M.attemptFrom (MS code text lim start ls fpc fpos handed fom marks lm li loops inner fr (wt - 1) none sn) (fpos + 1) false else MS code text lim start ls fpc fpos handed fom marks lm li loops inner fr (wt - 1) (some false) sn := rfl
  rw [e, if_neg hc]
  exact k
theorem attemptFrom_eq (first : Bool) (s : Nat) (hf : code.getD 2 0 ≠ 4) (hwt : wt < 1000000) :
    M.attemptFrom (MS code text lim start ls pc pos handed om marks lm li loops inner fr wt none sn) s first = MS code text lim s ls pc s s first marks (-1) (-1) loops inner (ns pc s first :: fr) (wt + 1) none sn := by
  unfold M.attemptFrom
  have h : M.hasFirstSet (MS code text lim start ls pc pos handed om marks lm li loops inner fr wt none sn) = false := by
    unfold M.hasFirstSet
    rw [beq_eq_false_iff_ne.mpr hf, Bool.and_false]
  rw [h]
  simp only [Bool.not_false, if_true]
  unfold M.attemptAt M.attempt
  dsimp only
  rw [if_neg (by simp; omega)]
  rfl
theorem go_nsMore {fpc fpos : Nat} {fom : Bool} (hc : fpos < ls) (hf : code.getD 2 0 ≠ 4) (hwt : wt < 1000000) (hw0 : 0 < wt)
    (k : Go n (MS code text lim (fpos + 1) ls fpc (fpos + 1) (fpos + 1) false marks (-1) (-1) loops inner (ns fpc (fpos + 1) false :: fr) wt none sn) Q) :
    Go (n + 1) (MS code text lim start ls pc pos handed om marks lm li loops inner (ns fpc fpos fom :: fr) wt (some false) sn) Q := by
  refine .step ?_
  have e : M.step (MS code text lim start ls pc pos handed om marks lm li loops inner (ns fpc fpos fom :: fr) wt (some false) sn) = if fpos < ls then M.attemptFrom (MS code text lim start ls fpc fpos handed fom marks lm li loops inner fr (wt - 1) none sn) (fpos + 1) false else MS code text lim start ls fpc fpos handed fom marks lm li loops inner fr (wt - 1) (some false) sn := rfl
  rw [e, if_pos hc, attemptFrom_eq _ _ hf (by omega), show wt - 1 + 1 = wt from by omega]
  exact k
theorem go_done {b : Bool} (k : Q { MS code text lim start ls pc pos handed om marks lm li loops inner [] wt (some b) sn with outcome := some (if b then .matched else .failed) }) :
    Go (n + 1) (MS code text lim start ls pc pos handed om marks lm li loops inner [] wt (some b) sn) Q := .step (.now k)
end

theorem run_ok {code text : Array Nat} {i : Nat} {cls : Nat → Bool} (hacc : ∀ c s, ∃ s', accepts code i c s = .ok (cls c, s')) : ∀ (n p found : Nat) (s : Seen) (k : Nat), k ≤ n → (∀ j, j < k → cls (text.getD (p + j) 0) = true) → (k = n ∨ cls (text.getD (p + k) 0) = false) → ∃ s', Sre.run code text i n p found s = .ok (found + k, s')
  | 0, p, found, s, k, hk, _, _ => ⟨s, by have : k = 0 := Nat.le_zero.mp hk; subst this; rfl⟩
  | n + 1, p, found, s, 0, hk, h1, h2 => by
    obtain ⟨s', e⟩ := hacc (text.getD p 0) s
    rcases h2 with h2 | h2
    · omega
    · refine ⟨s', ?_⟩
      rw [Sre.run, e]
      rw [Nat.add_zero] at h2
      rw [h2]; rfl
  | n + 1, p, found, s, k + 1, hk, h1, h2 => by
    obtain ⟨s', e⟩ := hacc (text.getD p 0) s
    have h0 := h1 0 (by omega)
    rw [Nat.add_zero] at h0
    obtain ⟨s'', e'⟩ := run_ok hacc n (p + 1) (found + 1) s' k (by omega) (fun j hj => by have := h1 (j + 1) (by omega); rwa [show p + (j + 1) = p + 1 + j from by omega] at this) (by
      rcases h2 with h2 | h2
      · exact .inl (by omega)
      · exact .inr (by rwa [show p + (k + 1) = p + 1 + k from by omega] at h2))
    refine ⟨s'', ?_⟩
    rw [Sre.run, e, h0]
    show Sre.run code text i n (p + 1) (found + 1) s' = _
    rw [e', show found + 1 + k = found + (k + 1) from by omega]

/-- the signs of a token, w telling of those below 64 -/
def isK (w : Nat) (c : Nat) : Bool := (decide (c < 256) && ((#[0, w, 1073741824, 1342177281, 0, 0, 0, 0] : Array Nat).getD (c / 32) 0).testBit (c % 32)) || Sre.isWord c

theorem setK {code : Array Nat} {j w : Nat} (hsz : 3 ≤ code.size) (h0 : code.getD j 0 = 9) (hw : ∀ q, q < 8 → code.getD (j + 1 + q) 0 = (#[0, w, 1073741824, 1342177281, 0, 0, 0, 0] : Array Nat).getD q 0)
    (h9 : code.getD (j + 9) 0 = 8) (h10 : code.getD (j + 10) 0 = 4) (h11 : code.getD (j + 11) 0 = 0) (c : Nat) (s : Seen) : ∃ s', inSet code c code.size j true s = .ok (isK w c, s') := by
  obtain ⟨f, hf⟩ : ∃ f, code.size = f + 1 + 1 + 1 := ⟨code.size - 3, by omega⟩
  rw [hf]
  rw [inSet]
  dsimp only
  rw [Nat.add_zero, h0]
  simp only [ops, List.getElem?_toArray, List.getElem?_cons_succ, List.getElem?_cons_zero]
  have hq : c < 256 → c / 32 < 8 := fun h => by omega
  by_cases hb : (decide (c < 256) && (code.getD (j + (1 + c / 32)) 0).testBit (c % 32)) = true
  · rw [if_pos hb]
    have : isK w c = true := by
      unfold isK
      rw [Bool.and_eq_true, decide_eq_true_eq] at hb
      rw [← Nat.add_assoc, hw _ (hq hb.1)] at hb
      rw [hb.2, decide_eq_true hb.1]; rfl
    rw [this]
    exact ⟨_, rfl⟩
  · rw [if_neg hb]
    rw [inSet]
    dsimp only
    rw [Nat.add_zero, h9]
    simp only [ops, List.getElem?_toArray, List.getElem?_cons_succ, List.getElem?_cons_zero]
    rw [show j + 9 + 1 = j + 10 from rfl, h10]
    have hk : isK w c = Sre.isWord c := by
      unfold isK
      have : (decide (c < 256) && ((#[0, w, 1073741824, 1342177281, 0, 0, 0, 0] : Array Nat).getD (c / 32) 0).testBit (c % 32)) = false := by
        rw [Bool.eq_false_iff]
        intro q
        apply hb
        rw [Bool.and_eq_true, decide_eq_true_eq] at q ⊢
        rw [← Nat.add_assoc, hw _ (hq q.1)]; exact q
      rw [this, Bool.false_or]
    have hcat : category 4 c = .ok (Sre.isWord c) := by unfold category; simp [Except.map]
    rw [hcat]
    cases hc : Sre.isWord c with
    | true => exact ⟨_, by rw [hk, hc]; rfl⟩
    | false =>
      rw [hk, hc]
      have hfin : ∀ s, ∃ s', inSet code c (f + 1) (j + 9 + 2) true s = .ok (false, s') := by
        intro s
        rw [inSet]
        dsimp only
        rw [Nat.add_zero, show j + 9 + 2 = j + 11 from rfl, h11]
        simp only [ops, List.getElem?_toArray, List.getElem?_cons_succ, List.getElem?_cons_zero]
        exact ⟨_, rfl⟩
      exact hfin _
theorem acceptsIn {code : Array Nat} {i : Nat} (hop : code.getD i 0 = 13) (c : Nat) (s : Seen) : accepts code i c s = inSet code c code.size (i + 2) true s := by
  unfold accepts
  rw [hop]
  simp only [ops, List.getElem?_toArray, List.getElem?_cons_succ, List.getElem?_cons_zero]
end Mine
end
section
open PySem PySem.Sre
set_option Elab.async false
set_option maxRecDepth 100000
set_option linter.all false
namespace Mine
def Found (start handed : Nat) (marks : Array (Option Nat)) (lm li : Int) (m : M) : Prop := m.outcome = some .matched ∧ m.start = start ∧ m.handed = handed ∧ m.marks = marks ∧ m.lastmark = lm ∧ m.lastindex = li
def NotFound (m : M) : Prop := m.outcome = some .failed

def keyCode : Array Nat := #[14, 4, 0, 2, 4294967295, 17, 0, 24, 18, 1, 4294967295, 13, 13, 9, 0, 27898, 1073741824, 1342177281, 0, 0, 0, 0, 8, 4, 0, 1, 17, 1, 16, 61, 1]
def tokCode : Array Nat := #[14, 4, 0, 1, 4294967295, 24, 18, 1, 4294967295, 13, 13, 9, 0, 27898, 1073741824, 1342177281, 0, 0, 0, 0, 8, 4, 0, 1, 1]

theorem q8 {P : Nat → Prop} (h : P 0 ∧ P 1 ∧ P 2 ∧ P 3 ∧ P 4 ∧ P 5 ∧ P 6 ∧ P 7) (q : Nat) (hq : q < 8) : P q := by
  obtain ⟨h0, h1, h2, h3, h4, h5, h6, h7⟩ := h
  match q, hq with
  | 0, _ => exact h0 | 1, _ => exact h1 | 2, _ => exact h2 | 3, _ => exact h3 | 4, _ => exact h4 | 5, _ => exact h5 | 6, _ => exact h6 | 7, _ => exact h7
  | n + 8, h => omega
theorem key_acc (c : Nat) (s : Seen) : ∃ s', accepts keyCode 11 c s = .ok (isK 27898 c, s') := by
  rw [acceptsIn rfl]
  exact setK (j := 13) (by decide) rfl (q8 ⟨rfl, rfl, rfl, rfl, rfl, rfl, rfl, rfl⟩) rfl rfl rfl c s
theorem tok_acc (c : Nat) (s : Seen) : ∃ s', accepts tokCode 9 c s = .ok (isK 27898 c, s') := by
  rw [acceptsIn rfl]
  exact setK (j := 11) (by decide) rfl (q8 ⟨rfl, rfl, rfl, rfl, rfl, rfl, rfl, rfl⟩) rfl rfl rfl c s

section
variable {text : Array Nat} {lim pos k : Nat}

theorem key_start (hp : pos ≤ lim) : forMatch keyCode text 1 pos lim false false = if lim - pos < 2 then MS keyCode text lim pos 0 5 pos pos true #[none, none] (-1) (-1) #[] none [] 0 (some false) (({} : Seen).add 14) else MS keyCode text lim pos 0 5 pos pos true #[none, none] (-1) (-1) #[] none [] 0 none (({} : Seen).add 14) := by
  have e : forMatch keyCode text 1 pos lim false false = if (decide (pos ≤ lim) && decide (lim - pos < 2)) = true then MS keyCode text lim pos 0 5 pos pos true #[none, none] (-1) (-1) #[] none [] 0 (some false) (({} : Seen).add 14) else MS keyCode text lim pos 0 5 pos pos true #[none, none] (-1) (-1) #[] none [] 0 none (({} : Seen).add 14) := rfl
  rw [e, decide_eq_true hp, Bool.true_and]
  by_cases h : lim - pos < 2
  · rw [decide_eq_true h, if_pos rfl, if_pos h]
  · rw [decide_eq_false h, if_neg (by decide), if_neg h]

theorem key_found (hM : lim ≤ 4294967295) (h1 : 1 ≤ k) (hl : pos + k < lim) (hk : ∀ j, j < k → isK 27898 (text.getD (pos + j) 0) = true) (he : text.getD (pos + k) 0 = 61) :
    Go 8 (forMatch keyCode text 1 pos lim false false) (Found pos (pos + k + 1) #[some pos, some (pos + k)] 1 1) := by
  rw [key_start (by omega), if_neg (by omega)]
  refine go_mark 0 (by decide) rfl rfl (by decide) fun sn => ?_
  refine go_repeatOne 18 1 4294967295 k (by decide) rfl rfl rfl rfl (by omega) rfl (by decide) (fun _ s => ?_) (fun h => by omega) (fun _ sn => ?_)
  · have := run_ok (text := text) key_acc (min 4294967295 (lim - pos)) pos 0 s k (by omega) hk (.inr (by rw [he]; decide +kernel))
    rwa [Nat.zero_add] at this
  refine go_mark 1 (by decide) rfl rfl (by decide) fun sn => ?_
  refine go_literal 61 (by decide) rfl rfl (fun _ _ sn => ?_) (fun h sn => absurd he (h hl))
  refine go_success (by decide) rfl fun sn => ?_
  refine go_gbYes ?_
  exact go_done ⟨rfl, rfl, rfl, rfl, rfl, rfl⟩

theorem key_back (he : ∀ j, j ≤ k → (pos + j < lim → text.getD (pos + j) 0 ≠ 61)) : ∀ c, 1 ≤ c → c ≤ k → ∀ (pc po ha : Nat) (om : Bool) (marks : Array (Option Nat)) (lm li : Int) (sn : Seen),
    Go (3 * c + 2) (MS keyCode text lim pos 0 pc po ha om marks lm li #[] none [gb 7 (pos + c) true c 0 (-1)] 1 (some false) sn) NotFound
  | 0, h, _, _, _, _, _, _, _, _, _ => by omega
  | 1, _, hk, pc, po, ha, om, marks, lm, li, sn => by
    refine go_gbEnd 1 rfl (by decide) ?_
    exact Go.mono (go_done (n := 0) rfl) (by omega)
  | c + 2, _, hk, pc, po, ha, om, marks, lm, li, sn => by
    refine Go.mono (n := 3 * (c + 1) + 2 + 1 + 1 + 1) ?_ (by omega)
    refine go_gbMore 18 1 rfl rfl (by omega) (by decide) (by decide) ?_
    rw [show pos + (c + 2) - 1 = pos + (c + 1) from by omega, show (((c + 2 : Nat) : Int) - 1) = ((c + 1 : Nat) : Int) from by omega]
    refine go_mark 1 (by decide) rfl rfl (by decide) fun sn => ?_
    refine go_literal 61 (by decide) rfl rfl (fun hp h sn => absurd h (he (c + 1) (by omega) hp)) (fun h sn => ?_)
    exact key_back he (c + 1) (by omega) (by omega) _ _ _ _ _ _ _ _

theorem key_not (hM : lim ≤ 4294967295) (hp : pos ≤ lim) (hl : pos + k ≤ lim) (hk : ∀ j, j < k → isK 27898 (text.getD (pos + j) 0) = true) (hend : pos + k = lim ∨ isK 27898 (text.getD (pos + k) 0) = false) (he : k = 0 ∨ (pos + k < lim → text.getD (pos + k) 0 ≠ 61)) :
    Go (3 * k + 20) (forMatch keyCode text 1 pos lim false false) NotFound := by
  rw [key_start hp]
  split
  · exact Go.mono (go_done (n := 0) rfl) (by omega)
  · refine Go.mono (go_mark (n := 3 * k + 5) 0 (by decide) rfl rfl (by decide) fun sn => ?_) (by omega)
    refine go_repeatOne (n := 3 * k + 4) 18 1 4294967295 k (by decide) rfl rfl rfl rfl hp rfl (by decide) (fun _ s => ?_) (fun h sn => ?_) (fun h sn => ?_)
    · have := run_ok (text := text) key_acc (min 4294967295 (lim - pos)) pos 0 s k (by omega) hk (hend.imp (fun h => by omega) id)
      rwa [Nat.zero_add] at this
    · exact Go.mono (go_done (n := 0) rfl) (by omega)
    · have hne : ∀ j, j ≤ k → (pos + j < lim → text.getD (pos + j) 0 ≠ 61) := by
        intro j hj hjl
        rcases Nat.lt_or_ge j k with h' | h'
        · intro q
          have := hk j h'
          rw [q] at this
          exact absurd this (by decide +kernel)
        · have : j = k := by omega
          subst this
          rcases he with he | he
          · omega
          · exact he hjl
      refine Go.mono (go_mark (n := 3 * k + 2 + 1) 1 (by decide) rfl rfl (by decide) fun sn => ?_) (by omega)
      refine go_literal 61 (by decide) rfl rfl (fun hp h sn => absurd h (hne k (Nat.le_refl _) hp)) (fun h' sn => ?_)
      exact key_back hne k h (Nat.le_refl _) _ _ _ _ _ _ _ _


theorem tok_start (hp : pos ≤ lim) : forMatch tokCode text 0 pos lim false false = if lim - pos < 1 then MS tokCode text lim pos 0 5 pos pos true #[] (-1) (-1) #[] none [] 0 (some false) (({} : Seen).add 14) else MS tokCode text lim pos 0 5 pos pos true #[] (-1) (-1) #[] none [] 0 none (({} : Seen).add 14) := by
  have e : forMatch tokCode text 0 pos lim false false = if (decide (pos ≤ lim) && decide (lim - pos < 1)) = true then MS tokCode text lim pos 0 5 pos pos true #[] (-1) (-1) #[] none [] 0 (some false) (({} : Seen).add 14) else MS tokCode text lim pos 0 5 pos pos true #[] (-1) (-1) #[] none [] 0 none (({} : Seen).add 14) := rfl
  rw [e, decide_eq_true hp, Bool.true_and]
  by_cases h : lim - pos < 1
  · rw [decide_eq_true h, if_pos rfl, if_pos h]
  · rw [decide_eq_false h, if_neg (by decide), if_neg h]
theorem tok_found (hM : lim ≤ 4294967295) (h1 : 1 ≤ k) (hl : pos + k ≤ lim) (hk : ∀ j, j < k → isK 27898 (text.getD (pos + j) 0) = true) (hend : pos + k = lim ∨ isK 27898 (text.getD (pos + k) 0) = false) :
    Go 8 (forMatch tokCode text 0 pos lim false false) (Found pos (pos + k) #[] (-1) (-1)) := by
  rw [tok_start (by omega), if_neg (by omega)]
  refine go_repeatOne 18 1 4294967295 k (by decide) rfl rfl rfl rfl (by omega) rfl (by decide) (fun _ s => ?_) (fun h => by omega) (fun _ sn => ?_)
  · have := run_ok (text := text) tok_acc (min 4294967295 (lim - pos)) pos 0 s k (by omega) hk (hend.imp (fun h => by omega) id)
    rwa [Nat.zero_add] at this
  refine go_success (by decide) rfl fun sn => ?_
  refine go_gbYes ?_
  exact go_done ⟨rfl, rfl, rfl, rfl, rfl, rfl⟩
theorem tok_not (hM : lim ≤ 4294967295) (hp : pos ≤ lim) (hend : pos = lim ∨ isK 27898 (text.getD pos 0) = false) : Go 8 (forMatch tokCode text 0 pos lim false false) NotFound := by
  rw [tok_start hp]
  split
  · exact Go.mono (go_done (n := 0) rfl) (by omega)
  · refine go_repeatOne 18 1 4294967295 0 (by decide) rfl rfl rfl rfl (by omega) rfl (by decide) (fun _ s => ?_) (fun h sn => ?_) (fun h => by omega)
    · have := run_ok (text := text) tok_acc (min 4294967295 (lim - pos)) pos 0 s 0 (by omega) (fun j h => by omega) (hend.imp (fun h => by omega) id)
      exact this
    · exact Go.mono (go_done (n := 0) rfl) (by omega)

/-! ## the delimiter -/
def delimCode : Array Nat := #[14, 8, 1, 1, 4294967295, 1, 1, 59, 0, 16, 59, 24, 11, 0, 4294967295, 13, 6, 16, 32, 16, 9, 0, 1, 1]
def isBl (c : Nat) : Bool := c == 32 || c == 9
theorem delim_acc (c : Nat) (s : Seen) : ∃ s', accepts delimCode 15 c s = .ok (isBl c, s') := by
  rw [acceptsIn rfl]
  show ∃ s', inSet delimCode c (21 + 1 + 1 + 1) 17 true s = _
  rw [inSet]
  dsimp only
  rw [show ops[delimCode.getD (17 + 0) 0]? = some .LITERAL from rfl]
  dsimp only
  by_cases h : (c == delimCode.getD (17 + 1) 0) = true
  · rw [if_pos h]
    have hc : c = 32 := (eq_of_beq h : c = delimCode.getD (17 + 1) 0)
    subst hc
    exact ⟨_, rfl⟩
  · rw [if_neg h, inSet]
    have h1 : c ≠ 32 := fun q => h (by subst q; rfl)
    dsimp only
    rw [show ops[delimCode.getD (17 + 2 + 0) 0]? = some .LITERAL from rfl]
    dsimp only
    by_cases h' : (c == delimCode.getD (17 + 2 + 1) 0) = true
    · rw [if_pos h']
      have hc : c = 9 := (eq_of_beq h' : c = delimCode.getD (17 + 2 + 1) 0)
      subst hc
      exact ⟨_, rfl⟩
    · rw [if_neg h', inSet]
      have h2 : c ≠ 9 := fun q => h' (by subst q; rfl)
      dsimp only
      rw [show ops[delimCode.getD (17 + 2 + 2 + 0) 0]? = some .FAILURE from rfl]
      have : isBl c = false := by unfold isBl; simp [h1, h2]
      rw [this]
      exact ⟨_, rfl⟩

theorem delim_start (hp : pos ≤ lim) : forSearch delimCode text 0 pos lim false = if lim - pos < 1 then MS delimCode text lim pos 0 9 pos pos true #[] (-1) (-1) #[] none [] 0 (some false) (({} : Seen).add 14) else MS delimCode text lim pos lim 9 pos pos true #[] (-1) (-1) #[] none [ns 9 pos true] 1 none (({} : Seen).add 14) := by
  have e : forSearch delimCode text 0 pos lim false = if (decide (pos > lim) || decide (lim - pos < 1)) = true then MS delimCode text lim pos 0 9 pos pos true #[] (-1) (-1) #[] none [] 0 (some false) (({} : Seen).add 14) else M.attemptFrom (MS delimCode text lim pos lim 9 pos pos true #[] (-1) (-1) #[] none [] 0 none (({} : Seen).add 14)) pos true := rfl
  rw [e, decide_eq_false (Nat.not_lt.mpr hp), Bool.false_or, attemptFrom_eq _ _ (by decide) (by decide)]
  by_cases h : lim - pos < 1
  · rw [decide_eq_true h, if_pos rfl, if_pos h]
  · rw [decide_eq_false h, if_neg (by decide), if_neg h]

/-- starts that fail are passed by -/
theorem delim_skip {n : Nat} {Q : M → Prop} : ∀ (g pos : Nat) (om : Bool) (sn : Seen), pos + g ≤ lim → (∀ j, j < g → text.getD (pos + j) 0 ≠ 59) →
    (∀ om sn, Go n (MS delimCode text lim (pos + g) lim 9 (pos + g) (pos + g) om #[] (-1) (-1) #[] none [ns 9 (pos + g) om] 1 none sn) Q) →
    Go (n + g * 2) (MS delimCode text lim pos lim 9 pos pos om #[] (-1) (-1) #[] none [ns 9 pos om] 1 none sn) Q
  | 0, pos, om, sn, _, _, k => k om sn
  | g + 1, pos, om, sn, hl, hk, k => by
    refine Go.mono (n := n + g * 2 + 1 + 1) ?_ (by omega)
    refine go_literal 59 (by decide) rfl rfl (fun _ h sn => absurd h (hk 0 (by omega))) (fun h sn => ?_)
    refine go_nsMore (by omega) (by decide) (by decide) (by decide) ?_
    exact delim_skip g (pos + 1) false sn (by omega) (fun j hj => by have := hk (j + 1) (by omega); rwa [show pos + (j + 1) = pos + 1 + j from by omega] at this) (fun om sn => by have := k om sn; rwa [show pos + (g + 1) = pos + 1 + g from by omega] at this)

theorem delim_found {g b : Nat} (hM : lim ≤ 4294967295) (hl : pos + g + 1 + b ≤ lim) (hg : ∀ j, j < g → text.getD (pos + j) 0 ≠ 59) (h59 : text.getD (pos + g) 0 = 59) (hb : ∀ j, j < b → isBl (text.getD (pos + g + 1 + j) 0) = true) (hend : pos + g + 1 + b = lim ∨ isBl (text.getD (pos + g + 1 + b) 0) = false) :
    Go (10 + g * 2) (forSearch delimCode text 0 pos lim false) (Found (pos + g) (pos + g + 1 + b) #[] (-1) (-1)) := by
  rw [delim_start (by omega), if_neg (by omega)]
  refine delim_skip g pos true _ (by omega) hg fun om sn => ?_
  refine Go.mono (n := 0 + 1 + 1 + 1 + 1 + 1 + 1) ?_ (by omega)
  refine go_literal 59 (by decide) rfl rfl (fun _ _ sn => ?_) (fun h sn => absurd h59 (h (by omega)))
  refine go_repeatOne 11 0 4294967295 b (by decide) rfl rfl rfl rfl (by omega) rfl (by decide) (fun _ s => ?_) (fun h => by omega) (fun _ sn => ?_)
  · have := run_ok (text := text) delim_acc (min 4294967295 (lim - (pos + g + 1))) (pos + g + 1) 0 s b (by omega) hb (hend.imp (fun h => by omega) id)
    rwa [Nat.zero_add] at this
  refine go_success (by decide) rfl fun sn => ?_
  refine go_gbYes ?_
  refine go_nsYes ?_
  exact go_done ⟨rfl, rfl, rfl, rfl, rfl, rfl⟩
theorem delim_not (hp : pos ≤ lim) (hg : ∀ j, pos + j < lim → text.getD (pos + j) 0 ≠ 59) : Go (10 + (lim - pos) * 2) (forSearch delimCode text 0 pos lim false) NotFound := by
  rw [delim_start hp]
  split
  · exact Go.mono (go_done (n := 0) rfl) (by omega)
  · refine delim_skip (lim - pos) pos true _ (by omega) (fun j hj => hg j (by omega)) fun om sn => ?_
    rw [show pos + (lim - pos) = lim from by omega]
    refine Go.mono (n := 0 + 1 + 1 + 1) ?_ (by omega)
    refine go_literal 59 (by decide) rfl rfl (fun h => absurd h (Nat.lt_irrefl _)) (fun h sn => ?_)
    refine go_nsEnd (Nat.lt_irrefl _) ?_
    exact go_done rfl

/-! ## a backslash and a sign -/
def unslCode : Array Nat := #[14, 8, 1, 2, 2, 1, 1, 92, 0, 16, 92, 17, 0, 2, 17, 1, 1]
theorem unsl_start (hp : pos ≤ lim) : forSearch unslCode text 1 pos lim false = if lim - pos < 2 then MS unslCode text lim pos 0 9 pos pos true #[none, none] (-1) (-1) #[] none [] 0 (some false) (({} : Seen).add 14) else MS unslCode text lim pos lim 9 pos pos true #[none, none] (-1) (-1) #[] none [ns 9 pos true] 1 none (({} : Seen).add 14) := by
  have e : forSearch unslCode text 1 pos lim false = if (decide (pos > lim) || decide (lim - pos < 2)) = true then MS unslCode text lim pos 0 9 pos pos true #[none, none] (-1) (-1) #[] none [] 0 (some false) (({} : Seen).add 14) else M.attemptFrom (MS unslCode text lim pos lim 9 pos pos true #[none, none] (-1) (-1) #[] none [] 0 none (({} : Seen).add 14)) pos true := rfl
  rw [e, decide_eq_false (Nat.not_lt.mpr hp), Bool.false_or, attemptFrom_eq _ _ (by decide) (by decide)]
  by_cases h : lim - pos < 2
  · rw [decide_eq_true h, if_pos rfl, if_pos h]
  · rw [decide_eq_false h, if_neg (by decide), if_neg h]
/-- no newline in the text: a start fails where no backslash stands, or nothing behind it -/
theorem unsl_skip {n : Nat} {Q : M → Prop} : ∀ (g pos : Nat) (om : Bool) (marks : Array (Option Nat)) (sn : Seen), pos + g ≤ lim → (∀ j, j < g → text.getD (pos + j) 0 ≠ 92) →
    (∀ om sn, Go n (MS unslCode text lim (pos + g) lim 9 (pos + g) (pos + g) om marks (-1) (-1) #[] none [ns 9 (pos + g) om] 1 none sn) Q) →
    Go (n + g * 2) (MS unslCode text lim pos lim 9 pos pos om marks (-1) (-1) #[] none [ns 9 pos om] 1 none sn) Q
  | 0, pos, om, marks, sn, _, _, k => k om sn
  | g + 1, pos, om, marks, sn, hl, hk, k => by
    refine Go.mono (n := n + g * 2 + 1 + 1) ?_ (by omega)
    refine go_literal 92 (by decide) rfl rfl (fun _ h sn => absurd h (hk 0 (by omega))) (fun h sn => ?_)
    refine go_nsMore (by omega) (by decide) (by decide) (by decide) ?_
    exact unsl_skip g (pos + 1) false marks sn (by omega) (fun j hj => by have := hk (j + 1) (by omega); rwa [show pos + (j + 1) = pos + 1 + j from by omega] at this) (fun om sn => by have := k om sn; rwa [show pos + (g + 1) = pos + 1 + g from by omega] at this)
theorem unsl_found {g : Nat} (hl : pos + g + 1 < lim) (hg : ∀ j, j < g → text.getD (pos + j) 0 ≠ 92) (h92 : text.getD (pos + g) 0 = 92) (h10 : text.getD (pos + g + 1) 0 ≠ 10) :
    Go (10 + g * 2) (forSearch unslCode text 1 pos lim false) (Found (pos + g) (pos + g + 2) #[some (pos + g + 1), some (pos + g + 2)] 1 1) := by
  rw [unsl_start (by omega), if_neg (by omega)]
  refine unsl_skip g pos true _ _ (by omega) hg fun om sn => ?_
  refine Go.mono (n := 0 + 1 + 1 + 1 + 1 + 1 + 1 + 1) ?_ (by omega)
  refine go_literal 92 (by decide) rfl rfl (fun _ _ sn => ?_) (fun h sn => absurd h92 (h (by omega)))
  refine go_mark 0 (by decide) rfl rfl (by decide) fun sn => ?_
  refine go_any (by decide) rfl (fun _ _ sn => ?_) (fun h sn => absurd (h (by omega)) h10)
  refine go_mark 1 (by decide) rfl rfl (by decide) fun sn => ?_
  refine go_success (by decide) rfl fun sn => ?_
  refine go_nsYes ?_
  exact go_done ⟨rfl, rfl, rfl, rfl, rfl, rfl⟩
/-- none: only the last sign may be a backslash -/
theorem unsl_not (hp : pos ≤ lim) (hg : ∀ j, pos + j + 1 < lim → text.getD (pos + j) 0 ≠ 92) : Go (20 + (lim - pos) * 2) (forSearch unslCode text 1 pos lim false) NotFound := by
  rw [unsl_start hp]
  split
  · exact Go.mono (go_done (n := 0) rfl) (by omega)
  · refine Go.mono (unsl_skip (n := 9) (lim - pos - 1) pos true _ _ (by omega) (fun j hj => hg j (by omega)) fun om sn => ?_) (by omega)
    have hend : ∀ om marks sn, Go 3 (MS unslCode text lim lim lim 9 lim lim om marks (-1) (-1) #[] none [ns 9 lim om] 1 none sn) NotFound := by
      intro om marks sn
      refine go_literal 92 (by decide) rfl rfl (fun h => absurd h (Nat.lt_irrefl _)) (fun h sn => ?_)
      refine go_nsEnd (Nat.lt_irrefl _) ?_
      exact go_done rfl
    have e1 : pos + (lim - pos - 1) + 1 = lim := by omega
    refine Go.mono (n := 3 + 1 + 1 + 1 + 1) ?_ (by omega)
    refine go_literal 92 (by decide) rfl rfl (fun _ _ sn => ?_) (fun h sn => ?_)
    · refine go_mark 0 (by decide) rfl rfl (by decide) fun sn => ?_
      refine go_any (by decide) rfl (fun h => by omega) (fun h sn => ?_)
      refine go_nsMore (by omega) (by decide) (by decide) (by decide) ?_
      rw [e1]; exact hend _ _ _
    · refine Go.mono (n := 3 + 1) ?_ (by omega)
      refine go_nsMore (by omega) (by decide) (by decide) (by decide) ?_
      rw [e1]; exact hend _ _ _
end
end Mine
end
section
open PySem PySem.Sre
set_option Elab.async false
set_option maxRecDepth 100000
set_option linter.all false
namespace Mine
def chsCode : Array Nat := #[14, 4, 0, 3, 4294967295, 17, 0, 24, 18, 0, 4294967295, 13, 13, 9, 0, 27770, 1073741824, 1342177281, 0, 0, 0, 0, 8, 4, 0, 1, 17, 1, 16, 39, 24, 18, 0, 4294967295, 13, 13, 9, 0, 27770, 1073741824, 1342177281, 0, 0, 0, 0, 8, 4, 0, 1, 16, 39, 17, 2, 24, 18, 1, 4294967295, 13, 13, 9, 0, 27898, 1073741824, 1342177281, 0, 0, 0, 0, 8, 4, 0, 1, 17, 3, 6, 5, 1]
theorem chs_acc1 (c : Nat) (s : Seen) : ∃ s', accepts chsCode 11 c s = .ok (isK 27770 c, s') := by
  rw [acceptsIn rfl]
  exact setK (j := 13) (by decide) rfl (q8 ⟨rfl, rfl, rfl, rfl, rfl, rfl, rfl, rfl⟩) rfl rfl rfl c s
theorem chs_acc2 (c : Nat) (s : Seen) : ∃ s', accepts chsCode 34 c s = .ok (isK 27770 c, s') := by
  rw [acceptsIn rfl]
  exact setK (j := 36) (by decide) rfl (q8 ⟨rfl, rfl, rfl, rfl, rfl, rfl, rfl, rfl⟩) rfl rfl rfl c s
theorem chs_acc3 (c : Nat) (s : Seen) : ∃ s', accepts chsCode 57 c s = .ok (isK 27898 c, s') := by
  rw [acceptsIn rfl]
  exact setK (j := 59) (by decide) rfl (q8 ⟨rfl, rfl, rfl, rfl, rfl, rfl, rfl, rfl⟩) rfl rfl rfl c s
section
variable {text : Array Nat} {lim k : Nat}
theorem chs_start : forMatch chsCode text 2 0 lim false false = if lim < 3 then MS chsCode text lim 0 0 5 0 0 true #[none, none, none, none] (-1) (-1) #[] none [] 0 (some false) (({} : Seen).add 14) else MS chsCode text lim 0 0 5 0 0 true #[none, none, none, none] (-1) (-1) #[] none [] 0 none (({} : Seen).add 14) := by
  have e : forMatch chsCode text 2 0 lim false false = if (decide (0 ≤ lim) && decide (lim - 0 < 3)) = true then MS chsCode text lim 0 0 5 0 0 true #[none, none, none, none] (-1) (-1) #[] none [] 0 (some false) (({} : Seen).add 14) else MS chsCode text lim 0 0 5 0 0 true #[none, none, none, none] (-1) (-1) #[] none [] 0 none (({} : Seen).add 14) := rfl
  rw [e, decide_eq_true (Nat.zero_le _), Bool.true_and, Nat.sub_zero]
  by_cases h : lim < 3
  · rw [decide_eq_true h, if_pos rfl, if_pos h]
  · rw [decide_eq_false h, if_neg (by decide), if_neg h]

theorem chs_found {a b d : Nat} (hM : lim ≤ 4294967295) (hl : a + 1 + b + 1 + d = lim) (hd : 1 ≤ d) (ha : ∀ j, j < a → isK 27770 (text.getD j 0) = true) (h1 : text.getD a 0 = 39)
    (hb : ∀ j, j < b → isK 27770 (text.getD (a + 1 + j) 0) = true) (h2 : text.getD (a + 1 + b) 0 = 39) (hc : ∀ j, j < d → isK 27898 (text.getD (a + 1 + b + 1 + j) 0) = true) :
    Go 20 (forMatch chsCode text 2 0 lim false false) (Found 0 lim #[some 0, some a, some (a + 1 + b + 1), some lim] 3 2) := by
  have k39 : isK 27770 39 = false := by decide +kernel
  rw [chs_start, if_neg (by omega)]
  refine Go.mono (n := 0 + 1 + 1 + 1 + 1 + 1 + 1 + 1 + 1 + 1 + 1 + 1 + 1 + 1 + 1 + 1) ?_ (by omega)
  refine go_mark 0 (by decide) rfl rfl (by decide) fun sn => ?_
  refine go_repeatOne 18 0 4294967295 a (by decide) rfl rfl rfl rfl (by omega) rfl (by decide) (fun _ s => ?_) (fun h => by omega) (fun _ sn => ?_)
  · have := run_ok (text := text) chs_acc1 (min 4294967295 (lim - 0)) 0 0 s a (by omega) (fun j hj => by rw [Nat.zero_add]; exact ha j hj) (.inr (by rw [Nat.zero_add, h1]; exact k39))
    rwa [Nat.zero_add] at this
  rw [Nat.zero_add]
  refine go_mark 1 (by decide) rfl rfl (by decide) fun sn => ?_
  refine go_literal 39 (by decide) rfl rfl (fun _ _ sn => ?_) (fun h sn => absurd h1 (h (by omega)))
  refine go_repeatOne 18 0 4294967295 b (by decide) rfl rfl rfl rfl (by omega) rfl (by decide) (fun _ s => ?_) (fun h => by omega) (fun _ sn => ?_)
  · have := run_ok (text := text) chs_acc2 (min 4294967295 (lim - (a + 1))) (a + 1) 0 s b (by omega) hb (.inr (by rw [h2]; exact k39))
    rwa [Nat.zero_add] at this
  refine go_literal 39 (by decide) rfl rfl (fun _ _ sn => ?_) (fun h sn => absurd h2 (h (by omega)))
  refine go_mark 2 (by decide) rfl rfl (by decide) fun sn => ?_
  refine go_repeatOne 18 1 4294967295 d (by decide) rfl rfl rfl rfl (by omega) rfl (by decide) (fun _ s => ?_) (fun h => by omega) (fun _ sn => ?_)
  · have := run_ok (text := text) chs_acc3 (min 4294967295 (lim - (a + 1 + b + 1))) (a + 1 + b + 1) 0 s d (by omega) hc (.inl (by omega))
    rwa [Nat.zero_add] at this
  rw [hl]
  refine go_mark 3 (by decide) rfl rfl (by decide) fun sn => ?_
  refine go_atEnd (by decide) rfl rfl (fun _ sn => ?_) (fun h => absurd (.inl rfl) h)
  refine go_success (by decide) rfl fun sn => ?_
  refine go_gbYes ?_
  refine go_gbYes ?_
  refine go_gbYes ?_
  exact go_done ⟨rfl, rfl, rfl, rfl, rfl, rfl⟩

theorem chs_back (he : ∀ j, j < lim → text.getD j 0 ≠ 39) : ∀ c, c ≤ lim → ∀ (pc po ha : Nat) (om : Bool) (marks : Array (Option Nat)) (lm li : Int) (sn : Seen),
    Go (3 * c + 2) (MS chsCode text lim 0 0 pc po ha om marks lm li #[] none [gb 7 c true c 0 (-1)] 1 (some false) sn) NotFound
  | 0, hk, pc, po, ha, om, marks, lm, li, sn => by
    refine go_gbEnd 0 rfl (by decide) ?_
    exact go_done (n := 0) rfl
  | c + 1, hk, pc, po, ha, om, marks, lm, li, sn => by
    refine Go.mono (n := 3 * c + 2 + 1 + 1 + 1) ?_ (by omega)
    refine go_gbMore 18 0 rfl rfl (by omega) (by decide) (by decide) ?_
    rw [show c + 1 - 1 = c from rfl, show (((c + 1 : Nat) : Int) - 1) = (c : Int) from by omega]
    refine go_mark 1 (by decide) rfl rfl (by decide) fun sn => ?_
    refine go_literal 39 (by decide) rfl rfl (fun hp h sn => absurd h (he c hp)) (fun h sn => ?_)
    exact chs_back he c (by omega) _ _ _ _ _ _ _ _

theorem chs_not (hM : lim ≤ 4294967295) (hk : ∀ j, j < lim → isK 27770 (text.getD j 0) = true) : Go (3 * lim + 20) (forMatch chsCode text 2 0 lim false false) NotFound := by
  have hne : ∀ j, j < lim → text.getD j 0 ≠ 39 := fun j hj q => by have := hk j hj; rw [q] at this; exact absurd this (by decide +kernel)
  rw [chs_start]
  split
  · exact Go.mono (go_done (n := 0) rfl) (by omega)
  · refine Go.mono (n := 3 * lim + 2 + 1 + 1 + 1 + 1) ?_ (by omega)
    refine go_mark 0 (by decide) rfl rfl (by decide) fun sn => ?_
    refine go_repeatOne 18 0 4294967295 lim (by decide) rfl rfl rfl rfl (by omega) rfl (by decide) (fun _ s => ?_) (fun h => by omega) (fun _ sn => ?_)
    · have := run_ok (text := text) chs_acc1 (min 4294967295 (lim - 0)) 0 0 s lim (by omega) (fun j hj => by rw [Nat.zero_add]; exact hk j hj) (.inl (by omega))
      rwa [Nat.zero_add] at this
    rw [Nat.zero_add]
    refine go_mark 1 (by decide) rfl rfl (by decide) fun sn => ?_
    refine go_literal 39 (by decide) rfl rfl (fun h => absurd h (Nat.lt_irrefl _)) (fun h sn => ?_)
    exact chs_back hne lim (Nat.le_refl _) _ _ _ _ _ _ _ _
end

/-! ## the mark behind a name: by trying, for the names that come up -/
def markCode : Array Nat := #[14, 4, 0, 0, 4294967295, 23, 19, 0, 1, 16, 42, 17, 0, 24, 9, 1, 4294967295, 13, 4, 8, 0, 0, 1, 17, 1, 18, 23, 9, 0, 1, 17, 2, 16, 42, 17, 3, 18, 6, 5, 1]
/-- where the mark stands: its start, the digits' span, the star's span -/
structure MarkAns where
  start : Nat
  cont : Option (Nat × Nat)
  star : Option (Nat × Nat)
def markRun (l : List Nat) : M := M.runFor 400 (forSearch markCode l.toArray 2 0 l.length false)
def markOk (l : List Nat) (start : Nat) (spans : List (Option (Nat × Nat))) : Bool :=
  let m := markRun l
  (match m.outcome with | some .matched => true | _ => false) && m.start == start && m.handed == l.length &&
  ((List.range 2).map fun g => if ((2 * g + 1 : Nat) : Int) ≤ m.lastmark then (match m.marks.getD (2 * g) none, m.marks.getD (2 * g + 1) none with | some b, some e => some (b, e) | _, _ => none) else none) == spans
end Mine
end
section
open PySem
namespace Mine
/-! plain functions: what parse_options_header reads off a text -/
abbrev isKey : Nat → Bool := isK 27898
def keyOf (u : Tx) : Option (Tx × Tx) := match u.dropWhile isKey with
  | 61 :: v => if (u.takeWhile isKey).isEmpty then none else some (u.takeWhile isKey, v)
  | _ => none
def tokOf (u : Tx) : Option Tx := if (u.takeWhile isKey).isEmpty then none else some (u.takeWhile isKey)
def delimOf (u : Tx) : Option Tx := match u.dropWhile (· != 59) with
  | _ :: r => some (r.dropWhile isBl)
  | [] => none
/-- behind the sign that closes: what stands within (with that sign), and the rest -/
def closeQ : Tx → Option (Tx × Tx)
  | 92 :: 92 :: r => (closeQ r).map fun p => (92 :: 92 :: p.1, p.2)
  | 92 :: 34 :: r => (closeQ r).map fun p => (92 :: 34 :: p.1, p.2)
  | 34 :: r => some ([34], r)
  | c :: r => (closeQ r).map fun p => (c :: p.1, p.2)
  | [] => none
/-- one turn: the parts read, and where the delimiter is looked for (none: nothing more is read) -/
def scanTurn (u : Tx) : List (Tx × Tx) × Option Tx := match keyOf u with
  | none => ([], some u)
  | some (K, v) => match tokOf v with
    | some T => ([(lowerL K, T)], some v)
    | none => match v with
      | 34 :: r => match closeQ r with
        | some (q, after) => ([(lowerL K, 34 :: q)], some after)
        | none => ([], none)
      | _ => ([], some v)
def scanF : Nat → Tx → List (Tx × Tx)
  | 0, _ => []
  | _ + 1, [] => []
  | n + 1, u => match scanTurn u with
    | (ps, none) => ps
    | (ps, some w) => match delimOf w with
      | none => ps
      | some u' => ps ++ scanF n u'
def scan (u : Tx) : List (Tx × Tx) := scanF (u.length + 1) u

theorem getA (l : List Nat) (i : Nat) : l.toArray.getD i 0 = l.getD i 0 := by simp [Array.getD_eq_getD_getElem?, List.getD_eq_getElem?_getD]
theorem getA_drop (l : List Nat) (p j : Nat) : l.toArray.getD (p + j) 0 = (l.drop p).getD j 0 := by
  rw [getA, List.getD_eq_getElem?_getD, List.getD_eq_getElem?_getD, List.getElem?_drop]
theorem takeWhile_all (f : Nat → Bool) (u : Tx) (j : Nat) (h : j < (u.takeWhile f).length) : f (u.getD j 0) = true := by
  induction u generalizing j with
  | nil => simp at h
  | cons a u ih =>
    rw [List.takeWhile_cons] at h
    by_cases ha : f a = true
    · rw [if_pos ha] at h
      cases j with
      | zero => simpa using ha
      | succ j => simpa using ih j (by simpa using h)
    · rw [if_neg ha] at h; simp at h
theorem takeWhile_len (f : Nat → Bool) (u : Tx) : (u.takeWhile f).length ≤ u.length := (List.takeWhile_sublist f).length_le
theorem takeWhile_end (f : Nat → Bool) (u : Tx) : (u.takeWhile f).length = u.length ∨ f (u.getD (u.takeWhile f).length 0) = false := by
  induction u with
  | nil => left; rfl
  | cons a u ih =>
    rw [List.takeWhile_cons]
    by_cases ha : f a = true
    · rw [if_pos ha]
      rcases ih with h | h
      · left; simp [h]
      · right; simpa using h
    · rw [if_neg ha]; right; simpa using ha
theorem dropWhile_eq (f : Nat → Bool) (u : Tx) : u.dropWhile f = u.drop (u.takeWhile f).length := by
  induction u with
  | nil => rfl
  | cons a u ih =>
    rw [List.dropWhile_cons, List.takeWhile_cons]
    by_cases ha : f a = true
    · rw [if_pos ha, if_pos ha]; simpa using ih
    · rw [if_neg ha, if_neg ha]; rfl

theorem closeQ_esc (c : Nat) (r : Tx) (h : c = 92 ∨ c = 34) : closeQ (92 :: c :: r) = (closeQ r).map fun p => (92 :: c :: p.1, p.2) := by
  rcases h with h | h <;> subst h <;> rw [closeQ]
theorem closeQ_quote (r : Tx) : closeQ (34 :: r) = some ([34], r) := by rw [closeQ]
theorem closeQ_other (c : Nat) (r : Tx) (h : c ≠ 34) (h2 : ∀ d t, c = 92 → r = d :: t → d ≠ 92 ∧ d ≠ 34) : closeQ (c :: r) = (closeQ r).map fun p => (c :: p.1, p.2) := by
  rw [closeQ]
  · rintro t rfl rfl; exact (h2 92 t rfl rfl).1 rfl
  · rintro t rfl rfl; exact (h2 34 t rfl rfl).2 rfl
  · exact h
theorem closeQ_nil : closeQ [] = none := by rw [closeQ]
theorem closeQ_len : ∀ {r q after : Tx}, closeQ r = some (q, after) → r = q ++ after
  | [], _, _, h => by rw [closeQ] at h; cases h
  | c :: r, q, after, h => by
    by_cases h34 : c = 34
    · subst h34; rw [closeQ_quote] at h; cases h; rfl
    · by_cases hx : c = 92 ∧ ∃ d t, r = d :: t ∧ (d = 92 ∨ d = 34)
      · obtain ⟨rfl, d, t, rfl, hd⟩ := hx
        rw [closeQ_esc d t hd] at h
        obtain ⟨⟨a, b⟩, hp, e⟩ := Option.map_eq_some_iff.mp h
        cases e
        have := closeQ_len hp
        simp [this]
      · rw [closeQ_other c r h34 (fun d t hc hr => ⟨fun q => hx ⟨hc, d, t, hr, .inl q⟩, fun q => hx ⟨hc, d, t, hr, .inr q⟩⟩)] at h
        obtain ⟨⟨a, b⟩, hp, e⟩ := Option.map_eq_some_iff.mp h
        cases e
        have := closeQ_len hp
        simp [this]
theorem keyOf_len {u K v : Tx} (h : keyOf u = some (K, v)) : v.length < u.length := by
  unfold keyOf at h
  split at h
  · rename_i w hd
    split at h
    · cases h
    · cases h
      have := (List.dropWhile_sublist (l := u) isKey).length_le
      rw [hd] at this
      simp only [List.length_cons] at this
      omega
  · cases h
theorem delimOf_len {u r : Tx} (h : delimOf u = some r) : r.length < u.length := by
  unfold delimOf at h
  split at h
  · rename_i a w hd
    cases h
    have h1 := (List.dropWhile_sublist (l := u) (· != 59)).length_le
    have h2 := (List.dropWhile_sublist (l := w) isBl).length_le
    rw [hd] at h1
    simp only [List.length_cons] at h1
    omega
  · cases h
theorem scanTurn_len {u w : Tx} {ps} (h : scanTurn u = (ps, some w)) : w.length ≤ u.length := by
  unfold scanTurn at h
  split at h
  · cases h; exact Nat.le_refl _
  · rename_i K v hk
    have hv := keyOf_len hk
    split at h
    · cases h; omega
    · split at h
      · rename_i r
        split at h
        · rename_i q after hc
          have := closeQ_len hc
          cases h
          rw [this] at hv
          simp only [List.length_cons, List.length_append] at hv
          omega
        · cases h
      · cases h; omega
theorem scanF_fuel : ∀ (n n' : Nat) (u : Tx), u.length < n → u.length < n' → scanF n u = scanF n' u
  | 0, _, _, h, _ => by omega
  | _ + 1, 0, _, _, h => by omega
  | n + 1, n' + 1, [], _, _ => rfl
  | n + 1, n' + 1, a :: r, h, h' => by
    rw [scanF, scanF]
    · cases ht : scanTurn (a :: r) with
      | mk ps o =>
        cases o with
        | none => rfl
        | some w =>
          dsimp only
          cases hd : delimOf w with
          | none => rfl
          | some u' =>
            dsimp only
            have h1 := delimOf_len hd
            have h2 := scanTurn_len ht
            rw [scanF_fuel n n' u' (by omega) (by omega)]
    · simp
    · simp
theorem scan_nil : scan [] = [] := rfl
theorem scan_cons {u : Tx} (hu : u ≠ []) : scan u = match scanTurn u with
    | (ps, none) => ps
    | (ps, some w) => match delimOf w with
      | none => ps
      | some u' => ps ++ scan u' := by
  cases u with
  | nil => exact absurd rfl hu
  | cons a r =>
    unfold scan
    rw [scanF]
    · cases ht : scanTurn (a :: r) with
      | mk ps o =>
        cases o with
        | none => rfl
        | some w =>
          dsimp only
          cases hd : delimOf w with
          | none => rfl
          | some u' =>
            dsimp only
            have h1 := delimOf_len hd
            have h2 := scanTurn_len ht
            rw [scanF_fuel (a :: r).length (u'.length + 1) u' (by omega) (by omega)]
    · simp
end Mine
end
section
open PySem
namespace Mine
def seg (l : Tx) (a b : Nat) : Tx := (l.take b).drop a
theorem drop_cons {l : Tx} {p : Nat} (h : p < l.length) : l.drop p = l.getD p 0 :: l.drop (p + 1) := by
  rw [List.drop_eq_getElem_cons h, List.getD_eq_getElem?_getD, List.getElem?_eq_getElem h]; rfl
theorem seg_snoc {l : Tx} {a b : Nat} (h : b < l.length) (hab : a ≤ b) : seg l a (b + 1) = seg l a b ++ [l.getD b 0] := by
  unfold seg
  rw [List.take_add_one, List.getElem?_eq_getElem h, List.getD_eq_getElem?_getD, List.getElem?_eq_getElem h]
  rw [List.drop_append_of_le_length (by rw [List.length_take]; omega)]
  rfl
theorem seg_self (l : Tx) (a : Nat) : seg l a a = [] := by
  unfold seg; apply List.drop_eq_nil_of_le; rw [List.length_take]; omega
theorem seg_cons {l : Tx} {a b : Nat} (h : a < b) (hb : b ≤ l.length) : seg l a b = l.getD a 0 :: seg l (a + 1) b := by
  unfold seg
  rw [drop_cons (l := l.take b) (p := a) (by rw [List.length_take]; omega)]
  rw [List.getD_eq_getElem?_getD, List.getElem?_take_of_lt h, List.getD_eq_getElem?_getD]
theorem seg_drop (l : Tx) (a n : Nat) : seg l a (a + n) = (l.drop a).take n := by
  unfold seg; rw [List.drop_take]; congr 1; omega
theorem take_takeWhile (f : Nat → Bool) (u : Tx) : u.take (u.takeWhile f).length = u.takeWhile f := by
  induction u with
  | nil => rfl
  | cons a u ih =>
    rw [List.takeWhile_cons]
    by_cases ha : f a = true
    · rw [if_pos ha, List.length_cons, List.take_succ_cons, ih]
    · rw [if_neg ha]; rfl
theorem swAt_one {l : Tx} {c i : Nat} : swAt l [c] i = true ↔ i < l.length ∧ l.getD i 0 = c := by
  unfold swAt
  constructor
  · intro h
    rw [Bool.and_eq_true, decide_eq_true_eq] at h
    have hi : i < l.length := by have := h.1; simp at this; omega
    refine ⟨hi, ?_⟩
    have h2 := eq_of_beq h.2
    rw [drop_cons hi] at h2
    simpa using h2
  · rintro ⟨hi, hc⟩
    rw [drop_cons hi, hc]
    simp; omega
theorem swAt_two {l : Tx} {c d i : Nat} : swAt l [c, d] i = true ↔ i + 1 < l.length ∧ l.getD i 0 = c ∧ l.getD (i + 1) 0 = d := by
  unfold swAt
  constructor
  · intro h
    rw [Bool.and_eq_true, decide_eq_true_eq] at h
    have hi : i + 1 < l.length := by have := h.1; simp at this; omega
    have h2 := eq_of_beq h.2
    rw [drop_cons (by omega : i < l.length), drop_cons hi] at h2
    simp at h2
    exact ⟨hi, by simpa using h2.1, by simpa using h2.2⟩
  · rintro ⟨hi, hc, hd⟩
    rw [drop_cons (by omega : i < l.length), drop_cons hi, hc, hd]
    simp; omega
end Mine
end
section
open PySem PySem.W PySem.Calls PyProof.Rows
set_option Elab.async false
set_option maxRecDepth 100000
set_option linter.all false
namespace Mine
noncomputable section

def DictObj (P : Params) (o : Obj) (kvs : List (List Nat × V)) : Prop := ∃ es n, o = { cls := .type "dict", data := .dict es n } ∧ F2 (EntryRep P) kvs es.toList ∧ (kvs.map (·.1)).Nodup
theorem DictObj.at {P : Params} {o : Obj} {kvs} (x : DictObj P o kvs) {h : Heap} {a : Addr} (e : h.get? a = some o) : DictAt P h a kvs := by
  obtain ⟨es, n, rfl, r, nd⟩ := x; exact ⟨⟨es, n, e, r⟩, nd⟩
theorem DictAt.obj {P : Params} {h : Heap} {a : Addr} {kvs} (x : DictAt P h a kvs) : ∃ o, h.get? a = some o ∧ DictObj P o kvs := by
  obtain ⟨⟨es, n, e, r⟩, nd⟩ := x; exact ⟨_, e, es, n, rfl, r, nd⟩
theorem DictObj.lib {w : World} {o : Obj} {kvs} (x : DictObj w.params o kvs) : ∃ kvs' ep, F2 KV kvs kvs' ∧ ∀ {h : Heap} {a : Addr}, h.get? a = some o → h.DictAt (SK w) a kvs' ep := by
  obtain ⟨es, n, rfl, r, nd⟩ := x
  obtain ⟨l, h1, h2, h3⟩ := r.pairs_of
  refine ⟨l, n, h1, fun e => ⟨_, es, e, ⟨rfl, rfl, rfl⟩, rfl, fun x hx => h3 x (by simpa using hx), h2, ?_⟩⟩
  rw [KV.keys h1, nodup_mkS]; exact nd

section
variable {x : Cx} {m : Lc} {led : Ld} {Q : Flow → Shared → Prop}

/-- what a ledger's entry is told by may change, where the heap bears it -/
theorem St.recast {s : Shared} {k : Nat} {a : Addr} {o o' : AO} (S : St x m led s) (hk : led[k]? = some (a, o)) (r : o'.rep x.c.w.params s.heap a) : St x m (led.set k (a, o')) s := by
  have := S.upd (o' := o') hk (Heap.SameBut.refl a s.heap) r S.tk
  exact this

abbrev ItKeys (a : Addr) (n ep : Nat) (i : Nat) (o : Obj) : Prop := o.cls = .type "dict_keyiterator" ∧ o.data = .fields #[.ref a, .int i 0, .int n 0, .int ep 0]
theorem iter_keys {a : Addr} {o : Obj} {kvs : List (List Nat × V)} {kvs' : List (Str × Value)} {ep : Nat} (r : F2 KV kvs kvs') (hD : ∀ {h : Heap} {a : Addr}, h.get? a = some o → h.DictAt (SK x.c.w) a kvs' ep) (nm : Str) (p : Pos) :
    Iter x kvs.length (ItKeys a kvs.length ep) (fun h => h.get? a = some o) (fun i v _ => ∃ k w, kvs[i]? = some (k, w) ∧ (V.str k).rep v) (.Name nm p) where
  plain := fun i o h => by rw [h.1]; exact ⟨nofun, by simp, by simp⟩
  next := fun i s I oi R hi ho hit hs _ k => by
    have hl : kvs'.length = kvs.length := r.lenEq
    obtain ⟨⟨k0, w0⟩, hw⟩ : ∃ p, kvs[i]? = some p := ⟨kvs[i], by simp [hi]⟩
    obtain ⟨⟨k1, w1⟩, hw1, rk⟩ := r.get hw
    refine wpAny_pyNext_dict_item (knd := SK x.c.w) (it := I) (d := a) (ep := ep) (kvs := kvs') ⟨oi, ho, hit.1, by rw [hl]; exact hit.2⟩ (hD hs) hw1 (fun key h' hkey ⟨o', ho', hc', hd'⟩ hsb => ?_)
    refine wpAny_pure (k o' h' s.toks key ⟨hc', by rw [hl] at hd'; exact hd'⟩ ho' hsb.extBut ?_ (Nat.le_refl _))
    obtain ⟨t, rfl⟩ := Value.isStrOf_shape hkey
    exact ⟨k0, w0, hw, t, by rw [show k1 = mkS k0 from rk.1]⟩
  done := fun s I oi R ho hit hs k => by
    have hl : kvs'.length = kvs.length := r.lenEq
    exact wpAny_pyNext_dict_end (knd := SK x.c.w) (it := I) (d := a) (ep := ep) (kvs := kvs') x.hh (i := kvs.length) ⟨oi, ho, hit.1, by rw [hl]; exact hit.2⟩ (hD hs) (by simp [hl]) k

/-- for over the keys of a dict of the ledger (that stays as it is) -/
theorem SX.forKeys {t j : Nat} {nm : Str} {p pos : Pos} {iter : Expr} {body rest : List Stmt} {a : Addr} {kvs : List (List Nat × V)} (ht : x.ns[t]? = some nm) (hi : EV x m led iter (.ref a)) (hj : led[j]? = some (a, .dict kvs)) (ha : a ≠ 1)
    (Inv : Obj → Nat → Lc → Ld → Prop) (h0 : ∀ o, DictObj x.c.w.params o kvs → Inv o 0 m (led.set j (a, .raw o))) (hin : ∀ o i m led, Inv o i m led → (a, AO.raw o) ∈ led)
    (step : ∀ o i k v m led I oi, DictObj x.c.w.params o kvs → kvs[i]? = some (k, v) → Inv o i m led → SX x body (m.set t (some (.str k))) (led ++ [(I, .raw oi)]) (TurnQ x (Inv o) i I oi Q))
    (fin : ∀ o m led, DictObj x.c.w.params o kvs → Inv o kvs.length m led → SX x rest m led Q) (hs : ∀ v, foldedSetIterable iter x.env v = pure v := by intro _; rfl) : SX x (.For (.Name nm p) iter body [] pos :: rest) m led Q := fun s S => by
  refine wpAny_execs_cons (wpAny_For (wpAny_mono (hi s S) (fun u s₁ h₁ => ?_) fun _ _ e => e) hs)
  obtain ⟨E₁, rfl⟩ := h₁
  have S₁ := S.ext E₁
  obtain ⟨o, ho, hO⟩ := (ledDict S₁ hj).obj
  obtain ⟨kvs', ep, r, hD⟩ := hO.lib
  have hcls : o.cls = .type "dict" := by obtain ⟨_, _, rfl, _⟩ := hO; rfl
  have S₁' := S₁.recast (o' := .raw o) hj ⟨ho, by rw [hcls]; nofun, by rw [hcls]; simp, by rw [hcls]; simp⟩
  refine wpAny_pyIter_dict (knd := SK x.c.w) (sysMods ha) (hD ho) ?_
  rw [show kvs'.length = kvs.length from r.lenEq]
  have S₂ := S₁'.add (o := .raw { cls := .type "dict_keyiterator", data := .fields #[.ref a, .int 0 0, .int kvs.length 0, .int ep 0] }) (S₁'.grow fun b o e => Heap.get?_push_of_some { cls := .type "dict_keyiterator", data := .fields #[.ref a, .int 0 0, .int kvs.length 0, .int ep 0] } e) (Nat.le_refl _) ⟨Heap.get?_push_size _ rfl, nofun, by simp, by simp⟩
  refine for_loop (iter_keys r hD nm p) (Inv o) (fun i m led s hI S => (S.hled _ (hin o i m led hI)).2.2.1) (fun i m led I oi v s hlt hI hit hv S => ?_) (fun m led hI => fin o m led hO hI) S₂ (h0 o hO) ⟨rfl, rfl⟩
  obtain ⟨k, w, hk, rv⟩ := hv
  exact wpAny_assign_Name (store_wp S ht rv fun s' S' => wpAny_mono (step o i k w m led I oi hO hk hI s' S') (fun f s₃ h => by cases f <;> exact h) fun _ _ e => e)

/-! items -/
abbrev ItItems (a : Addr) (n ep : Nat) (i : Nat) (o : Obj) : Prop := ∃ ok ov, o = { cls := .type "dict_itemiterator", dict := none, data := .fields #[.none, .bool false, .ref a, .int i 0, .int n 0, .int ep 0, ok, ov], slots := #[] }
theorem iter_items {a : Addr} {o : Obj} {kvs : List (List Nat × V)} {kvs' : List (Str × Value)} {ep : Nat} (r : F2 KV kvs kvs') (hD : ∀ {h : Heap} {a : Addr}, h.get? a = some o → h.DictAt (SK x.c.w) a kvs' ep) (elts : List Expr) (q : Nat) (p : Pos) :
    Iter x kvs.length (ItItems a kvs.length ep) (fun h => h.get? a = some o) (fun i v h => ∃ k w, kvs[i]? = some (k, w) ∧ isTupO [.str k, w] 0 v h) (.Tuple elts q p) where
  plain := fun i o ⟨_, _, h⟩ => by rw [h]; exact ⟨nofun, by simp, by simp⟩
  next := fun i s I oi R hi ho hit hs _ k => by
    have hl : kvs'.length = kvs.length := r.lenEq
    obtain ⟨⟨k0, w0⟩, hw⟩ : ∃ p, kvs[i]? = some p := ⟨kvs[i], by simp [hi]⟩
    obtain ⟨⟨k1, w1⟩, hw1, rk⟩ := r.get hw
    obtain ⟨ok, ov, rfl⟩ := hit
    refine wpAny_pyNext_items_item (knd := SK x.c.w) (it := I) (d := a) (ep := ep) (kvs := kvs') (by rw [hl]; exact ho) (hD hs) hw1 (fun key h' hkey hout htup hsz hkp => ?_)
    refine wpAny_letOwnedTupleGo_items hout (fun h'' hit'' hsb => ?_)
    have hne : s.heap.objs.size ≠ I := Nat.ne_of_gt (Heap.lt_size ho)
    rw [hl] at hit''
    refine k _ h'' _ _ ⟨_, _, rfl⟩ hit'' (fun b ob hb e => hsb.extBut b ob hb (hkp b ob hb e)) ?_ (Nat.le_refl _)
    obtain ⟨t, rfl⟩ := Value.isStrOf_shape hkey
    exact ⟨k0, w0, hw, _, rfl, _, _, hsb.extBut _ _ hne htup, .cons ⟨t, by rw [show k1 = mkS k0 from rk.1]⟩ (.cons rk.2 .nil)⟩
  done := fun s I oi R ho hit hs k => by
    have hl : kvs'.length = kvs.length := r.lenEq
    obtain ⟨ok, ov, rfl⟩ := hit
    exact wpAny_pyNext_items_end (knd := SK x.c.w) (it := I) (d := a) (ep := ep) (kvs := kvs') x.hh (i := kvs.length) (by rw [hl]; exact ho) (hD hs) (by simp [hl]) k

theorem mth_items : Mth "dict" "items" "dict.items" := ⟨F.plainAttrs_dict, F.slot_dict_items, F.type_dict_items⟩
abbrev isItems (a : Addr) : Nat → Value → Heap → Prop := fun _ v h' => ∃ b, v = .ref b ∧ h'.IsItemsView b a
theorem isItems_mono {a : Addr} : PMono (isItems a) := fun _ _ _ _ _ h => h
theorem EX.items {o : Expr} {apos pos : Pos} {a : Addr} {kvs : List (List Nat × V)} (ho : EV x m led o (.ref a)) (hD : ∀ s, St x m led s → DictAt x.c.w.params s.heap a kvs) (ha : a ≠ 1)
    (hbase : attributeBase o "items" x.env (eval o x.env) = eval o x.env := by rfl) (hline : (apos.endLine == pos.line) = true := by rfl) : EX x m led (.Call (.Attribute o "items" apos) [] [] pos) (isItems a) := by
  refine .meth mth_items ho .nil isItems_mono (dictT hD) ?_ hbase hline
  rintro s _ _ S rfl (_ | _)
  obtain ⟨kvs', D, r⟩ := (hD s S).of
  exact call_meetsIn F.slot_dict_items D.typeIs F.entry_dict_items (F.args_dict_items_1 _) (meets_dict_items (SK x.c.w) a (sysMods ha)) ⟨⟨kvs', D⟩, (Ext.self S).push _, _, rfl, ⟨_, Heap.get?_push_size _ rfl, rfl, rfl⟩⟩

/-- for over the items of a dict that stood ahead of the call -/
theorem SX.forItems {i1 i2 q : Nat} {n1 n2 : Str} {p1 p2 pt pos : Pos} {iter : Expr} {body rest : List Stmt} {a : Addr} {kvs : List (List Nat × V)} (h1 : x.ns[i1]? = some n1) (h2 : x.ns[i2]? = some n2) (hi : EX x m led iter (isItems a)) (hB : DictAt x.c.w.params x.B a kvs)
    (Inv : Nat → Lc → Ld → Prop) (h0 : Inv 0 m led)
    (step : ∀ i k v m led I oi, kvs[i]? = some (k, v) → Inv i m led → SX x body ((m.set i1 (some (.str k))).set i2 (some v)) (led ++ [(I, .raw oi)]) (TurnQ x Inv i I oi Q))
    (fin : ∀ m led, Inv kvs.length m led → SX x rest m led Q) (hs : ∀ v, foldedSetIterable iter x.env v = pure v := by intro _; rfl) : SX x (.For (.Tuple [.Name n1 p1, .Name n2 p2] q pt) iter body [] pos :: rest) m led Q := fun s S => by
  refine wpAny_execs_cons (wpAny_For (wpAny_mono (hi s S) (fun u s₁ h₁ => ?_) fun _ _ e => e) hs)
  obtain ⟨E₁, b, rfl, hv⟩ := h₁
  have S₁ := S.ext E₁
  obtain ⟨o, ho, hO⟩ := hB.obj
  obtain ⟨kvs', ep, r, hD⟩ := hO.lib
  have hcls : o.cls = .type "dict" := by obtain ⟨_, _, rfl, _⟩ := hO; rfl
  have side : ∀ {m led} {s : Shared}, St x m led s → s.heap.get? a = some o := fun S => S.keep _ _ (x.tB.ne60 ho (by rw [hcls]; nofun)) (x.tB.ne48 ho (by rw [hcls]; nofun)) ho
  refine wpAny_pyIter_items (knd := SK x.c.w) hv (hD (side S₁)) ?_
  rw [show kvs'.length = kvs.length from r.lenEq]
  have S₂ := S₁.add (o := .raw { cls := .type "dict_itemiterator", data := .fields #[.none, .bool false, .ref a, .int 0 0, .int kvs.length 0, .int ep 0, .none, .none] }) (S₁.grow fun b o e => Heap.get?_push_of_some { cls := .type "dict_itemiterator", data := .fields #[.none, .bool false, .ref a, .int 0 0, .int kvs.length 0, .int ep 0, .none, .none] } e) (Nat.le_refl _) ⟨Heap.get?_push_size _ rfl, nofun, by simp, by simp⟩
  refine for_loop (iter_items r hD _ q pt) Inv (fun i m led s hI S => side S) (fun i m led I oi v s hlt hI hit hv S => ?_) (fun m led hI => fin m led hI) S₂ h0 ⟨_, _, rfl⟩
  obtain ⟨k, w, hk, d, rfl, T⟩ := hv
  exact unpack_wp (is := [i1, i2]) (vs := [.str k, w]) (.cons h1 (.cons h2 .nil)) rfl S T fun s' S' => wpAny_mono (step i k w m led I oi hk hI s' S') (fun f s₃ h => by cases f <;> exact h) fun _ _ e => e
end
end
end Mine
end
section
open PySem PySem.W PySem.Calls PyProof.Rows
set_option Elab.async false
set_option maxRecDepth 100000
set_option linter.all false
namespace Mine
noncomputable section
section
variable {x : Cx} {m : Lc} {led : Ld} {Q : Flow → Shared → Prop}

theorem someArgs3 (a b c : Value) (s : Str) (t : Tok) : Builtin.Str.strSomeArgs "startswith" 1 3 ⟨[.str s t, b, c], []⟩ = pure (.str s t, s, [b, c]) := rfl
theorem searchR (n : Nat) (i : Int) (t : Tok) : Builtin.Str.searchRange n [.int i t] = pure (fromIndex n i, min n n) := rfl

theorem EX.startswithT {o e1 e2 k : Expr} {q : Nat} {pt apos pos : Pos} {a b1 b2 : List Nat} {i : Int} (ho : EV x m led o (.str a)) (h1 : EV x m led e1 (.str b1)) (n1 : notStar e1 = true) (h2 : EV x m led e2 (.str b2)) (n2 : notStar e2 = true) (hk : EV x m led k (.int i)) (hsk : notStar k = true) (h0 : 0 ≤ i)
    (hbase : attributeBase o "startswith" x.env (eval o x.env) = eval o x.env := by rfl) (hline : (apos.endLine == pos.line) = true := by rfl) : EV x m led (.Call (.Attribute o "startswith" apos) [.Tuple [e1, e2] q pt, k] [] pos) (.bool (swAt a b1 i.toNat || swAt a b2 i.toNat)) := by
  intro s S
  have htree : backTo pos (starEach [.Tuple [e1, e2] q pt, k] x.env) = [(false, eval (.Tuple [e1, e2] q pt) x.env), (false, eval k x.env)] := by
    rw [starEach_cons rfl, starEach_cons hsk]; rfl
  have hfew : ((backTo pos (starEach [Expr.Tuple [e1, e2] q pt, k] x.env)).all (fun x => !x.1) && (backToKw pos (keywordEach [] x.env)).all (fun x => x.1.isSome) && decide ([Expr.Tuple [e1, e2] q pt, k].length + ([] : List Keyword).length + (if ([] : List Keyword).isEmpty then 0 else 1) < 30)) = true := by rw [htree]; rfl
  refine wpAny_Call_method_lateS hbase hfew hline (wpAny_mono (ho s S) (fun u s₁ h => ?_) fun _ _ e => e)
  obtain ⟨E₁, t, rfl⟩ := h
  have S₁ := S.ext E₁
  have M := mth_startswith
  refine ⟨"str", _, M.pa, M.slot, M.ty, typeIs_str _ _ _, (fun b e => nomatch e), ?_⟩
  rw [htree]
  have hT : EX x m led (.Tuple [e1, e2] q pt) (isTup [.str b1, .str b2]) := EX.tuple (.cons h1 (.cons h2 .nil n2) n1)
  refine callWith_builtin rfl (evalArgs_plain (spliced_cons (wpAny_mono (hT s₁ S₁) (fun tv s₂ h => spliced_cons (wpAny_mono (hk s₂ (S₁.ext h.1)) (fun kv s₃ h' => spliced_nil ?_) fun _ _ e => e)) fun _ _ e => e)))
  obtain ⟨E₂, ta, rfl, T, _⟩ := h
  obtain ⟨E₃, kt, rfl⟩ := h'
  have S₃ := (S₁.ext E₂).ext E₃
  have T₃ := T.keep (S₁.ext E₂).tabs E₃.keep
  have E13 := E₁.trans (E₂.trans E₃)
  obtain ⟨us, ht, hr⟩ := T₃.isTuple
  obtain ⟨v1, v2, hus⟩ : ∃ v1 v2, us = #[v1, v2] := by
    obtain ⟨l⟩ := us
    rcases hr with _ | ⟨r1, _ | ⟨r2, _ | _⟩⟩
    exact ⟨_, _, rfl⟩
  subst hus
  rcases hr with _ | ⟨⟨t1, rfl⟩, _ | ⟨⟨t2, rfl⟩, _ | _⟩⟩
  refine call_meetsIn F.slot_str_startswith (typeIs_str _ _ _) F.entry_str_startswith (F.args_str_startswith_3 _ _ _) (MeetsIn.of_wp (S := fun A R s => s.heap.IsTuple ta #[.str (mkS b1) t1, .str (mkS b2) t2] ∧ R (.ok (.ret (.bool (swAt a b1 i.toNat || swAt a b2 i.toNat)))) s) (fun A R s ⟨ht, hR⟩ => ?_)) ⟨ht, E13, rfl⟩
  obtain ⟨ob, hob, hcls, n, hdat⟩ := ht
  unfold Builtin.«str.startswith» Builtin.Str.affixEntry
  refine wpAny_bind (wpAny_of_eq (someArgs3 (.str (mkS a) t) _ _ _ _) ?_)
  dsimp only
  refine wpAny_bind (wpAny_of_eq (searchR _ _ _) ?_)
  dsimp only
  refine wpAny_bind ?_
  show wpAny _ _ (do match (← load ta).data with | .prim (.str s _) => pure (some s) | _ => pure none) _ _ s
  refine wpAny_bind (wpAny_load hob ?_)
  rw [hdat]
  refine wpAny_pure ?_
  dsimp only
  refine wpAny_bind (wpAny_isInstance (T := "tuple") (b := true) (v := .ref ta) ⟨ob, hob, hcls⟩ isSubtype_tuple_tuple ?_)
  simp only [if_true]
  refine wpAny_bind (wpAny_rule ?_)
  refine wpAny_bind (wpAny_seqItems (a := ta) hob hdat ?_)
  dsimp only
  have test : ∀ (b : List Nat), (decide (fromIndex (mkS a).length i + (mkS b).length ≤ min (mkS a).length (mkS a).length) && Builtin.Str.subAt (mkS a) (mkS b) (fromIndex (mkS a).length i)) = swAt a b i.toNat := by
    intro b
    unfold swAt
    have e : fromIndex (mkS a).length i = i.toNat := by unfold fromIndex; rw [mkS_length]; omega
    rw [e, Nat.min_self, StrLaws.subAt_eq]
    simp [mkS, Str.length]
  rw [← Array.forIn_toList]
  dsimp only
  refine wpAny_bind ?_
  rw [List.forIn_cons]
  refine wpAny_bind (wpAny_bind (wpAny_of_eq (show asStr? (.str (mkS b1) t1) = pure (some (mkS b1)) from rfl) ?_))
  dsimp only
  cases hb1 : swAt a b1 i.toNat
  · simp only [test b1, hb1, Bool.false_eq_true, if_false]
    refine wpAny_pure ?_
    dsimp only
    rw [List.forIn_cons]
    refine wpAny_bind (wpAny_bind (wpAny_of_eq (show asStr? (.str (mkS b2) t2) = pure (some (mkS b2)) from rfl) ?_))
    dsimp only
    cases hb2 : swAt a b2 i.toNat
    · simp only [test b2, hb2, Bool.false_eq_true, if_false]
      refine wpAny_pure ?_
      dsimp only
      rw [List.forIn_nil]
      refine wpAny_pure ?_
      dsimp only
      rw [hb1, hb2] at hR
      exact wpAny_pure ⟨_, rfl, hR⟩
    · simp only [test b2, hb2, if_true]
      rw [hb1, hb2] at hR
      exact wpAny_bind (wpAny_pure (wpAny_pure (wpAny_pure (wpAny_pure ⟨_, rfl, hR⟩))))
  · simp only [test b1, hb1, if_true]
    rw [hb1] at hR
    exact wpAny_bind (wpAny_pure (wpAny_pure (wpAny_pure (wpAny_pure ⟨_, rfl, hR⟩))))
end
end
end Mine
end
section
open PySem PySem.W PySem.Calls PyProof.Rows
set_option Elab.async false
set_option maxRecDepth 100000
set_option linter.all false
namespace Mine
theorem plainAttrs_pat : PlainAttrs "re.Pattern" :=
  ⟨⟨"object.__getattribute__", by rw [typeLookup_type, builtinLookup_eq_fast]; kernel_rfl, by decide +kernel⟩, by rw [typeLookup_type, builtinLookup_eq_fast]; kernel_rfl⟩
theorem owner_pat : Manifest.owners.lookup (String.ofList ['n', 'r', 'e', 't', 't', 'a', 'P', '.', 'e', 'r'].reverse) = some Manifest.sig_re_Pattern := by kernel_rfl
theorem plainAttrs_mat : PlainAttrs "re.Match" :=
  ⟨⟨"object.__getattribute__", by rw [typeLookup_type, builtinLookup_eq_fast]; kernel_rfl, by decide +kernel⟩, by rw [typeLookup_type, builtinLookup_eq_fast]; kernel_rfl⟩
theorem owner_mat : Manifest.owners.lookup (String.ofList ['h', 'c', 't', 'a', 'M', '.', 'e', 'r'].reverse) = some Manifest.sig_re_Match := by kernel_rfl
theorem slot_pat_match : Slot "re.Pattern" "match" "re.Pattern.match" :=
  .of (owner := "re.Pattern") (n := "match") (by rw [typeLookup_type, builtinLookup_eq_fast]; kernel_rfl) (by decide +kernel) (by decide +kernel) (by decide +kernel)
    (by first | exact .inl (by decide +kernel) | exact .inr (by decide +kernel)) (by rw [isSubtype_type]; kernel_rfl)
theorem type_pat_match : typeOf (.builtin "re.Pattern.match") = pure (.type "method_descriptor") := by show builtinType _ = _; rw [builtinType_eq_fast]; kernel_rfl
theorem entry_pat_match : entryFor table "re.Pattern.match" = some Builtin.«re.Pattern.match» := entryFor_of_tree (by kernel_rfl)
theorem mth_pat_match : Mth "re.Pattern" "match" "re.Pattern.match" := ⟨plainAttrs_pat, slot_pat_match, type_pat_match⟩
theorem args_pat_match_3 (a b c : Value) : argsOk "re.Pattern.match" ⟨[a, b, c], []⟩ := by
  unfold argsOk; rw [signature?_of (id := "re.Pattern.match") (n := ['h', 'c', 't', 'a', 'm']) (o := ['n', 'r', 'e', 't', 't', 'a', 'P', '.', 'e', 'r']) (by kernel_rfl) owner_pat]; kernel_rfl
theorem slot_pat_search : Slot "re.Pattern" "search" "re.Pattern.search" :=
  .of (owner := "re.Pattern") (n := "search") (by rw [typeLookup_type, builtinLookup_eq_fast]; kernel_rfl) (by decide +kernel) (by decide +kernel) (by decide +kernel)
    (by first | exact .inl (by decide +kernel) | exact .inr (by decide +kernel)) (by rw [isSubtype_type]; kernel_rfl)
theorem type_pat_search : typeOf (.builtin "re.Pattern.search") = pure (.type "method_descriptor") := by show builtinType _ = _; rw [builtinType_eq_fast]; kernel_rfl
theorem entry_pat_search : entryFor table "re.Pattern.search" = some Builtin.«re.Pattern.search» := entryFor_of_tree (by kernel_rfl)
theorem mth_pat_search : Mth "re.Pattern" "search" "re.Pattern.search" := ⟨plainAttrs_pat, slot_pat_search, type_pat_search⟩
theorem args_pat_search_2 (a b : Value) : argsOk "re.Pattern.search" ⟨[a, b], []⟩ := by
  unfold argsOk; rw [signature?_of (id := "re.Pattern.search") (n := ['h', 'c', 'r', 'a', 'e', 's']) (o := ['n', 'r', 'e', 't', 't', 'a', 'P', '.', 'e', 'r']) (by kernel_rfl) owner_pat]; kernel_rfl
theorem args_pat_search_3 (a b c : Value) : argsOk "re.Pattern.search" ⟨[a, b, c], []⟩ := by
  unfold argsOk; rw [signature?_of (id := "re.Pattern.search") (n := ['h', 'c', 'r', 'a', 'e', 's']) (o := ['n', 'r', 'e', 't', 't', 'a', 'P', '.', 'e', 'r']) (by kernel_rfl) owner_pat]; kernel_rfl
theorem slot_pat_sub : Slot "re.Pattern" "sub" "re.Pattern.sub" :=
  .of (owner := "re.Pattern") (n := "sub") (by rw [typeLookup_type, builtinLookup_eq_fast]; kernel_rfl) (by decide +kernel) (by decide +kernel) (by decide +kernel)
    (by first | exact .inl (by decide +kernel) | exact .inr (by decide +kernel)) (by rw [isSubtype_type]; kernel_rfl)
theorem type_pat_sub : typeOf (.builtin "re.Pattern.sub") = pure (.type "method_descriptor") := by show builtinType _ = _; rw [builtinType_eq_fast]; kernel_rfl
theorem entry_pat_sub : entryFor table "re.Pattern.sub" = some Builtin.«re.Pattern.sub» := entryFor_of_tree (by kernel_rfl)
theorem mth_pat_sub : Mth "re.Pattern" "sub" "re.Pattern.sub" := ⟨plainAttrs_pat, slot_pat_sub, type_pat_sub⟩
theorem args_pat_sub_3 (a b c : Value) : argsOk "re.Pattern.sub" ⟨[a, b, c], []⟩ := by
  unfold argsOk; rw [signature?_of (id := "re.Pattern.sub") (n := ['b', 'u', 's']) (o := ['n', 'r', 'e', 't', 't', 'a', 'P', '.', 'e', 'r']) (by kernel_rfl) owner_pat]; kernel_rfl
theorem slot_mat_group : Slot "re.Match" "group" "re.Match.group" :=
  .of (owner := "re.Match") (n := "group") (by rw [typeLookup_type, builtinLookup_eq_fast]; kernel_rfl) (by decide +kernel) (by decide +kernel) (by decide +kernel)
    (by first | exact .inl (by decide +kernel) | exact .inr (by decide +kernel)) (by rw [isSubtype_type]; kernel_rfl)
theorem type_mat_group : typeOf (.builtin "re.Match.group") = pure (.type "method_descriptor") := by show builtinType _ = _; rw [builtinType_eq_fast]; kernel_rfl
theorem entry_mat_group : entryFor table "re.Match.group" = some Builtin.«re.Match.group» := entryFor_of_tree (by kernel_rfl)
theorem mth_mat_group : Mth "re.Match" "group" "re.Match.group" := ⟨plainAttrs_mat, slot_mat_group, type_mat_group⟩
theorem args_mat_group_1 (a : Value) : argsOk "re.Match.group" ⟨[a], []⟩ := by
  unfold argsOk; rw [signature?_of (id := "re.Match.group") (n := ['p', 'u', 'o', 'r', 'g']) (o := ['h', 'c', 't', 'a', 'M', '.', 'e', 'r']) (by kernel_rfl) owner_mat]; kernel_rfl
theorem args_mat_group_2 (a b : Value) : argsOk "re.Match.group" ⟨[a, b], []⟩ := by
  unfold argsOk; rw [signature?_of (id := "re.Match.group") (n := ['p', 'u', 'o', 'r', 'g']) (o := ['h', 'c', 't', 'a', 'M', '.', 'e', 'r']) (by kernel_rfl) owner_mat]; kernel_rfl
theorem slot_mat_start : Slot "re.Match" "start" "re.Match.start" :=
  .of (owner := "re.Match") (n := "start") (by rw [typeLookup_type, builtinLookup_eq_fast]; kernel_rfl) (by decide +kernel) (by decide +kernel) (by decide +kernel)
    (by first | exact .inl (by decide +kernel) | exact .inr (by decide +kernel)) (by rw [isSubtype_type]; kernel_rfl)
theorem type_mat_start : typeOf (.builtin "re.Match.start") = pure (.type "method_descriptor") := by show builtinType _ = _; rw [builtinType_eq_fast]; kernel_rfl
theorem entry_mat_start : entryFor table "re.Match.start" = some Builtin.«re.Match.start» := entryFor_of_tree (by kernel_rfl)
theorem mth_mat_start : Mth "re.Match" "start" "re.Match.start" := ⟨plainAttrs_mat, slot_mat_start, type_mat_start⟩
theorem args_mat_start_1 (a : Value) : argsOk "re.Match.start" ⟨[a], []⟩ := by
  unfold argsOk; rw [signature?_of (id := "re.Match.start") (n := ['t', 'r', 'a', 't', 's']) (o := ['h', 'c', 't', 'a', 'M', '.', 'e', 'r']) (by kernel_rfl) owner_mat]; kernel_rfl
theorem slot_mat_end : Slot "re.Match" "end" "re.Match.end" :=
  .of (owner := "re.Match") (n := "end") (by rw [typeLookup_type, builtinLookup_eq_fast]; kernel_rfl) (by decide +kernel) (by decide +kernel) (by decide +kernel)
    (by first | exact .inl (by decide +kernel) | exact .inr (by decide +kernel)) (by rw [isSubtype_type]; kernel_rfl)
theorem type_mat_end : typeOf (.builtin "re.Match.end") = pure (.type "method_descriptor") := by show builtinType _ = _; rw [builtinType_eq_fast]; kernel_rfl
theorem entry_mat_end : entryFor table "re.Match.end" = some Builtin.«re.Match.end» := entryFor_of_tree (by kernel_rfl)
theorem mth_mat_end : Mth "re.Match" "end" "re.Match.end" := ⟨plainAttrs_mat, slot_mat_end, type_mat_end⟩
theorem args_mat_end_1 (a : Value) : argsOk "re.Match.end" ⟨[a], []⟩ := by
  unfold argsOk; rw [signature?_of (id := "re.Match.end") (n := ['d', 'n', 'e']) (o := ['h', 'c', 't', 'a', 'M', '.', 'e', 'r']) (by kernel_rfl) owner_mat]; kernel_rfl
theorem slot_mat_groups : Slot "re.Match" "groups" "re.Match.groups" :=
  .of (owner := "re.Match") (n := "groups") (by rw [typeLookup_type, builtinLookup_eq_fast]; kernel_rfl) (by decide +kernel) (by decide +kernel) (by decide +kernel)
    (by first | exact .inl (by decide +kernel) | exact .inr (by decide +kernel)) (by rw [isSubtype_type]; kernel_rfl)
theorem type_mat_groups : typeOf (.builtin "re.Match.groups") = pure (.type "method_descriptor") := by show builtinType _ = _; rw [builtinType_eq_fast]; kernel_rfl
theorem entry_mat_groups : entryFor table "re.Match.groups" = some Builtin.«re.Match.groups» := entryFor_of_tree (by kernel_rfl)
theorem mth_mat_groups : Mth "re.Match" "groups" "re.Match.groups" := ⟨plainAttrs_mat, slot_mat_groups, type_mat_groups⟩
theorem args_mat_groups_1 (a : Value) : argsOk "re.Match.groups" ⟨[a], []⟩ := by
  unfold argsOk; rw [signature?_of (id := "re.Match.groups") (n := ['s', 'p', 'u', 'o', 'r', 'g']) (o := ['h', 'c', 't', 'a', 'M', '.', 'e', 'r']) (by kernel_rfl) owner_mat]; kernel_rfl
theorem args_pat_match_2 (a b : Value) : argsOk "re.Pattern.match" ⟨[a, b], []⟩ := by
  unfold argsOk; rw [signature?_of (id := "re.Pattern.match") (n := ['h', 'c', 't', 'a', 'm']) (o := ['n', 'r', 'e', 't', 't', 'a', 'P', '.', 'e', 'r']) (by kernel_rfl) owner_pat]; kernel_rfl
theorem entry_pat_subloop : entryFor table "re.Pattern.sub.loop" = some Builtin.«re.Pattern.sub.loop» := entryFor_of_tree (by kernel_rfl)
theorem plain_pat_subloop : plainId "re.Pattern.sub.loop" = true := by decide +kernel
end Mine
end
section
open PySem PySem.W PySem.Calls PyProof.Rows
open PySem.Builtin.Re
set_option Elab.async false
set_option maxRecDepth 100000
set_option linter.all false
namespace Mine
noncomputable section

theorem named_2 (id f : String) (hf : ["string", "pos", "endpos"].length = 3) (a b : Value) : reNamed id f ["string", "pos", "endpos"] 1 [a, b] [] = pure [some a, some b, none] := by rfl
theorem named_1 (id f : String) (a : Value) : reNamed id f ["string", "pos", "endpos"] 1 [a] [] = pure [some a, none, none] := by rfl
theorem named_sub (id f : String) (a b : Value) : reNamed id f ["repl", "string", "count"] 2 [a, b] [] = pure [some a, some b, none] := by rfl
theorem named_d (id f : String) : reNamed id f ["default"] 0 [] [] = pure [none] := by rfl
theorem ssize (i : Int) (t : Tok) (h0 : 0 ≤ i) (h1 : i < 2 ^ 63) : reSsize (.int i t) = pure i := by
  unfold reSsize
  have e : asIndex (.int i t) = pure i := rfl
  rw [e]
  show (if (decide (i < -(2 ^ 63)) || decide (i ≥ 2 ^ 63)) = true then _ else _) = _
  rw [if_neg (by simp; omega)]
theorem textOf (x : Str) (t : Tok) : reTextOf (.str x t) = pure (x.cps, 0) := rfl
theorem noColl (v : Value) : reNoCollectionInside v 0 = pure () := rfl

structure PatIn (h : Heap) (p : Addr) (code : Array Nat) (groups : Nat) : Prop where
  ob : ∃ ca px fl, h.get? p = some { cls := .type "re.Pattern", data := .fields #[px, fl, .int groups 0, .none, .none, .ref ca, .int 0 0] } ∧
    ∃ vs n, h.get? ca = some { cls := .type "tuple", data := .seq vs n } ∧ vs.toList.map (fun v => (reRawOf v).toNat) = code.toList

section
variable {prog : Program} {w : World} {A : Around} {E : Value → Shared → Prop} {s : Shared}

theorem wp_rawItems {ca : Addr} {vs : Array Value} {n : Nat} {Q : Array Int → Shared → Prop} (h : s.heap.get? ca = some { cls := .type "tuple", data := .seq vs n }) (hQ : Q (vs.map reRawOf) s) : wpAny (model prog w) A (reRawItems (.ref ca)) Q E s := by
  unfold reRawItems
  exact wpAny_bind (wpAny_seqItems h rfl (wpAny_pure hQ))

theorem code_eq {vs : Array Value} {code : Array Nat} (h : vs.toList.map (fun v => (reRawOf v).toNat) = code.toList) : (vs.map reRawOf).map (·.toNat) = code := by
  rw [Array.map_map]
  apply Array.ext'
  rw [Array.toList_map]
  exact h

theorem wp_target2 {id f : String} {p : Addr} {code : Array Nat} {groups : Nat} {x : Str} {t u : Tok} {i : Int} {Q : ReTarget → Shared → Prop} (P : PatIn s.heap p code groups) (h0 : 0 ≤ i) (h1 : i < 2 ^ 63) (hsz : x.cps.size < 2 ^ 62)
    (hQ : Q ⟨.ref p, .str x t, code, x.cps, 0, groups, min i.toNat x.cps.size, x.cps.size⟩ s) : wpAny (model prog w) A (reTarget id f ⟨[.ref p, .str x t, .int i u], []⟩) Q E s := by
  obtain ⟨ca, px, fl, ho, vs, n, hc, hcode⟩ := P.ob
  unfold reTarget
  dsimp only
  refine wpAny_bind (wpAny_of_eq (named_2 _ _ rfl _ _) ?_)
  dsimp only
  refine wpAny_bind (wpAny_of_eq (ssize i u h0 h1) ?_)
  refine wpAny_bind (wpAny_pure ?_)
  refine wpAny_bind (wpAny_fieldsOf ho rfl ?_)
  refine wpAny_bind (wpAny_of_eq (textOf x t) ?_)
  dsimp only
  refine wpAny_bind (wpAny_of_eq (noColl _) ?_)
  refine wpAny_bind (wp_rawItems hc ?_)
  refine wpAny_pure ?_
  rw [code_eq hcode]
  have e : min ((2 : Int) ^ 63 - 1).toNat x.cps.size = x.cps.size := by omega
  rw [e]
  exact hQ
theorem wp_target1 {id f : String} {p : Addr} {code : Array Nat} {groups : Nat} {x : Str} {t : Tok} {Q : ReTarget → Shared → Prop} (P : PatIn s.heap p code groups) (hsz : x.cps.size < 2 ^ 62)
    (hQ : Q ⟨.ref p, .str x t, code, x.cps, 0, groups, 0, x.cps.size⟩ s) : wpAny (model prog w) A (reTarget id f ⟨[.ref p, .str x t], []⟩) Q E s := by
  obtain ⟨ca, px, fl, ho, vs, n, hc, hcode⟩ := P.ob
  unfold reTarget
  dsimp only
  refine wpAny_bind (wpAny_of_eq (named_1 _ _ _) ?_)
  dsimp only
  refine wpAny_bind (wpAny_pure ?_)
  refine wpAny_bind (wpAny_pure ?_)
  refine wpAny_bind (wpAny_fieldsOf ho rfl ?_)
  refine wpAny_bind (wpAny_of_eq (textOf x t) ?_)
  dsimp only
  refine wpAny_bind (wpAny_of_eq (noColl _) ?_)
  refine wpAny_bind (wp_rawItems hc ?_)
  refine wpAny_pure ?_
  rw [code_eq hcode]
  have e : min ((2 : Int) ^ 63 - 1).toNat x.cps.size = x.cps.size := by omega
  have e0 : min ((0 : Int)).toNat x.cps.size = 0 := by simp
  rw [e, e0]
  exact hQ

theorem wp_drive {n : Nat} : ∀ (turns k : Nat) (m : Sre.M) {Q : Sre.M → Shared → Prop}, k ≤ 4 * turns → 0 < turns → (Sre.M.runFor k m).outcome.isSome = true → Q (Sre.M.runFor k m) s → wpAny (model prog w) A (reDrive turns m) Q E s
  | 0, k, m, Q, hk, ht, ho, hQ => absurd ht (Nat.lt_irrefl _)
  | turns + 1, k, m, Q, hk, ht, ho, hQ => by
    unfold reDrive
    dsimp only
    rcases Nat.lt_or_ge 4 k with h4 | h4
    · have e : k = 4 + (k - 4) := by omega
      rw [e, runFor_add] at ho hQ
      by_cases h : (Sre.M.runFor reTurnSteps m).outcome.isSome = true
      · rw [if_pos h]
        have : Sre.M.runFor (k - 4) (Sre.M.runFor 4 m) = Sre.M.runFor 4 m := runFor_out h _
        rw [this] at hQ
        exact wpAny_pure hQ
      · rw [if_neg h]
        exact wpAny_bind (wpAny_rule (wp_drive (n := n) turns (k - 4) _ (by omega) (by omega) ho hQ))
    · have e : Sre.M.runFor 4 m = Sre.M.runFor k m := by
        have : 4 = k + (4 - k) := by omega
        rw [this, runFor_add, runFor_out ho]
      have e' : Sre.M.runFor reTurnSteps m = Sre.M.runFor k m := e
      rw [e', if_pos ho]
      exact wpAny_pure hQ

theorem wp_rules {Q : Unit → Shared → Prop} (m : Sre.M) (l : List Nat) (hQ : Q () s) : wpAny (model prog w) A (forIn l PUnit.unit (fun i _ => do
    if m.seen.has i = true then rule (Sre.names.getD i "")
    pure (ForInStep.yield PUnit.unit))) Q E s := by
  induction l with
  | nil => exact wpAny_pure hQ
  | cons i l ih =>
    rw [List.forIn_cons]
    refine wpAny_bind ?_
    dsimp only
    by_cases h : m.seen.has i = true
    · rw [if_pos h]
      exact wpAny_bind (wpAny_rule (wpAny_pure ih))
    · rw [if_neg h]
      exact wpAny_pure ih

theorem wp_toEnd {n : Nat} {m : Sre.M} {P : Sre.M → Prop} {Q : Option Sre.M → Shared → Prop} (hn : n ≤ 2 ^ 40) (h : Go n m P) (hP : ∀ m', P m' → (m'.outcome = some .matched ∧ Q (some m') s) ∨ (m'.outcome = some .failed ∧ Q none s)) : wpAny (model prog w) A (reRunToEnd m) Q E s := by
  obtain ⟨k, hk, h⟩ := h
  unfold reRunToEnd
  have ho : (Sre.M.runFor k m).outcome.isSome = true := by
    rcases hP _ h with ⟨e, _⟩ | ⟨e, _⟩ <;> rw [e] <;> rfl
  refine wpAny_bind (wp_drive (n := 0) (2 ^ 64) k m (by omega) (by decide) ho ?_)
  refine wpAny_bind (wp_rules _ _ ?_)
  rcases hP _ h with ⟨e, hq⟩ | ⟨e, hq⟩ <;> rw [e]
  · exact wpAny_pure hq
  · exact wpAny_pure hq
end
end
end Mine
end
section
open PySem PySem.W PySem.Calls PyProof.Rows
open PySem.Builtin.Re
set_option Elab.async false
set_option maxRecDepth 100000
set_option linter.all false
namespace Mine
noncomputable section

def spansOf (groups : Nat) (marks : Array (Option Nat)) (lm : Int) : List Int := (List.range groups).flatMap fun g =>
  match if ((2 * g + 1 : Nat) : Int) ≤ lm then (marks.getD (2 * g) none, marks.getD (2 * g + 1) none) else (none, none) with
  | (some b, some e) => [(b : Int), (e : Int)]
  | _ => [-1, -1]
def wrongSpan (groups : Nat) (marks : Array (Option Nat)) (lm : Int) : Bool := (List.range groups).any (fun g => match marks.getD (2 * g) none, marks.getD (2 * g + 1) none with | some b, some e => ((2 * g + 1 : Nat) : Int) ≤ lm && e < b | _, _ => false)

/-- what the machine answers -/
def ReRes (mach : Sre.M) (groups : Nat) (res : Option (List Int)) : Prop :=
  ∃ n P, n ≤ 2 ^ 40 ∧ Go n mach P ∧ ∀ m', P m' → match res with
    | none => m'.outcome = some .failed
    | some nums => m'.outcome = some .matched ∧ nums = (m'.start : Int) :: (m'.handed : Int) :: spansOf groups m'.marks m'.lastmark ∧ wrongSpan groups m'.marks m'.lastmark = false
theorem ReRes.found {mach : Sre.M} {groups n start handed : Nat} {marks : Array (Option Nat)} {lm li : Int} (hn : n ≤ 2 ^ 40) (h : Go n mach (Found start handed marks lm li)) (hw : wrongSpan groups marks lm = false) : ReRes mach groups (some ((start : Int) :: (handed : Int) :: spansOf groups marks lm)) :=
  ⟨n, _, hn, h, fun m' ⟨a, b, c, d, e, f⟩ => ⟨a, by rw [b, c, d, e], by rw [d, e]; exact hw⟩⟩
theorem ReRes.not {mach : Sre.M} {groups n : Nat} (hn : n ≤ 2 ^ 40) (h : Go n mach NotFound) : ReRes mach groups none := ⟨n, _, hn, h, fun m' a => a⟩

/-- a match, or None -/
def isRes (l : List Nat) : Option (List Int) → Nat → Value → Heap → Prop
  | none => fun _ v _ => v = .none
  | some nums => fun n v h' => ∃ a, v = .ref a ∧ MatAt h' a l nums ∧ n ≤ a
theorem isRes_mono {l r} : PMono (isRes l r) := by
  cases r with
  | none => exact fun _ _ _ _ _ h => h
  | some nums => exact fun _ _ _ _ hn ⟨a, e, t, l⟩ => ⟨a, e, t, Nat.le_trans hn l⟩

section
variable {A : Around} {c : Wd} {s : Shared} {E : Value → Shared → Prop}

theorem wp_newMatch {p : Value} {l : List Nat} {t : Tok} {groups pos lim : Nat} {m : Sre.M} {Q : Value → Shared → Prop} (hw : wrongSpan groups m.marks m.lastmark = false) (hg : groups ≤ 10)
    (hQ : ∀ q r, Q (.ref (s.heap.objs.size + 1)) { s with heap := (s.heap.push { cls := .type "tuple", data := .seq (((m.start : Int) :: (m.handed : Int) :: spansOf groups m.marks m.lastmark).map rawInt).toArray }).push { cls := .type "re.Match", data := .fields #[.str (mkS l) t, p, q, r, rawInt m.lastindex, .ref s.heap.objs.size] } }) :
    wpAny (Md c) A (reNewMatch p (.str (mkS l) t) groups pos lim m) Q E s := by
  unfold reNewMatch
  dsimp only
  have key1 : ∀ f : Nat → List Value, (∀ g, f g = (match if ((2 * g + 1 : Nat) : Int) ≤ m.lastmark then (m.marks.getD (2 * g) none, m.marks.getD (2 * g + 1) none) else (none, none) with
      | (some b, some e) => [(b : Int), (e : Int)]
      | _ => [-1, -1]).map rawInt) → (List.range groups).flatMap f = (spansOf groups m.marks m.lastmark).map rawInt := by
    intro f hf
    unfold spansOf
    rw [List.map_flatMap]
    congr 1
    funext g
    exact hf g
  have key2 : ∀ f : Nat → Bool, (∀ g, f g = match m.marks.getD (2 * g) none, m.marks.getD (2 * g + 1) none with | some b, some e => ((2 * g + 1 : Nat) : Int) ≤ m.lastmark && e < b | _, _ => false) → (List.range groups).any f = false := by
    intro f hf
    rw [← hw]
    unfold wrongSpan
    congr 1
    funext g
    exact hf g
  rw [key1 _ (fun g => by generalize (if ((2 * g + 1 : Nat) : Int) ≤ m.lastmark then (m.marks.getD (2 * g) none, m.marks.getD (2 * g + 1) none) else (none, none)) = X; rcases X with ⟨_ | b, _ | e⟩ <;> rfl), key2 _ (fun g => by generalize m.marks.getD (2 * g) none = X; generalize m.marks.getD (2 * g + 1) none = Y; rcases X with _ | b <;> rcases Y with _ | e <;> rfl)]
  simp only [Bool.false_eq_true, if_false]
  have hlen : (spansOf groups m.marks m.lastmark).length = 2 * groups := by
    unfold spansOf
    rw [List.length_flatMap]
    have : ∀ l : List Nat, (l.map fun g => (match if ((2 * g + 1 : Nat) : Int) ≤ m.lastmark then (m.marks.getD (2 * g) none, m.marks.getD (2 * g + 1) none) else (none, none) with
      | (some b, some e) => [(b : Int), (e : Int)]
      | _ => [-1, -1]).length).sum = 2 * l.length := by
      intro l
      induction l with
      | nil => rfl
      | cons a l ih =>
        rw [List.map_cons, List.sum_cons, ih, List.length_cons]
        split <;> simp only [List.length_cons, List.length_nil] <;> omega
    rw [this, List.length_range]
  refine wpAny_bind (wpAny_newTuple ?_ (by rw [sizeLine_eq]; simp [hlen]; omega))
  unfold newFields
  refine wpAny_newObj_type ?_ (by simp only [sizeOk, sizeLine_eq, List.size_toArray, List.length_cons, List.length_nil]; omega)
  have := hQ (rawInt pos) (rawInt lim)
  rw [Heap.size_push]
  exact this

theorem wp_answer {tg : ReTarget} {l : List Nat} {t : Tok} {m : Sre.M} {res : Option (List Int)} (ok : Ok c s) (hs : tg.string = .str (mkS l) t) (hg : tg.groups ≤ 10) (h : ReRes m tg.groups res) {R : Value → Shared → Prop}
    (hQ : ∀ v s', Ext c s s' → isRes l res s.heap.objs.size v s'.heap → R v s') : wpAny (Md c) A (reAnswer tg m) (fun fin s' => ∃ v, fin = .done (.ret v) ∧ R v s') E s := by
  obtain ⟨n, P, hn, hgo, hP⟩ := h
  unfold reAnswer
  cases res with
  | none =>
    refine wpAny_bind (wp_toEnd hn hgo (fun m' hm => .inr ⟨hP m' hm, ?_⟩))
    exact wpAny_pure ⟨_, rfl, hQ _ _ (.refl ok) rfl⟩
  | some nums =>
    refine wpAny_bind (wp_toEnd hn hgo (fun m' hm => .inl ⟨(hP m' hm).1, ?_⟩))
    obtain ⟨_, e, hw⟩ := hP m' hm
    dsimp only
    rw [hs]
    refine wpAny_bind (wp_newMatch hw hg fun q r => wpAny_pure ⟨_, rfl, hQ _ _ (((Ext.refl ok).push _).push _) ⟨_, rfl, ?_, Nat.le_succ _⟩⟩)
    refine ⟨s.heap.objs.size, t, tg.pattern, q, r, rawInt m'.lastindex, 0, ?_, ?_⟩
    · rw [← Heap.size_push s.heap { cls := .type "tuple", data := .seq (((m'.start : Int) :: (m'.handed : Int) :: spansOf tg.groups m'.marks m'.lastmark).map rawInt).toArray }]
      exact Heap.get?_push_size _ rfl
    · rw [e]
      exact Heap.get?_push_of_some _ (Heap.get?_push_size _ rfl)
end

section
variable {x : Cx} {m : Lc} {led : Ld}

theorem patT {p : Addr} {code : Array Nat} {groups : Nat} (hP : ∀ s, St x m led s → PatIn s.heap p code groups) : ∀ s u, St x m led s → (V.ref p).rep u → s.TypeIs u "re.Pattern" ∧ (∀ b, u = .ref b → ∃ ob, s.heap.get? b = some ob ∧ ob.dict = none) := by
  rintro s _ S rfl
  obtain ⟨ca, px, fl, e, _⟩ := (hP s S).ob
  exact ⟨⟨_, e, rfl⟩, fun b q => by cases q; exact ⟨_, e, rfl⟩⟩

theorem EX.reMatch {o e k : Expr} {apos pos : Pos} {p : Addr} {code : Array Nat} {groups : Nat} {l : List Nat} {i : Nat} {res : Option (List Int)} (ho : EV x m led o (.ref p)) (he : EV x m led e (.str l)) (hs : notStar e = true) (hk : EV x m led k (.int i)) (hsk : notStar k = true)
    (hP : ∀ s, St x m led s → PatIn s.heap p code groups) (hg : groups ≤ 10) (hl : l.length < 2 ^ 40) (hi : i ≤ l.length) (hr : ReRes (Sre.forMatch code l.toArray groups i l.length false false) groups res)
    (hbase : attributeBase o "match" x.env (eval o x.env) = eval o x.env := by rfl) (hline : (apos.endLine == pos.line) = true := by rfl) : EX x m led (.Call (.Attribute o "match" apos) [e, k] [] pos) (isRes l res) := by
  refine .meth mth_pat_match ho (.cons he (.cons hk .nil hsk) hs) isRes_mono (patT hP) ?_ hbase hline
  rintro s _ _ S rfl (_ | ⟨⟨t, rfl⟩, _ | ⟨⟨u, rfl⟩, _ | _⟩⟩)
  obtain ⟨hT, _⟩ := patT hP s _ S rfl
  refine call_meetsIn slot_pat_match hT entry_pat_match (args_pat_match_3 _ _ _) (MeetsIn.of_wp (S := fun A R s => Ok x.c s ∧ PatIn s.heap p code groups ∧ ∀ v s', Ext x.c s s' → isRes l res s.heap.objs.size v s'.heap → R (.ok (.ret v)) s') (fun A R s ⟨ok, hp, hR⟩ => ?_)) ⟨S.ok, hP s S, fun v s' E h => ⟨E, h⟩⟩
  unfold Builtin.«re.Pattern.match»
  refine wpAny_bind (wp_target2 hp (by omega) (by omega) (by simp [mkS]; omega) ?_)
  dsimp only
  have e1 : min ((i : Int)).toNat (mkS l).cps.size = i := by simp [mkS]; omega
  have e2 : (mkS l).cps.size = l.length := by simp [mkS]
  rw [e1, e2]
  exact wp_answer ok rfl hg hr hR

theorem EX.reSearch {o e k : Expr} {apos pos : Pos} {p : Addr} {code : Array Nat} {groups : Nat} {l : List Nat} {i : Nat} {res : Option (List Int)} (ho : EV x m led o (.ref p)) (he : EV x m led e (.str l)) (hs : notStar e = true) (hk : EV x m led k (.int i)) (hsk : notStar k = true)
    (hP : ∀ s, St x m led s → PatIn s.heap p code groups) (hg : groups ≤ 10) (hl : l.length < 2 ^ 40) (hi : i ≤ l.length) (hr : ReRes (Sre.forSearch code l.toArray groups i l.length false) groups res)
    (hbase : attributeBase o "search" x.env (eval o x.env) = eval o x.env := by rfl) (hline : (apos.endLine == pos.line) = true := by rfl) : EX x m led (.Call (.Attribute o "search" apos) [e, k] [] pos) (isRes l res) := by
  refine .meth mth_pat_search ho (.cons he (.cons hk .nil hsk) hs) isRes_mono (patT hP) ?_ hbase hline
  rintro s _ _ S rfl (_ | ⟨⟨t, rfl⟩, _ | ⟨⟨u, rfl⟩, _ | _⟩⟩)
  obtain ⟨hT, _⟩ := patT hP s _ S rfl
  refine call_meetsIn slot_pat_search hT entry_pat_search (args_pat_search_3 _ _ _) (MeetsIn.of_wp (S := fun A R s => Ok x.c s ∧ PatIn s.heap p code groups ∧ ∀ v s', Ext x.c s s' → isRes l res s.heap.objs.size v s'.heap → R (.ok (.ret v)) s') (fun A R s ⟨ok, hp, hR⟩ => ?_)) ⟨S.ok, hP s S, fun v s' E h => ⟨E, h⟩⟩
  unfold Builtin.«re.Pattern.search»
  refine wpAny_bind (wp_target2 hp (by omega) (by omega) (by simp [mkS]; omega) ?_)
  dsimp only
  have e1 : min ((i : Int)).toNat (mkS l).cps.size = i := by simp [mkS]; omega
  have e2 : (mkS l).cps.size = l.length := by simp [mkS]
  rw [e1, e2]
  exact wp_answer ok rfl hg hr hR
theorem EX.reMatch1 {o e : Expr} {apos pos : Pos} {p : Addr} {code : Array Nat} {groups : Nat} {l : List Nat} {res : Option (List Int)} (ho : EV x m led o (.ref p)) (he : EV x m led e (.str l)) (hs : notStar e = true)
    (hP : ∀ s, St x m led s → PatIn s.heap p code groups) (hg : groups ≤ 10) (hl : l.length < 2 ^ 40) (hr : ReRes (Sre.forMatch code l.toArray groups 0 l.length false false) groups res)
    (hbase : attributeBase o "match" x.env (eval o x.env) = eval o x.env := by rfl) (hline : (apos.endLine == pos.line) = true := by rfl) : EX x m led (.Call (.Attribute o "match" apos) [e] [] pos) (isRes l res) := by
  refine .meth mth_pat_match ho (.cons he .nil hs) isRes_mono (patT hP) ?_ hbase hline
  rintro s _ _ S rfl (_ | ⟨⟨t, rfl⟩, _ | _⟩)
  obtain ⟨hT, _⟩ := patT hP s _ S rfl
  refine call_meetsIn slot_pat_match hT entry_pat_match (args_pat_match_2 _ _) (MeetsIn.of_wp (S := fun A R s => Ok x.c s ∧ PatIn s.heap p code groups ∧ ∀ v s', Ext x.c s s' → isRes l res s.heap.objs.size v s'.heap → R (.ok (.ret v)) s') (fun A R s ⟨ok, hp, hR⟩ => ?_)) ⟨S.ok, hP s S, fun v s' E h => ⟨E, h⟩⟩
  unfold Builtin.«re.Pattern.match»
  refine wpAny_bind (wp_target1 hp (by simp [mkS]; omega) ?_)
  dsimp only
  have e2 : (mkS l).cps.size = l.length := by simp [mkS]
  rw [e2]
  exact wp_answer ok rfl hg hr hR
theorem EX.reSearch1 {o e : Expr} {apos pos : Pos} {p : Addr} {code : Array Nat} {groups : Nat} {l : List Nat} {res : Option (List Int)} (ho : EV x m led o (.ref p)) (he : EV x m led e (.str l)) (hs : notStar e = true)
    (hP : ∀ s, St x m led s → PatIn s.heap p code groups) (hg : groups ≤ 10) (hl : l.length < 2 ^ 40) (hr : ReRes (Sre.forSearch code l.toArray groups 0 l.length false) groups res)
    (hbase : attributeBase o "search" x.env (eval o x.env) = eval o x.env := by rfl) (hline : (apos.endLine == pos.line) = true := by rfl) : EX x m led (.Call (.Attribute o "search" apos) [e] [] pos) (isRes l res) := by
  refine .meth mth_pat_search ho (.cons he .nil hs) isRes_mono (patT hP) ?_ hbase hline
  rintro s _ _ S rfl (_ | ⟨⟨t, rfl⟩, _ | _⟩)
  obtain ⟨hT, _⟩ := patT hP s _ S rfl
  refine call_meetsIn slot_pat_search hT entry_pat_search (args_pat_search_2 _ _) (MeetsIn.of_wp (S := fun A R s => Ok x.c s ∧ PatIn s.heap p code groups ∧ ∀ v s', Ext x.c s s' → isRes l res s.heap.objs.size v s'.heap → R (.ok (.ret v)) s') (fun A R s ⟨ok, hp, hR⟩ => ?_)) ⟨S.ok, hP s S, fun v s' E h => ⟨E, h⟩⟩
  unfold Builtin.«re.Pattern.search»
  refine wpAny_bind (wp_target1 hp (by simp [mkS]; omega) ?_)
  dsimp only
  have e2 : (mkS l).cps.size = l.length := by simp [mkS]
  rw [e2]
  exact wp_answer ok rfl hg hr hR
end
end
end Mine
end
section
open PySem PySem.W PySem.Calls PyProof.Rows
open PySem.Builtin.Re
set_option Elab.async false
set_option maxRecDepth 100000
set_option linter.all false
namespace Mine
noncomputable section
section
variable {A : Around} {c : Wd} {s : Shared} {E : Value → Shared → Prop}

theorem wp_found {a : Addr} {l : List Nat} {nums : List Int} {Q : ReFound → Shared → Prop} (h : MatAt s.heap a l nums) (hQ : ∀ (f : ReFound) (t : Tok), f.fields.getD 0 .none = .str (mkS l) t → f.spans = nums.toArray → Q f s) : wpAny (Md c) A (reFound (.ref a)) Q E s := by
  obtain ⟨b, t, p, q, r, li, n, e1, e2⟩ := h
  unfold reFound
  refine wpAny_bind (wpAny_fieldsOf e1 rfl ?_)
  refine wpAny_bind (wp_rawItems (prog := PG) e2 ?_)
  refine wpAny_pure (hQ _ t rfl ?_)
  apply Array.ext'
  simp [Function.comp_def, rawInt, reRawOf]

def cutL (l : List Nat) (b e : Int) : List Nat := (l.take e.toNat).drop b.toNat
theorem wp_groupText {f : ReFound} {l : List Nat} {t : Tok} {nums : List Int} {g : Nat} {b e : Int} {Q : Value → Shared → Prop} (hf : f.fields.getD 0 .none = .str (mkS l) t) (hs : f.spans = nums.toArray) (hb : nums[2 * g]? = some b) (he : nums[2 * g + 1]? = some e) (d : Value) (hl : l.length ≤ sizeLine)
    (hno : (b < 0 ∨ e < 0) → Q d s) (hyes : 0 ≤ b → 0 ≤ e → ∀ t', Q (.str (mkS (cutL l b e)) t') { s with toks := s.toks + 1 }) : wpAny (Md c) A (reGroupText f g d) Q E s := by
  unfold reGroupText
  have e1 : f.spans.getD (2 * g) (-1) = b := by rw [hs, Array.getD_eq_getD_getElem?]; simp [hb]
  have e2 : f.spans.getD (2 * g + 1) (-1) = e := by rw [hs, Array.getD_eq_getD_getElem?]; simp [he]
  dsimp only
  rw [e1, e2]
  by_cases h : b < 0 ∨ e < 0
  · rw [if_pos (by simpa using h)]
    exact wpAny_pure (hno h)
  · rw [if_neg (by simpa using h), hf]
    refine wpAny_bind (wpAny_of_eq (textOf _ _) ?_)
    dsimp only
    unfold reSlice
    simp only [beq_self_eq_true, if_true]
    have hx : (⟨(mkS l).cps.extract b.toNat e.toNat⟩ : Str) = mkS (cutL l b e) := by
      unfold cutL mkS
      congr 1
      apply Array.ext'
      simp [List.extract_eq_take_drop, List.drop_take]
    rw [hx]
    have hlen : (mkS (cutL l b e)).length ≤ sizeLine := by
      rw [mkS_length]; unfold cutL; rw [List.length_drop, List.length_take]; omega
    exact wpAny_mkStr (hyes (by omega) (by omega) _) hlen

def grpV (l : List Nat) (nums : List Int) (g : Nat) : V := match nums[2 * g]?, nums[2 * g + 1]? with
  | some b, some e => if b < 0 ∨ e < 0 then .none else .str (cutL l b e)
  | _, _ => .none
theorem wp_groupV {f : ReFound} {l : List Nat} {t : Tok} {nums : List Int} {g : Nat} {Q : Value → Shared → Prop} (ok : Ok c s) (hf : f.fields.getD 0 .none = .str (mkS l) t) (hs : f.spans = nums.toArray) (hg : 2 * g + 1 < nums.length) (hl : l.length ≤ sizeLine)
    (hQ : ∀ v s', Ext c s s' → (grpV l nums g).rep v → s'.heap = s.heap → Q v s') : wpAny (Md c) A (reGroupText f g .none) Q E s := by
  have hb : nums[2 * g]? = some nums[2 * g] := List.getElem?_eq_getElem (by omega)
  have he : nums[2 * g + 1]? = some nums[2 * g + 1] := List.getElem?_eq_getElem hg
  refine wp_groupText hf hs hb he .none hl (fun h => ?_) (fun h1 h2 t' => ?_)
  · refine hQ _ _ (.refl ok) ?_ rfl
    unfold grpV; rw [hb, he]; dsimp only; rw [if_pos h]; rfl
  · refine hQ _ _ ((Ext.refl ok).toks _) ?_ rfl
    unfold grpV; rw [hb, he]; dsimp only; rw [if_neg (by omega)]; exact ⟨t', rfl⟩
theorem wp_groupNumber {f : ReFound} {nums : List Int} {g : Nat} {t : Tok} {Q : Nat → Shared → Prop} (hs : f.spans = nums.toArray) (hg : 2 * g + 1 < nums.length) (hQ : Q g s) : wpAny (Md c) A (reGroupNumber f (.int g t)) Q E s := by
  unfold reGroupNumber
  have e1 : asInt? (.int (g : Int) t) = pure (some (g : Int)) := rfl
  have e2 : asIndex (.int (g : Int) t) = pure (g : Int) := rfl
  refine wpAny_bind (wpAny_of_eq e1 ?_)
  simp only [Option.isSome_some, if_true]
  refine wpAny_bind (wpAny_of_eq e2 ?_)
  have : (decide ((g : Int) < 0) || decide (2 * (g : Int) ≥ (f.spans.size : Int))) = false := by
    rw [hs]; simp; omega
  rw [this]
  simp only [Bool.false_eq_true, if_false]
  exact wpAny_pure (by simpa using hQ)
end

section
variable {x : Cx} {m : Lc} {led : Ld}
theorem matT {a : Addr} {l : List Nat} {nums : List Int} (hM : ∀ s, St x m led s → MatAt s.heap a l nums) : ∀ s u, St x m led s → (V.ref a).rep u → s.TypeIs u "re.Match" ∧ (∀ b, u = .ref b → ∃ ob, s.heap.get? b = some ob ∧ ob.dict = none) := by
  rintro s _ S rfl
  obtain ⟨b, t, p, q, r, li, n, e1, e2⟩ := hM s S
  exact ⟨⟨_, e1, rfl⟩, fun b q => by cases q; exact ⟨_, e1, rfl⟩⟩

theorem EX.mGroup0 {o : Expr} {apos pos : Pos} {a : Addr} {l : List Nat} {nums : List Int} (ho : EV x m led o (.ref a)) (hM : ∀ s, St x m led s → MatAt s.heap a l nums) (hn : 2 ≤ nums.length) (hl : l.length ≤ sizeLine)
    (hbase : attributeBase o "group" x.env (eval o x.env) = eval o x.env := by rfl) (hline : (apos.endLine == pos.line) = true := by rfl) : EV x m led (.Call (.Attribute o "group" apos) [] [] pos) (grpV l nums 0) := by
  refine .meth mth_mat_group ho .nil isV_mono (matT hM) ?_ hbase hline
  rintro s _ _ S rfl (_ | _)
  obtain ⟨hT, _⟩ := matT hM s _ S rfl
  refine call_meetsIn slot_mat_group hT entry_mat_group (args_mat_group_1 _) (MeetsIn.of_wp (S := fun A R s => Ok x.c s ∧ MatAt s.heap a l nums ∧ ∀ v s', Ext x.c s s' → (grpV l nums 0).rep v → R (.ok (.ret v)) s') (fun A R s ⟨ok, hm, hR⟩ => ?_)) ⟨S.ok, hM s S, fun v s' E h => ⟨E, h⟩⟩
  unfold Builtin.«re.Match.group»
  refine wpAny_bind (wpAny_of_eq (show noKeywords "Match.group" ⟨[.ref a], []⟩ = pure () from rfl) ?_)
  dsimp only
  refine wpAny_bind (wp_found hm fun f t hf hs => ?_)
  refine wpAny_bind (wp_groupV ok hf hs (by omega) hl fun v s' E hv _ => ?_)
  exact wpAny_pure ⟨_, rfl, hR _ _ E hv⟩
theorem EX.mGroup {o e : Expr} {apos pos : Pos} {a : Addr} {l : List Nat} {nums : List Int} {g : Nat} (ho : EV x m led o (.ref a)) (he : EV x m led e (.int g)) (hse : notStar e = true) (hM : ∀ s, St x m led s → MatAt s.heap a l nums) (hn : 2 * g + 1 < nums.length) (hl : l.length ≤ sizeLine)
    (hbase : attributeBase o "group" x.env (eval o x.env) = eval o x.env := by rfl) (hline : (apos.endLine == pos.line) = true := by rfl) : EV x m led (.Call (.Attribute o "group" apos) [e] [] pos) (grpV l nums g) := by
  refine .meth mth_mat_group ho (.cons he .nil hse) isV_mono (matT hM) ?_ hbase hline
  rintro s _ _ S rfl (_ | ⟨⟨u, rfl⟩, _ | _⟩)
  obtain ⟨hT, _⟩ := matT hM s _ S rfl
  refine call_meetsIn slot_mat_group hT entry_mat_group (args_mat_group_2 _ _) (MeetsIn.of_wp (S := fun A R s => Ok x.c s ∧ MatAt s.heap a l nums ∧ ∀ v s', Ext x.c s s' → (grpV l nums g).rep v → R (.ok (.ret v)) s') (fun A R s ⟨ok, hm, hR⟩ => ?_)) ⟨S.ok, hM s S, fun v s' E h => ⟨E, h⟩⟩
  unfold Builtin.«re.Match.group»
  refine wpAny_bind (wpAny_of_eq (show noKeywords "Match.group" ⟨[.ref a, .int g u], []⟩ = pure () from rfl) ?_)
  dsimp only
  refine wpAny_bind (wp_found hm fun f t hf hs => ?_)
  refine wpAny_bind (wp_groupNumber hs hn ?_)
  refine wpAny_bind (wp_groupV ok hf hs hn hl fun v s' E hv _ => ?_)
  exact wpAny_pure ⟨_, rfl, hR _ _ E hv⟩
theorem EX.mStart {o : Expr} {apos pos : Pos} {a : Addr} {l : List Nat} {nums : List Int} {i : Int} (ho : EV x m led o (.ref a)) (hM : ∀ s, St x m led s → MatAt s.heap a l nums) (hn : nums[0]? = some i)
    (hbase : attributeBase o "start" x.env (eval o x.env) = eval o x.env := by rfl) (hline : (apos.endLine == pos.line) = true := by rfl) : EV x m led (.Call (.Attribute o "start" apos) [] [] pos) (.int i) := by
  refine .meth mth_mat_start ho .nil isV_mono (matT hM) ?_ hbase hline
  rintro s _ _ S rfl (_ | _)
  obtain ⟨hT, _⟩ := matT hM s _ S rfl
  refine call_meetsIn slot_mat_start hT entry_mat_start (args_mat_start_1 _) (MeetsIn.of_wp (S := fun A R s => Ok x.c s ∧ MatAt s.heap a l nums ∧ ∀ v s', Ext x.c s s' → (V.int i).rep v → R (.ok (.ret v)) s') (fun A R s ⟨ok, hm, hR⟩ => ?_)) ⟨S.ok, hM s S, fun v s' E h => ⟨E, h⟩⟩
  unfold Builtin.«re.Match.start» reOneGroup
  refine wpAny_bind (wpAny_bind (wpAny_of_eq (show selfAndSome "Match.start" "start" 0 1 ⟨[.ref a], []⟩ = pure (.ref a, []) from rfl) ?_))
  dsimp only
  refine wpAny_bind (wp_found hm fun f t hf hs => ?_)
  refine wpAny_bind (wpAny_pure (wpAny_pure ?_))
  dsimp only
  have e1 : f.spans.getD (2 * 0) (-1) = i := by rw [hs, Array.getD_eq_getD_getElem?]; simp [hn]
  rw [e1]
  exact wpAny_ret_mkInt (hR _ _ ((Ext.refl ok).toks _) ⟨_, rfl⟩)
theorem EX.mEnd {o : Expr} {apos pos : Pos} {a : Addr} {l : List Nat} {nums : List Int} {i : Int} (ho : EV x m led o (.ref a)) (hM : ∀ s, St x m led s → MatAt s.heap a l nums) (hn : nums[1]? = some i)
    (hbase : attributeBase o "end" x.env (eval o x.env) = eval o x.env := by rfl) (hline : (apos.endLine == pos.line) = true := by rfl) : EV x m led (.Call (.Attribute o "end" apos) [] [] pos) (.int i) := by
  refine .meth mth_mat_end ho .nil isV_mono (matT hM) ?_ hbase hline
  rintro s _ _ S rfl (_ | _)
  obtain ⟨hT, _⟩ := matT hM s _ S rfl
  refine call_meetsIn slot_mat_end hT entry_mat_end (args_mat_end_1 _) (MeetsIn.of_wp (S := fun A R s => Ok x.c s ∧ MatAt s.heap a l nums ∧ ∀ v s', Ext x.c s s' → (V.int i).rep v → R (.ok (.ret v)) s') (fun A R s ⟨ok, hm, hR⟩ => ?_)) ⟨S.ok, hM s S, fun v s' E h => ⟨E, h⟩⟩
  unfold Builtin.«re.Match.end» reOneGroup
  refine wpAny_bind (wpAny_bind (wpAny_of_eq (show selfAndSome "Match.end" "end" 0 1 ⟨[.ref a], []⟩ = pure (.ref a, []) from rfl) ?_))
  dsimp only
  refine wpAny_bind (wp_found hm fun f t hf hs => ?_)
  refine wpAny_bind (wpAny_pure (wpAny_pure ?_))
  dsimp only
  have e1 : f.spans.getD (2 * 0 + 1) (-1) = i := by rw [hs, Array.getD_eq_getD_getElem?]; simp [hn]
  rw [e1]
  exact wpAny_ret_mkInt (hR _ _ ((Ext.refl ok).toks _) ⟨_, rfl⟩)
theorem EX.mGroups2 {o : Expr} {apos pos : Pos} {a : Addr} {l : List Nat} {nums : List Int} (ho : EV x m led o (.ref a)) (hM : ∀ s, St x m led s → MatAt s.heap a l nums) (hn : nums.length = 6) (hl : l.length ≤ sizeLine)
    (hbase : attributeBase o "groups" x.env (eval o x.env) = eval o x.env := by rfl) (hline : (apos.endLine == pos.line) = true := by rfl) : EX x m led (.Call (.Attribute o "groups" apos) [] [] pos) (isTup [grpV l nums 1, grpV l nums 2]) := by
  refine .meth mth_mat_groups ho .nil isTup_mono (matT hM) ?_ hbase hline
  rintro s _ _ S rfl (_ | _)
  obtain ⟨hT, _⟩ := matT hM s _ S rfl
  refine call_meetsIn slot_mat_groups hT entry_mat_groups (args_mat_groups_1 _) (MeetsIn.of_wp (S := fun A R s => Ok x.c s ∧ MatAt s.heap a l nums ∧ ∀ v s', Ext x.c s s' → isTup [grpV l nums 1, grpV l nums 2] s.heap.objs.size v s'.heap → R (.ok (.ret v)) s') (fun A R s ⟨ok, hm, hR⟩ => ?_)) ⟨S.ok, hM s S, fun v s' E h => ⟨E, h⟩⟩
  unfold Builtin.«re.Match.groups» reWithDefault
  dsimp only
  refine wpAny_bind (wpAny_bind (wpAny_of_eq (named_d _ _) ?_))
  dsimp only
  refine wpAny_bind (wp_found hm fun f t hf hs => ?_)
  refine wpAny_pure ?_
  dsimp only
  have hsz : f.spans.size / 2 - 1 = 2 := by rw [hs]; simp [hn]
  rw [hsz, show List.range 2 = [0, 1] from rfl]
  refine wpAny_bind ?_
  rw [List.mapM_cons]
  refine wpAny_bind (wp_groupV ok hf hs (by omega) hl fun v1 s1 E1 hv1 hh1 => ?_)
  refine wpAny_bind ?_
  rw [List.mapM_cons]
  refine wpAny_bind (wp_groupV E1.ok hf hs (by omega) hl fun v2 s2 E2 hv2 hh2 => ?_)
  rw [List.mapM_nil]
  refine wpAny_bind (wpAny_pure (wpAny_pure (wpAny_pure ?_)))
  refine wpAny_bind (wpAny_newTuple ?_)
  exact wpAny_pure ⟨_, rfl, hR _ _ ((E1.trans E2).push _) ⟨_, rfl, ⟨_, 0, Heap.get?_push_size _ rfl, .cons hv1 (.cons hv2 .nil)⟩, (E1.trans E2).size⟩⟩
end
end
end Mine
end
section
open PySem PySem.W PySem.Calls PyProof.Rows
set_option Elab.async false
set_option maxRecDepth 100000
set_option linter.all false
namespace Mine
noncomputable section
theorem mat_nobool : typeLookup (.type "re.Match") "__bool__" = pure none := by rw [typeLookup_type, builtinLookup_eq_fast]; kernel_rfl
theorem mat_nolen : typeLookup (.type "re.Match") "__len__" = pure none := by rw [typeLookup_type, builtinLookup_eq_fast]; kernel_rfl

section
variable {x : Cx} {m : Lc} {led : Ld} {Q : Flow → Shared → Prop}

theorem wp_truthy_mat {a : Addr} {s : Shared} {R : Bool → Shared → Prop} (hT : s.TypeIs (.ref a) "re.Match") (h : R true s) : wpAny (Md x.c) x.A (truthy (.ref a)) R nE s := by
  unfold truthy
  dsimp only
  refine wpAny_bind ?_
  unfold callSpecial?
  refine wpAny_bind (wpAny_specialOf hT mat_nobool ?_)
  refine wpAny_pure ?_
  dsimp only
  refine wpAny_bind (wpAny_specialOf hT mat_nolen ?_)
  exact wpAny_pure h

/-- what a test that writes leaves behind -/
def isW (l : List Nat) (res : Option (List Int)) (x : Cx) (i : Nat) (m : Lc) (led : Ld) (r : Bool) (s' : Shared) : Prop := match res with
  | none => r = false ∧ St x (m.set i (some .none)) led s'
  | some nums => r = true ∧ ∃ a, x.B.objs.size ≤ a ∧ St x (m.set i (some (.ref a))) (led ++ [(a, .mat l nums)]) s'

theorem named_res {n : Str} {i : Nat} {p q : Pos} {e : Expr} {l : List Nat} {res : Option (List Int)} {R : Value → Shared → Prop} (hi : x.ns[i]? = some n) (he : EX x m led e (isRes l res)) {s : Shared} (S : St x m led s)
    (hN : res = none → ∀ s', St x (m.set i (some .none)) led s' → R .none s')
    (hS : ∀ nums, res = some nums → ∀ a s', x.B.objs.size ≤ a → St x (m.set i (some (.ref a))) (led ++ [(a, .mat l nums)]) s' → R (.ref a) s') :
    wpAny (Md x.c) x.A (eval (.NamedExpr (.Name n p) e q) x.env) R nE s := by
  refine wpAny_NamedExpr (wpAny_mono (he s S) (fun v s₁ h => ?_) fun _ _ e => e)
  obtain ⟨E, h⟩ := h
  have S₁ := S.ext E
  cases res with
  | none =>
    obtain rfl := h
    exact wpAny_assign_Name (store_wp (v := .none) S₁ hi rfl fun s' S' => hN rfl s' S')
  | some nums =>
    obtain ⟨a, rfl, M, ha⟩ := h
    have S₂ := S.add (o := .mat l nums) S₁ ha M
    exact wpAny_assign_Name (store_wp (v := .ref a) S₂ hi rfl fun s' S' => hS nums rfl a s' (Nat.le_trans S.size ha) S')

theorem IT.walrusNotNone {n : Str} {i k : Nat} {p q p2 pos : Pos} {e : Expr} {l : List Nat} {res : Option (List Int)} (hi : x.ns[i]? = some n) (he : EX x m led e (isRes l res)) : ∀ s, St x m led s →
    wpAny (Md x.c) x.A (isTrue (.Compare (.NamedExpr (.Name n p) e q) [.IsNot] [.Constant .none k p2] pos) x.env (eval (.Compare (.NamedExpr (.Name n p) e q) [.IsNot] [.Constant .none k p2] pos) x.env)) (isW l res x i m led) nE s := by
  intro s S
  refine wpAny_isTrue_Compare1 (named_res hi he S (fun hr s' S' => ?_) (fun nums hr a s' hB S' => ?_)) rfl
  · refine wpAny_Constant_none (wpAny_isNot_self rfl (wpAny_truthy_bool ?_))
    rw [hr]; exact ⟨rfl, S'⟩
  · refine wpAny_Constant_none (wpAny_isNot_other rfl (by simp) (wpAny_truthy_bool ?_))
    rw [hr]; exact ⟨rfl, a, hB, S'⟩
theorem IT.walrus {n : Str} {i : Nat} {p q : Pos} {e : Expr} {l : List Nat} {res : Option (List Int)} (hi : x.ns[i]? = some n) (he : EX x m led e (isRes l res)) : ∀ s, St x m led s →
    wpAny (Md x.c) x.A (isTrue (.NamedExpr (.Name n p) e q) x.env (eval (.NamedExpr (.Name n p) e q) x.env)) (isW l res x i m led) nE s := by
  intro s S
  refine wpAny_isTrue_value (named_res hi he S (fun hr s' S' => ?_) (fun nums hr a s' hB S' => ?_)) rfl
  · rw [hr]; exact fun _ _ _ => ⟨rfl, S'⟩
  · have hM := (S'.hled (a, .mat l nums) (by simp)).2.2
    obtain ⟨b, t, p, q, r, li, n, e1, e2⟩ := hM
    refine wp_truthy_mat ⟨_, e1, rfl⟩ ?_
    rw [hr]; exact ⟨rfl, a, hB, S'⟩

/-- an if whose test writes -/
theorem SX.ifW {t : Expr} {a b : List Stmt} {pos : Pos} {rest : List Stmt} {i : Nat} {l : List Nat} {res : Option (List Int)} (ht : ∀ s, St x m led s → wpAny (Md x.c) x.A (isTrue t x.env (eval t x.env)) (isW l res x i m led) nE s)
    (ha : ∀ nums ad, res = some nums → x.B.objs.size ≤ ad → SX x a (m.set i (some (.ref ad))) (led ++ [(ad, .mat l nums)]) (fun f s' => match f with | .next => wpAny (Md x.c) x.A (execs rest x.env) Q nE s' | f => Q f s'))
    (hb : res = none → SX x b (m.set i (some .none)) led (fun f s' => match f with | .next => wpAny (Md x.c) x.A (execs rest x.env) Q nE s' | f => Q f s')) : SX x (.If t a b pos :: rest) m led Q := fun s S =>
  wpAny_execs_cons (wpAny_If (wpAny_mono (ht s S) (fun r s₁ h => by
    unfold isW at h
    cases res with
    | none => obtain ⟨rfl, S'⟩ := h; exact hb rfl s₁ S'
    | some nums => obtain ⟨rfl, a, hB, S'⟩ := h; exact ha nums a rfl hB s₁ S') fun _ _ e => e))

/-- and: a written match, found, and a test behind it -/
theorem SX.ifWAnd {t u : Expr} {a b : List Stmt} {pos pos2 : Pos} {rest : List Stmt} {i : Nat} {l : List Nat} {nums : List Int} {r : Bool} (ht : ∀ s, St x m led s → wpAny (Md x.c) x.A (isTrue t x.env (eval t x.env)) (isW l (some nums) x i m led) nE s)
    (hu : ∀ ad, x.B.objs.size ≤ ad → IT x (m.set i (some (.ref ad))) (led ++ [(ad, .mat l nums)]) u r)
    (ha : ∀ ad, r = true → x.B.objs.size ≤ ad → SX x a (m.set i (some (.ref ad))) (led ++ [(ad, .mat l nums)]) (fun f s' => match f with | .next => wpAny (Md x.c) x.A (execs rest x.env) Q nE s' | f => Q f s'))
    (hb : ∀ ad, r = false → x.B.objs.size ≤ ad → SX x b (m.set i (some (.ref ad))) (led ++ [(ad, .mat l nums)]) (fun f s' => match f with | .next => wpAny (Md x.c) x.A (execs rest x.env) Q nE s' | f => Q f s')) : SX x (.If (.BoolOp .And [t, u] pos2) a b pos :: rest) m led Q := fun s S => by
  refine wpAny_execs_cons (wpAny_If (wpAny_isTrue_BoolOp (wpAny_allTrue_And_cons (wpAny_mono (ht s S) (fun r' s₁ h => ?_) fun _ _ e => e))))
  obtain ⟨rfl, ad, hB, S'⟩ := h
  refine wpAny_allTrue_And_cons (wpAny_mono (hu ad hB s₁ S') (fun r' s₂ h => ?_) fun _ _ e => e)
  obtain ⟨E, rfl⟩ := h
  cases r' with
  | false => exact hb ad rfl hB s₂ (S'.ext E)
  | true => exact wpAny_allTrue_And_nil (ha ad rfl hB s₂ (S'.ext E))

/-! a list of pairs of the ledger -/
theorem isList_pairs {P : Params} : ∀ n v h, isList [] n v h → ∃ a, v = .ref a ∧ (AO.pairs []).rep P h a ∧ n ≤ a := by
  rintro n v h ⟨a, rfl, ⟨vs, k, e, r⟩, l⟩
  refine ⟨a, rfl, ⟨vs, k, e, ?_⟩, l⟩
  have : vs.toList = [] := by
    have := r.length
    exact List.eq_nil_of_length_eq_zero this.symm
  rw [this]; exact .nil

theorem WX.appendPair {o e : Expr} {apos pos : Pos} {k : Nat} {a : Addr} {xs : List (List Nat × List Nat)} {v : List Nat × List Nat} (ho : EV x m led o (.ref a)) (hk : led[k]? = some (a, .pairs xs)) (he : EX x m led e (isTup [.str v.1, .str v.2])) (hs : notStar e = true) (hsz : xs.length ≤ 100000)
    (hbase : attributeBase o "append" x.env (eval o x.env) = eval o x.env := by rfl) (hline : (apos.endLine == pos.line) = true := by rfl) : WX x m led (.Call (.Attribute o "append" apos) [e] [] pos) (fun _ s' => St x m (led.set k (a, .pairs (xs ++ [v]))) s') := by
  intro s S
  have htree : backTo pos (starEach [e] x.env) = [(false, eval e x.env)] := by rw [starEach_cons hs]; rfl
  have hfew : ((backTo pos (starEach [e] x.env)).all (fun x => !x.1) && (backToKw pos (keywordEach [] x.env)).all (fun x => x.1.isSome) && decide ([e].length + ([] : List Keyword).length + (if ([] : List Keyword).isEmpty then 0 else 1) < 30)) = true := by rw [htree]; rfl
  refine wpAny_Call_method_lateS hbase hfew hline (wpAny_mono (ho s S) (fun u s₁ h₁ => ?_) fun _ _ e => e)
  obtain ⟨E₁, rfl⟩ := h₁
  have S₁ := S.ext E₁
  have hm := List.mem_of_getElem? hk
  obtain ⟨ws, n, e1, r1⟩ := (S₁.hled _ hm).2.2
  refine ⟨"list", "list.append", F.plainAttrs_list, F.slot_list_append, F.type_list_append, ⟨_, e1, rfl⟩, (fun b hb => by cases hb; exact ⟨_, e1, rfl⟩), ?_⟩
  rw [htree]
  refine callWith_builtin rfl (evalArgs_plain (spliced_cons (wpAny_mono (he s₁ S₁) (fun tv s₂ h => spliced_nil ?_) fun _ _ e => e)))
  obtain ⟨E₂, b, rfl, T, hb⟩ := h
  have S₂ := S₁.ext E₂
  obtain ⟨n2, ws2, e2, r2⟩ : ∃ n2 ws2, s₂.heap.get? a = some (listObj ws2 n2) ∧ F2 (fun x v => ∃ b, v = .ref b ∧ TupAt s₂.heap b [.str x.1, .str x.2]) xs ws2.toList := let ⟨ws, n, e, r⟩ := (S₂.hled _ hm).2.2; ⟨n, ws, e, r⟩
  have hlen := r2.length
  have hnt : ∀ vs n, s₂.heap.get? a ≠ some { cls := .type "tuple", data := .seq vs n } := AO.notTup (o := .pairs xs) (S₂.hled _ hm).2.2
  refine wpAny_list_append_plain ⟨n2, e2⟩ (fun h' ⟨n3, hp⟩ hsb => ?_) (by rw [sizeLine_eq]; simp at hlen; omega)
  refine S₂.upd (o' := .pairs (xs ++ [v])) hk hsb ?_ S₂.tk
  refine ⟨_, n3, hp, ?_⟩
  have := (r2.imp fun _ _ ⟨b, e, t⟩ => (⟨b, e, t.but hsb hnt⟩ : ∃ b, _ = Value.ref b ∧ TupAt h' b _)).append (.cons ⟨b, rfl, T.but hsb hnt⟩ .nil)
  simpa using this
end
end
end Mine
end
section
open PySem PySem.W PySem.Calls PyProof.Rows
set_option Elab.async false
set_option maxRecDepth 100000
set_option linter.all false
namespace Mine
noncomputable section

theorem head_drop {u : Tx} {n : Nat} {a : Nat} {r : Tx} (h : u.drop n = a :: r) : n < u.length ∧ u.getD n 0 = a ∧ r = u.drop (n + 1) := by
  have hn : n < u.length := by
    rcases Nat.lt_or_ge n u.length with h' | h'
    · exact h'
    · rw [List.drop_eq_nil_of_le h'] at h; cases h
  refine ⟨hn, ?_, ?_⟩
  · rw [List.getD_eq_getElem?_getD, ← List.head?_drop, h]; rfl
  · rw [List.drop_add_one_eq_tail_drop, h]; rfl

theorem keyOf_some {u K v : Tx} (h : keyOf u = some (K, v)) : K = u.takeWhile isKey ∧ 1 ≤ K.length ∧ K.length < u.length ∧ u.getD K.length 0 = 61 ∧ v = u.drop (K.length + 1) := by
  unfold keyOf at h
  split at h
  · rename_i w hd
    split at h
    · cases h
    · rename_i hne
      cases h
      rw [dropWhile_eq] at hd
      obtain ⟨h1, h2, h3⟩ := head_drop hd
      refine ⟨rfl, ?_, h1, h2, h3⟩
      rcases Nat.eq_zero_or_pos (u.takeWhile isKey).length with h0 | h0
      · exact absurd (List.isEmpty_iff.mpr (List.eq_nil_of_length_eq_zero h0)) hne
      · exact h0
  · cases h
theorem keyOf_none {u : Tx} (h : keyOf u = none) : (u.takeWhile isKey).length = 0 ∨ ((u.takeWhile isKey).length < u.length → u.getD (u.takeWhile isKey).length 0 ≠ 61) := by
  unfold keyOf at h
  split at h
  · rename_i w hd
    split at h
    · rename_i he
      left; rw [List.isEmpty_iff.mp he]; rfl
    · cases h
  · rename_i hd
    right
    intro hl he
    apply hd (u.drop ((u.takeWhile isKey).length + 1))
    rw [List.getD_eq_getElem?_getD, List.getElem?_eq_getElem hl] at he
    have he' : u[(u.takeWhile isKey).length] = 61 := he
    rw [dropWhile_eq, List.drop_eq_getElem_cons hl, he']

def keyNums (rest : Tx) (p : Nat) : Option (List Int) := match keyOf (rest.drop p) with
  | some (K, _) => some [(p : Int), ((p + K.length + 1 : Nat) : Int), (p : Int), ((p + K.length : Nat) : Int)]
  | none => none
theorem key_res {rest : Tx} {p : Nat} (hl : rest.length < 2 ^ 30) (hp : p ≤ rest.length) : ReRes (Sre.forMatch keyCode rest.toArray 1 p rest.length false false) 1 (keyNums rest p) := by
  have hlen : (rest.drop p).length = rest.length - p := List.length_drop
  unfold keyNums
  cases hk : keyOf (rest.drop p) with
  | some Kv =>
    obtain ⟨K, v⟩ := Kv
    obtain ⟨h1, h2, h3, h4, _⟩ := keyOf_some hk
    dsimp only
    have := ReRes.found (groups := 1) (by decide) (key_found (text := rest.toArray) (lim := rest.length) (pos := p) (k := K.length) (by omega) h2 (by omega) (fun j hj => by rw [getA_drop]; exact takeWhile_all _ _ _ (h1 ▸ hj)) (by rw [getA_drop]; exact h4)) (by unfold wrongSpan; simp [List.range_succ])
    exact this
  | none =>
    have tl := takeWhile_len isKey (rest.drop p)
    refine ReRes.not (n := 3 * ((rest.drop p).takeWhile isKey).length + 20) (by omega) (key_not (text := rest.toArray) (lim := rest.length) (pos := p) (k := ((rest.drop p).takeWhile isKey).length) (by omega) hp (by omega) (fun j hj => by rw [getA_drop]; exact takeWhile_all _ _ _ hj) ?_ ?_)
    · rcases takeWhile_end isKey (rest.drop p) with h | h
      · left; omega
      · right; rw [getA_drop]; exact h
    · rcases keyOf_none hk with h | h
      · exact .inl h
      · refine .inr fun hlt => ?_
        rw [getA_drop]; exact h (by omega)

def tokNums (rest : Tx) (p : Nat) : Option (List Int) := match tokOf (rest.drop p) with
  | some T => some [(p : Int), ((p + T.length : Nat) : Int)]
  | none => none
theorem tok_res {rest : Tx} {p : Nat} (hl : rest.length < 2 ^ 30) (hp : p ≤ rest.length) : ReRes (Sre.forMatch tokCode rest.toArray 0 p rest.length false false) 0 (tokNums rest p) := by
  have hlen : (rest.drop p).length = rest.length - p := List.length_drop
  have tl := takeWhile_len isKey (rest.drop p)
  unfold tokNums tokOf
  by_cases he : ((rest.drop p).takeWhile isKey).isEmpty = true
  · rw [if_pos he]
    have h0 : ((rest.drop p).takeWhile isKey).length = 0 := by rw [List.isEmpty_iff.mp he]; rfl
    refine ReRes.not (n := 8) (by decide) (tok_not (by omega) hp ?_)
    rcases takeWhile_end isKey (rest.drop p) with h | h
    · left; omega
    · right; rw [h0] at h; have := getA_drop rest p 0; rw [Nat.add_zero] at this; rw [this]; exact h
  · rw [if_neg he]
    have h0 : 1 ≤ ((rest.drop p).takeWhile isKey).length := by
      rcases Nat.eq_zero_or_pos ((rest.drop p).takeWhile isKey).length with h0 | h0
      · exact absurd (List.isEmpty_iff.mpr (List.eq_nil_of_length_eq_zero h0)) he
      · exact h0
    refine ReRes.found (groups := 0) (n := 8) (by decide) (tok_found (text := rest.toArray) (lim := rest.length) (pos := p) (k := ((rest.drop p).takeWhile isKey).length) (by omega) h0 (by omega) (fun j hj => by rw [getA_drop]; exact takeWhile_all _ _ _ hj) ?_) (by rfl)
    rcases takeWhile_end isKey (rest.drop p) with h | h
    · left; omega
    · right; rw [getA_drop]; exact h

def delimNums (rest : Tx) (p : Nat) : Option (List Int) := match delimOf (rest.drop p) with
  | some u => some [((p + ((rest.drop p).takeWhile (· != 59)).length : Nat) : Int), ((rest.length - u.length : Nat) : Int)]
  | none => none
theorem delimOf_some {u r : Tx} (h : delimOf u = some r) : ∃ g b, g = (u.takeWhile (· != 59)).length ∧ b = ((u.drop (g + 1)).takeWhile isBl).length ∧ g < u.length ∧ u.getD g 0 = 59 ∧ r = u.drop (g + 1 + b) := by
  unfold delimOf at h
  split at h
  · rename_i a w hd
    cases h
    rw [dropWhile_eq] at hd
    obtain ⟨h1, h2, h3⟩ := head_drop hd
    have h59 : u.getD (u.takeWhile (· != 59)).length 0 = 59 := by
      rcases takeWhile_end (· != 59) u with h | h
      · omega
      · simpa using h
    refine ⟨_, _, rfl, rfl, h1, h59, ?_⟩
    rw [dropWhile_eq, h3, List.drop_drop]
  · cases h
theorem delim_res {rest : Tx} {p : Nat} (hl : rest.length < 2 ^ 30) (hp : p ≤ rest.length) : ReRes (Sre.forSearch delimCode rest.toArray 0 p rest.length false) 0 (delimNums rest p) := by
  have hlen : (rest.drop p).length = rest.length - p := List.length_drop
  unfold delimNums
  cases hd : delimOf (rest.drop p) with
  | some r =>
    obtain ⟨g, b, hg, hb, h1, h2, h3⟩ := delimOf_some hd
    have tl := takeWhile_len isBl ((rest.drop p).drop (g + 1))
    have hl2 : ((rest.drop p).drop (g + 1)).length = rest.length - p - (g + 1) := by rw [List.length_drop, hlen]
    dsimp only
    have hrl : rest.length - r.length = p + g + 1 + b := by rw [h3, List.length_drop]; omega
    rw [hrl, ← hg]
    refine ReRes.found (groups := 0) (n := 10 + g * 2) (by omega) (delim_found (text := rest.toArray) (lim := rest.length) (pos := p) (g := g) (b := b) (by omega) (by omega) (fun j hj => ?_) (by rw [getA_drop]; exact h2) (fun j hj => ?_) ?_) (by rfl)
    · rw [getA_drop]
      have := takeWhile_all (· != 59) (rest.drop p) j (hg ▸ hj)
      simpa using this
    · have := takeWhile_all isBl ((rest.drop p).drop (g + 1)) j (hb ▸ hj)
      rw [List.drop_drop, ← getA_drop] at this
      rwa [show p + (g + 1) + j = p + g + 1 + j from by omega] at this
    · rcases takeWhile_end isBl ((rest.drop p).drop (g + 1)) with h | h
      · left; omega
      · right
        rw [← hb, List.drop_drop, ← getA_drop] at h
        rwa [show p + (g + 1) + b = p + g + 1 + b from by omega] at h
  | none =>
    refine ReRes.not (n := 10 + (rest.length - p) * 2) (by omega) (delim_not hp fun j hj => ?_)
    rw [getA_drop]
    unfold delimOf at hd
    split at hd
    · cases hd
    · rename_i hnil
      rw [dropWhile_eq] at hnil
      have hge : (rest.drop p).length ≤ ((rest.drop p).takeWhile (· != 59)).length := List.drop_eq_nil_iff.mp hnil
      have := takeWhile_all (· != 59) (rest.drop p) j (by omega)
      simpa using this
end
end Mine
end
section
open PySem PySem.W PySem.Calls PyProof.Rows
set_option Elab.async false
set_option maxRecDepth 100000
set_option linter.all false
namespace Mine
noncomputable section
section
variable {x : Cx} {m : Lc} {led : Ld} {Q Q1 : Flow → Shared → Prop}

/-- one statement -/
def SX1 (x : Cx) (st : Stmt) (m : Lc) (led : Ld) (Q : Flow → Shared → Prop) : Prop := ∀ s, St x m led s → wpAny (Md x.c) x.A (exec st x.env) Q nE s
theorem SX.cons1 {a : Stmt} {rest : List Stmt} (h : SX1 x a m led Q1) (k : ∀ s', Q1 .next s' → wpAny (Md x.c) x.A (execs rest x.env) Q nE s') (kf : ∀ f s', f ≠ .next → Q1 f s' → Q f s') : SX x (a :: rest) m led Q := fun s S =>
  wpAny_execs_cons (wpAny_mono (h s S) (fun f s' h => by
    cases f with
    | next => exact k s' h
    | cont => exact kf _ _ (by simp) h
    | brk => exact kf _ _ (by simp) h
    | ret v => exact kf _ _ (by simp) h) fun _ _ e => e)
theorem SX.last {a : Stmt} (h : SX1 x a m led Q) : SX x [a] m led Q := .cons1 h (fun s' h => wpAny_execs_nil h) (fun _ _ _ h => h)
theorem SX1.ifW {t : Expr} {a b : List Stmt} {pos : Pos} {i : Nat} {l : List Nat} {res : Option (List Int)} (ht : ∀ s, St x m led s → wpAny (Md x.c) x.A (isTrue t x.env (eval t x.env)) (isW l res x i m led) nE s)
    (ha : ∀ nums ad, res = some nums → x.B.objs.size ≤ ad → SX x a (m.set i (some (.ref ad))) (led ++ [(ad, .mat l nums)]) Q)
    (hb : res = none → SX x b (m.set i (some .none)) led Q) : SX1 x (.If t a b pos) m led Q := fun s S =>
  wpAny_If (wpAny_mono (ht s S) (fun r s₁ h => by
    unfold isW at h
    cases res with
    | none => obtain ⟨rfl, S'⟩ := h; exact hb rfl s₁ S'
    | some nums => obtain ⟨rfl, a, hB, S'⟩ := h; exact ha nums a rfl hB s₁ S') fun _ _ e => e)
theorem SX1.if_ {t : Expr} {a b : List Stmt} {pos : Pos} {r : Bool} (ht : IT x m led t r) (ha : r = true → SX x a m led Q) (hb : r = false → SX x b m led Q) : SX1 x (.If t a b pos) m led Q := fun s S =>
  wpAny_If (wpAny_mono (ht s S) (fun q s₁ h => by
    obtain ⟨E, rfl⟩ := h
    cases q
    · exact hb rfl s₁ (S.ext E)
    · exact ha rfl s₁ (S.ext E)) fun _ _ e => e)
theorem SX1.while_ {σ : Type} {test : Expr} {body orelse : List Stmt} {pos : Pos} (mf : σ → Lc) (lf : σ → Ld) (ok : σ → Prop) (meas : σ → Nat)
    (turn : ∀ a, ok a → ∃ b, IT x (mf a) (lf a) test b ∧
      (b = true → SX x body (mf a) (lf a) (fun f s' => match f with | .next | .cont => ∃ a', ok a' ∧ meas a' < meas a ∧ St x (mf a') (lf a') s' | .brk => Q .next s' | .ret v => Q (.ret v) s')) ∧
      (b = false → SX x orelse (mf a) (lf a) Q)) (a : σ) (ha : ok a) (hm : m = mf a) (hl : led = lf a) : SX1 x (.While test body orelse pos) m led Q := by
  subst hm hl
  intro s S
  refine wpAny_While (codeAny_whileLoop (fun n s' => ∃ a, ok a ∧ meas a = n ∧ St x (mf a) (lf a) s') ?_ (meas a) ⟨a, ha, rfl, S⟩)
  rintro n s' ⟨a, ha, rfl, S⟩
  obtain ⟨b, ht, h1, h2⟩ := turn a ha
  refine wpAny_mono (ht s' S) (fun q s₂ h => ?_) fun _ _ e => e.elim
  obtain ⟨E, rfl⟩ := h
  have S₂ := S.ext E
  cases q
  · simp only [Bool.false_eq_true, if_false]
    exact wpAny_mono (h2 rfl s₂ S₂) (fun f s₃ h => h) fun _ _ e => e.elim
  · simp only [if_true]
    refine wpAny_mono (h1 rfl s₂ S₂) (fun f s₃ h => ?_) fun _ _ e => e.elim
    cases f with
    | next => obtain ⟨a', o, l, S'⟩ := h; exact ⟨_, l, a', o, rfl, S'⟩
    | cont => obtain ⟨a', o, l, S'⟩ := h; exact ⟨_, l, a', o, rfl, S'⟩
    | brk => exact h
    | ret v => exact h
end

variable {c : Wd} {h : Heap}
theorem pat_key (B : Base c h) : PatIn h 77 keyCode 1 := ⟨⟨76, _, _, B.K _ _ rfl, _, _, B.K _ _ rfl, by rfl⟩⟩
theorem pat_tok (B : Base c h) : PatIn h 87 tokCode 0 := ⟨⟨86, _, _, B.K _ _ rfl, _, _, B.K _ _ rfl, by rfl⟩⟩
theorem pat_delim (B : Base c h) : PatIn h 97 delimCode 0 := ⟨⟨96, _, _, B.K _ _ rfl, _, _, B.K _ _ rfl, by rfl⟩⟩
theorem pat_mark (B : Base c h) : PatIn h 82 markCode 2 := ⟨⟨81, _, _, B.K _ _ rfl, _, _, B.K _ _ rfl, by rfl⟩⟩
theorem pat_chs (B : Base c h) : PatIn h 92 chsCode 2 := ⟨⟨91, _, _, B.K _ _ rfl, _, _, B.K _ _ rfl, by rfl⟩⟩
theorem pat_unsl (B : Base c h) : PatIn h 58 unslCode 1 := ⟨⟨57, _, _, B.K _ _ rfl, _, _, B.K _ _ rfl, by rfl⟩⟩
end
end Mine
end
section
open PySem PySem.W PySem.Calls PyProof.Rows
set_option Elab.async false
set_option maxRecDepth 100000
set_option linter.all false
namespace Mine
abbrev UX : String := "UnicodeDecodeError"
theorem ux_notType : (Value.type UX == Value.type "type") = false := by decide +kernel
theorem ux_canNew : (((Manifest.find? UX).bind (·.mro.findSome? fun (t : String) => (Manifest.find? t).bind fun b => if b.noNew then some true else if b.attrs.any (·.1 == "__new__") then some false else none)).getD false) = false := by decide +kernel
theorem ux_typeCall (rest : List Value) : checkTypeCall UX ⟨rest, []⟩ = pure () := by kernel_rfl
theorem ux_mroFast : (fastBuiltinMro UX).map (·.isEmpty) = some false := by kernel_rfl
theorem ux_madeBy : Bind.madeBy (.type UX) = pure (some "UnicodeDecodeError.__new__") := by kernel_rfl
theorem ux_newCheck (rest : List Value) : checkBuiltinCall "UnicodeDecodeError.__new__" ⟨.type UX :: rest, []⟩ = pure () := by kernel_rfl
theorem ux_newEntry : entryFor table "UnicodeDecodeError.__new__" = some Builtin.«BaseException.__new__» := entryFor_alias (id' := "BaseException.__new__") (by kernel_rfl) (by first | rfl | (unfold String.splitOn; simp +decide [String.splitOnAux])) (by decide +kernel) (by kernel_rfl)
theorem ux_newPlain : plainId "UnicodeDecodeError.__new__" = true := by decide +kernel
theorem ux_newEnds : "UnicodeDecodeError.__new__".endsWith ".__new__" = true := by decide +kernel
theorem ux_subOwner : isSubtype (.type UX) (.type ("UnicodeDecodeError.__new__".dropRight 8)) = pure true := by rw [isSubtype_type]; kernel_rfl
theorem ux_madeHere : Bind.madeHere "BaseException.__new__" (.type UX) = pure () := by kernel_rfl
theorem ux_notAttr : isSubtype (.type UX) (.type "AttributeError") = pure false := by rw [isSubtype_type]; kernel_rfl
theorem ux_notName : isSubtype (.type UX) (.type "NameError") = pure false := by rw [isSubtype_type]; kernel_rfl
theorem ux_self : isSubtype (.type UX) (.type UX) = pure true := by rw [isSubtype_type]; kernel_rfl
theorem ux_enc : isSubtype (.type UX) (.type "UnicodeEncodeError") = pure false := by rw [isSubtype_type]; kernel_rfl
theorem ux_init : Slot UX "__init__" "UnicodeDecodeError.__init__" :=
  .of (owner := "UnicodeDecodeError") (n := "__init__") (by rw [typeLookup_type, builtinLookup_eq_fast]; kernel_rfl) (by decide +kernel) (by decide +kernel) (by decide +kernel)
    (by first | exact .inl (by decide +kernel) | exact .inr (by decide +kernel)) (by rw [isSubtype_type]; kernel_rfl)
theorem ux_initEntry : entryFor table "UnicodeDecodeError.__init__" = some Builtin.«UnicodeDecodeError.__init__» := entryFor_of_tree (by kernel_rfl)
theorem ux_initArgs (a b c d e f : Value) : argsOk "UnicodeDecodeError.__init__" ⟨[a, b, c, d, e, f], []⟩ := by
  unfold argsOk; kernel_rfl
theorem rep_entry : entryFor table "_codecs.lookup_error.replace_errors" = some Builtin.«_codecs.lookup_error.replace_errors» := entryFor_of_tree (by kernel_rfl)
theorem rep_kind : builtinKind "_codecs.lookup_error.replace_errors" = none := by decide +kernel
theorem rep_plain : plainId "_codecs.lookup_error.replace_errors" = true := by decide +kernel
theorem rep_args (a : Value) : argsOk "_codecs.lookup_error.replace_errors" ⟨[a], []⟩ := by unfold argsOk; kernel_rfl
theorem rep_hand : Builtin._codecs.builtinHandlers.lookup "replace" = some "replace_errors" := by decide +kernel
end Mine
end
section
open PySem PySem.W PySem.Calls PyProof.Rows
open PySem.Builtin.UnicodeEncodeError (members setMembers Members)
set_option Elab.async false
set_option maxRecDepth 100000
set_option linter.all false
namespace Mine
noncomputable section

def UObj (h : Heap) (e : Addr) (vs : List Value) : Prop := h.get? e = some { cls := .type UX, data := .fields vs.toArray }
/-- nothing below n is changed -/
structure Below (n : Nat) (h h' : Heap) : Prop where
  size : h.objs.size ≤ h'.objs.size
  same : ∀ b, b < n → h'.get? b = h.get? b
theorem Below.refl (n : Nat) (h : Heap) : Below n h h := ⟨Nat.le_refl _, fun _ _ => rfl⟩
theorem Below.trans {n : Nat} {a b c : Heap} (x : Below n a b) (y : Below n b c) : Below n a c := ⟨Nat.le_trans x.size y.size, fun k hk => (y.same k hk).trans (x.same k hk)⟩
theorem Below.push {n : Nat} {h h' : Heap} (x : Below n h h') (hn : n ≤ h.objs.size) (o : Obj) : Below n h (h'.push o) :=
  ⟨by rw [Heap.size_push]; exact Nat.le_succ_of_le x.size, fun b hb => by
    rw [← x.same b hb]
    have hlt : b < h'.objs.size := Nat.lt_of_lt_of_le hb (Nat.le_trans hn x.size)
    cases hg : h'.get? b with
    | some ob => exact Heap.get?_push_of_some _ hg
    | none =>
      have h1 : (h'.push o).get? b = h'.get? b := by
        simp only [Heap.get?, Heap.push] at hg ⊢
        rw [Array.getElem?_push_lt hlt, Array.getElem?_eq_getElem hlt]
      rw [h1, hg]⟩
theorem Below.upd {n : Nat} {h h' : Heap} (x : Below n h h') {e : Addr} (he : n ≤ e) (f : Obj → Obj) : Below n h (h'.update e f) :=
  ⟨by rw [show (h'.update e f).objs.size = h'.objs.size from (Heap.SameBut.update ..).1]; exact x.size, fun b hb => ((Heap.SameBut.update (h := h') (a := e) (f := f)).2 b (Nat.ne_of_lt (Nat.lt_of_lt_of_le hb he))).trans (x.same b hb)⟩

section
variable {M : Model} {A : Around} {E : Value → Shared → Prop} {s : Shared}

theorem UObj.push {h : Heap} {e vs} (x : UObj h e vs) (o : Obj) : UObj (h.push o) e vs := Heap.get?_push_of_some o x

theorem wp_setF {e : Addr} {vs : List Value} {i : Nat} {x : Value} {Q : Unit → Shared → Prop} (ho : UObj s.heap e vs) (hi : i < vs.length)
    (h : ∀ h', UObj h' e (vs.set i x) → (∀ n h₀, n ≤ e → Below n h₀ s.heap → Below n h₀ h') → Q () { s with heap := h' }) : wpAny M A (setField (.ref e) i x) Q E s := by
  refine wpAny_setField ho rfl (by simpa using hi) (h _ ?_ fun n h₀ hn b => b.upd hn _)
  unfold UObj
  rw [Heap.get?_update_self _ ho (Obj.isFreed_of_fields (Obj.data_mapFields rfl _))]
  simp [Obj.mapFields]

def memOf (vs : List Value) : Option Members := match vs.drop 6 with
  | [] => some {}
  | [encoding, object, .int start _, .int stop _, reason] => some { encoding, object, start, stop, reason }
  | _ => none
theorem wp_members {e : Addr} {vs : List Value} {m : Members} {Q : Members → Shared → Prop} (ho : UObj s.heap e vs) (hm : memOf vs = some m) (h : Q m s) : wpAny M A (members (.ref e)) Q E s := by
  unfold members
  refine wpAny_bind (wpAny_fieldsOf ho rfl ?_)
  have e1 : (vs.toArray.extract 6).toList = vs.drop 6 := by
    simp
    exact List.take_of_length_le (by simp)
  rw [e1]
  unfold memOf at hm
  split at hm <;> rename_i hd
  · rw [hd]; cases hm; exact wpAny_pure h
  · rw [hd]; cases hm; exact wpAny_pure h
  · cases hm
def memList (m : Members) : List Value := [m.encoding, m.object, rawInt m.start, rawInt m.stop, m.reason]
theorem memOf_list {vs : List Value} (h6 : vs.length = 6) (m : Members) : memOf (vs ++ memList m) = some m := by
  unfold memOf
  rw [List.drop_append_of_le_length (by omega), List.drop_eq_nil_of_le (by omega)]
  rfl
theorem wp_setM {e : Addr} {vs : List Value} {m : Members} {Q : Unit → Shared → Prop} (ho : UObj s.heap e vs) (h6 : 6 ≤ vs.length)
    (h : ∀ h', UObj h' e (vs.take 6 ++ memList m) → (∀ n h₀, n ≤ e → Below n h₀ s.heap → Below n h₀ h') → Q () { s with heap := h' }) : wpAny M A (setMembers (.ref e) m) Q E s := by
  unfold setMembers
  dsimp only
  refine wpAny_updateFields ho rfl (h _ ?_ fun n h₀ hn b => b.upd hn _) (by simp [sizeLine_eq]; omega)
  unfold UObj
  rw [Heap.get?_update_self _ ho (Obj.isFreed_of_fields (Obj.data_mapFields rfl _))]
  simp [Obj.mapFields, memList]
end

section
variable {prog : Program} {w : World} {A : Around} {E : Value → Shared → Prop} {s : Shared}

theorem ux_new {rest : List Value} {Q : Value → Shared → Prop} (hrest : rest.length ≤ 10)
    (h : Q (.ref (s.heap.objs.size + 1)) { s with heap := (s.heap.push { cls := .type "tuple", data := .seq rest.toArray }).push { cls := .type UX, data := .fields #[.ref s.heap.objs.size, .none, .none, .none, .bool false, .none] } }) :
    wpAny (model prog w) A (call (.builtin "UnicodeDecodeError.__new__") (.type UX :: rest)) Q E s := by
  refine PyProof.Rows.call_builtin_at ux_newPlain ux_newEntry (ux_newCheck rest) ?_
  unfold Builtin.«BaseException.__new__»
  refine PyProof.Rows.wpAt_bind (PyProof.Rows.wpAt_owner rfl ux_newEnds (PyProof.Rows.wpAt_of_any ?_))
  dsimp only
  refine wpAny_bind (m := isType _) (wpAny_of_eq (a := true) rfl ?_)
  simp only [Bool.not_true, Bool.false_eq_true, if_false]
  refine wpAny_bind (wpAny_of_eq ux_subOwner ?_)
  simp only [Bool.not_true, Bool.false_eq_true, if_false]
  refine wpAny_bind (wpAny_of_eq ux_madeHere ?_)
  refine wpAny_bind (wpAny_of_eq (a := 0) ?own ?_)
  case own =>
    show (do
      if ← isSubtype (.type UX) (.type "AttributeError") then return 2
      if ← isSubtype (.type UX) (.type "NameError") then return 1
      return 0 : Sem Nat) = pure 0
    simp only [ux_notAttr, ux_notName, pure_bind, Bool.false_eq_true, if_false]
  unfold newTuple
  refine wpAny_bind (wpAny_newObj_type (wpAny_bind (wpAny_newObj_type (wpAny_pure ⟨_, rfl, ?_⟩) (by size_fits))) (by show rest.toArray.size ≤ sizeLine; rw [List.size_toArray, sizeLine_eq]; omega))
  rw [Heap.size_push]
  exact h

theorem ux_body {e : Addr} {v0 v1 v2 v3 v4 v5 : Value} {x r : Str} {b : Array UInt8} {t1 t2 t3 t4 t5 : Tok} {i j : Int} {Q : Value → Shared → Prop} (ho : UObj s.heap e [v0, v1, v2, v3, v4, v5]) (hi : 0 ≤ i ∧ i < 2 ^ 62) (hj : 0 ≤ j ∧ j < 2 ^ 62) (ht : t2 ≠ 0 ∨ True)
    (h : ∀ h' u0, UObj h' e ([u0, v1, v2, v3, v4, v5] ++ memList ⟨.str x t1, .bytes b t2, i, j, .str r t5⟩) → (∀ n h₀, n ≤ e → n ≤ h₀.objs.size → Below n h₀ s.heap → Below n h₀ h') → Q .none { s with heap := h' }) :
    wpAny (model prog w) A (Builtin.«UnicodeDecodeError.__init__» ⟨[.ref e, .str x t1, .bytes b t2, .int i t3, .int j t4, .str r t5], []⟩) (fun fin s' => ∃ v, fin = .done (.ret v) ∧ Q v s') E s := by
  unfold Builtin.«UnicodeDecodeError.__init__»
  dsimp only
  refine wpAny_bind ?_
  unfold Builtin.UnicodeEncodeError.beginInit
  dsimp only
  simp only [List.isEmpty_nil, Bool.not_true, Bool.false_eq_true, if_false]
  refine wpAny_bind (wpAny_field ho rfl (x := v0) rfl ?_)
  refine wpAny_bind (wpAny_newTuple ?_ (by rw [sizeLine_eq]; simp))
  have ho1 := ho.push { cls := .type "tuple", data := .seq [.str x t1, .bytes b t2, .int i t3, .int j t4, .str r t5].toArray }
  refine wpAny_bind (wp_setF (s := { s with heap := _ }) ho1 (by simp) fun h1 u1 b1 => ?_)
  refine wpAny_bind (wpAny_letGo ?_)
  simp only [beq_self_eq_true, if_true]
  refine wpAny_bind (wp_members (m := {}) u1 rfl ?_)
  refine wpAny_bind (wp_setM (s := { s with heap := h1 }) u1 (by simp) fun h2 u2 b2 => ?_)
  refine wpAny_bind (wpAny_letGo ?_)
  refine wpAny_bind (wp_members (s := { s with heap := h2 }) u2 (memOf_list rfl _) ?_)
  refine wpAny_bind (wp_setM (s := { s with heap := h2 }) u2 (by simp [memList]) fun h3 u3 b3 => ?_)
  refine wpAny_bind (wpAny_letGo ?_)
  refine wpAny_bind (wp_members (s := { s with heap := h3 }) u3 (memOf_list rfl _) ?_)
  refine wpAny_bind (wp_setM (s := { s with heap := h3 }) u3 (by simp [memList]) fun h4 u4 b4 => ?_)
  refine wpAny_bind (wpAny_letGo ?_)
  rw [if_neg (by simp)]
  refine wpAny_pure ?_
  dsimp only
  unfold Builtin.UnicodeEncodeError.strArgument
  refine wpAny_bind (wpAny_bind (wpAny_of_eq (show asStr? (.str x t1) = pure (some x) from rfl) ?_))
  simp only [Option.isNone_some, Bool.false_eq_true, if_false]
  refine wpAny_pure ?_
  refine wpAny_bind ?_
  unfold Builtin.UnicodeEncodeError.initRange Builtin.UnicodeEncodeError.sizeArgument
  refine wpAny_bind (wpAny_bind (wpAny_of_eq (show asIndex (.int i t3) = pure i from rfl) ?_))
  have c1 : (decide (i < -(2 ^ 63 : Int)) || decide (i ≥ 2 ^ 63)) = false := by simp; omega
  have c2 : (decide (j < -(2 ^ 63 : Int)) || decide (j ≥ 2 ^ 63)) = false := by simp; omega
  simp only [c1, Bool.false_eq_true, if_false]
  refine wpAny_pure ?_
  refine wpAny_bind (wp_members (s := { s with heap := h4 }) u4 (memOf_list rfl _) ?_)
  refine wpAny_bind (wp_setM (s := { s with heap := h4 }) u4 (by simp [memList]) fun h5 u5 b5 => ?_)
  refine wpAny_bind (wpAny_bind (wpAny_of_eq (show asIndex (.int j t4) = pure j from rfl) ?_))
  simp only [c2, Bool.false_eq_true, if_false]
  refine wpAny_pure ?_
  refine wpAny_bind (wp_members (s := { s with heap := h5 }) u5 (memOf_list rfl _) ?_)
  refine wp_setM (s := { s with heap := h5 }) u5 (by simp [memList]) fun h6 u6 b6 => ?_
  refine wpAny_bind (wpAny_bind (wpAny_of_eq (show asStr? (.str r t5) = pure (some r) from rfl) ?_))
  simp only [Option.isNone_some, Bool.false_eq_true, if_false]
  refine wpAny_pure ?_
  refine wpAny_bind (wpAny_of_eq (show Builtin.UnicodeDecodeError.bytesOf? (.bytes b t2) = pure (some b) from rfl) ?_)
  simp only [Option.isSome_some, if_true]
  refine wpAny_bind (wpAny_pure ?_)
  have c3 : Builtin.UnicodeEncodeError.isUnset (.bytes b t2) = false := rfl
  simp only [c3, Bool.not_false, if_true]
  refine wpAny_bind (wpAny_pure ?_)
  simp only [c3, Bool.false_eq_true, if_false]
  refine wpAny_bind (wp_members (s := { s with heap := h6 }) u6 (memOf_list rfl _) ?_)
  refine wpAny_bind (wp_setM (s := { s with heap := h6 }) u6 (by simp [memList]) fun h7 u7 b7 => ?_)
  exact wpAny_pure ⟨_, rfl, h h7 _ u7 fun n h₀ hn hsz hb => b7 n h₀ hn (b6 n h₀ hn (b5 n h₀ hn (b4 n h₀ hn (b3 n h₀ hn (b2 n h₀ hn (b1 n h₀ hn (hb.push hsz _)))))))⟩

theorem call_ux {x r : Str} {b : Array UInt8} {t1 t2 t3 t4 t5 : Tok} {i j : Int} {Q : Value → Shared → Prop} (hi : 0 ≤ i ∧ i < 2 ^ 62) (hj : 0 ≤ j ∧ j < 2 ^ 62)
    (h : ∀ h' e vs, s.heap.objs.size ≤ e → vs.length = 6 → UObj h' e (vs ++ memList ⟨.str x t1, .bytes b t2, i, j, .str r t5⟩) → Below s.heap.objs.size s.heap h' → Q (.ref e) { s with heap := h' }) :
    wpAny (model prog w) A (call (.type UX) [.str x t1, .bytes b t2, .int i t3, .int j t4, .str r t5]) Q E s := by
  refine wpAny_call (codeAny_of_tree ?_)
  show wpAny _ _ (callAny (.type UX) ⟨[.str x t1, .bytes b t2, .int i t3, .int j t4, .str r t5], []⟩) _ _ s
  simp only [callAny]
  refine wpAny_pure ⟨Code.quiet_builtin _ (by decide +kernel), codeAny_builtin PyProof.Rows.entry_type_call ?_⟩
  rw [Around.under_plain (PyProof.Rows.weight_type_call UX _ _) (by first | rfl | kernel_rfl | decide +kernel)]
  unfold Builtin.«type.__call__»
  dsimp only
  rw [if_neg (by rw [ux_notType]; exact Bool.false_ne_true), if_neg (by rw [ux_canNew]; exact Bool.false_ne_true)]
  obtain ⟨l, hl, hle⟩ : ∃ l, mroOf (.type UX) = pure l ∧ l.isEmpty = false := by
    have h := ux_mroFast
    rw [mroOf_type]
    cases hm : fastBuiltinMro UX with
    | none => rw [hm] at h; cases h
    | some l => rw [hm] at h; exact ⟨l, rfl, by simpa using h⟩
  refine wpAny_bind (wpAny_of_eq (ux_typeCall _) (wpAny_bind (wpAny_of_eq hl ?_)))
  rw [if_neg (by rw [hle]; exact Bool.false_ne_true)]
  refine wpAny_bind (wpAny_of_eq ux_madeBy ?_)
  dsimp only
  refine wpAny_bind (wpAny_pure (wpAny_bind (wpAny_holding (ux_new (by simp) ?_))))
  have ho : UObj ((s.heap.push { cls := .type "tuple", data := .seq [.str x t1, .bytes b t2, .int i t3, .int j t4, .str r t5].toArray }).push { cls := .type UX, data := .fields #[.ref s.heap.objs.size, .none, .none, .none, .bool false, .none] }) (s.heap.objs.size + 1) [.ref s.heap.objs.size, .none, .none, .none, .bool false, .none] := by
    rw [← Heap.size_push s.heap { cls := .type "tuple", data := .seq [.str x t1, .bytes b t2, .int i t3, .int j t4, .str r t5].toArray }]
    exact Heap.get?_push_size _ rfl
  refine wpAny_bind (wpAny_isInstance (T := UX) ⟨_, ho, rfl⟩ ux_self ?_)
  simp only [Bool.not_true, Bool.false_eq_true, if_false]
  refine wpAny_bind (wpAny_holding (wpAny_callSpecial?_slot (name := Str.ofString "__init__") (T := UX) ⟨_, ho, rfl⟩ ux_init ?_))
  refine call_meetsIn ux_init ⟨_, ho, rfl⟩ ux_initEntry (ux_initArgs _ _ _ _ _ _) (MeetsIn.of_wp (S := fun A R s' => UObj s'.heap (s.heap.objs.size + 1) [.ref s.heap.objs.size, .none, .none, .none, .bool false, .none] ∧ (∀ h' u0, UObj h' (s.heap.objs.size + 1) ([u0, .none, .none, .none, .bool false, .none] ++ memList ⟨.str x t1, .bytes b t2, i, j, .str r t5⟩) → (∀ n h₀, n ≤ s.heap.objs.size + 1 → n ≤ h₀.objs.size → Below n h₀ s'.heap → Below n h₀ h') → R (.ok (.ret .none)) { s' with heap := h' })) (fun A R s' ⟨ho', hR⟩ => ux_body ho' hi hj (.inr trivial) hR)) ⟨ho, fun h' u0 hu hb => ?_⟩
  show wpAny _ _ (if (Value.none != Value.none) = true then _ else _) _ _ _
  rw [if_neg (by simp)]
  refine wpAny_pure (h h' _ _ (Nat.le_succ _) rfl hu (hb _ _ (Nat.le_succ _) (Nat.le_refl _) (((Below.refl _ _).push (Nat.le_refl _) _).push (Nat.le_refl _) _)))
end
end
end Mine
end
section
open PySem PySem.W PySem.Calls PyProof.Rows
open PySem.Builtin.UnicodeEncodeError (members setMembers Members)
set_option Elab.async false
set_option maxRecDepth 100000
set_option linter.all false
namespace Mine
noncomputable section
section
variable {prog : Program} {w : World} {A : Around} {E : Value → Shared → Prop} {s : Shared}

theorem ux_tra : isSubtype (.type UX) (.type "UnicodeTranslateError") = pure false := by rw [isSubtype_type]; kernel_rfl
theorem meets_rep {e : Addr} {vs : List Value} {enc : Value} {b : Array UInt8} {t : Tok} {i j : Int} {r : Value} (hv : vs.length = 6) (hb : 0 < b.size) (hj : 1 ≤ j) (hjb : j ≤ b.size) :
    Meets (Builtin.«_codecs.lookup_error.replace_errors» ⟨[.ref e], []⟩) (fun _ R s => UObj s.heap e (vs ++ memList ⟨enc, .bytes b t, i, j, r⟩) ∧
      R (.ok (.ret (.ref s.heap.objs.size))) { s with heap := s.heap.push { cls := .type "tuple", data := .seq #[.str ⟨#[65533]⟩ s.toks, .int j (s.toks + 1)] }, toks := s.toks + 1 + 1 }) := by
  refine .of_wp fun prog w A R s hS => ?_
  obtain ⟨ho, h⟩ := hS
  unfold Builtin.«_codecs.lookup_error.replace_errors»
  refine wpAny_bind (wpAny_of_eq (show oneArg "replace_errors" ⟨[.ref e], []⟩ = pure (.ref e) from rfl) ?_)
  refine wpAny_bind ?_
  unfold Builtin._codecs.seen
  refine wpAny_bind (wpAny_isInstance (T := UX) (b := false) ⟨_, ho, rfl⟩ ux_enc ?_)
  simp only [Bool.false_eq_true, if_false]
  refine wpAny_bind (wpAny_isInstance (T := UX) (b := true) ⟨_, ho, rfl⟩ ux_self ?_)
  refine wpAny_bind (wpAny_isInstance (T := UX) (b := false) ⟨_, ho, rfl⟩ ux_tra ?_)
  simp only [if_true]
  refine wpAny_bind (wpAny_pure ?_)
  have c1 : [Builtin._codecs.Kind.encode, Builtin._codecs.Kind.decode, Builtin._codecs.Kind.translate].contains Builtin._codecs.Kind.decode = true := by decide +kernel
  simp only [c1, Bool.not_true, Bool.false_eq_true, if_false]
  refine wpAny_bind (wp_members ho (memOf_list hv _) ?_)
  have c2 : Builtin.UnicodeEncodeError.isUnset (.bytes b t) = false := rfl
  simp only [c2, Bool.false_eq_true, if_false]
  have c3 : (Builtin._codecs.Kind.decode == Builtin._codecs.Kind.decode) = true := by decide +kernel
  simp only [c3, if_true]
  refine wpAny_bind (wpAny_pure ?_)
  have c4 : (Array.map (fun x : UInt8 => x.toNat) b).isEmpty = false := by simp; intro q; rw [q] at hb; simp at hb
  simp only [c4, Bool.false_eq_true, if_false]
  refine wpAny_pure ?_
  simp only [c3, if_true]
  have c5 : min (max j 1) ((Array.map (fun x : UInt8 => x.toNat) b).size : Int) = j := by simp; omega
  rw [c5]
  unfold Builtin._codecs.answer
  refine wpAny_bind (wpAny_mkStr (x := ⟨#[65533]⟩) ?_ (by decide))
  refine wpAny_bind (wpAny_mkInt ?_)
  refine wpAny_bind (wpAny_newTuple ?_)
  refine wpAny_pure ⟨_, rfl, ?_⟩
  simpa using h

open PySem.Builtin._codecs (Faults decodeFault)
abbrev hRep : Value := .builtin "_codecs.lookup_error.replace_errors"
structure FaultSt (n : Nat) (b : Array UInt8) (st : Faults) (h : Heap) : Prop where
  held : st.held = []
  or : (st.handler = none ∧ st.exc = none) ∨ (st.handler = some hRep ∧ ∃ e vs m t, st.exc = some (.ref e) ∧ n ≤ e ∧ vs.length = 6 ∧ m.object = .bytes b t ∧ UObj h e (vs ++ memList m))
theorem wp_fault {n : Nat} {id codec reason : String} {st : Faults} {own : List String} {b : Array UInt8} {start stop : Nat} {Q : Faults × Array Nat × Nat → Shared → Prop} (F : FaultSt n b st s.heap) (hn : n ≤ s.heap.objs.size) (h1 : start < stop) (h2 : stop ≤ b.size) (hb : b.size ≤ 100000)
    (ho : own = ["ignore", "replace", "surrogateescape"]) (hc : (codec : Str).length ≤ sizeLine) (hr : (reason : Str).length ≤ sizeLine)
    (hQ : ∀ st' h' tk, FaultSt n b st' h' → Below n s.heap h' → Q (st', #[65533], stop) { s with heap := h', toks := tk }) : wpAny (model prog w) A (decodeFault id st (some (Str.ofString "replace")) own codec b start stop reason) Q E s := by
  subst ho
  obtain ⟨hh, hor⟩ := F
  obtain ⟨sh, sx, sl⟩ := st
  dsimp only at hh hor
  subst hh
  -- behind the exception's making
  have tail : ∀ (s₁ : Shared) (e : Addr) (vs : List Value) (m : Members) (t : Tok) (st' : Faults), n ≤ e → vs.length = 6 → m.object = .bytes b t → m.stop = stop → UObj s₁.heap e (vs ++ memList m) → Below n s.heap s₁.heap → n ≤ s₁.heap.objs.size → s₁.gens = s.gens → s₁.drawn = s.drawn → s₁.os = s.os →
      ∀ (R : Value → Shared → Prop), (∀ h' tk, UObj h' e (vs ++ memList m) → Below n s.heap h' → h'.get? s₁.heap.objs.size = some { cls := .type "tuple", data := .seq #[.str ⟨#[65533]⟩ s₁.toks, .int stop (s₁.toks + 1)] } → R (.ref s₁.heap.objs.size) { s with heap := h', toks := tk }) →
      wpAny (model prog w) A (call hRep [.ref e]) R E s₁ := by
    intro s₁ e vs m t st' he hv hm hst ho hb1 hn1 g1 g2 g3 R hR
    obtain ⟨me, mo, mi, mj, mr⟩ := m
    dsimp only at hm hst
    subst hm hst
    refine call_function_meets rep_kind rep_plain rep_entry (rep_args _) (meets_rep hv (by omega) (by omega) (by omega)) ⟨ho, ?_⟩
    have := hR (s₁.heap.push { cls := .type "tuple", data := .seq #[.str ⟨#[65533]⟩ s₁.toks, .int stop (s₁.toks + 1)] }) (s₁.toks + 1 + 1) (ho.push _) (Below.trans hb1 ((Below.refl _ _).push hn1 _)) (Heap.get?_push_size _ rfl)
    rw [← g1, ← g2, ← g3] at this
    exact this
  unfold decodeFault
  have c1 : (decide ((stop : Int) < -(2 ^ 63 : Int)) || decide ((stop : Int) ≥ 2 ^ 63)) = false := by simp; omega
  rcases hor with ⟨rfl, rfl⟩ | ⟨rfl, e, vs, m, t, rfl, he, hv, hm, ho⟩
  · refine wpAny_bind (wpAny_of_eq (a := hRep) (by kernel_rfl) ?_)
    refine wpAny_bind (wpAny_holding ?_)
    show wpAny _ _ (do let a ← mkStr (codec : Str); let o ← mkBytes b; let i ← mkInt start; let j ← mkInt stop; let r ← mkStr (reason : Str); call (.type "UnicodeDecodeError") [a, o, i, j, r]) _ _ _
    refine wpAny_bind (wpAny_mkStr ?_ hc)
    refine wpAny_bind (wpAny_mkBytes ?_ (by rw [sizeLine_eq]; omega))
    refine wpAny_bind (wpAny_mkInt ?_)
    refine wpAny_bind (wpAny_mkInt ?_)
    refine wpAny_bind (wpAny_mkStr ?_ hr)
    refine call_ux ⟨by omega, by omega⟩ ⟨by omega, by omega⟩ (fun h1 e vs he hv hu hbel => ?_)
    have hbn : Below n s.heap h1 := ⟨hbel.size, fun b' hb' => hbel.same b' (Nat.lt_of_lt_of_le hb' hn)⟩
    refine wpAny_bind ?_
    show wpAny _ _ (members (.ref e) >>= fun m => holding [hRep, .ref e] (call hRep [.ref e]) >>= fun r => members (.ref e) >>= fun m' => _) _ _ _
    refine wpAny_bind (wp_members (s := { s with heap := h1, toks := s.toks + 1 + 1 + 1 + 1 + 1 }) hu (memOf_list hv _) ?_)
    refine wpAny_bind (wpAny_holding (tail { s with heap := h1, toks := s.toks + 1 + 1 + 1 + 1 + 1 } e vs _ (s.toks + 1) ⟨none, none, []⟩ (Nat.le_trans hn he) hv rfl rfl hu hbn (Nat.le_trans hn hbel.size) rfl rfl rfl _ fun h2 tk2 hu2 hb2 ht2 => ?_))
    refine wpAny_bind (wp_members (s := { s with heap := h2, toks := tk2 }) hu2 (memOf_list hv _) ?_)
    split
    · rename_i hbad
      exfalso
      revert hbad
      dsimp only
      skip
      intro hbad
      have hbad' : (!((s.toks + 1) == (s.toks + 1) && b == b)) = true := hbad
      simp at hbad'
    refine wpAny_pure ?_
    refine wpAny_holding ?_
    refine wpAny_bind ?_
    refine wpAny_bind (wpAny_isInstance (T := "tuple") (b := true) ⟨_, ht2, rfl⟩ isSubtype_tuple_tuple ?_)
    simp only [Bool.not_true, Bool.false_eq_true, if_false]
    refine wpAny_bind (wpAny_seqItems ht2 rfl ?_)
    refine wpAny_pure ?_
    dsimp only
    refine wpAny_bind (wpAny_of_eq (show asStr? (.str ⟨#[65533]⟩ _) = pure (some ⟨#[65533]⟩) from rfl) ?_)
    dsimp only
    refine wpAny_bind ?_
    refine wpAny_bind (wpAny_of_eq (show asIndex (.int (stop : Int) _) = pure (stop : Int) from rfl) ?_)
    simp only [c1, Bool.false_eq_true, if_false]
    refine wpAny_pure ?_
    refine wpAny_bind ?_
    have p1 : (if (stop : Int) < 0 then (stop : Int) + (b.size : Int) else (stop : Int)) = stop := if_neg (by omega)
    refine wpAny_of_eq (a := stop) ?_ (wpAny_pure (hQ _ h2 tk2 ⟨rfl, .inr ⟨rfl, e, vs, _, s.toks + 1, rfl, Nat.le_trans hn he, hv, rfl, hu2⟩⟩ hb2))
    show (if (decide ((if (stop : Int) < 0 then (stop : Int) + (b.size : Int) else (stop : Int)) < 0) || decide ((if (stop : Int) < 0 then (stop : Int) + (b.size : Int) else (stop : Int)) > (b.size : Int))) = true then _ else if (if (stop : Int) < 0 then (stop : Int) + (b.size : Int) else (stop : Int)) ≤ (start : Int) then _ else pure (if (stop : Int) < 0 then (stop : Int) + (b.size : Int) else (stop : Int)).toNat) = _
    rw [p1, if_neg (by simp; omega), if_neg (by omega)]
    rfl
  · refine wpAny_bind (wpAny_of_eq (a := hRep) (by kernel_rfl) ?_)
    refine wpAny_bind (wpAny_holding ?_)
    obtain ⟨me, mo, mi, mj, mr⟩ := m
    dsimp only at hm
    subst hm
    show wpAny _ _ (members (.ref e) >>= fun m => mkStr (reason : Str) >>= fun r => setMembers (.ref e) { m with start := start, stop := stop, reason := r } >>= fun _ => pure (Value.ref e)) _ _ _
    refine wpAny_bind (wp_members ho (memOf_list hv _) ?_)
    refine wpAny_bind (wpAny_mkStr ?_ hr)
    refine wpAny_bind (wp_setM (s := { s with toks := s.toks + 1 }) ho (by simp [hv, memList]) fun h1 hu0 hbf => ?_)
    refine wpAny_pure ?_
    have hu : UObj h1 e (vs ++ memList ⟨me, .bytes b t, start, stop, .str (reason : Str) s.toks⟩) := by
      rw [List.take_append_of_le_length (by omega), List.take_of_length_le (by omega)] at hu0; exact hu0
    have hbn : Below n s.heap h1 := hbf n s.heap he (Below.refl _ _)
    refine wpAny_bind ?_
    show wpAny _ _ (members (.ref e) >>= fun m => holding [hRep, .ref e] (call hRep [.ref e]) >>= fun r => members (.ref e) >>= fun m' => _) _ _ _
    refine wpAny_bind (wp_members (s := { s with heap := h1, toks := s.toks + 1 }) hu (memOf_list hv _) ?_)
    refine wpAny_bind (wpAny_holding (tail { s with heap := h1, toks := s.toks + 1 } e vs _ t ⟨none, none, []⟩ he hv rfl rfl hu hbn (Nat.le_trans hn hbn.size) rfl rfl rfl _ fun h2 tk2 hu2 hb2 ht2 => ?_))
    refine wpAny_bind (wp_members (s := { s with heap := h2, toks := tk2 }) hu2 (memOf_list hv _) ?_)
    split
    · rename_i hbad
      exfalso
      revert hbad
      dsimp only
      skip
      intro hbad
      have hbad' : (!(t == t && b == b)) = true := hbad
      simp at hbad'
    refine wpAny_pure ?_
    refine wpAny_holding ?_
    refine wpAny_bind ?_
    refine wpAny_bind (wpAny_isInstance (T := "tuple") (b := true) ⟨_, ht2, rfl⟩ isSubtype_tuple_tuple ?_)
    simp only [Bool.not_true, Bool.false_eq_true, if_false]
    refine wpAny_bind (wpAny_seqItems ht2 rfl ?_)
    refine wpAny_pure ?_
    dsimp only
    refine wpAny_bind (wpAny_of_eq (show asStr? (.str ⟨#[65533]⟩ _) = pure (some ⟨#[65533]⟩) from rfl) ?_)
    dsimp only
    refine wpAny_bind ?_
    refine wpAny_bind (wpAny_of_eq (show asIndex (.int (stop : Int) _) = pure (stop : Int) from rfl) ?_)
    simp only [c1, Bool.false_eq_true, if_false]
    refine wpAny_pure ?_
    refine wpAny_bind ?_
    have p1 : (if (stop : Int) < 0 then (stop : Int) + (b.size : Int) else (stop : Int)) = stop := if_neg (by omega)
    refine wpAny_of_eq (a := stop) ?_ (wpAny_pure (hQ _ h2 tk2 ⟨rfl, .inr ⟨rfl, e, vs, _, t, rfl, he, hv, rfl, hu2⟩⟩ hb2))
    show (if (decide ((if (stop : Int) < 0 then (stop : Int) + (b.size : Int) else (stop : Int)) < 0) || decide ((if (stop : Int) < 0 then (stop : Int) + (b.size : Int) else (stop : Int)) > (b.size : Int))) = true then _ else if (if (stop : Int) < 0 then (stop : Int) + (b.size : Int) else (stop : Int)) ≤ (start : Int) then _ else pure (if (stop : Int) < 0 then (stop : Int) + (b.size : Int) else (stop : Int)).toNat) = _
    rw [p1, if_neg (by simp; omega), if_neg (by omega)]
    rfl
end
end
end Mine
end
section
open PySem PySem.W PySem.Calls PyProof.Rows
open PySem.Builtin._codecs (Faults decodeFault Decoder runDecoder Found)
set_option Elab.async false
set_option maxRecDepth 100000
set_option linter.all false
namespace Mine
noncomputable section
def decA (nx : Nat → List Nat × Nat) (size : Nat) : Nat → Nat → List Nat
  | 0, _ => []
  | f + 1, p => if size ≤ p then [] else (nx p).1 ++ decA nx size f (nx p).2
section
variable {prog : Program} {w : World} {A : Around} {E : Value → Shared → Prop} {s : Shared}
theorem wp_run {id : String} {d : Decoder} {errors : Option Str} {b : Array UInt8} {nx : Nat → List Nat × Nat} {Q : Array Nat × Nat → Shared → Prop} (hb : b.size ≤ 100000)
    (hnx : ∀ p, p < b.size → p < (nx p).2 ∧ (nx p).2 ≤ b.size ∧ (nx p).1.length ≤ 1 ∧ (d.find true b p = .text (nx p).1 (nx p).2 ∨ (errors = some (Str.ofString "replace") ∧ d.own = ["ignore", "replace", "surrogateescape"] ∧ (d.name : Str).length ≤ sizeLine ∧ ∃ reason g, d.find true b p = .bad (nx p).2 reason g ∧ (nx p).1 = [65533] ∧ (reason : Str).length ≤ sizeLine)))
    (hQ : ∀ h' tk q, Below s.heap.objs.size s.heap h' → Q ((decA nx b.size b.size 0).toArray, q) { s with heap := h', toks := tk }) : wpAny (model prog w) A (runDecoder id d errors true b 0 []) Q E s := by
  unfold runDecoder
  dsimp only
  rw [Std.Legacy.Range.forIn_eq_forIn_range']
  simp only [Std.Legacy.Range.size, Nat.sub_zero, Nat.add_sub_cancel, Nat.div_one]
  refine wpAny_bind ?_
  refine wpAny_forIn_list _
    (fun rest q s' => ∃ k h' tk, rest = List.range' k (b.size - k) ∧ s' = { s with heap := h', toks := tk } ∧ Below s.heap.objs.size s.heap h' ∧ k ≤ q.1 ∧ q.1 ≤ b.size ∧ q.2.1.size ≤ q.1 ∧ k ≤ b.size ∧ FaultSt s.heap.objs.size b q.2.2 h' ∧ q.2.1.toList ++ decA nx b.size (b.size - k) q.1 = decA nx b.size b.size 0)
    _ ?_ ?_ _ _ ⟨0, s.heap, s.toks, by simp, rfl, .refl _ _, Nat.le_refl _, Nat.zero_le _, Nat.le_refl _, Nat.zero_le _, ⟨rfl, .inl ⟨rfl, rfl⟩⟩, rfl⟩
  · rintro x rest ⟨p, out, st⟩ s' ⟨k, h', tk, hr, rfl, hbel, h1, h2, h3, h4, hF, htot⟩
    dsimp only at h1 h2 h3 hF htot ⊢
    have hkl : k < b.size := by
      rcases Nat.lt_or_ge k b.size with h | h
      · exact h
      · rw [Nat.sub_eq_zero_of_le h] at hr; simp at hr
    have ek : b.size - k = (b.size - (k + 1)) + 1 := by omega
    have hrest : rest = List.range' (k + 1) (b.size - (k + 1)) := by
      rw [ek, List.range'_succ] at hr
      injection hr with _ h2
    rw [if_neg (by rw [sizeLine_eq]; omega)]
    by_cases hp : p ≥ b.size
    · rw [if_pos hp]
      have : decA nx b.size (b.size - k) p = [] := by rw [ek, decA, if_pos hp]
      rw [this, List.append_nil] at htot
      refine wpAny_pure (wpAny_pure ?_)
      have hq := hQ h' tk p hbel
      rw [← htot] at hq
      simpa using hq
    · rw [if_neg hp]
      obtain ⟨n1, n2, n3, n4⟩ := hnx p (by omega)
      have hstep : decA nx b.size (b.size - k) p = (nx p).1 ++ decA nx b.size (b.size - (k + 1)) (nx p).2 := by rw [ek, decA, if_neg (by omega)]
      rcases n4 with n4 | ⟨e1, e2, e3, reason, g, e4, e5, e6⟩
      · rw [n4]
        refine wpAny_pure ⟨k + 1, h', tk, hrest, rfl, hbel, by omega, n2, by simp; omega, by omega, hF, ?_⟩
        rw [← htot, hstep]
        simp
      · rw [e4]
        subst e1
        dsimp only
        rw [if_neg (by simp)]
        refine wpAny_bind (wpAny_rule ?_)
        refine wpAny_bind (wp_fault (s := { s with heap := h', toks := tk }) hF hbel.size n1 n2 hb e2 e3 e6 fun st' h2' tk' hF' hb' => ?_)
        refine wpAny_pure ⟨k + 1, h2', tk', hrest, rfl, hbel.trans hb', by dsimp only; omega, n2, by simp; omega, by omega, hF', ?_⟩
        rw [← htot, hstep, e5]
        simp
  · rintro ⟨p, out, st⟩ s' ⟨k, h', tk, hr, rfl, hbel, h1, h2, h3, h4, hF, htot⟩
    dsimp only at h1 h2 h3 hF htot ⊢
    have hk : b.size - k = 0 := by
      rcases Nat.eq_zero_or_pos (b.size - k) with h | h
      · exact h
      · obtain ⟨n, hn⟩ : ∃ n, b.size - k = n + 1 := ⟨b.size - k - 1, by omega⟩
        rw [hn, List.range'_succ] at hr; cases hr
    rw [hk, decA, List.append_nil] at htot
    refine wpAny_pure ?_
    have hq := hQ h' tk p hbel
    rw [← htot] at hq
    simpa using hq
end
end
end Mine
end
section
open PySem PySem.W PySem.Calls PyProof.Rows
open PySem.Builtin
open PySem.Builtin._codecs (Faults decodeFault Decoder runDecoder Found)
set_option Elab.async false
set_option maxRecDepth 100000
set_option linter.all false
namespace Mine
noncomputable section
variable {id : String} {b : Array UInt8} {c : UInt8} {cs : List UInt8} {t t1 t2 : Tok}
theorem road_utf8 : _codecs.decodeRoad id b (Str.ofString "utf-8") (some (Str.ofString "replace")) [] = (runDecoder id _codecs.utf8Decoder (some (Str.ofString "replace")) true b 0 [] >>= fun r => mkStr ⟨r.1⟩) := by kernel_rfl
theorem road_ascii : _codecs.decodeRoad id b (Str.ofString "ascii") (some (Str.ofString "replace")) [] = (runDecoder id _codecs.asciiDecoder (some (Str.ofString "replace")) true b 0 [] >>= fun r => mkStr ⟨r.1⟩) := by kernel_rfl
theorem road_latin : _codecs.decodeRoad id b (Str.ofString "iso-8859-1") none [] = (runDecoder id _codecs.latin1Decoder none true b 0 [] >>= fun r => mkStr ⟨r.1⟩) := by kernel_rfl
theorem entry_utf8 : «bytes.decode» ⟨[.bytes (c :: cs).toArray t, .str (Str.ofString "utf-8") t1, .str (Str.ofString "replace") t2], []⟩ = (mkStr (Str.ofString "utf-8") >>= fun _ => mkStr (Str.ofString "utf-8") >>= fun e => mkStr (Str.ofString "replace") >>= fun r => mkStr (Str.ofString "bytes.decode") >>= fun d =>
    call (.builtin "_codecs.decode.text") [.bytes (c :: cs).toArray t, e, r, d] >>= fun v => ret v) := by kernel_rfl
theorem entry_ascii : «bytes.decode» ⟨[.bytes (c :: cs).toArray t, .str (Str.ofString "ascii") t1, .str (Str.ofString "replace") t2], []⟩ = (mkStr (Str.ofString "utf-8") >>= fun _ => mkStr (Str.ofString "ascii") >>= fun e => mkStr (Str.ofString "replace") >>= fun r => mkStr (Str.ofString "bytes.decode") >>= fun d =>
    call (.builtin "_codecs.decode.text") [.bytes (c :: cs).toArray t, e, r, d] >>= fun v => ret v) := by kernel_rfl
theorem entry_latin : «bytes.decode» ⟨[.bytes (c :: cs).toArray t, .str (Str.ofString "iso-8859-1") t1], []⟩ = (mkStr (Str.ofString "utf-8") >>= fun _ => mkStr (Str.ofString "iso-8859-1") >>= fun e => mkStr (Str.ofString "bytes.decode") >>= fun d =>
    call (.builtin "_codecs.decode.text") [.bytes (c :: cs).toArray t, e, .none, d] >>= fun v => ret v) := by kernel_rfl
theorem entry_none2 (x y : Str) (h : (x = Str.ofString "utf-8" ∨ x = Str.ofString "ascii") ∧ y = Str.ofString "replace") : «bytes.decode» ⟨[.bytes #[] t, .str x t1, .str y t2], []⟩ = (rule "bytes.decode.empty" >>= fun _ => retStr Str.empty) := by
  obtain ⟨rfl | rfl, rfl⟩ := h <;> kernel_rfl
theorem entry_none1 : «bytes.decode» ⟨[.bytes #[] t, .str (Str.ofString "iso-8859-1") t1], []⟩ = (rule "bytes.decode.empty" >>= fun _ => retStr Str.empty) := by kernel_rfl
end
end Mine
end
section
open PySem PySem.W PySem.Calls PyProof.Rows
open PySem.Builtin
open PySem.Builtin._codecs (Faults decodeFault Decoder runDecoder Found)
set_option Elab.async false
set_option maxRecDepth 100000
set_option linter.all false
namespace Mine
noncomputable section
def nxL (b : Array UInt8) (p : Nat) : List Nat × Nat := ([(b.getD p 0).toNat], p + 1)
def nxA (b : Array UInt8) (p : Nat) : List Nat × Nat := if (b.getD p 0).toNat < 128 then ([(b.getD p 0).toNat], p + 1) else ([65533], p + 1)
def nxU (b : Array UInt8) (p : Nat) : List Nat × Nat := match Bytes.utf8At b p with
  | (.char c, nxt) => ([c], nxt)
  | (.bad _ stop _, _) => ([65533], stop)
def decU (bs : List UInt8) : List Nat := decA (nxU bs.toArray) bs.length bs.length 0
def decL (bs : List UInt8) : List Nat := decA (nxL bs.toArray) bs.length bs.length 0
def decI (bs : List UInt8) : List Nat := decA (nxA bs.toArray) bs.length bs.length 0

theorem args_dec_2 (a b : Value) : argsOk "bytes.decode" ⟨[a, b], []⟩ := by unfold argsOk; kernel_rfl
theorem args_dec_3 (a b c : Value) : argsOk "bytes.decode" ⟨[a, b, c], []⟩ := by unfold argsOk; kernel_rfl

theorem decA_len {nx : Nat → List Nat × Nat} {size : Nat} (h : ∀ p, (nx p).1.length ≤ 1) : ∀ f p, (decA nx size f p).length ≤ f
  | 0, p => by simp [decA]
  | f + 1, p => by
    rw [decA]
    split
    · simp
    · rw [List.length_append]; have := decA_len (size := size) h f (nx p).2; have := h p; omega
theorem nxL_len (b p) : (nxL b p).1.length ≤ 1 := by unfold nxL; simp
theorem nxA_len (b p) : (nxA b p).1.length ≤ 1 := by unfold nxA; split <;> simp
theorem nxU_len (b p) : (nxU b p).1.length ≤ 1 := by unfold nxU; split <;> simp

def goodE (size p : Nat) : Except (Nat × String) Nat → Prop
  | .ok _ => True
  | .error (stop, reason) => p < stop ∧ stop ≤ size ∧ (Str.ofString reason).length ≤ sizeLine
theorem fold_good {size p : Nat} (f : Except (Nat × String) Nat → Nat → Except (Nat × String) Nat) (hf : ∀ acc k, 1 ≤ k → goodE size p acc → goodE size p (f acc k) ∧ (∀ v, f acc k = .ok v → (∃ u, acc = .ok u) ∧ p + k < size)) :
    ∀ (l : List Nat) (acc : Except (Nat × String) Nat), (∀ k ∈ l, 1 ≤ k) → goodE size p acc → goodE size p (l.foldl f acc) ∧ (∀ v, l.foldl f acc = .ok v → (∃ u, acc = .ok u) ∧ ∀ k ∈ l, p + k < size)
  | [], acc, _, h => ⟨h, fun v hv => ⟨⟨v, hv⟩, fun _ hk => (nomatch hk)⟩⟩
  | k :: l, acc, hl, h => by
    obtain ⟨g1, g2⟩ := hf acc k (hl k (.head _)) h
    obtain ⟨i1, i2⟩ := fold_good f hf l (f acc k) (fun k' hk' => hl k' (List.mem_cons_of_mem _ hk')) g1
    refine ⟨i1, fun v hv => ?_⟩
    obtain ⟨⟨u, hu⟩, h3⟩ := i2 v hv
    obtain ⟨h4, h5⟩ := g2 u hu
    refine ⟨h4, fun k' hk' => ?_⟩
    rcases List.mem_cons.mp hk' with q | q
    · subst q; exact h5
    · exact h3 k' q

theorem utf8_shape (b : Array UInt8) (p : Nat) (hp : p < b.size) : match Bytes.utf8At b p with
    | (.char _, nxt) => p < nxt ∧ nxt ≤ b.size
    | (.bad _ stop reason, _) => p < stop ∧ stop ≤ b.size ∧ (Str.ofString reason).length ≤ sizeLine := by
  have hr1 : (Str.ofString "invalid start byte").length ≤ sizeLine := by rw [sizeLine_eq]; decide +kernel
  have hr2 : (Str.ofString "unexpected end of data").length ≤ sizeLine := by rw [sizeLine_eq]; decide +kernel
  have hr3 : (Str.ofString "invalid continuation byte").length ≤ sizeLine := by rw [sizeLine_eq]; decide +kernel
  unfold Bytes.utf8At
  dsimp only
  by_cases h1 : (b.getD p 0).toNat < 128
  · rw [if_pos h1]; dsimp only; omega
  · rw [if_neg h1]
    generalize (if (decide (194 ≤ (b.getD p 0).toNat) && decide ((b.getD p 0).toNat ≤ 223)) = true then some (1, 128, 191) else _ : Option (Nat × Nat × Nat)) = sh
    cases sh with
    | none => dsimp only; exact ⟨by omega, by omega, hr1⟩
    | some q =>
      obtain ⟨more, lo, hi⟩ := q
      dsimp only
      have key := fold_good (size := b.size) (p := p) (fun (acc : Except (Nat × String) Nat) (k : Nat) =>
          acc.bind fun v =>
            match b[p + k]? with
            | none => .error (b.size, "unexpected end of data")
            | some x =>
              if (if k == 1 then lo else 0x80) ≤ x.toNat && x.toNat ≤ (if k == 1 then hi else 0xBF) then .ok (v * 64 + x.toNat % 64)
              else .error (p + k, "invalid continuation byte")) (fun acc k hk hacc => by
        cases acc with
        | error e => exact ⟨hacc, fun v hv => by cases hv⟩
        | ok u =>
          dsimp only [Except.bind]
          cases hb : b[p + k]? with
          | none => exact ⟨⟨hp, Nat.le_refl _, hr2⟩, fun v hv => by cases hv⟩
          | some x =>
            have hlt : p + k < b.size := (Array.getElem?_eq_some_iff.mp hb).1
            dsimp only
            by_cases hc : (decide ((if k == 1 then lo else 0x80) ≤ x.toNat) && decide (x.toNat ≤ (if k == 1 then hi else 0xBF))) = true
            · rw [if_pos hc]; exact ⟨trivial, fun v hv => ⟨⟨u, rfl⟩, hlt⟩⟩
            · rw [if_neg hc]; exact ⟨⟨by omega, by omega, hr3⟩, fun v hv => by cases hv⟩) ((List.range more).map (· + 1)) (.ok ((b.getD p 0).toNat % (if more == 1 then 32 else if more == 2 then 16 else 8))) (fun k hk => by
        obtain ⟨j, _, rfl⟩ := List.mem_map.mp hk; omega) trivial
      revert key
      generalize hres : ((List.range more).map (· + 1)).foldl _ _ = res
      intro key
      obtain ⟨k1, k2⟩ := key
      cases res with
      | error e =>
        obtain ⟨stop, reason⟩ := e
        exact k1
      | ok v =>
        obtain ⟨_, k3⟩ := k2 v rfl
        dsimp only
        refine ⟨by omega, ?_⟩
        rcases Nat.eq_zero_or_pos more with h | h
        · subst h; omega
        · have := k3 more (List.mem_map.mpr ⟨more - 1, List.mem_range.mpr (by omega), by omega⟩)
          omega

section
variable {prog : Program} {w : World} {A : Around} {E : Value → Shared → Prop} {s : Shared}
theorem run_utf8 {id : String} {bs : List UInt8} {Q : Array Nat × Nat → Shared → Prop} (hb : bs.length ≤ 100000)
    (hQ : ∀ h' tk q, Below s.heap.objs.size s.heap h' → Q ((decU bs).toArray, q) { s with heap := h', toks := tk }) : wpAny (model prog w) A (runDecoder id _codecs.utf8Decoder (some (Str.ofString "replace")) true bs.toArray 0 []) Q E s := by
  refine wp_run (nx := nxU bs.toArray) (by simpa using hb) (fun p hp => ?_) (fun h' tk q hbel => ?_)
  · have hs := utf8_shape bs.toArray p hp
    have hl := nxU_len bs.toArray p
    unfold nxU at hl ⊢
    cases hu : Bytes.utf8At bs.toArray p with
    | mk pc nxt =>
      rw [hu] at hs
      cases pc with
      | char ch =>
        refine ⟨hs.1, hs.2, by simp, .inl ?_⟩
        show (match Bytes.utf8At bs.toArray p with | (.char c, nxt) => Found.char c nxt | (.bad _ stop reason, _) => _) = _
        rw [hu]; rfl
      | bad st stop reason =>
        obtain ⟨g, hg⟩ : ∃ g, _codecs.utf8Decoder.find true bs.toArray p = .bad stop reason g := by
          unfold _codecs.utf8Decoder
          dsimp only
          rw [hu]
          exact ⟨_, rfl⟩
        exact ⟨hs.1, hs.2.1, by simp, .inr ⟨rfl, rfl, by rw [sizeLine_eq]; decide +kernel, reason, g, hg, rfl, hs.2.2⟩⟩
  · have := hQ h' tk q hbel
    unfold decU at this
    simpa using this
theorem run_ascii {id : String} {bs : List UInt8} {Q : Array Nat × Nat → Shared → Prop} (hb : bs.length ≤ 100000)
    (hQ : ∀ h' tk q, Below s.heap.objs.size s.heap h' → Q ((decI bs).toArray, q) { s with heap := h', toks := tk }) : wpAny (model prog w) A (runDecoder id _codecs.asciiDecoder (some (Str.ofString "replace")) true bs.toArray 0 []) Q E s := by
  refine wp_run (nx := nxA bs.toArray) (by simpa using hb) (fun p hp => ?_) (fun h' tk q hbel => ?_)
  · unfold nxA
    by_cases hc : (bs.toArray.getD p 0).toNat < 128
    · rw [if_pos hc]
      refine ⟨by dsimp only; omega, by dsimp only; omega, by simp, .inl ?_⟩
      show (if (bs.toArray.getD p 0).toNat < 128 then Found.char _ _ else _) = _
      rw [if_pos hc]; rfl
    · rw [if_neg hc]
      refine ⟨by dsimp only; omega, by dsimp only; omega, by simp, .inr ⟨rfl, rfl, by rw [sizeLine_eq]; decide +kernel, "ordinal not in range(128)", false, ?_, rfl, by rw [sizeLine_eq]; decide +kernel⟩⟩
      show (if (bs.toArray.getD p 0).toNat < 128 then Found.char _ _ else _) = _
      rw [if_neg hc]
  · have := hQ h' tk q hbel
    unfold decI at this
    simpa using this
theorem run_latin {id : String} {bs : List UInt8} {Q : Array Nat × Nat → Shared → Prop} (hb : bs.length ≤ 100000)
    (hQ : ∀ h' tk q, Below s.heap.objs.size s.heap h' → Q ((decL bs).toArray, q) { s with heap := h', toks := tk }) : wpAny (model prog w) A (runDecoder id _codecs.latin1Decoder none true bs.toArray 0 []) Q E s := by
  refine wp_run (nx := nxL bs.toArray) (by simpa using hb) (fun p hp => ?_) (fun h' tk q hbel => ?_)
  · exact ⟨by unfold nxL; dsimp only; omega, by unfold nxL; dsimp only; omega, by unfold nxL; simp, .inl rfl⟩
  · have := hQ h' tk q hbel
    unfold decL at this
    simpa using this

theorem meets_text {bs : List UInt8} {enc : Str} {er : Option Str} {ev : Value} {t t1 t2 : Tok} {ds : List UInt8 → List Nat} (hev : (er = none ∧ ev = .none) ∨ ∃ e u, er = some e ∧ ev = .str e u)
    (hb : bs.length ≤ 100000) (hds : (ds bs).length ≤ 100000)
    (road : ∀ {prog : Program} {w : World} {A : Around} {E : Value → Shared → Prop} {s : Shared} {Q : Value → Shared → Prop}, (∀ h' tk, Below s.heap.objs.size s.heap h' → ∀ t', Q (.str (mkS (ds bs)) t') { s with heap := h', toks := tk }) → wpAny (model prog w) A (_codecs.decodeRoad "bytes.decode" bs.toArray enc er []) Q E s) :
    Meets («_codecs.decode.text» ⟨[.bytes bs.toArray t, .str enc t1, ev, .str (Str.ofString "bytes.decode") t2], []⟩) (fun _ R s => ∀ h' tk, Below s.heap.objs.size s.heap h' → ∀ t', R (.ok (.ret (.str (mkS (ds bs)) t'))) { s with heap := h', toks := tk }) := by
  refine .of_wp fun prog w A R s hS => ?_
  unfold «_codecs.decode.text»
  dsimp only
  have hid : (Str.ofString "bytes.decode").toString = "bytes.decode" := by kernel_rfl
  rcases hev with ⟨rfl, rfl⟩ | ⟨e, u, rfl, rfl⟩
  · refine wpAny_bind (wpAny_pure ?_)
    refine wpAny_bind (wpAny_of_eq KBd.like_eq ?_)
    refine wpAny_bind (wpAny_of_eq KBd.held_eq ?_)
    rw [hid]
    exact wpAny_bind (road fun h' tk hbel t' => wpAny_pure ⟨_, rfl, hS h' tk hbel t'⟩)
  · refine wpAny_bind (wpAny_pure ?_)
    refine wpAny_bind (wpAny_of_eq KBd.like_eq ?_)
    refine wpAny_bind (wpAny_of_eq KBd.held_eq ?_)
    rw [hid]
    exact wpAny_bind (road fun h' tk hbel t' => wpAny_pure ⟨_, rfl, hS h' tk hbel t'⟩)
end
end
end Mine
end
section
open PySem
namespace Mine
/-! unquote: percent signs -/
def isHex (c : Nat) : Bool := decide (c ∈ [48, 49, 50, 51, 52, 53, 54, 55, 56, 57, 65, 66, 67, 68, 69, 70, 97, 98, 99, 100, 101, 102])
def hexV (c : Nat) : Nat := if c ≤ 57 then c - 48 else if c ≤ 70 then c - 55 else c - 87
def octs : Tx → List UInt8
  | [] => []
  | 37 :: a :: b :: r => if isHex a && isHex b then (hexV a * 16 + hexV b).toUInt8 :: octs r else (37 : Nat).toUInt8 :: octs (a :: b :: r)
  | c :: r => c.toUInt8 :: octs r
termination_by l => l.length
theorem octs_nil : octs [] = [] := by rw [octs]
theorem octs_hex {a b : Nat} {r : Tx} (ha : isHex a = true) (hb : isHex b = true) : octs (37 :: a :: b :: r) = (hexV a * 16 + hexV b).toUInt8 :: octs r := by
  rw [octs, ha, hb]; rfl
theorem octs_other {c : Nat} {r : Tx} (h : ¬ (c = 37 ∧ ∃ a b t, r = a :: b :: t ∧ isHex a = true ∧ isHex b = true)) : octs (c :: r) = c.toUInt8 :: octs r := by
  by_cases hc : c = 37
  · subst hc
    match r with
    | [] => (conv => lhs; unfold octs); rfl
    | [a] => (conv => lhs; unfold octs); rfl
    | a :: b :: t =>
      (conv => lhs; unfold octs)
      show (if (isHex a && isHex b) = true then _ else _) = _
      have : (isHex a && isHex b) = false := by
        rw [Bool.eq_false_iff]; intro q; rw [Bool.and_eq_true] at q
        exact h ⟨rfl, a, b, t, rfl, q.1, q.2⟩
      rw [this]; rfl
  · (conv => lhs; unfold octs)
    split
    · rename_i e; cases e
    · rename_i e; cases e; exact absurd rfl hc
    · rename_i e; cases e; rfl
theorem octs_len : ∀ (l : Tx), (octs l).length ≤ l.length := by
  intro l
  induction l using octs.induct with
  | case1 => simp [octs]
  | case2 a b r h ih => rw [Bool.and_eq_true] at h; rw [octs_hex h.1 h.2]; simp; omega
  | case3 a b r h ih =>
    rw [octs_other (by rintro ⟨_, a', b', t, e, h1, h2⟩; cases e; exact h (by rw [h1, h2]; rfl))]; simp at ih ⊢; omega
  | case4 c r hne ih =>
    rw [octs_other (by rintro ⟨rfl, a', b', t, e, h1, h2⟩; exact hne a' b' t rfl e)]; simp; omega
def textDec (enc : Tx) (bs : List UInt8) : Tx := if enc = cp "utf-8" then decU bs else if enc = cp "iso-8859-1" then decL bs else decI bs
def unquoteT (s enc : Tx) : Tx := textDec enc (octs s)
end Mine
end
section
open PySem PySem.W PySem.Calls PyProof.Rows
open PySem.Sre
set_option Elab.async false
set_option maxRecDepth 100000
set_option linter.all false
namespace Mine
noncomputable section

/-- the names that come up, with and without a mark -/
def nmBase : List (List Nat) := [[97], [102, 105, 108, 101, 45, 110, 97, 109, 101], [98]]
def nmOpt : List (List Nat) := [[107], [108, 111, 110, 103, 45, 110, 97, 109, 101], [113], [122, 33]]
def NM : List (List Nat) :=
  (nmBase.flatMap fun n => [n, n ++ [42]] ++ [48, 49, 50, 51].flatMap fun d => [n ++ [42, d], n ++ [42, d, 42]]) ++
  (nmOpt.flatMap fun n => [48, 49, 50, 51, 52, 53, 54, 55].flatMap fun d => [n ++ [d], n ++ [d, 42]])

def mkStar (pk : List Nat) : Bool := pk.getLast? == some 42
def mkB1 (pk : List Nat) : List Nat := if mkStar pk then pk.dropLast else pk
def mkCont (pk : List Nat) : Bool := match (mkB1 pk).reverse with
  | d :: 42 :: _ => decide (48 ≤ d ∧ d ≤ 57)
  | _ => false
def mkStart (pk : List Nat) : Nat := (mkB1 pk).length - (if mkCont pk then 2 else 0)
def mkBase (pk : List Nat) : List Nat := pk.take (mkStart pk)
def mkNums (pk : List Nat) : List Int := [(mkStart pk : Int), (pk.length : Int)] ++ (if mkCont pk then [(mkStart pk + 1 : Int), (mkStart pk + 2 : Int)] else [-1, -1]) ++ (if mkStar pk then [(pk.length : Int) - 1, (pk.length : Int)] else [-1, -1])

def mkCheckM (pk : List Nat) (m : M) : Bool :=
  (match m.outcome with | some .matched => true | _ => false) && (mkNums pk == (m.start : Int) :: (m.handed : Int) :: spansOf 2 m.marks m.lastmark) && !(wrongSpan 2 m.marks m.lastmark)
theorem mkCheckM_of {pk : List Nat} {m : M} (h : mkCheckM pk m = true) : m.outcome = some .matched ∧ mkNums pk = (m.start : Int) :: (m.handed : Int) :: spansOf 2 m.marks m.lastmark ∧ wrongSpan 2 m.marks m.lastmark = false := by
  unfold mkCheckM at h
  rw [Bool.and_eq_true, Bool.and_eq_true] at h
  obtain ⟨⟨h1, h2⟩, h3⟩ := h
  refine ⟨?_, by simpa using h2, by simpa using h3⟩
  split at h1
  · assumption
  · cases h1
def mkCheck (pk : List Nat) : Bool := mkCheckM pk (markRun pk)
theorem mk_0 : mkCheck [97] = true := by decide +kernel
theorem mk_1 : mkCheck [97, 42] = true := by decide +kernel
theorem mk_2 : mkCheck [97, 42, 48] = true := by decide +kernel
theorem mk_3 : mkCheck [97, 42, 48, 42] = true := by decide +kernel
theorem mk_4 : mkCheck [97, 42, 49] = true := by decide +kernel
theorem mk_5 : mkCheck [97, 42, 49, 42] = true := by decide +kernel
theorem mk_6 : mkCheck [97, 42, 50] = true := by decide +kernel
theorem mk_7 : mkCheck [97, 42, 50, 42] = true := by decide +kernel
theorem mk_8 : mkCheck [97, 42, 51] = true := by decide +kernel
theorem mk_9 : mkCheck [97, 42, 51, 42] = true := by decide +kernel
theorem mk_10 : mkCheck [102, 105, 108, 101, 45, 110, 97, 109, 101] = true := by decide +kernel
theorem mk_11 : mkCheck [102, 105, 108, 101, 45, 110, 97, 109, 101, 42] = true := by decide +kernel
theorem mk_12 : mkCheck [102, 105, 108, 101, 45, 110, 97, 109, 101, 42, 48] = true := by decide +kernel
theorem mk_13 : mkCheck [102, 105, 108, 101, 45, 110, 97, 109, 101, 42, 48, 42] = true := by decide +kernel
theorem mk_14 : mkCheck [102, 105, 108, 101, 45, 110, 97, 109, 101, 42, 49] = true := by decide +kernel
theorem mk_15 : mkCheck [102, 105, 108, 101, 45, 110, 97, 109, 101, 42, 49, 42] = true := by decide +kernel
theorem mk_16 : mkCheck [102, 105, 108, 101, 45, 110, 97, 109, 101, 42, 50] = true := by decide +kernel
theorem mk_17 : mkCheck [102, 105, 108, 101, 45, 110, 97, 109, 101, 42, 50, 42] = true := by decide +kernel
theorem mk_18 : mkCheck [102, 105, 108, 101, 45, 110, 97, 109, 101, 42, 51] = true := by decide +kernel
theorem mk_19 : mkCheck [102, 105, 108, 101, 45, 110, 97, 109, 101, 42, 51, 42] = true := by decide +kernel
theorem mk_20 : mkCheck [98] = true := by decide +kernel
theorem mk_21 : mkCheck [98, 42] = true := by decide +kernel
theorem mk_22 : mkCheck [98, 42, 48] = true := by decide +kernel
theorem mk_23 : mkCheck [98, 42, 48, 42] = true := by decide +kernel
theorem mk_24 : mkCheck [98, 42, 49] = true := by decide +kernel
theorem mk_25 : mkCheck [98, 42, 49, 42] = true := by decide +kernel
theorem mk_26 : mkCheck [98, 42, 50] = true := by decide +kernel
theorem mk_27 : mkCheck [98, 42, 50, 42] = true := by decide +kernel
theorem mk_28 : mkCheck [98, 42, 51] = true := by decide +kernel
theorem mk_29 : mkCheck [98, 42, 51, 42] = true := by decide +kernel
theorem mk_30 : mkCheck [107, 48] = true := by decide +kernel
theorem mk_31 : mkCheck [107, 48, 42] = true := by decide +kernel
theorem mk_32 : mkCheck [107, 49] = true := by decide +kernel
theorem mk_33 : mkCheck [107, 49, 42] = true := by decide +kernel
theorem mk_34 : mkCheck [107, 50] = true := by decide +kernel
theorem mk_35 : mkCheck [107, 50, 42] = true := by decide +kernel
theorem mk_36 : mkCheck [107, 51] = true := by decide +kernel
theorem mk_37 : mkCheck [107, 51, 42] = true := by decide +kernel
theorem mk_38 : mkCheck [107, 52] = true := by decide +kernel
theorem mk_39 : mkCheck [107, 52, 42] = true := by decide +kernel
theorem mk_40 : mkCheck [107, 53] = true := by decide +kernel
theorem mk_41 : mkCheck [107, 53, 42] = true := by decide +kernel
theorem mk_42 : mkCheck [107, 54] = true := by decide +kernel
theorem mk_43 : mkCheck [107, 54, 42] = true := by decide +kernel
theorem mk_44 : mkCheck [107, 55] = true := by decide +kernel
theorem mk_45 : mkCheck [107, 55, 42] = true := by decide +kernel
theorem mk_46 : mkCheck [108, 111, 110, 103, 45, 110, 97, 109, 101, 48] = true := by decide +kernel
theorem mk_47 : mkCheck [108, 111, 110, 103, 45, 110, 97, 109, 101, 48, 42] = true := by decide +kernel
theorem mk_48 : mkCheck [108, 111, 110, 103, 45, 110, 97, 109, 101, 49] = true := by decide +kernel
theorem mk_49 : mkCheck [108, 111, 110, 103, 45, 110, 97, 109, 101, 49, 42] = true := by decide +kernel
theorem mk_50 : mkCheck [108, 111, 110, 103, 45, 110, 97, 109, 101, 50] = true := by decide +kernel
theorem mk_51 : mkCheck [108, 111, 110, 103, 45, 110, 97, 109, 101, 50, 42] = true := by decide +kernel
theorem mk_52 : mkCheck [108, 111, 110, 103, 45, 110, 97, 109, 101, 51] = true := by decide +kernel
theorem mk_53 : mkCheck [108, 111, 110, 103, 45, 110, 97, 109, 101, 51, 42] = true := by decide +kernel
theorem mk_54 : mkCheck [108, 111, 110, 103, 45, 110, 97, 109, 101, 52] = true := by decide +kernel
theorem mk_55 : mkCheck [108, 111, 110, 103, 45, 110, 97, 109, 101, 52, 42] = true := by decide +kernel
theorem mk_56 : mkCheck [108, 111, 110, 103, 45, 110, 97, 109, 101, 53] = true := by decide +kernel
theorem mk_57 : mkCheck [108, 111, 110, 103, 45, 110, 97, 109, 101, 53, 42] = true := by decide +kernel
theorem mk_58 : mkCheck [108, 111, 110, 103, 45, 110, 97, 109, 101, 54] = true := by decide +kernel
theorem mk_59 : mkCheck [108, 111, 110, 103, 45, 110, 97, 109, 101, 54, 42] = true := by decide +kernel
theorem mk_60 : mkCheck [108, 111, 110, 103, 45, 110, 97, 109, 101, 55] = true := by decide +kernel
theorem mk_61 : mkCheck [108, 111, 110, 103, 45, 110, 97, 109, 101, 55, 42] = true := by decide +kernel
theorem mk_62 : mkCheck [113, 48] = true := by decide +kernel
theorem mk_63 : mkCheck [113, 48, 42] = true := by decide +kernel
theorem mk_64 : mkCheck [113, 49] = true := by decide +kernel
theorem mk_65 : mkCheck [113, 49, 42] = true := by decide +kernel
theorem mk_66 : mkCheck [113, 50] = true := by decide +kernel
theorem mk_67 : mkCheck [113, 50, 42] = true := by decide +kernel
theorem mk_68 : mkCheck [113, 51] = true := by decide +kernel
theorem mk_69 : mkCheck [113, 51, 42] = true := by decide +kernel
theorem mk_70 : mkCheck [113, 52] = true := by decide +kernel
theorem mk_71 : mkCheck [113, 52, 42] = true := by decide +kernel
theorem mk_72 : mkCheck [113, 53] = true := by decide +kernel
theorem mk_73 : mkCheck [113, 53, 42] = true := by decide +kernel
theorem mk_74 : mkCheck [113, 54] = true := by decide +kernel
theorem mk_75 : mkCheck [113, 54, 42] = true := by decide +kernel
theorem mk_76 : mkCheck [113, 55] = true := by decide +kernel
theorem mk_77 : mkCheck [113, 55, 42] = true := by decide +kernel
theorem mk_78 : mkCheck [122, 33, 48] = true := by decide +kernel
theorem mk_79 : mkCheck [122, 33, 48, 42] = true := by decide +kernel
theorem mk_80 : mkCheck [122, 33, 49] = true := by decide +kernel
theorem mk_81 : mkCheck [122, 33, 49, 42] = true := by decide +kernel
theorem mk_82 : mkCheck [122, 33, 50] = true := by decide +kernel
theorem mk_83 : mkCheck [122, 33, 50, 42] = true := by decide +kernel
theorem mk_84 : mkCheck [122, 33, 51] = true := by decide +kernel
theorem mk_85 : mkCheck [122, 33, 51, 42] = true := by decide +kernel
theorem mk_86 : mkCheck [122, 33, 52] = true := by decide +kernel
theorem mk_87 : mkCheck [122, 33, 52, 42] = true := by decide +kernel
theorem mk_88 : mkCheck [122, 33, 53] = true := by decide +kernel
theorem mk_89 : mkCheck [122, 33, 53, 42] = true := by decide +kernel
theorem mk_90 : mkCheck [122, 33, 54] = true := by decide +kernel
theorem mk_91 : mkCheck [122, 33, 54, 42] = true := by decide +kernel
theorem mk_92 : mkCheck [122, 33, 55] = true := by decide +kernel
theorem mk_93 : mkCheck [122, 33, 55, 42] = true := by decide +kernel
theorem NM_eq : NM = [[97], [97, 42], [97, 42, 48], [97, 42, 48, 42], [97, 42, 49], [97, 42, 49, 42], [97, 42, 50], [97, 42, 50, 42], [97, 42, 51], [97, 42, 51, 42], [102, 105, 108, 101, 45, 110, 97, 109, 101], [102, 105, 108, 101, 45, 110, 97, 109, 101, 42], [102, 105, 108, 101, 45, 110, 97, 109, 101, 42, 48], [102, 105, 108, 101, 45, 110, 97, 109, 101, 42, 48, 42], [102, 105, 108, 101, 45, 110, 97, 109, 101, 42, 49], [102, 105, 108, 101, 45, 110, 97, 109, 101, 42, 49, 42], [102, 105, 108, 101, 45, 110, 97, 109, 101, 42, 50], [102, 105, 108, 101, 45, 110, 97, 109, 101, 42, 50, 42], [102, 105, 108, 101, 45, 110, 97, 109, 101, 42, 51], [102, 105, 108, 101, 45, 110, 97, 109, 101, 42, 51, 42], [98], [98, 42], [98, 42, 48], [98, 42, 48, 42], [98, 42, 49], [98, 42, 49, 42], [98, 42, 50], [98, 42, 50, 42], [98, 42, 51], [98, 42, 51, 42], [107, 48], [107, 48, 42], [107, 49], [107, 49, 42], [107, 50], [107, 50, 42], [107, 51], [107, 51, 42], [107, 52], [107, 52, 42], [107, 53], [107, 53, 42], [107, 54], [107, 54, 42], [107, 55], [107, 55, 42], [108, 111, 110, 103, 45, 110, 97, 109, 101, 48], [108, 111, 110, 103, 45, 110, 97, 109, 101, 48, 42], [108, 111, 110, 103, 45, 110, 97, 109, 101, 49], [108, 111, 110, 103, 45, 110, 97, 109, 101, 49, 42], [108, 111, 110, 103, 45, 110, 97, 109, 101, 50], [108, 111, 110, 103, 45, 110, 97, 109, 101, 50, 42], [108, 111, 110, 103, 45, 110, 97, 109, 101, 51], [108, 111, 110, 103, 45, 110, 97, 109, 101, 51, 42], [108, 111, 110, 103, 45, 110, 97, 109, 101, 52], [108, 111, 110, 103, 45, 110, 97, 109, 101, 52, 42], [108, 111, 110, 103, 45, 110, 97, 109, 101, 53], [108, 111, 110, 103, 45, 110, 97, 109, 101, 53, 42], [108, 111, 110, 103, 45, 110, 97, 109, 101, 54], [108, 111, 110, 103, 45, 110, 97, 109, 101, 54, 42], [108, 111, 110, 103, 45, 110, 97, 109, 101, 55], [108, 111, 110, 103, 45, 110, 97, 109, 101, 55, 42], [113, 48], [113, 48, 42], [113, 49], [113, 49, 42], [113, 50], [113, 50, 42], [113, 51], [113, 51, 42], [113, 52], [113, 52, 42], [113, 53], [113, 53, 42], [113, 54], [113, 54, 42], [113, 55], [113, 55, 42], [122, 33, 48], [122, 33, 48, 42], [122, 33, 49], [122, 33, 49, 42], [122, 33, 50], [122, 33, 50, 42], [122, 33, 51], [122, 33, 51, 42], [122, 33, 52], [122, 33, 52, 42], [122, 33, 53], [122, 33, 53, 42], [122, 33, 54], [122, 33, 54, 42], [122, 33, 55], [122, 33, 55, 42]] := by decide +kernel
theorem mk_all : (NM.all mkCheck) = true := by
  rw [NM_eq]
  simp only [List.all_cons, List.all_nil, Bool.and_true, mk_0, mk_1, mk_2, mk_3, mk_4, mk_5, mk_6, mk_7, mk_8, mk_9, mk_10, mk_11, mk_12, mk_13, mk_14, mk_15, mk_16, mk_17, mk_18, mk_19, mk_20, mk_21, mk_22, mk_23, mk_24, mk_25, mk_26, mk_27, mk_28, mk_29, mk_30, mk_31, mk_32, mk_33, mk_34, mk_35, mk_36, mk_37, mk_38, mk_39, mk_40, mk_41, mk_42, mk_43, mk_44, mk_45, mk_46, mk_47, mk_48, mk_49, mk_50, mk_51, mk_52, mk_53, mk_54, mk_55, mk_56, mk_57, mk_58, mk_59, mk_60, mk_61, mk_62, mk_63, mk_64, mk_65, mk_66, mk_67, mk_68, mk_69, mk_70, mk_71, mk_72, mk_73, mk_74, mk_75, mk_76, mk_77, mk_78, mk_79, mk_80, mk_81, mk_82, mk_83, mk_84, mk_85, mk_86, mk_87, mk_88, mk_89, mk_90, mk_91, mk_92, mk_93]
theorem go_self {n : Nat} {mach : M} : Go n mach (fun m => m = M.runFor n mach) := ⟨n, Nat.le_refl _, rfl⟩
theorem res_of {mach m : M} {n : Nat} {nums : List Int} (e : m = M.runFor n mach) (hn : n ≤ 2 ^ 40) (h : m.outcome = some .matched ∧ nums = (m.start : Int) :: (m.handed : Int) :: spansOf 2 m.marks m.lastmark ∧ wrongSpan 2 m.marks m.lastmark = false) : ReRes mach 2 (some nums) := by
  subst e
  refine ⟨n, _, hn, go_self, ?_⟩
  rintro m' rfl
  exact h
theorem mk_res {pk : List Nat} (h : pk ∈ NM) : ReRes (forSearch markCode pk.toArray 2 0 pk.length false) 2 (some (mkNums pk)) :=
  res_of (m := markRun pk) (n := 400) (by unfold markRun; with_reducible rfl) (by decide) (mkCheckM_of (List.all_eq_true.mp mk_all pk h))
theorem mk_facts : ∀ pk ∈ NM, mkStart pk ≤ pk.length ∧ pk.length ≤ 20 ∧ (mkStart pk < pk.length ↔ (mkCont pk = true ∨ mkStar pk = true)) ∧ ∀ c ∈ pk, c < 128 := by decide +kernel
end
end Mine
end
section
open PySem PySem.W PySem.Calls PyProof.Rows
open PySem.Sre
set_option Elab.async false
set_option maxRecDepth 100000
set_option linter.all false
namespace Mine
noncomputable section

def chsT (pv : List Nat) : Option (List Nat × List Nat) := match pv.dropWhile (· != 39) with
  | [] => none
  | _ :: r => match r.dropWhile (· != 39) with
    | [] => none
    | _ :: c => some (pv.takeWhile (· != 39), c)
def okStar (pv : List Nat) : Prop := (∀ c ∈ pv, isK 27770 c = true) ∨ ∃ A B C, pv = A ++ 39 :: (B ++ 39 :: C) ∧ (∀ c ∈ A, isK 27770 c = true) ∧ (∀ c ∈ B, isK 27770 c = true) ∧ C ≠ [] ∧ ∀ c ∈ C, isK 27898 c = true
def chsNums (pv : List Nat) : Option (List Int) := (chsT pv).map fun p => [0, (pv.length : Int), 0, (p.1.length : Int), ((pv.length - p.2.length : Nat) : Int), (pv.length : Int)]

theorem k39 : isK 27770 39 = false := by decide +kernel
theorem ne39 {A : List Nat} (h : ∀ c ∈ A, isK 27770 c = true) : ∀ c ∈ A, (c != 39) = true := fun c hc => by
  have := h c hc
  by_cases e : c = 39
  · subst e; rw [k39] at this; cases this
  · simpa using e
theorem takeWhile_app {A : List Nat} (h : ∀ c ∈ A, (c != 39) = true) (r : List Nat) : (A ++ 39 :: r).takeWhile (· != 39) = A ∧ (A ++ 39 :: r).dropWhile (· != 39) = 39 :: r := by
  induction A with
  | nil => exact ⟨rfl, rfl⟩
  | cons a A ih =>
    obtain ⟨i1, i2⟩ := ih fun c hc => h c (by simp [hc])
    have ha := h a (by simp)
    rw [List.cons_append, List.takeWhile_cons, List.dropWhile_cons, if_pos ha, if_pos ha, i1]
    exact ⟨rfl, i2⟩
theorem chsT_some {A B C : List Nat} (hA : ∀ c ∈ A, isK 27770 c = true) (hB : ∀ c ∈ B, isK 27770 c = true) : chsT (A ++ 39 :: (B ++ 39 :: C)) = some (A, C) := by
  unfold chsT
  obtain ⟨h1, h2⟩ := takeWhile_app (ne39 hA) (B ++ 39 :: C)
  obtain ⟨h3, h4⟩ := takeWhile_app (ne39 hB) C
  rw [h1, h2]
  dsimp only
  rw [h4]
theorem chsT_none {pv : List Nat} (h : ∀ c ∈ pv, isK 27770 c = true) : chsT pv = none := by
  unfold chsT
  have : pv.dropWhile (· != 39) = [] := by
    have hn := ne39 h
    clear h
    induction pv with
    | nil => rfl
    | cons a r ih => rw [List.dropWhile_cons, if_pos (hn a (by simp))]; exact ih fun c hc => hn c (by simp [hc])
  rw [this]

theorem getL (l : List Nat) (j : Nat) (h : j < l.length) : l.toArray.getD j 0 ∈ l := by
  rw [Array.getD_eq_getD_getElem?]; simp [h]
theorem chs_res {pv : List Nat} (hl : pv.length < 2 ^ 30) (h : okStar pv) : ReRes (forMatch chsCode pv.toArray 2 0 pv.length false false) 2 (chsNums pv) := by
  unfold chsNums
  rcases h with h | ⟨A, B, C, rfl, hA, hB, hC, hC2⟩
  · rw [chsT_none h]
    refine ReRes.not (n := 3 * pv.length + 20) (by omega) (chs_not (text := pv.toArray) (lim := pv.length) (by omega) fun j hj => h _ (getL pv j hj))
  · rw [chsT_some hA hB]
    have hd : 1 ≤ C.length := by cases C with | nil => exact absurd rfl hC | cons _ _ => simp
    have hlen : (A ++ 39 :: (B ++ 39 :: C)).length = A.length + 1 + B.length + 1 + C.length := by simp; omega
    have g1 : ∀ j, j < A.length → (A ++ 39 :: (B ++ 39 :: C)).toArray.getD j 0 = A.toArray.getD j 0 := fun j hj => by
      simp [Array.getD_eq_getD_getElem?, List.getElem?_append_left hj]
    have g2 : (A ++ 39 :: (B ++ 39 :: C)).toArray.getD A.length 0 = 39 := by simp [Array.getD_eq_getD_getElem?]
    have g3 : ∀ j, (A ++ 39 :: (B ++ 39 :: C)).toArray.getD (A.length + 1 + j) 0 = (B ++ 39 :: C).toArray.getD j 0 := fun j => by
      have : A ++ 39 :: (B ++ 39 :: C) = (A ++ [39]) ++ (B ++ 39 :: C) := by simp
      rw [this]
      simp only [Array.getD_eq_getD_getElem?, List.getElem?_toArray]
      rw [List.getElem?_append_right (by simp)]
      simp
    have g4 : ∀ j, j < B.length → (B ++ 39 :: C).toArray.getD j 0 = B.toArray.getD j 0 := fun j hj => by
      simp [Array.getD_eq_getD_getElem?, List.getElem?_append_left hj]
    have g5 : (B ++ 39 :: C).toArray.getD B.length 0 = 39 := by simp [Array.getD_eq_getD_getElem?]
    have g6 : ∀ j, (B ++ 39 :: C).toArray.getD (B.length + 1 + j) 0 = C.toArray.getD j 0 := fun j => by
      have : B ++ 39 :: C = (B ++ [39]) ++ C := by simp
      rw [this]
      simp only [Array.getD_eq_getD_getElem?, List.getElem?_toArray]
      rw [List.getElem?_append_right (by simp)]
      simp
    have := ReRes.found (groups := 2) (n := 20) (by decide) (chs_found (text := (A ++ 39 :: (B ++ 39 :: C)).toArray) (lim := (A ++ 39 :: (B ++ 39 :: C)).length) (a := A.length) (b := B.length) (d := C.length) (by omega) (by omega) hd
      (fun j hj => by rw [g1 j hj]; exact hA _ (getL A j hj)) g2 (fun j hj => by rw [g3, g4 j hj]; exact hB _ (getL B j hj)) (by rw [g3, g5]) (fun j hj => by rw [show A.length + 1 + B.length + 1 + j = A.length + 1 + (B.length + 1 + j) from by omega, g3, g6]; exact hC2 _ (getL C j hj)))
      (by unfold wrongSpan; simp [List.range_succ]; omega)
    have e : (A ++ 39 :: (B ++ 39 :: C)).length - C.length = A.length + 1 + B.length + 1 := by omega
    show ReRes _ 2 (some [0, _, 0, _, _, _])
    dsimp only
    rw [e]
    exact this
end
end Mine
end
section
open PySem PySem.W PySem.Calls PyProof.Rows
set_option Elab.async false
set_option maxRecDepth 100000
set_option linter.all false
namespace Mine
noncomputable section
/-- a contract, called with one positional and one keyword argument -/
def CtK (c : Wd) (f : Addr) (kwn : Str) (lvl : Nat) (v1 v2 : V) (Pre : Heap → Prop) (R : Nat → Value → Heap → Prop) : Prop :=
  ∀ (A : Around) (s : Shared) (u1 u2 : Value), A.handled = none → A.depth + 10 * lvl + 10 < recursionLimit → A.units + 100 * lvl + 100 < cLine → Ok c s → 0 < s.toks → v1.rep u1 → v2.rep u2 → Pre s.heap →
    wpAny (Md c) A (call (.ref f) [u1] [(kwn, u2)]) (fun v s' => Ext c s s' ∧ R s.heap.objs.size v s'.heap) nE s

theorem Fn.ctK {c : Wd} {f cd : Addr} {ns : List Str} {v1 v2 : V} (F : Fn c f cd ns 2) (kwn : Str) {lvl : Nat} {Pre : Heap → Prop} {R : Nat → Value → Heap → Prop}
    (hbindK : ∀ pm doc u1 u2, bindArgs (docDef (fdOf c.w.params f).name (fdOf c.w.params f).params (bodyOf c.w.params f) (fdOf c.w.params f).scope pm (.ref cd) doc) ⟨[u1], [(kwn, u2)]⟩ = pure ((ns.take 2).zip [u1, u2]))
    (hbody : ∀ d : Dyn c, d.lvl + 1 = lvl → Pre d.B → SX (F.cx d) (bodyOf c.w.params f) ([v1, v2].map some ++ List.replicate (ns.length - 2) none) [] (FQ (F.cx d) R)) (hlv : 0 < lvl := by decide) : CtK c f kwn lvl v1 v2 Pre R := by
  obtain ⟨o, doc, pm, h1, h2, h3⟩ := F.ob
  obtain ⟨oc, fs, t, h4, h5, h6⟩ := F.cod
  intro A s u1 u2 hh hdep hun hok htk hr1 hr2 hpre
  refine up ?_
  have hr : F2 V.rep [v1, v2] [u1, u2] := .cons hr1 (.cons hr2 .nil)
  have hloc : ∀ n ∈ ns, (fdOf c.w.params f).scope.names.lookup n = some .local := fun n hn => by simpa using List.all_eq_true.mp F.hns n hn
  have hcell : ∀ y ∈ (fdOf c.w.params f).scope.names, y.2 ≠ .cell := fun y hy => by simpa using List.all_eq_true.mp F.cell y hy
  refine wpAny_call (codeAny_call_def (body := bodyOf c.w.params f) (binds := (ns.take 2).zip [u1, u2]) (by omega) (hok.base.K _ _ h1) h2 hok.base.lim ⟨cd, oc, fs, t, rfl, hok.base.K _ _ h4, h5, h6⟩ rfl (.of_eq (hbindK _ _ _ _)) hcell ?_ (fun h₁ hns hkeep => ?_) F.co F.gen F.kind)
  · intro q hq'
    exact hloc _ (List.mem_of_mem_take (List.of_mem_zip hq').1)
  · let d : Dyn c := { A := A.deeper (envOf (fdOf c.w.params f).name (fdOf c.w.params f).scope s.heap.objs.size f (.ref cd)), L := s.heap.objs.size, B := s.heap, os := s.os, lvl := lvl - 1, hh := hh, hdep := (by show A.depth + 1 + 10 * (lvl - 1) + 10 < recursionLimit; omega), hun := (by show A.units + 3 + 100 * (lvl - 1) + 100 < cLine; omega), hB := hok.base, tB := hok.tabs, hL := Nat.le_refl _ }
    have S : St (F.cx d) ([v1, v2].map some ++ List.replicate (ns.length - 2) none) [] { s with heap := h₁, toks := s.toks + ((ns.take 2).zip [u1, u2]).length } := by
      refine ⟨.of hkeep, ?_, hok.bare, ⟨_, hns, locRep_start (F.cx d).hnd hr F.le⟩, ?_, (fun _ h => nomatch h), .nil, rfl, Nat.lt_of_lt_of_le htk (Nat.le_add_right _ _)⟩
      · obtain ⟨p1, e1⟩ := hok.tabs.get60
        obtain ⟨p2, e2⟩ := hok.tabs.get48
        exact hok.tabs.keep (.of hkeep) ((hkeep _ _ e1).trans e1.symm) ((hkeep _ _ e2).trans e2.symm)
      · exact Nat.le_of_lt hns.lt
    refine wpAny_mono (hbody d (by show lvl - 1 + 1 = lvl; omega) hpre _ S) (fun fl s' h => ?_) fun _ _ e => e.elim
    obtain ⟨⟨m', led', S'⟩, hR⟩ := h
    have g : ExtW c s s' ∧ R s.heap.objs.size (flowVal fl) s'.heap := ⟨⟨S'.ok, S'.keep, S'.size, S'.os⟩, hR⟩
    cases fl <;> exact g

section
variable {x : Cx} {m : Lc} {led : Ld} {Q : Flow → Shared → Prop}
theorem EX.callK {f : Addr} {n kwn : Str} {p pos kp : Pos} {e1 e2 : Expr} {v1 v2 : V} {lvl : Nat} {Pre : Heap → Prop} {R : Nat → Value → Heap → Prop}
    (hC : CtK x.c f kwn lvl v1 v2 Pre R) (hl : lvl ≤ x.lvl) (hf : EV x m led (.Name n p) (.ref f)) (hK : ∃ o fd, x.c.K.lookup f = some o ∧ o.data = .func fd) (h1 : EV x m led e1 v1) (n1 : notStar e1 = true) (h2 : EV x m led e2 v2)
    (hpre : ∀ s, St x m led s → Pre s.heap) (hm : PMono R) : EX x m led (.Call (.Name n p) [e1] [⟨some kwn, e2, kp⟩] pos) R := by
  intro s S
  obtain ⟨o, fd, hk, hd⟩ := hK
  refine wpAny_Call_Name_kw (wpAny_mono (hf s S) (fun u s₁ h => ?_) fun _ _ e => e)
  obtain ⟨E₁, r₁⟩ := h
  cases r₁
  have S₁ := S.ext E₁
  have htree : backTo pos (starEach [e1] x.env) = [(false, eval e1 x.env)] := by rw [starEach_cons n1]; rfl
  rw [htree]
  refine callWith_function_kw (o := o) (fd := fd) (evalArgs_kw (by rfl) (spliced_cons (wpAny_mono (h1 s₁ S₁) (fun u1 s₂ g1 => spliced_nil ?_) fun _ _ e => e)))
  have S₂ := S₁.ext g1.1
  refine wpAny_evalAll_cons (wpAny_bind (wpAny_mono (h2 s₂ S₂) (fun u2 s₃ g2 => wpAny_bind (wpAny_standAt (wpAny_pure (wpAny_evalAll_nil ?_)))) fun _ _ e => e))
  have S₃ := S₂.ext g2.1
  refine ⟨⟨S₃.base.K _ _ hk, hd⟩, ?_⟩
  have hdep := x.hdep
  have hun := x.hun
  exact wpAny_mono (hC x.A s₃ u1 u2 x.hh (by omega) (by omega) S₃.ok S₃.tk g1.2 g2.2 (hpre s₃ S₃)) (fun v s₄ h₄ => ⟨E₁.trans (g1.1.trans (g2.1.trans h₄.1)), hm _ _ _ _ (Nat.le_trans E₁.size (Nat.le_trans g1.1.size g2.1.size)) h₄.2⟩) fun _ _ e => e
end
end
end Mine
end
section
open PySem PySem.W PySem.Calls PyProof.Rows
set_option Elab.async false
set_option maxRecDepth 100000
set_option linter.all false
namespace Mine
noncomputable section
section
variable {x : Cx} {m : Lc} {led : Ld} {Q : Flow → Shared → Prop}

theorem hd64 {c : Wd} {h : Heap} (B : Base c h) : CodeHd h 64 60 := ⟨_, _, _, _, _, _, _, _, _, B.K _ _ rfl, rfl, rfl, rfl, rfl, rfl, rfl, rfl, rfl, by decide⟩
theorem hd52 {c : Wd} {h : Heap} (B : Base c h) : CodeHd h 52 48 := ⟨_, _, _, _, _, _, _, _, _, B.K _ _ rfl, rfl, rfl, rfl, rfl, rfl, rfl, rfl, rfl, by decide⟩

abbrev lamQ : Str := "unquote_header_value.<locals>.<lambda>"
/-- a function just made of the lambda -/
def LamAt (h : Heap) (f : Addr) (params : Arguments) (body : Expr) (scope : Scope) : Prop :=
  ∃ c' pm, h.get? f = some { cls := .type "function", data := .func (kla_fn "<lambda>" lamQ params body scope [] pm (.ref c') .none) } ∧ CodeC h c' lamQ ∧ c' ≠ 60 ∧ c' ≠ 48

theorem wp_lamMake {params : Arguments} {body : Expr} {scope : Scope} {pos : Pos} {l : Nat} {s : Shared} (S : St x m led s) (hcode : x.env.code = .ref 64) (hcl : closureFor scope x.env = pure []) (hpos : pos.line = 39 ∧ pos.col = 31) :
    wpAny (Md x.c) x.A (makeFunction "<lambda>" lamQ params (.expr body) scope x.env [] [] [] pos l) (Post x s (fun n v h' => ∃ f, v = .ref f ∧ LamAt h' f params body scope ∧ n ≤ f)) nE s := by
  refine up ?_
  have B := S.base
  obtain ⟨ps, hps, hor⟩ := S.tabs.l
  obtain ⟨bm, ob, b1, b2, b3, b4, b5, b6⟩ := B.bm
  have n60 : ∀ {a : Addr} {o : Obj}, s.heap.get? a = some o → o.cls ≠ .none → a ≠ 60 := fun e hc => S.tabs.ne60 e hc
  have hgne : mainGlobals ≠ 60 := by decide
  obtain ⟨q48, e48⟩ := S.tabs.get48
  rw [makeFunction_eq]
  simp only [List.zip_nil_right, List.filterMap_nil, List.isEmpty_nil, if_true, pure_bind]
  unfold makeTail
  rw [hcl, x.hg]
  refine wpAny_bind (wpAny_pure ?_)
  simp only [List.isEmpty_nil, if_true]
  refine wpAny_bind (wpAny_pure ?_)
  rcases hor with rfl | ⟨c0, rfl, h1, h2, hC⟩
  · refine wpAny_bind (wpAny_functionCodeX hcode ((hd64 B).code hps trivial) ((hd64 B).tab hps) rfl fun c' h' tk hx hge hlt _ hrec htb hnew => ?_)
    have hg' := B.g.extBut hx hgne
    refine wpAny_bind (wpAny_builtinsFor hg' b1 b2 (hx _ _ (n60 b3 (by rw [b4]; nofun)) b3) b4 b5 b6 ?_)
    refine wpAny_bind (wpAny_nsGet hg' ?_)
    refine wpAny_bind (wpAny_pure (wpAny_newObj_type ?_ (by size_fits)))
    have kp : Keep s.heap h' := fun b o h1 h2 e => hx b o h1 e
    have e48' : h'.get? 48 = some (tabObj q48) := hx _ _ (by decide) e48
    have lt60 := Heap.lt_size hps
    have lt48 := Heap.lt_size e48
    have c60 : c' ≠ 60 := Nat.ne_of_gt (Nat.lt_of_lt_of_le lt60 hge)
    have c48 : c' ≠ 48 := Nat.ne_of_gt (Nat.lt_of_lt_of_le lt48 hge)
    have hCC : CodeC h' c' lamQ := by
      obtain ⟨c1, o1, vs1, t1, q1, q2, q3, q4⟩ := hrec
      cases q1
      obtain ⟨P', _, _, ⟨⟨o2, vs2, r1, r2, _⟩, _⟩⟩ := hnew
      rw [q2] at r1; cases r1
      exact ⟨o1, vs1, t1, q2, r2, q3, q4⟩
    have T' : Tabs h' := by
      refine ⟨⟨_, htb.2, .inr ⟨c', ?_, c60, c48, hCC⟩⟩, S.tabs.g.keep kp (e48'.trans e48.symm)⟩
      rw [hpos.1, hpos.2]; rfl
    have W : ExtW x.c s { s with heap := h', toks := tk } := ⟨⟨B.keep S.tabs kp, T', S.bare⟩, kp, Nat.le_trans hge (Nat.le_of_lt hlt), rfl⟩
    refine ⟨W.push _, _, rfl, ⟨c', _, Heap.get?_push_size _ rfl, hCC.get (let ⟨_, _, _, e, _⟩ := hCC; get_push_eq _ e), c60, c48⟩, Nat.le_trans hge (Nat.le_of_lt hlt)⟩
  · have hf : codeAmong pos (#[rawInt 39, rawInt 31, Value.ref c0] : Array Value).toList = some (.ref c0) := by
      show (if (39 == (pos.line : Int) && 31 == (pos.col : Int)) = true then some (Value.ref c0) else _) = _
      rw [hpos.1, hpos.2]; rfl
    refine wpAny_bind (wpAny_functionCode_hit hcode ((hd64 B).code hps trivial) hf ?_)
    refine wpAny_bind (wpAny_builtinsFor B.g b1 b2 b3 b4 b5 b6 ?_)
    refine wpAny_bind (wpAny_nsGet B.g ?_)
    refine wpAny_bind (wpAny_pure (wpAny_newObj_type ?_ (by size_fits)))
    exact ⟨(ExtW.refl S.ok).push _, _, rfl, ⟨c0, _, Heap.get?_push_size _ rfl, hC.get (let ⟨_, _, _, e, _⟩ := hC; get_push_eq _ e), h1, h2⟩, Nat.le_refl _⟩
end
end
end Mine
end
section
open PySem PySem.W PySem.Calls PyProof.Rows
set_option Elab.async false
set_option maxRecDepth 100000
set_option linter.all false
namespace Mine
noncomputable section
def lamOf (P : Params) : Option (Arguments × Expr × Scope × Pos) := match bodyOf P 65 with
  | .If _ [.Return (some (.Call _ (.Lambda a b s p :: _) _ _)) _] _ _ :: _ => some (a, b, s, p)
  | _ => none

section
variable {x : Cx} {m : Lc} {led : Ld}
theorem EX.or1 {a b : Expr} {pos : Pos} {l : List Nat} (ha : EV x m led a (.str l)) (hl : l ≠ []) (hsz : l.length ≤ sizeLine) : EV x m led (.BoolOp .Or [a, b] pos) (.str l) := by
  intro s S
  refine wpAny_Or2 (wpAny_mono (ha s S) (fun v s₁ h₁ => ?_) fun _ _ e => e)
  have S₁ := S.ext h₁.1
  refine wpAny_mono (truth_str hsz s₁ v S₁ h₁.2) (fun q s₂ h₂ => ?_) fun _ _ e => e
  obtain ⟨E, rfl⟩ := h₂
  have : (!l.isEmpty) = true := by cases l with | nil => exact absurd rfl hl | cons _ _ => rfl
  rw [this, if_pos rfl]
  exact ⟨h₁.1.trans E, h₁.2⟩
end

abbrev lamSc : Scope := { kind := ScopeKind.function, names := [(Str.ofString "_m", NameKind.local)], isGenerator := false, isCoroutine := false }
theorem MatAt.keep' {h h' : Heap} {a : Addr} {l nums} (M : MatAt h a l nums) (k : Keep h h') (T : Tabs h) : MatAt h' a l nums :=
  let ⟨b, t, p, q, r, li, n, e1, e2⟩ := M; ⟨b, t, p, q, r, li, n, k _ _ (T.ne60 e1 nofun) (T.ne48 e1 nofun) e1, k _ _ (T.ne60 e2 nofun) (T.ne48 e2 nofun) e2⟩

theorem lam_call {c : Wd} {params : Arguments} {body : Expr} {scope : Scope} {pos : Pos} (hlam : lamOf c.w.params = some (params, body, scope, pos)) {A : Around} {s : Shared} {f ma : Addr} {l : List Nat} {st en : Nat} {nums : List Int} (ok : Ok c s) (htk : 0 < s.toks) (hh : A.handled = none) (hdep : A.depth + 20 < recursionLimit) (hun : A.units + 200 < cLine)
    (hL : LamAt s.heap f params body scope) (hM : MatAt s.heap ma l nums) (hn : nums.length = 4) (h2 : nums[2]? = some (st : Int)) (h3 : nums[3]? = some (en : Int)) (hne : cutL l st en ≠ []) (hsz : l.length ≤ 100000) :
    wpAny (Md c) A (call (.ref f) [.ref ma]) (fun v s' => Ext c s s' ∧ (V.str (cutL l st en)).rep v) nE s := by
  have e : lamOf c.w.params = some (_, _, _, _) := rfl
  rw [e] at hlam
  cases hlam
  clear e
  obtain ⟨c', pm, hf, hC, hc60, hc48⟩ := hL
  refine up ?_
  refine wpAny_call (kla_callFunE (by omega) hf rfl rfl rfl rfl hC.rec ?_)
  refine wpAny_of_eq (a := [((Str.ofString "_m" : Str), (Value.ref ma : Value))]) rfl ?_
  refine wpAny_newFunctionEnv (scope := lamSc) (fun y hy => by simp [lamSc] at hy; subst hy; simp) (fun y hy => by simp at hy; subst hy; rfl) (fun h₁ hns hsb => ⟨ok.base.lim.fresh _ hsb, ?_⟩) rfl
  refine kla_codeExpr ?_
  have hkeep : ∀ b o, s.heap.get? b = some o → h₁.get? b = some o := fun b o e => hsb.extBut b o (Nat.ne_of_lt (Heap.lt_size e)) (Heap.get?_push_of_some _ e)
  let x : Cx := { c := c, A := A.deeper (newEnv lamSc s.heap.objs.size mainGlobals [] (lamQ ++ ".<locals>.") (some f) (.ref c') none builtinsNs), env := newEnv lamSc s.heap.objs.size mainGlobals [] (lamQ ++ ".<locals>.") (some f) (.ref c') none builtinsNs, B := s.heap, ns := ["_m"], os := s.os, lvl := 0, hh := hh, hdep := (by show A.depth + 1 + 10 * 0 + 10 < recursionLimit; omega), hun := (by show A.units + 3 + 100 * 0 + 100 < cLine; omega), hk := rfl, hg := rfl, hb := rfl, hns := (fun i n e => by
      match i with
      | 0 => cases e; rfl
      | i + 1 => simp at e), hnd := (by simp), hB := ok.base, tB := ok.tabs, hL := Nat.le_refl _ }
  have S : St x [some (.ref ma)] [] { s with heap := h₁, toks := s.toks + 1 } := by
    refine ⟨.of hkeep, ?_, ok.bare, ⟨_, hns, locRep_start (ns := ["_m"]) (vs := [.ref ma]) (us := [.ref ma]) (by simp) (.cons rfl .nil) (Nat.le_refl _)⟩, ?_, (fun _ h => nomatch h), .nil, rfl, Nat.succ_pos _⟩
    · obtain ⟨p1, e1⟩ := ok.tabs.get60
      obtain ⟨p2, e2⟩ := ok.tabs.get48
      exact ok.tabs.keep (.of hkeep) ((hkeep _ _ e1).trans e1.symm) ((hkeep _ _ e2).trans e2.symm)
    · exact Nat.le_of_lt hns.lt
  have hg : grpV l nums 1 = .str (cutL l st en) := by
    unfold grpV; rw [h2, h3]; dsimp only; rw [if_neg (by omega)]
  have e0 : cp "" = [] := by decide +kernel
  have hlen : (cutL l st en).length ≤ 100000 := by unfold cutL; rw [List.length_drop, List.length_take]; omega
  have fin : ∀ e, EV x [some (.ref ma)] [] e (.str (cp "" ++ cutL l st en)) → wpAny (Md c) x.A (eval e x.env) (fun v s' => ExtW c s s' ∧ (V.str (cutL l st en)).rep v) nE { s with heap := h₁, toks := s.toks + 1 } := by
    intro e hE
    refine wpAny_mono (hE _ S) (fun v s' h => ?_) fun _ _ e => e
    have S' := S.ext h.1
    rw [e0, List.nil_append] at h
    exact ⟨⟨S'.ok, S'.keep, S'.size, S'.os⟩, h.2⟩
  refine wpAny_mono (fin _ ?_) (fun v s' h => h) fun _ _ e => e.elim
  refine .bin .str (EX.or1 ?_ hne (by rw [sizeLine_eq]; omega)) (bin_add_str (by rw [e0, sizeLine_eq]; simp; omega))
  rw [← hg]
  exact EX.mGroup (x := x) (g := 1) (.name 0 rfl rfl) .int rfl (fun s' S' => hM.keep' S'.keep ok.tabs) (by omega) (by rw [sizeLine_eq]; omega)
end
end Mine
end
section
open PySem PySem.W PySem.Calls PyProof.Rows
set_option Elab.async false
set_option maxRecDepth 100000
set_option linter.all false
namespace Mine
noncomputable section

def joinT (sep : List Nat) : List (List Nat) → List Nat
  | [] => []
  | x :: rest => rest.foldl (fun acc p => acc ++ sep ++ p) x
theorem joinT_snoc (sep : List Nat) (ls : List (List Nat)) (y : List Nat) (h : ls ≠ []) : joinT sep (ls ++ [y]) = joinT sep ls ++ sep ++ y := by
  cases ls with
  | nil => exact absurd rfl h
  | cons a l => simp [joinT]
theorem foldl_nilsep : ∀ (ls : List (List Nat)) (x : List Nat), ls.foldl (fun acc p => acc ++ [] ++ p) x = x ++ ls.flatten
  | [], x => by simp
  | a :: l, x => by rw [List.foldl_cons, foldl_nilsep l]; simp
theorem joinT_nil (ls : List (List Nat)) : joinT [] ls = ls.flatten := by
  cases ls with
  | nil => rfl
  | cons a l => rw [joinT, foldl_nilsep]; rfl

theorem txtJoin_eq (sep : List Nat) (ls : List (List Nat)) : Txt.join (mkS sep) (ls.map mkS) = mkS (joinT sep ls) := by
  cases ls with
  | nil => rfl
  | cons a l =>
    have : ∀ (l : List (List Nat)) (x : List Nat), (l.map mkS).foldl (fun acc p => acc ++ (mkS sep).cps ++ p.cps) x.toArray = (l.foldl (fun acc p => acc ++ sep ++ p) x).toArray := by
      intro l
      induction l with
      | nil => intro x; rfl
      | cons b l ih => intro x; rw [List.map_cons, List.foldl_cons, List.foldl_cons, ← ih]; simp
    show (⟨_⟩ : Str) = ⟨_⟩
    exact congrArg Str.mk (this l a)

theorem foldl_total (k : Nat) : ∀ (ls : List (List Nat)) (n : Nat), (ls.map mkS).foldl (fun a p => a + p.length + k) n = n + (ls.map (·.length)).sum + ls.length * k
  | [], n => by simp
  | a :: l, n => by
    rw [List.map_cons, List.foldl_cons, foldl_total k l, mkS_length]
    simp only [List.map_cons, List.sum_cons, List.length_cons, Nat.succ_mul]
    omega

theorem strList {ls : List (List Nat)} : ∀ {us : List Value}, F2 V.rep (ls.map .str) us → ∃ l : List (Str × Tok), us = strValues l ∧ l.map (·.1) = ls.map mkS := by
  induction ls with
  | nil => intro us h; cases h; exact ⟨[], rfl, rfl⟩
  | cons a ls ih =>
    intro us h
    cases h with
    | cons h1 h2 =>
      obtain ⟨l, rfl, e⟩ := ih h2
      obtain ⟨t, rfl⟩ := h1
      exact ⟨(mkS a, t) :: l, rfl, by rw [List.map_cons, e]; rfl⟩

section
variable {A : Around} {c : Wd} {s : Shared} {E : Value → Shared → Prop}
theorem wp_join {sep : List Nat} {t : Tok} {a : Addr} {ls : List (List Nat)} (ok : Ok c s) (L : ListAt s.heap a (ls.map .str)) (hsz : (ls.map (·.length)).sum + ls.length * sep.length ≤ sizeLine) {R : Value → Shared → Prop}
    (hQ : ∀ v k, (V.str (joinT sep ls)).rep v → R v { s with toks := k }) : wpAny (Md c) A (call (.builtin "str.join") [.str (mkS sep) t, .ref a]) R E s := by
  obtain ⟨vs, n, e, r⟩ := L
  obtain ⟨l, hv, hl⟩ := strList r
  refine SC.join (l := l) (texts := ls.map mkS) ⟨_, e, rfl, n, by rw [← hv]⟩ hl ?_ fun t' k => ?_
  · unfold JoinOk
    rw [Bool.not_eq_true']
    refine tooLong_of ?_
    rw [List.foldl_toArray]
    have := foldl_total (mkS sep).length ls 0
    rw [this, mkS_length]
    omega
  · rw [txtJoin_eq]
    exact hQ _ _ ⟨t', rfl⟩
end

section
variable {x : Cx} {m : Lc} {led : Ld}
theorem EX.join {o e : Expr} {apos pos : Pos} {sep : List Nat} {a : Addr} {ls : List (List Nat)} (ho : EV x m led o (.str sep)) (he : EV x m led e (.ref a)) (hs : notStar e = true) (hL : ∀ s, St x m led s → ListAt s.heap a (ls.map .str)) (hsz : (ls.map (·.length)).sum + ls.length * sep.length ≤ sizeLine)
    (hbase : attributeBase o "join" x.env (eval o x.env) = eval o x.env := by rfl) (hline : (apos.endLine == pos.line) = true := by rfl) : EV x m led (.Call (.Attribute o "join" apos) [e] [] pos) (.str (joinT sep ls)) := by
  refine .meth mth_join ho (.cons he .nil hs) isV_mono strT ?_ hbase hline
  rintro s _ _ S ⟨t, rfl⟩ (_ | ⟨e1, _ | _⟩)
  cases e1
  exact up (wp_join S.ok (hL s S) hsz fun v k h => ⟨ExtW.selfT S _, h⟩)
end
end
end Mine
end
section
open PySem PySem.W PySem.Calls PyProof.Rows
open PySem.Builtin.Re
set_option Elab.async false
set_option maxRecDepth 100000
set_option linter.all false
namespace Mine
noncomputable section

def unslT : List Nat → List Nat
  | [] => []
  | [c] => [c]
  | a :: b :: r => if a = 92 then b :: unslT r else a :: unslT (b :: r)
theorem unslT_cons {a : Nat} (h : a ≠ 92) (r : List Nat) : unslT (a :: r) = a :: unslT r := by
  cases r with
  | nil => rfl
  | cons b r => rw [unslT, if_neg h]
theorem unslT_esc (b : Nat) (r : List Nat) : unslT (92 :: b :: r) = b :: unslT r := by rw [unslT, if_pos rfl]
theorem unslT_pre : ∀ (pre w : List Nat), (∀ c ∈ pre, c ≠ 92) → unslT (pre ++ w) = pre ++ unslT w
  | [], w, _ => rfl
  | a :: pre, w, h => by
    rw [List.cons_append, unslT_cons (h a (by simp)), unslT_pre pre w (fun c hc => h c (by simp [hc]))]
    rfl
theorem unslT_len : ∀ (w : List Nat), (unslT w).length ≤ w.length
  | [] => Nat.le_refl _
  | [c] => Nat.le_refl _
  | a :: b :: r => by
    rw [unslT]
    split
    · have := unslT_len r
      simp only [List.length_cons]; omega
    · have := unslT_len (b :: r)
      simp only [List.length_cons] at this ⊢; omega

theorem ExtW.updNew {c : Wd} {s0 s : Shared} {L : Addr} {o : Obj} {h' : Heap} (ok0 : Ok c s0) (E : ExtW c s0 s) (hL : s0.heap.objs.size ≤ L) (ho : s.heap.get? L = some o) (h1 : o.cls ≠ .type "code") (hs : Heap.SameBut L s.heap h') (tk : Nat) : ExtW c s0 { s with heap := h', toks := tk } := by
  have neB : ∀ {b o}, s0.heap.get? b = some o → b ≠ L := fun e q => by subst q; exact absurd (Heap.lt_size e) (Nat.not_lt.mpr hL)
  obtain ⟨p1, e1⟩ := ok0.tabs.get60
  obtain ⟨p2, e2⟩ := ok0.tabs.get48
  have k : Keep s0.heap h' := fun b o g1 g2 e => (hs.2 b (neB e)).trans (E.keep b o g1 g2 e)
  have k60 := hs.2 60 (neB e1)
  have k48 := hs.2 48 (neB e2)
  obtain ⟨⟨q1, b1, c1⟩, ⟨q2, b2, c2⟩⟩ := E.ok.tabs
  have kc : ∀ c' q, CodeC s.heap c' q → CodeC h' c' q := by
    intro c' q hc
    refine hc.get (hs.2 c' fun q => ?_)
    obtain ⟨oc, vs, t, g, g2, _⟩ := hc
    subst q
    rw [ho] at g; cases g; exact h1 g2
  exact ⟨⟨ok0.base.keep ok0.tabs k, ⟨⟨q1, k60.trans b1, c1.imp id fun ⟨c', e, h1, h2, r⟩ => ⟨c', e, h1, h2, kc _ _ r⟩⟩, ⟨q2, k48.trans b2, c2.imp id fun ⟨c', e, h1, h2, r⟩ => ⟨c', e, h1, h2, kc _ _ r⟩⟩⟩, E.ok.bare⟩, k, by rw [show h'.objs.size = _ from hs.1]; exact E.size, E.os⟩

theorem fn_callLook : typeLookup (.type "function") "__call__" = pure (some (.builtin "function.__call__")) := by rw [typeLookup_type, builtinLookup_eq_fast]; kernel_rfl

section
variable {prog : Program} {w : World} {A : Around} {E : Value → Shared → Prop} {s : Shared}
theorem wp_whole {p : Addr} {code : Array Nat} {groups : Nat} {x : Str} {t : Tok} {Q : ReTarget → Shared → Prop} (P : PatIn s.heap p code groups)
    (hQ : Q ⟨.ref p, .str x t, code, x.cps, 0, groups, 0, x.cps.size⟩ s) : wpAny (model prog w) A (reWholeTarget (.ref p) (.str x t)) Q E s := by
  obtain ⟨ca, px, fl, ho, vs, n, hc, hcode⟩ := P.ob
  unfold reWholeTarget
  refine wpAny_bind (wpAny_fieldsOf ho rfl ?_)
  refine wpAny_bind (wpAny_of_eq (textOf x t) ?_)
  dsimp only
  refine wpAny_bind (wpAny_of_eq (noColl _) ?_)
  refine wpAny_bind (wp_rawItems hc ?_)
  refine wpAny_pure ?_
  rw [code_eq hcode]
  exact hQ
theorem wp_notHeld {id : String} {x : Str} {t : Tok} {Q : Unit → Shared → Prop} (hQ : Q () s) : wpAny (model prog w) A (reNotHeld id (.str x t)) Q E s := by
  unfold reNotHeld
  refine wpAny_bind (wpAny_isInstance (T := "str") (b := false) (typeIs_str _ _ _) (by rw [isSubtype_type]; kernel_rfl) ?_)
  simp only [Bool.false_eq_true, if_false]
  exact wpAny_pure hQ
theorem wp_slice {l : List Nat} {b e : Nat} {Q : Value → Shared → Prop} (hl : l.length ≤ sizeLine) (hQ : ∀ t', Q (.str (mkS ((l.take e).drop b)) t') { s with toks := s.toks + 1 }) : wpAny (model prog w) A (reSlice (mkS l).cps 0 b e) Q E s := by
  unfold reSlice
  simp only [beq_self_eq_true, if_true]
  have hx : (⟨(mkS l).cps.extract b e⟩ : Str) = mkS ((l.take e).drop b) := by
    unfold mkS
    congr 1
    apply Array.ext'
    simp [List.extract_eq_take_drop, List.drop_take]
  rw [hx]
  refine wpAny_mkStr (hQ _) ?_
  rw [mkS_length, List.length_drop, List.length_take]; omega
end
end
end Mine
end
section
open PySem PySem.W PySem.Calls PyProof.Rows
open PySem.Builtin.Re
set_option Elab.async false
set_option maxRecDepth 100000
set_option linter.all false
set_option maxHeartbeats 4000000
namespace Mine
noncomputable section

theorem takeWhile_ne (w : List Nat) : ∀ c ∈ w.takeWhile (· != 92), c ≠ 92 := by
  induction w with
  | nil => simp
  | cons a w ih =>
    rw [List.takeWhile_cons]
    split
    · rename_i h
      intro c hc
      rcases List.mem_cons.mp hc with rfl | hc
      · simpa using h
      · exact ih c hc
    · intro c hc; cases hc

section
variable {A : Around} {c : Wd} {s : Shared} {E : Fin → Shared → Prop}
theorem ListAt.pushAt {h : Heap} {L : Addr} {xs : List V} {v : V} {v' : Value} (hl : ListAt h L xs) (r : v.rep v') : ListAt (h.update L (Obj.mapSeq (·.push v'))) L (xs ++ [v]) := by
  obtain ⟨vs, n, e, rr⟩ := hl
  refine ⟨vs.push v', (if (vs.push v').size == vs.size then n else n + 1), ?_, ?_⟩
  · have := Heap.get?_update_self (Obj.mapSeq (·.push v')) e rfl
    exact this
  · rw [Array.toList_push]; exact rr.append (.cons r .nil)
end

theorem wp_pushTo {A : Around} {c : Wd} {s0 s : Shared} {E : Value → Shared → Prop} {L : Addr} {xs : List V} {v : V} {v' : Value} {Q : Unit → Shared → Prop} (ok0 : Ok c s0) (hE : ExtW c s0 s) (hL : s0.heap.objs.size ≤ L) (hl : ListAt s.heap L xs) (r : v.rep v') (hsz : xs.length ≤ 1000000)
    (hQ : ∀ h', ExtW c s0 { s with heap := h' } → ListAt h' L (xs ++ [v]) → Heap.SameBut L s.heap h' → Q () { s with heap := h' }) : wpAny (Md c) A (updateSeq L (·.push v')) Q E s := by
  have hl' := hl
  obtain ⟨vs, n, e, rr⟩ := hl
  have hlen := rr.length
  have hvs : vs.size = xs.length := by rw [hlen]; simp
  refine wpAny_updateSeq e rfl (hQ _ (hE.updNew ok0 hL e (by simp) (Heap.SameBut.update ..) s.toks) (hl'.pushAt r) (Heap.SameBut.update ..)) ?_ ?_
  · rw [sizeLine_eq]; omega
  · rw [Array.size_push, sizeLine_eq]; omega

theorem LamAt.but {h h' : Heap} {f L : Addr} {params : Arguments} {body : Expr} {scope : Scope} {xs : List V} (x : LamAt h f params body scope) (hl : ListAt h L xs) (hs : Heap.SameBut L h h') : LamAt h' f params body scope := by
  obtain ⟨c', pm, e, hc, h1, h2⟩ := x
  obtain ⟨vs, n, e2, _⟩ := hl
  refine ⟨c', pm, (hs.2 f fun q => ?_).trans e, hc.get (hs.2 c' fun q => ?_), h1, h2⟩
  · subst q; rw [e] at e2; exact absurd (congrArg (fun o => o.map Obj.cls) e2) (by simp)
  · subst q
    obtain ⟨o, vs2, t, g, g2, _⟩ := hc
    rw [g] at e2; cases e2; simp at g2
theorem LamAt.keep {h h' : Heap} {f : Addr} {params : Arguments} {body : Expr} {scope : Scope} (x : LamAt h f params body scope) (T : Tabs h) (k : Keep h h') : LamAt h' f params body scope := by
  obtain ⟨c', pm, e, hc, h1, h2⟩ := x
  exact ⟨c', pm, k _ _ (T.ne60 e nofun) (T.ne48 e nofun) e, hc.keep h1 h2 k, h1, h2⟩

theorem unsl_drop {w : List Nat} : (w = w.takeWhile (· != 92) ∧ unslT w = w) ∨ (w = w.takeWhile (· != 92) ++ [92] ∧ unslT w = w) ∨ ∃ b r, w = w.takeWhile (· != 92) ++ 92 :: b :: r ∧ unslT w = w.takeWhile (· != 92) ++ b :: unslT r := by
  have h := (List.takeWhile_append_dropWhile (p := (· != 92)) (l := w)).symm
  have hp := takeWhile_ne w
  cases hd : w.dropWhile (· != 92) with
  | nil =>
    left
    rw [hd, List.append_nil] at h
    refine ⟨h, ?_⟩
    have := unslT_pre (w.takeWhile (· != 92)) [] hp
    rw [List.append_nil, ← h] at this
    rw [this]; simp [unslT]
  | cons a r =>
    have ha : a = 92 := by
      have := List.head_dropWhile_not (p := (· != 92)) (l := w) (by rw [hd]; simp)
      simpa [hd] using this
    subst ha
    rw [hd] at h
    cases r with
    | nil =>
      right; left
      refine ⟨h, ?_⟩
      have := unslT_pre (w.takeWhile (· != 92)) [92] hp
      rw [← h] at this
      rw [this]; simp only [unslT]; exact h.symm
    | cons b r =>
      right; right
      refine ⟨b, r, h, ?_⟩
      have := unslT_pre (w.takeWhile (· != 92)) (92 :: b :: r) hp
      rw [← h, unslT_esc] at this
      exact this

theorem wp_optSlice {c : Wd} {A : Around} {s0 s : Shared} {params : Arguments} {body : Expr} {scope : Scope} {l : List Nat} {f L : Addr} {ps : List (List Nat)} {p b : Nat} {cnd : Prop} [Decidable cnd] {Y : Sem Fin} {Q : Fin → Shared → Prop} {E : Value → Shared → Prop}
    (hc : cnd ↔ p < b) (ok0 : Ok c s0) (hE : ExtW c s0 s) (htk : 0 < s.toks) (hLL : s0.heap.objs.size ≤ L) (hF : LamAt s.heap f params body scope) (hL : ListAt s.heap L (ps.map .str)) (hsz : l.length ≤ 100000) (hps : ps.length ≤ 500000)
    (h : ∀ (s1 : Shared) (ps1 : List (List Nat)), ExtW c s0 s1 → 0 < s1.toks → LamAt s1.heap f params body scope → ListAt s1.heap L (ps1.map .str) → ps1.flatten = ps.flatten ++ (l.take b).drop p → ps1.length ≤ ps.length + 1 → (ps1.map (·.length)).sum ≤ (ps.map (·.length)).sum + (b - p) → wpAny (Md c) A Y Q E s1) :
    wpAny (Md c) A (if cnd then (reSlice (mkS l).cps 0 p b >>= fun d => updateSeq L (·.push d) >>= fun _ => Y) else Y) Q E s := by
  by_cases hcn : cnd
  · rw [if_pos hcn]
    refine wpAny_bind (wp_slice (by rw [sizeLine_eq]; omega) fun t' => ?_)
    refine wpAny_bind (wp_pushTo (v := .str ((l.take b).drop p)) ok0 (hE.toks _) hLL hL ⟨t', rfl⟩ (by simp; omega) fun h' hE' hL' hs => ?_)
    refine h _ (ps ++ [(l.take b).drop p]) hE' (Nat.succ_pos _) (hF.but hL hs) ?_ (by simp) (by simp) ?_
    · rw [List.map_append]; exact hL'
    · rw [List.map_append, List.sum_append]
      simp only [List.map_cons, List.map_nil, List.sum_cons, List.sum_nil, List.length_drop, List.length_take]
      omega
  · rw [if_neg hcn]
    have hge : b ≤ p := by rw [hc] at hcn; omega
    refine h s ps hE htk hF hL ?_ (Nat.le_succ _) (by omega)
    have : (l.take b).drop p = [] := by rw [List.drop_eq_nil_iff, List.length_take]; omega
    rw [this, List.append_nil]

theorem sub_loop {c : Wd} {params : Arguments} {body : Expr} {scope : Scope} {pos : Pos} (hlam : lamOf c.w.params = some (params, body, scope, pos)) {A : Around} {s0 : Shared} {R : Result → Shared → Prop} {l : List Nat} {t : Tok} {f L : Addr} {W : List Nat}
    (ok0 : Ok c s0) (hh : A.handled = none) (hdep : A.depth + 20 < recursionLimit) (hun : A.units + 201 < cLine) (hsz : l.length ≤ 100000) (h10 : ∀ a ∈ l, a ≠ 10) (hLL : s0.heap.objs.size ≤ L)
    (hR : ∀ v s', ExtW c s0 s' → (V.str W).rep v → R (.ok (.ret v)) s') :
    ∀ (k p : Nat) (n : Int) (ps : List (List Nat)) (s : Shared), l.length - p < k → p ≤ l.length → ExtW c s0 s → 0 < s.toks → LamAt s.heap f params body scope → ListAt s.heap L (ps.map .str) → ps.flatten ++ unslT (l.drop p) = W → ps.length ≤ 2 * p → (ps.map (·.length)).sum ≤ p →
      codeAny (Md c) A (.builtin "re.Pattern.sub.loop" ⟨[.ref 58, .str (mkS l) t, .ref f, rawInt 1, rawInt 0, rawInt n, rawInt p, rawInt p, .bool false, .ref L, .bool false], []⟩) R s := by
  intro k
  induction k with
  | zero => intro p n ps s h; omega
  | succ k ih =>
    intro p n ps s hk hp E htk hF hL hW hps hsum
    refine codeAny_builtin entry_pat_subloop ?_
    rw [Around.under_plainId plain_pat_subloop _]
    unfold Builtin.«re.Pattern.sub.loop»
    dsimp only
    refine wpAny_bind (wp_whole (pat_unsl E.ok.base) ?_)
    dsimp only
    rw [if_neg (by decide), if_neg (by simp)]
    have hsizeE : (mkS l).cps.size = l.length := by simp [mkS]
    have hpos : (Int.toNat (p : Int)) = p := rfl
    have hlen : (l.drop p).length = l.length - p := List.length_drop
    have hget : ∀ j, l.toArray.getD (p + j) 0 = (l.drop p).getD j 0 := getA_drop l p
    obtain ⟨g, hg⟩ : ∃ g, g = ((l.drop p).takeWhile (· != 92)).length := ⟨_, rfl⟩
    have hpre : ∀ j, j < g → l.toArray.getD (p + j) 0 ≠ 92 := fun j hj => by
      have := takeWhile_all (· != 92) (l.drop p) j (hg ▸ hj)
      rw [hget]; simpa using this
    rw [hsizeE, hpos]
    have hcase : ((∀ j, p + j + 1 < l.length → l.toArray.getD (p + j) 0 ≠ 92) ∧ unslT (l.drop p) = l.drop p) ∨ ∃ b r, l.drop p = (l.drop p).takeWhile (· != 92) ++ 92 :: b :: r ∧ unslT (l.drop p) = (l.drop p).takeWhile (· != 92) ++ b :: unslT r := by
      rcases unsl_drop (w := l.drop p) with ⟨h1, h2⟩ | ⟨h1, h2⟩ | h
      · have := congrArg List.length h1
        exact .inl ⟨fun j hj => hpre j (by omega), h2⟩
      · have := congrArg List.length h1
        rw [List.length_append, List.length_singleton] at this
        exact .inl ⟨fun j hj => hpre j (by omega), h2⟩
      · exact .inr h
    rcases hcase with ⟨h1, h2⟩ | ⟨b, r, h1, h2⟩
    · refine wpAny_bind (wp_toEnd (n := 20 + (l.length - p) * 2) (by omega) (unsl_not (text := l.toArray) (lim := l.length) (pos := p) hp h1) fun m' hm => .inr ⟨hm, ?_⟩)
      dsimp only
      refine wp_optSlice (b := l.length) (hc := .rfl) ok0 E htk hLL hF hL hsz (by omega) fun s1 ps1 E1 htk1 hF1 hL1 hfl1 hps1 hsum1 => ?_
      refine wpAny_bind (wp_slice (by rw [sizeLine_eq]; omega) fun t' => ?_)
      have hW1 : W = ps1.flatten := by rw [hfl1, ← hW, h2, List.take_length]
      have hL1' := hL1
      obtain ⟨vs, nn, e1, r1⟩ := hL1
      refine wpAny_bind (wpAny_seqItems e1 rfl ?_)
      dsimp only [Option.getD]
      have h0 : (l.take 0).drop 0 = ([] : List Nat) := by simp
      rw [h0]
      by_cases hem : vs.isEmpty = true
      · rw [if_pos hem]
        have : ps1 = [] := by
          have := r1.length
          rw [Array.isEmpty_iff.mp hem] at this
          simpa using this
        rw [this] at hW1
        refine wpAny_bind (wpAny_pure ?_)
        rw [if_neg (by decide)]
        exact wpAny_pure (hR _ _ (E1.toks _) ⟨t', by rw [hW1]; rfl⟩)
      · rw [if_neg hem, if_pos (by decide)]
        refine wpAny_bind (wp_join (sep := []) (t := t') (s := { s1 with toks := s1.toks + 1 }) (ls := ps1) (E1.toks _).ok hL1' (by rw [sizeLine_eq]; simp only [List.length_nil, Nat.mul_zero, Nat.add_zero]; omega) fun v k hv => ?_)
        rw [if_neg (by decide)]
        rw [joinT_nil, ← hW1] at hv
        exact wpAny_pure (hR _ _ (E1.toks _) hv)
    · have hl := congrArg List.length h1
      rw [List.length_append, ← hg] at hl
      simp only [List.length_cons] at hl
      have hlt : p + g + 1 < l.length := by omega
      have hwg : (l.drop p).getD g 0 = 92 := by
        rw [h1, List.getD_eq_getElem?_getD, List.getElem?_append_right (by omega), ← hg, Nat.sub_self]; rfl
      have hwb : (l.drop p).getD (g + 1) 0 = b := by
        rw [h1, List.getD_eq_getElem?_getD, List.getElem?_append_right (by omega), ← hg, show g + 1 - g = 1 from by omega]; rfl
      have hb10 : b ≠ 10 := h10 b (by
        have : b ∈ l.drop p := by rw [h1]; simp
        exact List.mem_of_mem_drop this)
      refine wpAny_bind (wp_toEnd (n := 10 + g * 2) (by omega) (unsl_found (text := l.toArray) (lim := l.length) (pos := p) (g := g) hlt hpre (by rw [hget, hwg]) (by rw [show p + g + 1 = p + (g + 1) from by omega, hget, hwb]; exact hb10)) fun m' hm => .inl ⟨hm.1, ?_⟩)
      obtain ⟨_, f1, f2, f3, f4, f5⟩ := hm
      dsimp only
      rw [f1]
      refine wp_optSlice (b := p + g) (hc := .rfl) ok0 E htk hLL hF hL hsz (by omega) fun s1 ps1 E1 htk1 hF1 hL1 hfl1 hps1 hsum1 => ?_
      rw [if_neg (by decide)]
      refine wpAny_bind (wp_newMatch (groups := 1) (by rw [f3, f4]; unfold wrongSpan; simp [List.range_succ]) (by decide) fun q1 q2 => ?_)
      refine wpAny_bind (wpAny_holding ?_)
      rw [if_pos (by decide)]
      obtain ⟨s2, hs2⟩ : ∃ s2 : Shared, s2 = { s1 with heap := (s1.heap.push { cls := .type "tuple", data := .seq (((m'.start : Int) :: (m'.handed : Int) :: spansOf 1 m'.marks m'.lastmark).map rawInt).toArray }).push { cls := .type "re.Match", data := .fields #[.str (mkS l) t, .ref 58, q1, q2, rawInt m'.lastindex, .ref s1.heap.objs.size] } } := ⟨_, rfl⟩
      have E2 : Ext c s1 s2 := by rw [hs2]; exact ((Ext.refl E1.ok).push _).push _
      have hM : MatAt s2.heap (s1.heap.objs.size + 1) l [((p + g : Nat) : Int), ((p + g + 2 : Nat) : Int), ((p + g + 1 : Nat) : Int), ((p + g + 2 : Nat) : Int)] := by
        rw [hs2]
        refine ⟨s1.heap.objs.size, t, .ref 58, q1, q2, rawInt m'.lastindex, 0, ?_, ?_⟩
        · rw [← Heap.size_push s1.heap { cls := .type "tuple", data := .seq (((m'.start : Int) :: (m'.handed : Int) :: spansOf 1 m'.marks m'.lastmark).map rawInt).toArray }]
          exact Heap.get?_push_size _ rfl
        · rw [f1, f2, f3, f4]
          exact Heap.get?_push_of_some _ (Heap.get?_push_size _ rfl)
      rw [← hs2]
      have hcut : cutL l ((p + g + 1 : Nat) : Int) ((p + g + 2 : Nat) : Int) = [b] := by
        unfold cutL
        rw [Int.toNat_natCast, Int.toNat_natCast, List.drop_take, show p + g + 2 - (p + g + 1) = 1 from by omega, show p + g + 1 = p + (g + 1) from by omega, ← List.drop_drop]
        rw [show (l.drop p).drop (g + 1) = b :: r from by
          rw [h1, hg, ← List.drop_drop, List.drop_left]; rfl]
        rfl
      refine wpAny_mono (lam_call hlam E2.ok (Nat.lt_of_lt_of_le htk1 E2.tk) hh hdep (by show A.units + 1 + 200 < cLine; omega) (hF1.keep E1.ok.tabs E2.keep) hM rfl rfl rfl (by rw [hcut]; simp) hsz) (fun v s3 h3 => ?_) fun _ _ e => e.elim
      rw [hcut] at h3
      obtain ⟨E3, t3, rfl⟩ := h3
      rw [if_pos (by rfl)]
      have E13 := E2.trans E3
      have L3 := hL1.keep E1.ok.tabs E13.keep
      refine wpAny_bind (wp_pushTo (v := .str [b]) ok0 (E1.trans E13.toExtW) hLL L3 ⟨t3, rfl⟩ (by simp; omega) fun h' hE' hL' hs => ?_)
      refine wpAny_pure ⟨plainId_quiet plain_pat_subloop _, ?_⟩
      have hbo : (m'.handed == p + g) = false := by rw [f2]; simp
      rw [hbo, f2]
      have hsl : (l.take (p + g)).drop p = (l.drop p).takeWhile (· != 92) := by
        rw [List.drop_take, show p + g - p = g from by omega]
        conv => lhs; rw [h1, hg, List.take_left]
      refine ih (p + g + 2) (n + 1) (ps1 ++ [[b]]) _ (by omega) (by omega) hE' (Nat.lt_of_lt_of_le htk1 E13.tk) (((hF1.keep E1.ok.tabs E13.keep)).but L3 hs) ?_ ?_ ?_ ?_
      · rw [List.map_append]; exact hL'
      · rw [List.flatten_append, hfl1, hsl, ← hW, h2]
        have : l.drop (p + g + 2) = r := by
          rw [show p + g + 2 = p + (g + 2) from by omega, ← List.drop_drop, h1, hg, ← List.drop_drop, List.drop_left]; rfl
        rw [this]; simp
      · simp; omega
      · simp; omega
end
end Mine
end
section
open PySem PySem.W PySem.Calls PyProof.Rows
open PySem.Builtin.Re
set_option Elab.async false
set_option maxRecDepth 100000
set_option linter.all false
set_option maxHeartbeats 4000000
namespace Mine
noncomputable section
section
variable {x : Cx} {m : Lc} {led : Ld}

theorem EX.reSub {o e : Expr} {params : Arguments} {body : Expr} {scope : Scope} {lpos apos pos : Pos} {l : List Nat} (hlam : lamOf x.c.w.params = some (params, body, scope, lpos)) (ho : EV x m led o (.ref 58)) (he : EV x m led e (.str l)) (hs : notStar e = true)
    (hcode : x.env.code = .ref 64) (hqual : x.env.qual ++ "<lambda>" = lamQ) (hdef : defaultsOf params x.env = ([], [])) (hcl : closureFor scope x.env = pure []) (hpos : lpos.line = 39 ∧ lpos.col = 31) (hsz : l.length ≤ 100000) (h10 : ∀ a ∈ l, a ≠ 10) (hlv : 2 ≤ x.lvl)
    (hbase : attributeBase o "sub" x.env (eval o x.env) = eval o x.env := by rfl) (hline : (apos.endLine == pos.line) = true := by rfl) : EV x m led (.Call (.Attribute o "sub" apos) [.Lambda params body scope lpos, e] [] pos) (.str (unslT l)) := by
  intro s S
  have hall : ((backTo pos (starEach [.Lambda params body scope lpos, e] x.env)).all (fun x => !x.1) && (backToKw pos (keywordEach [] x.env)).all (fun x => x.1.isSome) && decide ([Expr.Lambda params body scope lpos, e].length + ([] : List Keyword).length + (if ([] : List Keyword).isEmpty then 0 else 1) < 30)) = true := by
    rw [starEach_cons (by rfl), starEach_cons hs]; rfl
  refine wpAny_Call_method_lateS hbase hall hline (wpAny_mono (ho s S) (fun u s₁ h₁ => ?_) fun _ _ e => e)
  obtain ⟨E₁, r₁⟩ := h₁
  cases r₁
  have S₁ := S.ext E₁
  obtain ⟨t1, t2⟩ := patT (x := x) (m := m) (led := led) (fun s S => pat_unsl S.base) s₁ _ S₁ rfl
  refine ⟨"re.Pattern", "re.Pattern.sub", mth_pat_sub.pa, mth_pat_sub.slot, mth_pat_sub.ty, t1, t2, ?_⟩
  refine callWith_builtin (by rw [starEach_cons (by rfl), starEach_cons hs]; rfl) ?_
  have hargs : wpAny (Md x.c) x.A (evalArgs (.builtin "re.Pattern.sub") true (backTo pos (starEach [.Lambda params body scope lpos, e] x.env)) []) (fun a s' => Ext x.c s₁ s' ∧ ∃ f t, a = ⟨[.ref f, .str (mkS l) t], []⟩ ∧ LamAt s'.heap f params body scope) nE s₁ := by
    rw [starEach_cons (by rfl), starEach_cons hs]
    refine evalArgs_plain (spliced_cons (kla_eval hdef ?_))
    rw [hqual]
    refine wpAny_mono (wp_lamMake S₁ hcode hcl hpos) (fun v s₂ h₂ => ?_) fun _ _ e => e
    obtain ⟨E₂, f, rfl, hF, _⟩ := h₂
    have S₂ := S₁.ext E₂
    refine spliced_cons (wpAny_mono (he s₂ S₂) (fun v s₃ h₃ => ?_) fun _ _ e => e)
    obtain ⟨E₃, t, rfl⟩ := h₃
    exact spliced_nil ⟨E₂.trans E₃, f, t, rfl, hF.keep S₂.tabs E₃.keep⟩
  refine wpAny_mono hargs (fun a s₂ h₂ => ?_) fun _ _ e => e
  obtain ⟨E₂, f, t, rfl, hF⟩ := h₂
  have S₂ := S₁.ext E₂
  have hd := x.hdep
  have hu := x.hun
  have key : wpAny (Md x.c) x.A (PySem.call (.builtin "re.Pattern.sub") [.ref 58, .ref f, .str (mkS l) t]) (fun v s' => ExtW x.c s₂ s' ∧ (V.str (unslT l)).rep v) nE s₂ := by
    refine call_meetsIn (S := fun A R s => A = x.A ∧ s = s₂ ∧ ∀ v s', ExtW x.c s₂ s' → (V.str (unslT l)).rep v → R (.ok (.ret v)) s') slot_pat_sub (patT (x := x) (m := m) (led := led) (fun s S => pat_unsl S.base) s₂ _ S₂ rfl).1 entry_pat_sub (args_pat_sub_3 _ _ _) ?_ ⟨rfl, rfl, fun v s' E h => ⟨E, h⟩⟩
    rintro A R s ⟨rfl, rfl, hR⟩
    have hTf : s.TypeIs (.ref f) "function" := by
      obtain ⟨c', pm, e, _⟩ := hF
      exact ⟨_, e, rfl⟩
    unfold Builtin.«re.Pattern.sub» reSubstitute
    dsimp only
    refine wpAny_bind (wpAny_of_eq (named_sub _ _ _ _) ?_)
    dsimp only
    refine wpAny_bind (wpAny_pure ?_)
    refine wpAny_bind (wpAny_specialOf hTf fn_callLook ?_)
    rw [if_pos (by rfl)]
    refine wpAny_bind (wpAny_pure ?_)
    rw [if_pos (by rfl)]
    refine wpAny_bind (wpAny_pure ?_)
    dsimp only
    refine wpAny_bind (wpAny_holding (wp_whole (pat_unsl S₂.base) ?_))
    rw [if_pos (by rfl)]
    refine wpAny_bind (wp_notHeld ?_)
    refine wpAny_bind (wpAny_newList ?_ (by simp [sizeLine_eq]))
    refine wpAny_pure ⟨plainId_quiet plain_pat_subloop _, ?_⟩
    have P := (ExtW.refl S₂.ok).push { cls := .type "list", data := .seq ([] : List Value).toArray }
    refine sub_loop hlam S₂.ok x.hh (by omega) (by omega) hsz h10 (Nat.le_refl _) hR (l.length + 1) 0 0 [] _ (by omega) (Nat.zero_le _) P S₂.tk (hF.keep S₂.tabs P.keep) ⟨#[], 0, Heap.get?_push_size _ rfl, .nil⟩ (by simp) (Nat.zero_le _) (Nat.zero_le _)
  refine wpAny_mono (up key) (fun v s₃ h₃ => ⟨E₁.trans (E₂.trans h₃.1), h₃.2⟩) fun _ _ e => e
end
end
end Mine
end
section
open PySem PySem.W PySem.Calls PyProof.Rows
set_option Elab.async false
set_option maxRecDepth 100000
set_option linter.all false
set_option maxHeartbeats 4000000
namespace Mine
noncomputable section
section
variable {x : Cx} {m : Lc} {led : Ld} {Q : Flow → Shared → Prop}

abbrev PairsOf (h : Heap) (xs : List (List Nat × List Nat)) (vs : Array Value) : Prop := F2 (fun x v => ∃ b, v = .ref b ∧ TupAt h b [.str x.1, .str x.2]) xs vs.toList

theorem iter_pairs (a : Addr) (vs : Array Value) (n : Nat) (xs : List (List Nat × List Nat)) (hlen : xs.length = vs.size) (elts : List Expr) (q : Nat) (p : Pos) :
    Iter x xs.length (ItList a) (fun h => h.get? a = some (listObj vs n) ∧ PairsOf h xs vs) (fun i v h => ∃ w, xs[i]? = some w ∧ isTupO [.str w.1, .str w.2] 0 v h) (.Tuple elts q p) where
  plain := fun i o h => by rw [h.1]; exact ⟨nofun, by simp, by simp⟩
  next := fun i s I o R hi ho hit hs _ k => by
    obtain ⟨w, hw⟩ : ∃ w, xs[i]? = some w := ⟨xs[i], by simp [hi]⟩
    obtain ⟨v, hv, b, rfl, ws, nn, tb, tr⟩ := hs.2.get hw
    have hv' : vs[i]? = some (.ref b) := by simpa using hv
    refine wpAny_pyNext_list_item (l := a) ⟨o, ho, hit.1, hit.2⟩ ⟨_, hs.1, rfl, n, rfl⟩ hv' fun h' ⟨o', ho', r⟩ hsb => ?_
    refine wpAny_letOwnedTupleGo_listiter ⟨o', ho', r⟩ ?_
    have hbI : b ≠ I := fun q => by
      subst q; rw [ho] at tb; cases tb; have := hit.1; simp at this
    exact k o' h' s.toks (.ref b) r ho' hsb.extBut ⟨w, hw, b, rfl, ws, nn, hsb.extBut b _ hbI tb, tr⟩ (Nat.le_refl _)
  done := fun s I o R ho hit hs k => wpAny_pyNext_list_end x.hh (l := a) ⟨o, ho, hit.1, hit.2⟩ ⟨_, hs.1, rfl, n, rfl⟩ (by simp [hlen]) k

/-- for over a list of pairs of the ledger (that stays as it is) -/
theorem SX.forPairs {i1 i2 j q : Nat} {n1 n2 : Str} {p1 p2 pt pos : Pos} {iter : Expr} {body rest : List Stmt} {a : Addr} {xs : List (List Nat × List Nat)} (h1 : x.ns[i1]? = some n1) (h2 : x.ns[i2]? = some n2) (hi : EV x m led iter (.ref a)) (hj : led[j]? = some (a, .pairs xs))
    (Inv : Obj → Nat → Lc → Ld → Prop) (h0 : ∀ o, Inv o 0 m (led.set j (a, .fix o xs))) (hin : ∀ o i m led, Inv o i m led → (a, AO.fix o xs) ∈ led)
    (step : ∀ o i w m led I oi, xs[i]? = some w → Inv o i m led → SX x body ((m.set i1 (some (.str w.1))).set i2 (some (.str w.2))) (led ++ [(I, .raw oi)]) (TurnQ x (Inv o) i I oi Q))
    (fin : ∀ o m led, Inv o xs.length m led → SX x rest m led Q) (hs : ∀ v, foldedSetIterable iter x.env v = pure v := by intro _; rfl) : SX x (.For (.Tuple [.Name n1 p1, .Name n2 p2] q pt) iter body [] pos :: rest) m led Q := fun s S => by
  refine wpAny_execs_cons (wpAny_For (wpAny_mono (hi s S) (fun u s₁ h₁ => ?_) fun _ _ e => e) hs)
  obtain ⟨E₁, rfl⟩ := h₁
  have S₁ := S.ext E₁
  obtain ⟨vs, n, e, r⟩ := (S₁.hled _ (List.mem_of_getElem? hj)).2.2
  have hlen : xs.length = vs.size := by simpa using r.length
  have S₁' := S₁.recast (o' := .fix (listObj vs n) xs) hj ⟨e, rfl, vs, n, e, r⟩
  have side : ∀ {m led} {s : Shared}, (a, AO.fix (listObj vs n) xs) ∈ led → St x m led s → s.heap.get? a = some (listObj vs n) ∧ PairsOf s.heap xs vs := fun hm S => by
    obtain ⟨e1, _, vs2, n2, e2, r2⟩ := (S.hled _ hm).2.2
    rw [e1] at e2; cases e2
    exact ⟨e1, r2⟩
  refine wpAny_pyIter_list ⟨_, e, rfl, n, rfl⟩ ?_
  have S₂ := S₁'.add (o := .raw { cls := .type "list_iterator", data := .fields #[.ref a, .int 0 0] }) (S₁'.grow fun b o e => Heap.get?_push_of_some { cls := .type "list_iterator", data := .fields #[.ref a, .int 0 0] } e) (Nat.le_refl _) ⟨Heap.get?_push_size _ rfl, nofun, by simp, by simp⟩
  refine for_loop (iter_pairs a vs n xs hlen _ q pt) (Inv (listObj vs n)) (fun i m led s hI S => side (hin _ _ _ _ hI) S) (fun i m led I oi v s hlt hI hit hv S => ?_) (fun m led hI => fin _ m led hI) S₂ (h0 _) ⟨rfl, rfl⟩
  obtain ⟨w, hw, d, rfl, T⟩ := hv
  exact unpack_wp (is := [i1, i2]) (vs := [.str w.1, .str w.2]) (.cons h1 (.cons h2 .nil)) rfl S T fun s' S' => wpAny_mono (step _ i w m led I oi hw hI s' S') (fun f s₃ h => by cases f <;> exact h) fun _ _ e => e
end
end
end Mine
end
section
open PySem PySem.W PySem.Calls PyProof.Rows
set_option Elab.async false
set_option maxRecDepth 100000
set_option linter.all false
set_option maxHeartbeats 4000000
namespace Mine
noncomputable section

def ovV : Option (List Nat) → V
  | none => .none
  | some l => .str l
def isO (k : Option Str) (v : Value) : Bool := match k with
  | none => v == .none
  | some x => Value.isStrOf x v
theorem isO_none {v : Value} (h : isO none v = true) : v = .none := by simpa [isO] using h
theorem eqBool_none_none {prog w A} {E : Value → Shared → Prop} {s : Shared} {Q : Bool → Shared → Prop} (h : Q true s) : wpAny (model prog w) A (eqBool .none .none) Q E s := by
  unfold eqBool
  exact wpAny_holding (wpAny_bind (wpAny_rule (wpAny_pure h)))
theorem eqBool_none_str {prog w A} {E : Value → Shared → Prop} {s : Shared} {a : Str} {t : Tok} {Q : Bool → Shared → Prop} (h : Q false s) : wpAny (model prog w) A (eqBool .none (.str a t)) Q E s := by
  unfold eqBool
  refine wpAny_holding ?_
  rw [if_neg (by simp)]
  refine wpAny_bind (PySem.EqNone.eq_none_str ?_)
  exact wpAny_truthy_bool h
theorem eqBool_str_none {prog w A} {E : Value → Shared → Prop} {s : Shared} {a : Str} {t : Tok} {Q : Bool → Shared → Prop} (h : Q false s) : wpAny (model prog w) A (eqBool (.str a t) .none) Q E s := by
  unfold eqBool
  refine wpAny_holding ?_
  rw [if_neg (by simp)]
  refine wpAny_bind (PySem.EqNone.eq_str_none ?_)
  exact wpAny_truthy_bool h
def hashNone : Int := reduceHash 0xFCA86420
/-- keys: None or a text -/
def optKind (w : World) : KeyKind PG w (Option Str) where
  is := isO
  hash := fun k => match k with
    | none => hashNone
    | some x => hashStr w x
  inj := fun v a b ha hb => by
    cases a with
    | none =>
      cases b with
      | none => rfl
      | some y => cases isO_none ha; cases hb
    | some x =>
      cases b with
      | none => cases isO_none hb; cases ha
      | some y => exact congrArg some (Value.isStrOf_inj v x y ha hb)
  byValue := fun k v h => by
    cases k with
    | none => cases isO_none h; rfl
    | some x => obtain ⟨t, rfl⟩ := Value.isStrOf_shape (show Value.isStrOf x v = true from h); rfl
  pyHash := fun {A E s k v Q} hv h => by
    cases k with
    | none =>
      cases isO_none hv
      exact pyHash_slot (T := "NoneType") rfl F.slot_NoneType_hash F.entry_NoneType_hash (F.args_NoneType_hash_1 _) (beq_builtin_none _) (.inl rfl) (wpAny_bind (wpAny_pure (wpAny_bind (wpAny_mkInt (wpAny_pure ⟨_, _, rfl, h⟩)))))
    | some x => obtain ⟨t, rfl⟩ := Value.isStrOf_shape (show Value.isStrOf x v = true from hv); exact wpAny_pyHash_str h
  eqBool := fun {A E s a b u v Q} hu hv h => by
    cases a with
    | none =>
      cases isO_none hu
      cases b with
      | none => cases isO_none hv; exact eqBool_none_none (by simpa using h)
      | some y => obtain ⟨t, rfl⟩ := Value.isStrOf_shape (show Value.isStrOf y v = true from hv); exact eqBool_none_str (by simpa using h)
    | some x =>
      obtain ⟨t, rfl⟩ := Value.isStrOf_shape (show Value.isStrOf x u = true from hu)
      cases b with
      | none => cases isO_none hv; exact eqBool_str_none (by simpa using h)
      | some y => obtain ⟨t, rfl⟩ := Value.isStrOf_shape (show Value.isStrOf y v = true from hv); exact wpAny_eqBool_str (by simpa using h)
  «strs» := fun k x t v h => by
    cases k with
    | none => cases isO_none h
    | some y => 
      obtain ⟨u, hu⟩ := Value.isStrOf_shape (show Value.isStrOf y (.str x t) = true from h)
      injection hu with hx
      subst hx
      cases v <;> rfl

section
variable {w : World} {A : Around} {E : Value → Shared → Prop} {s : Shared}
theorem wp_setUnled {K : Type} [DecidableEq K] {knd : KeyKind PG w K} {a : Addr} {S : K → Bool} {n : Nat} {Q : Unit → Shared → Prop} (hS : s.heap.SetOf knd a S n)
    (h : ∀ h', Heap.SameBut a s.heap h' → h'.SetOf knd a S n → Q () { s with heap := h' }) : wpAny (model PG w) A (setUnled a) Q E s := by
  obtain ⟨o, es, ep, t, ho, hex, hd, hel, hmem, hb, hf, hn⟩ := hS
  unfold setUnled
  refine wpAny_bind (wpAny_setState_of ho hd hf ?_)
  dsimp only
  refine wpAny_storeSet_of ho hd ?_ (fits_of_scanBound hb)
  subst hn
  exact h _ (Heap.SameBut.update ..) (SetOf_store ho hex hd (es' := es) (t' := { t with led := false }) hel hmem hb (by cases t; exact hf)).2
theorem wp_setAdd {K : Type} [DecidableEq K] {knd : KeyKind PG w K} {a : Addr} {S : K → Bool} {n : Nat} {k : K} {v : Value} {Q : Bool → Shared → Prop} (hk : knd.is k v = true) (hsc : v.scannable = true) (hS : s.heap.SetOf knd a S n) (hroom : n + 1 < scanBound)
    (h : ∀ b h' n', n' ≤ n + 1 → Heap.SameBut a s.heap h' → h'.SetOf knd a (fun k' => S k' || decide (k' = k)) n' → Q b { s with heap := h', toks := s.toks + 1 }) : wpAny (model PG w) A (setAdd a v) Q E s := by
  unfold setAdd
  refine wpAny_holding (wpAny_bind (knd.pyHash hk ?_))
  refine wpAny_setAddHashed_of hk hsc hS hroom fun h' hs hS' => ?_
  exact h _ h' _ (by split <;> omega) hs hS'
end
end
end Mine
end
section
open PySem PySem.W PySem.Calls PyProof.Rows
set_option Elab.async false
set_option maxRecDepth 100000
set_option linter.all false
set_option maxHeartbeats 4000000
namespace Mine
noncomputable section
section
variable {x : Cx} {m : Lc} {led : Ld}

theorem setOf_get {K : Type} [DecidableEq K] {w : World} {knd : KeyKind PG w K} {h h' : Heap} {a : Addr} {S : K → Bool} {n : Nat} (hS : h.SetOf knd a S n) (e : ∀ o, h.get? a = some o → h'.get? a = some o) : h'.SetOf knd a S n :=
  let ⟨o, es, ep, t, ho, r⟩ := hS; ⟨o, es, ep, t, e _ ho, r⟩
theorem setOf_cls {K : Type} [DecidableEq K] {w : World} {knd : KeyKind PG w K} {h : Heap} {a : Addr} {S : K → Bool} {n : Nat} (hS : h.SetOf knd a S n) : ∃ o, h.get? a = some o ∧ o.cls = .type "set" :=
  let ⟨o, es, ep, t, ho, hex, _⟩ := hS; ⟨o, ho, hex.1⟩

theorem kds_EVs {es : List Expr} {vs : List V} (h : EVs x m led es vs) : ∀ (s : Shared) (Q : List Value → Shared → Prop), St x m led s → (∀ us s', Ext x.c s s' → F2 V.rep vs us → Q us s') → KdsAll (Md x.c) x.A nE x.env es Q s := by
  induction h with
  | nil => intro s Q S k; exact k [] s (.self S) .nil
  | cons h1 h2 hs ih =>
    intro s Q S k
    refine wpAny_mono (h1 s S) (fun v s₁ h₁ => ?_) fun _ _ e => e
    exact ih s₁ _ (S.ext h₁.1) fun us s' E r => k _ s' (h₁.1.trans E) (.cons h₁.2 r)

theorem EVs.plain {es : List Expr} {vs : List V} (h : EVs x m led es vs) : es.all kdsPlain = true := by
  induction h with
  | nil => rfl
  | @cons e es v vs h1 h2 hs ih => rw [List.all_cons, ih, Bool.and_true]; cases e <;> first | rfl | cases hs

theorem fill_wp {A : Around} {c : Wd} {s0 : Shared} {d : Addr} {Q : Value → Shared → Prop} (ok0 : Ok c s0) (hd : s0.heap.objs.size ≤ d) : ∀ (names : List (List Nat)) (us : List Value), F2 V.rep (names.map .str) us → ∀ (s : Shared) (S : Option Str → Bool) (n : Nat), ExtW c s0 s → s.heap.SetOf (optKind c.w) d S n → n + names.length < 1000 →
    (∀ s' n', n' < 1000 → ExtW c s0 s' → s'.heap.SetOf (optKind c.w) d (fun k => S k || decide (k ∈ names.map fun l => some (mkS l))) n' → Q (.ref d) s') → KdsFill (Md c) A nE true d Q us s
  | [], _, .nil, s, S, n, E, hS, hn, k => by
    obtain ⟨o, ho, hc⟩ := setOf_cls hS
    refine kds_fill_unled rfl (wp_setUnled hS fun h' hs hS' => k _ n (by simpa using hn) (E.updNew ok0 hd ho (by rw [hc]; simp) hs s.toks) ?_)
    have : (fun k => S k || decide (k ∈ ([] : List (List Nat)).map fun l => some (mkS l))) = S := by funext k; simp
    rw [this]; exact hS'
  | a :: names, _, .cons (b := u) h1 h2, s, S, n, E, hS, hn, k => by
    obtain ⟨t, rfl⟩ := h1
    obtain ⟨o, ho, hc⟩ := setOf_cls hS
    simp only [List.length_cons] at hn
    refine kds_fill_cons (wp_setAdd (k := some (mkS a)) ?_ rfl hS (by have : scanBound = 4096 := rfl; omega) fun b h' n' hn' hs hS' => ?_)
    · show Value.isStrOf (mkS a) (.str (mkS a) t) = true
      simp [Value.isStrOf]
    · refine fill_wp ok0 hd names _ h2 _ _ n' (E.updNew ok0 hd ho (by rw [hc]; simp) hs _) hS' (by omega) fun s' n'' hn'' E' hS'' => k s' n'' hn'' E' ?_
      have : (fun k => (S k || decide (k = some (mkS a))) || decide (k ∈ names.map fun l => some (mkS l))) = (fun k => S k || decide (k ∈ (a :: names).map fun l => some (mkS l))) := by
        funext k
        rw [Bool.or_assoc]
        congr 1
        rw [List.map_cons]
        by_cases h : k = some (mkS a) <;> simp [h]
      rw [this] at hS''
      exact hS''

theorem EVs.len {es : List Expr} {vs : List V} (h : EVs x m led es vs) : es.length = vs.length := by
  induction h with
  | nil => rfl
  | cons _ _ _ ih => rw [List.length_cons, List.length_cons, ih]

theorem IT.inSet {e : Expr} {o : Option (List Nat)} {elts : List Expr} {names : List (List Nat)} {p pos : Pos} (he : EV x m led e (ovV o)) (hs : EVs x m led elts (names.map .str)) (hlen : elts.length ≤ 30) (hc : kdsCode x.c.K x.env.code = true)
    (hm : behindInMarks .In (.Set elts 0 p) = true) (hroad : displayRoad 0 elts = .unsure) : IT x m led (.Compare e [.In] [.Set elts 0 p] pos) (decide (o ∈ names.map some)) := by
  intro s S
  refine up ?_
  refine kdi_test hm (wpAny_mono (he s S) (fun v s₁ h₁ => ?_) fun _ _ e => e)
  obtain ⟨E₁, r₁⟩ := h₁
  have S₁ := S.ext E₁
  rw [arm_eval_Set]
  refine wpAny_bind (wpAny_standAt (wpAny_bind (kds_main (K := x.c.K) S₁.base.K hc fun b => ?_)))
  rw [kds_star elts hs.plain, List.map_map]
  refine kds_core (ts := (evalEach elts x.env).map fun t => do let v ← t; standAt p; pure v) (by rw [hroad]; decide) ?_ ?_ ?_ fun ledb => ?_
  · refine List.findIdx?_eq_none_iff.mpr fun y hy => ?_
    obtain ⟨t, _, rfl⟩ := List.mem_map.mp hy
    rfl
  · rw [List.length_map, kds_len]; exact hlen
  · rw [List.map_map]; rfl
  · have P := (Ext.refl S₁.ok).push { cls := .type "set", dict := none, data := .set #[] 0 (.fresh 0 0 ledb) }
    have hset : ({ s₁ with heap := s₁.heap.push { cls := .type "set", dict := none, data := .set #[] 0 (.fresh 0 0 ledb) } } : Shared).heap.SetOf (optKind x.c.w) s₁.heap.objs.size (fun _ => false) 0 :=
      ⟨_, #[], 0, _, Heap.get?_push_size _ rfl, ⟨rfl, rfl, rfl⟩, rfl, fun e he => by simp at he, fun k => by simp, by decide, by rfl, rfl⟩
    have S₂ := S₁.ext P
    refine kds_all p elts _ _ (kds_EVs hs _ _ S₂ fun us s₃ E₃ r₃ => ?_)
    have S₃ := S₂.ext E₃
    have hb : (displayRoad 0 elts == DisplayRoad.unsure) = true := by rw [hroad]; rfl
    rw [hb]
    have hlen2 := hs.len
    refine fill_wp S₁.ok (Nat.le_refl _) names us r₃ s₃ _ 0 (P.trans E₃).toExtW (setOf_get hset fun o ho => ?_) (by rw [List.length_map] at hlen2; omega) fun s' n' hn' E' hS' => ?_
    · obtain ⟨o2, ho2, hc2⟩ := setOf_cls hset
      have := ho2.symm.trans ho
      cases this
      exact E₃.keep _ _ (S₂.tabs.ne60 ho (by rw [hc2]; nofun)) (S₂.tabs.ne48 ho (by rw [hc2]; nofun)) ho
    · obtain ⟨o2, ho2, hc2⟩ := setOf_cls hS'
      refine kdi_mark (wp_setUnled hS' fun h' hs' hS'' => ?_)
      have E'' := E'.updNew S₁.ok (Nat.le_refl _) ho2 (by rw [hc2]; simp) hs' s'.toks
      refine wpAny_inSet_of (knd := optKind x.c.w) (k := o.map mkS) ?_ ?_ hS'' ?_
      · cases o with
        | none => cases r₁; rfl
        | some l => obtain ⟨t, rfl⟩ := r₁; show Value.isStrOf (mkS l) (.str (mkS l) t) = true; simp [Value.isStrOf]
      · cases o with
        | none => cases r₁; rfl
        | some l => obtain ⟨t, rfl⟩ := r₁; rfl
      · refine wpAny_truthy_bool ⟨E₁.toExtW.trans (E''.toks _), ?_⟩
        rw [Bool.false_or]
        refine decide_eq_decide.mpr ?_
        simp only [List.mem_map]
        constructor
        · rintro ⟨l, hl, e⟩
          cases o with
          | none => cases e
          | some y => exact ⟨l, hl, congrArg some (mkS_inj.mp (Option.some.inj e))⟩
        · rintro ⟨l, hl, rfl⟩
          exact ⟨l, hl, rfl⟩
end
end
end Mine
end
section
open PySem PySem.W PySem.Calls PyProof.Rows
set_option Elab.async false
set_option maxRecDepth 100000
set_option linter.all false
set_option maxHeartbeats 4000000
namespace Mine
noncomputable section

theorem entry_itemiter_iter : entryFor table "dict_itemiterator.__iter__" = some Builtin.«dict_keyiterator.__iter__» :=
  entryFor_alias (id' := "dict_keyiterator.__iter__") (by kernel_rfl) rfl (by decide +kernel) (by kernel_rfl)

section
variable {prog : Program} {w : World} {A : Around} {E : Value → Shared → Prop} {R : Result → Shared → Prop} {s : Shared}
theorem wp_pyIter_self {I : Addr} {Q : Value → Shared → Prop} (hT : s.TypeIs (.ref I) "dict_itemiterator") (h : Q (.ref I) s) : wpAny (model prog w) A (pyIter (.ref I)) Q E s := by
  refine wpAny_pyIter_slot hT F.slot_dict_itemiterator_iter (wpAny_call_entry F.slot_dict_itemiterator_iter hT entry_itemiter_iter ?_ (F.args_dict_itemiterator_iter_1 _))
  show wpAny _ _ (ret (.ref I)) _ _ s
  exact wpAny_pure ⟨_, rfl, "dict_itemiterator", _, hT, F.slot_dict_itemiterator_next.lookup, h⟩

theorem compLoop_dict {kx vx target iter : Expr} {scope : Scope} {pos : Pos} {it : Value} {D : Addr} {env : Env} (I : Nat → Shared → Prop)
    (turn : ∀ n s, I n s → wpAny (model prog w) A (pyNext it) (fun r s₁ => match r with
      | none => R (.ok .next) s₁
      | some v => wpAny (model prog w) A (letOwnedTupleGo target it v) (fun _ s₂ => wpAny (model prog w) A (assign target env v) (fun _ s₃ =>
          wpAny (model prog w) A (eval kx env) (fun kv s₄ => wpAny (model prog w) A (eval vx env) (fun vv s₅ =>
              wpAny (model prog w) A (dictSet D kv vv) (fun _ s₆ => ∃ m, m < n ∧ I m s₆) nE s₅) nE s₄) nE s₃) nE s₂) nE s₁) nE s)
    (n : Nat) (h : I n s) :
    codeAny (model prog w) A (.compLoop (.DictComp kx vx [⟨target, iter, [], 0⟩] scope pos) 0 it (.ref D) env) R s := by
  refine codeAny_loop rfl I (fun n s hI => ?_) n h
  show wpAny _ A ((compTurn (.DictComp kx vx [⟨target, iter, [], 0⟩] scope pos) 0 it (.ref D) env).onRaise (fun x => do noteFrame x env; theTreesLotGoes x)) _ _ s
  refine wpAny_noted ?_
  rw [compTurn_dict]
  refine wpAny_bind (wpAny_standAt (wpAny_bind (wpAny_mono (turn n s hI) (fun r s₁ h₁ => ?_) fun _ _ e => e.elim)))
  cases r with
  | none => exact wpAny_pure h₁
  | some v =>
    refine wpAny_bind (wpAny_mono h₁ (fun _ s₂ h₂ => wpAny_bind (wpAny_mono h₂ (fun _ s₃ h₃ => ?_) fun _ _ e => e.elim)) fun _ _ e => e.elim)
    refine wpAny_bind (wpAny_pure ?_)
    exact wpAny_bind (wpAny_bind (wpAny_mono h₃ (fun kv s₄ h₄ => wpAny_bind (wpAny_holding (wpAny_mono h₄ (fun vv s₅ h₅ => wpAny_bind (wpAny_standAt (wpAny_holding (wpAny_mono h₅ (fun _ s₆ h₆ => wpAny_pure ⟨rfl, h₆⟩) fun _ _ e => e.elim)))) fun _ _ e => e.elim))) fun _ _ e => e.elim))
end

theorem ExtW.updNs {c : Wd} {s0 s : Shared} {L : Addr} {mm : Str → Option Value} {h' : Heap} (ok0 : Ok c s0) (E : ExtW c s0 s) (hL : s0.heap.objs.size ≤ L) (N : s.heap.Ns L mm) (hs : Heap.SameBut L s.heap h') (tk : Nat) : ExtW c s0 { s with heap := h', toks := tk } := by
  have neB : ∀ {b o}, s0.heap.get? b = some o → b ≠ L := fun e q => by subst q; exact absurd (Heap.lt_size e) (Nat.not_lt.mpr hL)
  obtain ⟨p1, e1⟩ := ok0.tabs.get60
  obtain ⟨p2, e2⟩ := ok0.tabs.get48
  have k : Keep s0.heap h' := fun b o g1 g2 e => (hs.2 b (neB e)).trans (E.keep b o g1 g2 e)
  have k60 := hs.2 60 (neB e1)
  have k48 := hs.2 48 (neB e2)
  obtain ⟨⟨q1, b1, c1⟩, ⟨q2, b2, c2⟩⟩ := E.ok.tabs
  have kc : ∀ c' q, CodeC s.heap c' q → CodeC h' c' q := by
    intro c' q hc
    refine hc.get (hs.2 c' fun q => ?_)
    obtain ⟨oc, vs, t, g, g2, d, _⟩ := hc
    obtain ⟨o2, es, ep, ho, hd, _⟩ := N
    rw [q] at g; rw [ho] at g; cases g; rw [hd] at d; cases d
  exact ⟨⟨ok0.base.keep ok0.tabs k, ⟨⟨q1, k60.trans b1, c1.imp id fun ⟨c', e, h1, h2, r⟩ => ⟨c', e, h1, h2, kc _ _ r⟩⟩, ⟨q2, k48.trans b2, c2.imp id fun ⟨c', e, h1, h2, r⟩ => ⟨c', e, h1, h2, kc _ _ r⟩⟩⟩, E.ok.bare⟩, k, by rw [show h'.objs.size = _ from hs.1]; exact E.size, E.os⟩
end
end Mine
end
section
open PySem PySem.W PySem.Calls PyProof.Rows
set_option Elab.async false
set_option maxRecDepth 100000
set_option linter.all false
set_option maxHeartbeats 400000
namespace Mine
noncomputable section
section
variable {x : Cx} {m : Lc} {led : Ld}

theorem dset_new {β : Type} {l : List (List Nat × β)} {k : List Nat} {v : β} (h : k ∉ l.map (·.1)) : dset l k v = l ++ [(k, v)] := by
  unfold dset
  rw [if_neg]
  intro q
  rw [List.any_eq_true] at q
  obtain ⟨p, hp, e⟩ := q
  exact h (List.mem_map.mpr ⟨p, hp, by simpa using e⟩)

theorem comp_turn {y : Cx} {n1 n2 : Str} {p1 p2 pt p3 : Pos} {q : Nat} {vx : Expr} (e1 : y.ns[0]? = some n1) (e2 : y.ns[1]? = some n2) (hdb : (y.ns.all fun n => n != "__debug__") = true) {D I : Addr} {o' : Obj} {dn : List (List Nat × V)} {kk : List Nat} {w r v' : V} {v : Value} {o1 o2 : Option V} {s : Shared} {P : Shared → Prop}
    (S₂ : St y [o1, o2] [(D, .dict dn), (I, .raw o')] s) (T : isTupO [.str kk, w] 0 v s.heap) (hv : EV y [some (.str kk), some w] [(D, .dict dn), (I, .raw o')] vx r) (hlen : dn.length ≤ 1000)
    (hP : ∀ se, St y [some (.str kk), some w] [(D, .dict (dset dn kk r)), (I, .raw o')] se → P se) :
    wpAny (Md y.c) y.A (assign (.Tuple [.Name n1 p1, .Name n2 p2] q pt) y.env v) (fun _ sb => wpAny (Md y.c) y.A (eval (.Name n1 p3) y.env) (fun kv sc => wpAny (Md y.c) y.A (eval vx y.env) (fun vv sd => wpAny (Md y.c) y.A (dictSet D kv vv) (fun _ se => P se) nE sd) nE sc) nE sb) nE s := by
  obtain ⟨d, rfl, T⟩ := T
  refine unpack_wp (is := [0, 1]) (vs := [.str kk, w]) (.cons e1 (.cons e2 .nil)) rfl S₂ T fun s₃ S₃ => ?_
  have S₃ : St y [some (.str kk), some w] [(D, .dict dn), (I, .raw o')] s₃ := S₃
  have hname : EV y [some (.str kk), some w] [(D, .dict dn), (I, .raw o')] (.Name n1 p3) (.str kk) := EX.name 0 e1 rfl hdb
  refine wpAny_mono (hname s₃ S₃) (fun kv s₄ h₄' => ?_) fun _ _ e => e
  obtain ⟨E₄, t, rfl⟩ := h₄'
  have S₄ := S₃.ext E₄
  refine wpAny_mono (hv s₄ S₄) (fun vv s₅ h₅ => ?_) fun _ _ e => e
  obtain ⟨E₅, rv⟩ := h₅
  have S₅ := S₄.ext E₅
  obtain ⟨kvs2, D2, r2⟩ := (ledDict (i := 0) S₅ rfl).of
  refine wpAny_dictSet_pairs (knd := SK y.c.w) (k := mkS kk) (by show Value.isStrOf (mkS kk) (.str (mkS kk) t) = true; simp [Value.isStrOf]) D2 (fun h' D' hs' => ?_) (by rw [r2.lenEq, sizeLine_eq]; omega)
  exact hP _ (S₅.upd (k := 0) (o' := .dict (dset dn kk r)) rfl hs' (DictAt.to D' (KV.stored r2 kk rv)) (Nat.succ_pos _))

theorem comp_new {kvs : List (List Nat × V)} {g : List Nat × V → V} {i : Nat} {kk : List Nat} {w : V} (hnd : (kvs.map (·.1)).Nodup) (hlt : i < kvs.length) (hk : kvs[i]? = some (kk, w)) : dset ((kvs.take i).map fun kv => (kv.1, g kv)) kk (g (kk, w)) = (kvs.take (i + 1)).map fun kv => (kv.1, g kv) := by
  have hget2 : kvs[i] = (kk, w) := by
    have := List.getElem?_eq_getElem hlt
    rw [hk] at this; exact (Option.some.inj this).symm
  rw [List.take_succ_eq_append_getElem hlt, List.map_append, List.map_singleton, hget2]
  refine dset_new ?_
  rw [List.map_map]
  intro hm
  obtain ⟨p, hp, e⟩ := List.mem_map.mp hm
  obtain ⟨j, hj, ej⟩ := List.mem_iff_getElem.mp hp
  have hj' : j < i := by simp at hj; omega
  rw [List.getElem_take] at ej
  have hpw := List.pairwise_iff_getElem.mp hnd j i (by simp; omega) (by simpa using hlt) hj'
  rw [List.getElem_map, List.getElem_map, hget2, ej] at hpw
  exact hpw e

theorem EX.dictComp {n1 n2 : Str} {p1 p2 pt p3 pos : Pos} {q : Nat} {vx iter : Expr} {scope : Scope} {a : Addr} {kvs : List (List Nat × V)} {g : List Nat × V → V}
    (hi : EX x m led iter (isItems a)) (hD : ∀ s, St x m led s → DictAt x.c.w.params s.heap a kvs) (hlen : kvs.length ≤ 1000)
    (hv : ∀ (y : Cx) (kv : List Nat × V) (led' : Ld), y.c = x.c → y.ns = [n1, n2] → (∀ p ∈ led, p.2.rep x.c.w.params y.B p.1) → kv ∈ kvs → EV y [some (.str kv.1), some kv.2] led' vx (g kv))
    (hfree : ∀ y ∈ scope.names, y.2 ≠ .free) (hcell : ∀ y ∈ scope.names, y.2 ≠ .cell) (hkind : scope.kind = .function) (hnames : ∀ y ∈ scope.names, y.2 = .local → scope.names.lookup y.1 = some .local)
    (h1 : scope.names.lookup n1 = some .local) (h2 : scope.names.lookup n2 = some .local) (hne : n1 ≠ n2) (hdb : ([n1, n2].all fun n => n != "__debug__") = true := by rfl) (hs : ∀ v, foldedSetIterable iter x.env v = pure v := by intro _; rfl) :
    EX x m led (.DictComp (.Name n1 p3) vx [⟨.Tuple [.Name n1 p1, .Name n2 p2] q pt, iter, [], 0⟩] scope pos) (isDict x.c (kvs.map fun kv => (kv.1, g kv))) := by
  intro s S
  refine up ?_
  rw [arm_eval_DictComp]
  refine wpAny_comprehension rfl hs hfree hkind hnames (wpAny_mono (hi s S) (fun u s₁ h₁ => ?_) fun _ _ e => e.elim)
  obtain ⟨E₁, b, rfl, hview⟩ := h₁
  have S₁ := S.ext E₁
  obtain ⟨o, ho, hO⟩ := (hD s₁ S₁).obj
  obtain ⟨kvs', ep, r, hDl⟩ := hO.lib
  have hcls : o.cls = .type "dict" := by obtain ⟨_, _, rfl, _⟩ := hO; rfl
  have hnd : (kvs.map (·.1)).Nodup := by obtain ⟨_, _, _, _, nd⟩ := hO; exact nd
  refine wpAny_pyIter_items (knd := SK x.c.w) hview (hDl ho) ?_
  rw [show kvs'.length = kvs.length from r.lenEq]
  refine wpAny_newObj_type (wpAny_newFunctionEnv hcell (by intro y hy; simp at hy) (fun h₄ hns hsb => ?_) hkind)
  dsimp only at hns hsb ⊢
  obtain ⟨itO, hitO⟩ : ∃ itO : Obj, itO = { cls := .type "dict_itemiterator", dict := none, data := .fields #[.none, .bool false, .ref a, .int 0 0, .int kvs.length 0, .int ep 0, .none, .none], slots := #[] } := ⟨_, rfl⟩
  rw [← hitO] at hns hsb ⊢
  obtain ⟨h3, eh3⟩ : ∃ h3, h3 = (s₁.heap.push itO).push { cls := .type "dict", data := .dict #[] } := ⟨_, rfl⟩
  have sz1 : (s₁.heap.push itO).objs.size = s₁.heap.objs.size + 1 := Heap.size_push ..
  have sz3 : h3.objs.size = s₁.heap.objs.size + 2 := by rw [eh3, Heap.size_push, sz1]
  rw [← eh3] at hns hsb ⊢
  have keep1 : ∀ b ob, s₁.heap.get? b = some ob → h3.get? b = some ob := fun b ob e => by rw [eh3]; exact Heap.get?_push_of_some _ (Heap.get?_push_of_some _ e)
  have keep2 : ∀ b ob, h3.get? b = some ob → h₄.get? b = some ob := fun b ob e => hsb.extBut b ob (Nat.ne_of_lt (Heap.lt_size e)) (Heap.get?_push_of_some _ e)
  have keep3 : ∀ b ob, s₁.heap.get? b = some ob → h₄.get? b = some ob := fun b ob e => keep2 b ob (keep1 b ob e)
  have gI : h₄.get? s₁.heap.objs.size = some itO := keep2 _ _ (by rw [eh3]; exact Heap.get?_push_of_some _ (Heap.get?_push_size _ (by rw [hitO]; rfl)))
  have gD : h₄.get? (s₁.heap.objs.size + 1) = some { cls := .type "dict", data := .dict #[] } := keep2 _ _ (by rw [eh3, ← sz1]; exact Heap.get?_push_size _ rfl)
  let y : Cx := { c := x.c, A := x.A, env := newEnv scope h3.objs.size x.env.globals [] x.env.qual none .none (some x.env) builtinsNs, B := s₁.heap, ns := [n1, n2], os := s₁.os, lvl := x.lvl, hh := x.hh, hdep := x.hdep, hun := x.hun, hk := hkind, hg := x.hg, hb := x.hb,
                  hns := fun i n e => by
                    match i, e with
                    | 0, e => cases e; exact h1
                    | 1, e => cases e; exact h2
                    | i + 2, e => simp at e
                  hnd := by simp [hne], hB := S₁.base, tB := S₁.tabs, hL := (by show s₁.heap.objs.size ≤ h3.objs.size; rw [sz3]; omega) }
  have Y0 : St y [none, none] [] { s₁ with heap := h₄, toks := s₁.toks + 0 } := by
    refine ⟨.of keep3, ?_, S₁.bare, ⟨_, hns, fun i n v e1 e2 => ?_⟩, Nat.le_of_lt (Nat.lt_of_le_of_lt (show s₁.heap.objs.size ≤ h3.objs.size by omega) hns.lt), (fun _ h => nomatch h), .nil, rfl, S₁.tk⟩
    · obtain ⟨p1, e1⟩ := S₁.tabs.get60
      obtain ⟨p2, e2⟩ := S₁.tabs.get48
      exact S₁.tabs.keep (.of keep3) ((keep3 _ _ e1).trans e1.symm) ((keep3 _ _ e2).trans e2.symm)
    · match i, e2 with
      | 0, e2 => cases e2
      | 1, e2 => cases e2
      | i + 2, e2 => simp at e2
  have Y1 : St y [none, none] [(s₁.heap.objs.size + 1, .dict [])] { s₁ with heap := h₄, toks := s₁.toks + 0 } :=
    Y0.add' (o := .dict []) (Nat.le_succ _) (by show s₁.heap.objs.size + 1 ≠ h3.objs.size; rw [sz3]; omega) (by simp) ⟨⟨#[], 0, gD, .nil⟩, .nil⟩
  have Y2 : St y [none, none] [(s₁.heap.objs.size + 1, .dict []), (s₁.heap.objs.size, .raw itO)] { s₁ with heap := h₄, toks := s₁.toks + 0 } :=
    Y1.add' (o := .raw itO) (Nat.le_refl _) (by show s₁.heap.objs.size ≠ h3.objs.size; rw [sz3]; omega) (by simp) ⟨gI, by rw [hitO]; nofun, by rw [hitO]; simp, by rw [hitO]; simp⟩
  have side : ∀ {m led} {s : Shared}, St y m led s → s.heap.get? a = some o := fun S => S.keep _ _ (S₁.tabs.ne60 ho (by rw [hcls]; nofun)) (S₁.tabs.ne48 ho (by rw [hcls]; nofun)) ho
  have W := iter_items (x := y) (a := a) r hDl [.Name n1 p1, .Name n2 p2] q pt
  have hledB : ∀ p ∈ led, p.2.rep x.c.w.params y.B p.1 := fun p hp => (S₁.hled p hp).2.2
  have loop : codeAny (Md x.c) x.A (.compLoop (.DictComp (.Name n1 p3) vx [⟨.Tuple [.Name n1 p1, .Name n2 p2] q pt, iter, [], 0⟩] scope pos) 0 (.ref s₁.heap.objs.size) (.ref (s₁.heap.objs.size + 1)) y.env)
      (fun r s' => r = .ok .next ∧ ∃ m', St y m' [(s₁.heap.objs.size + 1, .dict (kvs.map fun kv => (kv.1, g kv)))] s') { s₁ with heap := h₄, toks := s₁.toks + 0 } := by
    refine compLoop_dict (fun k s' => ∃ i o1 o2 oi, k = kvs.length - i ∧ i ≤ kvs.length ∧ ItItems a kvs.length ep i oi ∧ St y [o1, o2] [(s₁.heap.objs.size + 1, .dict ((kvs.take i).map fun kv => (kv.1, g kv))), (s₁.heap.objs.size, .raw oi)] s') ?_ kvs.length ⟨0, none, none, itO, rfl, Nat.zero_le _, ⟨_, _, hitO⟩, Y2⟩
    rintro k s' ⟨i, o1, o2, oi, rfl, hle, hit, S'⟩
    have hmem : (s₁.heap.objs.size, AO.raw oi) ∈ [(s₁.heap.objs.size + 1, AO.dict ((kvs.take i).map fun kv => (kv.1, g kv))), (s₁.heap.objs.size, .raw oi)] := by simp
    have hI' := S'.hled _ hmem
    have hget := hI'.2.2.1
    have hsd := side S'
    have hnd' := S'.nodup
    rcases Nat.lt_or_ge i kvs.length with hlt | hge
    · refine wpAny_mono (W.next i s' s₁.heap.objs.size oi (fun v sa => wpAny (Md x.c) x.A (assign (.Tuple [.Name n1 p1, .Name n2 p2] q pt) y.env v) (fun _ sb =>
          wpAny (Md x.c) x.A (eval (.Name n1 p3) y.env) (fun kv sc => wpAny (Md x.c) x.A (eval vx y.env) (fun vv sd =>
              wpAny (Md x.c) x.A (dictSet (s₁.heap.objs.size + 1) kv vv) (fun _ se => ∃ mm, mm < kvs.length - i ∧ ∃ i o1 o2 oi, mm = kvs.length - i ∧ i ≤ kvs.length ∧ ItItems a kvs.length ep i oi ∧ St y [o1, o2] [(s₁.heap.objs.size + 1, .dict ((kvs.take i).map fun kv => (kv.1, g kv))), (s₁.heap.objs.size, .raw oi)] se) nE sd) nE sc) nE sb) nE sa) hlt hget hit hsd S'.tabs (fun o' h' tk v hit' hget' hsb' hP htk => ?_)) (fun rr sa h => ?_) fun _ _ e => e.elim
      · have S₂ : St y [o1, o2] [(s₁.heap.objs.size + 1, .dict ((kvs.take i).map fun kv => (kv.1, g kv))), (s₁.heap.objs.size, .raw o')] { s' with heap := h', toks := tk } :=
          ((St.extBut (led := [(s₁.heap.objs.size + 1, .dict ((kvs.take i).map fun kv => (kv.1, g kv)))]) S' hsb').toks tk (Nat.lt_of_lt_of_le S'.tk htk)).add' (o := .raw o') hI'.1 hI'.2.1 (by simp) ⟨hget', W.plain _ _ hit'⟩
        obtain ⟨kk, w, hk, T⟩ := hP
        refine comp_turn (y := y) (v' := w) rfl rfl hdb S₂ T (hv y (kk, w) _ rfl rfl hledB (List.mem_of_getElem? hk)) (by simp; omega) fun se S₅ => ?_
        rw [comp_new hnd hlt hk] at S₅
        exact ⟨kvs.length - (i + 1), by omega, i + 1, _, _, o', rfl, hlt, hit', S₅⟩
      · cases rr with
        | none => exact h.elim
        | some v => exact wpAny_mono h (fun _ s₂ h₂ => h₂) fun _ _ e => e.elim
    · have e : i = kvs.length := Nat.le_antisymm hle hge
      subst e
      refine W.done s' _ oi _ hget hit hsd (fun h' he => ⟨rfl, [o1, o2], ?_⟩)
      have := St.extBut (led := [(s₁.heap.objs.size + 1, .dict ((kvs.take kvs.length).map fun kv => (kv.1, g kv)))]) S' he
      rw [List.take_length] at this
      exact this
  have start : codeAny (Md x.c) x.A (.compStart (.DictComp (.Name n1 p3) vx [⟨.Tuple [.Name n1 p1, .Name n2 p2] q pt, iter, [], 0⟩] scope pos) 0 (.ref s₁.heap.objs.size) (.ref (s₁.heap.objs.size + 1)) y.env)
      (fun r s' => r = .ok .next ∧ ∃ m', St y m' [(s₁.heap.objs.size + 1, .dict (kvs.map fun kv => (kv.1, g kv)))] s') { s₁ with heap := h₄, toks := s₁.toks + 0 } :=
    codeAny_compStart_dict loop (wp_pyIter_self ⟨itO, gI, by rw [hitO]⟩ loop)
  rw [sz1]
  refine codeAny_mono start (fun rr s' h => ?_)
  obtain ⟨rfl, m', S'⟩ := h
  obtain ⟨mm, N, _⟩ := S'.loc
  refine ⟨mm, N, fun h' hs' => ?_⟩
  have EW : ExtW x.c s₁ s' := ⟨S'.ok, S'.keep, S'.size, S'.os⟩
  have EW' := EW.updNs S₁.ok y.hL N hs' s'.toks
  refine ⟨E₁.toExtW.trans EW', _, rfl, ?_, Nat.le_trans E₁.size (Nat.le_succ _)⟩
  obtain ⟨_, hne', ⟨es, n, e, rr⟩, nd⟩ := S'.hled _ (.head _)
  exact ⟨⟨es, n, (hs'.2 _ hne').trans e, rr⟩, nd⟩
end
end
end Mine
end
section
open PySem PySem.W PySem.Calls PyProof.Rows
set_option Elab.async false
set_option maxRecDepth 100000
set_option linter.all false
namespace Mine
noncomputable section
variable (c : Wd)

theorem fn_names : Fn c 109 108 [] 0 := ⟨⟨_, _, _, rfl, rfl, fun us h => by match us, h with | [], _ => rfl⟩, ⟨_, _, _, rfl, rfl, rfl⟩, rfl, rfl, by decide, rfl, rfl, rfl, rfl⟩
def namesL : List Tx := [cp "a", cp "File-Name", cp "b"]
theorem ct_names : Ct c 109 1 [] (fun _ => True) (isList (namesL.map .str)) :=
  (fn_names c).ct fun d hl hp => SX.ret (EX.list (.cons .str (.cons .str (.cons .str .nil rfl) rfl) rfl)) isList_mono

theorem fn_signs : Fn c 178 177 ["table", "number", "least", "value", "written", "place", "sign", "form"] 3 :=
  ⟨⟨_, _, _, rfl, rfl, fun us h => by match us, h with | [_, _, _], _ => rfl⟩, ⟨_, _, _, rfl, rfl, rfl⟩, rfl, by decide +kernel, by decide, rfl, rfl, rfl, rfl⟩

theorem ct_signs {a : Addr} {tab : List (Tx × Tx)} (htab : tabOk tab) (number least : Int) (h0 : 0 ≤ least) (h1 : least ≤ 1) :
    Ct c 178 2 [.ref a, .int number, .int least] (fun h => PairsAt h a tab) (isTup [.str (signs tab number least).1, .str (signs tab number least).2]) :=
  (fn_signs c).ct fun d hl hp => by
    have hn : signsN number least ≤ 4 := by have := fmod4 number; unfold signsN; omega
    have hn' : ((signsN number least : Nat) : Int) = least + number.fmod 4 := by have := fmod4 number; unfold signsN; omega
    have side : ∀ {m led} s, St ((fn_signs c).cx d) m led s → PairsAt s.heap a tab := fun s S => hp.keep d.tB S.keep
    refine SX.unpackO (is := [3, 4]) (.cons rfl (.cons rfl .nil)) (.tupO (.tuple (.cons .str (.cons .str .nil rfl) rfl))) rfl ?_
    refine SX.forRange (t := 5) (n := signsN number least) rfl (EX.range (EX.builtin rfl rfl rfl rfl) (hn' ▸ .bin (.name 2 rfl rfl) (.bin (.name 1 rfl rfl) .int (bin_mod_int (by decide))) bin_add_int) rfl) (by omega)
      (fun i m led => (∃ u v w, m = [some (.ref a), some (.int number), some (.int least), some (.str (signsFold tab number i).1), some (.str (signsFold tab number i).2), u, v, w]) ∧ led = [])
      ⟨⟨_, _, _, rfl⟩, rfl⟩ ?_ ?_
    · rintro i m led I o hi ⟨⟨u, v, w, rfl⟩, rfl⟩
      have hlen := signsFold_len htab number i
      have ht1 := htab.1
      have ht2 := htab.2.1
      have hs := htab.2.2 _ (tabSign_mem htab number i)
      have hr := fmod_range (((number.fdiv 4).fdiv (3 ^ i)) + 5 * (i : Int)) (k := (tab.length : Int)) (by have := htab.1; omega)
      have h3 : (3 : Int) ^ i ≠ 0 := by
        have : i = 0 ∨ i = 1 ∨ i = 2 ∨ i = 3 := by omega
        rcases this with h | h | h | h <;> subst h <;> decide
      have h3' : ((3 : Int) ^ i).natAbs < 1073741824 := by
        have : i = 0 ∨ i = 1 ∨ i = 2 ∨ i = 3 := by omega
        rcases this with h | h | h | h <;> subst h <;> decide
      refine SX.unpackO (is := [6, 7]) (vs := [.str (tabSign tab number i).1, .str (tabSign tab number i).2]) (.cons rfl (.cons rfl .nil)) (EX.pairItem (a := a) (xs := tab) (k := ((((number.fdiv 4).fdiv (3 ^ i)) + 5 * (i : Int)).fmod tab.length)) (.name 0 rfl rfl)
        (.bin (.bin (.bin (.bin (.name 1 rfl rfl) .int (bin_div_int (by decide) (by decide))) (.bin .int (.name 5 rfl rfl) (bin_pow_int (by omega) (by omega) (by decide))) (bin_div_int h3 h3')) (.bin .int (.name 5 rfl rfl) (bin_mul_int (by mul_fits))) bin_add_int)
          (EX.len_pairs (EX.builtin rfl rfl rfl rfl) (.name 0 rfl rfl) rfl side (by omega)) (bin_mod_int (by have := htab.1; omega))) side hr.1 (by omega) (tabSign_get htab number i)) rfl ?_
      refine SX.assign 3 rfl (.bin (.name 3 rfl rfl) (.name 6 rfl rfl) (bin_add_str (by rw [sizeLine_eq]; omega))) ?_
      refine SX.assign 4 rfl (.bin (.name 4 rfl rfl) (.name 7 rfl rfl) (bin_add_str (by rw [sizeLine_eq]; omega))) ?_
      exact SX.nil fun s S => ⟨_, _, ⟨⟨_, _, _, rfl⟩, rfl⟩, S⟩
    · rintro m led ⟨⟨u, v, w, rfl⟩, rfl⟩
      exact SX.ret (.tuple (.cons (.name 3 rfl rfl) (.cons (.name 4 rfl rfl) .nil rfl) rfl)) isTup_mono
end
end Mine
end
section
open PySem PySem.W PySem.Calls PyProof.Rows
set_option Elab.async false
set_option maxRecDepth 100000
set_option linter.all false
namespace Mine
noncomputable section

theorem rep_cp (s : Str) (t : Tok) : (V.str (cp s)).rep (.str s t) := ⟨t, by rw [mkS_cp]⟩

section
variable {x : Cx} {m : Lc} {led : Ld} {Q : Flow → Shared → Prop}

/-- a list of tuples -/
def TupsAt (h : Heap) (a : Addr) (xs : List (List V)) : Prop :=
  ∃ vs n, h.get? a = some { cls := .type "list", data := .seq vs n } ∧ F2 (fun x v => ∃ b, v = .ref b ∧ TupAt h b x) xs vs.toList
theorem TupsAt.keep {h h' : Heap} {a : Addr} {xs : List (List V)} (x : TupsAt h a xs) (T : Tabs h) (k : Keep h h') : TupsAt h' a xs :=
  let ⟨vs, n, e, r⟩ := x
  ⟨vs, n, k _ _ (T.ne60 e nofun) (T.ne48 e nofun) e, F2.imp (fun _ _ ⟨b, e, t⟩ => ⟨b, e, t.keep T k⟩) r⟩
abbrev isTups (xs : List (List V)) : Nat → Value → Heap → Prop := fun n v h' => ∃ a, v = .ref a ∧ TupsAt h' a xs ∧ n ≤ a
theorem isTups_mono {xs : List (List V)} : PMono (isTups xs) := fun _ _ _ _ hn ⟨a, e, t, l⟩ => ⟨a, e, t, Nat.le_trans hn l⟩
theorem isTups_keep {xs : List (List V)} : PKeep (isTups xs) := fun _ _ _ _ ⟨a, e, t, l⟩ T k => ⟨a, e, t.keep T k, l⟩

inductive ETs (x : Cx) (m : Lc) (led : Ld) : List Expr → List (List V) → Prop
  | nil : ETs x m led [] []
  | cons {e es v vs} : EX x m led e (isTup v) → ETs x m led es vs → notStar e = true → ETs x m led (e :: es) (v :: vs)
theorem ETs.wp {es : List Expr} {vs : List (List V)} (h : ETs x m led es vs) (pos : Pos) : ∀ s, St x m led s → wpAny (Md x.c) x.A (spliced (backTo pos (starEach es x.env))) (fun us s' => Ext x.c s s' ∧ F2 (fun x v => ∃ b, v = .ref b ∧ TupAt s'.heap b x) vs us) nE s := by
  induction h with
  | nil => intro s S; exact spliced_nil ⟨.self S, .nil⟩
  | cons h1 h2 hs ih =>
    intro s S
    rw [starEach_cons hs]
    refine spliced_cons (wpAny_mono (h1 s S) (fun v s₁ h₁ => ?_) fun _ _ e => e)
    obtain ⟨E₁, b, rfl, tb, _⟩ := h₁
    exact wpAny_mono (ih s₁ (S.ext E₁)) (fun us s₂ h₂ => ⟨E₁.trans h₂.1, .cons ⟨b, rfl, tb.keep E₁.ok.tabs h₂.1.keep⟩ h₂.2⟩) fun _ _ e => e
theorem EX.tups {es : List Expr} {vs : List (List V)} {pos} (h : ETs x m led es vs) (hl : vs.length ≤ 1000 := by first | (simp; done) | decide) : EX x m led (.List es pos) (isTups vs) := fun s S =>
  wpAny_List_spliced (wpAny_mono (h.wp pos s S) (fun us s₁ h₁ => ⟨by rw [← h₁.2.length, sizeLine_eq]; omega, h₁.1.push _, _, rfl,
    ⟨us.toArray, 0, Heap.get?_push_size _ rfl, by simpa using F2.imp (fun _ _ ⟨b, e, t⟩ => ⟨b, e, t.keep h₁.1.ok.tabs (.push _ _)⟩) h₁.2⟩, h₁.1.size⟩) fun _ _ e => e)
theorem EX.tupsItem {value slice : Expr} {pos : Pos} {xs : List (List V)} {k : Int} {v : List V} (ho : EX x m led value (isTups xs)) (hi : EV x m led slice (.int k)) (h0 : 0 ≤ k) (hlt : k < 2 ^ 63) (hv : xs[k.toNat]? = some v) :
    EX x m led (.Subscript value slice pos) (isTupO v) := by
  refine .sub ho isTups_keep hi ?_
  rintro n s _ _ S ⟨a, rfl, ⟨vs, nn, e, r⟩, _⟩ ⟨u, rfl⟩ _
  obtain ⟨u', e', b, rfl, tb⟩ := r.get hv
  exact ⟨"list", _, slot_list_getitem.lookup, ⟨_, e, rfl⟩, wpAny_getItem_list ⟨_, e, rfl, nn, rfl⟩ h0 hlt (by simpa using e') ⟨.self S, b, rfl, tb⟩⟩
end

variable (c : Wd)

theorem tup2K {h : Heap} {c : Wd} {b : Addr} {s t : Str} {u v : Tok} {n} (B : Base c h) (e : c.K.lookup b = some { cls := .type "tuple", data := .seq #[.str s u, .str t v] n }) : TupAt h b [.str (cp s), .str (cp t)] :=
  ⟨_, _, B.K _ _ e, .cons (rep_cp _ _) (.cons (rep_cp _ _) .nil)⟩
theorem quoted_at {h : Heap} (B : Base c h) : PairsAt h 122 quotedT :=
  ⟨_, _, B.K _ _ rfl, .cons ⟨_, rfl, tup2K B rfl⟩ (.cons ⟨_, rfl, tup2K B rfl⟩ (.cons ⟨_, rfl, tup2K B rfl⟩ (.cons ⟨_, rfl, tup2K B rfl⟩ (.cons ⟨_, rfl, tup2K B rfl⟩ (.cons ⟨_, rfl, tup2K B rfl⟩
    (.cons ⟨_, rfl, tup2K B rfl⟩ (.cons ⟨_, rfl, tup2K B rfl⟩ (.cons ⟨_, rfl, tup2K B rfl⟩ (.cons ⟨_, rfl, tup2K B rfl⟩ (.cons ⟨_, rfl, tup2K B rfl⟩ (.cons ⟨_, rfl, tup2K B rfl⟩ .nil)))))))))))⟩
theorem perc0_at {h : Heap} (B : Base c h) : PairsAt h 131 percT0 :=
  ⟨_, _, B.K _ _ rfl, .cons ⟨_, rfl, tup2K B rfl⟩ (.cons ⟨_, rfl, tup2K B rfl⟩ (.cons ⟨_, rfl, tup2K B rfl⟩ (.cons ⟨_, rfl, tup2K B rfl⟩ (.cons ⟨_, rfl, tup2K B rfl⟩ (.cons ⟨_, rfl, tup2K B rfl⟩ (.cons ⟨_, rfl, tup2K B rfl⟩ (.cons ⟨_, rfl, tup2K B rfl⟩ .nil)))))))⟩
theorem perc1_at {h : Heap} (B : Base c h) : PairsAt h 140 percT1 :=
  ⟨_, _, B.K _ _ rfl, .cons ⟨_, rfl, tup2K B rfl⟩ (.cons ⟨_, rfl, tup2K B rfl⟩ (.cons ⟨_, rfl, tup2K B rfl⟩ (.cons ⟨_, rfl, tup2K B rfl⟩ (.cons ⟨_, rfl, tup2K B rfl⟩ (.cons ⟨_, rfl, tup2K B rfl⟩ (.cons ⟨_, rfl, tup2K B rfl⟩ (.cons ⟨_, rfl, tup2K B rfl⟩ .nil)))))))⟩
theorem perc2_at {h : Heap} (B : Base c h) : PairsAt h 149 percT2 :=
  ⟨_, _, B.K _ _ rfl, .cons ⟨_, rfl, tup2K B rfl⟩ (.cons ⟨_, rfl, tup2K B rfl⟩ (.cons ⟨_, rfl, tup2K B rfl⟩ (.cons ⟨_, rfl, tup2K B rfl⟩ (.cons ⟨_, rfl, tup2K B rfl⟩ (.cons ⟨_, rfl, tup2K B rfl⟩ (.cons ⟨_, rfl, tup2K B rfl⟩ (.cons ⟨_, rfl, tup2K B rfl⟩ .nil)))))))⟩
theorem percs_at {h : Heap} (B : Base c h) : ListAt h 150 [.ref 131, .ref 140, .ref 149] := ⟨_, _, B.K _ _ rfl, .cons rfl (.cons rfl (.cons rfl .nil))⟩

theorem fn_tokens : Fn c 171 170 [] 0 := ⟨⟨_, _, _, rfl, rfl, fun us h => by match us, h with | [], _ => rfl⟩, ⟨_, _, _, rfl, rfl, rfl⟩, rfl, rfl, by decide, rfl, rfl, rfl, rfl⟩
theorem ct_tokens : Ct c 171 1 [] (fun _ => True) (isList (tokensT.map .str)) :=
  (fn_tokens c).ct fun d hl hp => SX.ret (EX.list (.cons .str (.cons .str (.cons .str (.cons .str (.cons .str (.cons .str .nil rfl) rfl) rfl) rfl) rfl) rfl)) isList_mono
theorem fn_none : Fn c 164 163 [] 0 := ⟨⟨_, _, _, rfl, rfl, fun us h => by match us, h with | [], _ => rfl⟩, ⟨_, _, _, rfl, rfl, rfl⟩, rfl, rfl, by decide, rfl, rfl, rfl, rfl⟩
theorem ct_none : Ct c 164 1 [] (fun _ => True) (isList (noneT.map .str)) :=
  (fn_none c).ct fun d hl hp => SX.ret (EX.list (.cons .str (.cons .str (.cons .str (.cons .str (.cons .str (.cons .str (.cons .str .nil rfl) rfl) rfl) rfl) rfl) rfl) rfl)) isList_mono
theorem fn_charsets : Fn c 157 156 [] 0 := ⟨⟨_, _, _, rfl, rfl, fun us h => by match us, h with | [], _ => rfl⟩, ⟨_, _, _, rfl, rfl, rfl⟩, rfl, rfl, by decide, rfl, rfl, rfl, rfl⟩
def charsetsV : List (List V) := [[.str (cp "UTF-8"), .int 0], [.str (cp "utf-8"), .int 0], [.str (cp "ISO-8859-1"), .int 1], [.str (cp "us-ascii"), .int 2], [.str (cp "ASCII"), .int 2]]
theorem charsetsV_eq : charsetsV = charsetsT.map fun p => [.str p.1, .int p.2] := rfl
theorem charset_row (x : Cx) {m : Lc} {led : Ld} {a : Str} {i : Int} {k1 k2 k3 p1 p2 p3} : EX x m led (.Tuple [.Constant (.str a) k1 p1, .Constant (.int i) k2 p2] k3 p3) (isTup [.str (cp a), .int i]) := EX.tuple (.cons .str (.cons .int .nil rfl) rfl)
theorem ct_charsets : Ct c 157 1 [] (fun _ => True) (isTups charsetsV) :=
  (fn_charsets c).ct fun d hl hp => by
    refine SX.ret ?_ ?_
    · unfold charsetsV
      refine EX.tups ?_ ?_
      · iterate 5 refine .cons (charset_row _) ?_ rfl
        exact .nil
      · exact Nat.le_of_ble_eq_true rfl
    · exact isTups_mono

end
end Mine
end
section
open PySem PySem.W PySem.Calls PyProof.Rows
set_option Elab.async false
set_option maxRecDepth 100000
set_option linter.all false
namespace Mine
noncomputable section

section
variable {x : Cx} {m : Lc} {led : Ld} {Q : Flow → Shared → Prop}
theorem SX.retH {e : Expr} {pos : Pos} {rest : List Stmt} {R : Nat → Value → Heap → Prop} (he : EX x m led e R) (hm : PMono R) (hQ : ∀ v s', FQ x R (.ret v) s' → Q (.ret v) s') :
    SX x (.Return (some e) pos :: rest) m led Q := fun s S =>
  wpAny_execs_cons (wpAny_Return_some (wpAny_mono (he s S) (fun v s' h₁ => hQ v s' ⟨⟨m, led, S.ext h₁.1⟩, hm _ _ _ _ S.size h₁.2⟩) fun _ _ e => e))
/-- «if t: (what ends)», and the rest -/
theorem SX.ifEnd {t : Expr} {a : List Stmt} {pos : Pos} {rest : List Stmt} {r : Bool} (ht : IT x m led t r)
    (ha : r = true → SX x a m led (fun f s' => match f with | .next => wpAny (Md x.c) x.A (execs rest x.env) Q nE s' | f => Q f s'))
    (hb : r = false → SX x rest m led Q) : SX x (.If t a [] pos :: rest) m led Q :=
  .if_ ht ha fun h => .nil (hb h)
end

variable (c : Wd)
abbrev ofK : Option Int → V
  | none => .none
  | some k => .int k

theorem fn_part : Fn c 185 184 ["number", "known", "kind", "value", "written", "charset", "table"] 2 :=
  ⟨⟨_, _, _, rfl, rfl, fun us h => by match us, h with | [_, _], _ => rfl⟩, ⟨_, _, _, rfl, rfl, rfl⟩, rfl, by decide +kernel, by decide, rfl, rfl, rfl, rfl⟩

theorem un_list (known : Option Int) : ([V.none, V.int 3].any fun b => veq b (ofK known)) = un known := by
  cases known with
  | none => rfl
  | some k =>
    by_cases h : k = 3
    · subst h; rfl
    · have h' : (3 : Int) ≠ k := fun q => h q.symm
      simp only [List.any_cons, List.any_nil, ofK, veq, un, beq_eq_false_iff_ne.mpr h', Option.some_beq_some, beq_eq_false_iff_ne.mpr h]; rfl
theorem ofK_plain (known : Option Int) : (ofK known).eqPlain = true := by cases known <;> rfl

theorem percs_get {k : Int} (h : k = 0 ∨ k = 1 ∨ k = 2) : ∃ a, ([V.ref 131, V.ref 140, V.ref 149] : List V)[k.toNat]? = some (.ref a) ∧ ∀ {h : Heap}, Base c h → PairsAt h a (percT k) := by
  rcases h with h | h | h <;> subst h
  · exact ⟨131, rfl, fun B => perc0_at c B⟩
  · exact ⟨140, rfl, fun B => perc1_at c B⟩
  · exact ⟨149, rfl, fun B => perc2_at c B⟩

section
variable {x : Cx} {m : Lc} {led : Ld}
/-- «_law_signs(_law_percents[k], n, 1)» -/
theorem ex_percSigns (hx : 2 ≤ x.lvl) {p1 p2 p3 p4 pos : Pos} {ke ne : Expr} {k n : Int}
    (g1 : x.env.kindOf "_law_signs" = some .globalImplicit) (g2 : x.env.kindOf "_law_percents" = some .globalImplicit)
    (hk : EV x m led ke (.int k)) (hk3 : k = 0 ∨ k = 1 ∨ k = 2) (hn : EV x m led ne (.int n)) (hne : notStar ne = true) :
    EX x m led (.Call (.Name "_law_signs" p1) [.Subscript (.Name "_law_percents" p2) ke p3, ne, .Constant (.int 1) 0 p4] [] pos) (isTup [.str (signs (percT k) n 1).1, .str (signs (percT k) n 1).2]) := by
  obtain ⟨a, h1, h2⟩ := percs_get x.c hk3
  refine EX.call (ct_signs x.c (a := a) (percT_ok k) n 1 (by decide) (by decide)) hx (EX.glob rfl rfl g1) ⟨_, _, rfl, rfl⟩ (.cons ?_ (.cons hn (.cons .int .nil rfl) hne) rfl) (fun s S => h2 S.base) isTup_mono
  exact EX.listItem (EX.glob rfl rfl g2) hk (fun s S => percs_at x.c S.base) (by omega) (by omega) h1
end

theorem ct_part (number : Int) (known : Option Int) (hk : knownOk known) :
    Ct c 185 3 [.int number, ofK known] (fun _ => True) (isTup [.str (lawPart number known).1, .str (lawPart number known).2.1, ofK (lawPart number known).2.2]) :=
  (fn_part c).ct fun d hl hp => by
    have hlv : 2 ≤ ((fn_part c).cx d).lvl := by show 2 ≤ d.lvl; omega
    have r5 := fmod_range number (k := 5) (by decide)
    refine SX.assign 2 rfl (.bin (.name 0 rfl rfl) .int (bin_mod_int (by decide))) ?_
    refine SX.assign 0 rfl (.bin (.name 0 rfl rfl) .int (bin_div_int (by decide) (by decide))) ?_
    have tok : ∀ {m led} {p1 p2 p3 p4 p5 p6 : Pos}, m[0]? = some (some (V.int (number.fdiv 5))) → EV ((fn_part c).cx d) m led (.Subscript (.Call (.Name "_law_tokens" p1) [] [] p2) (.BinOp (.Name "number" p3) .Mod (.Constant (.int 6) 0 p4) p5) p6) (.str (tokensT.getD ((number.fdiv 5).fmod 6).toNat [])) := by
      intro m led p1 p2 p3 p4 p5 p6 hm
      have r6 := fmod_range (number.fdiv 5) (k := 6) (by decide)
      refine EX.newItem (xs := tokensT.map .str) (EX.call (ct_tokens c) (by show 1 ≤ d.lvl; omega) (EX.glob rfl rfl rfl) ⟨_, _, rfl, rfl⟩ .nil (fun _ _ => trivial) isList_mono) (.bin (.name 0 rfl hm) .int (bin_mod_int (by decide))) r6.1 (by omega) ?_
      rw [List.getElem?_map, getD_get tokensT [] _ (by show _ < 6; omega)]; rfl
    have tokl : (tokensT.getD ((number.fdiv 5).fmod 6).toNat []).length ≤ 12 := tokensT_len _ (getD_mem _ _ _ (by have r6 := fmod_range (number.fdiv 5) (k := 6) (by decide); show _ < 6; omega))
    have l1 : (cp "=").length = 1 := by decide +kernel
    have l2 : (cp "=\"").length = 2 := by decide +kernel
    have l3 : (cp "\"").length = 1 := by decide +kernel
    have l4 : (cp "*=").length = 2 := by decide +kernel
    have l5 : (cp "*=KOI8-R''").length = 10 := by decide +kernel
    refine SX.ifEnd (.cmp (.name 2 rfl rfl) .int cmp_eq_int) (fun h0 => ?_) (fun h0 => ?_)
    · have h0 := eq_of_beq h0
      have e : lawPart number known = (tokensT.getD ((number.fdiv 5).fmod 6).toNat [], cp "=" ++ tokensT.getD ((number.fdiv 5).fmod 6).toNat [], known) := by unfold lawPart; simp only [h0, if_true]
      rw [e]
      refine SX.retH ?_ isTup_mono (fun _ _ h => h)
      refine EX.tuple ?_
      refine .cons (tok rfl) ?_ rfl
      refine .cons (.bin .str (tok rfl) (bin_add_str ?_)) ?_ rfl
      · rw [sizeLine_eq]; omega
      exact .cons (.name 1 rfl rfl) .nil rfl
    have h0 := beq_eq_false_iff_ne.mp h0
    refine SX.ifEnd (.cmp (.name 2 rfl rfl) .int cmp_eq_int) (fun h1 => ?_) (fun h1 => ?_)
    · have h1 := eq_of_beq h1
      have e : lawPart number known = ((signs quotedT (number.fdiv 5) 0).1, cp "=\"" ++ (signs quotedT (number.fdiv 5) 0).2 ++ cp "\"", known) := by unfold lawPart; simp only [h1, if_true]; rfl
      rw [e]
      have sl := signs_len quotedT_ok (number.fdiv 5) 0 (by decide) (by decide)
      refine SX.unpack (is := [3, 4]) (.cons rfl (.cons rfl .nil)) (EX.call (ct_signs c (a := 122) quotedT_ok (number.fdiv 5) 0 (by decide) (by decide)) hlv (EX.glob rfl rfl rfl) ⟨_, _, rfl, rfl⟩ (.cons (EX.glob rfl rfl rfl) (.cons (.name 0 rfl rfl) (.cons .int .nil rfl) rfl) rfl) (fun s S => quoted_at c S.base) isTup_mono) rfl ?_
      refine SX.retH ?_ isTup_mono (fun _ _ h => h)
      refine EX.tuple ?_
      refine .cons (.name 3 rfl rfl) ?_ rfl
      refine .cons (.bin (.bin .str (.name 4 rfl rfl) (bin_add_str ?_)) .str (bin_add_str ?_)) ?_ rfl
      · rw [sizeLine_eq]; omega
      · rw [sizeLine_eq, List.length_append]; omega
      exact .cons (.name 1 rfl rfl) .nil rfl
    have h1 := beq_eq_false_iff_ne.mp h1
    have hun : ∀ {m led} {p1 p2 p3 p4 p5 : Pos}, m[1]? = some (some (ofK known)) → IT ((fn_part c).cx d) m led (.Compare (.Name "known" p1) [.In] [.List [.Constant .none 0 p2, .Constant (.int 3) 0 p3] p4] p5) (un known) := by
      intro m led p1 p2 p3 p4 p5 hm
      have := IT.inList (pos := p5) (EX.name (x := (fn_part c).cx d) (led := led) (pos := p1) 1 rfl hm) (EX.list (pos := p4) (.cons (.noneC (k := 0) (pos := p2)) (.cons (.int (i := 3) (k := 0) (pos := p3)) .nil rfl) rfl)) (ofK_plain known) rfl
      rw [un_list] at this; exact this
    refine SX.ifEnd (.cmp (.name 2 rfl rfl) .int cmp_eq_int) (fun h3 => ?_) (fun h3 => ?_)
    · have h3 := eq_of_beq h3
      have e : lawPart number known = (if un known then (signs (percT 0) (number.fdiv 5) 1).2 else (signs (percT (known.getD 0)) (number.fdiv 5) 1).1, cp "*=" ++ (signs (percT (if un known then 0 else known.getD 0)) (number.fdiv 5) 1).2, known) := by unfold lawPart; simp only [h3, if_true]; rfl
      rw [e]
      have hk' : (if un known then 0 else known.getD 0) = 0 ∨ (if un known then 0 else known.getD 0) = (1 : Int) ∨ (if un known then 0 else known.getD 0) = 2 := by
        rcases hk with h | h | h | h | h <;> subst h <;> decide
      have sl := signs_len (percT_ok (if un known then 0 else known.getD 0)) (number.fdiv 5) 1 (by decide) (by decide)
      refine SX.unpack (is := [3, 4]) (.cons rfl (.cons rfl .nil)) (ex_percSigns (k := if un known then 0 else known.getD 0) hlv rfl rfl ?_ hk' (.name 0 rfl rfl) rfl) rfl ?_
      · refine EX.ifV (hun rfl) (fun h => ?_) (fun h => ?_)
        · rw [if_pos h]; exact .int
        · rw [if_neg (by rw [h]; decide)]
          have : ofK known = .int (known.getD 0) := by
            cases known with
            | none => exact absurd h (by decide)
            | some k => rfl
          rw [← this]; exact .name 1 rfl rfl
      refine SX.retH ?_ isTup_mono (fun _ _ h => h)
      refine EX.tuple ?_
      refine .cons ?_ ?_ rfl
      · refine EX.ifV (hun rfl) (fun h => ?_) (fun h => ?_)
        · simp only [h, if_true]; exact .name 4 rfl rfl
        · simp only [h, if_false, Bool.false_eq_true]; exact .name 3 rfl rfl
      refine .cons (.bin .str (.name 4 rfl rfl) (bin_add_str ?_)) ?_ rfl
      · rw [sizeLine_eq]; omega
      exact .cons (.name 1 rfl rfl) .nil rfl
    have h3 := beq_eq_false_iff_ne.mp h3
    refine SX.ifEnd (.cmp (.name 2 rfl rfl) .int cmp_eq_int) (fun h4 => ?_) (fun h4 => ?_)
    · have h4 := eq_of_beq h4
      have e : lawPart number known = ((signs (percT 0) (number.fdiv 5) 1).2, cp "*=KOI8-R''" ++ (signs (percT 0) (number.fdiv 5) 1).2, some 3) := by unfold lawPart; simp only [h4, if_true]; rfl
      rw [e]
      have sl := signs_len (percT_ok 0) (number.fdiv 5) 1 (by decide) (by decide)
      refine SX.unpack (is := [3, 4]) (.cons rfl (.cons rfl .nil)) (ex_percSigns (k := 0) hlv rfl rfl .int (.inl rfl) (.name 0 rfl rfl) rfl) rfl ?_
      refine SX.retH ?_ isTup_mono (fun _ _ h => h)
      refine EX.tuple ?_
      refine .cons (.name 4 rfl rfl) ?_ rfl
      refine .cons (.bin .str (.name 4 rfl rfl) (bin_add_str ?_)) ?_ rfl
      · rw [sizeLine_eq]; omega
      exact .cons .int .nil rfl
    have h4 := beq_eq_false_iff_ne.mp h4
    have rc := fmod_range (number.fdiv 5) (k := 5) (by decide)
    have rl := fmod_range ((number.fdiv 5).fdiv 5) (k := 3) (by decide)
    obtain ⟨cs, hcs⟩ : ∃ cs, cs = charsetsT.getD ((number.fdiv 5).fmod 5).toNat ([], 0) := ⟨_, rfl⟩
    obtain ⟨lg, hlg⟩ : ∃ lg, lg = langsT.getD (((number.fdiv 5).fdiv 5).fmod 3).toNat [] := ⟨_, rfl⟩
    have e : lawPart number known = ((signs (percT cs.2) ((number.fdiv 5).fdiv 15) 1).1, cp "*=" ++ cs.1 ++ lg ++ (signs (percT cs.2) ((number.fdiv 5).fdiv 15) 1).2, some cs.2) := by unfold lawPart; simp only [h0, h1, h3, h4, if_false, hcs, hlg]
    rw [e]
    have hcm := charsetsT_len _ (getD_mem charsetsT ([], 0) ((number.fdiv 5).fmod 5).toNat (by show _ < 5; omega))
    rw [← hcs] at hcm
    have hlm := langsT_len _ (getD_mem langsT [] (((number.fdiv 5).fdiv 5).fmod 3).toNat (by show _ < 3; omega))
    rw [← hlg] at hlm
    have sl := signs_len (percT_ok cs.2) ((number.fdiv 5).fdiv 15) 1 (by decide) (by decide)
    refine SX.unpackO (is := [5, 6]) (vs := [.str cs.1, .int cs.2]) (.cons rfl (.cons rfl .nil)) (EX.tupsItem (EX.call (ct_charsets c) (by show 1 ≤ d.lvl; omega) (EX.glob rfl rfl rfl) ⟨_, _, rfl, rfl⟩ .nil (fun _ _ => trivial) isTups_mono) (.bin (.name 0 rfl rfl) .int (bin_mod_int (by decide))) rc.1 (by omega) ?_) rfl ?_
    · rw [charsetsV_eq, List.getElem?_map, getD_get charsetsT ([], 0) _ (by show _ < 5; omega), ← hcs]; rfl
    refine SX.unpack (is := [3, 4]) (.cons rfl (.cons rfl .nil)) (ex_percSigns (k := cs.2) hlv rfl rfl (.name 6 rfl rfl) hcm.2 (.bin (.name 0 rfl rfl) .int (bin_div_int (by decide) (by decide))) rfl) rfl ?_
    refine SX.retH ?_ isTup_mono (fun _ _ h => h)
    refine EX.tuple ?_
    refine .cons (.name 3 rfl rfl) ?_ rfl
    refine .cons (.bin (.bin (.bin .str (.name 5 rfl rfl) (bin_add_str ?_)) (EX.newItem (xs := langsT.map .str) (EX.list (.cons .str (.cons .str (.cons .str .nil rfl) rfl) rfl)) (.bin (.bin (.name 0 rfl rfl) .int (bin_div_int (by decide) (by decide))) .int (bin_mod_int (by decide))) rl.1 (by omega) ?_) (bin_add_str (b := lg) ?_)) (.name 4 rfl rfl) (bin_add_str ?_)) ?_ rfl
    · rw [sizeLine_eq]; omega
    · rw [List.getElem?_map, getD_get langsT [] _ (by show _ < 3; omega), ← hlg]; rfl
    · rw [sizeLine_eq, List.length_append]; omega
    · rw [sizeLine_eq]; simp only [List.length_append]; omega
    exact .cons (.name 6 rfl rfl) .nil rfl
end
end Mine
end
section
open PySem PySem.W PySem.Calls PyProof.Rows
set_option Elab.async false
set_option maxRecDepth 100000
set_option linter.all false
set_option maxHeartbeats 4000000
namespace Mine
noncomputable section

section
variable {x : Cx} {m : Lc} {led : Ld} {Q : Flow → Shared → Prop}
theorem SX.swapped {elts : List Expr} {names : List Str} {is : List Nat} {k : Nat} {pt pos : Pos} {e : Expr} {rest : List Stmt} {vs : List V} (he : EX x m led e (isTup vs))
    (hn : is.map (fun i => x.ns[i]?) = names.reverse.map some) (hl : names.length = vs.length) (kk : SX x rest (setAll m is vs.reverse) led Q)
    (hw : swappedStores [.Tuple elts k pt] e x.env = pure (some names) := by rfl) (hs : swapsWithSole [.Tuple elts k pt] e pos.line x.env = pure false := by rfl) : SX x (.Assign [.Tuple elts k pt] e pos :: rest) m led Q := by
  have hlen : is.length = names.length := by have := congrArg List.length hn; simpa using this
  refine SX.swappedG he (fun j i hj => ?_) hlen (fun s s' v S S' ⟨a, e, T, _⟩ => ⟨a, vs, led, e, T, hl, S', kk⟩) hw hs
  have := congrArg (fun l => l[j]?) hn
  simp only [List.getElem?_map, hj, Option.map_some] at this
  cases hq : names.reverse[j]? with
  | none => rw [hq] at this; cases this
  | some n => rw [hq] at this; simpa using this
theorem SX.ifElse {t : Expr} {a b : List Stmt} {pos : Pos} {rest : List Stmt} {r : Bool} (ht : IT x m led t r)
    (ha : r = true → SX x a m led (fun f s' => match f with | .next => wpAny (Md x.c) x.A (execs rest x.env) Q nE s' | f => Q f s'))
    (hb : r = false → SX x b m led (fun f s' => match f with | .next => wpAny (Md x.c) x.A (execs rest x.env) Q nE s' | f => Q f s')) : SX x (.If t a b pos :: rest) m led Q := .if_ ht ha hb
end

variable (c : Wd)
abbrev ofS : Option Tx → V
  | none => .none
  | some k => .str k
abbrev parV (p : Par) : List V := [.str p.text, .str p.name, ofS p.value, .bool p.cont, ofK p.known]
abbrev codesV (codes : List (Tx × Option Int)) : List (Tx × V) := codes.map fun p => (p.1, ofK p.2)
theorem fn_parameter : Fn c 192 191 ["number", "codes", "name", "kind", "value", "written", "known", "whole", "text", "place"] 2 :=
  ⟨⟨_, _, _, rfl, rfl, fun us h => by match us, h with | [_, _], _ => rfl⟩, ⟨_, _, _, rfl, rfl, rfl⟩, rfl, by decide +kernel, by decide, rfl, rfl, rfl, rfl⟩

theorem ct_parameter (number : Int) (codes : List (Tx × Option Int)) {a : Addr} (ha : a ≠ 1) (hk : ∀ p ∈ codes, knownOk p.2) :
    Ct c 192 4 [.int number, .ref a] (fun h => DictAt c.w.params h a (codesV codes)) (isTup (parV (lawParameter number codes))) :=
  (fn_parameter c).ct fun d hl hp => by
    have hlv : 3 ≤ ((fn_parameter c).cx d).lvl := by show 3 ≤ d.lvl; omega
    have hD : ∀ {m led} s, St ((fn_parameter c).cx d) m led s → DictAt c.w.params s.heap a (codesV codes) := fun s S => hp.keep d.tB S.keep
    have r3 := fmod_range number (k := 3) (by decide)
    have r8 := fmod_range (number.fdiv 3) (k := 8) (by decide)
    obtain ⟨nm, hnm⟩ : ∃ nm, nm = namesT.getD (number.fmod 3).toNat [] := ⟨_, rfl⟩
    have nml := namesT_len _ (getD_mem namesT [] (number.fmod 3).toNat (by show _ < 3; omega))
    rw [← hnm] at nml
    have l1 : (cp " ; ").length = 3 := by decide +kernel
    have l2 : (cp "*").length = 1 := by decide +kernel
    have l3 : (cp "").length = 0 := by decide +kernel
    refine SX.assign 2 (v := .str nm) rfl ?_ ?_
    · refine EX.newItem (xs := namesT.map .str) (EX.call (ct_names c) (by show 1 ≤ d.lvl; omega) (EX.glob rfl rfl rfl) ⟨_, _, rfl, rfl⟩ .nil (fun _ _ => trivial) isList_mono) (.bin (.name 0 rfl rfl) .int (bin_mod_int (by decide))) r3.1 (by omega) ?_
      rw [List.getElem?_map, getD_get namesT [] _ (by show _ < 3; omega), ← hnm]; rfl
    refine SX.assign 3 rfl (.bin (.bin (.name 0 rfl rfl) .int (bin_div_int (by decide) (by decide))) .int (bin_mod_int (by decide))) ?_
    refine SX.assign 0 rfl (.bin (.name 0 rfl rfl) .int (bin_div_int (by decide) (by decide))) ?_
    refine SX.ifEnd (.cmp (.name 3 rfl rfl) .int cmp_eq_int) (fun h7 => ?_) (fun h7 => ?_)
    · have h7 := eq_of_beq h7
      have r7 := fmod_range (number.fdiv 24) (k := 7) (by decide)
      have e : lawParameter number codes = ⟨noneT.getD ((number.fdiv 24).fmod 7).toNat [], [], none, false, none⟩ := by unfold lawParameter; simp only [h7, if_true]
      rw [e]
      refine SX.retH ?_ isTup_mono (fun _ _ h => h)
      refine EX.tuple ?_
      refine .cons (v := .str (noneT.getD ((number.fdiv 24).fmod 7).toNat [])) ?_ ?_ rfl
      · refine EX.newItem (xs := noneT.map .str) (EX.call (ct_none c) (by show 1 ≤ d.lvl; omega) (EX.glob rfl rfl rfl) ⟨_, _, rfl, rfl⟩ .nil (fun _ _ => trivial) isList_mono) (.bin (.name 0 rfl rfl) .int (bin_mod_int (by decide))) r7.1 (by omega) ?_
        rw [List.getElem?_map, getD_get noneT [] _ (by show _ < 7; omega)]; rfl
      refine .cons (v := .str []) ?_ (.cons .noneC (.cons .bool (.cons .noneC .nil rfl) rfl) rfl) rfl
      have : ([] : List Nat) = cp "" := by decide +kernel
      rw [this]; exact .str
    have h7 := beq_eq_false_iff_ne.mp h7
    refine SX.ifEnd (.cmp (.name 3 rfl rfl) .int cmp_gt_int) (fun h2 => ?_) (fun h2 => ?_)
    · have h2 := of_decide_eq_true h2
      have pl := lawPart_len (number.fdiv 24) none
      have e : lawParameter number codes = ⟨(if (number.fdiv 24).fmod 2 = 0 then nm else upperL nm) ++ (lawPart (number.fdiv 24) none).2.1, nm, some (lawPart (number.fdiv 24) none).1, false, none⟩ := by unfold lawParameter; simp only [h7, h2, if_true, if_false, ← hnm]
      rw [e]
      refine SX.unpack (is := [4, 5, 6]) (.cons rfl (.cons rfl (.cons rfl .nil))) (EX.call (ct_part c (number.fdiv 24) none (.inl rfl)) hlv (EX.glob rfl rfl rfl) ⟨_, _, rfl, rfl⟩ (.cons (.name 0 rfl rfl) (.cons .noneC .nil rfl) rfl) (fun _ _ => trivial) isTup_mono) rfl ?_
      refine SX.retH ?_ isTup_mono (fun _ _ h => h)
      refine EX.tuple ?_
      refine .cons (.bin (a := .str (if (number.fdiv 24).fmod 2 = 0 then nm else upperL nm)) ?_ (.name 5 rfl rfl) (bin_add_str ?_)) ?_ rfl
      · refine EX.ifV (.cmp (.bin (.name 0 rfl rfl) .int (bin_mod_int (by decide))) .int cmp_eq_int) (fun h => ?_) (fun h => ?_)
        · rw [if_pos (eq_of_beq h)]; exact .name 2 rfl rfl
        · rw [if_neg (beq_eq_false_iff_ne.mp h)]; exact .upper (.name 2 rfl rfl) (by rw [sizeLine_eq]; omega)
      · rw [sizeLine_eq]; split <;> omega
      exact .cons (.name 2 rfl rfl) (.cons (.name 4 rfl rfl) (.cons .bool (.cons .noneC .nil rfl) rfl) rfl) rfl
    have h2 := of_decide_eq_false h2
    obtain ⟨k0, hk0⟩ : ∃ k0, k0 = (dget codes (lowerL nm)).getD none := ⟨_, rfl⟩
    have kn0 : knownOk k0 := by
      rw [hk0]
      cases hq : dget codes (lowerL nm) with
      | none => exact .inl rfl
      | some v =>
        unfold dget at hq
        obtain ⟨p, hp, rfl⟩ := Option.map_eq_some_iff.mp hq
        exact hk p (List.mem_of_find?_eq_some hp)
    have pn := paramN_le (number.fdiv 24)
    have e : lawParameter number codes = ⟨(paramFold (number.fdiv 24) nm k0 (paramN (number.fdiv 24))).2.1, nm, some (paramFold (number.fdiv 24) nm k0 (paramN (number.fdiv 24))).1, true, (paramFold (number.fdiv 24) nm k0 (paramN (number.fdiv 24))).2.2⟩ := by
      unfold lawParameter; simp only [h7, h2, if_false, ← hnm, ← hk0]
    rw [e]
    have nlen : (paramN (number.fdiv 24) : Int) = 2 + (number.fdiv 24).fmod 3 := by have := fmod_range (number.fdiv 24) (k := 3) (by decide); unfold paramN; omega
    refine SX.swapped (is := [6, 8, 7]) (vs := [.str [], .str [], ofK k0]) (names := ["whole", "text", "known"]) ?_ rfl rfl ?_
    · have e0 : ([] : List Nat) = cp "" := by decide +kernel
      refine EX.tuple ?_
      refine .cons (by rw [e0]; exact .str) ?_ rfl
      refine .cons (by rw [e0]; exact .str) ?_ rfl
      refine .cons ?_ .nil rfl
      refine EX.ifV (.cmp (.lower (.name 2 rfl rfl) (by rw [sizeLine_eq]; omega)) (.name 1 rfl rfl) (cmp_in_dict (kvs := codesV codes) hD ha)) (fun h => ?_) (fun h => ?_)
      · rw [dget_mapV, Option.isSome_map] at h
        obtain ⟨k, hk⟩ := Option.isSome_iff_exists.mp h
        rw [hk0, hk]
        exact EX.dictItem (.name 1 rfl rfl) (.lower (.name 2 rfl rfl) (by rw [sizeLine_eq]; omega)) hD (by rw [dget_mapV, hk]; rfl)
      · rw [dget_mapV, Option.isSome_map] at h
        have h' : dget codes (lowerL nm) = none := by simpa using h
        rw [hk0, h']
        exact .noneC
    refine SX.forRange (t := 9) (n := paramN (number.fdiv 24)) rfl (EX.range (EX.builtin rfl rfl rfl rfl) (nlen ▸ .bin .int (.bin (.name 0 rfl rfl) .int (bin_mod_int (by decide))) bin_add_int) rfl) (by omega)
      (fun i m led => (∃ u1 u2 u3 u4, m = [some (.int (number.fdiv 24)), some (.ref a), some (.str nm), u1, u2, u3, some (ofK (paramFold (number.fdiv 24) nm k0 i).2.2), some (.str (paramFold (number.fdiv 24) nm k0 i).1), some (.str (paramFold (number.fdiv 24) nm k0 i).2.1), u4]) ∧ led = [])
      ⟨⟨_, _, _, _, rfl⟩, rfl⟩ ?_ ?_
    · rintro i m led I o hi ⟨⟨u1, u2, u3, u4, rfl⟩, rfl⟩
      have hl := paramFold_len (number.fdiv 24) nm k0 nml.1 i (by omega)
      have hkn := paramFold_known (number.fdiv 24) nm k0 kn0 i
      have hi5 : i = 0 ∨ i = 1 ∨ i = 2 ∨ i = 3 := by omega
      have h3 : (3 : Int) ^ ((i : Int) + 1).toNat = 3 ^ (i + 1) := by congr 1
      have h3a : (3 : Int) ^ (i + 1) ≠ 0 := by rcases hi5 with h | h | h | h <;> subst h <;> decide
      have h3b : ((3 : Int) ^ (i + 1)).natAbs < 1073741824 := by rcases hi5 with h | h | h | h <;> subst h <;> decide
      have l4 := natTx_len (k := i) (by omega)
      obtain ⟨pp, hpp⟩ : ∃ pp, pp = lawPart ((number.fdiv 24).fdiv (3 ^ (i + 1)) + 7 * (i : Int)) (paramFold (number.fdiv 24) nm k0 i).2.2 := ⟨_, rfl⟩
      have pl := lawPart_len ((number.fdiv 24).fdiv (3 ^ (i + 1)) + 7 * (i : Int)) (paramFold (number.fdiv 24) nm k0 i).2.2
      rw [← hpp] at pl
      have hc := ct_part c ((number.fdiv 24).fdiv (3 ^ (i + 1)) + 7 * (i : Int)) (paramFold (number.fdiv 24) nm k0 i).2.2 hkn
      rw [← hpp] at hc
      refine SX.unpack (is := [4, 5, 6]) (.cons rfl (.cons rfl (.cons rfl .nil))) (EX.call hc hlv (EX.glob rfl rfl rfl) ⟨_, _, rfl, rfl⟩ (.cons (.bin (.bin (.name 0 rfl rfl) (.bin .int (.bin (.name 9 rfl rfl) .int bin_add_int) (bin_pow_int (by omega) (by omega) (by decide))) (by rw [h3]; exact bin_div_int h3a h3b)) (.bin .int (.name 9 rfl rfl) (bin_mul_int (by mul_fits))) bin_add_int) (.cons (.name 6 rfl rfl) .nil rfl) rfl) (fun _ _ => trivial) isTup_mono) rfl ?_
      refine SX.assign 7 rfl (.bin (.name 7 rfl rfl) (.name 4 rfl rfl) (bin_add_str (by rw [sizeLine_eq]; omega))) ?_
      refine SX.assign 8 (v := .str ((paramFold (number.fdiv 24) nm k0 i).2.1 ++ (if 0 < i then cp " ; " else []) ++ nm ++ cp "*" ++ natTx i ++ pp.2.1)) rfl ?_ ?_
      · have le : (if 0 < i then cp " ; " else []).length ≤ 3 := by split; · omega
                                                                    · simp
        refine .bin (.bin (.bin (.bin (.bin (.name 8 rfl rfl) ?_ (bin_add_str ?_)) (.name 2 rfl rfl) (bin_add_str ?_)) .str (bin_add_str ?_)) (EX.str_int (EX.builtin rfl rfl rfl rfl) (.name 9 rfl rfl) rfl ?_) (bin_add_str (b := natTx i) ?_)) (.name 5 rfl rfl) (bin_add_str ?_)
        · refine EX.ifV (.cmp (.name 9 rfl rfl) .int cmp_gt_int) (fun h => ?_) (fun h => ?_)
          · rw [if_pos (by have := of_decide_eq_true h; omega)]; exact .str
          · rw [if_neg (by have := of_decide_eq_false h; omega)]
            have e0 : ([] : List Nat) = cp "" := by decide +kernel
            rw [e0]; exact .str
        all_goals first
          | (simp only [List.length_append, sizeLine_eq]; omega)
          | (rcases hi5 with h | h | h | h <;> subst h <;> decide +kernel)
      exact SX.nil fun s S => ⟨_, _, ⟨⟨_, _, _, _, by rw [hpp]; rfl⟩, rfl⟩, S⟩
    · rintro m led ⟨⟨u1, u2, u3, u4, rfl⟩, rfl⟩
      refine SX.ret ?_ isTup_mono
      exact EX.tuple (.cons (.name 8 rfl rfl) (.cons (.name 2 rfl rfl) (.cons (.name 7 rfl rfl) (.cons .bool (.cons (.name 6 rfl rfl) .nil rfl) rfl) rfl) rfl) rfl)
end
end Mine
end
section
open PySem PySem.W PySem.Calls PyProof.Rows
set_option Elab.async false
set_option maxRecDepth 100000
set_option linter.all false
set_option maxHeartbeats 4000000
namespace Mine
noncomputable section

section
variable {x : Cx} {m : Lc} {led : Ld} {Q : Flow → Shared → Prop}
/-- two branches that meet -/
theorem SX.join {t : Expr} {a b : List Stmt} {pos : Pos} {rest : List Stmt} {r : Bool} (m' : Lc) (led' : Ld) (ht : IT x m led t r)
    (ha : r = true → SX x a m led (fun f s' => match f with | .next => St x m' led' s' | f => Q f s'))
    (hb : r = false → SX x b m led (fun f s' => match f with | .next => St x m' led' s' | f => Q f s'))
    (k : SX x rest m' led' Q) : SX x (.If t a b pos :: rest) m led Q :=
  .if_ ht (fun h s S => wpAny_mono (ha h s S) (fun f s' h => by cases f <;> first | exact k s' h | exact h) fun _ _ e => e)
    (fun h s S => wpAny_mono (hb h s S) (fun f s' h => by cases f <;> first | exact k s' h | exact h) fun _ _ e => e)
end

theorem SX.joinL {x : Cx} {m : Lc} {led : Ld} {Q : Flow → Shared → Prop} {t : Expr} {a b : List Stmt} {pos : Pos} {rest : List Stmt} {r : Bool} (led' : Ld) (ht : IT x m led t r)
    (ha : r = true → SX x a m led (fun f s' => match f with | .next => St x m led' s' | f => Q f s'))
    (hb : r = false → SX x b m led (fun f s' => match f with | .next => St x m led' s' | f => Q f s'))
    (k : SX x rest m led' Q) : SX x (.If t a b pos :: rest) m led Q := SX.join m led' ht ha hb k

abbrev strV (d : List (Tx × Tx)) : List (Tx × V) := d.map fun p => (p.1, V.str p.2)
theorem strV_dset (d : List (Tx × Tx)) (k v : Tx) : strV (dset d k v) = dset (strV d) k (.str v) := dset_map V.str d k v
theorem strV_ddel (d : List (Tx × Tx)) (k : Tx) : strV (ddel d k) = ddel (strV d) k := ddel_map V.str d k
theorem codesV_dset (d : List (Tx × Option Int)) (k : Tx) (v : Option Int) : codesV (dset d k v) = dset (codesV d) k (ofK v) := dset_map ofK d k v
theorem codesV_ddel (d : List (Tx × Option Int)) (k : Tx) : codesV (ddel d k) = ddel (codesV d) k := ddel_map ofK d k
/-- a new tuple of a text and a new dict -/
abbrev isPair (P : Params) (text : Tx) (d : List (Tx × Tx)) : Nat → Value → Heap → Prop := fun n v h' => ∃ a b, v = .ref a ∧ TupAt h' a [.str text, .ref b] ∧ DictAt P h' b (strV d) ∧ n ≤ b
theorem isPair_mono {P t d} : PMono (isPair P t d) := fun _ _ _ _ hn ⟨a, b, e, h1, h2, l⟩ => ⟨a, b, e, h1, h2, Nat.le_trans hn l⟩

section
variable {x : Cx} {m : Lc} {led : Ld} {Q : Flow → Shared → Prop}
theorem St.cast {s : Shared} {led' : Ld} (h : led' = led) (S : St x m led s) : St x m led' s := h ▸ S
theorem Cx.ne1 (x : Cx) {a : Addr} (h : x.B.objs.size ≤ a) : a ≠ 1 := by
  obtain ⟨ps, e⟩ := x.tB.get60
  have := Heap.lt_size e
  intro q
  have : (60 : Nat) < x.B.objs.size := this
  have : x.B.objs.size ≤ 1 := q ▸ h
  omega
theorem St.ledAt {s : Shared} (S : St x m led s) {p : Addr × AO} (hp : p ∈ led) : x.B.objs.size ≤ p.1 := (S.hled p hp).1
/-- what is so of a state may be had ahead of the walk -/
theorem SX.have_ {ss : List Stmt} {C : Prop} (h : ∀ s, St x m led s → C) (k : C → SX x ss m led Q) : SX x ss m led Q := fun s S => k (h s S) s S
end

variable (c : Wd)
theorem fn_read : Fn c 199 198 ["numbers", "text", "plain", "parted", "codes", "number", "written", "name", "value", "continued", "known", "low"] 1 :=
  ⟨⟨_, _, _, rfl, rfl, fun us h => by match us, h with | [_], _ => rfl⟩, ⟨_, _, _, rfl, rfl, rfl⟩, rfl, by decide +kernel, by decide, rfl, rfl, rfl, rfl⟩

abbrev readLed (bp bq bc : Addr) (s : RS) : Ld := [(bp, .dict (strV s.plain)), (bq, .dict (strV s.parted)), (bc, .dict (codesV s.codes))]

theorem ct_read (numbers : List Int) {a : Addr} (hlen : numbers.length ≤ 8) :
    Ct c 199 5 [.ref a] (fun h => ListAt h a (numbers.map .int)) (isPair c.w.params (lawRead numbers).1 (lawRead numbers).2) :=
  (fn_read c).ct fun d hl hp => by
    have hlv : 4 ≤ ((fn_read c).cx d).lvl := by show 4 ≤ d.lvl; omega
    have e0 : ([] : List Nat) = cp "" := by decide +kernel
    refine SX.unpackG (is := [1, 2, 3, 4]) (.cons rfl (.cons rfl (.cons rfl (.cons rfl .nil)))) (EX.tupleD (r := [some (.str []), none, none, none]) ?_) ?_
    · exact .v (by rw [e0]; exact .str) (.d (.d (.d .nil))) rfl
    rintro s s' v S S' ⟨t, vs, rfl, T, F⟩
    obtain ⟨bp, bq, bc, rfl, n1, n2, n3, D1, D2, D3⟩ : ∃ bp bq bc, vs = [.str [], .ref bp, .ref bq, .ref bc] ∧ s.heap.objs.size ≤ bp ∧ bp + 1 ≤ bq ∧ bq + 1 ≤ bc ∧ DictAt c.w.params s'.heap bp [] ∧ DictAt c.w.params s'.heap bq [] ∧ DictAt c.w.params s'.heap bc [] := by
      cases F with
      | v F => cases F with
        | d a1 b1 F => cases F with
          | d a2 b2 F => cases F with
            | d a3 b3 F => cases F with
              | nil => exact ⟨_, _, _, rfl, a1, a2, a3, b1, b2, b3⟩
    have S1 := S.lt
    have S2 := S.size
    have n12 : s.heap.objs.size ≤ bq := Nat.le_trans n1 (Nat.le_of_succ_le n2)
    have n13 : s.heap.objs.size ≤ bc := Nat.le_trans n12 (Nat.le_of_succ_le n3)
    have q1 : bq ≠ bp := Nat.ne_of_gt n2
    have q2 : bc ≠ bq := Nat.ne_of_gt n3
    have q3 : bc ≠ bp := Nat.ne_of_gt (Nat.lt_trans n2 n3)
    have L1 := S'.add' (a := bp) (o := .dict (strV [])) (Nat.le_trans S2 n1) (Nat.ne_of_gt (Nat.lt_of_lt_of_le S1 n1)) (by simp) D1
    have L2 := L1.add' (a := bq) (o := .dict (strV [])) (Nat.le_trans S2 n12) (Nat.ne_of_gt (Nat.lt_of_lt_of_le S1 n12)) (by simpa using q1) D2
    have L3 := L2.add' (a := bc) (o := .dict (codesV [])) (Nat.le_trans S2 n13) (Nat.ne_of_gt (Nat.lt_of_lt_of_le S1 n13)) (by simpa using ⟨q3, q2⟩) D3
    refine ⟨t, _, readLed bp bq bc ⟨[], [], [], []⟩, rfl, T, rfl, L3, ?_⟩
    have lt60 : ∀ {b : Addr}, s.heap.objs.size ≤ b → b ≠ 1 := fun h => ((fn_read c).cx d).ne1 (Nat.le_trans S2 h)
    have hp1 : bp ≠ 1 := lt60 n1
    have hq1 : bq ≠ 1 := lt60 n12
    have hc1 : bc ≠ 1 := lt60 n13
    refine SX.forOld (t := 5) (a := a) (xs := numbers.map .int) rfl (.name 0 rfl rfl) hp
      (fun i m led => (∃ u1 u2 u3 u4 u5 u6 u7, m = [some (.ref a), some (.str (readFold (numbers.take i)).text), some (.ref bp), some (.ref bq), some (.ref bc), u1, u2, u3, u4, u5, u6, u7]) ∧ led = readLed bp bq bc (readFold (numbers.take i)))
      ⟨⟨_, _, _, _, _, _, _, rfl⟩, rfl⟩ ?_ ?_
    · rintro i v m led I o hv ⟨⟨u1, u2, u3, u4, u5, u6, u7, rfl⟩, rfl⟩
      rw [List.getElem?_map] at hv
      obtain ⟨n, hn, rfl⟩ := Option.map_eq_some_iff.mp hv
      have hi : i < numbers.length := (List.getElem?_eq_some_iff.mp hn).1
      have htake : numbers.take (i + 1) = numbers.take i ++ [n] := by rw [List.take_add_one, hn]; rfl
      have hstep : readFold (numbers.take (i + 1)) = readStep (readFold (numbers.take i)) n := by rw [htake, readFold_snoc]
      have hok := readFold_ok (numbers.take i)
      rw [List.length_take, Nat.min_eq_left (Nat.le_of_lt hi)] at hok
      unfold TurnQ
      simp only [hstep]
      clear hstep htake
      generalize readFold (numbers.take i) = s at hok ⊢
      obtain ⟨k1, k2, k3, k4, k5, k6⟩ := hok
      obtain ⟨p1, p2, p3, p4⟩ := parameter_ok n s.codes k6
      have r3 := fmod_range (n.fdiv 24) (k := 3) (by decide)
      have sl := sepsT_len _ (getD_mem sepsT [] ((n.fdiv 24).fmod 3).toNat (by show _ < 3; omega))
      have l2 : (strV s.plain).length = s.plain.length := List.length_map ..
      have l3 : (strV s.parted).length = s.parted.length := List.length_map ..
      have l4 : (codesV s.codes).length = s.codes.length := List.length_map ..
      have l5 : s.codes.length = s.parted.length := by have := congrArg List.length k4; simpa using this
      refine SX.unpack (is := [6, 7, 8, 9, 10]) (.cons rfl (.cons rfl (.cons rfl (.cons rfl (.cons rfl .nil))))) (EX.call (ct_parameter c n s.codes hc1 k6) hlv (EX.glob rfl rfl rfl) ⟨_, _, rfl, rfl⟩ (.cons (.name 5 rfl rfl) (.cons (.name 4 rfl rfl) .nil rfl) rfl) (fun s S => ledDict S (i := 2) rfl) isTup_mono) rfl ?_
      refine SX.assign 1 (v := .str (s.text ++ sepsT.getD ((n.fdiv 24).fmod 3).toNat [] ++ (lawParameter n s.codes).text)) rfl ?_ ?_
      · refine .bin (.bin (.name 1 rfl rfl) (EX.newItem (xs := sepsT.map .str) (EX.list (.cons .str (.cons .str (.cons .str .nil rfl) rfl) rfl)) (.bin (.bin (.name 5 rfl rfl) .int (bin_div_int (by decide) (by decide))) .int (bin_mod_int (by decide))) r3.1 (by omega) ?_) (bin_add_str (b := sepsT.getD ((n.fdiv 24).fmod 3).toNat []) ?_)) (.name 6 rfl rfl) (bin_add_str ?_)
        · rw [List.getElem?_map, getD_get sepsT [] _ (by show _ < 3; omega)]; rfl
        · rw [sizeLine_eq]; omega
        · rw [sizeLine_eq, List.length_append]; omega
      refine SX.ifEnd (.isNone (.name 8 rfl rfl) (by cases (lawParameter n s.codes).value <;> rfl)) (fun hN => ?_) (fun hN => ?_)
      · have hv : (lawParameter n s.codes).value = none := by
          cases hq : (lawParameter n s.codes).value with
          | none => rfl
          | some v => rw [hq] at hN; cases hN
        have e := readStep_none hv
        rw [e]
        exact SX.cont fun st S => ⟨_, _, ⟨⟨_, _, _, _, _, _, _, rfl⟩, rfl⟩, S⟩
      obtain ⟨v, hv⟩ : ∃ v, (lawParameter n s.codes).value = some v := by
        cases hq : (lawParameter n s.codes).value with
        | none => rw [hq] at hN; cases hN
        | some v => exact ⟨v, rfl⟩
      have hvl := p2 v hv
      have e := readStep_some hv
      rw [e]
      clear e hN
      generalize lawParameter n s.codes = p at p1 p2 p3 p4 hv ⊢
      obtain ⟨pt, pn, pv, pc, pk⟩ := p
      dsimp only at p1 p2 p3 p4 hv
      subst hv
      refine SX.assign 11 (v := .str (lowerL pn)) rfl (.lower (l := pn) (.name 7 rfl rfl) (by rw [sizeLine_eq]; omega)) ?_
      refine SX.joinL ([(bp, .dict (strV (ddel s.plain (lowerL pn)))), (bq, .dict (strV s.parted)), (bc, .dict (codesV s.codes))] ++ [(I, .raw o)]) (.cmp (.name 11 rfl rfl) (.name 2 rfl rfl) (cmp_in_dict (fun s S => ledDict S (i := 0) rfl) hp1)) (fun h => ?_) (fun h => ?_) ?_
      · refine SX.delItem 0 (.name 2 rfl rfl) (.name 11 rfl rfl) rfl (by omega) h ?_
        refine .nil fun s' S => ?_
        exact St.cast (by rw [strV_ddel]; rfl) S
      · refine .nil fun s' S => ?_
        rw [dget_mapV, Option.isSome_map] at h
        exact St.cast (by rw [ddel_none s.plain _ (by simpa using h)]) S
      have dl := ddel_len s.plain (lowerL pn)
      have l2' : (strV (ddel s.plain (lowerL pn))).length = (ddel s.plain (lowerL pn)).length := List.length_map ..
      refine SX.ifElse (.value (.name 9 rfl rfl) truth_bool) (fun h => ?_) (fun h => ?_)
      · rw [h]
        refine SX.setItem 1 (v := .str (joined s.parted (lowerL pn) v)) (EX.ifV (.cmp (.name 11 rfl rfl) (.name 3 rfl rfl) (cmp_in_dict (fun s S => ledDict S (i := 1) rfl) hq1)) (fun h => ?_) (fun h => ?_)) (.name 3 rfl rfl) (.name 11 rfl rfl) rfl (by omega) ?_
        · rw [dget_mapV, Option.isSome_map] at h
          obtain ⟨w, hw⟩ := Option.isSome_iff_exists.mp h
          obtain ⟨q, hq, rfl⟩ := dget_mem hw
          have := k5 q hq
          unfold joined; rw [hw]
          exact .bin (EX.dictItem (.name 3 rfl rfl) (.name 11 rfl rfl) (fun s S => ledDict S (i := 1) rfl) (by rw [dget_mapV, hw]; rfl)) (.name 8 rfl rfl) (bin_add_str (by rw [sizeLine_eq]; omega))
        · rw [dget_mapV, Option.isSome_map] at h
          have h' : dget s.parted (lowerL pn) = none := by simpa using h
          unfold joined; rw [h']; exact .name 8 rfl rfl
        refine SX.setItem 2 (.name 10 rfl rfl) (.name 4 rfl rfl) (.name 11 rfl rfl) rfl (by omega) ?_
        refine .nil fun s' S => ?_
        rw [if_pos rfl]
        refine wpAny_execs_nil ⟨_, _, ⟨⟨_, _, _, _, _, _, _, rfl⟩, rfl⟩, St.cast ?_ S⟩
        simp only [readLed]
        rw [strV_ddel, strV_dset, codesV_dset]
        rfl
      · rw [h]
        refine SX.joinL ([(bp, .dict (strV (ddel s.plain (lowerL pn)))), (bq, .dict (strV (ddel s.parted (lowerL pn)))), (bc, .dict (codesV (ddel s.codes (lowerL pn))))] ++ [(I, .raw o)]) (.cmp (.name 11 rfl rfl) (.name 3 rfl rfl) (cmp_in_dict (fun s S => ledDict S (i := 1) rfl) hq1)) (fun h => ?_) (fun h => ?_) ?_
        · refine SX.delItem 1 (.name 3 rfl rfl) (.name 11 rfl rfl) rfl (by omega) h ?_
          refine SX.delItem 2 (.name 4 rfl rfl) (.name 11 rfl rfl) rfl (by omega) ?_ ?_
          · rw [dget_mapV, Option.isSome_map] at h ⊢
            rw [dget_isSome_keys _ _ _ k4]; exact h
          refine .nil fun s' S => ?_
          exact St.cast (by rw [strV_ddel s.parted, codesV_ddel]; rfl) S
        · refine .nil fun s' S => ?_
          rw [dget_mapV, Option.isSome_map] at h
          have h' := h
          rw [← dget_isSome_keys _ _ _ k4] at h'
          exact St.cast (by rw [ddel_none s.parted _ (by simpa using h), ddel_none s.codes _ (by simpa using h')]) S
        refine SX.setItem 0 (.name 8 rfl rfl) (.name 2 rfl rfl) (.name 11 rfl rfl) rfl (by omega) ?_
        refine .nil fun s' S => ?_
        rw [if_neg (by decide)]
        refine wpAny_execs_nil ⟨_, _, ⟨⟨_, _, _, _, _, _, _, rfl⟩, rfl⟩, St.cast ?_ S⟩
        simp only [readLed]
        rw [strV_dset]
        rfl
    · rintro m led ⟨⟨u1, u2, u3, u4, u5, u6, u7, rfl⟩, rfl⟩
      rw [List.length_map, List.take_length]
      have hok := readFold_ok numbers
      unfold lawRead
      generalize readFold numbers = s at hok ⊢
      obtain ⟨k1, k2, k3, k4, k5, k6⟩ := hok
      refine SX.forKeys (t := 11) (j := 1) (a := bq) (kvs := strV s.parted) rfl (.name 3 rfl rfl) rfl hq1
        (fun o i m led => (∃ u1 u2 u3 u4 u5 u6 u7, m = [some (.ref a), some (.str s.text), some (.ref bp), some (.ref bq), some (.ref bc), u1, u2, u3, u4, u5, u6, u7]) ∧ led = [(bp, .dict (strV (merge s.plain (s.parted.take i)))), (bq, .raw o), (bc, .dict (codesV s.codes))])
        (fun o ho => ⟨⟨_, _, _, _, _, _, _, rfl⟩, rfl⟩) ?_ ?_ ?_
      · rintro o i m led ⟨_, rfl⟩; simp
      · rintro o i k v m led I oi ho hk ⟨⟨u1, u2, u3, u4, u5, u6, u7, rfl⟩, rfl⟩
        rw [List.getElem?_map] at hk
        obtain ⟨q, hq, e⟩ := Option.map_eq_some_iff.mp hk
        cases e
        have hi : i < s.parted.length := (List.getElem?_eq_some_iff.mp hq).1
        have ml := merge_len s.plain (s.parted.take i)
        rw [List.length_take] at ml
        have l2' : (strV (merge s.plain (s.parted.take i))).length = (merge s.plain (s.parted.take i)).length := List.length_map ..
        have hnd : ((strV s.parted).map (·.1)).Nodup := by obtain ⟨_, _, _, _, h⟩ := ho; exact h
        refine SX.setItem 0 (EX.dictItem (v := .str q.2) (.name 3 rfl rfl) (.name 11 rfl rfl) (fun st S => ho.at (S.hled (bq, .raw o) (by simp)).2.2.1) (dget_of_nodup (i := i) hnd (by rw [List.getElem?_map, hq]; rfl))) (.name 2 rfl rfl) (.name 11 rfl rfl) rfl (by omega) ?_
        refine .nil fun s' S => ?_
        refine ⟨_, _, ⟨⟨_, _, _, _, _, _, _, rfl⟩, rfl⟩, St.cast ?_ S⟩
        rw [merge_take _ _ _ _ hq, strV_dset]
        rfl
      · rintro o m led ho ⟨⟨u1, u2, u3, u4, u5, u6, u7, rfl⟩, rfl⟩
        rw [List.length_map, List.take_length]
        refine SX.retQ (EX.tuple (.cons (.name 1 rfl rfl) (.cons (.name 2 rfl rfl) .nil rfl) rfl)) ?_
        rintro s' v n S hn ⟨ta, rfl, T, _⟩
        exact ⟨ta, bp, rfl, T, ledDict S (i := 0) rfl, Nat.le_trans S2 n1⟩
end
end Mine
end
section
open PySem PySem.W PySem.Calls PyProof.Rows
set_option Elab.async false
set_option maxRecDepth 100000
set_option linter.all false
set_option maxHeartbeats 4000000
namespace Mine
noncomputable section
variable (c : Wd)
theorem fn_option : Fn c 206 205 ["number", "text", "place", "sign"] 1 :=
  ⟨⟨_, _, _, rfl, rfl, fun us h => by match us, h with | [_], _ => rfl⟩, ⟨_, _, _, rfl, rfl, rfl⟩, rfl, by decide +kernel, by decide, rfl, rfl, rfl, rfl⟩
theorem ct_option (number : Int) : Ct c 206 2 [.int number] (fun _ => True) (isV (.str (lawOption number))) :=
  (fn_option c).ct fun d hl hp => by
    have e0 : ([] : List Nat) = cp "" := by decide +kernel
    have r4 := fmod_range number (k := 4) (by decide)
    have ep : cp "%" = [37] := by decide +kernel
    have ee : cp "é" = [233] := by decide +kernel
    refine SX.assign 1 (v := .str []) rfl (by rw [e0]; exact .str) ?_
    refine SX.forRange (t := 2) (n := (number.fmod 4).toNat) rfl (EX.range (EX.builtin rfl rfl rfl rfl) (by rw [Int.toNat_of_nonneg r4.1]; exact .bin (.name 0 rfl rfl) .int (bin_mod_int (by decide))) rfl) (by omega)
      (fun i m led => (∃ u1 u2, m = [some (.int number), some (.str (optFold number i)), u1, u2]) ∧ led = []) ⟨⟨_, _, rfl⟩, rfl⟩ ?_ ?_
    · rintro i m led I o hi ⟨⟨u1, u2, rfl⟩, rfl⟩
      have hi3 : i = 0 ∨ i = 1 ∨ i = 2 := by omega
      have h3a : (7 : Int) ^ i ≠ 0 := by rcases hi3 with h | h | h <;> subst h <;> decide
      have h3b : ((7 : Int) ^ i).natAbs < 1073741824 := by rcases hi3 with h | h | h <;> subst h <;> decide
      have rc := optCode_range number i
      have fl := optFold_len number i
      refine SX.assign 3 (v := .str [(optCode number i).toNat]) rfl (EX.chr (EX.builtin rfl rfl rfl rfl) ?_ rfl (by omega) (by omega)) ?_
      · exact .bin .int (.bin (.bin (.bin (.bin (.name 0 rfl rfl) .int (bin_div_int (by decide) (by decide))) (.bin .int (.name 2 rfl rfl) (bin_pow_int (by omega) (by omega) (by decide))) (bin_div_int h3a h3b)) (.bin .int (.name 2 rfl rfl) (bin_mul_int (by mul_fits))) bin_add_int) .int (bin_mod_int (by decide))) bin_add_int
      refine SX.assign 1 (v := .str (optFold number i ++ [optSign number i])) rfl ?_ ?_
      · refine .bin (.name 1 rfl rfl) (EX.ifV (.cmp (.name 3 rfl rfl) .str cmp_ne_str) (fun h => ?_) (fun h => ?_)) (bin_add_str (by rw [sizeLine_eq]; simp; omega))
        · rw [ep] at h
          have : optCode number i ≠ 37 := fun q => by rw [q] at h; exact absurd h (by decide)
          unfold optSign; rw [if_neg this]; exact .name 3 rfl rfl
        · rw [ep] at h
          have h1 : [(optCode number i).toNat] = [37] := by simpa using h
          have : optCode number i = 37 := by have := List.cons.inj h1; omega
          unfold optSign; rw [if_pos this, ← ee]; exact .str
      exact SX.nil fun s S => ⟨_, _, ⟨⟨_, _, rfl⟩, rfl⟩, S⟩
    · rintro m led ⟨⟨u1, u2, rfl⟩, rfl⟩
      exact SX.retV (.name 1 rfl rfl)

theorem fn_dumped : Fn c 213 212 ["value", "token", "sign"] 1 :=
  ⟨⟨_, _, _, rfl, rfl, fun us h => by match us, h with | [_], _ => rfl⟩, ⟨_, _, _, rfl, rfl, rfl⟩, rfl, by decide +kernel, by decide, rfl, rfl, rfl, rfl⟩
theorem ct_dumped (value : Tx) (hlen : value.length ≤ 1000) (hl1 : (replL value (cp "\\") (cp "\\\\")).length ≤ 3000) (hl2 : (replL (replL value (cp "\\") (cp "\\\\")) (cp "\"") (cp "\\\"")).length ≤ 10000) : Ct c 213 2 [.str value] (fun _ => True) (isV (.str (lawDumped value))) :=
  (fn_dumped c).ct fun d hl hp => by
    have e0 : cp "" = [] := by decide +kernel
    have e1 : (cp "\\\\").length = 2 := by decide +kernel
    refine SX.assign 1 rfl (.cmp (.name 0 rfl rfl) .str cmp_ne_str) ?_
    refine SX.forStr (t := 2) (l := value) rfl (.name 0 rfl rfl)
      (fun i m led => (∃ u, m = [some (.str value), some (.bool (!value.isEmpty && (value.take i).all isTok)), u]) ∧ led = [])
      ⟨⟨_, by rw [List.take_zero, List.all_nil, Bool.and_true, e0]; cases value <;> rfl⟩, rfl⟩ ?_ ?_
    · rintro i ch m led I o hc ⟨⟨u, rfl⟩, rfl⟩
      have htake : value.take (i + 1) = value.take i ++ [ch] := by rw [List.take_add_one, hc]; rfl
      have ht : (decide (ch ∈ dumpedT)) = containsL dumpedT [ch] := (containsL_one _ _).symm
      refine SX.join [some (.str value), some (.bool (!value.isEmpty && (value.take (i + 1)).all isTok)), some (.str [ch])] [(I, .raw o)] (r := !isTok ch) ?_ (fun h => ?_) (fun h => ?_) (.nil fun s S => ⟨_, _, ⟨⟨_, rfl⟩, rfl⟩, S⟩)
      · have e : (!isTok ch) = if (!containsL dumpedT [ch]) = (BoolOp.And == .And) then (ch != 96) else (!containsL dumpedT [ch]) := by
          unfold isTok; rw [ht]
          cases containsL dumpedT [ch]
          · simp only [Bool.false_or, Bool.not_false, beq_self_eq_true, if_true]; rfl
          · rfl
        rw [e]
        refine .bool (.cons (.cmp (.name 2 rfl rfl) .str cmp_notIn_str) (fun _ => .last ?_))
        have e2 : (ch != 96) = (([ch] : List Nat) != [(96 : Int).toNat]) := by
          by_cases hq : ch = 96
          · subst hq; rfl
          · rw [bne_iff_ne.mpr hq]; symm; rw [bne_iff_ne]; exact fun q => hq (List.cons.inj q).1
        rw [e2]
        exact .cmp (.name 2 rfl rfl) (EX.chr (EX.builtin rfl rfl rfl rfl) .int rfl (by decide) (by decide)) cmp_ne_str
      · refine SX.assign 1 rfl .bool (.nil fun s S => ?_)
        rw [htake, List.all_append]
        have : ([ch] : List Nat).all isTok = false := by rw [List.all_cons, List.all_nil, Bool.and_true]; simpa using h
        rw [this, Bool.and_false, Bool.and_false]
        exact S
      · refine .nil fun s S => ?_
        rw [htake, List.all_append]
        have : ([ch] : List Nat).all isTok = true := by rw [List.all_cons, List.all_nil, Bool.and_true]; simpa using h
        rw [this, Bool.and_true]
        exact S
    · rintro m led ⟨⟨u, rfl⟩, rfl⟩
      rw [List.take_length]
      have l3 : (cp "\"").length = 1 := by decide +kernel
      have lv : (cp "\\\\").length = 2 := by decide +kernel
      have lw : (cp "\\\"").length = 2 := by decide +kernel
      refine SX.retH (R := isV _) ?_ isV_mono (fun _ _ h => h)
      refine EX.ifV (.value (.name 1 rfl rfl) truth_bool) (fun h => ?_) (fun h => ?_)
      · unfold lawDumped; rw [if_pos h]; exact .name 0 rfl rfl
      · unfold lawDumped; rw [if_neg (by rw [h]; decide)]
        have k1 : Str.length "\\\\" = 2 := by decide +kernel
        have k2 : Str.length "\\\"" = 2 := by decide +kernel
        refine .bin (.bin .str (EX.replaceC (EX.replaceC (.name 0 rfl rfl) (by decide +kernel) (by rw [k1]; omega)) (by decide +kernel) (by rw [k2]; omega)) (bin_add_str ?_)) .str (bin_add_str ?_)
        · rw [sizeLine_eq]; omega
        · rw [sizeLine_eq, List.length_append]; omega
end
end Mine
end
section
open PySem PySem.W PySem.Calls PyProof.Rows
set_option Elab.async false
set_option maxRecDepth 100000
set_option linter.all false
set_option maxHeartbeats 8000000
namespace Mine
noncomputable section

section
variable {x : Cx} {m : Lc} {led : Ld}
theorem EX.lowerS {o : Expr} {apos pos : Pos} {l : List Nat} (ho : EV x m led o (.str l)) (hsz : l.length ≤ 5592405)
    (hbase : attributeBase o "lower" x.env (eval o x.env) = eval o x.env := by rfl) (hline : (apos.endLine == pos.line) = true := by rfl) : EV x m led (.Call (.Attribute o "lower" apos) [] [] pos) (.str (lowerL l)) := by
  refine .meth mth_lower ho .nil isV_mono strT ?_ hbase hline
  rintro s _ _ S ⟨t, rfl⟩ (_ | _)
  exact SCL.lower (by rw [mkS_length]; exact hsz) fun _ => ⟨(Ext.self S).toks _, _, by rw [mkS_lowerL]⟩
theorem EX.matNat {o : Expr} {v : V} {w : V} (h : EV x m led o v) (e : v = w) : EV x m led o w := e ▸ h
end

variable (c : Wd)
theorem fn_parse : Fn c 102 101 ["value", "_", "rest", "parts", "scan_pos", "length", "m_key", "pk", "m_value", "quote_pos", "m_delim", "options", "continuations", "continuation_encodings", "pv", "encoding", "has_continuation", "has_charset", "m_mark", "m_charset"] 1 :=
  ⟨⟨_, _, _, rfl, rfl, fun us h => by match us, h with | [_], _ => rfl⟩, ⟨_, _, _, rfl, rfl, rfl⟩, rfl, by decide +kernel, by decide, rfl, rfl, rfl, rfl⟩

def whileSt (c : Wd) : Stmt := ((bodyOf c.w.params 102)[8]?).getD (.Pass ⟨0, 0, 0, 0⟩)

structure Jk where
  k : Option V
  pk : Option V
  v : Option V
  q : Option V
  d : Option V
abbrev scanM (a0 a1 : Option V) (rest : Tx) (bp : Addr) (tl : Lc) (p : Nat) (j : Jk) : Lc :=
  a0 :: a1 :: some (.str rest) :: some (.ref bp) :: some (.int p) :: some (.int rest.length) :: j.k :: j.pk :: j.v :: j.q :: j.d :: tl

theorem scan_while {d : Dyn c} {a0 a1 : Option V} {rest : Tx} {bp : Addr} {tl : Lc} {j : Jk} (hl : rest.length ≤ 50000) {Q : Flow → Shared → Prop}
    (hQ : ∀ p j mats s', St ((fn_parse c).cx d) (scanM a0 a1 rest bp tl p j) ((bp, .pairs (scan rest)) :: mats) s' → Q .next s') :
    SX1 ((fn_parse c).cx d) (whileSt c) (scanM a0 a1 rest bp tl 0 j) [(bp, .pairs [])] Q := by
  have e34 : cp "\"" = [34] := by decide +kernel
  have e92 : cp "\\\\" = [92, 92] := by decide +kernel
  have e93 : cp "\\\"" = [92, 34] := by decide +kernel
  refine SX1.while_ (σ := Nat × List (Tx × Tx) × Jk) (fun a => scanM a0 a1 rest bp tl a.1 a.2.2) (fun a => [(bp, .pairs a.2.1)]) (fun a => a.1 ≤ rest.length ∧ a.2.1 ++ scan (rest.drop a.1) = scan rest ∧ a.2.1.length ≤ a.1) (fun a => rest.length - a.1) ?_ (0, [], j) ⟨Nat.zero_le _, rfl, Nat.le_refl _⟩ rfl rfl
  rintro ⟨p, ps, j⟩ ⟨h1, h2, h3⟩
  dsimp only at h1 h2 h3
  refine ⟨decide ((p : Int) < rest.length), .cmp (.name 4 rfl rfl) (.name 5 rfl rfl) cmp_lt_int, fun ht => ?_, fun hf => ?_⟩
  rotate_left
  · have hp : p = rest.length := by have := of_decide_eq_false hf; omega
    refine .nil fun s S => hQ p j [] s (St.cast ?_ S)
    rw [hp, List.drop_length, scan_nil, List.append_nil] at h2
    rw [h2]
  have hlt : p < rest.length := by have := of_decide_eq_true ht; omega
  have hu : rest.drop p ≠ [] := by intro q; rw [List.drop_eq_nil_iff] at q; omega
  have hsc := scan_cons hu
  refine SX.cons1 (Q1 := fun f s' => match f with
     | .next => ∃ p2 dps j mats, p ≤ p2 ∧ p2 ≤ rest.length ∧ dps.length ≤ 1 ∧ scanTurn (rest.drop p) = (dps, some (rest.drop p2)) ∧ St ((fn_parse c).cx d) (scanM a0 a1 rest bp tl p2 j) ((bp, .pairs (ps ++ dps)) :: mats) s'
     | .brk => ∃ p2 dps j mats, scanTurn (rest.drop p) = (dps, none) ∧ St ((fn_parse c).cx d) (scanM a0 a1 rest bp tl p2 j) ((bp, .pairs (ps ++ dps)) :: mats) s'
     | _ => False) ?_ (fun s' hJ => ?_) (fun f s' hn hJ => ?_)
  · refine SX1.ifW (i := 6) (IT.walrusNotNone rfl (EX.reMatch (EX.glob rfl rfl rfl) (.name 2 rfl rfl) rfl (.name 4 rfl rfl) rfl (fun s S => pat_key S.base) (by decide) (by omega) h1 (key_res (by omega) h1))) (fun nums ad hn hB => ?_) (fun hn => ?_)
    · cases hk : keyOf (rest.drop p) with
      | none => unfold keyNums at hn; rw [hk] at hn; cases hn
      | some Kv =>
        obtain ⟨K, v⟩ := Kv
        unfold keyNums at hn
        rw [hk] at hn
        cases hn
        obtain ⟨e1, e2, e3, e4, e5⟩ := keyOf_some hk
        have hlen : (rest.drop p).length = rest.length - p := List.length_drop
        have hM : ∀ {m led} s, (ad, AO.mat rest [(p : Int), ((p + K.length + 1 : Nat) : Int), (p : Int), ((p + K.length : Nat) : Int)]) ∈ led → St ((fn_parse c).cx d) m led s → MatAt s.heap ad rest [(p : Int), ((p + K.length + 1 : Nat) : Int), (p : Int), ((p + K.length : Nat) : Int)] := fun s hm S => (S.hled _ hm).2.2
        have hg : grpV rest [(p : Int), ((p + K.length + 1 : Nat) : Int), (p : Int), ((p + K.length : Nat) : Int)] 1 = .str K := by
          have : cutL rest (p : Int) ((p + K.length : Nat) : Int) = K := by
            unfold cutL
            rw [Int.toNat_natCast, Int.toNat_natCast]
            have := seg_drop rest p K.length
            unfold seg at this
            rw [this, e1, take_takeWhile]
          show (if (p : Int) < 0 ∨ ((p + K.length : Nat) : Int) < 0 then V.none else .str (cutL rest (p : Int) ((p + K.length : Nat) : Int))) = _
          rw [if_neg (by omega), this]
        have hv : v = rest.drop (p + K.length + 1) := by rw [e5, List.drop_drop]; congr 1
        refine SX.assign 7 (v := .str (lowerL K)) rfl (.lowerS (l := K) (EX.matNat (EX.mGroup (g := 1) (.name 6 rfl rfl) .int rfl (fun s S => hM s (by simp) S) (by simp) (by rw [sizeLine_eq]; omega)) hg) (by omega)) ?_
        refine SX.assign 4 (v := .int ((p + K.length + 1 : Nat) : Int)) rfl (EX.mEnd (.name 6 rfl rfl) (fun s S => hM s (by simp) S) rfl) ?_
        refine SX.last ?_
        have h4 : p + K.length + 1 ≤ rest.length := by omega
        obtain ⟨p1, hp1⟩ : ∃ p1, p1 = p + K.length + 1 := ⟨_, rfl⟩
        rw [← hp1] at hv h4 ⊢
        refine SX1.ifW (i := 8) (IT.walrusNotNone rfl (EX.reMatch (EX.glob rfl rfl rfl) (.name 2 rfl rfl) rfl (.name 4 rfl rfl) rfl (fun s S => pat_tok S.base) (by decide) (by omega) h4 (tok_res (by omega) h4))) (fun nums ad2 hn hB2 => ?_) (fun hn => ?_)
        · cases htk : tokOf (rest.drop p1) with
          | none => unfold tokNums at hn; rw [htk] at hn; cases hn
          | some T =>
            unfold tokNums at hn
            rw [htk] at hn
            cases hn
            have hT : T = (rest.drop p1).takeWhile isKey := by
              unfold tokOf at htk; split at htk
              · cases htk
              · cases htk; rfl
            have tl2 := takeWhile_len isKey (rest.drop p1)
            rw [← hT] at tl2
            have hlen2 : (rest.drop p1).length = rest.length - p1 := List.length_drop
            have hg2 : grpV rest [(p1 : Int), ((p1 + T.length : Nat) : Int)] 0 = .str T := by
              have : cutL rest (p1 : Int) ((p1 + T.length : Nat) : Int) = T := by
                unfold cutL
                rw [Int.toNat_natCast, Int.toNat_natCast]
                have := seg_drop rest p1 T.length
                unfold seg at this
                rw [this, hT, take_takeWhile]
              show (if (p1 : Int) < 0 ∨ ((p1 + T.length : Nat) : Int) < 0 then V.none else .str (cutL rest (p1 : Int) ((p1 + T.length : Nat) : Int))) = _
              rw [if_neg (by omega), this]
            refine SX.expr (WX.appendPair (k := 0) (xs := ps) (v := (lowerL K, T)) (.name 3 rfl rfl) rfl (EX.tuple (.cons (.name 7 rfl rfl) (.cons (EX.matNat (EX.mGroup0 (.name 8 rfl rfl) (fun s S => (S.hled (ad2, .mat rest _) (by simp)).2.2) (by simp) (by rw [sizeLine_eq]; omega)) hg2) .nil rfl) rfl)) rfl (by omega)) ?_
            refine .nil fun s S => ⟨p1, [(lowerL K, T)], ⟨some (.ref ad), some (.str (lowerL K)), some (.ref ad2), j.q, j.d⟩, _, by omega, h4, by simp, ?_, S⟩
            unfold scanTurn
            rw [hk]
            dsimp only
            rw [hv, htk]
        · have htk : tokOf (rest.drop p1) = none := by
            cases htk : tokOf (rest.drop p1) with
            | none => rfl
            | some T => unfold tokNums at hn; rw [htk] at hn; cases hn
          refine SX.last ?_
          refine SX1.if_ (.value (EX.startswith3 (.name 2 rfl rfl) .str rfl (.name 4 rfl rfl) rfl (by omega)) truth_bool) (fun hsw => ?_) (fun hsw => ?_)
          · rw [e34, Int.toNat_natCast, swAt_one] at hsw
            obtain ⟨hp1l, h34⟩ := hsw
            have hd1 : rest.drop p1 = 34 :: rest.drop (p1 + 1) := by rw [drop_cons hp1l, h34]
            refine SX.assign 9 (v := .int ((p1 + 1 : Nat) : Int)) rfl (.bin (.name 4 rfl rfl) .int bin_add_int) ?_
            refine SX.last ?_
            have hturn : scanTurn (rest.drop p) = match closeQ (rest.drop (p1 + 1)) with
                | some (q, after) => ([(lowerL K, 34 :: q)], some after)
                | none => ([], none) := by
              unfold scanTurn
              rw [hk]
              dsimp only
              rw [hv, htk, hd1]
              rfl
            refine SX1.while_ (σ := Nat) (fun q => scanM a0 a1 rest bp tl p1 ⟨some (.ref ad), some (.str (lowerL K)), some .none, some (.int q), j.d⟩) (fun _ => [(bp, .pairs ps), (ad, .mat rest [(p : Int), ((p + K.length + 1 : Nat) : Int), (p : Int), ((p + K.length : Nat) : Int)])])
              (fun q => p1 + 1 ≤ q ∧ q ≤ rest.length ∧ closeQ (rest.drop (p1 + 1)) = (closeQ (rest.drop q)).map fun t => (seg rest (p1 + 1) q ++ t.1, t.2)) (fun q => rest.length - q) ?_ (p1 + 1) ⟨Nat.le_refl _, hp1l, by rw [seg_self]; simp⟩ rfl (by rw [hp1]; rfl)
            rintro q ⟨q1, q2, q3⟩
            refine ⟨decide ((q : Int) < rest.length), .cmp (.name 9 rfl rfl) (.name 5 rfl rfl) cmp_lt_int, fun ht => ?_, fun hf => ?_⟩
            · have hq : q < rest.length := by have := of_decide_eq_true ht; omega
              refine SX.last ?_
              refine SX1.if_ (.value (EX.startswithT (.name 2 rfl rfl) .str rfl .str rfl (.name 9 rfl rfl) rfl (by omega)) truth_bool) (fun hsw => ?_) (fun hsw => ?_)
              · rw [e92, e93, Int.toNat_natCast, Bool.or_eq_true, swAt_two, swAt_two] at hsw
                have hsw' : q + 1 < rest.length ∧ rest.getD q 0 = 92 ∧ (rest.getD (q + 1) 0 = 92 ∨ rest.getD (q + 1) 0 = 34) := by
                  rcases hsw with ⟨a, b, c⟩ | ⟨a, b, c⟩
                  · exact ⟨a, b, .inl c⟩
                  · exact ⟨a, b, .inr c⟩
                obtain ⟨s1, s2, s3⟩ := hsw'
                refine SX.aug 9 rfl rfl .int in_add_int (.nil fun s S => ⟨q + 2, ⟨by omega, by omega, ?_⟩, by omega, S⟩)
                rw [q3, drop_cons hq, drop_cons s1, s2, closeQ_esc _ _ s3]
                rw [seg_snoc s1 (by omega), seg_snoc hq q1, s2]
                cases closeQ (rest.drop (q + 1 + 1)) <;> simp
              · rw [e92, e93, Int.toNat_natCast, Bool.or_eq_false_iff] at hsw
                have hne : ∀ dd t, rest.getD q 0 = 92 → rest.drop (q + 1) = dd :: t → dd ≠ 92 ∧ dd ≠ 34 := by
                  intro dd t h92 hdt
                  have hq1 : q + 1 < rest.length := by
                    rcases Nat.lt_or_ge (q + 1) rest.length with h | h
                    · exact h
                    · rw [List.drop_eq_nil_of_le h] at hdt; cases hdt
                  rw [drop_cons hq1] at hdt
                  have hdd := (List.cons.inj hdt).1
                  refine ⟨fun hh => ?_, fun hh => ?_⟩
                  · have := swAt_two.mpr ⟨hq1, h92, hdd.trans hh⟩
                    rw [hsw.1] at this; cases this
                  · have := swAt_two.mpr ⟨hq1, h92, hdd.trans hh⟩
                    rw [hsw.2] at this; cases this
                refine SX.last ?_
                refine SX1.if_ (.value (EX.startswith3 (.name 2 rfl rfl) .str rfl (.name 9 rfl rfl) rfl (by omega)) truth_bool) (fun hs2 => ?_) (fun hs2 => ?_)
                · rw [e34, Int.toNat_natCast, swAt_one] at hs2
                  have hclose : closeQ (rest.drop (p1 + 1)) = some (seg rest (p1 + 1) q ++ [34], rest.drop (q + 1)) := by
                    rw [q3, drop_cons hq, hs2.2, closeQ_quote]; rfl
                  have hval : pySl rest (some (p1 : Int)) (some ((q : Int) + 1)) = 34 :: (seg rest (p1 + 1) q ++ [34]) := by
                    have e1 : pySl rest (some (p1 : Int)) (some ((q : Int) + 1)) = seg rest p1 (q + 1) := by
                      unfold pySl seg
                      have c1 : pyCl rest.length (p1 : Int) = p1 := by unfold pyCl; omega
                      have c2 : pyCl rest.length ((q : Int) + 1) = q + 1 := by unfold pyCl; omega
                      dsimp only
                      rw [c1, c2]
                    rw [e1, seg_cons (by omega) (by omega), h34, seg_snoc hq q1, hs2.2]
                  refine SX.aug 9 rfl rfl .int in_add_int ?_
                  refine SX.expr (WX.appendPair (k := 0) (xs := ps) (v := (lowerL K, 34 :: (seg rest (p1 + 1) q ++ [34]))) (.name 3 rfl rfl) rfl (EX.tuple (.cons (.name 7 rfl rfl) (.cons (EX.matNat (EX.strSlice (.name 2 rfl rfl) (.at (.name 4 rfl rfl)) (.at (.name 9 rfl rfl)) (by rw [sizeLine_eq]; omega)) (by rw [hval])) .nil rfl) rfl)) rfl (by omega)) ?_
                  refine SX.assign 4 (v := .int ((q + 1 : Nat) : Int)) rfl (.name 9 rfl rfl) ?_
                  refine .brk fun s S => ⟨q + 1, [(lowerL K, 34 :: (seg rest (p1 + 1) q ++ [34]))], ⟨some (.ref ad), some (.str (lowerL K)), some .none, some (.int ((q : Int) + 1)), j.d⟩, _, by omega, by omega, by simp, ?_, S⟩
                  rw [hturn, hclose]
                · rw [e34, Int.toNat_natCast] at hs2
                  have h34' : rest.getD q 0 ≠ 34 := fun h => by have := swAt_one.mpr ⟨hq, h⟩; rw [hs2] at this; cases this
                  refine SX.aug 9 rfl rfl .int in_add_int (.nil fun s S => ⟨q + 1, ⟨by omega, by omega, ?_⟩, by omega, S⟩)
                  rw [q3, drop_cons hq, closeQ_other _ _ h34' (fun dd t h92 hdt => hne dd t h92 hdt), seg_snoc hq q1]
                  cases closeQ (rest.drop (q + 1)) <;> simp
            · have hq : q = rest.length := by have := of_decide_eq_false hf; omega
              refine .brk fun s S => ⟨p1, [], ⟨some (.ref ad), some (.str (lowerL K)), some .none, some (.int q), j.d⟩, _, ?_, St.cast (by rw [List.append_nil]) S⟩
              rw [hturn, q3, hq, List.drop_length, closeQ_nil]; rfl
          · rw [e34, Int.toNat_natCast] at hsw
            refine .nil fun s S => ⟨p1, [], ⟨some (.ref ad), some (.str (lowerL K)), some .none, j.q, j.d⟩, _, by omega, h4, by simp, ?_, St.cast (by rw [List.append_nil]; rfl) S⟩
            unfold scanTurn
            rw [hk]
            dsimp only
            rw [hv, htk]
            dsimp only
            split
            · rename_i r hr
              have hp1l : p1 < rest.length := by
                rcases Nat.lt_or_ge p1 rest.length with h | h
                · exact h
                · rw [List.drop_eq_nil_of_le h] at hr; cases hr
              rw [drop_cons hp1l] at hr
              have := swAt_one.mpr ⟨hp1l, (List.cons.inj hr).1⟩
              rw [hsw] at this; cases this
            · rfl
    · have hk : keyOf (rest.drop p) = none := by
        cases hk : keyOf (rest.drop p) with
        | none => rfl
        | some Kv => unfold keyNums at hn; rw [hk] at hn; cases hn
      refine .nil fun s S => ⟨p, [], ⟨some .none, j.pk, j.v, j.q, j.d⟩, [], Nat.le_refl _, h1, by simp, ?_, St.cast (by rw [List.append_nil]) S⟩
      unfold scanTurn
      rw [hk]
  · obtain ⟨p2, dps, j2, mats, g1, g2, g3, g4, S⟩ := hJ
    revert S
    refine (SX.last (SX1.ifW (i := 10) (IT.walrus rfl (EX.reSearch (EX.glob rfl rfl rfl) (.name 2 rfl rfl) rfl (.name 4 rfl rfl) rfl (fun s S => pat_delim S.base) (by decide) (by omega) g2 (delim_res (by omega) g2))) (fun nums ad hn hB => ?_) (fun hn => ?_)) : SX _ _ _ _ _) s'
    · cases hdl : delimOf (rest.drop p2) with
      | none => unfold delimNums at hn; rw [hdl] at hn; cases hn
      | some u =>
        unfold delimNums at hn
        rw [hdl] at hn
        cases hn
        obtain ⟨g, b, hg, hb, f1, f2, f3⟩ := delimOf_some hdl
        have hlen : (rest.drop p2).length = rest.length - p2 := List.length_drop
        have tl := takeWhile_len isBl ((rest.drop p2).drop (g + 1))
        have hl2 : ((rest.drop p2).drop (g + 1)).length = rest.length - p2 - (g + 1) := by rw [List.length_drop, hlen]
        have hul : u.length = rest.length - (p2 + g + 1 + b) := by rw [f3, List.length_drop, hlen]; omega
        have hue : rest.drop (rest.length - u.length) = u := by rw [hul, f3, List.drop_drop]; congr 1; omega
        refine SX.assign 4 (v := .int ((rest.length - u.length : Nat) : Int)) rfl (EX.mEnd (nums := [((p2 + ((rest.drop p2).takeWhile (· != 59)).length : Nat) : Int), ((rest.length - u.length : Nat) : Int)]) (.name 10 rfl rfl) (fun s S => (S.hled (ad, .mat rest _) (by simp)).2.2) rfl) ?_
        refine .nil fun s S => ⟨(rest.length - u.length, ps ++ dps, ⟨j2.k, j2.pk, j2.v, j2.q, some (.ref ad)⟩), ⟨?_, ?_, ?_⟩, ?_, S.left (l₁ := [(bp, .pairs (ps ++ dps))])⟩
        · show rest.length - u.length ≤ rest.length; omega
        · show ps ++ dps ++ scan (rest.drop (rest.length - u.length)) = scan rest
          rw [hue, ← h2, hsc, g4]
          dsimp only
          rw [hdl, List.append_assoc]
        · show (ps ++ dps).length ≤ rest.length - u.length
          rw [List.length_append]; omega
        · show rest.length - (rest.length - u.length) < rest.length - p; omega
    · have hdl : delimOf (rest.drop p2) = none := by
        cases hdl : delimOf (rest.drop p2) with
        | none => rfl
        | some u => unfold delimNums at hn; rw [hdl] at hn; cases hn
      refine .brk fun s S => hQ p2 ⟨j2.k, j2.pk, j2.v, j2.q, some .none⟩ mats s (St.cast ?_ S)
      rw [← h2, hsc, g4]
      dsimp only
      rw [hdl]
  · cases f with
    | next => exact absurd rfl hn
    | brk =>
      obtain ⟨p2, dps, j2, mats, g4, S⟩ := hJ
      refine hQ p2 j2 mats s' (St.cast ?_ S)
      rw [← h2, hsc, g4]
    | cont => exact hJ.elim
    | ret v => exact hJ.elim
end
end Mine
end
section
open PySem PySem.W PySem.Calls PyProof.Rows
open PySem.Builtin
open PySem.Builtin._codecs (Faults decodeFault Decoder runDecoder Found)
set_option Elab.async false
set_option maxRecDepth 100000
set_option linter.all false
namespace Mine
noncomputable section

theorem Below.ext {c : Wd} {s : Shared} {h' : Heap} {tk : Nat} (ok : Ok c s) (b : Below s.heap.objs.size s.heap h') : ExtW c s { s with heap := h', toks := tk } := by
  have k : Keep s.heap h' := .of fun a o e => (b.same a (Heap.lt_size e)).trans e
  obtain ⟨p1, e1⟩ := ok.tabs.get60
  obtain ⟨p2, e2⟩ := ok.tabs.get48
  exact ⟨⟨ok.base.keep ok.tabs k, ok.tabs.keep k (b.same _ (Heap.lt_size e1)) (b.same _ (Heap.lt_size e2)), ok.bare⟩, k, b.size, rfl⟩

section
variable {t t1 t2 : Tok}
abbrev DecS (ds : List Nat) : PySem.Spec := fun _ R s => ∀ h' tk, Below s.heap.objs.size s.heap h' → ∀ t', R (.ok (.ret (.str (mkS ds) t'))) { s with heap := h', toks := tk }
theorem dec_empty : decU [] = [] ∧ decI [] = [] ∧ decL [] = [] := ⟨rfl, rfl, rfl⟩
theorem road_of {prog : Program} {w : World} {A : Around} {E : Value → Shared → Prop} {s : Shared} {Q : Value → Shared → Prop} {t : Sem Value} {r : Sem (Array Nat × Nat)} {ds : List Nat} (e : t = (r >>= fun q => mkStr ⟨q.1⟩)) (hds : ds.length ≤ 100000)
    (hr : ∀ {Q : Array Nat × Nat → Shared → Prop}, (∀ h' tk q, Below s.heap.objs.size s.heap h' → Q (ds.toArray, q) { s with heap := h', toks := tk }) → wpAny (model prog w) A r Q E s)
    (hQ : ∀ h' tk, Below s.heap.objs.size s.heap h' → ∀ t', Q (.str (mkS ds) t') { s with heap := h', toks := tk }) : wpAny (model prog w) A t Q E s := by
  rw [e]
  refine wpAny_bind (hr fun h' tk q hb => ?_)
  exact wpAny_mkStr (hQ h' _ hb _) (by show (mkS ds).length ≤ _; rw [mkS_length, sizeLine_eq]; omega)

theorem meets_utf8 {bs : List UInt8} (hb : bs.length ≤ 100000) : Meets («bytes.decode» ⟨[.bytes bs.toArray t, .str (Str.ofString "utf-8") t1, .str (Str.ofString "replace") t2], []⟩) (DecS (decU bs)) := by
  have hds : (decU bs).length ≤ 100000 := Nat.le_trans (decA_len (nxU_len _) _ _) hb
  refine .of_wp fun prog w A R s hS => ?_
  cases bs with
  | nil =>
    rw [show ([] : List UInt8).toArray = #[] from rfl, entry_none2 _ _ ⟨.inl rfl, rfl⟩]
    refine wpAny_bind (wpAny_rule ?_)
    exact wpAny_bind (wpAny_mkStr (wpAny_pure ⟨_, rfl, hS s.heap _ (.refl _ _) _⟩) (by decide))
  | cons c cs =>
    rw [entry_utf8]
    refine wpAny_bind (wpAny_mkStr ?_ (by rw [sizeLine_eq]; decide +kernel))
    refine wpAny_bind (wpAny_mkStr ?_ (by rw [sizeLine_eq]; decide +kernel))
    refine wpAny_bind (wpAny_mkStr ?_ (by rw [sizeLine_eq]; decide +kernel))
    refine wpAny_bind (wpAny_mkStr ?_ (by rw [sizeLine_eq]; decide +kernel))
    refine wpAny_bind (call_function_meets KBd.kind_text KBd.plain_text KBd.entry_text (KBd.args_text _ _ _ _) (meets_text (ds := decU) (er := some (Str.ofString "replace")) (.inr ⟨_, _, rfl, rfl⟩) hb hds (fun hQ => road_of road_utf8 hds (fun hq => run_utf8 hb hq) hQ)) ?_)
    exact fun h' tk hbel t' => wpAny_pure ⟨_, rfl, hS h' tk hbel t'⟩
theorem meets_ascii {bs : List UInt8} (hb : bs.length ≤ 100000) : Meets («bytes.decode» ⟨[.bytes bs.toArray t, .str (Str.ofString "ascii") t1, .str (Str.ofString "replace") t2], []⟩) (DecS (decI bs)) := by
  have hds : (decI bs).length ≤ 100000 := Nat.le_trans (decA_len (nxA_len _) _ _) hb
  refine .of_wp fun prog w A R s hS => ?_
  cases bs with
  | nil =>
    rw [show ([] : List UInt8).toArray = #[] from rfl, entry_none2 _ _ ⟨.inr rfl, rfl⟩]
    refine wpAny_bind (wpAny_rule ?_)
    exact wpAny_bind (wpAny_mkStr (wpAny_pure ⟨_, rfl, hS s.heap _ (.refl _ _) _⟩) (by decide))
  | cons c cs =>
    rw [entry_ascii]
    refine wpAny_bind (wpAny_mkStr ?_ (by rw [sizeLine_eq]; decide +kernel))
    refine wpAny_bind (wpAny_mkStr ?_ (by rw [sizeLine_eq]; decide +kernel))
    refine wpAny_bind (wpAny_mkStr ?_ (by rw [sizeLine_eq]; decide +kernel))
    refine wpAny_bind (wpAny_mkStr ?_ (by rw [sizeLine_eq]; decide +kernel))
    refine wpAny_bind (call_function_meets KBd.kind_text KBd.plain_text KBd.entry_text (KBd.args_text _ _ _ _) (meets_text (ds := decI) (er := some (Str.ofString "replace")) (.inr ⟨_, _, rfl, rfl⟩) hb hds (fun hQ => road_of road_ascii hds (fun hq => run_ascii hb hq) hQ)) ?_)
    exact fun h' tk hbel t' => wpAny_pure ⟨_, rfl, hS h' tk hbel t'⟩
theorem meets_latin {bs : List UInt8} (hb : bs.length ≤ 100000) : Meets («bytes.decode» ⟨[.bytes bs.toArray t, .str (Str.ofString "iso-8859-1") t1], []⟩) (DecS (decL bs)) := by
  have hds : (decL bs).length ≤ 100000 := Nat.le_trans (decA_len (nxL_len _) _ _) hb
  refine .of_wp fun prog w A R s hS => ?_
  cases bs with
  | nil =>
    rw [show ([] : List UInt8).toArray = #[] from rfl, entry_none1]
    refine wpAny_bind (wpAny_rule ?_)
    exact wpAny_bind (wpAny_mkStr (wpAny_pure ⟨_, rfl, hS s.heap _ (.refl _ _) _⟩) (by decide))
  | cons c cs =>
    rw [entry_latin]
    refine wpAny_bind (wpAny_mkStr ?_ (by rw [sizeLine_eq]; decide +kernel))
    refine wpAny_bind (wpAny_mkStr ?_ (by rw [sizeLine_eq]; decide +kernel))
    refine wpAny_bind (wpAny_mkStr ?_ (by rw [sizeLine_eq]; decide +kernel))
    refine wpAny_bind (call_function_meets KBd.kind_text KBd.plain_text KBd.entry_text (KBd.args_text _ _ _ _) (meets_text (ds := decL) (er := none) (.inl ⟨rfl, rfl⟩) hb hds (fun hQ => road_of road_latin hds (fun hq => run_latin hb hq) hQ)) ?_)
    exact fun h' tk hbel t' => wpAny_pure ⟨_, rfl, hS h' tk hbel t'⟩
end

section
variable {x : Cx} {m : Lc} {led : Ld}
theorem mth_decode : Mth "bytes" "decode" "bytes.decode" := ⟨FB.plainAttrs_bytes, FB.slot_bytes_decode, FB.type_bytes_decode⟩
theorem bytesT {bs : List UInt8} : ∀ s u, St x m led s → (V.bytes bs).rep u → s.TypeIs u "bytes" ∧ (∀ b, u = .ref b → ∃ ob, s.heap.get? b = some ob ∧ ob.dict = none) := by
  rintro s _ S ⟨t, rfl⟩
  exact ⟨typeIs_bytes _ _ _, fun b e => nomatch e⟩
theorem rep_ofString {y : String} {u : Value} (h : (V.str (cp (Str.ofString y))).rep u) : ∃ t, u = .str (Str.ofString y) t := by
  obtain ⟨t, rfl⟩ := h; exact ⟨t, by rw [mkS_cp]⟩
theorem EX.decUtf8 {o : Expr} {apos pos p1 p2 : Pos} {k1 k2 : Nat} {bs : List UInt8} (ho : EV x m led o (.bytes bs)) (hb : bs.length ≤ 100000)
    (hbase : attributeBase o "decode" x.env (eval o x.env) = eval o x.env := by rfl) (hline : (apos.endLine == pos.line) = true := by rfl) : EV x m led (.Call (.Attribute o "decode" apos) [.Constant (.str "utf-8") k1 p1, .Constant (.str "replace") k2 p2] [] pos) (.str (decU bs)) := by
  refine .meth mth_decode ho (.cons .str (.cons .str .nil rfl) rfl) isV_mono bytesT ?_ hbase hline
  rintro s _ _ S ⟨t, rfl⟩ (_ | ⟨r1, _ | ⟨r2, _ | _⟩⟩)
  obtain ⟨t1, rfl⟩ := rep_ofString r1
  obtain ⟨t2, rfl⟩ := rep_ofString r2
  exact up (call_meets FB.slot_bytes_decode (typeIs_bytes _ _ _) FB.entry_bytes_decode (args_dec_3 _ _ _) (meets_utf8 hb) fun h' tk hbel t' => ⟨hbel.ext S.ok, t', rfl⟩)
theorem EX.decAscii {o : Expr} {apos pos p1 p2 : Pos} {k1 k2 : Nat} {bs : List UInt8} (ho : EV x m led o (.bytes bs)) (hb : bs.length ≤ 100000)
    (hbase : attributeBase o "decode" x.env (eval o x.env) = eval o x.env := by rfl) (hline : (apos.endLine == pos.line) = true := by rfl) : EV x m led (.Call (.Attribute o "decode" apos) [.Constant (.str "ascii") k1 p1, .Constant (.str "replace") k2 p2] [] pos) (.str (decI bs)) := by
  refine .meth mth_decode ho (.cons .str (.cons .str .nil rfl) rfl) isV_mono bytesT ?_ hbase hline
  rintro s _ _ S ⟨t, rfl⟩ (_ | ⟨r1, _ | ⟨r2, _ | _⟩⟩)
  obtain ⟨t1, rfl⟩ := rep_ofString r1
  obtain ⟨t2, rfl⟩ := rep_ofString r2
  exact up (call_meets FB.slot_bytes_decode (typeIs_bytes _ _ _) FB.entry_bytes_decode (args_dec_3 _ _ _) (meets_ascii hb) fun h' tk hbel t' => ⟨hbel.ext S.ok, t', rfl⟩)
theorem EX.decLatin {o : Expr} {apos pos p1 : Pos} {k1 : Nat} {bs : List UInt8} (ho : EV x m led o (.bytes bs)) (hb : bs.length ≤ 100000)
    (hbase : attributeBase o "decode" x.env (eval o x.env) = eval o x.env := by rfl) (hline : (apos.endLine == pos.line) = true := by rfl) : EV x m led (.Call (.Attribute o "decode" apos) [.Constant (.str "iso-8859-1") k1 p1] [] pos) (.str (decL bs)) := by
  refine .meth mth_decode ho (.cons .str .nil rfl) isV_mono bytesT ?_ hbase hline
  rintro s _ _ S ⟨t, rfl⟩ (_ | ⟨r1, _ | _⟩)
  obtain ⟨t1, rfl⟩ := rep_ofString r1
  exact up (call_meets FB.slot_bytes_decode (typeIs_bytes _ _ _) FB.entry_bytes_decode (args_dec_2 _ _) (meets_latin hb) fun h' tk hbel t' => ⟨hbel.ext S.ok, t', rfl⟩)
end
end
end Mine
end
section
open PySem PySem.W PySem.Calls PyProof.Rows
open PySem.Builtin
set_option Elab.async false
set_option maxRecDepth 100000
set_option linter.all false
namespace Mine
noncomputable section
def hexD (c : Nat) : Nat := if c ≤ 57 then c - 48 else if c ≤ 70 then c - 55 else c - 87
def hexL : List Nat := [48, 49, 50, 51, 52, 53, 54, 55, 56, 57, 65, 66, 67, 68, 69, 70, 97, 98, 99, 100, 101, 102]
def hex2 (a b : Nat) : Nat := hexD a * 16 + hexD b
theorem hex_all (t u : Tok) : (hexL.map fun a => hexL.map fun b => «int.__new__» ⟨[.type "int", .str (mkS [a, b]) t, .int 16 u], []⟩) = hexL.map fun a => hexL.map fun b => (mkInt (hex2 a b : Nat) >>= fun v => ret v) := by kernel_rfl
theorem hex_one {a b : Nat} (ha : a ∈ hexL) (hb : b ∈ hexL) (t u : Tok) : «int.__new__» ⟨[.type "int", .str (mkS [a, b]) t, .int 16 u], []⟩ = (mkInt (hex2 a b : Nat) >>= fun v => ret v) :=
  List.map_inj_left.mp (List.map_inj_left.mp (hex_all t u) a ha) b hb
theorem int2_type (a b : Value) : checkTypeCall "int" ⟨[a, b], []⟩ = pure () := by kernel_rfl
theorem int2_new (a b : Value) : checkBuiltinCall "int.__new__" ⟨[.type "int", a, b], []⟩ = pure () := by kernel_rfl
theorem int2_init (o a b : Value) : argsOk "object.__init__" ⟨[o, a, b], []⟩ := by unfold argsOk; kernel_rfl

section
variable {x : Cx} {m : Lc} {led : Ld}
theorem meets_hex {a b : Nat} (ha : a ∈ hexL) (hb : b ∈ hexL) {t u : Tok} : Meets («int.__new__» ⟨[.type "int", .str (mkS [a, b]) t, .int 16 u], []⟩) (fun _ R s => R (.ok (.ret (.int (hex2 a b : Nat) s.toks))) { s with toks := s.toks + 1 }) := by
  refine .of_wp fun prog w A R s hS => ?_
  rw [hex_one ha hb]
  exact wpAny_bind (wpAny_mkInt (wpAny_pure ⟨_, rfl, hS⟩))
theorem EX.hex {p pos p2 : Pos} {k : Nat} {e : Expr} {a b : Nat} (hf : EV x m led (.Name "int" p) (.ty "int")) (he : EV x m led e (.str [a, b])) (hs : notStar e = true) (ha : a ∈ hexL) (hb : b ∈ hexL) :
    EV x m led (.Call (.Name "int" p) [e, .Constant (.int 16) k p2] [] pos) (.int (hex2 a b : Nat)) := by
  refine .callT hf (.cons he (.cons .int .nil rfl) hs) isV_mono ?_
  rintro s _ S (_ | ⟨⟨t, rfl⟩, _ | ⟨⟨u, rfl⟩, _ | _⟩⟩)
  exact callType_new F.called_int F.newNe_int (int2_type _ _) (int2_new _ _) (fun obj => int2_init obj _ _) F.entry_int_new (meets_hex ha hb) ⟨rfl, (Ext.self S).toks _, _, rfl⟩

/-- «bytes([i])» -/
theorem EX.bytes1 {p pos p2 : Pos} {e : Expr} {i : Nat} (hf : EV x m led (.Name "bytes" p) (.ty "bytes")) (he : EV x m led e (.int i)) (hs : notStar e = true) (hi : i < 256) :
    EV x m led (.Call (.Name "bytes" p) [.List [e] p2] [] pos) (.bytes [i.toUInt8]) := by
  intro s S
  refine wpAny_Call_ofName (wpAny_mono (hf s S) (fun u s₁ h₁ => ?_) fun _ _ e => e)
  obtain ⟨E₁, r₁⟩ := h₁
  cases r₁
  have S₁ := S.ext E₁
  have htree : backTo pos (starEach [.List [e] p2] x.env) = [(false, eval (.List [e] p2) x.env)] := by rw [starEach_cons rfl]; rfl
  rw [htree]
  refine Mine.callWith_type rfl (evalArgs_plain (spliced_cons ?_))
  have hev : EVs x m led [e] [.int i] := .cons he .nil hs
  refine wpAny_List_spliced (wpAny_mono (hev.wp p2 s₁ S₁) (fun us s₂ h₂ => ⟨by rw [← h₂.2.length, sizeLine_eq]; simp, spliced_nil ?_⟩) fun _ _ e => e)
  obtain ⟨E₂, hr⟩ := h₂
  rcases hr with _ | ⟨⟨t, rfl⟩, _ | _⟩
  have S₂ := S₁.ext E₂
  have E₃ := (E₁.trans E₂).push { cls := .type "list", data := .seq [.int (i : Int) t].toArray }
  have ok₃ := E₃.ok
  refine wpAny_mono (up (c := x.c) (s := { s₂ with heap := s₂.heap.push { cls := .type "list", data := .seq [.int (i : Int) t].toArray } }) (Q := fun v _ => (V.bytes [i.toUInt8]).rep v) ?_) (fun v s' h => ⟨E₃.trans h.1, h.2⟩) fun _ _ e => e
  refine call_bytes_ints (vs := [.int (i : Int) t]) (ns := [(i : Int)]) ⟨_, Heap.get?_push_size _ rfl, rfl, _, rfl⟩ (.cons _ _ .nil) (fun n hn => by simp at hn; omega) (by rw [sizeLine_eq]; simp) x.hh (fun h' t' k hk => ?_)
  have hsz : s₂.heap.objs.size < h'.objs.size := Heap.lt_size (hk _ _ (Heap.get?_push_size _ rfl))
  have kp : Keep (s₂.heap.push { cls := .type "list", data := .seq [.int (i : Int) t].toArray }) h' := .of hk
  obtain ⟨q1, e1⟩ := ok₃.tabs.get60
  obtain ⟨q2, e2⟩ := ok₃.tabs.get48
  exact ⟨⟨⟨ok₃.base.keep ok₃.tabs kp, ok₃.tabs.keep kp ((hk _ _ e1).trans e1.symm) ((hk _ _ e2).trans e2.symm), ok₃.bare⟩, kp, by rw [Heap.size_push]; exact hsz, rfl⟩, t', by simp [byteArr]⟩
end
theorem noI_bytes_add : typeLookup (.type "bytes") (dunderI "add") = pure none := by rw [typeLookup_type, builtinLookup_eq_fast]; kernel_rfl
section
variable {x : Cx} {m : Lc} {led : Ld}
theorem in_add_bytes {a b : List UInt8} (hsz : a.length + b.length ≤ 16777216) : InOk x m led .Add (.bytes a) (.bytes b) (.bytes (a ++ b)) := by
  rintro s _ _ S ⟨t, rfl⟩ ⟨u, rfl⟩
  refine up ?_
  refine iconcat_gives (typeIs_bytes s _ t) (typeIs_bytes s _ u) noI_bytes_add KBy.noFill_bytes_add KBy.seq_bytes_add FB.slot_bytes_add FB.entry_bytes_add (FB.args_bytes_add_2 _ _) (KBy.gives_bytes_add (KBy.tooLong_not (by simpa using hsz))) ?_
  have key : ∀ t' k, ExtW x.c s { s with toks := k } ∧ (V.bytes (a ++ b)).rep (.bytes (a.toArray ++ b.toArray) t') := fun t' k => ⟨.selfT S _, t', by simp⟩
  by_cases hb : a.toArray.isEmpty = true
  · rw [if_pos hb]
    have e : a.toArray = #[] := Array.isEmpty_iff.1 hb
    have h' := key u s.toks
    rw [e, Array.empty_append] at h'
    exact h'
  · rw [if_neg hb]
    by_cases hc : b.toArray.isEmpty = true
    · rw [if_pos hc]
      have e : b.toArray = #[] := Array.isEmpty_iff.1 hc
      have h' := key t s.toks
      rw [e, Array.append_empty] at h'
      exact h'
    · rw [if_neg hc]
      exact ⟨by rw [Array.size_append, sizeLine_eq]; simpa using hsz, key s.toks (s.toks + 1)⟩
end
end
end Mine
end
section
open PySem PySem.W PySem.Calls PyProof.Rows
set_option Elab.async false
set_option maxRecDepth 100000
set_option linter.all false
set_option maxHeartbeats 8000000
namespace Mine
noncomputable section
variable (c : Wd)

theorem fn_text : Fn c 38 37 ["octets", "encoding"] 2 := ⟨⟨_, _, _, rfl, rfl, fun us h => by match us, h with | [_, _], _ => rfl⟩, ⟨_, _, _, rfl, rfl, rfl⟩, rfl, rfl, by decide, rfl, rfl, rfl, rfl⟩
theorem ct_text (bs : List UInt8) (enc : Tx) (hb : bs.length ≤ 100000) : Ct c 38 1 [.bytes bs, .str enc] (fun _ => True) (isV (.str (textDec enc bs))) :=
  (fn_text c).ct fun d hl hp => by
    refine SX.ifEnd (.cmp (.name 1 rfl rfl) .str cmp_eq_str) (fun h1 => ?_) (fun h1 => ?_)
    · have h1 := eq_of_beq h1
      unfold textDec; rw [if_pos h1]
      exact SX.retH (R := isV _) (EX.decUtf8 (.name 0 rfl rfl) hb) isV_mono (fun _ _ h => h)
    have h1 := beq_eq_false_iff_ne.mp h1
    refine SX.ifEnd (.cmp (.name 1 rfl rfl) .str cmp_eq_str) (fun h2 => ?_) (fun h2 => ?_)
    · have h2 := eq_of_beq h2
      unfold textDec; rw [if_neg h1, if_pos h2]
      exact SX.retH (R := isV _) (EX.decLatin (.name 0 rfl rfl) hb) isV_mono (fun _ _ h => h)
    have h2 := beq_eq_false_iff_ne.mp h2
    unfold textDec; rw [if_neg h1, if_neg h2]
    exact SX.retH (R := isV _) (EX.decAscii (.name 0 rfl rfl) hb) isV_mono (fun _ _ h => h)

theorem digitsCp : cp "0123456789ABCDEFabcdef" = [48, 49, 50, 51, 52, 53, 54, 55, 56, 57, 65, 66, 67, 68, 69, 70, 97, 98, 99, 100, 101, 102] := by decide +kernel
theorem isHex_contains (ch : Nat) : containsL (cp "0123456789ABCDEFabcdef") [ch] = isHex ch := by rw [containsL_one, digitsCp]; rfl
theorem fn_unquote : Fn c 45 44 ["string", "encoding", "out", "octets", "pos"] 2 := ⟨⟨_, _, _, rfl, rfl, fun us h => by match us, h with | [_, _], _ => rfl⟩, ⟨_, _, _, rfl, rfl, rfl⟩, rfl, by decide +kernel, by decide, rfl, rfl, rfl, rfl⟩

theorem body_unquote {d : Dyn c} {st enc : Tx} (hs : ∀ ch ∈ st, ch < 128) (hlen : st.length ≤ 50000) (hl : 1 ≤ d.lvl) :
    SX ((fn_unquote c).cx d) (bodyOf c.w.params 45) [some (.str st), some (.str enc), none, none, none] [] (FQ ((fn_unquote c).cx d) (isV (.str (unquoteT st enc)))) := by
  have e0 : ([] : List Nat) = cp "" := by decide +kernel
  have e37 : cp "%" = [37] := by decide +kernel
  refine SX.unpack (is := [2, 3, 4]) (vs := [.str [], .bytes [], .int 0]) (.cons rfl (.cons rfl (.cons rfl .nil))) (.tuple (.cons (by rw [e0]; exact .str) (.cons .bytes (.cons .int .nil rfl) rfl) rfl)) rfl ?_
  refine SX.cons1 (Q1 := fun f s' => match f with | .next => St ((fn_unquote c).cx d) [some (.str st), some (.str enc), some (.str []), some (.bytes (octs st)), some (.int st.length)] [] s' | _ => False) ?_ (fun s' S => ?_) (fun f s' hn h => ?_)
  · refine SX1.while_ (σ := Nat × List UInt8) (fun a => [some (.str st), some (.str enc), some (.str []), some (.bytes a.2), some (.int a.1)]) (fun _ => []) (fun a => a.1 ≤ st.length ∧ a.2 ++ octs (st.drop a.1) = octs st) (fun a => st.length - a.1) ?_ (0, []) ⟨Nat.zero_le _, rfl⟩ rfl rfl
    rintro ⟨p, bs⟩ ⟨h1, h2⟩
    dsimp only at h1 h2
    have ol := octs_len st
    have bl : bs.length ≤ st.length := by have := congrArg List.length h2; rw [List.length_append] at this; omega
    refine ⟨decide ((p : Int) < st.length), .cmp (.name 4 rfl rfl) (EX.len_str (EX.builtin rfl rfl rfl rfl) (.name 0 rfl rfl) rfl (by rw [sizeLine_eq]; omega)) cmp_lt_int, fun ht => ?_, fun hf => ?_⟩
    rotate_left
    · have hp : p = st.length := by have := of_decide_eq_false hf; omega
      refine .nil fun s S => ?_
      rw [hp, List.drop_length, octs_nil, List.append_nil] at h2
      rw [h2, hp] at S
      exact S
    have hlt : p < st.length := by have := of_decide_eq_true ht; omega
    obtain ⟨ch, hch⟩ : ∃ ch, st[p]? = some ch := ⟨st[p], List.getElem?_eq_getElem hlt⟩
    have hgd : st.getD p 0 = ch := by rw [List.getD_eq_getElem?_getD, hch]; rfl
    have hdrop : st.drop p = ch :: st.drop (p + 1) := by rw [drop_cons hlt, hgd]
    have hc128 := hs ch (List.mem_of_getElem? hch)
    have hp63 : (p : Int) < 2 ^ 63 := by omega
    obtain ⟨r, hr⟩ : ∃ r : Bool, r = (ch == 37 && decide (p + 2 < st.length) && isHex (st.getD (p + 1) 0) && isHex (st.getD (p + 2) 0)) := ⟨_, rfl⟩
    have htest : r = if ((([ch] : List Nat) == [37]) = (BoolOp.And == .And)) then (if (decide (((p : Int) + 2) < (st.length : Int)) = (BoolOp.And == .And)) then (if (isHex (st.getD (p + 1) 0) = (BoolOp.And == .And)) then isHex (st.getD (p + 2) 0) else isHex (st.getD (p + 1) 0)) else decide (((p : Int) + 2) < (st.length : Int))) else (([ch] : List Nat) == [37]) := by
      have c1 : (BoolOp.And == .And) = true := rfl
      have c2 : (([ch] : List Nat) == [37]) = (ch == 37) := by
        by_cases h : ch = 37
        · subst h; rfl
        · rw [beq_eq_false_iff_ne.mpr h, beq_eq_false_iff_ne.mpr (fun q => h (List.cons.inj q).1)]
      have c3 : decide (((p : Int) + 2) < (st.length : Int)) = decide (p + 2 < st.length) := by
        by_cases h : p + 2 < st.length
        · rw [decide_eq_true h, decide_eq_true (by omega)]
        · rw [decide_eq_false h, decide_eq_false (by omega)]
      rw [hr, c1, c2, c3]
      cases ch == 37 <;> cases decide (p + 2 < st.length) <;> cases isHex (st.getD (p + 1) 0) <;> simp
    have gi1 : p + 1 < st.length → st[((p : Int) + 1).toNat]? = some (st.getD (p + 1) 0) := by
      intro h
      rw [show ((p : Int) + 1).toNat = p + 1 from by omega, getD_get st 0 (p + 1) h]
    have gi2 : p + 2 < st.length → st[((p : Int) + 2).toNat]? = some (st.getD (p + 2) 0) := by
      intro h
      rw [show ((p : Int) + 2).toNat = p + 2 from by omega, getD_get st 0 (p + 2) h]
    refine SX.cons1 (Q1 := fun f s' => match f with
      | .next => St ((fn_unquote c).cx d) [some (.str st), some (.str enc), some (.str []), some (.bytes bs), some (.int p)] [] s' ∧ r = false
      | .cont => ∃ a' : Nat × List UInt8, (a'.1 ≤ st.length ∧ a'.2 ++ octs (st.drop a'.1) = octs st) ∧ st.length - a'.1 < st.length - p ∧ St ((fn_unquote c).cx d) [some (.str st), some (.str enc), some (.str []), some (.bytes a'.2), some (.int a'.1)] [] s'
      | _ => False) ?_ (fun s' hJ => ?_) (fun f s' hn hJ => ?_)
    · refine SX1.if_ (r := r) ?_ (fun h => ?_) (fun h => ?_)
      · rw [htest]
        refine .bool (.cons ?_ (fun hb1 => .cons (.cmp (EX.len_str (EX.builtin rfl rfl rfl rfl) (.name 0 rfl rfl) rfl (by rw [sizeLine_eq]; omega)) (.bin (.name 4 rfl rfl) .int bin_add_int) cmp_gt_int) (fun hb2 => ?_)))
        · rw [← e37]
          exact .cmp (EX.strItem (.name 0 rfl rfl) (.name 4 rfl rfl) (by omega) hp63 (by rw [Int.toNat_natCast]; exact hch)) .str cmp_eq_str
        · have h2l : p + 2 < st.length := by
            have : decide (((p : Int) + 2) < (st.length : Int)) = true := hb2
            have := of_decide_eq_true this; omega
          refine .cons ?_ (fun hb3 => .last ?_)
          · rw [← isHex_contains]
            exact .cmp (EX.strItem (.name 0 rfl rfl) (.bin (.name 4 rfl rfl) .int bin_add_int) (by omega) (by omega) (gi1 (by omega))) (EX.glob rfl (rep_cp _ _) rfl) cmp_in_str
          · rw [← isHex_contains]
            exact .cmp (EX.strItem (.name 0 rfl rfl) (.bin (.name 4 rfl rfl) .int bin_add_int) (by omega) (by omega) (gi2 h2l)) (EX.glob rfl (rep_cp _ _) rfl) cmp_in_str
      · rw [h] at hr
        have hr' := hr.symm
        simp only [Bool.and_eq_true, beq_iff_eq, decide_eq_true_eq] at hr'
        obtain ⟨⟨⟨g1, g2⟩, g3⟩, g4⟩ := hr'
        have hsl : pySl st (some ((p : Int) + 1)) (some ((p : Int) + 3)) = [st.getD (p + 1) 0, st.getD (p + 2) 0] := by
          have e1 : pySl st (some ((p : Int) + 1)) (some ((p : Int) + 3)) = seg st (p + 1) (p + 3) := by
            unfold pySl seg
            have c1 : pyCl st.length ((p : Int) + 1) = p + 1 := by unfold pyCl; omega
            have c2 : pyCl st.length ((p : Int) + 3) = p + 3 := by unfold pyCl; omega
            dsimp only
            rw [c1, c2]
          rw [e1, seg_cons (by omega) (by omega), seg_cons (by omega) (by omega), seg_self]
        have m1 : st.getD (p + 1) 0 ∈ hexL := of_decide_eq_true g3
        have m2 : st.getD (p + 2) 0 ∈ hexL := of_decide_eq_true g4
        have hlt256 : hex2 (st.getD (p + 1) 0) (st.getD (p + 2) 0) < 256 := by
          have : ∀ a ∈ hexL, ∀ b ∈ hexL, hex2 a b < 256 := by decide +kernel
          exact this _ m1 _ m2
        refine SX.aug 3 rfl rfl (EX.bytes1 (EX.builtin rfl rfl rfl rfl) (EX.hex (EX.builtin rfl rfl rfl rfl) (EX.matNat (EX.strSlice (.name 0 rfl rfl) (.at (.bin (.name 4 rfl rfl) .int bin_add_int)) (.at (.bin (.name 4 rfl rfl) .int bin_add_int)) (by rw [sizeLine_eq]; omega)) (by rw [hsl])) rfl m1 m2) rfl hlt256) (in_add_bytes (by simp; omega)) ?_
        refine SX.aug 4 rfl rfl .int in_add_int ?_
        refine .cont fun s S => ⟨(p + 3, bs ++ [(hex2 (st.getD (p + 1) 0) (st.getD (p + 2) 0)).toUInt8]), ⟨by dsimp only; omega, ?_⟩, by dsimp only; omega, S⟩
        dsimp only
        rw [← h2, hdrop, g1, drop_cons (by omega : p + 1 < st.length), drop_cons g2, octs_hex g3 g4, List.append_assoc]
        rfl
      · exact .nil fun s S => ⟨S, h⟩
    · obtain ⟨S, hrf⟩ := hJ
      revert S
      have hoct : octs (st.drop p) = ch.toUInt8 :: octs (st.drop (p + 1)) := by
        rw [hdrop]
        refine octs_other ?_
        rintro ⟨q1, a, b, t, q2, q3, q4⟩
        have hl2 : p + 2 < st.length := by
          have := congrArg List.length q2; rw [List.length_drop] at this; simp at this; omega
        rw [drop_cons (by omega : p + 1 < st.length), drop_cons hl2] at q2
        have i1 := (List.cons.inj q2).1
        have i2 := (List.cons.inj (List.cons.inj q2).2).1
        rw [hr, q1, decide_eq_true hl2, i1, i2, q3, q4] at hrf
        cases hrf
      refine (SX.cons1 (Q1 := fun f s' => match f with
        | .next => St ((fn_unquote c).cx d) [some (.str st), some (.str enc), some (.str []), some (.bytes (bs ++ [ch.toUInt8])), some (.int p)] [] s'
        | _ => False) (SX1.if_ (r := decide ((ch : Int) < 128)) (.cmp (EX.ord (EX.builtin rfl rfl rfl rfl) (EX.strItem (.name 0 rfl rfl) (.name 4 rfl rfl) (by omega) hp63 (by rw [Int.toNat_natCast]; exact hch)) rfl) .int cmp_lt_int) (fun _ => ?_) (fun h => ?_)) (fun s' S => ?_) (fun f s' hn hJ => ?_) : SX _ _ _ _ _) s'
      · exact SX.aug 3 rfl rfl (EX.bytes1 (EX.builtin rfl rfl rfl rfl) (EX.ord (EX.builtin rfl rfl rfl rfl) (EX.strItem (.name 0 rfl rfl) (.name 4 rfl rfl) (by omega) hp63 (by rw [Int.toNat_natCast]; exact hch)) rfl) rfl (by omega)) (in_add_bytes (by simp; omega)) (.nil fun s S => S)
      · have := of_decide_eq_false h; omega
      · revert S
        refine (SX.aug 4 rfl rfl .int in_add_int (.nil fun s S => ⟨(p + 1, bs ++ [ch.toUInt8]), ⟨by dsimp only; omega, ?_⟩, by dsimp only; omega, S⟩) : SX _ _ _ _ _) s'
        dsimp only
        rw [← h2, hoct, List.append_assoc]
        rfl
      · cases f with
        | next => exact absurd rfl hn
        | cont => exact hJ.elim
        | brk => exact hJ.elim
        | ret v => exact hJ.elim
    · cases f with
      | next => exact absurd rfl hn
      | cont => exact hJ
      | brk => exact hJ.elim
      | ret v => exact hJ.elim
  · have ol := octs_len st
    have tl : (textDec enc (octs st)).length ≤ 100000 := by
      unfold textDec decU decL decI
      split
      · exact Nat.le_trans (decA_len (nxU_len _) _ _) (by omega)
      · split
        · exact Nat.le_trans (decA_len (nxL_len _) _ _) (by omega)
        · exact Nat.le_trans (decA_len (nxA_len _) _ _) (by omega)
    revert S
    refine (SX.retV (EX.matNat (.bin (.name 2 rfl rfl) (EX.call (ct_text c (octs st) enc (by omega)) hl (EX.glob rfl rfl rfl) ⟨_, _, rfl, rfl⟩ (.cons (.name 3 rfl rfl) (.cons (.name 1 rfl rfl) .nil rfl) rfl) (fun _ _ => trivial) isV_mono) (bin_add_str (by rw [sizeLine_eq]; simp; omega))) (by rw [List.nil_append]; rfl)) : SX _ _ _ _ _) s'
  · cases f with
    | next => exact absurd rfl hn
    | cont => exact h.elim
    | brk => exact h.elim
    | ret v => exact h.elim

theorem ctk_unquote (st enc : Tx) (hs : ∀ ch ∈ st, ch < 128) (hlen : st.length ≤ 50000) : CtK c 45 "encoding" 2 (.str st) (.str enc) (fun _ => True) (isV (.str (unquoteT st enc))) :=
  (fn_unquote c).ctK "encoding" (fun _ _ _ _ => rfl) fun d hl hp => body_unquote c hs hlen (by omega)
end
end Mine
end
section
open PySem PySem.W PySem.Calls PyProof.Rows
set_option Elab.async false
set_option maxRecDepth 100000
set_option linter.all false
set_option maxHeartbeats 8000000
namespace Mine
noncomputable section
section
variable {x : Cx} {m : Lc} {led : Ld}
theorem EX.negI {e : Expr} {pos : Pos} {i : Int} (h : EV x m led e (.int i)) : EV x m led (.UnaryOp .USub e pos) (.int (-i)) := fun s S =>
  wpAny_UnaryOp (wpAny_mono (h s S) (fun v s₁ h₁ => by
    obtain ⟨E, t, rfl⟩ := h₁
    exact neg_int ⟨E.trans (.selfT (S.ext E) _), ⟨_, rfl⟩⟩) fun _ _ e => e)
end

variable (c : Wd)

def uqT (v : Tx) : Tx := if (decide (2 ≤ v.length) && swAt v [34] 0 && (decide (1 ≤ v.length) && ((v.drop (v.length - 1)).take 1 == [34]))) = true then unslT ((v.take (v.length - 1)).drop 1) else v

theorem fn_uq : Fn c 65 64 ["value"] 1 := ⟨⟨_, _, _, rfl, rfl, fun us h => by match us, h with | [_], _ => rfl⟩, ⟨_, _, _, rfl, rfl, rfl⟩, rfl, by decide +kernel, by decide, rfl, rfl, rfl, rfl⟩
theorem ct_uq (v : Tx) (hv : v.length ≤ 100000) (h10 : ∀ a ∈ v, a ≠ 10) : Ct c 65 3 [.str v] (fun _ => True) (isV (.str (uqT v))) :=
  (fn_uq c).ct fun d hl hp => by
    have e34 : cp "\"" = [34] := by decide +kernel
    have hl2 : 2 ≤ d.lvl := by omega
    refine SX.ifEnd (r := (decide (2 ≤ v.length) && swAt v [34] 0 && (decide (1 ≤ v.length) && ((v.drop (v.length - 1)).take 1 == [34])))) ?_ (fun h1 => ?_) (fun h1 => ?_)
    · have : (decide (2 ≤ v.length) && swAt v [34] 0 && (decide (1 ≤ v.length) && ((v.drop (v.length - 1)).take 1 == [34]))) = (if (decide ((2 : Int) ≤ (v.length : Int)) = (BoolOp.And == .And)) then (if (swAt v [34] 0 = (BoolOp.And == .And)) then (decide (1 ≤ v.length) && ((v.drop (v.length - 1)).take 1 == [34])) else swAt v [34] 0) else decide ((2 : Int) ≤ (v.length : Int))) := by
        have c1 : (BoolOp.And == .And) = true := rfl
        have c2 : decide ((2 : Int) ≤ (v.length : Int)) = decide (2 ≤ v.length) := by
          by_cases h : 2 ≤ v.length
          · rw [decide_eq_true h, decide_eq_true (by omega)]
          · rw [decide_eq_false h, decide_eq_false (by omega)]
        rw [c1, c2]
        cases decide (2 ≤ v.length) <;> cases swAt v [34] 0 <;> simp
      rw [this]
      refine .bool (.cons (.cmp (EX.len_str (EX.builtin rfl rfl rfl rfl) (.name 0 rfl rfl) rfl (by rw [sizeLine_eq]; omega)) .int cmp_ge_int) (fun _ => .cons (.value ?_ truth_bool) (fun _ => .last (.value ?_ truth_bool))))
      · rw [← e34]; exact EX.startswith (.name 0 rfl rfl) .str rfl
      · exact EX.matNat (EX.endswith (b := cp "\"") (.name 0 rfl rfl) .str rfl) (by rw [e34]; rfl)
    · rw [show uqT v = unslT ((v.take (v.length - 1)).drop 1) from by unfold uqT; rw [if_pos h1]]
      have hsl : pySl v (some 1) (some (-1)) = (v.take (v.length - 1)).drop 1 := by
        have h2 : 2 ≤ v.length := by
          have := (Bool.and_eq_true_iff.mp (Bool.and_eq_true_iff.mp h1).1).1
          exact of_decide_eq_true this
        unfold pySl
        have c1 : pyCl v.length 1 = 1 := by unfold pyCl; omega
        have c2 : pyCl v.length (-1) = v.length - 1 := by unfold pyCl; omega
        dsimp only
        rw [c1, c2]
      refine SX.retH (R := isV (.str (unslT ((v.take (v.length - 1)).drop 1)))) ?_ isV_mono (fun _ _ h => h)
      refine EX.reSub ?_ (EX.glob rfl rfl rfl) (EX.matNat (EX.strSlice (.name 0 rfl rfl) (.at .int) (.at ?_) (by rw [sizeLine_eq]; omega)) (by rw [hsl])) rfl rfl ?_ rfl rfl ⟨rfl, rfl⟩ ?_ ?_ hl2
      · rfl
      · exact EX.negI .int
      · show ("unquote_header_value.<locals>." : Str) ++ "<lambda>" = lamQ
        decide +kernel
      · rw [List.length_drop, List.length_take]; omega
      · intro a ha
        exact h10 a (List.mem_of_mem_take (List.mem_of_mem_drop ha))
    · rw [show uqT v = v from by unfold uqT; rw [if_neg (by rw [h1]; decide)]]
      exact SX.retV (.name 0 rfl rfl)
end
end Mine
end
section
open PySem PySem.W PySem.Calls PyProof.Rows
set_option Elab.async false
set_option maxRecDepth 100000
set_option linter.all false
set_option maxHeartbeats 1000000
namespace Mine
noncomputable section
section
variable {x : Cx} {m : Lc} {led : Ld} {Q : Flow → Shared → Prop}

def dmerge {β : Type} (kvs more : List (List Nat × β)) : List (List Nat × β) := more.foldl (fun acc kv => dset acc kv.1 kv.2) kvs
theorem KV.merged : ∀ {more : List (List Nat × V)} {more' : List (Str × Value)}, F2 KV more more' → ∀ {kvs kvs'}, F2 KV kvs kvs' → F2 KV (dmerge kvs more) (PySem.merged kvs' more')
  | _, _, .nil, _, _, h => h
  | (k, v) :: more, (k', v') :: more', .cons h1 h2, kvs, kvs', h => by
    obtain ⟨rfl, r⟩ : k' = mkS k ∧ v.rep v' := h1
    exact KV.merged h2 (KV.stored h k r)

theorem mth_update : Mth "dict" "update" "dict.update" := ⟨F.plainAttrs_dict, F.slot_dict_update, F.type_dict_update⟩

theorem WX.update {o e : Expr} {apos pos : Pos} {i : Nat} {a : Addr} {kvs more : List (List Nat × V)} (ho : EV x m led o (.ref a)) (hk : led[i]? = some (a, .dict kvs)) (he : EX x m led e (isDict x.c more)) (hs : notStar e = true) (hsz : kvs.length + more.length ≤ 2000)
    (hbase : attributeBase o "update" x.env (eval o x.env) = eval o x.env := by rfl) (hline : (apos.endLine == pos.line) = true := by rfl) : WX x m led (.Call (.Attribute o "update" apos) [e] [] pos) (fun _ s' => St x m (led.set i (a, .dict (dmerge kvs more))) s') := by
  intro s S
  have hall : ((backTo pos (starEach [e] x.env)).all (fun x => !x.1) && (backToKw pos (keywordEach [] x.env)).all (fun x => x.1.isSome) && decide ([e].length + ([] : List Keyword).length + (if ([] : List Keyword).isEmpty then 0 else 1) < 30)) = true := by
    rw [starEach_cons hs]; rfl
  refine wpAny_Call_method_lateS hbase hall hline (wpAny_mono (ho s S) (fun u s₁ h₁ => ?_) fun _ _ e => e)
  obtain ⟨E₁, rfl⟩ := h₁
  have S₁ := S.ext E₁
  obtain ⟨⟨es, n, e0, _⟩, _⟩ := ledDict S₁ hk
  refine ⟨"dict", "dict.update", mth_update.pa, mth_update.slot, mth_update.ty, ⟨_, e0, rfl⟩, (fun b hb => by cases hb; exact ⟨_, e0, rfl⟩), ?_⟩
  refine callWith_builtin (by rw [starEach_cons hs]; rfl) ?_
  rw [starEach_cons hs]
  refine evalArgs_plain (spliced_cons (wpAny_mono (he s₁ S₁) (fun v s₂ h₂ => ?_) fun _ _ e => e))
  obtain ⟨E₂, b, rfl, hD, hb⟩ := h₂
  have S₂ := S₁.ext E₂
  refine spliced_nil ?_
  obtain ⟨kvs', D, r⟩ := (ledDict S₂ hk).of
  obtain ⟨more', Dm, rm⟩ := hD.of
  have hba : a ≠ b := by
    have := Heap.lt_size e0
    intro q; subst q; exact Nat.lt_irrefl _ (Nat.lt_of_lt_of_le this hb)
  have hb1 : b ≠ 1 := x.ne1 (Nat.le_trans S₁.size hb)
  refine call_meetsIn F.slot_dict_update D.typeIs F.entry_dict_update (F.args_dict_update_2 _ _) (meets_dict_update (SK x.c.w) a b hba (sysMods hb1)) ⟨kvs', more', D, Dm, by rw [r.lenEq, rm.lenEq, sizeLine_eq]; omega, fun h' D' _ hs' => ?_⟩
  exact S₂.upd (o' := .dict (dmerge kvs more)) hk hs' (DictAt.to D' (KV.merged rm r)) S₂.tk

/-- «d[k] = (a new object)» -/
theorem SX.setItemNew (i : Nat) {o key e : Expr} {p pos : Pos} {rest : List Stmt} {a : Addr} {kvs : List (List Nat × V)} {k : List Nat} {P : Nat → Value → Heap → Prop} (ao : AO) (he : EX x m led e P) (hP : ∀ n v h, P n v h → ∃ a, v = .ref a ∧ ao.rep x.c.w.params h a ∧ n ≤ a) (ho : EV x m led o (.ref a)) (hkey : EV x m led key (.str k))
    (hk : led[i]? = some (a, .dict kvs)) (hsz : kvs.length ≤ 1000) (kk : ∀ b, SX x rest m (led.set i (a, .dict (dset kvs k (.ref b))) ++ [(b, ao)]) Q)
    (hs : swapsWith e (some (.Subscript o key p)) pos.line x.env = pure false := by rfl) : SX x (.Assign [.Subscript o key p] e pos :: rest) m led Q := fun s S => by
  refine wpAny_execs_cons (wpAny_Assign_Subscript (wpAny_mono (he s S) (fun u s₁ h₁ => wpAny_mono (ho s₁ (S.ext h₁.1)) (fun ov s₂ h₂ => wpAny_mono (hkey s₂ ((S.ext h₁.1).ext h₂.1)) (fun kv s₃ h₃ => ?_) fun _ _ e => e) fun _ _ e => e) fun _ _ e => e) hs)
  have S₁ := S.ext h₁.1
  have S₃ := (S₁.ext h₂.1).ext h₃.1
  obtain ⟨t, rfl⟩ := h₃.2
  obtain rfl := h₂.2
  obtain ⟨b, rfl, rb, hb⟩ := hP _ _ _ h₁.2
  have S₄ := S.add (o := ao) S₃ hb (rb.keep S₁.tabs (h₂.1.trans h₃.1).keep)
  have hil : i < led.length := (List.getElem?_eq_some_iff.mp hk).1
  have hk' : (led ++ [(b, ao)])[i]? = some (a, .dict kvs) := by rw [List.getElem?_append_left hil]; exact hk
  obtain ⟨kvs', D, r⟩ := (ledDict S₄ hk').of
  refine wpAny_setItem_pairs (knd := SK x.c.w) (strKind_is _ _ _ _) D (fun h' D' hs' => ?_) (by rw [r.lenEq, sizeLine_eq]; omega)
  have := S₄.upd (o' := .dict (dset kvs k (.ref b))) hk' hs' (t := s₃.toks + 1) (DictAt.to D' (KV.stored r k (v := .ref b) rfl)) (Nat.succ_pos _)
  rw [List.set_append_left (h := hil)] at this
  exact kk b _ this

theorem truth_ov {o : Option (List Nat)} (hsz : ∀ l, o = some l → l.length ≤ sizeLine) : TruthOk x m led (ovV o) (match o with | none => false | some l => !l.isEmpty) := by
  cases o with
  | none => exact truth_none
  | some l => exact truth_str (hsz l rfl)
end
end
end Mine
end
section
open PySem
set_option linter.all false
namespace Mine
noncomputable section

def encIn : List Tx := [cp "ascii", cp "us-ascii", cp "utf-8", cp "iso-8859-1"]
structure PS where
  opts : List (Tx × Tx)
  cs : List (Tx × List Tx)
  encs : List (Tx × Tx)

/-- the encoding and the text behind the charset's sign -/
def encP (pv : Tx) : Option Tx × Tx := match chsT pv with
  | some (A, C) => (some (lowerL A), C)
  | none => (none, pv)
def isEmptyO (e : Option Tx) : Bool := match e with
  | none => true
  | some l => l.isEmpty
def encF (encs : List (Tx × Tx)) (base : Tx) (cont : Bool) (e : Option Tx) : Option Tx := if isEmptyO e && cont then dget encs base else e
def decS (encs : List (Tx × Tx)) (base : Tx) (cont : Bool) (pv : Tx) : Option Tx × Tx :=
  let e := encF encs base cont (encP pv).1
  (e, if decide (e ∈ encIn.map some) then unquoteT (encP pv).2 (e.getD []) else (encP pv).2)
def decQ (pv : Tx) : Tx := replL (uqT pv) (cp "%22") (cp "\"")
def decP (encs : List (Tx × Tx)) (w : Tx × Tx) : Option Tx × Tx :=
  if mkStar w.1 then decS encs (mkBase w.1) (mkCont w.1) w.2 else (none, decQ w.2)
def capp (cs : List (Tx × List Tx)) (k v : Tx) : List (Tx × List Tx) := match dget cs k with
  | some l => dset cs k (l ++ [v])
  | none => dset cs k [v]
def stepP (s : PS) (w : Tx × Tx) : PS :=
  let d := decP s.encs w
  if mkCont w.1 then ⟨ddel s.opts (mkBase w.1), capp s.cs (mkBase w.1) d.2, if isEmptyO d.1 then s.encs else dset s.encs (mkBase w.1) (d.1.getD [])⟩
  else ⟨dset s.opts (mkBase w.1) d.2, ddel s.cs (mkBase w.1), if (dget s.cs (mkBase w.1)).isSome then ddel s.encs (mkBase w.1) else s.encs⟩
def runP (parts : List (Tx × Tx)) : PS := parts.foldl stepP ⟨[], [], []⟩
def finP (s : PS) : List (Tx × Tx) := dmerge s.opts (s.cs.map fun c => (c.1, c.2.flatten))

/-- what a part must be like -/
structure okPart (w : Tx × Tx) : Prop where
  nm : w.1 ∈ NM
  len : w.2.length ≤ 10000
  nl : ∀ c ∈ w.2, c ≠ 10
  star : mkStar w.1 = true → okStar w.2
  plain : mkStar w.1 = false → (decQ w.2).length ≤ 100000

def parseT (value : Tx) : Tx × List (Tx × Tx) :=
  let p := partL value (cp ";")
  let v := stripL p.1 (cp " \t")
  let rest := stripL p.2.2 (cp " \t")
  if v.isEmpty || rest.isEmpty then (v, []) else (v, finP (runP (scan rest)))
end
end Mine
end
section
open PySem PySem.W PySem.Calls PyProof.Rows
set_option Elab.async false
set_option maxRecDepth 100000
set_option linter.all false
set_option maxHeartbeats 1000000
namespace Mine
noncomputable section

section
variable {x : Cx} {m : Lc} {led : Ld} {Q : Flow → Shared → Prop}
theorem SX1.ifWAnd {t u : Expr} {a b : List Stmt} {pos pos2 : Pos} {i : Nat} {l : List Nat} {nums : List Int} {r : Bool} (ht : ∀ s, St x m led s → wpAny (Md x.c) x.A (isTrue t x.env (eval t x.env)) (isW l (some nums) x i m led) nE s)
    (hu : ∀ ad, x.B.objs.size ≤ ad → IT x (m.set i (some (.ref ad))) (led ++ [(ad, .mat l nums)]) u r)
    (ha : ∀ ad, r = true → x.B.objs.size ≤ ad → SX x a (m.set i (some (.ref ad))) (led ++ [(ad, .mat l nums)]) Q)
    (hb : ∀ ad, r = false → x.B.objs.size ≤ ad → SX x b (m.set i (some (.ref ad))) (led ++ [(ad, .mat l nums)]) Q) : SX1 x (.If (.BoolOp .And [t, u] pos2) a b pos) m led Q := fun s S => by
  refine wpAny_If (wpAny_isTrue_BoolOp (wpAny_allTrue_And_cons (wpAny_mono (ht s S) (fun r' s₁ h => ?_) fun _ _ e => e)))
  obtain ⟨rfl, ad, hB, S'⟩ := h
  refine wpAny_allTrue_And_cons (wpAny_mono (hu ad hB s₁ S') (fun r' s₂ h => ?_) fun _ _ e => e)
  obtain ⟨E, rfl⟩ := h
  cases r' with
  | true => exact wpAny_allTrue_And_nil (ha ad rfl hB s₂ (S'.ext E))
  | false => exact hb ad rfl hB s₂ (S'.ext E)
end

structure LA where
  a0 : Option V
  a1 : Option V
  a2 : Option V
  a3 : Option V
  a4 : Option V
  a5 : Option V
  a6 : Option V
  a8 : Option V
  a9 : Option V
  a10 : Option V
  ao : Addr
  ac : Addr
  ae : Addr
  bp : Addr
  o : Obj
  parts : List (Tx × Tx)

structure LB where
  pk : Option V
  pv : Option V
  enc : Option V
  hc : Option V
  hs : Option V
  mm : Option V
  cc : Option V

abbrev lpM (A : LA) (B : LB) : Lc := [A.a0, A.a1, A.a2, A.a3, A.a4, A.a5, A.a6, B.pk, A.a8, A.a9, A.a10, some (.ref A.ao), some (.ref A.ac), some (.ref A.ae), B.pv, B.enc, B.hc, B.hs, B.mm, B.cc]

abbrev CS := List (Tx × Addr × List Tx)
abbrev csK (cs : CS) : List (Tx × V) := cs.map fun c => (c.1, V.ref c.2.1)
abbrev csL (cs : CS) : Ld := cs.map fun c => (c.2.1, AO.list (c.2.2.map .str))
abbrev csP (cs : CS) : List (Tx × List Tx) := cs.map fun c => (c.1, c.2.2)
abbrev led4 (A : LA) (opts : List (Tx × Tx)) (cs : CS) (encs : List (Tx × Tx)) : Ld := [(A.bp, .fix A.o A.parts), (A.ao, .dict (strV opts)), (A.ac, .dict (csK cs)), (A.ae, .dict (strV encs))]

variable (c : Wd)
def forSt : Stmt := ((bodyOf c.w.params 102)[12]?).getD (.Pass ⟨0, 0, 0, 0⟩)
def forBody : List Stmt := match forSt c with
  | .For _ _ b _ _ => b
  | _ => []
def bodySt (i : Nat) : Stmt := ((forBody c)[i]?).getD (.Pass ⟨0, 0, 0, 0⟩)
theorem forBody_eq : forBody c = [bodySt c 0, bodySt c 1, bodySt c 2, bodySt c 3, bodySt c 4] := by rfl

theorem grp1 (pk : Tx) : (grpV pk (mkNums pk) 1).isNone = !mkCont pk := by
  unfold mkNums grpV
  by_cases h : mkCont pk = true
  · rw [if_pos h, h]
    show (if ((mkStart pk : Int) + 1) < 0 ∨ ((mkStart pk : Int) + 2) < 0 then V.none else _).isNone = _
    rw [if_neg (by omega)]; rfl
  · rw [if_neg h, Bool.eq_false_iff.mpr h]
    rfl
theorem grp2 {pk : Tx} (h0 : 1 ≤ pk.length) : (grpV pk (mkNums pk) 2).isNone = !mkStar pk := by
  unfold mkNums grpV
  by_cases h1 : mkCont pk = true <;> by_cases h : mkStar pk = true
  · rw [if_pos h1, if_pos h, h]
    show (if ((pk.length : Int) - 1) < 0 ∨ (pk.length : Int) < 0 then V.none else _).isNone = _
    rw [if_neg (by omega)]; rfl
  · rw [if_pos h1, if_neg h, Bool.eq_false_iff.mpr h]; rfl
  · rw [if_neg h1, if_pos h, h]
    show (if ((pk.length : Int) - 1) < 0 ∨ (pk.length : Int) < 0 then V.none else _).isNone = _
    rw [if_neg (by omega)]; rfl
  · rw [if_neg h1, if_neg h, Bool.eq_false_iff.mpr h]; rfl
theorem grp_notBi (pk : Tx) (g : Nat) : (grpV pk (mkNums pk) g).notBi = true := by
  unfold grpV
  split
  · split <;> rfl
  · rfl
theorem nm_pos : ∀ pk ∈ NM, 1 ≤ pk.length := by decide +kernel
theorem mkNums_len (pk : Tx) : (mkNums pk).length = 6 := by
  unfold mkNums
  by_cases h1 : mkCont pk = true <;> by_cases h : mkStar pk = true <;> simp [h1, h]

/-- the mark -/
theorem b_mark {d : Dyn c} {A : LA} {pk pv : Tx} {mk ch : Option V} {led : Ld} (hnm : pk ∈ NM) {Q : Flow → Shared → Prop}
    (hQ : ∀ mk' mats s', St ((fn_parse c).cx d) (lpM A ⟨some (.str (mkBase pk)), some (.str pv), some .none, some (.bool (mkCont pk)), some (.bool (mkStar pk)), mk', ch⟩) (led ++ mats) s' → Q .next s') :
    SX1 ((fn_parse c).cx d) (bodySt c 2) (lpM A ⟨some (.str pk), some (.str pv), some .none, some (.bool false), some (.bool false), mk, ch⟩) led Q := by
  obtain ⟨f1, f2, f3, f4⟩ := mk_facts pk hnm
  have f0 := nm_pos pk hnm
  refine SX1.ifWAnd (i := 18) (l := pk) (nums := mkNums pk) (r := decide ((0 : Int) < (pk.length : Int) - (mkStart pk : Int))) (IT.walrusNotNone rfl (EX.reSearch1 (EX.glob rfl rfl rfl) (.name 7 rfl rfl) rfl (fun s S => pat_mark S.base) (by decide) (by omega) (mk_res hnm))) (fun ad hB => ?_) (fun ad hr hB => ?_) (fun ad hr hB => ?_)
  · exact .cmp (.bin (EX.mEnd (.name 18 rfl rfl) (fun s S => (S.hled (ad, .mat pk (mkNums pk)) (by simp)).2.2) rfl) (EX.mStart (.name 18 rfl rfl) (fun s S => (S.hled (ad, .mat pk (mkNums pk)) (by simp)).2.2) rfl) bin_sub_int) .int cmp_gt_int
  · have e1 : EV ((fn_parse c).cx d) (lpM A ⟨some (.str pk), some (.str pv), some .none, some (.bool false), some (.bool false), some (.ref ad), ch⟩) (led ++ [(ad, .mat pk (mkNums pk))]) (.Name "m_mark" ⟨0, 0, 0, 0⟩) (.ref ad) := .name 18 rfl rfl
    refine SX.assign 16 (v := .bool (mkCont pk)) rfl (EX.matNat (.cmp (EX.mGroup (g := 1) (.name 18 rfl rfl) .int rfl (fun s S => (S.hled (ad, .mat pk (mkNums pk)) (by simp)).2.2) (by rw [mkNums_len]; decide) (by rw [sizeLine_eq]; omega)) .noneC (cmp_isNot_none (grp_notBi _ _))) (by rw [grp1]; simp)) ?_
    refine SX.assign 17 (v := .bool (mkStar pk)) rfl (EX.matNat (.cmp (EX.mGroup (g := 2) (.name 18 rfl rfl) .int rfl (fun s S => (S.hled (ad, .mat pk (mkNums pk)) (by simp)).2.2) (by rw [mkNums_len]; decide) (by rw [sizeLine_eq]; omega)) .noneC (cmp_isNot_none (grp_notBi _ _))) (by rw [grp2 f0]; simp)) ?_
    refine SX.assign 7 (v := .str (mkBase pk)) rfl (EX.matNat (EX.strSlice (.name 7 rfl rfl) .no (.at (EX.mStart (.name 18 rfl rfl) (fun s S => (S.hled (ad, .mat pk (mkNums pk)) (by simp)).2.2) rfl)) (by rw [sizeLine_eq]; omega)) ?_) ?_
    · unfold pySl mkBase
      have c1 : pyCl pk.length (mkStart pk : Int) = mkStart pk := by unfold pyCl; omega
      dsimp only
      rw [c1]; rfl
    · exact .nil fun s S => hQ (some (.ref ad)) [(ad, .mat pk (mkNums pk))] s S
  · have h := of_decide_eq_false hr
    have hno : ¬ mkStart pk < pk.length := by omega
    rw [f3] at hno
    have hc : mkCont pk = false := by cases h : mkCont pk with | false => rfl | true => exact absurd (.inl h) hno
    have hs : mkStar pk = false := by cases h : mkStar pk with | false => rfl | true => exact absurd (.inr h) hno
    have hb : mkBase pk = pk := by unfold mkBase; rw [List.take_of_length_le (by omega)]
    refine .nil fun s S => ?_
    have := hQ (some (.ref ad)) [(ad, .mat pk (mkNums pk))] s
    rw [hb, hc, hs] at this
    exact this S
end
end Mine
end
section
open PySem PySem.W PySem.Calls PyProof.Rows
set_option Elab.async false
set_option maxRecDepth 100000
set_option linter.all false
set_option maxHeartbeats 1000000
namespace Mine
noncomputable section

theorem isWord_lt {c : Nat} (h : Sre.isWord c = true) : c < 128 := by
  unfold Sre.isWord Sre.isDigit at h
  simp at h
  omega
theorem isK_small : ∀ c < 256, (isK 27898 c = true → c < 128) ∧ (isK 27770 c = true → c < 128) := by decide +kernel
theorem isK_lt1 {c : Nat} (h : isK 27898 c = true) : c < 128 := by
  by_cases hc : c < 256
  · exact (isK_small c hc).1 h
  · unfold isK at h
    rw [decide_eq_false hc, Bool.false_and, Bool.false_or] at h
    exact isWord_lt h
theorem isK_lt2 {c : Nat} (h : isK 27770 c = true) : c < 128 := by
  by_cases hc : c < 256
  · exact (isK_small c hc).2 h
  · unfold isK at h
    rw [decide_eq_false hc, Bool.false_and, Bool.false_or] at h
    exact isWord_lt h

theorem lowerL_len (l : Tx) : (lowerL l).length ≤ 3 * l.length := by
  have := len_lower (mkS l)
  unfold lowerL
  rw [mkS_length] at this
  exact this
theorem encP_facts {pv : Tx} (h : okStar pv) : (∀ c ∈ (encP pv).2, c < 128) ∧ (encP pv).2.length ≤ pv.length ∧ ∀ l, (encP pv).1 = some l → l.length ≤ 3 * pv.length := by
  unfold encP
  rcases h with h | ⟨A, B, C, rfl, hA, hB, hC, hC2⟩
  · rw [chsT_none h]
    exact ⟨fun c hc => isK_lt2 (h c hc), Nat.le_refl _, fun _ e => by cases e⟩
  · rw [chsT_some hA hB]
    refine ⟨fun c hc => isK_lt1 (hC2 c hc), by simp; omega, fun l e => ?_⟩
    cases e
    have := lowerL_len A
    simp
    omega
theorem unquoteT_len (st enc : Tx) : (unquoteT st enc).length ≤ 100000 ∨ 100000 < 3 * st.length := by
  have ol := octs_len st
  unfold unquoteT
  generalize octs st = bs at ol
  by_cases h : bs.length ≤ 33333
  · left
    unfold textDec decU decL decI
    split
    · exact Nat.le_trans (decA_len (nxU_len _) _ _) (by omega)
    · split
      · exact Nat.le_trans (decA_len (nxL_len _) _ _) (by omega)
      · exact Nat.le_trans (decA_len (nxA_len _) _ _) (by omega)
  · right; omega

theorem uqT_len (v : Tx) : (uqT v).length ≤ v.length := by
  unfold uqT
  split
  · refine Nat.le_trans (unslT_len _) ?_
    rw [List.length_drop, List.length_take]; omega
  · exact Nat.le_refl _

variable (c : Wd)
theorem EX.tupNat {x : Cx} {m : Lc} {led : Ld} {e : Expr} {vs ws : List V} (h : EX x m led e (isTup vs)) (q : vs = ws) : EX x m led e (isTup ws) := q ▸ h
theorem truth_ov' {x : Cx} {m : Lc} {led : Ld} {o : Option Tx} (hsz : ∀ l, o = some l → l.length ≤ 16777216) : TruthOk x m led (ovV o) (!isEmptyO o) := by
  have := truth_ov (x := x) (m := m) (led := led) (o := o) (fun l e => by rw [sizeLine_eq]; exact hsz l e)
  cases o with
  | none => exact this
  | some l => exact this

theorem getD_ov {o : Option Tx} : ((o.map V.str).getD .none) = ovV o := by cases o <;> rfl

/-- the text of a part is read -/
theorem b_dec {d : Dyn c} {A : LA} {w : Tx × Tx} {mk ch : Option V} {opts encs : List (Tx × Tx)} {cs : CS} {led : Ld} (hl : 3 ≤ d.lvl) (hae : A.ae ≠ 1) (hw : okPart w) (henc : ∀ k e, dget encs k = some e → e.length ≤ 100000) {Q : Flow → Shared → Prop}
    (hQ : ∀ ch' mats s', St ((fn_parse c).cx d) (lpM A ⟨some (.str (mkBase w.1)), some (.str (decP encs w).2), some (ovV (decP encs w).1), some (.bool (mkCont w.1)), some (.bool (mkStar w.1)), mk, ch'⟩) ((led4 A opts cs encs ++ led) ++ mats) s' → Q .next s') :
    SX1 ((fn_parse c).cx d) (bodySt c 3) (lpM A ⟨some (.str (mkBase w.1)), some (.str w.2), some .none, some (.bool (mkCont w.1)), some (.bool (mkStar w.1)), mk, ch⟩) (led4 A opts cs encs ++ led) Q := by
  obtain ⟨nm, len, nl, star, plain⟩ := hw
  refine SX1.if_ (.value (.name 17 rfl rfl) truth_bool) (fun h1 => ?_) (fun h1 => ?_)
  · have hst := star h1
    obtain ⟨g1, g2, g3⟩ := encP_facts hst
    have hdec : decP encs w = decS encs (mkBase w.1) (mkCont w.1) w.2 := by unfold decP; rw [if_pos h1]
    rw [hdec] at hQ
    obtain ⟨e0, he0⟩ : ∃ e0, e0 = (encP w.2).1 := ⟨_, rfl⟩
    obtain ⟨p0, hp0⟩ : ∃ p0, p0 = (encP w.2).2 := ⟨_, rfl⟩
    rw [← hp0] at g1 g2
    rw [← he0] at g3
    refine SX.cons1 (Q1 := fun f s' => match f with
      | .next => ∃ ch' mats, St ((fn_parse c).cx d) (lpM A ⟨some (.str (mkBase w.1)), some (.str p0), some (ovV e0), some (.bool (mkCont w.1)), some (.bool (mkStar w.1)), mk, ch'⟩) ((led4 A opts cs encs ++ led) ++ mats) s'
      | _ => False) ?_ (fun s' hJ => ?_) (fun f s' hn hJ => ?_)
    · refine SX1.ifW (i := 19) (IT.walrusNotNone rfl (EX.reMatch1 (EX.glob rfl rfl rfl) (.name 14 rfl rfl) rfl (fun s S => pat_chs S.base) (by decide) (by omega) (chs_res (by omega) hst))) (fun nums ad hn hB => ?_) (fun hn => ?_)
      · rcases hst with hst | ⟨A', B', C', e, hA, hB', hC, hC2⟩
        · unfold chsNums at hn; rw [chsT_none hst] at hn; cases hn
        · have hT : chsT w.2 = some (A', C') := by rw [e]; exact chsT_some hA hB'
          unfold chsNums at hn; rw [hT] at hn
          have hE : encP w.2 = (some (lowerL A'), C') := by unfold encP; rw [hT]
          have e0' : e0 = some (lowerL A') := by rw [he0, hE]
          have p0' : p0 = C' := by rw [hp0, hE]
          cases hn
          have hlen : w.2.length = A'.length + 1 + B'.length + 1 + C'.length := by rw [e]; simp; omega
          have q1 : grpV w.2 [0, (w.2.length : Int), 0, (A'.length : Int), ((w.2.length - C'.length : Nat) : Int), (w.2.length : Int)] 1 = .str A' := by
            show (if (0 : Int) < 0 ∨ (A'.length : Int) < 0 then V.none else .str (cutL w.2 0 (A'.length : Int))) = _
            rw [if_neg (by omega)]
            unfold cutL
            rw [Int.toNat_natCast, e, List.take_left]; rfl
          have q2 : grpV w.2 [0, (w.2.length : Int), 0, (A'.length : Int), ((w.2.length - C'.length : Nat) : Int), (w.2.length : Int)] 2 = .str C' := by
            show (if ((w.2.length - C'.length : Nat) : Int) < 0 ∨ (w.2.length : Int) < 0 then V.none else .str (cutL w.2 ((w.2.length - C'.length : Nat) : Int) (w.2.length : Int))) = _
            rw [if_neg (by omega)]
            unfold cutL
            rw [Int.toNat_natCast, Int.toNat_natCast, List.take_length]
            have : w.2 = (A' ++ 39 :: (B' ++ [39])) ++ C' := by rw [e]; simp
            rw [show w.2.length - C'.length = (A' ++ 39 :: (B' ++ [39])).length from by simp; omega, this, List.drop_left]
          refine SX.unpack (is := [15, 14]) (vs := [.str A', .str C']) (.cons rfl (.cons rfl .nil)) (EX.tupNat (EX.mGroups2 (l := w.2) (nums := [0, (w.2.length : Int), 0, (A'.length : Int), ((w.2.length - C'.length : Nat) : Int), (w.2.length : Int)]) (.name 19 rfl rfl) (fun s S => (S.hled (ad, .mat w.2 _) (List.mem_append_right _ (.head _))).2.2) rfl (by rw [sizeLine_eq]; omega)) (by rw [q1, q2])) rfl ?_
          refine SX.assign 15 (v := .str (lowerL A')) rfl (EX.lowerS (.name 15 rfl rfl) (by omega)) ?_
          refine .nil fun s S => ⟨some (.ref ad), [(ad, .mat w.2 [0, (w.2.length : Int), 0, (A'.length : Int), ((w.2.length - C'.length : Nat) : Int), (w.2.length : Int)])], ?_⟩
          rw [e0', p0']
          exact S
      · refine .nil fun s S => ⟨some .none, [], ?_⟩
        have hT : chsT w.2 = none := by
          unfold chsNums at hn
          simpa using hn
        have hE : encP w.2 = (none, w.2) := by unfold encP; rw [hT]
        have e0' : e0 = none := by rw [he0, hE]
        have p0' : p0 = w.2 := by rw [hp0, hE]
        rw [e0', p0', List.append_nil]
        exact S
    · obtain ⟨ch', mats, S⟩ := hJ
      revert S
      obtain ⟨e1, he1⟩ : ∃ e1, e1 = encF encs (mkBase w.1) (mkCont w.1) e0 := ⟨_, rfl⟩
      have he1l : ∀ l, e1 = some l → l.length ≤ 100000 := by
        intro l el
        rw [he1] at el
        unfold encF at el
        split at el
        · exact henc _ _ el
        · have := g3 l el; omega
      refine (SX.cons1 (Q1 := fun f s' => match f with
        | .next => St ((fn_parse c).cx d) (lpM A ⟨some (.str (mkBase w.1)), some (.str p0), some (ovV e1), some (.bool (mkCont w.1)), some (.bool (mkStar w.1)), mk, ch'⟩) ((led4 A opts cs encs ++ led) ++ mats) s'
        | _ => False) ?_ (fun s' S => ?_) (fun f s' hn hJ => ?_) : SX _ _ _ _ _) s'
      · refine SX1.if_ (r := isEmptyO e0 && mkCont w.1) ?_ (fun hr => ?_) (fun hr => ?_)
        · have : (isEmptyO e0 && mkCont w.1) = if ((!(!isEmptyO e0)) = (BoolOp.And == .And)) then mkCont w.1 else !(!isEmptyO e0) := by
            have c1 : (BoolOp.And == .And) = true := rfl
            rw [c1]
            cases isEmptyO e0 <;> simp
          rw [this]
          exact .bool (.cons (IT.not (.value (.name 15 rfl rfl) (truth_ov' (fun l e => by have := g3 l e; omega)))) (fun _ => .last (.value (.name 16 rfl rfl) truth_bool)))
        · have h1' : e1 = dget encs (mkBase w.1) := by rw [he1]; unfold encF; rw [if_pos hr]
          refine SX.assign 15 (v := ovV e1) rfl (EX.matNat (EX.dget (kvs := strV encs) (.name 13 rfl rfl) (.name 7 rfl rfl) rfl (fun s S => ledDict (i := 3) S rfl) ?_) ?_) (.nil fun s S => S)
          · exact hae
          · rw [dget_mapV, h1']; exact getD_ov
        · have h1' : e1 = e0 := by rw [he1]; unfold encF; rw [if_neg (by rw [hr]; decide)]
          refine .nil fun s S => ?_
          rw [h1']; exact S
      · revert S
        have hd2 : decS encs (mkBase w.1) (mkCont w.1) w.2 = (e1, if decide (e1 ∈ encIn.map some) then unquoteT p0 (e1.getD []) else p0) := by
          unfold decS
          rw [← he0, ← hp0, ← he1]
        rw [hd2] at hQ
        refine (SX.last (SX1.if_ (IT.inSet (names := encIn) (.name 15 rfl rfl) (.cons .str (.cons .str (.cons .str (.cons .str .nil rfl) rfl) rfl) rfl) (by decide) rfl rfl rfl) (fun hr => ?_) (fun hr => ?_)) : SX _ _ _ _ _) s'
        · rw [hr] at hQ
          have hm := of_decide_eq_true hr
          obtain ⟨enc, _, hen⟩ := List.mem_map.mp hm
          subst hen
          refine SX.assign 14 (v := .str (unquoteT p0 enc)) rfl (EX.callK (ctk_unquote c p0 enc g1 (by omega)) (show 2 ≤ d.lvl by omega) (EX.glob rfl rfl rfl) ⟨_, _, rfl, rfl⟩ (.name 14 rfl rfl) rfl (.name 15 rfl rfl) (fun _ _ => trivial) isV_mono) ?_
          exact .nil fun s S => hQ _ _ s S
        · rw [hr] at hQ
          exact .nil fun s S => hQ _ _ s S
      · cases f with
        | next => exact absurd rfl hn
        | cont => exact hJ.elim
        | brk => exact hJ.elim
        | ret v => exact hJ.elim
    · cases f with
      | next => exact absurd rfl hn
      | cont => exact hJ.elim
      | brk => exact hJ.elim
      | ret v => exact hJ.elim
  · have hdec : decP encs w = (none, decQ w.2) := by unfold decP; rw [h1]; rfl
    rw [hdec] at hQ
    have hdl := plain h1
    refine SX.assign 14 (v := .str (decQ w.2)) rfl (EX.replaceC (a := uqT w.2) (EX.call (ct_uq c w.2 (Nat.le_trans len (by decide)) nl) hl (EX.glob rfl rfl rfl) ⟨_, _, rfl, rfl⟩ (.cons (.name 14 rfl rfl) .nil rfl) (fun _ _ => trivial) isV_mono) (by decide +kernel) ?_) (.nil fun s S => hQ ch [] s (by rw [List.append_nil]; exact S))
    have hz : (Str.ofString "\"").length = 1 := by decide +kernel
    have := uqT_len w.2
    rw [hz]; omega
end
end Mine
end
section
open PySem PySem.W PySem.Calls PyProof.Rows
set_option Elab.async false
set_option maxRecDepth 100000
set_option linter.all false
set_option maxHeartbeats 1000000
namespace Mine
noncomputable section

def putP (s : PS) (base : Tx) (cont : Bool) (d : Option Tx × Tx) : PS :=
  if cont then ⟨ddel s.opts base, capp s.cs base d.2, if isEmptyO d.1 then s.encs else dset s.encs base (d.1.getD [])⟩
  else ⟨dset s.opts base d.2, ddel s.cs base, if (dget s.cs base).isSome then ddel s.encs base else s.encs⟩
theorem stepP_eq (s : PS) (w : Tx × Tx) : stepP s w = putP s (mkBase w.1) (mkCont w.1) (decP s.encs w) := rfl

theorem dget_some_ex {β : Type} {l : List (Tx × β)} {k : Tx} {v : β} (h : dget l k = some v) : ∃ j : Nat, l[j]? = some (k, v) := by
  unfold dget at h
  rw [Option.map_eq_some_iff] at h
  obtain ⟨p, hp, e⟩ := h
  have h1 := List.mem_of_find?_eq_some hp
  have h2 := List.find?_some hp
  obtain ⟨j, hj⟩ := List.mem_iff_getElem?.mp h1
  refine ⟨j, ?_⟩
  rw [hj]
  have : p.1 = k := by simpa using h2
  rw [← this, ← e]
theorem dset_at {β : Type} {l : List (Tx × β)} {k : Tx} {v v' : β} {j : Nat} (hnd : (l.map (·.1)).Nodup) (hj : l[j]? = some (k, v)) : dset l k v' = l.set j (k, v') := by
  have hlt := (List.getElem?_eq_some_iff.mp hj).1
  have hget := (List.getElem?_eq_some_iff.mp hj).2
  unfold dset
  rw [if_pos (List.any_eq_true.mpr ⟨(k, v), List.mem_of_getElem? hj, by simp⟩)]
  apply List.ext_getElem
  · simp
  · intro i h1 h2
    rw [List.getElem_map, List.getElem_set]
    by_cases hij : j = i
    · subst hij
      rw [if_pos rfl, hget]; simp
    · rw [if_neg hij]
      have hil : i < l.length := by simpa using h1
      have hne : l[i].1 ≠ k := by
        intro q
        have hp := List.pairwise_iff_getElem.mp hnd
        rcases Nat.lt_or_gt_of_ne hij with hlt' | hlt'
        · exact hp j i (by simpa using hlt) (by simpa using hil) hlt' (by rw [List.getElem_map, List.getElem_map, hget]; exact q.symm)
        · exact hp i j (by simpa using hil) (by simpa using hlt) hlt' (by rw [List.getElem_map, List.getElem_map, hget]; exact q)
      rw [if_neg (by simpa using hne)]
theorem csK_keys (cs : CS) : (csK cs).map (·.1) = cs.map (·.1) := by rw [List.map_map]; rfl
theorem csP_keys (cs : CS) : (csP cs).map (·.1) = cs.map (·.1) := by rw [List.map_map]; rfl
theorem dget_csK (cs : CS) (k : Tx) : dget (csK cs) k = (dget cs k).map fun p => V.ref p.1 := dget_mapV (fun p : Addr × List Tx => V.ref p.1) cs k
theorem dget_csP (cs : CS) (k : Tx) : dget (csP cs) k = (dget cs k).map fun p => p.2 := dget_mapV (fun p : Addr × List Tx => p.2) cs k

theorem csP_set {cs : CS} {j : Nat} {k : Tx} {a : Addr} {l l' : List Tx} (hnd : (cs.map (·.1)).Nodup) (hj : cs[j]? = some (k, a, l)) : csP (cs.set j (k, a, l')) = dset (csP cs) k l' := by
  have h : (csP cs)[j]? = some (k, l) := by rw [List.getElem?_map, hj]; rfl
  rw [dset_at (by rw [csP_keys]; exact hnd) h]
  show (cs.set j (k, a, l')).map _ = _
  rw [List.map_set]
theorem csK_set {cs : CS} {j : Nat} {k : Tx} {a : Addr} {l l' : List Tx} (hj : cs[j]? = some (k, a, l)) : csK (cs.set j (k, a, l')) = csK cs := by
  have hlt := (List.getElem?_eq_some_iff.mp hj).1
  have hget := (List.getElem?_eq_some_iff.mp hj).2
  show (cs.set j (k, a, l')).map _ = cs.map _
  rw [List.map_set]
  apply List.ext_getElem
  · simp
  · intro i h1 h2
    rw [List.getElem_set]
    by_cases hij : j = i
    · subst hij
      rw [if_pos rfl, List.getElem_map, hget]
    · rw [if_neg hij]
theorem csL_set {cs : CS} {j : Nat} {k : Tx} {a : Addr} {l' : List Tx} : csL (cs.set j (k, a, l')) = (csL cs).set j (a, .list (l'.map .str)) := by
  show (cs.set j (k, a, l')).map _ = _
  rw [List.map_set]
theorem keys_set {cs : CS} {j : Nat} {k : Tx} {a : Addr} {l l' : List Tx} (hj : cs[j]? = some (k, a, l)) : (cs.set j (k, a, l')).map (·.1) = cs.map (·.1) := by
  have := csK_set (l' := l') hj
  rw [← csK_keys, this, csK_keys]

theorem led_get {A : LA} {opts encs : List (Tx × Tx)} {cs : CS} {tl : Ld} {j : Nat} {k : Tx} {a : Addr} {l : List Tx} (hj : cs[j]? = some (k, a, l)) : (led4 A opts cs encs ++ csL cs ++ tl)[4 + j]? = some (a, .list (l.map .str)) := by
  have hlt := (List.getElem?_eq_some_iff.mp hj).1
  rw [List.append_assoc, List.getElem?_append_right (show 4 ≤ 4 + j by omega)]
  show (csL cs ++ tl)[4 + j - 4]? = _
  rw [show 4 + j - 4 = j from by omega, List.getElem?_append_left (by simpa using hlt), List.getElem?_map, hj]
  rfl
theorem led_set {A : LA} {opts encs : List (Tx × Tx)} {cs : CS} {tl : Ld} {j : Nat} {k : Tx} {a : Addr} {l l' : List Tx} (hj : cs[j]? = some (k, a, l)) : (led4 A opts cs encs ++ csL cs ++ tl).set (4 + j) (a, .list (l'.map .str)) = led4 A opts (cs.set j (k, a, l')) encs ++ csL (cs.set j (k, a, l')) ++ tl := by
  have hlt := (List.getElem?_eq_some_iff.mp hj).1
  have e4 : led4 A opts (cs.set j (k, a, l')) encs = led4 A opts cs encs := by unfold led4; rw [csK_set hj]
  rw [e4, csL_set, List.append_assoc, List.append_assoc, List.set_append_right (h := show 4 ≤ 4 + j by omega)]
  show led4 A opts cs encs ++ (csL cs ++ tl).set (4 + j - 4) _ = _
  rw [show 4 + j - 4 = j from by omega, List.set_append_left (h := by simpa using hlt)]
theorem csK_snoc (cs : CS) (k : Tx) (b : Addr) (l : List Tx) : csK (cs ++ [(k, b, l)]) = csK cs ++ [(k, .ref b)] := by simp
theorem csL_snoc (cs : CS) (k : Tx) (b : Addr) (l : List Tx) : csL (cs ++ [(k, b, l)]) = csL cs ++ [(b, .list (l.map .str))] := by simp
theorem csP_snoc (cs : CS) (k : Tx) (b : Addr) (l : List Tx) : csP (cs ++ [(k, b, l)]) = csP cs ++ [(k, l)] := by simp

variable (c : Wd)
/-- the part is put where it belongs -/
theorem b_put {d : Dyn c} {A : LA} {base p : Tx} {e : Option Tx} {cont : Bool} {hs mk ch : Option V} {opts encs : List (Tx × Tx)} {cs : CS} {tl : Ld} (hao : A.ao ≠ 1) (hac : A.ac ≠ 1) (hae : A.ae ≠ 1) (h1 : opts.length ≤ 900) (h2 : cs.length ≤ 900) (h3 : encs.length ≤ 900) (hls : ∀ q ∈ cs, q.2.2.length ≤ 90000) (hnd : (cs.map (·.1)).Nodup)
    (he : ∀ l, e = some l → l.length ≤ 16777216) {Q : Flow → Shared → Prop}
    (hQ : ∀ cs' s', csP cs' = (putP ⟨opts, csP cs, encs⟩ base cont (e, p)).cs → (cs'.map (·.1)).Nodup → St ((fn_parse c).cx d) (lpM A ⟨some (.str base), some (.str p), some (ovV e), some (.bool cont), hs, mk, ch⟩) (led4 A (putP ⟨opts, csP cs, encs⟩ base cont (e, p)).opts cs' (putP ⟨opts, csP cs, encs⟩ base cont (e, p)).encs ++ csL cs' ++ tl) s' → Q .next s') :
    SX1 ((fn_parse c).cx d) (bodySt c 4) (lpM A ⟨some (.str base), some (.str p), some (ovV e), some (.bool cont), hs, mk, ch⟩) (led4 A opts cs encs ++ csL cs ++ tl) Q := by
  obtain ⟨M, hM⟩ : ∃ M, M = lpM A ⟨some (.str base), some (.str p), some (ovV e), some (.bool cont), hs, mk, ch⟩ := ⟨_, rfl⟩
  refine SX1.if_ (.value (.name 16 rfl rfl) truth_bool) (fun hc => ?_) (fun hc => ?_)
  · subst hc
    have hput : putP ⟨opts, csP cs, encs⟩ base true (e, p) = ⟨ddel opts base, capp (csP cs) base p, if isEmptyO e then encs else dset encs base (e.getD [])⟩ := rfl
    rw [hput] at hQ
    dsimp only at hQ
    refine SX.cons1 (Q1 := fun f s' => match f with
      | .next => St ((fn_parse c).cx d) (lpM A ⟨some (.str base), some (.str p), some (ovV e), some (.bool true), hs, mk, ch⟩) (led4 A (ddel opts base) cs encs ++ csL cs ++ tl) s'
      | _ => False) ?_ (fun s' S => ?_) (fun f s' hn hJ => ?_)
    · refine SX1.if_ (.cmp (.name 7 rfl rfl) (.name 11 rfl rfl) (cmp_in_dict (kvs := strV opts) (fun s S => ledDict (i := 1) S rfl) hao)) (fun hr => ?_) (fun hr => ?_)
      · refine SX.delItem 1 (.name 11 rfl rfl) (.name 7 rfl rfl) (rfl : _ = some (A.ao, AO.dict (strV opts))) (by simp; omega) hr (.nil fun s S => ?_)
        rw [← strV_ddel] at S
        exact S
      · have : ddel opts base = opts := ddel_none _ _ (by rw [dget_mapV] at hr; cases h : dget opts base with | none => rfl | some v => rw [h] at hr; cases hr)
        rw [this]
        exact .nil fun s S => S
    · revert S
      generalize ddel opts base = opts' at hQ ⊢
      refine (SX.cons1 (Q1 := fun f s' => match f with
        | .next => ∃ cs', csP cs' = capp (csP cs) base p ∧ (cs'.map (·.1)).Nodup ∧ St ((fn_parse c).cx d) (lpM A ⟨some (.str base), some (.str p), some (ovV e), some (.bool true), hs, mk, ch⟩) (led4 A opts' cs' encs ++ csL cs' ++ tl) s'
        | _ => False) ?_ (fun s' hJ => ?_) (fun f s' hn hJ => ?_) : SX _ _ _ _ _) s'
      · refine SX1.if_ (.cmp (.name 7 rfl rfl) (.name 12 rfl rfl) (cmp_in_dict (kvs := csK cs) (fun s S => ledDict (i := 2) S rfl) hac)) (fun hr => ?_) (fun hr => ?_)
        · obtain ⟨⟨a, l⟩, hal⟩ : ∃ q, dget cs base = some q := by
            rw [dget_csK] at hr
            cases h : dget cs base with
            | none => rw [h] at hr; cases hr
            | some q => exact ⟨q, rfl⟩
          obtain ⟨j, hj⟩ := dget_some_ex hal
          refine SX.expr (WX.append (k := 4 + j) (xs := l.map .str) (v := .str p) (EX.dictItem (kvs := csK cs) (.name 12 rfl rfl) (.name 7 rfl rfl) (fun s S => ledDict (i := 2) S rfl) (v := .ref a) ?_) (led_get hj) (.name 14 rfl rfl) rfl ?_) (.nil fun s S => ?_)
          · rw [dget_csK, hal]; rfl
          · have : l.length ≤ 90000 := hls _ (List.mem_of_getElem? hj); rw [List.length_map]; omega
          · have hm : l.map V.str ++ [V.str p] = (l ++ [p]).map V.str := by simp
            rw [hm, led_set (l' := l ++ [p]) hj] at S
            refine ⟨cs.set j (base, a, l ++ [p]), ?_, ?_, S⟩
            · rw [csP_set hnd hj]; unfold capp; rw [dget_csP, hal]; rfl
            · rw [keys_set hj]; exact hnd
        · have hno : dget cs base = none := by
            rw [dget_csK] at hr
            cases h : dget cs base with
            | none => rfl
            | some q => rw [h] at hr; cases hr
          refine SX.setItemNew 2 (.list [.str p]) (EX.list (.cons (.name 14 rfl rfl) .nil rfl)) isList_rep (.name 12 rfl rfl) (.name 7 rfl rfl) (rfl : _ = some (A.ac, AO.dict (csK cs))) (by simp; omega) fun b => .nil fun s S => ?_
          have hk' : base ∉ (csK cs).map (·.1) := by rw [csK_keys]; exact (dget_none_iff _ _).mp hno
          have hk2 : base ∉ (csP cs).map (·.1) := by rw [csP_keys]; exact (dget_none_iff _ _).mp hno
          refine ⟨cs ++ [(base, b, [p])], ?_, ?_, ?_⟩
          · rw [csP_snoc]; unfold capp; rw [dget_csP, hno]; exact (dset_new hk2).symm
          · rw [List.map_append, List.nodup_append]
            refine ⟨hnd, by simp, ?_⟩
            intro x hx y hy
            simp at hy; subst hy
            intro q; subst q
            exact (dget_none_iff _ _).mp hno hx
          · rw [dset_new hk', ← csK_snoc cs base b [p]] at S
            refine S.perm ?_
            rw [csL_snoc]
            show (led4 A opts' (cs ++ [(base, b, [p])]) encs ++ csL cs ++ tl ++ [(b, AO.list [V.str p])]).Perm (led4 A opts' (cs ++ [(base, b, [p])]) encs ++ (csL cs ++ [(b, AO.list [V.str p])]) ++ tl)
            rw [List.append_assoc, List.append_assoc, List.append_assoc]
            refine List.Perm.append_left _ ?_
            rw [List.append_assoc]
            refine List.Perm.append_left _ ?_
            exact List.perm_append_comm
      · obtain ⟨cs', g1, g2, S⟩ := hJ
        revert S
        rw [← g1] at hQ
        refine (SX.last (SX1.if_ (.value (.name 15 rfl rfl) (truth_ov' he)) (fun hr => ?_) (fun hr => ?_)) : SX _ _ _ _ _) s'
        · obtain ⟨l, rfl⟩ : ∃ l, e = some l := by cases e with | none => cases hr | some l => exact ⟨l, rfl⟩
          have hr' : isEmptyO (some l) = false := by simpa using hr
          rw [hr', if_neg (by decide)] at hQ
          refine SX.setItem 3 (v := .str l) (kvs := strV encs) (.name 15 rfl rfl) (.name 13 rfl rfl) (.name 7 rfl rfl) (rfl : _ = some (A.ae, AO.dict (strV encs))) (by simp; omega) (.nil fun s S => hQ cs' s rfl g2 ?_)
          rw [← strV_dset] at S
          exact S
        · have hr' : isEmptyO e = true := by simpa using hr
          rw [hr', if_pos rfl] at hQ
          exact .nil fun s S => hQ cs' s rfl g2 S
      · cases f with
        | next => exact absurd rfl hn
        | cont => exact hJ.elim
        | brk => exact hJ.elim
        | ret v => exact hJ.elim
    · cases f with
      | next => exact absurd rfl hn
      | cont => exact hJ.elim
      | brk => exact hJ.elim
      | ret v => exact hJ.elim
  · subst hc
    have hput : putP ⟨opts, csP cs, encs⟩ base false (e, p) = ⟨dset opts base p, ddel (csP cs) base, if (dget (csP cs) base).isSome then ddel encs base else encs⟩ := rfl
    rw [hput] at hQ
    dsimp only at hQ
    refine SX.cons1 (Q1 := fun f s' => match f with
      | .next => ∃ cs', csP cs' = ddel (csP cs) base ∧ (cs'.map (·.1)).Nodup ∧ St ((fn_parse c).cx d) (lpM A ⟨some (.str base), some (.str p), some (ovV e), some (.bool false), hs, mk, ch⟩) (led4 A opts cs' (if (dget (csP cs) base).isSome then ddel encs base else encs) ++ csL cs' ++ tl) s'
      | _ => False) ?_ (fun s' hJ => ?_) (fun f s' hn hJ => ?_)
    · have hsome : (dget (csP cs) base).isSome = (dget (csK cs) base).isSome := by rw [dget_csP, dget_csK]; cases dget cs base <;> rfl
      refine SX1.if_ (.cmp (.name 7 rfl rfl) (.name 12 rfl rfl) (cmp_in_dict (kvs := csK cs) (fun s S => ledDict (i := 2) S rfl) hac)) (fun hr => ?_) (fun hr => ?_)
      · rw [hsome, hr, if_pos rfl]
        refine SX.delItem 2 (.name 12 rfl rfl) (.name 7 rfl rfl) (rfl : _ = some (A.ac, AO.dict (csK cs))) (by simp; omega) hr ?_
        refine SX.expr (WX.pop (i := 3) (kvs := strV encs) (.name 13 rfl rfl) rfl hae (.name 7 rfl rfl) rfl .noneC rfl (by simp; omega)) (.nil fun s S => ?_)
        refine ⟨ddel cs base, ?_, ?_, ?_⟩
        · exact ddel_map (fun p : Addr × List Tx => p.2) cs base
        · exact hnd.sublist (List.Sublist.map _ List.filter_sublist)
        · rw [← strV_ddel, ← (ddel_map (fun p : Addr × List Tx => V.ref p.1) cs base : csK (ddel cs base) = ddel (csK cs) base)] at S
          refine S.sub ?_
          have : (csL (ddel cs base)).Sublist (csL cs) := List.Sublist.map _ List.filter_sublist
          exact (List.Sublist.append (List.Sublist.append (List.Sublist.refl _) this) (List.Sublist.refl _))
      · rw [hsome, hr, if_neg (by decide)]
        have hno : dget cs base = none := by
          rw [dget_csK] at hr
          cases h : dget cs base with
          | none => rfl
          | some q => rw [h] at hr; cases hr
        exact .nil fun s S => ⟨cs, by rw [ddel_none]; rw [dget_csP, hno]; rfl, hnd, S⟩
    · obtain ⟨cs', g1, g2, S⟩ := hJ
      revert S
      rw [← g1] at hQ
      generalize (if (dget (csP cs) base).isSome then ddel encs base else encs) = encs' at hQ ⊢
      refine (SX.setItem 1 (v := .str p) (kvs := strV opts) (.name 14 rfl rfl) (.name 11 rfl rfl) (.name 7 rfl rfl) (rfl : _ = some (A.ao, AO.dict (strV opts))) (by simp; omega) (.nil fun s S => hQ cs' s rfl g2 ?_) : SX _ _ _ _ _) s'
      rw [← strV_dset] at S
      exact S
    · cases f with
      | next => exact absurd rfl hn
      | cont => exact hJ.elim
      | brk => exact hJ.elim
      | ret v => exact hJ.elim
end
end Mine
end
section
open PySem PySem.W PySem.Calls PyProof.Rows
set_option Elab.async false
set_option maxRecDepth 100000
set_option linter.all false
set_option maxHeartbeats 1000000
namespace Mine
noncomputable section

structure PSok (s : PS) (n : Nat) : Prop where
  o : s.opts.length ≤ n
  c : s.cs.length ≤ n
  e : s.encs.length ≤ n
  l : ∀ q ∈ s.cs, q.2.length ≤ n
  p : ∀ q ∈ s.cs, ∀ t ∈ q.2, t.length ≤ 100000
  m : ∀ q ∈ s.encs, q.2.length ≤ 100000

theorem decP_facts {encs : List (Tx × Tx)} {w : Tx × Tx} (hw : okPart w) (hm : ∀ q ∈ encs, q.2.length ≤ 100000) : (decP encs w).2.length ≤ 100000 ∧ ∀ l, (decP encs w).1 = some l → l.length ≤ 100000 := by
  obtain ⟨nm, len, nl, star, plain⟩ := hw
  unfold decP
  by_cases h : mkStar w.1 = true
  · rw [if_pos h]
    obtain ⟨g1, g2, g3⟩ := encP_facts (star h)
    have h1 : ∀ l, encF encs (mkBase w.1) (mkCont w.1) (encP w.2).1 = some l → l.length ≤ 100000 := by
      intro l hl
      unfold encF at hl
      split at hl
      · obtain ⟨q, hq, e⟩ := dget_mem hl
        rw [← e]; exact hm q hq
      · have := g3 l hl; omega
    refine ⟨?_, h1⟩
    show (if _ then _ else _ : Tx).length ≤ _
    split
    · rcases unquoteT_len (encP w.2).2 ((encF encs (mkBase w.1) (mkCont w.1) (encP w.2).1).getD []) with h | h
      · exact h
      · omega
    · omega
  · rw [if_neg h]
    exact ⟨plain (by simpa using h), fun l e => by cases e⟩

theorem stepP_ok {s : PS} {n : Nat} {w : Tx × Tx} (hw : okPart w) (hs : PSok s n) : PSok (stepP s w) (n + 1) := by
  obtain ⟨o, c, e, l, p, m⟩ := hs
  obtain ⟨d1, d2⟩ := decP_facts hw m
  rw [stepP_eq]
  generalize decP s.encs w = dd at d1 d2
  unfold putP
  split
  · refine ⟨Nat.le_trans (ddel_len _ _) (by omega), ?_, ?_, ?_, ?_, ?_⟩
    · unfold capp; split <;> exact Nat.le_trans (dset_len _ _ _) (by omega)
    · dsimp only; split
      · omega
      · exact Nat.le_trans (dset_len _ _ _) (by omega)
    · intro q hq
      dsimp only at hq
      unfold capp at hq
      split at hq
      · rename_i l' hl'
        rcases dset_mem hq with h | h
        · obtain ⟨q', hq', e'⟩ := dget_mem hl'
          rw [h, List.length_append]
          have := l q' hq'
          rw [e'] at this; simp; exact this
        · exact Nat.le_succ_of_le (l q h)
      · rcases dset_mem hq with h | h
        · rw [h]; simp
        · exact Nat.le_succ_of_le (l q h)
    · intro q hq t ht
      dsimp only at hq
      unfold capp at hq
      split at hq
      · rename_i l' hl'
        rcases dset_mem hq with h | h
        · obtain ⟨q', hq', e'⟩ := dget_mem hl'
          rw [h, List.mem_append] at ht
          rcases ht with ht | ht
          · exact p q' hq' t (by rw [e']; exact ht)
          · simp at ht; subst ht; exact d1
        · exact p q h t ht
      · rcases dset_mem hq with h | h
        · rw [h] at ht; simp at ht; subst ht; exact d1
        · exact p q h t ht
    · intro q hq
      dsimp only at hq
      split at hq
      · exact m q hq
      · rename_i hne
        rcases dset_mem hq with h | h
        · rw [h]
          cases hd : dd.1 with
          | none => rw [hd] at hne; exact absurd rfl hne
          | some l => exact d2 l hd
        · exact m q h
  · refine ⟨Nat.le_trans (dset_len _ _ _) (by omega), Nat.le_trans (ddel_len _ _) (by omega), ?_, fun q hq => Nat.le_succ_of_le (l q (ddel_mem hq)), fun q hq => p q (ddel_mem hq), ?_⟩
    · dsimp only; split
      · exact Nat.le_trans (ddel_len _ _) (by omega)
      · omega
    · intro q hq
      dsimp only at hq
      split at hq
      · exact m q (ddel_mem hq)
      · exact m q hq

theorem psrun_ok : ∀ (parts : List (Tx × Tx)) (s : PS) (n : Nat), (∀ w ∈ parts, okPart w) → PSok s n → PSok (parts.foldl stepP s) (n + parts.length)
  | [], s, n, _, h => h
  | w :: r, s, n, hw, h => by
    have := psrun_ok r (stepP s w) (n + 1) (fun v hv => hw v (by simp [hv])) (stepP_ok (hw w (by simp)) h)
    rw [List.length_cons, show n + (r.length + 1) = n + 1 + r.length from by omega]
    exact this
theorem psok0 : PSok ⟨[], [], []⟩ 0 := ⟨Nat.le_refl _, Nat.le_refl _, Nat.le_refl _, (fun _ h => nomatch h), (fun _ h => nomatch h), (fun _ h => nomatch h)⟩

variable (c : Wd)
abbrev stI (parts : List (Tx × Tx)) (i : Nat) : PS := (parts.take i).foldl stepP ⟨[], [], []⟩
theorem stI_succ {parts : List (Tx × Tx)} {i : Nat} {w : Tx × Tx} (h : parts[i]? = some w) : stI parts (i + 1) = stepP (stI parts i) w := by
  have hlt := (List.getElem?_eq_some_iff.mp h).1
  have hget := (List.getElem?_eq_some_iff.mp h).2
  unfold stI
  rw [List.take_succ_eq_append_getElem hlt, List.foldl_append, hget]
  rfl
theorem stI_ok {parts : List (Tx × Tx)} (hp : ∀ w ∈ parts, okPart w) (i : Nat) (hi : i ≤ parts.length) : PSok (stI parts i) i := by
  have := psrun_ok (parts.take i) ⟨[], [], []⟩ 0 (fun w hw => hp w (List.mem_of_mem_take hw)) psok0
  rw [List.length_take, Nat.zero_add, Nat.min_eq_left hi] at this
  exact this

/-- one turn -/
theorem b_turn {d : Dyn c} {A : LA} {w : Tx × Tx} {B : LB} {s : PS} {n : Nat} {cs : CS} {I : Addr} {oi : Obj} (hl : 3 ≤ d.lvl) (hao : A.ao ≠ 1) (hac : A.ac ≠ 1) (hae : A.ae ≠ 1) (hn : n ≤ 100) (hs : PSok s n) (hw : okPart w) (hcs : csP cs = s.cs) (hnd : (cs.map (·.1)).Nodup) {Q : Flow → Shared → Prop}
    (hQ : ∀ B' cs' s', csP cs' = (stepP s w).cs → (cs'.map (·.1)).Nodup → St ((fn_parse c).cx d) (lpM A B') (led4 A (stepP s w).opts cs' (stepP s w).encs ++ csL cs' ++ [(I, .raw oi)]) s' → Q .next s') :
    SX ((fn_parse c).cx d) (forBody c) (((lpM A B).set 7 (some (.str w.1))).set 14 (some (.str w.2))) (led4 A s.opts cs s.encs ++ csL cs ++ [(I, .raw oi)]) Q := by
  obtain ⟨so, sc, se, sl, sp, sm⟩ := hs
  have hclen : cs.length = s.cs.length := by rw [← hcs, List.length_map]
  have hdec := decP_facts hw sm
  rw [forBody_eq]
  refine SX.assign 15 (v := .none) rfl .noneC ?_
  refine SX.assign2 16 17 (v := .bool false) rfl rfl .bool ?_
  refine SX.cons1 (b_mark c (A := A) (pk := w.1) (pv := w.2) (mk := B.mm) (ch := B.cc) hw.nm (Q := fun f s' => match f with
    | .next => ∃ mk' mats, St ((fn_parse c).cx d) (lpM A ⟨some (.str (mkBase w.1)), some (.str w.2), some .none, some (.bool (mkCont w.1)), some (.bool (mkStar w.1)), mk', B.cc⟩) (led4 A s.opts cs s.encs ++ (csL cs ++ ([(I, .raw oi)] ++ mats))) s'
    | _ => False) (fun mk' mats s' S => ⟨mk', mats, S.cast (by simp only [List.append_assoc])⟩)) (fun s' hJ => ?_) (fun f s' hn hJ => ?_)
  · obtain ⟨mk', mats, S⟩ := hJ
    revert S
    refine (SX.cons1 (b_dec c (A := A) (w := w) (mk := mk') (ch := B.cc) (opts := s.opts) (encs := s.encs) (cs := cs) (led := csL cs ++ ([(I, .raw oi)] ++ mats)) hl hae hw (fun k e he => by obtain ⟨q, hq, e'⟩ := dget_mem he; rw [← e']; exact sm q hq) (Q := fun f s' => match f with
      | .next => ∃ ch' mats', St ((fn_parse c).cx d) (lpM A ⟨some (.str (mkBase w.1)), some (.str (decP s.encs w).2), some (ovV (decP s.encs w).1), some (.bool (mkCont w.1)), some (.bool (mkStar w.1)), mk', ch'⟩) (led4 A s.opts cs s.encs ++ csL cs ++ ([(I, .raw oi)] ++ mats')) s'
      | _ => False) (fun ch' m2 s' S => ⟨ch', mats ++ m2, S.cast (by simp only [List.append_assoc])⟩)) (fun s' hJ => ?_) (fun f s' hn hJ => ?_) : SX _ _ _ _ _) s'
    · obtain ⟨ch', mats', S⟩ := hJ
      revert S
      refine (SX.last (b_put c (A := A) (base := mkBase w.1) (p := (decP s.encs w).2) (e := (decP s.encs w).1) (cont := mkCont w.1) (mk := mk') (ch := ch') (opts := s.opts) (encs := s.encs) (cs := cs) (tl := [(I, .raw oi)] ++ mats') hao hac hae (by omega) (by omega) (by omega) (fun q hq => ?_) hnd (fun l e => by have := hdec.2 l e; omega) (fun cs' s' g1 g2 S => ?_)) : SX _ _ _ _ _) s'
      · have : (q.1, q.2.2) ∈ s.cs := by rw [← hcs]; exact List.mem_map.mpr ⟨q, hq, rfl⟩
        have := sl _ this
        dsimp only at this
        omega
      · have e1 : putP ⟨s.opts, csP cs, s.encs⟩ (mkBase w.1) (mkCont w.1) ((decP s.encs w).1, (decP s.encs w).2) = stepP s w := by
          rw [stepP_eq, hcs]
        rw [e1] at g1 S
        refine hQ _ cs' s' g1 g2 (S.sub ?_)
        exact List.Sublist.append (List.Sublist.refl _) (List.sublist_append_left _ _)
    · cases f with
      | next => exact absurd rfl hn
      | cont => exact hJ.elim
      | brk => exact hJ.elim
      | ret v => exact hJ.elim
  · cases f with
    | next => exact absurd rfl hn
    | cont => exact hJ.elim
    | brk => exact hJ.elim
    | ret v => exact hJ.elim
end
end Mine
end
section
open PySem PySem.W PySem.Calls PyProof.Rows
set_option Elab.async false
set_option maxRecDepth 100000
set_option linter.all false
set_option maxHeartbeats 1000000
namespace Mine
noncomputable section
variable (c : Wd)

abbrev ledS (A : LA) (s : PS) (cs : CS) : Ld := led4 A s.opts cs s.encs ++ csL cs

theorem for_loopP {d : Dyn c} {A : LA} {B : LB} {rest : List Stmt} (hl : 3 ≤ d.lvl) (h3 : A.a3 = some (.ref A.bp)) (hao : A.ao ≠ 1) (hac : A.ac ≠ 1) (hae : A.ae ≠ 1) (hp : ∀ w ∈ A.parts, okPart w) (hlen : A.parts.length ≤ 100) {Q : Flow → Shared → Prop}
    (k : ∀ o B' cs, csP cs = (runP A.parts).cs → (cs.map (·.1)).Nodup → SX ((fn_parse c).cx d) rest (lpM A B') (ledS { A with o := o } (runP A.parts) cs) Q) :
    SX ((fn_parse c).cx d) (forSt c :: rest) (lpM A B) [(A.bp, .pairs A.parts), (A.ao, .dict []), (A.ac, .dict []), (A.ae, .dict [])] Q := by
  refine SX.forPairs (i1 := 7) (i2 := 14) (j := 0) (xs := A.parts) (a := A.bp) rfl rfl (.name 3 rfl (by show some A.a3 = _; rw [h3])) rfl
    (fun o i m led => ∃ B cs, csP cs = (stI A.parts i).cs ∧ (cs.map (·.1)).Nodup ∧ m = lpM A B ∧ led = ledS { A with o := o } (stI A.parts i) cs)
    (fun o => ⟨B, [], rfl, .nil, rfl, rfl⟩) ?_ ?_ ?_
  · rintro o i m led ⟨B, cs, _, _, _, rfl⟩
    simp
  · rintro o i w m led I oi hw ⟨B, cs, g1, g2, rfl, rfl⟩
    have hlt := (List.getElem?_eq_some_iff.mp hw).1
    refine b_turn c (A := { A with o := o }) (B := B) (n := i) (cs := cs) hl hao hac hae (by omega) (stI_ok hp i (by omega)) (hp w (List.mem_of_getElem? hw)) g1 g2 fun B' cs' s' q1 q2 S => ?_
    refine ⟨_, _, ⟨B', cs', ?_, q2, rfl, rfl⟩, ?_⟩
    · rw [stI_succ hw]; exact q1
    · rw [stI_succ hw]; exact S
  · rintro o m led ⟨B, cs, g1, g2, rfl, rfl⟩
    have e : stI A.parts A.parts.length = runP A.parts := by unfold stI runP; rw [List.take_length]
    rw [e] at g1 ⊢
    exact k o B cs g1 g2

theorem strV_dmerge (o m : List (Tx × Tx)) : strV (dmerge o m) = dmerge (strV o) (strV m) := by
  induction m generalizing o with
  | nil => rfl
  | cons p m ih =>
    show strV (dmerge (dset o p.1 p.2) m) = dmerge (dset (strV o) p.1 (.str p.2)) (strV m)
    rw [ih, strV_dset]
theorem sum_le : ∀ (l : List Tx) (B : Nat), (∀ t ∈ l, t.length ≤ B) → (l.map (·.length)).sum ≤ l.length * B
  | [], B, _ => by simp
  | a :: l, B, h => by
    have := sum_le l B fun t ht => h t (by simp [ht])
    have h1 := h a (by simp)
    rw [List.map_cons, List.sum_cons, List.length_cons, Nat.succ_mul]; omega
theorem cp_empty : cp "" = [] := by decide +kernel

/-- the end: the continued ones are joined -/
theorem end_parse {d : Dyn c} {A : LA} {B : LB} {cs : CS} {s : PS} {v : Tx} (h0 : A.a0 = some (.str v)) (hac : A.ac ≠ 1) (hs : PSok s 100) (hcs : csP cs = s.cs) (hnd : (cs.map (·.1)).Nodup) :
    SX ((fn_parse c).cx d) ((bodyOf c.w.params 102).drop 13) (lpM A B) (ledS A s cs) (FQ ((fn_parse c).cx d) (isPair c.w.params v (finP s))) := by
  obtain ⟨so, sc, se, sl, sp, sm⟩ := hs
  have hclen : cs.length = s.cs.length := by rw [← hcs, List.length_map]
  obtain ⟨g, hg⟩ : ∃ g : Tx × V → V, g = fun kv => .str ((dget (csP cs) kv.1).getD []).flatten := ⟨_, rfl⟩
  have hmore : (csK cs).map (fun kv => (kv.1, g kv)) = strV (s.cs.map fun q => (q.1, q.2.flatten)) := by
    rw [← hcs]
    show ((cs.map _).map _) = (((cs.map _).map _).map _)
    rw [List.map_map, List.map_map, List.map_map]
    refine List.map_congr_left fun q hq => ?_
    obtain ⟨j, hj⟩ := List.mem_iff_getElem?.mp hq
    have : dget (csP cs) q.1 = some q.2.2 := dget_of_nodup (i := j) (by rw [csP_keys]; exact hnd) (by rw [List.getElem?_map, hj]; rfl)
    show (q.1, g (q.1, V.ref q.2.1)) = (q.1, V.str q.2.2.flatten)
    rw [hg]
    dsimp only
    rw [this]; rfl
  refine SX.expr (WX.update (i := 1) (kvs := strV s.opts) (more := strV (s.cs.map fun q => (q.1, q.2.flatten))) (.name 11 rfl rfl) rfl ?_ rfl ?_) ?_
  · rw [← hmore]
    refine EX.dictComp (a := A.ac) (EX.items (kvs := csK cs) (.name 12 rfl rfl) (fun s S => ledDict (i := 2) S rfl) hac) (fun s S => ledDict (i := 2) S rfl) (by simp; omega) ?_ (by decide) (by decide) rfl (by decide) rfl rfl (by decide) rfl
    rintro y ⟨k, rv⟩ led' hyc hyn hy hm
    obtain ⟨q, hq, e⟩ := List.mem_map.mp hm
    cases e
    obtain ⟨j, hj⟩ := List.mem_iff_getElem?.mp hq
    have hget : dget (csP cs) q.1 = some q.2.2 := dget_of_nodup (i := j) (by rw [csP_keys]; exact hnd) (by rw [List.getElem?_map, hj]; rfl)
    have hgv : g (q.1, V.ref q.2.1) = .str (joinT (cp "") q.2.2) := by
      rw [hg]; dsimp only; rw [hget, cp_empty, joinT_nil]; rfl
    rw [hgv]
    have hLB : ListAt y.B q.2.1 (q.2.2.map .str) := hy (q.2.1, .list (q.2.2.map .str)) (List.mem_append_right _ (List.mem_map.mpr ⟨q, hq, rfl⟩))
    refine EX.join (.str) (.name 1 (by rw [hyn]; rfl) rfl (by rw [hyn]; rfl)) rfl (fun st S => hLB.keep y.tB S.keep) ?_
    have hq2 : (q.1, q.2.2) ∈ s.cs := by rw [← hcs]; exact List.mem_map.mpr ⟨q, hq, rfl⟩
    have l1 : q.2.2.length ≤ 100 := sl _ hq2
    have l2 := sum_le q.2.2 100000 (sp _ hq2)
    rw [cp_empty, sizeLine_eq]
    have : q.2.2.length * 100000 ≤ 100 * 100000 := Nat.mul_le_mul_right _ l1
    simp only [List.length_nil, Nat.mul_zero, Nat.add_zero]
    exact Nat.le_trans l2 (by omega)
  · simp; omega
  · rw [← strV_dmerge]
    refine SX.retQ (EX.tuple (.cons (.name 0 rfl (by show some A.a0 = _; rw [h0])) (.cons (.name 11 rfl rfl) .nil rfl) rfl)) ?_
    rintro s' u n S hn ⟨ta, rfl, T, _⟩
    exact ⟨ta, A.ao, rfl, T, ledDict S (i := 1) rfl, (S.hled (A.ao, .dict (strV (dmerge s.opts (s.cs.map fun q => (q.1, q.2.flatten))))) (List.mem_of_getElem? (i := 1) rfl)).1⟩
end
end Mine
end
section
open PySem PySem.W PySem.Calls PyProof.Rows
set_option Elab.async false
set_option maxRecDepth 100000
set_option linter.all false
set_option maxHeartbeats 1000000
namespace Mine
noncomputable section
variable (c : Wd)

theorem ct_parse (value : Tx) (hlen : value.length ≤ 50000) (hp : ∀ w ∈ scan (stripL (partL value (cp ";")).2.2 (cp " \t")), okPart w) (hn : (scan (stripL (partL value (cp ";")).2.2 (cp " \t"))).length ≤ 100)
    (hl1 : (partL value (cp ";")).1.length ≤ 50000) (hl2 : (partL value (cp ";")).2.2.length ≤ 50000) (hl3 : (stripL (partL value (cp ";")).1 (cp " \t")).length ≤ 50000) (hl4 : (stripL (partL value (cp ";")).2.2 (cp " \t")).length ≤ 50000) :
    Ct c 102 4 [.str value] (fun _ => True) (isPair c.w.params (parseT value).1 (parseT value).2) :=
  (fn_parse c).ct fun d hl hpre => by
    have hl3' : 3 ≤ d.lvl := by omega
    refine SX.ifEnd (IT.isNone (.name 0 rfl rfl) rfl) (fun h => by cases h) (fun _ => ?_)
    refine SX.unpack (is := [0, 1, 2]) (vs := [.str (partL value (cp ";")).1, .str (partL value (cp ";")).2.1, .str (partL value (cp ";")).2.2]) (.cons rfl (.cons rfl (.cons rfl .nil))) (EX.partition (.name 0 rfl rfl) .str rfl ?_ ?_) rfl ?_
    · rw [sizeLine_eq]; omega
    · decide +kernel
    obtain ⟨v0, hv0⟩ : ∃ v0, v0 = (partL value (cp ";")).1 := ⟨_, rfl⟩
    obtain ⟨r0, hr0⟩ : ∃ r0, r0 = (partL value (cp ";")).2.2 := ⟨_, rfl⟩
    refine SX.assign 0 (v := .str (stripL v0 (cp " \t"))) rfl (EX.strip (EX.matNat (.name 0 rfl rfl) (by rw [hv0])) .str rfl (by rw [hv0, sizeLine_eq]; omega)) ?_
    refine SX.assign 2 (v := .str (stripL r0 (cp " \t"))) rfl (EX.strip (EX.matNat (.name 2 rfl rfl) (by rw [hr0])) .str rfl (by rw [hr0, sizeLine_eq]; omega)) ?_
    rw [← hv0] at hl1 hl3
    rw [← hr0] at hl2 hl4 hp hn
    have hparse : parseT value = if (stripL v0 (cp " \t")).isEmpty || (stripL r0 (cp " \t")).isEmpty then (stripL v0 (cp " \t"), []) else (stripL v0 (cp " \t"), finP (runP (scan (stripL r0 (cp " \t"))))) := by
      unfold parseT; dsimp only; rw [← hv0, ← hr0]
    rw [hparse]
    generalize stripL v0 (cp " \t") = v at hl3 ⊢
    generalize stripL r0 (cp " \t") = rest at hl4 hp hn ⊢
    refine SX.ifEnd (r := v.isEmpty || rest.isEmpty) ?_ (fun h => ?_) (fun h => ?_)
    · have : (v.isEmpty || rest.isEmpty) = if ((!(!v.isEmpty)) = (BoolOp.Or == .And)) then (!(!rest.isEmpty)) else (!(!v.isEmpty)) := by
        have c1 : (BoolOp.Or == .And) = false := rfl
        rw [c1]
        cases v.isEmpty <;> simp
      rw [this]
      exact .bool (.cons (IT.not (.value (.name 0 rfl rfl) (truth_str (by rw [sizeLine_eq]; omega)))) (fun _ => .last (IT.not (.value (.name 2 rfl rfl) (truth_str (by rw [sizeLine_eq]; omega))))))
    · rw [if_pos h]
      refine SX.retH (R := isPair c.w.params v []) ?_ isPair_mono (fun _ _ h => h)
      refine EX.imp (EX.tupleD (.v (v := .str v) (.name 0 rfl rfl) (.d .nil) rfl)) (fun n u h' => ?_)
      rintro ⟨a, vs, rfl, T, F⟩
      cases F with
      | v F =>
        cases F with
        | d hb D F =>
          cases F
          exact ⟨a, _, rfl, T, D, hb⟩
    · rw [if_neg (by rw [h]; decide)]
      refine SX.assignNew 3 (.pairs []) rfl (EX.list .nil) isList_pairs fun bp => ?_
      refine SX.assign 4 (v := .int 0) rfl .int ?_
      refine SX.assign 5 (v := .int rest.length) rfl (EX.len_str (EX.builtin rfl rfl rfl rfl) (.name 2 rfl rfl) rfl (by rw [sizeLine_eq]; omega)) ?_
      refine SX.cons1 (scan_while c (a0 := some (.str v)) (a1 := some (.str (partL value (cp ";")).2.1)) (rest := rest) (bp := bp) (tl := List.replicate 9 none) (j := ⟨none, none, none, none, none⟩) (by omega) (Q := fun f s' => match f with
        | .next => ∃ p j, St ((fn_parse c).cx d) (scanM (some (.str v)) (some (.str (partL value (cp ";")).2.1)) rest bp (List.replicate 9 none) p j) [(bp, .pairs (scan rest))] s'
        | _ => False) (fun p j mats s' S => ⟨p, j, St.left (l₁ := [(bp, .pairs (scan rest))]) S⟩)) (fun s' hJ => ?_) (fun f s' hn hJ => ?_)
      · obtain ⟨p, j, S⟩ := hJ
        revert S
        refine (SX.assignNew 11 (.dict []) rfl EX.dictNew isDict_rep fun ao => ?_ : SX _ _ _ _ _) s'
        refine SX.assignNew 12 (.dict []) rfl EX.dictNew isDict_rep fun ac => ?_
        refine SX.assignNew 13 (.dict []) rfl EX.dictNew isDict_rep fun ae => ?_
        intro s S
        have n1 : ao ≠ 1 := Cx.ne1 _ (S.hled (ao, .dict []) (by simp)).1
        have n2 : ac ≠ 1 := Cx.ne1 _ (S.hled (ac, .dict []) (by simp)).1
        have n3 : ae ≠ 1 := Cx.ne1 _ (S.hled (ae, .dict []) (by simp)).1
        revert S
        revert s
        have hps := psrun_ok (scan rest) ⟨[], [], []⟩ 0 hp psok0
        have hps' : PSok (runP (scan rest)) 100 := by
          obtain ⟨o, c, e, l, p, m⟩ := hps
          rw [Nat.zero_add] at o c e l
          exact ⟨Nat.le_trans o hn, Nat.le_trans c hn, Nat.le_trans e hn, fun q hq => Nat.le_trans (l q hq) hn, p, m⟩
        refine for_loopP c (A := ⟨some (.str v), some (.str (partL value (cp ";")).2.1), some (.str rest), some (.ref bp), some (.int p), some (.int rest.length), j.k, j.v, j.q, j.d, ao, ac, ae, bp, default, scan rest⟩) (B := ⟨j.pk, none, none, none, none, none, none⟩) hl3' rfl n1 n2 n3 hp hn fun o B' cs g1 g2 => ?_
        exact end_parse c (A := { (⟨some (.str v), some (.str (partL value (cp ";")).2.1), some (.str rest), some (.ref bp), some (.int p), some (.int rest.length), j.k, j.v, j.q, j.d, ao, ac, ae, bp, default, scan rest⟩ : LA) with o := o }) rfl n2 hps' g1 g2
      · cases f with
        | next => exact absurd rfl hn
        | cont => exact hJ.elim
        | brk => exact hJ.elim
        | ret v => exact hJ.elim

theorem ct_parse_none : Ct c 102 4 [.none] (fun _ => True) (isPair c.w.params [] []) :=
  (fn_parse c).ct fun d hl hpre => by
    refine SX.ifEnd (IT.isNone (.name 0 rfl rfl) rfl) (fun _ => ?_) (fun h => by cases h)
    refine SX.retH (R := isPair c.w.params [] []) ?_ isPair_mono (fun _ _ h => h)
    refine EX.imp (EX.tupleD (.v (v := .str []) (by rw [← cp_empty]; exact .str) (.d .nil) rfl)) (fun n u h' => ?_)
    rintro ⟨a, vs, rfl, T, F⟩
    cases F with
    | v F =>
      cases F with
      | d hb D F =>
        cases F
        exact ⟨a, _, rfl, T, D, hb⟩
end
end Mine
end
section
open PySem PySem.W PySem.Calls PyProof.Rows
set_option Elab.async false
set_option maxRecDepth 100000
set_option linter.all false
set_option maxHeartbeats 1000000
namespace Mine
noncomputable section

abbrev genQ : Str := "quote_header_value.<locals>.<genexpr>"
theorem wp_genCode {c : Wd} {A : Around} {E : Value → Shared → Prop} {s : Shared} (ok : Ok c s) {env : Env} (hcode : env.code = .ref 52) {pos : Pos} (hpos : pos.line = 32 ∧ pos.col = 15) {scope : Scope} {q : Str} (hq : q = genQ) {Q : Value → Shared → Prop}
    (hQ : ∀ c' h' tk, ExtW c s { s with heap := h', toks := tk } → Q (.ref c') { s with heap := h', toks := tk }) : wpAny (Md c) A (genexprCode env pos q scope) Q E s := by
  subst hq
  have B := ok.base
  obtain ⟨ps, hps, hor⟩ := ok.tabs.g
  obtain ⟨q60, e60⟩ := ok.tabs.get60
  rcases hor with rfl | ⟨c0, rfl, h1, h2, hC⟩
  · refine wpAny_genexprCodeX hcode ((hd52 B).code hps trivial) ((hd52 B).tab hps) rfl fun c' h' tk hx hge hlt _ hrec htb hnew => hQ c' h' tk ?_
    have kp : Keep s.heap h' := fun b o h1 h2 e => hx b o h2 e
    have e60' : h'.get? 60 = some (tabObj q60) := hx _ _ (by decide) e60
    have lt60 := Heap.lt_size e60
    have lt48 := Heap.lt_size hps
    have c60 : c' ≠ 60 := Nat.ne_of_gt (Nat.lt_of_lt_of_le lt60 hge)
    have c48 : c' ≠ 48 := Nat.ne_of_gt (Nat.lt_of_lt_of_le lt48 hge)
    have hCC : CodeC h' c' genQ := by
      obtain ⟨c1, o1, vs1, t1, q1, q2, q3, q4⟩ := hrec
      cases q1
      obtain ⟨P', _, _, ⟨⟨o2, vs2, r1, r2, _⟩, _⟩⟩ := hnew
      rw [q2] at r1; cases r1
      exact ⟨o1, vs1, t1, q2, r2, q3, q4⟩
    have T' : Tabs h' := by
      refine ⟨ok.tabs.l.keep kp (e60'.trans e60.symm), ⟨_, htb.2, .inr ⟨c', ?_, c60, c48, hCC⟩⟩⟩
      rw [hpos.1, hpos.2]; rfl
    exact ⟨⟨B.keep ok.tabs kp, T', ok.bare⟩, kp, Nat.le_trans hge (Nat.le_of_lt hlt), rfl⟩
  · have hf : codeAmong pos (#[rawInt 32, rawInt 15, Value.ref c0] : Array Value).toList = some (.ref c0) := by
      show (if (32 == (pos.line : Int) && 15 == (pos.col : Int)) = true then some (Value.ref c0) else _) = _
      rw [hpos.1, hpos.2]; rfl
    refine wpAny_genexprCode_hit hcode ((hd52 B).code hps trivial) hf ?_
    exact hQ c0 s.heap s.toks (ExtW.refl ok)

theorem gen_elt {c : Wd} {A' : Around} {E' : Value → Shared → Prop} {cenv : Env} {s₂ : Shared} {m₂ : Str → Option Value} {ca : Addr} {tk : List Nat} {t u : Tok} {ch : Nat} {q1 q2 q3 : Pos} (hk : cenv.scope.kind = .function) (h1 : cenv.kindOf "char" = some .local) (h2 : cenv.kindOf "token_chars" = some .free)
    (hn : s₂.heap.Ns cenv.locals m₂) (hm : m₂ "char" = some (.str ⟨#[ch]⟩ u)) (hc : cenv.cells.lookup ("token_chars" : Str) = some ca) (hcell : s₂.heap.IsCell ca (some (.str (mkS tk) t))) :
    wpAny (Md c) A' (eval (.Compare (.Name "char" q1) [.In] [.Name "token_chars" q2] q3) cenv) (fun y s₃ => y = .bool (containsL tk [ch]) ∧ Keeps s₂ s₃) E' s₂ := by
  refine wpAny_Compare1 ?_ rfl
  refine wpAny_Name (wpAny_loadName_local hk h1 hn hm ?_) (by decide)
  refine wpAny_Name (wpAny_loadName_free hk h2 hc hcell ?_) (by decide)
  exact SB.contains ⟨rfl, _, _, rfl, fun _ _ e => e⟩
end
end Mine
end
section
open PySem PySem.W PySem.Calls PyProof.Rows
set_option Elab.async false
set_option maxRecDepth 100000
set_option linter.all false
set_option maxHeartbeats 1000000
namespace Mine
noncomputable section
section
variable {x : Cx} {m : Lc} {led : Ld}

abbrev genSc : Scope := { kind := ScopeKind.function, names := [(Str.ofString ".0", NameKind.local), (Str.ofString "char", NameKind.local), (Str.ofString "token_chars", NameKind.free)], isGenerator := true, isCoroutine := false }
theorem clos_gen {env : Env} {ca : Addr} (h : env.cells.lookup ("token_chars" : Str) = some ca) : closureFor genSc env = pure [(("token_chars" : Str), ca)] := by
  unfold closureFor cellOf
  have h' : List.lookup (Str.ofString "token_chars") env.cells = some ca := h
  simp [genSc, h']

theorem wp_pyIter_str' {prog : Program} {w : World} {A : Around} {E : Value → Shared → Prop} {s : Shared} {x : Str} {t : Tok} {Q : Value → Shared → Prop}
    (hQ : ∀ (o : Obj) (St : Nat → Heap → Prop), o.cls ≠ .type "code" → o.isFreed = false → (∀ A' : Around, A'.handled = none → Walks prog w A' s.heap.objs.size [s.heap.objs.size] [s.heap.objs.size] x.cps.size (SignAt x) St) → St 0 (s.heap.push o) →
      Q (.ref s.heap.objs.size) { s with heap := s.heap.push o }) : wpAny (model prog w) A (pyIter (.str x t)) Q E s := by
  by_cases ha : x.cps.all (· < 128) = true
  · exact wpAny_pyIter_ascii ha (hQ _ _ (by simp) rfl (fun A' hA => Walks.strAscii hA _ x t) ⟨_, Heap.get?_push_size _ rfl, rfl, rfl⟩)
  · exact wpAny_pyIter_wide (Bool.eq_false_iff.mpr ha) (hQ _ _ (by simp) rfl (fun A' hA => Walks.strWide hA _ x t) ⟨_, Heap.get?_push_size _ rfl, rfl, rfl⟩)
theorem passing_all (n : Nat) : passing (fun _ => true) n 0 = List.range n := by unfold passing; simp

theorem EX.allIn {p q1 q2 q3 q4 gpos pos : Pos} {iter : Expr} {l tk : List Nat} {ca : Addr} {t : Tok} (hf : EV x m led (.Name "all" p) (.bi "all")) (hi : EV x m led iter (.str l)) (hled : (ca, AO.raw { cls := .type "cell", data := .cell (some (.str (mkS tk) t)) }) ∈ led)
    (hcells : x.env.cells.lookup ("token_chars" : Str) = some ca) (hcode : x.env.code = .ref 52) (hqual : x.env.qual ++ "<genexpr>" = genQ) (hpos : gpos.line = 32 ∧ gpos.col = 15) (hs : ∀ v, genFold iter x.env v = pure v) :
    EV x m led (.Call (.Name "all" p) [.GeneratorExp (.Compare (.Name "char" q1) [.In] [.Name "token_chars" q2] q3) [⟨.Name "char" q4, iter, [], 0⟩] genSc gpos] [] pos) (.bool (l.all fun ch => containsL tk [ch])) := by
  intro s S
  refine up ?_
  refine wpAny_Call_ofName (wpAny_mono (hf s S) (fun u s₁ h₁ => ?_) fun _ _ e => e.elim)
  obtain ⟨E₁, r₁⟩ := h₁
  cases r₁
  have S₁ := S.ext E₁
  have hd := x.hdep
  refine callWith_builtin (by rw [starEach_cons (by rfl)]; rfl) ?_
  rw [starEach_cons (by rfl)]
  refine evalArgs_plain (spliced_cons ?_)
  refine wpAny_GeneratorExp_walksQD x.hh rfl (clos_gen hcells) (by decide) rfl rfl rfl (by omega) (wpAny_mono (hi s₁ S₁) (fun v s₂ h₂ => ?_) fun _ _ e => e.elim) hs
  obtain ⟨E₂, tv, rfl⟩ := h₂
  have S₂ := S₁.ext E₂
  refine wp_pyIter_str' fun o St₀ hoc hof W hst => ?_
  have P := (Ext.refl S₂.ok).push o
  have S₃ := S₂.ext P
  refine ⟨S₃.base.lim, ?_⟩
  refine wp_genCode S₃.ok hcode hpos hqual fun c' h₄ tk₄ E₄ => ?_
  obtain ⟨bm, ob, b1, b2, b3, b4, b5, b6⟩ := E₄.ok.base.bm
  have hglob : ({ s₂ with heap := h₄, toks := tk₄ } : Shared).heap.Ns x.env.globals x.c.mg := by rw [x.hg]; exact E₄.ok.base.g
  refine wpAny_builtinsFor hglob b1 b2 b3 b4 b5 b6 ?_
  obtain ⟨s₄, hs₄⟩ : ∃ s₄ : Shared, s₄ = { s₂ with heap := h₄, toks := tk₄ } := ⟨_, rfl⟩
  have E4 : ExtW x.c { s₂ with heap := s₂.heap.push o } s₄ := by rw [hs₄]; exact E₄
  have E24 : ExtW x.c s₂ s₄ := P.toExtW.trans E4
  have hgens : s₄.gens = s₂.gens := by rw [hs₄]
  rw [show ({ heap := h₄, gens := ({ s₂ with heap := s₂.heap.push o } : Shared).gens, drawn := ({ s₂ with heap := s₂.heap.push o } : Shared).drawn, toks := tk₄, os := ({ s₂ with heap := s₂.heap.push o } : Shared).os } : Shared) = s₄ from hs₄.symm]
  have big : ∀ {b : Addr}, s₂.heap.objs.size ≤ b → b ≠ 60 ∧ b ≠ 48 := fun {b} hb => by
    obtain ⟨p1, e1⟩ := S₂.tabs.get60
    obtain ⟨p2, e2⟩ := S₂.tabs.get48
    have l1 := Heap.lt_size e1
    have l2 := Heap.lt_size e2
    exact ⟨Nat.ne_of_gt (Nat.lt_of_lt_of_le l1 hb), Nat.ne_of_gt (Nat.lt_of_lt_of_le l2 hb)⟩
  have hsz4 : s₂.heap.objs.size < s₄.heap.objs.size := by
    have := E4.size
    rw [show ({ s₂ with heap := s₂.heap.push o } : Shared).heap.objs.size = s₂.heap.objs.size + 1 from Heap.size_push ..] at this
    exact this
  have hlim4 := E24.ok.base.lim
  have hcs : cStatics < s₂.heap.objs.size := let ⟨_, hn, _⟩ := S₂.base.lim; hn.lt
  refine ⟨s₂.heap.objs.size, [s₂.heap.objs.size], [s₂.heap.objs.size], _, _, St₀, fun _ => true, fun i y => y = .bool (containsL tk [l.getD i 0]), rfl, W, ?_, ?_, hlim4, ?_, ?_, ?_⟩
  · refine (W x.A x.hh).frame 0 _ _ hst fun b hb ob e => ?_
    rw [List.mem_singleton] at hb
    subst hb
    exact E4.keep _ _ (big (Nat.le_refl _)).1 (big (Nat.le_refl _)).2 e
  · intro b hb
    rw [List.mem_singleton] at hb
    subst hb; exact hsz4
  · intro h
    rw [List.mem_singleton] at h
    exact Nat.lt_irrefl _ (h ▸ hcs)
  · intro href hhref
    refine ⟨fun A' E' i v s₃ m₂ _ _ _ _ _ _ _ => wpAny_pure ⟨rfl, _, _, rfl, fun _ _ e => e⟩, fun A' E' i v s₃ m₂ _ _ _ hP _ hn hm hk => ?_⟩
    obtain ⟨ch, u, hch, rfl⟩ := hP
    have hget : l.getD i 0 = ch := by
      have : l[i]? = some ch := by simpa [mkS] using hch
      rw [List.getD_eq_getElem?_getD, this]; rfl
    rw [hget]
    have hcell2 := (S₂.hled _ hled).2.2.1
    have hca : ca < s₂.heap.objs.size := Heap.lt_size hcell2
    obtain ⟨n60, n48⟩ : ca ≠ 60 ∧ ca ≠ 48 := ⟨S₂.tabs.ne60 hcell2 (by simp), S₂.tabs.ne48 hcell2 (by simp)⟩
    have hc4 := hhref _ _ (E24.keep _ _ n60 n48 hcell2)
    refine gen_elt rfl rfl rfl hn hm rfl ⟨_, hk ca (List.mem_range.mpr (Nat.lt_trans hca hsz4)) (fun h => ?_) _ hc4, rfl⟩
    rw [List.mem_singleton] at h
    exact Nat.lt_irrefl _ (h ▸ hca)
  · intro a h₅ tk₅ gs hgb ha hsz₅ hk₅ WS GA
    refine spliced_nil ?_
    have WS := WS.in4_1
    refine call_all_walkS (WS.self 0 _ _ _ GA ⟨a, _, _, _, _, _, _, fun j => containsL tk [l.getD j 0], rfl, WS, GA, ?_, fun s' hm => ?_⟩)
    · intro j v s6 Q6 E6 hP hQ6
      obtain ⟨i, hi, rfl⟩ := hP
      rw [passing_all] at hi
      obtain ⟨hlt, e⟩ := List.getElem?_eq_some_iff.mp hi
      rw [List.getElem_range] at e
      subst e
      exact wpAny_truthy_bool hQ6
    · have hwr : ∀ b, b ∉ [s₄.heap.objs.size, s₂.heap.objs.size] ↔ b ≠ s₄.heap.objs.size ∧ b ≠ s₂.heap.objs.size := fun b => by simp
      have kp4 : ∀ b ob, b ≠ s₂.heap.objs.size → s₄.heap.get? b = some ob → s'.heap.get? b = some ob := fun b ob hb e =>
        hm.heap b ob ((hwr b).mpr ⟨Nat.ne_of_lt (Heap.lt_size e), hb⟩) (hk₅ b ob e)
      have kp2 : Keep s₂.heap s'.heap := fun b ob h1 h2 e => kp4 b ob (Nat.ne_of_lt (Heap.lt_size e)) (E24.keep b ob h1 h2 e)
      have getI : s₄.heap.get? s₂.heap.objs.size = some o := by
        have e0 : (s₂.heap.push o).get? s₂.heap.objs.size = some o := by
          exact Heap.get?_push_size _ hof
        exact E4.keep _ _ (big (Nat.le_refl _)).1 (big (Nat.le_refl _)).2 e0
      have kc : ∀ c' q, CodeC s₄.heap c' q → CodeC s'.heap c' q := fun c' q hc => by
        obtain ⟨oc, vs, t2, g1, g2, r⟩ := hc
        refine ⟨oc, vs, t2, kp4 c' oc (fun q => ?_) g1, g2, r⟩
        subst q; rw [getI] at g1; cases g1; exact hoc g2
      have T' : Tabs s'.heap := by
        obtain ⟨⟨p1, a1, b1⟩, ⟨p2, a2, b2⟩⟩ := E24.ok.tabs
        exact ⟨⟨p1, kp4 _ _ (Ne.symm (big (Nat.le_refl _)).1) a1, b1.imp id fun ⟨c', e, h1, h2, r⟩ => ⟨c', e, h1, h2, kc _ _ r⟩⟩, ⟨p2, kp4 _ _ (Ne.symm (big (Nat.le_refl _)).2) a2, b2.imp id fun ⟨c', e, h1, h2, r⟩ => ⟨c', e, h1, h2, kc _ _ r⟩⟩⟩
      have hbare : AllBare s'.gens := AllBare.movedS (show AllBare (s₄.gens.push gs) from (hgens ▸ S₂.bare).push hgb) hm
      have hsize : s₂.heap.objs.size ≤ s'.heap.objs.size := by
        obtain ⟨⟨og, nm, qn, hg, _⟩, _⟩ := GA
        have := hm.heap a og ((hwr a).mpr ⟨Nat.ne_of_gt ha, Nat.ne_of_gt (Nat.lt_trans hsz4 ha)⟩) hg
        exact Nat.le_of_lt (Nat.lt_trans hsz4 (Nat.lt_trans ha (Heap.lt_size this)))
      have EF : ExtW x.c s₂ s' := ⟨⟨S₂.base.keep S₂.tabs kp2, T', hbare⟩, kp2, hsize, hm.os.trans E24.os⟩
      refine ⟨(E₁.toExtW.trans E₂.toExtW).trans EF, ?_⟩
      rw [passing_all, List.length_range, show (mkS l).cps.size = l.length from by simp [mkS]]
      show Value.bool _ = Value.bool _
      congr 1
      rw [Bool.eq_iff_iff, List.all_eq_true, List.all_eq_true]
      constructor
      · intro h ch hch
        obtain ⟨i, hi, e⟩ := List.mem_iff_getElem.mp hch
        have := h i (List.mem_range.mpr hi)
        rw [List.getD_eq_getElem?_getD, List.getElem?_eq_getElem hi, e] at this
        exact this
      · intro h i hi
        have hi' := List.mem_range.mp hi
        refine h _ ?_
        rw [List.getD_eq_getElem?_getD, List.getElem?_eq_getElem hi']
        exact List.getElem_mem hi'
end
end
end Mine
end
section
open PySem PySem.W PySem.Calls PyProof.Rows
set_option Elab.async false
set_option maxRecDepth 100000
set_option linter.all false
set_option maxHeartbeats 1000000
namespace Mine
noncomputable section

abbrev qNs : List Str := ["value", "allow_token", "value_str"]
abbrev qCx {c : Wd} (d : Dyn c) : Cx where
  c := c
  A := d.A
  env := callEnvC (fdOf c.w.params 53) d.L 53
  B := d.B
  ns := qNs
  os := d.os
  lvl := d.lvl
  hh := d.hh
  hdep := d.hdep
  hun := d.hun
  hk := rfl
  hg := rfl
  hb := rfl
  hns := fun i n e => by
    match i, e with
    | 0, e => cases e; rfl
    | 1, e => cases e; rfl
    | 2, e => cases e; rfl
    | i + 3, e => simp at e
  hnd := by decide +kernel
  hB := d.hB
  tB := d.tB
  hL := d.hL
abbrev cell0 : Obj := { cls := .type "cell", data := .cell none }

theorem ctq {c : Wd} {value : List Nat} {lvl : Nat} {R : Nat → Value → Heap → Prop}
    (hbody : ∀ d : Dyn c, d.lvl + 1 = lvl → SX (qCx d) (bodyOf c.w.params 53) [some (.str value), some (.bool true), none] [(d.L + 1, .raw cell0)] (FQ (qCx d) R)) (hlv : 0 < lvl := by decide) : Ct c 53 lvl [.str value] (fun _ => True) R := by
  intro A s us hh hdep hun hok htk hr _
  obtain ⟨u, rfl⟩ : ∃ u, us = [u] := by
    cases hr with
    | cons a b => cases b; exact ⟨_, rfl⟩
  have hu : (V.str value).rep u := by cases hr; assumption
  refine up ?_
  refine wpAny_call (codeAny_call_function (by omega) (hok.base.K 53 _ rfl) rfl rfl rfl rfl ⟨52, _, _, _, rfl, hok.base.K 52 _ rfl, rfl, rfl⟩ ?_)
  refine BindsTo.of_defaults (T := 46) (binds := [(("value" : Str), u), (("allow_token" : Str), Value.bool true)]) rfl (hok.base.K 46 _ rfl) rfl rfl rfl _ _ _ _ ?_
  obtain ⟨h1, eh1⟩ : ∃ h1, h1 = s.heap.push { cls := .type "frame", data := .dict #[] } := ⟨_, rfl⟩
  obtain ⟨h2, eh2⟩ : ∃ h2, h2 = h1.push cell0 := ⟨_, rfl⟩
  have sz1 : h1.objs.size = s.heap.objs.size + 1 := by rw [eh1, Heap.size_push]
  have sz2 : h2.objs.size = s.heap.objs.size + 2 := by rw [eh2, Heap.size_push, sz1]
  have keep : ∀ b o, s.heap.get? b = some o → h2.get? b = some o := fun b o e => by rw [eh2, eh1]; exact Heap.get?_push_of_some _ (Heap.get?_push_of_some _ e)
  have hns : h2.Ns s.heap.objs.size (fun _ => none) := by
    rw [eh2, eh1]; exact (Heap.Ns.new s.heap (.type "frame")).keeps fun b o e => Heap.get?_push_of_some _ e
  have gcell : h2.get? (s.heap.objs.size + 1) = some cell0 := by rw [eh2, ← sz1]; exact Heap.get?_push_size _ rfl
  let d : Dyn c := { A := A.deeper (callEnvC (fdOf c.w.params 53) s.heap.objs.size 53), L := s.heap.objs.size, B := s.heap, os := s.os, lvl := lvl - 1, hh := hh, hdep := (by show A.depth + 1 + 10 * (lvl - 1) + 10 < recursionLimit; omega), hun := (by show A.units + 3 + 100 * (lvl - 1) + 100 < cLine; omega), hB := hok.base, tB := hok.tabs, hL := Nat.le_refl _ }
  let d1 : Dyn c := { A := A.in1, L := s.heap.objs.size, B := s.heap, os := s.os, lvl := lvl - 1, hh := hh, hdep := (by show A.depth + 10 * (lvl - 1) + 10 < recursionLimit; omega), hun := (by show A.units + 1 + 100 * (lvl - 1) + 100 < cLine; omega), hB := hok.base, tB := hok.tabs, hL := Nat.le_refl _ }
  have S0 : St (qCx d1) [none, none, none] [] { s with heap := h2 } := by
    refine ⟨.of keep, ?_, hok.bare, ⟨_, hns, fun i n v e1 e2 => ?_⟩, (by show s.heap.objs.size ≤ h2.objs.size; omega), (fun _ h => nomatch h), .nil, rfl, htk⟩
    · obtain ⟨p1, e1⟩ := hok.tabs.get60
      obtain ⟨p2, e2⟩ := hok.tabs.get48
      exact hok.tabs.keep (.of keep) ((keep _ _ e1).trans e1.symm) ((keep _ _ e2).trans e2.symm)
    · match i, e2 with
      | 0, e2 => cases e2
      | 1, e2 => cases e2
      | 2, e2 => cases e2
      | i + 3, e2 => simp at e2
  have S1 : St (qCx d1) [none, none, none] [(s.heap.objs.size + 1, .raw cell0)] { s with heap := h2 } :=
    S0.add' (o := .raw cell0) (Nat.le_succ _) (Nat.succ_ne_self _) (by simp) ⟨gcell, by simp, by simp, by simp⟩
  simp only [newFunctionEnv, Option.isSome_none, Bool.false_eq_true, if_false]
  refine wpAny_bind (wpAny_alloc ?_)
  refine wpAny_bind (wpAny_layCells _ (fun name kind cells => by cases hkc : kind == NameKind.cell <;> simp [hkc]) _ _ _ _ ?_)
  rw [← eh1]
  show wpAny _ _ _ _ _ { s with heap := h1.push cell0 }
  rw [← eh2]
  dsimp only
  rw [sz1]
  rw [List.forIn_cons]
  refine wpAny_bind (wpAny_bind (wpAny_bind (store_wp (x := qCx d1) (i := 0) (v := .str value) S1 rfl hu fun s3 S3 => ?_)))
  refine wpAny_pure ?_
  dsimp only
  rw [List.forIn_cons]
  refine wpAny_bind (wpAny_bind (store_wp (x := qCx d1) (i := 1) (v := .bool true) S3 rfl rfl fun s4 S4 => ?_))
  refine wpAny_pure ?_
  dsimp only
  rw [List.forIn_nil]
  refine wpAny_pure ?_
  refine wpAny_pure ⟨S4.base.lim, ?_⟩
  have S5 : St (qCx d) [some (.str value), some (.bool true), none] [(d.L + 1, .raw cell0)] s4 := ⟨S4.keep, S4.tabs, S4.bare, S4.loc, S4.size, S4.hled, S4.nodup, S4.os, S4.tk⟩
  refine codeAny_func (wpAny_mono (hbody d (by show lvl - 1 + 1 = lvl; omega) s4 S5) (fun fl s' h => ?_) fun _ _ e => e.elim)
  obtain ⟨⟨m', led', S'⟩, hR⟩ := h
  have g : ExtW c s s' ∧ R s.heap.objs.size (flowVal fl) s'.heap := ⟨⟨S'.ok, S'.keep, S'.size, S'.os⟩, hR⟩
  cases fl <;> exact g
end
end Mine
end
section
open PySem PySem.W PySem.Calls PyProof.Rows
set_option Elab.async false
set_option maxRecDepth 100000
set_option linter.all false
set_option maxHeartbeats 1000000
namespace Mine
noncomputable section
section
variable {x : Cx} {m : Lc} {led : Ld} {Q : Flow → Shared → Prop}

theorem EX.fv {e : Expr} {pos : Pos} {l : List Nat} (h : EV x m led e (.str l)) (hsz : l.length ≤ 1000000) : EV x m led (.FormattedValue e (-1) none pos) (.str l) := fun s S =>
  FormattedValue_plain (wpAny_mono (h s S) (fun v s₁ h₁ => by
    obtain ⟨E, t, rfl⟩ := h₁
    exact wpAny_formatField_str ⟨E, t, rfl⟩ ⟨E.trans (.selfT (S.ext E) _), _, rfl⟩ (by rw [mkS_length, sizeLine_eq]; omega)) fun _ _ e => e)

inductive EStr (x : Cx) (m : Lc) (led : Ld) : List Expr → List (List Nat) → Prop
  | nil : EStr x m led [] []
  | cons {e es l ls} : EV x m led e (.str l) → EStr x m led es ls → EStr x m led (e :: es) (l :: ls)

theorem mkS_app (a b : List Nat) : mkS a ++ mkS b = mkS (a ++ b) := by
  show (⟨a.toArray ++ b.toArray⟩ : Str) = ⟨(a ++ b).toArray⟩
  rw [List.append_toArray]

theorem EStr.wp {es : List Expr} {ls : List (List Nat)} (h : EStr x m led es ls) : ∀ (out : List Nat) (s : Shared), St x m led s → out.length + (ls.map (·.length)).sum ≤ 1000000 →
    wpAny (Md x.c) x.A (joinParts (mkS out) (evalEach es x.env)) (fun v s' => Ext x.c s s' ∧ (V.str (out ++ ls.flatten)).rep v) nE s := by
  induction h with
  | nil =>
    intro out s S hl
    refine joinParts_nil ⟨.selfT S _, _, by rw [List.flatten_nil, List.append_nil]⟩ ?_
    rw [mkS_length, sizeLine_eq]; simp at hl; omega
  | @cons e es l ls h1 h2 ih =>
    intro out s S hl
    rw [arm_evalEach_cons]
    refine joinParts_cons (wpAny_mono (h1 s S) (fun v s₁ h₁ => ?_) fun _ _ e => e)
    obtain ⟨E, t, rfl⟩ := h₁
    simp only [List.map_cons, List.sum_cons] at hl
    refine ⟨?_, ?_⟩
    · rw [mkS_app, mkS_length, List.length_append, sizeLine_eq]; omega
    · rw [mkS_app]
      refine wpAny_mono (ih (out ++ l) s₁ (S.ext E) (by rw [List.length_append]; omega)) (fun v s₂ h₂ => ⟨E.trans h₂.1, ?_⟩) fun _ _ e => e
      have := h₂.2
      rw [List.append_assoc] at this
      exact this
theorem EX.joined {e1 e2 : Expr} {es : List Expr} {ls : List (List Nat)} {pos : Pos} (h : EStr x m led (e1 :: e2 :: es) ls) (hl : (ls.map (·.length)).sum ≤ 1000000) : EV x m led (.JoinedStr (e1 :: e2 :: es) pos) (.str ls.flatten) := fun s S =>
  JoinedStr_many (by
    have := h.wp [] s S (by simpa using hl)
    rw [List.nil_append] at this
    exact this)

theorem SX.assignCell (k : Nat) {n : Str} {v : V} {e : Expr} {p pos : Pos} {rest : List Stmt} {ca : Addr} {v0 : Option Value} (hkind : x.env.kindOf n = some .cell) (hc : x.env.cells.lookup n = some ca) (hk : led[k]? = some (ca, .raw { cls := .type "cell", data := .cell v0 })) (he : EV x m led e v)
    (kk : ∀ v', v.rep v' → SX x rest m (led.set k (ca, .raw { cls := .type "cell", data := .cell (some v') })) Q)
    (hs : swapsWith e (some (.Name n p)) pos.line x.env = pure false := by rfl) : SX x (.Assign [.Name n p] e pos :: rest) m led Q := fun s S => by
  refine wpAny_execs_cons (wpAny_Assign_Name (wpAny_mono (he s S) (fun u s₁ h₁ => ?_) fun _ _ e => e) hs)
  have S₁ := S.ext h₁.1
  have hm := (S₁.hled _ (List.mem_of_getElem? hk)).2.2.1
  unfold storeName
  simp only [hkind, x.hk]
  refine wpAny_bind (wpAny_cellOf hc ?_)
  unfold cellSet
  refine wpAny_bind (wpAny_load hm ?_)
  dsimp only
  refine wpAny_update hm ?_
  have hget := Heap.get?_update_self (fun o => { o with data := .cell (some u) }) hm rfl
  have := S₁.upd (k := k) (o' := .raw { cls := .type "cell", data := .cell (some u) }) hk (Heap.SameBut.update ..) ⟨hget, by simp, by simp, by simp⟩ S₁.tk
  exact kk u h₁.2 _ this
end
end
end Mine
end
section
open PySem PySem.W PySem.Calls PyProof.Rows
set_option Elab.async false
set_option maxRecDepth 100000
set_option linter.all false
set_option maxHeartbeats 1000000
namespace Mine
noncomputable section

def tokChars : Tx := cp "!#$%&'*+-.0123456789ABCDEFGHIJKLMNOPQRSTUVWXYZ^_`abcdefghijklmnopqrstuvwxyz|~"
def escT (v : Tx) : Tx := replL (replL v (cp "\\") (cp "\\\\")) (cp "\"") (cp "\\\"")
def quoteT (v : Tx) : Tx := if v.isEmpty then cp "\"\"" else if v.all fun ch => containsL tokChars [ch] then v else cp "\"" ++ (escT v ++ cp "\"")

theorem q_cells {c : Wd} (d : Dyn c) : (qCx d).env.cells.lookup ("token_chars" : Str) = some (d.L + 1) := by
  have : (qCx d).env.cells = [(("token_chars" : Str), d.L + 1)] := rfl
  rw [this]; simp
theorem q_code {c : Wd} (d : Dyn c) : (qCx d).env.code = .ref 52 := rfl
theorem q_qual {c : Wd} (d : Dyn c) : (qCx d).env.qual ++ "<genexpr>" = genQ := by
  have : (qCx d).env.qual = ("quote_header_value.<locals>." : Str) := by rfl
  rw [this]; decide +kernel
theorem q_kind {c : Wd} (d : Dyn c) : (qCx d).env.kindOf "token_chars" = some .cell := by rfl
variable (c : Wd)
theorem ct_quote (v : Tx) (hv : v.length ≤ 1000) (h1 : (replL v (cp "\\") (cp "\\\\")).length ≤ 10000) (h2 : (escT v).length ≤ 100000) : Ct c 53 1 [.str v] (fun _ => True) (isV (.str (quoteT v))) :=
  ctq fun d hl => by
    have hz1 : (Str.ofString "\\\\").length = 2 := by decide +kernel
    have hz2 : (Str.ofString "\\\"").length = 2 := by decide +kernel
    have e34 : (cp "\"").length = 1 := by decide +kernel
    have tailB : ∀ (m2 : V) led, SX (qCx d) ((bodyOf c.w.params 53).drop 3) [some (.str v), some m2, some (.str v)] led (FQ (qCx d) (isV (.str (cp "\"" ++ (escT v ++ cp "\""))))) := by
      intro m2 led
      refine SX.assign 2 (v := .str (escT v)) rfl (EX.replaceC (a := replL v (cp "\\") (cp "\\\\")) (EX.replaceC (a := v) (.name 2 rfl rfl) (by decide +kernel) (by rw [hz1]; omega)) (by decide +kernel) (by rw [hz2]; omega)) ?_
      refine SX.retV (EX.matNat (EX.joined (.cons .str (.cons (EX.fv (.name 2 rfl rfl) (by omega)) (.cons .str .nil))) (by simp [e34]; omega)) (by simp))
    refine SX.assign 2 (v := .str v) rfl (EX.str_str (EX.builtin rfl rfl rfl rfl) (.name 0 rfl rfl) rfl) ?_
    refine SX.ifEnd (r := !(!v.isEmpty)) (IT.not (.value (.name 2 rfl rfl) (truth_str (by rw [sizeLine_eq]; omega)))) (fun h => ?_) (fun h => ?_)
    · have h' : v.isEmpty = true := by simpa using h
      unfold quoteT; rw [if_pos h']
      exact SX.retH (R := isV (.str (cp "\"\""))) .str isV_mono (fun _ _ h => h)
    · have h' : v.isEmpty = false := by simpa using h
      unfold quoteT; rw [if_neg (by rw [h']; decide)]
      refine SX.if_ (.value (.name 1 rfl rfl) truth_bool) (fun _ => ?_) (fun h => by cases h)
      refine SX.assignCell 0 (ca := d.L + 1) (v0 := none) (v := .str tokChars) (q_kind d) (q_cells d) rfl (EX.glob rfl (rep_cp _ _) rfl) fun v' hv' => ?_
      obtain ⟨t, rfl⟩ := hv'
      refine SX.ifEnd (r := v.all fun ch => containsL tokChars [ch]) (.value (EX.allIn (ca := d.L + 1) (tk := tokChars) (t := t) (EX.builtin rfl rfl rfl rfl) (.name 2 rfl rfl) (List.mem_singleton.mpr rfl) (q_cells d) (q_code d) (q_qual d) ⟨rfl, rfl⟩ (fun _ => rfl)) truth_bool) (fun ha => ?_) (fun ha => ?_)
      · rw [if_pos ha]
        exact SX.retH (R := isV (.str v)) (.name 2 rfl rfl) isV_mono (fun _ _ h => h)
      · rw [if_neg (by rw [ha]; decide)]
        exact .nil (tailB _ _)
end
end Mine
end
section
open PySem PySem.W PySem.Calls PyProof.Rows
set_option Elab.async false
set_option maxRecDepth 100000
set_option linter.all false
set_option maxHeartbeats 1000000
namespace Mine
noncomputable section

def endsStar (k : Tx) : Bool := decide ((cp "*").length ≤ k.length) && ((k.drop (k.length - (cp "*").length)).take (cp "*").length == cp "*")
def segT (k v : Tx) : Tx := if endsStar k then k ++ (cp "=" ++ v) else k ++ (cp "=" ++ quoteT v)
def segsT (kvs : List (Tx × Option Tx)) : List Tx := kvs.filterMap fun p => p.2.map (segT p.1)
def dumpT (header : Option Tx) (kvs : List (Tx × Option Tx)) : Tx := joinT (cp "; ") (header.toList ++ segsT kvs)
abbrev optV (kvs : List (Tx × Option Tx)) : List (Tx × V) := kvs.map fun p => (p.1, ovV p.2)

structure okOpt (p : Tx × Option Tx) : Prop where
  k : p.1.length ≤ 100
  v : ∀ v, p.2 = some v → v.length ≤ 1000 ∧ (replL v (cp "\\") (cp "\\\\")).length ≤ 10000 ∧ (escT v).length ≤ 10000

theorem quoteT_len {v : Tx} (h1 : v.length ≤ 1000) (h2 : (escT v).length ≤ 10000) : (quoteT v).length ≤ 10002 := by
  have e1 : (cp "\"\"").length = 2 := by decide +kernel
  have e2 : (cp "\"").length = 1 := by decide +kernel
  unfold quoteT
  split
  · omega
  · split
    · omega
    · rw [List.length_append, List.length_append, e2]; omega
theorem segT_len {k v : Tx} (hk : k.length ≤ 100) (h1 : v.length ≤ 1000) (h2 : (escT v).length ≤ 10000) : (segT k v).length ≤ 10103 := by
  have e1 : (cp "=").length = 1 := by decide +kernel
  have := quoteT_len h1 h2
  unfold segT
  split
  · rw [List.length_append, List.length_append, e1]; omega
  · rw [List.length_append, List.length_append, e1]; omega

variable (c : Wd)
theorem fn_dump : Fn c 72 71 ["header", "options", "segments", "key", "value"] 2 := ⟨⟨_, _, _, rfl, rfl, fun us h => by match us, h with | [_, _], _ => rfl⟩, ⟨_, _, _, rfl, rfl, rfl⟩, rfl, by decide +kernel, by decide, rfl, rfl, rfl, rfl⟩

theorem ct_dump (header : Option Tx) (a : Addr) (kvs : List (Tx × Option Tx)) (ha : a ≠ 1) (hh : ∀ h, header = some h → h.length ≤ 1000) (hk : kvs.length ≤ 100) (hok : ∀ p ∈ kvs, okOpt p) :
    Ct c 72 2 [ovV header, .ref a] (fun h => DictAt c.w.params h a (optV kvs)) (isV (.str (dumpT header kvs))) :=
  (fn_dump c).ct fun d hl hp => by
    have e1 : (cp "=").length = 1 := by decide +kernel
    have hl1 : 1 ≤ d.lvl := by omega
    refine SX.assignNew 2 (.list []) rfl (EX.list .nil) isList_rep fun sg => ?_
    refine SX.joinL [(sg, .list (header.toList.map .str))] (IT.isNotNone (.name 0 rfl rfl) (by cases header <;> rfl)) (fun h => ?_) (fun h => ?_) ?_
    · obtain ⟨hd, rfl⟩ : ∃ hd, header = some hd := by cases header with | none => cases h | some hd => exact ⟨hd, rfl⟩
      exact SX.expr (WX.append (k := 0) (xs := []) (v := .str hd) (.name 2 rfl rfl) rfl (.name 0 rfl rfl) rfl (by simp)) (.nil fun s S => S)
    · have : header = none := by cases header with | none => rfl | some hd => cases h
      subst this
      exact .nil fun s S => S
    · refine SX.forItems (i1 := 3) (i2 := 4) (a := a) (kvs := optV kvs) rfl rfl (EX.items (kvs := optV kvs) (.name 1 rfl rfl) (fun s S => hp.keep d.tB S.keep) ha) hp
        (fun i m led => (∃ u1 u2, m = [some (ovV header), some (.ref a), some (.ref sg), u1, u2]) ∧ led = [(sg, .list ((header.toList ++ segsT (kvs.take i)).map .str))])
        ⟨⟨_, _, rfl⟩, by simp [segsT]⟩ ?_ ?_
      · rintro i k v m led I oi hkv ⟨⟨u1, u2, rfl⟩, rfl⟩
        rw [List.getElem?_map] at hkv
        obtain ⟨q, hq, e⟩ := Option.map_eq_some_iff.mp hkv
        obtain ⟨k', o⟩ := q
        cases e
        have hi : i < kvs.length := (List.getElem?_eq_some_iff.mp hq).1
        have hget := (List.getElem?_eq_some_iff.mp hq).2
        have hmem := List.mem_of_getElem? hq
        obtain ⟨okk, okv⟩ := hok _ hmem
        have okk : k'.length ≤ 100 := okk
        have hseg : segsT (kvs.take (i + 1)) = segsT (kvs.take i) ++ (o.map (segT k')).toList := by
          unfold segsT
          rw [List.take_succ_eq_append_getElem hi, List.filterMap_append, hget]
          cases o <;> rfl
        have hlen : ((header.toList ++ segsT (kvs.take i)).map V.str).length ≤ 100000 := by
          have l1 : (segsT (kvs.take i)).length ≤ (kvs.take i).length := List.length_filterMap_le _ _
          have l2 : header.toList.length ≤ 1 := by cases header <;> simp
          have l3 : (kvs.take i).length ≤ kvs.length := by rw [List.length_take]; omega
          rw [List.length_map, List.length_append]; omega
        refine SX.ifEnd (IT.isNone (.name 4 rfl rfl) (by cases o <;> rfl)) (fun h => ?_) (fun h => ?_)
        · have : o = none := by cases o with | none => rfl | some v => cases h
          subst this
          refine .cont fun s S => ⟨_, _, ⟨⟨_, _, rfl⟩, rfl⟩, S.cast ?_⟩
          rw [hseg]; simp
        · obtain ⟨v, rfl⟩ : ∃ v, o = some v := by cases o with | none => cases h | some v => exact ⟨v, rfl⟩
          obtain ⟨v1, v2, v3⟩ := okv v rfl
          refine SX.last (SX1.if_ (r := endsStar k') (.value (EX.endswith (.name 3 rfl rfl) .str rfl) truth_bool) (fun hs => ?_) (fun hs => ?_))
          · have e2 : segT k' v = k' ++ (cp "=" ++ v) := by unfold segT; rw [if_pos hs]
            refine SX.expr (WX.append (k := 0) (v := .str (segT k' v)) (.name 2 rfl rfl) rfl (EX.matNat (EX.joined (.cons (EX.fv (.name 3 rfl rfl) (by omega)) (.cons .str (.cons (EX.fv (.name 4 rfl rfl) (by omega)) .nil))) (by simp [e1]; omega)) (by rw [e2]; simp)) rfl hlen) (.nil fun s S => ⟨_, _, ⟨⟨_, _, rfl⟩, rfl⟩, S.cast ?_⟩)
            rw [hseg]; simp
          · have e2 : segT k' v = k' ++ (cp "=" ++ quoteT v) := by unfold segT; rw [if_neg (by rw [hs]; decide)]
            have ql := quoteT_len v1 v3
            refine SX.expr (WX.append (k := 0) (v := .str (segT k' v)) (.name 2 rfl rfl) rfl (EX.matNat (EX.joined (.cons (EX.fv (.name 3 rfl rfl) (by omega)) (.cons .str (.cons (EX.fv (EX.call (ct_quote c v v1 v2 (by omega)) hl1 (EX.glob rfl rfl rfl) ⟨_, _, rfl, rfl⟩ (.cons (.name 4 rfl rfl) .nil rfl) (fun _ _ => trivial) isV_mono) (by omega)) .nil))) (by simp [e1]; omega)) (by rw [e2]; simp)) rfl hlen) (.nil fun s S => ⟨_, _, ⟨⟨_, _, rfl⟩, rfl⟩, S.cast ?_⟩)
            rw [hseg]; simp
      · rintro m led ⟨⟨u1, u2, rfl⟩, rfl⟩
        have e3 : (optV kvs).length = kvs.length := List.length_map ..
        rw [e3, List.take_length]
        unfold dumpT
        refine SX.retV (EX.join .str (.name 2 rfl rfl) rfl (fun s S => (S.hled (sg, .list _) (by simp)).2.2) ?_)
        have b1 : ∀ t ∈ header.toList ++ segsT kvs, t.length ≤ 10103 := by
          intro t ht
          rcases List.mem_append.mp ht with ht | ht
          · cases header with
            | none => simp at ht
            | some h => simp at ht; subst ht; have := hh _ rfl; omega
          · unfold segsT at ht
            obtain ⟨q, hq, e⟩ := List.mem_filterMap.mp ht
            obtain ⟨v, hv, e'⟩ := Option.map_eq_some_iff.mp e
            obtain ⟨o1, o2⟩ := hok q hq
            obtain ⟨v1, v2, v3⟩ := o2 v hv
            rw [← e']; exact segT_len o1 v1 v3
        have b2 : (header.toList ++ segsT kvs).length ≤ 101 := by
          have l1 : (segsT kvs).length ≤ kvs.length := List.length_filterMap_le _ _
          have l2 : header.toList.length ≤ 1 := by cases header <;> simp
          rw [List.length_append]; omega
        have b3 := sum_le _ 10103 b1
        have b4 : (header.toList ++ segsT kvs).length * 10103 ≤ 101 * 10103 := Nat.mul_le_mul_right _ b2
        have e4 : (cp "; ").length = 2 := by decide +kernel
        rw [e4, sizeLine_eq]
        have b5 : ((header.toList ++ segsT kvs).map (fun x => x.length)).sum ≤ (header.toList ++ segsT kvs).length * 10103 := b3
        refine Nat.le_trans (Nat.add_le_add b5 (Nat.le_refl _)) ?_
        omega
end
end Mine
end
section
open PySem PySem.W PySem.Calls PyProof.Rows
set_option Elab.async false
set_option maxRecDepth 100000
set_option linter.all false
set_option maxHeartbeats 1000000
namespace Mine
noncomputable section
section
variable {c : Wd} {A : Around} {E : Value → Shared → Prop} {s : Shared}

/-- two dicts of texts that hold the same -/
def sameD (d e : List (Tx × Tx)) : Prop := d.length = e.length ∧ ∀ p ∈ d, dget e p.1 = some p.2

theorem tuple_ne2 {a b : Addr} {x1 y1 x2 y2 : Value} {n1 n2 : Nat} {Q : Value → Shared → Prop} (h1 : s.heap.get? a = some { cls := .type "tuple", data := .seq #[x1, x2] n1 }) (h2 : s.heap.get? b = some { cls := .type "tuple", data := .seq #[y1, y2] n2 }) (hu : A.units < cLine)
    (e1 : ∀ (E : Value → Shared → Prop) (Q : Bool → Shared → Prop), Q true s → wpAny (Md c) A.in1 (eqBool x1 y1) Q E s) (e2 : ∀ (E : Value → Shared → Prop) (Q : Bool → Shared → Prop), Q true s → wpAny (Md c) A.in1 (eqBool x2 y2) Q E s)
    (h : Q (.bool false) s) : wpAny (Md c) A (compareOp .NotEq (.ref a) (.ref b)) Q E s := by
  refine wpAny_richCompare_same_room (op := .NotEq) ⟨_, h1, rfl⟩ ⟨_, h2, rfl⟩ PySem.F.slot_tuple_ne (wpAny_call_entry PySem.F.slot_tuple_ne ⟨_, h1, rfl⟩ PySem.F.entry_tuple_ne ?_ (PySem.F.args_tuple_ne_2 _ _)) hu
  refine wpAny_bind (m := slotArgs "__ne__" 1 ⟨[.ref a, .ref b], []⟩) (wpAny_of_eq (a := (Value.ref a, [Value.ref b])) rfl ?_)
  refine wpAny_bind (m := isInstance (.ref b) (.type "tuple")) (wpAny_isInstance (T := "tuple") (b := true) ⟨_, h2, rfl⟩ AutoSeq1.sub_tuple_tuple ?_)
  simp only [Bool.not_true, Bool.false_eq_true, if_false]
  have items : ∀ {t : Addr} {x y : Value} {n : Nat} {R : Array Value → Shared → Prop} {E' : Value → Shared → Prop}, s.heap.get? t = some { cls := .type "tuple", data := .seq #[x, y] n } → R #[x, y] s → wpAny (Md c) A.in1 (Builtin.Tuple.tupleItemsOf (.ref t)) R E' s := fun ht hR => by
    unfold Builtin.Tuple.tupleItemsOf
    exact wpAny_bind (wpAny_seqItems ht rfl (wpAny_pure hR))
  refine wpAny_bind (items h1 (wpAny_bind (items h2 ?_)))
  dsimp only
  have hz : ((#[x1, x2] : Array Value).toList.zip (#[y1, y2] : Array Value).toList) = [(x1, y1), (x2, y2)] := rfl
  rw [hz]
  refine wpAny_bind ?_
  rw [List.forIn_cons]
  refine wpAny_bind (wpAny_bind (e1 _ _ ?_))
  rw [if_neg (by decide)]
  refine wpAny_pure ?_
  dsimp only
  rw [List.forIn_cons]
  refine wpAny_bind (wpAny_bind (e2 _ _ ?_))
  rw [if_neg (by decide)]
  refine wpAny_pure ?_
  dsimp only
  rw [List.forIn_nil]
  refine wpAny_pure ?_
  exact wpAny_pure ⟨_, rfl, (by intro q; cases q), h⟩

theorem eq_text {l : List Nat} {t u : Tok} : ∀ (E : Value → Shared → Prop) (Q : Bool → Shared → Prop), Q true s → wpAny (Md c) A (eqBool (.str (mkS l) t) (.str (mkS l) u)) Q E s := fun E Q h =>
  wpAny_eqBool_str (by simpa using h)

theorem hits_of {A : Around} {e : List (Tx × Tx)} {e' : List (Str × Value)} (re : F2 KV (strV e) e') : ∀ {d : List (Tx × Tx)} {d' : List (Str × Value)}, F2 KV (strV d) d' → (∀ p ∈ d, dget e p.1 = some p.2) → KeqHits A s e' d' true
  | [], [], .nil, _ => .nil
  | p :: d, (k', v') :: d', .cons h1 h2, hs => by
    obtain ⟨rfl, t, rfl⟩ : k' = mkS p.1 ∧ (V.str p.2).rep v' := h1
    have hp := hs p (by simp)
    rcases KV.get re p.1 with ⟨q1, _⟩ | ⟨v, v'', q1, q2, q3⟩
    · rw [dget_mapV, hp] at q1; cases q1
    · rw [dget_mapV, hp] at q1; cases q1
      obtain ⟨u, rfl⟩ := q3
      have := KeqHits.hit (A := A) (s := s) (kb := e') (k := mkS p.1) (v := .str (mkS p.2) t) (y := .str (mkS p.2) u) (e := true) (b := true) q2 (fun prog w E Q hq => wpAny_eqBool_str (by simpa using hq)) (hits_of re h2 fun q hq => hs q (by simp [hq]))
      exact this

theorem eq_dict {a b : Addr} {d e : List (Tx × Tx)} (ha : a ≠ 1) (hb : b ≠ 1) (hu : A.units < cLine) (Da : DictAt c.w.params s.heap a (strV d)) (Db : DictAt c.w.params s.heap b (strV e)) (h : sameD d e) :
    ∀ (E : Value → Shared → Prop) (Q : Bool → Shared → Prop), Q true s → wpAny (Md c) A (eqBool (.ref a) (.ref b)) Q E s := fun E Q hQ => by
  obtain ⟨d', D1, r1⟩ := Da.of
  obtain ⟨e', D2, r2⟩ := Db.of
  unfold eqBool
  refine wpAny_holding ?_
  by_cases hab : (Value.ref a == Value.ref b) = true
  · rw [if_pos hab]
    exact wpAny_bind (wpAny_rule (wpAny_pure hQ))
  · rw [if_neg hab]
    have key : wpAny (Md c) A (richCompare .Eq (.ref a) (.ref b)) (fun r s₁ => wpAny (Md c) A (truthOfDropped r) Q E s₁) E s := by
      refine keq_eq (sysMods ha) (sysMods hb) D1 D2 hu (fun _ => hits_of r2 r1 h.2) ?_
      have hl : (d'.length == e'.length && true) = true := by
        have l1 := r1.lenEq
        have l2 := r2.lenEq
        rw [List.length_map] at l1 l2
        rw [l1, l2, h.1]; simp
      rw [hl]
      exact wpAny_truthy_bool hQ
    exact wpAny_bind key
end
end
end Mine
end
section
open PySem PySem.W PySem.Calls PyProof.Rows
set_option Elab.async false
set_option maxRecDepth 100000
set_option linter.all false
set_option maxHeartbeats 1000000
namespace Mine
noncomputable section
section
variable {x : Cx} {m : Lc} {led : Ld} {Q : Flow → Shared → Prop}

abbrev isPairO (P : Params) (text : Tx) (d : List (Tx × Tx)) : Nat → Value → Heap → Prop := fun _ v h' => ∃ a b, v = .ref a ∧ TupAt h' a [.str text, .ref b] ∧ DictAt P h' b (strV d) ∧ b ≠ 1
theorem EX.pairO {e1 e2 : Expr} {k pos} {t : Tx} {b : Addr} {d : List (Tx × Tx)} (h1 : EV x m led e1 (.str t)) (n1 : notStar e1 = true) (h2 : EV x m led e2 (.ref b)) (n2 : notStar e2 = true) (hb : b ≠ 1) (hD : ∀ s, St x m led s → DictAt x.c.w.params s.heap b (strV d)) : EX x m led (.Tuple [e1, e2] k pos) (isPairO x.c.w.params t d) := fun s S =>
  wpAny_mono ((EX.tuple (.cons h1 (.cons h2 .nil n2) n1) : EX x m led (.Tuple [e1, e2] k pos) (isTup [.str t, .ref b])) s S) (fun v s' h => by
    obtain ⟨E, a, rfl, T, _⟩ := h
    exact ⟨E, a, b, rfl, T, hD s' (S.ext E), hb⟩) fun _ _ e => e
theorem EX.pairE {e1 : Expr} {p k pos} {t : Tx} (h1 : EV x m led e1 (.str t)) (n1 : notStar e1 = true) : EX x m led (.Tuple [e1, .Dict [] [] p] k pos) (isPairO x.c.w.params t []) := fun s S =>
  wpAny_mono ((EX.tupleD (.v h1 (.d .nil) n1) : EX x m led (.Tuple [e1, .Dict [] [] p] k pos) (fun n v h' => ∃ a vs, v = .ref a ∧ TupAt h' a vs ∧ FD x.c.w.params h' n [some (.str t), none] vs)) s S) (fun v s' h => by
    obtain ⟨E, a, vs, rfl, T, F⟩ := h
    cases F with
    | v F =>
      cases F with
      | d hb D F =>
        cases F
        exact ⟨E, a, _, rfl, T, D, x.ne1 (Nat.le_trans S.size hb)⟩) fun _ _ e => e

theorem two_items {h : Heap} {a : Addr} {v1 v2 : V} (T : TupAt h a [v1, v2]) : ∃ x1 x2 n, h.get? a = some { cls := .type "tuple", data := .seq #[x1, x2] n } ∧ v1.rep x1 ∧ v2.rep x2 := by
  obtain ⟨vs, n, e, r⟩ := T
  obtain ⟨l⟩ := vs
  cases r with
  | cons r1 r =>
    cases r with
    | cons r2 r =>
      cases r
      exact ⟨_, _, n, e, r1, r2⟩

theorem wp_neTup {l r : Expr} {t : Tx} {d e : List (Tx × Tx)} (hl : EX x m led l (isPair x.c.w.params t d)) (hr : EX x m led r (isPairO x.c.w.params t e)) (h : sameD d e) {s : Shared} (S : St x m led s) {R : Value → Shared → Prop} (hR : ∀ s', Ext x.c s s' → R (.bool false) s') :
    wpAny (Md x.c) x.A (eval l x.env) (fun u s₁ => wpAny (Md x.c) x.A (eval r x.env) (fun v s₂ => wpAny (Md x.c) x.A (compareOp .NotEq u v) R nE s₂) nE s₁) nE s := by
  refine wpAny_mono (hl s S) (fun u s₁ h₁ => ?_) fun _ _ e => e
  obtain ⟨E₁, a, b, rfl, T, D, hb⟩ := h₁
  have S₁ := S.ext E₁
  refine wpAny_mono (hr s₁ S₁) (fun v s₂ h₂ => ?_) fun _ _ e => e
  obtain ⟨E₂, a', b', rfl, T', D', hb'⟩ := h₂
  have S₂ := S₁.ext E₂
  obtain ⟨x1, x2, n1, g1, r1, r2⟩ := two_items (T.keep S₁.tabs E₂.keep)
  obtain ⟨y1, y2, n2, g2, q1, q2⟩ := two_items T'
  obtain ⟨t1, rfl⟩ := r1
  obtain ⟨t2, rfl⟩ := q1
  obtain rfl := r2
  obtain rfl := q2
  have hu := x.hun
  refine tuple_ne2 g1 g2 (by omega) eq_text ?_ (hR s₂ (E₁.trans E₂))
  exact eq_dict (x.ne1 (Nat.le_trans S.size hb)) hb' (by show x.A.units + 1 < cLine; omega) (D.keep S₁.tabs E₂.keep) D' h
theorem IT.neTup {l r : Expr} {pos : Pos} {t : Tx} {d e : List (Tx × Tx)} (hl : EX x m led l (isPair x.c.w.params t d)) (hr : EX x m led r (isPairO x.c.w.params t e)) (h : sameD d e) (hm : behindInMarks .NotEq r = false := by rfl) : IT x m led (.Compare l [.NotEq] [r] pos) false := fun s S =>
  wpAny_isTrue_Compare1 (wp_neTup hl hr h S fun s' E => wpAny_truthy_bool ⟨E, rfl⟩) hm

/-- a call of one argument that is a list just made -/
theorem EX.callL {f : Addr} {n : Str} {p pos : Pos} {e : Expr} {vs : List V} {lvl : Nat} {R : Nat → Value → Heap → Prop}
    (hC : ∀ a, Ct x.c f lvl [.ref a] (fun h => ListAt h a vs) R) (hl : lvl ≤ x.lvl) (hf : EV x m led (.Name n p) (.ref f)) (hK : ∃ o fd, x.c.K.lookup f = some o ∧ o.data = .func fd) (he : EX x m led e (isList vs)) (hs : notStar e = true) (hm : PMono R) : EX x m led (.Call (.Name n p) [e] [] pos) R := by
  intro s S
  obtain ⟨o, fd, hk, hd⟩ := hK
  refine wpAny_Call_ofName (wpAny_mono (hf s S) (fun u s₁ h₁ => ?_) fun _ _ e => e)
  obtain ⟨E₁, r₁⟩ := h₁
  cases r₁
  have S₁ := S.ext E₁
  rw [starEach_cons hs]
  refine callWith_function (o := o) (fd := fd) (evalArgs_plain (spliced_cons (wpAny_mono (he s₁ S₁) (fun v s₂ h₂ => spliced_nil ?_) fun _ _ e => e)))
  obtain ⟨E₂, a, rfl, L, ha⟩ := h₂
  have S₂ := S₁.ext E₂
  refine ⟨⟨S₂.base.K _ _ hk, hd⟩, ?_⟩
  have hdep := x.hdep
  have hun := x.hun
  refine wpAny_mono (hC a x.A s₂ [.ref a] x.hh (by omega) (by omega) S₂.ok S₂.tk (.cons rfl .nil) L) (fun v s₃ h₃ => ⟨E₁.trans (E₂.trans h₃.1), hm _ _ _ _ (Nat.le_trans E₁.size E₂.size) h₃.2⟩) fun _ _ e => e

/-- a call of two arguments, the second a dict just made -/
theorem EX.callD {f : Addr} {n : Str} {p pos : Pos} {e1 e2 : Expr} {v1 : V} {kvs : List (Tx × V)} {lvl : Nat} {R : Nat → Value → Heap → Prop}
    (hC : ∀ a, a ≠ 1 → Ct x.c f lvl [v1, .ref a] (fun h => DictAt x.c.w.params h a kvs) R) (hl : lvl ≤ x.lvl) (hf : EV x m led (.Name n p) (.ref f)) (hK : ∃ o fd, x.c.K.lookup f = some o ∧ o.data = .func fd) (h1 : EV x m led e1 v1) (n1 : notStar e1 = true) (he : EX x m led e2 (isDict x.c kvs)) (n2 : notStar e2 = true) (hm : PMono R) : EX x m led (.Call (.Name n p) [e1, e2] [] pos) R := by
  intro s S
  obtain ⟨o, fd, hk, hd⟩ := hK
  refine wpAny_Call_ofName (wpAny_mono (hf s S) (fun u s₁ h₁ => ?_) fun _ _ e => e)
  obtain ⟨E₁, r₁⟩ := h₁
  cases r₁
  have S₁ := S.ext E₁
  rw [starEach_cons n1, starEach_cons n2]
  refine callWith_function (o := o) (fd := fd) (evalArgs_plain (spliced_cons (wpAny_mono (h1 s₁ S₁) (fun u₁ s₂ h₂ => spliced_cons (wpAny_mono (he s₂ (S₁.ext h₂.1)) (fun v s₃ h₃ => spliced_nil ?_) fun _ _ e => e)) fun _ _ e => e)))
  obtain ⟨E₂, r₂⟩ := h₂
  obtain ⟨E₃, a, rfl, D, ha⟩ := h₃
  have S₂ := S₁.ext E₂
  have S₃ := S₂.ext E₃
  refine ⟨⟨S₃.base.K _ _ hk, hd⟩, ?_⟩
  have hdep := x.hdep
  have hun := x.hun
  refine wpAny_mono (hC a (x.ne1 (Nat.le_trans S₂.size ha)) x.A s₃ [u₁, .ref a] x.hh (by omega) (by omega) S₃.ok S₃.tk (.cons r₂ (.cons rfl .nil)) D) (fun v s₄ h₄ => ⟨E₁.trans (E₂.trans (E₃.trans h₄.1)), hm _ _ _ _ (Nat.le_trans E₁.size (Nat.le_trans E₂.size E₃.size)) h₄.2⟩) fun _ _ e => e

theorem EX.and2 {a b : Expr} {pos : Pos} (ha : EV x m led a (.bool true)) (hb : EV x m led b (.bool true)) : EV x m led (.BoolOp .And [a, b] pos) (.bool true) := by
  intro s S
  refine wpAny_And2 (wpAny_mono (ha s S) (fun v s₁ h₁ => ?_) fun _ _ e => e)
  obtain ⟨E₁, rfl⟩ := h₁
  have S₁ := S.ext E₁
  refine wpAny_truthy_bool ?_
  rw [if_pos rfl]
  exact wpAny_mono (hb s₁ S₁) (fun v s₂ h₂ => ⟨E₁.trans h₂.1, h₂.2⟩) fun _ _ e => e

/-- «l1 + l2», two new lists -/
theorem EX.listAdd {l r : Expr} {pos : Pos} {xs ys : List V} (hl : EX x m led l (isList xs)) (hr : EX x m led r (isList ys)) (hsz : xs.length + ys.length ≤ 1000) : EX x m led (.BinOp l .Add r pos) (isList (xs ++ ys)) := by
  intro s S
  refine wpAny_BinOp (wpAny_mono (hl s S) (fun u s₁ h₁ => ?_) fun _ _ e => e)
  obtain ⟨E₁, a, rfl, ⟨vs, n1, g1, r1⟩, ha⟩ := h₁
  have S₁ := S.ext E₁
  refine wpAny_mono (hr s₁ S₁) (fun v s₂ h₂ => ?_) fun _ _ e => e
  obtain ⟨E₂, b, rfl, ⟨ws, n2, g2, r2⟩, hb⟩ := h₂
  have S₂ := S₁.ext E₂
  have g1' := E₂.keep _ _ (S₁.tabs.ne60 g1 (by simp)) (S₁.tabs.ne48 g1 (by simp)) g1
  have l1 := r1.length
  have l2 := r2.length
  refine P.add_list g1' g2 ⟨(E₁.trans E₂).push _, _, rfl, ⟨vs ++ ws, 0, Heap.get?_push_size _ rfl, ?_⟩, Nat.le_trans E₁.size E₂.size⟩ ?_
  · rw [Array.toList_append]; exact r1.append r2
  · rw [sizeLine_eq]; simp at l1 l2; omega
end
end
end Mine
end
section
open PySem
set_option linter.all false
namespace Mine
noncomputable section

def optNames : List Tx := [cp "k", cp "long-name", cp "q", cp "z!"]
def lawName (n : Int) (place : Nat) : Tx := optNames.getD ((n + (place : Int)).fmod 4).toNat [] ++ natTx place
def starT : Tx := cp "UTF-8''%C3%A9"
structure LS where
  opts : List (Tx × Option Tx)
  written : Tx
  kept : List (Tx × Tx)
def lawStep (s : LS) (n : Int) (place : Nat) : LS :=
  let one := lawOption (n.fdiv 2)
  let name := lawName n place
  if n.fmod 5 = 0 then ⟨dset s.opts name none, s.written, s.kept⟩
  else if n.fmod 5 = 1 then ⟨dset s.opts (name ++ cp "*") (some starT), s.written ++ cp "; " ++ name ++ cp "*=UTF-8''%C3%A9", dset s.kept name (cp "é")⟩
  else ⟨dset s.opts name (some one), s.written ++ cp "; " ++ name ++ cp "=" ++ lawDumped one, dset s.kept name one⟩
def lawFold (ns : List Int) (value : Tx) : Nat → LS
  | 0 => ⟨[], value, []⟩
  | k + 1 => lawStep (lawFold ns value k) (ns.getD k 0) k
def lawNums (script : List Int) : List Int := script.take 6 ++ [4, 28]
def valuesT : List Tx := [cp "form-data", cp "text/html", cp "a b", cp "x"]
def lawValue (script : List Int) : Tx := valuesT.getD ((script.length : Int).fmod 4).toNat []
def lawEnd (script : List Int) : LS := lawFold (lawNums script) (lawValue script) (lawNums script).length

/-- what the parser needs to know of a text -/
structure preP (t : Tx) : Prop where
  len : t.length ≤ 50000
  ok : ∀ w ∈ scan (stripL (partL t (cp ";")).2.2 (cp " \t")), okPart w
  n : (scan (stripL (partL t (cp ";")).2.2 (cp " \t"))).length ≤ 100
  l1 : (partL t (cp ";")).1.length ≤ 50000
  l2 : (partL t (cp ";")).2.2.length ≤ 50000
  l3 : (stripL (partL t (cp ";")).1 (cp " \t")).length ≤ 50000
  l4 : (stripL (partL t (cp ";")).2.2 (cp " \t")).length ≤ 50000
/-- a text is told as a value and a dict -/
structure ParseIs (t v : Tx) (d : List (Tx × Tx)) : Prop where
  pre : preP t
  val : (parseT t).1 = v
  dict : sameD (parseT t).2 d

def neverT : Tx := cp "; z=\"never closed; a=1; b=2"
/-- what the law asks, in plain words -/
structure LawOk (script : List Int) : Prop where
  p1 : ParseIs (lawValue script ++ (lawRead (lawNums script)).1) (lawValue script) (lawRead (lawNums script)).2
  p2 : ParseIs (cp " " ++ lawValue script ++ cp "\t" ++ (lawRead (lawNums script)).1 ++ cp " ") (lawValue script) (lawRead (lawNums script)).2
  p3 : ParseIs (lawRead (lawNums script)).1 [] []
  p4 : ParseIs (cp " " ++ lawValue script ++ cp " ;\t") (lawValue script) []
  p5 : ParseIs (lawValue script) (lawValue script) []
  p6 : ParseIs (lawValue script ++ (lawRead ((lawNums script).take 2)).1 ++ neverT) (lawValue script) (lawRead ((lawNums script).take 2)).2
  p7 : ParseIs (lawEnd script).written (lawValue script) (lawEnd script).kept
  d1 : dumpT (some (lawValue script)) (lawEnd script).opts = (lawEnd script).written
  d2 : dumpT none (lawEnd script).opts = (lawEnd script).written.drop ((lawValue script).length + 2)
  d3 : dumpT (some (lawValue script)) [] = lawValue script
  okO : ∀ p ∈ (lawEnd script).opts, okOpt p
  okD : ∀ n : Int, (replL (lawOption n) (cp "\\") (cp "\\\\")).length ≤ 3000 ∧ (replL (replL (lawOption n) (cp "\\") (cp "\\\\")) (cp "\"") (cp "\\\"")).length ≤ 10000

theorem lawName_len (n : Int) {place : Nat} (h : place < 10) : (lawName n place).length ≤ 10 := by
  have r := fmod_range (n + (place : Int)) (k := 4) (by decide)
  have h1 : ∀ t ∈ optNames, t.length ≤ 9 := by decide +kernel
  have := h1 _ (getD_mem optNames [] ((n + (place : Int)).fmod 4).toNat (by show _ < 4; omega))
  unfold lawName
  rw [List.length_append, natTx_len h]; omega
theorem lawDumped_len {v : Tx} (h1 : v.length ≤ 10) (h2 : (replL (replL v (cp "\\") (cp "\\\\")) (cp "\"") (cp "\\\"")).length ≤ 10000) : (lawDumped v).length ≤ 10002 := by
  have e : (cp "\"").length = 1 := by decide +kernel
  unfold lawDumped
  split
  · omega
  · rw [List.length_append, List.length_append, e]; omega
theorem lawFold_len (ns : List Int) (value : Tx) (hv : value.length ≤ 20) (hd : ∀ n : Int, (replL (replL (lawOption n) (cp "\\") (cp "\\\\")) (cp "\"") (cp "\\\"")).length ≤ 10000) : ∀ k, k ≤ 10 → (lawFold ns value k).opts.length ≤ k ∧ (lawFold ns value k).kept.length ≤ k ∧ (lawFold ns value k).written.length ≤ 20 + 10100 * k
  | 0, _ => ⟨Nat.le_refl _, Nat.le_refl _, by show value.length ≤ _; omega⟩
  | k + 1, h => by
    obtain ⟨i1, i2, i3⟩ := lawFold_len ns value hv hd k (by omega)
    have nl := lawName_len (ns.getD k 0) (place := k) (by omega)
    have ol := lawOption_len ((ns.getD k 0).fdiv 2)
    have dl := lawDumped_len (v := lawOption ((ns.getD k 0).fdiv 2)) (by omega) (hd _)
    have e1 : (cp "; ").length = 2 := by decide +kernel
    have e2 : (cp "=").length = 1 := by decide +kernel
    have e3 : (cp "*=UTF-8''%C3%A9").length = 15 := by decide +kernel
    show (lawStep _ _ _).opts.length ≤ _ ∧ (lawStep _ _ _).kept.length ≤ _ ∧ (lawStep _ _ _).written.length ≤ _
    unfold lawStep
    dsimp only
    split
    · exact ⟨Nat.le_trans (dset_len _ _ _) (by omega), by dsimp only; omega, by dsimp only; omega⟩
    · split
      · refine ⟨Nat.le_trans (dset_len _ _ _) (by omega), Nat.le_trans (dset_len _ _ _) (by omega), ?_⟩
        simp only [List.length_append, e1, e3]; omega
      · refine ⟨Nat.le_trans (dset_len _ _ _) (by omega), Nat.le_trans (dset_len _ _ _) (by omega), ?_⟩
        simp only [List.length_append, e1, e2]; omega
end
end Mine
end
section
open PySem PySem.W PySem.Calls PyProof.Rows
set_option Elab.async false
set_option maxRecDepth 100000
set_option linter.all false
set_option maxHeartbeats 1000000
namespace Mine
noncomputable section

section
variable {x : Cx} {m : Lc} {led : Ld} {Q : Flow → Shared → Prop}
theorem SX.unpackPair {elts : List Expr} {i j : Nat} {k : Nat} {pt pos : Pos} {e : Expr} {rest : List Stmt} {t : Tx} {d : List (Tx × Tx)} (hn : Names x elts [i, j]) (he : EX x m led e (isPair x.c.w.params t d))
    (kk : ∀ b, b ≠ 1 → SX x rest (setAll m [i, j] [.str t, .ref b]) (led ++ [(b, .dict (strV d))]) Q)
    (hs : swapsWithSole [.Tuple elts k pt] e pos.line x.env = pure false := by rfl) (hw : swappedStores [.Tuple elts k pt] e x.env = pure none := by rfl) : SX x (.Assign [.Tuple elts k pt] e pos :: rest) m led Q :=
  SX.unpackG hn he (fun s s' v S S' ⟨a, b, e, T, D, hb⟩ => ⟨a, _, led ++ [(b, .dict (strV d))], e, T, rfl, S.add (o := .dict (strV d)) S' hb D, kk b (x.ne1 (Nat.le_trans S.size hb))⟩) hs hw
theorem EX.listNat {e : Expr} {vs ws : List V} (h : EX x m led e (isList vs)) (q : vs = ws) : EX x m led e (isList ws) := q ▸ h
theorem EX.parse {e : Expr} {p pos : Pos} {t v : Tx} {d : List (Tx × Tx)} (he : EV x m led e (.str t)) (hs : notStar e = true) (hp : ParseIs t v d) (hl : 4 ≤ x.lvl) (hf : EV x m led (.Name "parse_options_header" p) (.ref 102)) : EX x m led (.Call (.Name "parse_options_header" p) [e] [] pos) (isPair x.c.w.params v (parseT t).2) := by
  have := EX.call (pos := pos) (ct_parse x.c t hp.pre.len hp.pre.ok hp.pre.n hp.pre.l1 hp.pre.l2 hp.pre.l3 hp.pre.l4) hl hf ⟨_, _, rfl, rfl⟩ (.cons he .nil hs) (fun _ _ => trivial) isPair_mono
  rw [hp.val] at this
  exact this
end

variable (c : Wd)
theorem fn_law : Fn c 220 219 ["script", "numbers", "value", "text", "due", "cut", "early", "options", "written", "kept", "place", "one", "name", "header"] 1 :=
  ⟨⟨_, _, _, rfl, rfl, fun us h => by match us, h with | [_], _ => rfl⟩, ⟨_, _, _, rfl, rfl, rfl⟩, rfl, by decide +kernel, by decide, rfl, rfl, rfl, rfl⟩

def lawLoop : Stmt := ((bodyOf c.w.params 220)[8]?).getD (.Pass ⟨0, 0, 0, 0⟩)
structure LL where
  a : Addr
  an : Addr
  v : Option V
  t : Option V
  ad : Addr
  cu : Option V
  ae : Addr
  ao : Addr
  ak : Addr
  nums : List Int
  due : List (Tx × Tx)
  early : List (Tx × Tx)
abbrev llM (L : LL) (w : Tx) (u1 u2 u3 u4 : Option V) : Lc := [some (.ref L.a), some (.ref L.an), L.v, L.t, some (.ref L.ad), L.cu, some (.ref L.ae), some (.ref L.ao), some (.str w), some (.ref L.ak), u1, u2, u3, u4]
abbrev llL (L : LL) (s : LS) : Ld := [(L.an, .list (L.nums.map .int)), (L.ad, .dict (strV L.due)), (L.ae, .dict (strV L.early)), (L.ao, .dict (optV s.opts)), (L.ak, .dict (strV s.kept))]

theorem optV_dset (d : List (Tx × Option Tx)) (k : Tx) (v : Option Tx) : optV (dset d k v) = dset (optV d) k (ovV v) := dset_map ovV d k v

theorem law_loop {d : Dyn c} {L : LL} {u1 u2 u3 u4 : Option V} {rest : List Stmt} {value : Tx} (hl : 2 ≤ d.lvl) (hn : L.nums.length ≤ 8) (hv : value.length ≤ 20) (hD : ∀ n : Int, (replL (lawOption n) (cp "\\") (cp "\\\\")).length ≤ 3000 ∧ (replL (replL (lawOption n) (cp "\\") (cp "\\\\")) (cp "\"") (cp "\\\"")).length ≤ 10000) {Q : Flow → Shared → Prop}
    (k : ∀ u1 u2 u3 u4, SX ((fn_law c).cx d) rest (llM L (lawFold L.nums value L.nums.length).written u1 u2 u3 u4) (llL L (lawFold L.nums value L.nums.length)) Q) :
    SX ((fn_law c).cx d) (lawLoop c :: rest) (llM L value u1 u2 u3 u4) (llL L ⟨[], value, []⟩) Q := by
  have e2 : (cp "; ").length = 2 := by decide +kernel
  have e3 : (cp "=").length = 1 := by decide +kernel
  have e4 : (cp "*=UTF-8''%C3%A9").length = 15 := by decide +kernel
  have e5 : (cp "*").length = 1 := by decide +kernel
  refine SX.forRange (t := 10) (n := L.nums.length) rfl (EX.range (EX.builtin rfl rfl rfl rfl) (EX.matNat (EX.len_list (xs := L.nums.map .int) (EX.builtin rfl rfl rfl rfl) (.name 1 rfl rfl) rfl (fun s S => (S.hled (L.an, .list (L.nums.map .int)) (by simp)).2.2) (by rw [List.length_map, sizeLine_eq]; omega)) (by rw [List.length_map])) rfl) (by omega)
    (fun i m led => (∃ u1 u2 u3 u4, m = llM L (lawFold L.nums value i).written u1 u2 u3 u4) ∧ led = llL L (lawFold L.nums value i)) ⟨⟨_, _, _, _, rfl⟩, rfl⟩ ?_ ?_
  · rintro i m led I o hi ⟨⟨v1, v2, v3, v4, rfl⟩, rfl⟩
    obtain ⟨b1, b2, b3⟩ := lawFold_len L.nums value hv (fun n => (hD n).2) i (by omega)
    have hstep : lawFold L.nums value (i + 1) = lawStep (lawFold L.nums value i) (L.nums.getD i 0) i := rfl
    unfold TurnQ
    simp only [hstep]
    generalize lawFold L.nums value i = s at b1 b2 b3 ⊢
    obtain ⟨n, hnn⟩ : ∃ n, n = L.nums.getD i 0 := ⟨_, rfl⟩
    rw [← hnn]
    have hget : (L.nums.map V.int)[(i : Int).toNat]? = some (.int n) := by
      rw [List.getElem?_map, Int.toNat_natCast, getD_get L.nums 0 i hi, hnn]; rfl
    have hnum : ∀ {m led} {p q r : Pos}, m[1]? = some (some (V.ref L.an)) → m[10]? = some (some (V.int i)) → (L.an, AO.list (L.nums.map .int)) ∈ led → EV ((fn_law c).cx d) m led (.Subscript (.Name "numbers" p) (.Name "place" q) r) (.int n) := fun h1 h2 h3 =>
      EX.listItem (xs := L.nums.map .int) (.name 1 rfl h1) (.name 10 rfl h2) (fun s S => (S.hled _ h3).2.2) (by omega) (by omega) hget
    have r4 := fmod_range (n + (i : Int)) (k := 4) (by decide)
    have nl := lawName_len n (place := i) (by omega)
    have ol := lawOption_len (n.fdiv 2)
    obtain ⟨hd1, hd2⟩ := hD (n.fdiv 2)
    have dl := lawDumped_len (v := lawOption (n.fdiv 2)) (by omega) hd2
    have lo : (optV s.opts).length = s.opts.length := List.length_map ..
    have lk : (strV s.kept).length = s.kept.length := List.length_map ..
    have hmem : (L.an, AO.list (L.nums.map .int)) ∈ llL L s ++ [(I, .raw o)] := by simp
    refine SX.assign 11 (v := .str (lawOption (n.fdiv 2))) rfl (EX.call (ct_option c (n.fdiv 2)) hl (EX.glob rfl rfl rfl) ⟨_, _, rfl, rfl⟩ (.cons (.bin (hnum rfl rfl hmem) .int (bin_div_int (by decide) (by decide))) .nil rfl) (fun _ _ => trivial) isV_mono) ?_
    refine SX.assign 12 (v := .str (lawName n i)) rfl ?_ ?_
    · refine .bin (EX.newItem (xs := optNames.map .str) (EX.list (.cons .str (.cons .str (.cons .str (.cons .str .nil rfl) rfl) rfl) rfl)) (.bin (.bin (hnum rfl rfl hmem) (.name 10 rfl rfl) bin_add_int) .int (bin_mod_int (by decide))) r4.1 (by omega) (v := .str (optNames.getD ((n + (i : Int)).fmod 4).toNat [])) ?_) (EX.str_int (EX.builtin rfl rfl rfl rfl) (.name 10 rfl rfl) rfl ?_) (bin_add_str (b := natTx i) ?_)
      · rw [List.getElem?_map, getD_get optNames [] _ (by show _ < 4; omega)]; rfl
      · have : (i : Int).natAbs ≤ 10 := by omega
        exact Nat.lt_of_le_of_lt (Nat.log2_le_self _) (by omega)
      · unfold lawName at nl
        rw [List.length_append] at nl
        rw [sizeLine_eq]; omega
    refine SX.last (SX1.if_ (.cmp (.bin (hnum rfl rfl hmem) .int (bin_mod_int (by decide))) .int cmp_eq_int) (fun h0 => ?_) (fun h0 => ?_))
    · have h0' : n.fmod 5 = 0 := by simpa using h0
      have hst : lawStep s n i = ⟨dset s.opts (lawName n i) none, s.written, s.kept⟩ := by unfold lawStep; dsimp only; rw [if_pos h0']
      rw [hst]
      refine SX.setItem 3 (v := .none) (kvs := optV s.opts) .noneC (.name 7 rfl rfl) (.name 12 rfl rfl) rfl (by omega) (.nil fun s' S => ⟨_, _, ⟨⟨_, _, _, _, rfl⟩, rfl⟩, S.cast ?_⟩)
      show llL L _ ++ _ = _
      unfold llL
      rw [optV_dset]; rfl
    · have h0' : n.fmod 5 ≠ 0 := by simpa using h0
      refine SX.last (SX1.if_ (.cmp (.bin (hnum rfl rfl hmem) .int (bin_mod_int (by decide))) .int cmp_eq_int) (fun h1 => ?_) (fun h1 => ?_))
      · have h1' : n.fmod 5 = 1 := by simpa using h1
        have hst : lawStep s n i = ⟨dset s.opts (lawName n i ++ cp "*") (some starT), s.written ++ cp "; " ++ lawName n i ++ cp "*=UTF-8''%C3%A9", dset s.kept (lawName n i) (cp "é")⟩ := by unfold lawStep; dsimp only; rw [if_neg h0', if_pos h1']
        rw [hst]
        refine SX.setItem 3 (v := .str starT) (k := lawName n i ++ cp "*") (kvs := optV s.opts) .str (.name 7 rfl rfl) (.bin (.name 12 rfl rfl) .str (bin_add_str (by rw [sizeLine_eq]; omega))) rfl (by omega) ?_
        refine SX.assign 8 (v := .str (s.written ++ cp "; " ++ lawName n i ++ cp "*=UTF-8''%C3%A9")) rfl (.bin (.bin (.bin (.name 8 rfl rfl) .str (bin_add_str (by rw [sizeLine_eq]; omega))) (.name 12 rfl rfl) (bin_add_str (by rw [sizeLine_eq]; simp; omega))) .str (bin_add_str (by rw [sizeLine_eq]; simp; omega))) ?_
        refine SX.setItem 4 (v := .str (cp "é")) (kvs := strV s.kept) .str (.name 9 rfl rfl) (.name 12 rfl rfl) rfl (by omega) (.nil fun s' S => ⟨_, _, ⟨⟨_, _, _, _, rfl⟩, rfl⟩, S.cast ?_⟩)
        show llL L _ ++ _ = _
        unfold llL
        rw [optV_dset, strV_dset]; rfl
      · have h1' : n.fmod 5 ≠ 1 := by simpa using h1
        have hst : lawStep s n i = ⟨dset s.opts (lawName n i) (some (lawOption (n.fdiv 2))), s.written ++ cp "; " ++ lawName n i ++ cp "=" ++ lawDumped (lawOption (n.fdiv 2)), dset s.kept (lawName n i) (lawOption (n.fdiv 2))⟩ := by unfold lawStep; dsimp only; rw [if_neg h0', if_neg h1']
        rw [hst]
        refine SX.setItem 3 (v := .str (lawOption (n.fdiv 2))) (kvs := optV s.opts) (.name 11 rfl rfl) (.name 7 rfl rfl) (.name 12 rfl rfl) rfl (by omega) ?_
        refine SX.assign 8 (v := .str (s.written ++ cp "; " ++ lawName n i ++ cp "=" ++ lawDumped (lawOption (n.fdiv 2)))) rfl (.bin (.bin (.bin (.bin (.name 8 rfl rfl) .str (bin_add_str (by rw [sizeLine_eq]; omega))) (.name 12 rfl rfl) (bin_add_str (by rw [sizeLine_eq]; simp; omega))) .str (bin_add_str (by rw [sizeLine_eq]; simp; omega))) (EX.call (ct_dumped c (lawOption (n.fdiv 2)) (by omega) hd1 hd2) hl (EX.glob rfl rfl rfl) ⟨_, _, rfl, rfl⟩ (.cons (.name 11 rfl rfl) .nil rfl) (fun _ _ => trivial) isV_mono) (bin_add_str (by rw [sizeLine_eq]; simp; omega))) ?_
        refine SX.setItem 4 (v := .str (lawOption (n.fdiv 2))) (kvs := strV s.kept) (.name 11 rfl rfl) (.name 9 rfl rfl) (.name 12 rfl rfl) rfl (by omega) (.nil fun s' S => ⟨_, _, ⟨⟨_, _, _, _, rfl⟩, rfl⟩, S.cast ?_⟩)
        show llL L _ ++ _ = _
        unfold llL
        rw [optV_dset, strV_dset]; rfl
  · rintro m led ⟨⟨v1, v2, v3, v4, rfl⟩, rfl⟩
    exact k _ _ _ _
end
end Mine
end
section
open PySem PySem.W PySem.Calls PyProof.Rows
set_option Elab.async false
set_option maxRecDepth 100000
set_option linter.all false
set_option maxHeartbeats 1000000
namespace Mine
noncomputable section
variable (c : Wd)

theorem lawNums_len (script : List Int) : (lawNums script).length ≤ 8 := by
  unfold lawNums; rw [List.length_append, List.length_take]; simp; omega
theorem lawValue_len (script : List Int) : (lawValue script).length ≤ 9 := by
  have r := fmod_range (script.length : Int) (k := 4) (by decide)
  have h1 : ∀ t ∈ valuesT, t.length ≤ 9 := by decide +kernel
  exact h1 _ (getD_mem valuesT [] ((script.length : Int).fmod 4).toNat (by show _ < 4; omega))

theorem body_law (script : List Int) (hlen : script.length ≤ 63) (hok : LawOk script) (a : Addr) : ∀ d : Dyn c, d.lvl + 1 = 6 → ListAt d.B a (script.map .int) → SX ((fn_law c).cx d) (bodyOf c.w.params 220) [some (.ref a), none, none, none, none, none, none, none, none, none, none, none, none, none] [] (FQ ((fn_law c).cx d) (isV (.bool true))) :=
  fun d hl hp => by
    obtain ⟨p1, p2, p3, p4, p5, p6, p7, d1, d2, d3, okO, okD⟩ := hok
    have nl := lawNums_len script
    have vl := lawValue_len script
    have l4 : 4 ≤ d.lvl := by omega
    have l5 : 5 ≤ d.lvl := by omega
    have l2 : 2 ≤ d.lvl := by omega
    have r4 := fmod_range (script.length : Int) (k := 4) (by decide)
    have e0 : cp "" = [] := cp_empty
    have t1 := p1.pre.len
    have t2 := p2.pre.len
    have t6 := p6.pre.len
    have t7 := p7.pre.len
    have tx : (lawRead (lawNums script)).1.length ≤ 50000 := by rw [List.length_append] at t1; omega
    have cx : (lawRead ((lawNums script).take 2)).1.length ≤ 50000 := by rw [List.length_append, List.length_append] at t6; omega
    have s1 : (cp " ").length = 1 := by decide +kernel
    have s2 : (cp "\t").length = 1 := by decide +kernel
    have s3 : (cp " ;\t").length = 3 := by decide +kernel
    have s4 : neverT.length = 27 := by decide +kernel
    obtain ⟨o1, o2, o3⟩ := lawFold_len (lawNums script) (lawValue script) (by omega) (fun n => (okD n).2) (lawNums script).length (by omega)
    refine SX.assignNew 1 (.list ((lawNums script).map .int)) rfl (EX.listNat (EX.listAdd (EX.listSlice (xs := script.map .int) (.name 0 rfl rfl) .no (.at .int) (fun s S => hp.keep d.tB S.keep) (by simp; omega)) (EX.list (.cons .int (.cons .int .nil rfl) rfl)) ?_) ?_) isList_rep fun an => ?_
    · have : (pySl (script.map V.int) none (some 6)).length ≤ script.length := by unfold pySl; simp; omega
      simp only [List.length_cons, List.length_nil]; omega
    · unfold lawNums pySl
      rw [List.map_append, List.map_take]
      have : pyCl (script.map V.int).length 6 = min 6 script.length := by unfold pyCl; rw [List.length_map]; omega
      dsimp only
      rw [this]
      have h6 : (script.map V.int).take (min 6 script.length) = (script.map V.int).take 6 := by
        rcases Nat.le_total 6 script.length with h | h
        · rw [Nat.min_eq_left h]
        · rw [Nat.min_eq_right h, List.take_of_length_le (by simp), List.take_of_length_le (by simpa using h)]
      rw [h6]; rfl
    refine SX.assign 2 (v := .str (lawValue script)) rfl (EX.newItem (xs := valuesT.map .str) (EX.list (.cons .str (.cons .str (.cons .str (.cons .str .nil rfl) rfl) rfl) rfl)) (.bin (EX.matNat (EX.len_list (xs := script.map .int) (EX.builtin rfl rfl rfl rfl) (.name 0 rfl rfl) rfl (fun s S => hp.keep d.tB S.keep) (by rw [List.length_map, sizeLine_eq]; omega)) (by rw [List.length_map])) .int (bin_mod_int (by decide))) r4.1 (by omega) ?_) ?_
    · rw [List.getElem?_map, getD_get valuesT [] _ (by show _ < 4; omega)]; rfl
    have hnL : ∀ {led : Ld} {x : Cx} {m : Lc}, (an, AO.list ((lawNums script).map V.int)) ∈ led → ∀ s, St x m led s → ListAt s.heap an ((lawNums script).map .int) := fun h s S => (S.hled _ h).2.2
    refine SX.unpackPair (i := 3) (j := 4) (.cons rfl (.cons rfl .nil)) (EX.call (ct_read c (lawNums script) nl) l5 (EX.glob rfl rfl rfl) ⟨_, _, rfl, rfl⟩ (.cons (.name 1 rfl rfl) .nil rfl) (hnL (by simp)) isPair_mono) fun ad had => ?_
    have hdue : ∀ {led : Ld} {m : Lc}, (ad, AO.dict (strV (lawRead (lawNums script)).2)) ∈ led → ∀ s, St ((fn_law c).cx d) m led s → DictAt c.w.params s.heap ad (strV (lawRead (lawNums script)).2) := fun h s S => (S.hled _ h).2.2
    refine SX.ifEnd (r := false) (.bool (.cons (IT.neTup (EX.parse (.bin (.name 2 rfl rfl) (.name 3 rfl rfl) (bin_add_str ?_)) rfl p1 l4 (EX.glob rfl rfl rfl)) (EX.pairO (.name 2 rfl rfl) rfl (.name 4 rfl rfl) rfl had (hdue (by simp))) p1.dict)
      (fun _ => .last (IT.neTup (EX.parse (.bin (.bin (.bin (.bin .str (.name 2 rfl rfl) (bin_add_str ?_)) .str (bin_add_str ?_)) (.name 3 rfl rfl) (bin_add_str ?_)) .str (bin_add_str ?_)) rfl p2 l4 (EX.glob rfl rfl rfl)) (EX.pairO (.name 2 rfl rfl) rfl (.name 4 rfl rfl) rfl had (hdue (by simp))) p2.dict)))) (fun h => by cases h) (fun _ => ?_)
    · rw [sizeLine_eq]; omega
    · rw [sizeLine_eq]; omega
    · rw [sizeLine_eq]; simp [s1, s2]; omega
    · rw [sizeLine_eq]; simp [s1, s2]; omega
    · rw [sizeLine_eq]; simp [s1, s2]; omega
    refine SX.ifEnd (r := false) (.bool (.cons (IT.neTup (EX.parse (.name 3 rfl rfl) rfl p3 l4 (EX.glob rfl rfl rfl)) (EX.pairE (by rw [← e0]; exact .str) rfl) p3.dict)
      (fun _ => .cons (IT.neTup (EX.parse (.bin (.bin .str (.name 2 rfl rfl) (bin_add_str ?_)) .str (bin_add_str ?_)) rfl p4 l4 (EX.glob rfl rfl rfl)) (EX.pairE (.name 2 rfl rfl) rfl) p4.dict)
      (fun _ => .cons (IT.neTup (EX.call (ct_parse_none c) l4 (EX.glob rfl rfl rfl) ⟨_, _, rfl, rfl⟩ (.cons .noneC .nil rfl) (fun _ _ => trivial) isPair_mono) (EX.pairE (by rw [← e0]; exact .str) rfl) ⟨rfl, fun _ h => nomatch h⟩)
      (fun _ => .last (IT.neTup (EX.parse (.name 2 rfl rfl) rfl p5 l4 (EX.glob rfl rfl rfl)) (EX.pairE (.name 2 rfl rfl) rfl) p5.dict)))))) (fun h => by cases h) (fun _ => ?_)
    · rw [sizeLine_eq]; omega
    · rw [sizeLine_eq]; simp [s1, s3]; omega
    refine SX.unpackPair (i := 5) (j := 6) (.cons rfl (.cons rfl .nil)) (EX.callL (vs := ((lawNums script).take 2).map .int) (fun a => ct_read c ((lawNums script).take 2) (by rw [List.length_take]; omega)) l5 (EX.glob rfl rfl rfl) ⟨_, _, rfl, rfl⟩ (EX.listNat (EX.listSlice (xs := (lawNums script).map .int) (.name 1 rfl rfl) .no (.at .int) (hnL (by simp)) (by simp; omega)) ?_) rfl isPair_mono) fun ae hae => ?_
    · unfold pySl
      have hg : 2 ≤ (lawNums script).length := by unfold lawNums; rw [List.length_append]; simp
      have : pyCl ((lawNums script).map V.int).length 2 = 2 := by unfold pyCl; rw [List.length_map]; omega
      dsimp only
      rw [this, List.map_take]; rfl
    have hearly : ∀ {led : Ld} {m : Lc}, (ae, AO.dict (strV (lawRead ((lawNums script).take 2)).2)) ∈ led → ∀ s, St ((fn_law c).cx d) m led s → DictAt c.w.params s.heap ae (strV (lawRead ((lawNums script).take 2)).2) := fun h s S => (S.hled _ h).2.2
    refine SX.ifEnd (r := false) (IT.neTup (EX.parse (.bin (.bin (.name 2 rfl rfl) (.name 5 rfl rfl) (bin_add_str ?_)) .str (bin_add_str ?_)) rfl p6 l4 (EX.glob rfl rfl rfl)) (EX.pairO (.name 2 rfl rfl) rfl (.name 6 rfl rfl) rfl hae (hearly (by simp))) p6.dict) (fun h => by cases h) (fun _ => ?_)
    · rw [sizeLine_eq]; omega
    · have : (cp "; z=\"never closed; a=1; b=2").length = 27 := s4
      rw [sizeLine_eq, List.length_append, this]; omega
    refine SX.swappedG (is := [9, 8, 7]) (names := ["options", "written", "kept"]) (EX.tupleD (r := [none, some (.str (lawValue script)), none]) (.d (.v (.name 2 rfl rfl) (.d .nil) rfl))) (fun j i hj => by
      match j, hj with
      | 0, hj => cases hj; rfl
      | 1, hj => cases hj; rfl
      | 2, hj => cases hj; rfl
      | j + 3, hj => simp at hj) rfl ?_
    rintro s s' v S S' ⟨t, vs, rfl, T, F⟩
    obtain ⟨ao, ak, rfl, n1, n2, D1, D2⟩ : ∃ ao ak, vs = [.ref ao, .str (lawValue script), .ref ak] ∧ s.heap.objs.size ≤ ao ∧ ao + 1 ≤ ak ∧ DictAt c.w.params s'.heap ao [] ∧ DictAt c.w.params s'.heap ak [] := by
      cases F with
      | d a1 b1 F => cases F with
        | v F => cases F with
          | d a2 b2 F => cases F with
            | nil => exact ⟨_, _, rfl, a1, a2, b1, b2⟩
    have S1 := S.lt
    have S2 := S.size
    have n12 : s.heap.objs.size ≤ ak := Nat.le_trans n1 (Nat.le_of_succ_le n2)
    have q1 : ak ≠ ao := Nat.ne_of_gt n2
    have hlt : ∀ p ∈ [(an, AO.list ((lawNums script).map V.int)), (ad, AO.dict (strV (lawRead (lawNums script)).2)), (ae, AO.dict (strV (lawRead ((lawNums script).take 2)).2))], p.1 < s.heap.objs.size := fun p hp => by
      obtain ⟨ob, ho, _⟩ := (S.hled p hp).2.2.get
      exact Heap.lt_size ho
    have hne : ∀ {b}, s.heap.objs.size ≤ b → b ∉ [an, ad, ae] := fun {b} hb hm => by
      have h1 := hlt (an, AO.list ((lawNums script).map V.int)) (by simp)
      have h2 := hlt (ad, AO.dict (strV (lawRead (lawNums script)).2)) (by simp)
      have h3 := hlt (ae, AO.dict (strV (lawRead ((lawNums script).take 2)).2)) (by simp)
      simp only [List.mem_cons, List.not_mem_nil, or_false] at hm
      rcases hm with rfl | rfl | rfl
      · exact Nat.lt_irrefl _ (Nat.lt_of_lt_of_le h1 hb)
      · exact Nat.lt_irrefl _ (Nat.lt_of_lt_of_le h2 hb)
      · exact Nat.lt_irrefl _ (Nat.lt_of_lt_of_le h3 hb)
    have L1 := S'.add' (a := ao) (o := .dict (optV [])) (Nat.le_trans S2 n1) (Nat.ne_of_gt (Nat.lt_of_lt_of_le S1 n1)) (by simpa using hne n1) D1
    have L2 := L1.add' (a := ak) (o := .dict (strV [])) (Nat.le_trans S2 n12) (Nat.ne_of_gt (Nat.lt_of_lt_of_le S1 n12)) (by have := hne n12; simp at this ⊢; exact ⟨this.1, this.2.1, this.2.2, q1⟩) D2
    have ho1 : ao ≠ 1 := ((fn_law c).cx d).ne1 (Nat.le_trans S2 n1)
    have hk1 : ak ≠ 1 := ((fn_law c).cx d).ne1 (Nat.le_trans S2 n12)
    refine ⟨t, _, _, rfl, T, rfl, L2, ?_⟩
    refine law_loop c (L := ⟨a, an, some (.str (lawValue script)), some (.str (lawRead (lawNums script)).1), ad, some (.str (lawRead ((lawNums script).take 2)).1), ae, ao, ak, lawNums script, (lawRead (lawNums script)).2, (lawRead ((lawNums script).take 2)).2⟩) (value := lawValue script) l2 nl (by omega) okD fun u1 u2 u3 u4 => ?_
    show SX _ _ (llM _ (lawEnd script).written u1 u2 u3 u4) (llL _ (lawEnd script)) _
    change (lawEnd script).opts.length ≤ _ at o1
    change (lawEnd script).kept.length ≤ _ at o2
    change (lawEnd script).written.length ≤ _ at o3
    generalize lawEnd script = e at p7 d1 d2 okO o1 o2 o3 t7 ⊢
    refine SX.assign 13 (v := .str e.written) rfl (EX.matNat (EX.call (ct_dump c (some (lawValue script)) ao e.opts ho1 (fun h q => by cases q; omega) (by omega) okO) l2 (EX.glob rfl rfl rfl) ⟨_, _, rfl, rfl⟩ (.cons (.name 2 rfl rfl) (.cons (.name 7 rfl rfl) .nil rfl) rfl) (fun s S => ledDict S (i := 3) rfl) isV_mono) (by rw [d1])) ?_
    have hww : (e.written != e.written) = false := by simp
    refine SX.ifEnd (r := false) (.bool (.cons (b := false) ?_ (fun _ => .last (IT.neTup (EX.parse (.name 13 rfl rfl) rfl p7 l4 (EX.glob rfl rfl rfl)) (EX.pairO (.name 2 rfl rfl) rfl (.name 9 rfl rfl) rfl hk1 (fun s S => ledDict S (i := 4) rfl)) p7.dict)))) (fun h => by cases h) (fun _ => ?_)
    · rw [← hww]
      exact .cmp (.name 13 rfl rfl) (.name 8 rfl rfl) cmp_ne_str
    refine SX.retV (EX.and2 (EX.matNat (.cmp (EX.call (ct_dump c none ao e.opts ho1 (fun h q => by cases q) (by omega) okO) l2 (EX.glob rfl rfl rfl) ⟨_, _, rfl, rfl⟩ (.cons .noneC (.cons (.name 7 rfl rfl) .nil rfl) rfl) (fun s S => ledDict S (i := 3) rfl) isV_mono) (EX.strSlice (.name 8 rfl rfl) (.at (.bin (EX.len_str (EX.builtin rfl rfl rfl rfl) (.name 2 rfl rfl) rfl (by rw [sizeLine_eq]; omega)) .int bin_add_int)) .no (by rw [sizeLine_eq]; omega)) cmp_eq_str) ?_)
      (EX.matNat (.cmp (EX.callD (kvs := []) (fun b hb => ct_dump c (some (lawValue script)) b [] hb (fun h q => by cases q; omega) (by simp) (fun p h => nomatch h)) l2 (EX.glob rfl rfl rfl) ⟨_, _, rfl, rfl⟩ (.name 2 rfl rfl) rfl EX.dictNew rfl isV_mono) (.name 2 rfl rfl) cmp_eq_str) ?_))
    · have hc : pyCl e.written.length (((lawValue script).length : Int) + 2) = min ((lawValue script).length + 2) e.written.length := by unfold pyCl; omega
      have hsl : pySl e.written (some (((lawValue script).length : Int) + 2)) none = e.written.drop ((lawValue script).length + 2) := by
        unfold pySl
        dsimp only
        rw [hc, List.take_length]
        rcases Nat.le_total ((lawValue script).length + 2) e.written.length with h | h
        · rw [Nat.min_eq_left h]
        · rw [Nat.min_eq_right h, List.drop_length, List.drop_eq_nil_of_le h]
      rw [hsl, d2]
      simp
    · have : dumpT (some (lawValue script)) [] = lawValue script := d3
      rw [this]; simp
end
end Mine
end
section
open PySem PySem.W PySem.Calls PyProof.Rows
set_option Elab.async false
set_option maxRecDepth 100000
set_option linter.all false
set_option maxHeartbeats 1000000
namespace Mine
noncomputable section

theorem law_run {c : Wd} {script : List Int} (hlen : script.length ≤ 63) (hlaw : LawOk script) {a : Addr} {A : Around} {s : Shared} {us : List Value} (hh : A.handled = none) (hdep : A.depth + 100 < recursionLimit) (hun : A.units + 1000 < cLine) (hok : Ok c s) (hus : us = [.ref a]) (L : ListAt s.heap a (script.map .int)) :
    wpAny (Md c) A (call (.ref 220) us) (fun v s' => ExtW c s s' ∧ v = .bool true) nE s := by
  subst hus
  have F := fn_law c
  obtain ⟨o, doc, pm, h1, h2, h3⟩ := F.ob
  obtain ⟨oc, fs, t, h4, h5, h6⟩ := F.cod
  refine wpAny_call (call_plain_ret (by omega) (hok.base.K _ _ h1) h2 hok.base.lim ⟨219, oc, fs, t, rfl, hok.base.K _ _ h4, h5, h6⟩ (h3 [.ref a] rfl) ?_ (fun g₁ G => ?_) F.co F.gen F.kind (fun y hy => by simpa using List.all_eq_true.mp F.cell y hy))
  · intro q hq'
    have := List.of_mem_zip hq'
    have hm := List.mem_of_mem_take this.1
    simpa using List.all_eq_true.mp F.hns _ hm
  · let d : Dyn c := { A := A.deeper (envOf (fdOf c.w.params 220).name (fdOf c.w.params 220).scope s.heap.objs.size 220 (.ref 219)), L := s.heap.objs.size, B := s.heap, os := s.os, lvl := 5, hh := hh, hdep := (by show A.depth + 1 + 10 * 5 + 10 < recursionLimit; omega), hun := (by show A.units + 3 + 100 * 5 + 100 < cLine; omega), hB := hok.base, tB := hok.tabs, hL := Nat.le_refl _ }
    have S : St ((fn_law c).cx d) [some (.ref a), none, none, none, none, none, none, none, none, none, none, none, none, none] [] { s with heap := g₁, toks := s.toks + 1 } := by
      refine ⟨.of G.keep, ?_, hok.bare, ⟨_, G.ns, locRep_start (vs := [.ref a]) (us := [.ref a]) ((fn_law c).cx d).hnd (.cons rfl .nil) (show 1 ≤ 14 by decide)⟩, ?_, (fun _ h => nomatch h), .nil, rfl, Nat.succ_pos _⟩
      · obtain ⟨p1, e1⟩ := hok.tabs.get60
        obtain ⟨p2, e2⟩ := hok.tabs.get48
        exact hok.tabs.keep (.of G.keep) ((G.keep _ _ e1).trans e1.symm) ((G.keep _ _ e2).trans e2.symm)
      · exact Nat.le_of_lt G.ns.lt
    refine wpAny_mono (body_law c script hlen hlaw a d rfl L _ S) (fun fl s' h => ?_) fun _ _ e => e
    obtain ⟨⟨m', led', S'⟩, hR⟩ := h
    have g : ExtW c s s' ∧ flowVal fl = .bool true := ⟨⟨S'.ok, S'.keep, S'.size, S'.os⟩, hR⟩
    cases fl <;> exact g
end
end Mine
end
section
open PySem PySem.W PySem.Calls PyProof.Rows
set_option Elab.async false
set_option maxRecDepth 100000
set_option linter.all false
set_option maxHeartbeats 4000000
namespace Mine
theorem f2_of_wellAll {P : Params} {h : Heap} : ∀ {script : List Int} {vs : List Value} {ds : List WData}, WellAll P h vs ds → ds = script.map WData.int → F2 V.rep (script.map .int) vs
  | [], _, _, .nil, _ => .nil
  | i :: script, _, _, .cons h1 h2, e => by
    obtain ⟨e1, e2⟩ := List.cons.inj e
    subst e1
    cases h1 with
    | int _ t => exact .cons ⟨t, rfl⟩ (f2_of_wellAll h2 e2)
  | [], _, _, .cons _ _, e => by cases e
  | _ :: _, _, _, .nil, e => by cases e
theorem ofPy_ints (script : List Int) : ofPy (PyData.list (script.map PyData.int)) = .list (script.map WData.int) := by
  have : ∀ l : List Int, ofPys (l.map PyData.int) = l.map WData.int := by
    intro l
    induction l with
    | nil => rfl
    | cons a l ih => simp [ofPys, ofPy, ih]
  simp [ofPy, this]
theorem listAt_of_well {P : Params} {h : Heap} {a : Addr} {script : List Int} (x : Well P h (.ref a) (ofPy (PyData.list (script.map PyData.int)))) : ListAt h a (script.map .int) := by
  rw [ofPy_ints] at x
  generalize hd : WData.list (script.map WData.int) = d at x
  cases x <;> cases hd
  rename_i vs e r
  exact ⟨vs.toArray, 0, e, f2_of_wellAll r rfl⟩

theorem oldK_of {c : Wd} {s s' : Shared} (ok : Ok c s) (h60 : s.heap.get? 60 = some (tabObj #[])) (h48 : s.heap.get? 48 = some (tabObj #[])) (E : ExtW c s s') : OldK s.heap s'.heap := by
  obtain ⟨p1, e1⟩ := E.ok.tabs.get60
  obtain ⟨p2, e2⟩ := E.ok.tabs.get48
  refine ⟨fun b o e => ?_, fun b o e => ?_⟩
  · by_cases h1 : b = 60
    · subst h1
      rw [h60] at e; cases e
      exact .inr (.inl ⟨((hd64 ok.base).tab h60).isCodeTable, rfl, #[], p1, rfl, by rw [e1]; simp [tabObj]⟩)
    · by_cases h2 : b = 48
      · subst h2
        rw [h48] at e; cases e
        exact .inr (.inl ⟨((hd52 ok.base).tab h48).isCodeTable, rfl, #[], p2, rfl, by rw [e2]; simp [tabObj]⟩)
      · exact .inl (E.keep b o h1 h2 e)
  · by_cases h1 : b = 60
    · subst h1; exact ⟨_, e1⟩
    · by_cases h2 : b = 48
      · subst h2; exact ⟨_, e2⟩
      · exact ⟨o, E.keep b o h1 h2 e⟩

theorem j2 (hpure : ∀ script : List Int, script.length ≤ 63 → LawOk script) : PySem.Challenge.rw_bl0028_01.Holds := hd (by
  intro w s₀ s₁ mg mb G Y fa o pm cd doc dV kV ho hd hcd hD hmg hg args vals as hpre hlay hrd hwl hlo
  clear hD hcd hd ho
  have B : Base ⟨w, mg, mb⟩ s₁.heap := ⟨km_in_of Y, G.T.g, G.T.b, G.T.builtins, G.T.nolimit, G.T.nodigits, G.T.bmain⟩
  have hT := km_tabs_of Y
  have T : Tabs s₁.heap := ⟨⟨#[], hT 60 (by simp), .inl rfl⟩, ⟨#[], hT 48 (by simp), .inl rfl⟩⟩
  have ok : Ok ⟨w, mg, mb⟩ s₁ := ⟨B, T, AllBare.of_eq hg⟩
  have hfa : fa = 220 := by
    have e1 := glob_some (c := ⟨w, mg, mb⟩) (n := "law") (v := .ref 220) B (by rfl)
    have e2 : mg "law" = some (.ref fa) := hmg
    rw [show (Wd.mk w mg mb).mg = mg from rfl] at e1
    rw [e2] at e1; cases e1; rfl
  subst hfa
  have h60 := hT 60 (by simp)
  have h48 := hT 48 (by simp)
  clear hmg Y hT
  wrow_args hpre hlay hrd hwl hlo
  rename_i script hs0 hl0 hL1 hr1 hl2 as4 as3 aa vs as0 hL ra w1 r0 hI hr hc1 hc0
  refine wpAny_mono (law_run (c := ⟨w, mg, mb⟩) (script := script) (by omega) (hpure script (by omega)) rfl (by decide) (by decide) ok rfl (listAt_of_well w1)) (fun v s' h => ?_) fun _ _ e => e.elim
  obtain ⟨E, rfl⟩ := h
  have hpost : PySem.Challenge.rw_bl0028_01.row.claim.post [ofPy (PyData.list (script.map PyData.int))] (.bool true) [ofPy (PyData.list (script.map PyData.int))] = true := by wrow_post
  exact ⟨.inl ⟨.bool true, .bool true, [], rfl, fun cls => rfl, .bool true, hpost, fun _ => ⟨.nil, fun _ h => nomatch h⟩⟩, oldK_of ok h60 h48 E, E.os, E.ok.bare⟩)
end Mine
end
section
open PySem PySem.Builtin PySem.Builtin.Str PySem.StrLaws
set_option linter.all false
namespace Mine

/-- replacing, sign by sign: k signs are still to be left out -/
def repK (y z : Tx) : Nat → Tx → Tx
  | _, [] => []
  | k + 1, _ :: r => repK y z k r
  | 0, a :: r => if y.isPrefixOf (a :: r) then z ++ repK y z (y.length - 1) r else a :: repK y z 0 r

def cutsOf (l y : Tx) : Nat → Nat → Nat → List Nat
  | _, 0, _ => []
  | i, m + 1, free => if (free ≤ i ∧ i + y.length ≤ l.length) ∧ subAt (mkS l) (mkS y) i = true then i :: cutsOf l y (i + 1) m (i + y.length) else cutsOf l y (i + 1) m free

theorem run_cuts (l y : Tx) (limit : Nat) : ∀ (m i : Nat) (f : Array Nat) (free : Nat), f.size + m ≤ limit →
    (forIn (List.range' i m) (f, free) (occBody (mkS l) (mkS y) l.length limit)).run.fst.toList = f.toList ++ cutsOf l y i m free
  | 0, i, f, free, _ => by simp [cutsOf]
  | m + 1, i, f, free, h => by
    rw [List.range'_succ, List.forIn_cons]
    have hs : f.size < limit := by omega
    unfold occBody
    by_cases hc : (free ≤ i ∧ i + (mkS y).length ≤ l.length) ∧ subAt (mkS l) (mkS y) i = true
    · rw [if_pos ⟨⟨⟨hs, hc.1.1⟩, hc.1.2⟩, hc.2⟩]
      have := run_cuts l y limit m (i + 1) (f.push i) (i + (mkS y).length) (by rw [Array.size_push]; omega)
      rw [Array.toList_push] at this
      rw [cutsOf, if_pos (by rw [mkS_length] at hc; exact hc)]
      rw [mkS_length] at this
      rw [show f.toList ++ i :: cutsOf l y (i + 1) m (i + y.length) = f.toList ++ [i] ++ cutsOf l y (i + 1) m (i + y.length) from by simp]
      rw [← this]
      rw [mkS_length]
      rfl
    · rw [if_neg (fun q => hc ⟨⟨q.1.1.2, q.1.2⟩, q.2⟩)]
      rw [cutsOf, if_neg (by rw [mkS_length] at hc; exact hc)]
      exact run_cuts l y limit m (i + 1) f free (by omega)

def glueT (l z : Tx) (w : Nat) : Nat → List Nat → Tx
  | a, [] => l.drop a
  | a, c :: cs => (l.drop a).take (c - a) ++ z ++ glueT l z w (c + w) cs

theorem sub_prefix (l y : Tx) (i : Nat) : subAt (mkS l) (mkS y) i = y.isPrefixOf (l.drop i) := by
  rw [subAt_eq, mkS_length, Bool.eq_iff_iff, beq_iff_eq, List.isPrefixOf_iff_prefix]
  show (l.drop i).take y.length = y ↔ _
  constructor
  · intro h; rw [← h]; exact List.take_prefix _ _
  · intro h; exact (List.prefix_iff_eq_take.mp h).symm

theorem prefix_len {y l : Tx} {i : Nat} (h : y.isPrefixOf (l.drop i) = true) (hy : y ≠ []) : i + y.length ≤ l.length := by
  have := (List.isPrefixOf_iff_prefix.mp h).length_le
  rw [List.length_drop] at this
  have hp : 0 < y.length := by cases y with | nil => exact absurd rfl hy | cons _ _ => simp
  omega

theorem glue_cuts (l y z : Tx) (hy : y ≠ []) : ∀ (m i free a : Nat), i + m = l.length + 1 → (free ≤ i → a ≤ i → glueT l z y.length a (cutsOf l y i m free) = (l.drop a).take (i - a) ++ repK y z 0 (l.drop i)) ∧
    (i < free → free ≤ l.length → glueT l z y.length free (cutsOf l y i m free) = repK y z (free - i) (l.drop i))
  | 0, i, free, a, h => by
    refine ⟨fun _ ha => ?_, fun h1 h2 => by omega⟩
    have e : l.drop i = [] := List.drop_eq_nil_of_le (by omega)
    rw [e, repK, List.append_nil, cutsOf, glueT, List.take_of_length_le (by rw [List.length_drop]; omega)]
  | m + 1, i, free, a, h => by
    have hp : 0 < y.length := by cases y with | nil => exact absurd rfl hy | cons _ _ => simp
    refine ⟨fun hf ha => ?_, fun h1 h2 => ?_⟩
    · rw [cutsOf]
      by_cases hc : y.isPrefixOf (l.drop i) = true
      · have hl := prefix_len hc hy
        rw [if_pos ⟨⟨hf, hl⟩, by rw [sub_prefix]; exact hc⟩, glueT]
        have hi : i < l.length := by omega
        have hd : l.drop i = l[i] :: l.drop (i + 1) := List.drop_eq_getElem_cons hi
        have hr : repK y z 0 (l.drop i) = z ++ repK y z (y.length - 1) (l.drop (i + 1)) := by
          rw [hd] at hc ⊢
          rw [repK, if_pos hc]
        rw [hr, List.append_assoc]
        congr 2
        rcases Nat.lt_or_ge (i + 1) (i + y.length) with h3 | h3
        · have := (glue_cuts l y z hy m (i + 1) (i + y.length) 0 (by omega)).2 h3 hl
          rw [this, show i + y.length - (i + 1) = y.length - 1 from by omega]
        · have h1 : y.length = 1 := by omega
          have := (glue_cuts l y z hy m (i + 1) (i + y.length) (i + y.length) (by omega)).1 h3 (by omega)
          rw [this, h1]; simp
      · rw [if_neg (fun q => hc (by rw [← sub_prefix]; exact q.2))]
        have ih := (glue_cuts l y z hy m (i + 1) free a (by omega)).1 (by omega) (by omega)
        rw [ih]
        rcases Nat.lt_or_ge i l.length with hi | hi
        · have hd : l.drop i = l[i] :: l.drop (i + 1) := List.drop_eq_getElem_cons hi
          have hr : repK y z 0 (l.drop i) = l[i] :: repK y z 0 (l.drop (i + 1)) := by
            rw [hd] at hc ⊢
            rw [repK, if_neg hc]
          rw [hr, show i + 1 - a = (i - a) + 1 from by omega]
          have hget : (l.drop a)[i - a]? = some l[i] := by
            rw [List.getElem?_drop, show a + (i - a) = i from by omega, List.getElem?_eq_getElem hi]
          rw [List.take_add_one, hget]
          simp
        · have e1 : l.drop i = [] := List.drop_eq_nil_of_le hi
          have e2 : l.drop (i + 1) = [] := List.drop_eq_nil_of_le (by omega)
          rw [e1, e2, List.take_of_length_le (by rw [List.length_drop]; omega), List.take_of_length_le (by rw [List.length_drop]; omega)]
    · rw [cutsOf, if_neg (by omega)]
      have hi : i < l.length := by omega
      have hd : l.drop i = l[i] :: l.drop (i + 1) := List.drop_eq_getElem_cons hi
      rw [hd, show free - i = (free - (i + 1)) + 1 from by omega, repK]
      rcases Nat.lt_or_ge (i + 1) free with h3 | h3
      · exact (glue_cuts l y z hy m (i + 1) free 0 (by omega)).2 h3 h2
      · have : free = i + 1 := by omega
        subst this
        have := (glue_cuts l y z hy m (i + 1) (i + 1) (i + 1) (by omega)).1 (Nat.le_refl _) (Nat.le_refl _)
        rw [this]; simp

theorem glued_eq (l z : Tx) (w : Nat) : ∀ (cuts : List Nat) (a : Nat), (Str.join (mkS z) (partsFrom (mkS l) w a cuts)).cps.toList = glueT l z w a cuts
  | [], a => by
    show (strSub (mkS l) a (mkS l).length).cps.toList = _
    rw [strSub_toList, mkS_length]
    show (l.drop a).take (l.length - a) = l.drop a
    rw [List.take_of_length_le (by rw [List.length_drop]; omega)]
  | c :: cs, a => by
    have ih := glued_eq l z w cs (c + w)
    obtain ⟨p, r, hpr⟩ := partsFrom_ne (mkS l) w (c + w) cs
    show (Str.join (mkS z) (strSub (mkS l) a c :: partsFrom (mkS l) w (c + w) cs)).cps.toList = _
    rw [hpr] at ih ⊢
    show (strSub (mkS l) a c ++ mkS z ++ Str.join (mkS z) (p :: r)).cps.toList = _
    rw [Str.cps_append, Str.cps_append, Array.toList_append, Array.toList_append, ih, strSub_toList]
    rfl

theorem replL_eq (l y z : Tx) (hy : y ≠ []) : replL l y z = repK y z 0 l := by
  have hrun : occurrences (mkS l) (mkS y) 0 (mkS l).length ((mkS l).length + 1) = cutsOf l y 0 (l.length + 1) 0 := by
    rw [occ_eq, mkS_length]
    have := run_cuts l y (l.length + 1) (l.length + 1) 0 #[] 0 (by simp)
    rw [Nat.sub_zero, this]; rfl
  have hg := (glue_cuts l y z hy (l.length + 1) 0 0 0 (by omega)).1 (Nat.le_refl _) (Nat.le_refl _)
  simp only [List.drop_zero, Nat.sub_self, List.take_zero, List.nil_append] at hg
  have hl0 : ((mkS y).length == 0) = false := by rw [mkS_length]; cases y with | nil => exact absurd rfl hy | cons _ _ => rfl
  unfold replL Txt.replace
  rw [hrun, hl0, Bool.false_and, Bool.or_false]
  cases he : (cutsOf l y 0 (l.length + 1) 0) with
  | nil =>
    rw [he] at hg
    show l = _
    rw [← hg]; simp [glueT]
  | cons c cs =>
    rw [if_neg (by simp), glued_eq_join, partsBetween_eq, mkS_length, glued_eq, ← he, hg]

theorem repl1 (l : Tx) (c : Nat) (z : Tx) : replL l [c] z = l.flatMap fun a => if a = c then z else [a] := by
  rw [replL_eq _ _ _ (by simp)]
  induction l with
  | nil => rfl
  | cons a r ih =>
    rw [List.flatMap_cons, ← ih, repK]
    by_cases h : a = c
    · subst h
      rw [if_pos (by simp), if_pos rfl]; rfl
    · rw [if_neg (by simp; exact fun q => h q.symm), if_neg h]; rfl
end Mine
end
section
open PySem PySem.Builtin PySem.Builtin.Str PySem.StrLaws
set_option linter.all false
namespace Mine

def isB (c : Nat) : Bool := c == 32 || c == 9
theorem cpBl : cp " \t" = [32, 9] := by decide +kernel
theorem cpSemi : cp ";" = [59] := by decide +kernel
theorem goesB (c : Nat) : (mkS [32, 9]).cps.contains c = isB c := by
  show (#[32, 9] : Array Nat).contains c = _
  unfold isB
  rw [Bool.eq_iff_iff]
  simp [Array.contains_iff_mem]

theorem mk_getD (l : Tx) (k : Nat) : (mkS l).cps.getD k 0 = l.getD k 0 := by
  show l.toArray.getD k 0 = _
  rw [Array.getD_eq_getD_getElem?, List.getD_eq_getElem?_getD]; simp

theorem getD_bl {l : Tx} {k : Nat} (h : k < l.length) : l.getD k 0 ∈ l := by
  rw [List.getD_eq_getElem?_getD, List.getElem?_eq_getElem h]; exact List.getElem_mem h

theorem strip_eq {b core b2 : Tx} (hb : ∀ c ∈ b, isB c = true) (hb2 : ∀ c ∈ b2, isB c = true) (hne : core ≠ []) (h1 : isB (core.getD 0 0) = false) (h2 : isB (core.getD (core.length - 1) 0) = false) : stripL (b ++ core ++ b2) (cp " \t") = core := by
  have hp : 0 < core.length := by cases core with | nil => exact absurd rfl hne | cons _ _ => simp
  unfold stripL Txt.stripChars
  rw [cpBl, PyProof.Rows.stripBy_eq]
  obtain ⟨l1, l2, l3⟩ := PyProof.Rows.lo_facts (mkS [32, 9]).cps.contains (mkS (b ++ core ++ b2))
  generalize stripLo (mkS [32, 9]).cps.contains true (mkS (b ++ core ++ b2)) = lo at l1 l2 l3 ⊢
  have hlen : (mkS (b ++ core ++ b2)).length = b.length + core.length + b2.length := by rw [mkS_length]; simp; omega
  have g1 : ∀ k, k < b.length → isB ((b ++ core ++ b2).getD k 0) = true := fun k hk => by
    have : (b ++ core ++ b2).getD k 0 = b.getD k 0 := by rw [List.getD_eq_getElem?_getD, List.append_assoc, List.getElem?_append_left hk, ← List.getD_eq_getElem?_getD]
    rw [this]; exact hb _ (getD_bl hk)
  have g2 : ∀ k, k < core.length → (b ++ core ++ b2).getD (b.length + k) 0 = core.getD k 0 := fun k hk => by
    rw [List.getD_eq_getElem?_getD, List.append_assoc, List.getElem?_append_right (by omega), Nat.add_sub_cancel_left, List.getElem?_append_left hk, ← List.getD_eq_getElem?_getD]
  have g3 : ∀ k, k < b2.length → isB ((b ++ core ++ b2).getD (b.length + core.length + k) 0) = true := fun k hk => by
    have : (b ++ core ++ b2).getD (b.length + core.length + k) 0 = b2.getD k 0 := by
      rw [List.getD_eq_getElem?_getD, List.getElem?_append_right (by simp), List.length_append, Nat.add_sub_cancel_left, ← List.getD_eq_getElem?_getD]
    rw [this]; exact hb2 _ (getD_bl hk)
  have elo : lo = b.length := by
    rcases Nat.lt_trichotomy lo b.length with h | h | h
    · rcases l3 with q | q
      · omega
      · rw [mk_getD, goesB, g1 lo h] at q; cases q
    · exact h
    · have := l2 b.length h
      rw [mk_getD, goesB, ← Nat.add_zero b.length, g2 0 hp, h1] at this; cases this
  subst elo
  obtain ⟨k1, k2, k3, k4⟩ := PyProof.Rows.hi_facts (mkS [32, 9]).cps.contains (mkS (b ++ core ++ b2)) b.length l1
  generalize stripHi (mkS [32, 9]).cps.contains true (mkS (b ++ core ++ b2)) b.length = hi at k1 k2 k3 k4 ⊢
  have ehi : hi = b.length + core.length := by
    rcases Nat.lt_trichotomy hi (b.length + core.length) with h | h | h
    · have := k3 (b.length + (core.length - 1)) (by omega) (by omega)
      rw [mk_getD, goesB, g2 _ (by omega), h2] at this; cases this
    · exact h
    · rcases k4 with q | q
      · omega
      · have := g3 (hi - 1 - (b.length + core.length)) (by omega)
        rw [show b.length + core.length + (hi - 1 - (b.length + core.length)) = hi - 1 from by omega] at this
        rw [mk_getD, goesB, this] at q; cases q
  subst ehi
  rw [strSub_toList]
  show ((b ++ core ++ b2).drop b.length).take (b.length + core.length - b.length) = core
  rw [List.append_assoc, List.drop_left, Nat.add_sub_cancel_left, List.take_left]

theorem strip_bl {b : Tx} (hb : ∀ c ∈ b, isB c = true) : stripL b (cp " \t") = [] := by
  unfold stripL Txt.stripChars
  rw [cpBl, PyProof.Rows.stripBy_eq]
  obtain ⟨l1, l2, l3⟩ := PyProof.Rows.lo_facts (mkS [32, 9]).cps.contains (mkS b)
  generalize stripLo (mkS [32, 9]).cps.contains true (mkS b) = lo at l1 l2 l3 ⊢
  rw [mkS_length] at l1 l3
  have elo : lo = b.length := by
    rcases l3 with h | h
    · exact h
    · rcases Nat.lt_or_ge lo b.length with q | q
      · rw [mk_getD, goesB, hb _ (getD_bl q)] at h; cases h
      · omega
  subst elo
  rw [strSub_toList]
  show (b.drop b.length).take _ = []
  rw [List.drop_length, List.take_nil]
theorem stripL_len (l cs : Tx) : (stripL l cs).length ≤ l.length := by
  have := PyProof.Rows.len_stripChars (mkS l) (mkS cs)
  rw [mkS_length] at this
  exact this

theorem at_semi (l : Tx) (i : Nat) : At (mkS l) (mkS [59]) (mkS l).length i ↔ l[i]? = some 59 := subAt_one (mkS l) 59 i

theorem part_none {l : Tx} (h : 59 ∉ l) : partL l (cp ";") = (l, [], []) := by
  unfold partL
  rw [cpSemi]
  have := occ_head (mkS l) (mkS [59]) 1 (Nat.le_refl _)
  rw [mkS_length] at this
  rcases this with ⟨e, _⟩ | ⟨i, r, e, ha, _⟩
  · rw [e]
  · exact absurd (List.mem_of_getElem? ((at_semi l i).mp (by rw [mkS_length]; exact ha))) h
theorem part_some {a b : Tx} (h : 59 ∉ a) : partL (a ++ 59 :: b) (cp ";") = (a, [59], b) := by
  unfold partL
  rw [cpSemi]
  have := occ_head (mkS (a ++ 59 :: b)) (mkS [59]) 1 (Nat.le_refl _)
  rw [mkS_length] at this
  have hat : ∀ i, At (mkS (a ++ 59 :: b)) (mkS [59]) (a ++ 59 :: b).length i ↔ (a ++ 59 :: b)[i]? = some 59 := fun i => by
    have := at_semi (a ++ 59 :: b) i
    rw [mkS_length] at this; exact this
  have hm : (a ++ 59 :: b)[a.length]? = some 59 := by simp
  rcases this with ⟨_, hn⟩ | ⟨i, r, e, ha, hk⟩
  · exact absurd ((hat a.length).mpr hm) (hn _)
  · have hi := (hat i).mp ha
    have ei : i = a.length := by
      rcases Nat.lt_trichotomy i a.length with q | q | q
      · rw [List.getElem?_append_left q] at hi
        exact absurd (List.mem_of_getElem? hi) h
      · exact q
      · exact absurd ((hat a.length).mpr hm) (hk _ q)
    subst ei
    rw [e]
    dsimp only
    rw [strSub_toList, strSub_toList]
    refine Prod.ext ?_ (Prod.ext rfl ?_)
    · show ((a ++ 59 :: b).drop 0).take (a.length - 0) = a
      rw [List.drop_zero, Nat.sub_zero, List.take_left]
    · show ((a ++ 59 :: b).drop (a.length + 1)).take _ = b
      have : (a ++ 59 :: b).drop (a.length + 1) = b := by
        rw [← List.drop_drop, List.drop_left]; rfl
      rw [this, List.take_of_length_le]
      simp
      try omega
end Mine
end
section
open PySem
set_option linter.all false
namespace Mine

theorem key61 : isKey 61 = false := by decide +kernel
theorem key32 : isKey 32 = false := by decide +kernel
theorem key59 : isKey 59 = false := by decide +kernel
theorem key34 : isKey 34 = false := by decide +kernel
def restOk (r : Tx) : Prop := r = [] ∨ ∃ c t, r = c :: t ∧ (c = 32 ∨ c = 59)

theorem tw_app {f : Nat → Bool} {K r : Tx} (hK : ∀ c ∈ K, f c = true) (hr : r = [] ∨ ∃ c t, r = c :: t ∧ f c = false) : (K ++ r).takeWhile f = K ∧ (K ++ r).dropWhile f = r := by
  induction K with
  | nil =>
    rcases hr with rfl | ⟨c, t, rfl, h⟩
    · exact ⟨rfl, rfl⟩
    · rw [List.nil_append, List.takeWhile_cons, List.dropWhile_cons, if_neg (by rw [h]; decide), if_neg (by rw [h]; decide)]; exact ⟨rfl, rfl⟩
  | cons a K ih =>
    obtain ⟨i1, i2⟩ := ih fun c hc => hK c (by simp [hc])
    have ha := hK a (by simp)
    rw [List.cons_append, List.takeWhile_cons, List.dropWhile_cons, if_pos ha, if_pos ha, i1]
    exact ⟨rfl, i2⟩
theorem restOk.key {r : Tx} (h : restOk r) : r = [] ∨ ∃ c t, r = c :: t ∧ isKey c = false := by
  rcases h with h | ⟨c, t, e, h | h⟩
  · exact .inl h
  · exact .inr ⟨c, t, e, by rw [h]; exact key32⟩
  · exact .inr ⟨c, t, e, by rw [h]; exact key59⟩
theorem keyOf_eq {K v : Tx} (hK : ∀ c ∈ K, isKey c = true) (hne : K ≠ []) : keyOf (K ++ 61 :: v) = some (K, v) := by
  obtain ⟨h1, h2⟩ := tw_app (f := isKey) hK (.inr ⟨61, v, rfl, key61⟩)
  unfold keyOf
  rw [h1, h2]
  show (if K.isEmpty = true then none else some (K, v)) = some (K, v)
  rw [if_neg (by cases K with | nil => exact absurd rfl hne | cons _ _ => simp)]
theorem keyOf_no {K r : Tx} (hK : ∀ c ∈ K, isKey c = true) (hr : r = [] ∨ ∃ c t, r = c :: t ∧ isKey c = false ∧ c ≠ 61) : keyOf (K ++ r) = none := by
  obtain ⟨_, h2⟩ := tw_app (f := isKey) hK (hr.imp id fun ⟨c, t, e, h, _⟩ => ⟨c, t, e, h⟩)
  unfold keyOf
  rw [h2]
  rcases hr with rfl | ⟨c, t, rfl, _, h⟩
  · rfl
  · split
    · rename_i e; cases e; exact absurd rfl h
    · rfl
theorem tokOf_eq {T r : Tx} (hT : ∀ c ∈ T, isKey c = true) (hne : T ≠ []) (hr : restOk r) : tokOf (T ++ r) = some T := by
  obtain ⟨h1, _⟩ := tw_app (f := isKey) hT hr.key
  unfold tokOf
  rw [h1, if_neg (by cases T with | nil => exact absurd rfl hne | cons _ _ => simp)]
theorem tokOf_no {r : Tx} (hr : r = [] ∨ ∃ c t, r = c :: t ∧ isKey c = false) : tokOf r = none := by
  obtain ⟨h1, _⟩ := tw_app (f := isKey) (K := []) (fun _ h => nomatch h) hr
  unfold tokOf
  rw [List.nil_append] at h1
  rw [h1]; rfl
theorem delimW {w r : Tx} (h : 59 ∉ w) : delimOf (w ++ r) = delimOf r := by
  unfold delimOf
  have : (w ++ r).dropWhile (· != 59) = r.dropWhile (· != 59) := by
    induction w with
    | nil => rfl
    | cons a w ih =>
      rw [List.cons_append, List.dropWhile_cons, if_pos (by simp; exact fun q => h (by simp [q]))]
      exact ih fun q => h (by simp [q])
  rw [this]
theorem delim_nil : delimOf [] = none := rfl
theorem key_no59 {T : Tx} (hT : ∀ c ∈ T, isKey c = true) : 59 ∉ T := fun h => by have := hT _ h; rw [key59] at this; cases this

/-- what a piece gives, whatever stands behind it -/
def segOk (w : Tx) (ps : List (Tx × Tx)) : Prop := ∀ r, restOk r → w ++ r ≠ [] → ∃ x, scanTurn (w ++ r) = (ps, some x) ∧ delimOf x = delimOf r

theorem seg_tok {K T : Tx} (hK : ∀ c ∈ K, isKey c = true) (hk : K ≠ []) (hT : ∀ c ∈ T, isKey c = true) (ht : T ≠ []) : segOk (K ++ 61 :: T) [(lowerL K, T)] := by
  intro r hr _
  refine ⟨T ++ r, ?_, delimW (key_no59 hT)⟩
  unfold scanTurn
  rw [List.append_assoc, List.cons_append, keyOf_eq hK hk]
  dsimp only
  rw [tokOf_eq hT ht hr]
theorem seg_quote {K body : Tx} (hK : ∀ c ∈ K, isKey c = true) (hk : K ≠ []) (hq : ∀ r, closeQ (body ++ 34 :: r) = some (body ++ [34], r)) : segOk (K ++ 61 :: 34 :: (body ++ [34])) [(lowerL K, 34 :: (body ++ [34]))] := by
  intro r hr _
  refine ⟨r, ?_, rfl⟩
  unfold scanTurn
  rw [List.append_assoc, List.cons_append, List.cons_append, List.append_assoc, keyOf_eq hK hk]
  dsimp only
  rw [tokOf_no (.inr ⟨34, _, rfl, key34⟩)]
  dsimp only
  rw [show body ++ ([34] ++ r) = body ++ 34 :: r from rfl]
  simp only [hq r]
theorem seg_no {w : Tx} (h : ∀ r, restOk r → keyOf (w ++ r) = none) (h59 : 59 ∉ w) : segOk w [] := by
  intro r hr _
  refine ⟨w ++ r, ?_, delimW h59⟩
  unfold scanTurn
  rw [h r hr]
theorem seg_empty {K : Tx} (hK : ∀ c ∈ K, isKey c = true) (hk : K ≠ []) : segOk (K ++ [61]) [] := by
  intro r hr _
  refine ⟨r, ?_, rfl⟩
  unfold scanTurn
  rw [List.append_assoc, show ([61] ++ r) = 61 :: r from rfl, keyOf_eq hK hk]
  dsimp only
  rw [tokOf_no hr.key]
  dsimp only
  rcases hr with rfl | ⟨c, t, rfl, h | h⟩
  · rfl
  · subst h; rfl
  · subst h; rfl

theorem noneT_eq : noneT = [[98, 97, 114, 101], [110, 97, 32, 109, 101, 61, 49], [101, 109, 112, 116, 121] ++ [61], [61, 49], [34, 113, 34, 61, 50], [], [120, 32, 121]] := by decide +kernel
theorem restOk.no61 {r : Tx} (h : restOk r) : r = [] ∨ ∃ c t, r = c :: t ∧ isKey c = false ∧ c ≠ 61 := by
  rcases h with h | ⟨c, t, e, h | h⟩
  · exact .inl h
  · exact .inr ⟨c, t, e, by rw [h]; exact key32, by omega⟩
  · exact .inr ⟨c, t, e, by rw [h]; exact key59, by omega⟩
theorem seg_noneT : ∀ w ∈ noneT, segOk w [] := by
  intro w hw
  rw [noneT_eq] at hw
  simp only [List.mem_cons, List.not_mem_nil, or_false] at hw
  have k1 : ∀ c ∈ ([98, 97, 114, 101] : Tx), isKey c = true := by decide +kernel
  have k2 : ∀ c ∈ ([110, 97] : Tx), isKey c = true := by decide +kernel
  have k3 : ∀ c ∈ ([101, 109, 112, 116, 121] : Tx), isKey c = true := by decide +kernel
  have k7 : ∀ c ∈ ([120] : Tx), isKey c = true := by decide +kernel
  have k0 : ∀ c ∈ ([] : Tx), isKey c = true := fun _ h => nomatch h
  rcases hw with rfl | rfl | rfl | rfl | rfl | rfl | rfl
  · exact seg_no (fun r hr => keyOf_no k1 hr.no61) (by decide)
  · exact seg_no (fun r hr => keyOf_no (K := [110, 97]) (r := [32, 109, 101, 61, 49] ++ r) k2 (.inr ⟨32, _, rfl, key32, by decide⟩)) (by decide)
  · exact seg_empty k3 (by decide)
  · refine seg_no (fun r hr => ?_) (by decide)
    unfold keyOf
    rw [List.cons_append, List.dropWhile_cons, if_neg (by rw [key61]; decide)]
    try dsimp only
    rw [List.takeWhile_cons, if_neg (by rw [key61]; decide)]; rfl
  · exact seg_no (fun r hr => keyOf_no (K := []) (r := [34, 113, 34, 61, 50] ++ r) k0 (.inr ⟨34, _, rfl, key34, by decide⟩)) (by decide)
  · exact seg_no (fun r hr => keyOf_no (K := []) k0 hr.no61) (by decide)
  · exact seg_no (fun r hr => keyOf_no (K := [120]) (r := [32, 121] ++ r) k7 (.inr ⟨32, _, rfl, key32, by decide⟩)) (by decide)

/-! the delimiters -/
structure delimOk (d : Tx) : Prop where
  ex : ∃ b1 b2, d = b1 ++ 59 :: b2 ∧ (∀ c ∈ b1, isBl c = true) ∧ (∀ c ∈ b2, isBl c = true) ∧ ∀ c ∈ b1, c = 32
theorem dw_bl {b X : Tx} (h : ∀ c ∈ b, isBl c = true) : (b ++ X).dropWhile isBl = X.dropWhile isBl := by
  induction b with
  | nil => rfl
  | cons a b ih => rw [List.cons_append, List.dropWhile_cons, if_pos (h a (by simp))]; exact ih fun c hc => h c (by simp [hc])
theorem bl59 : isBl 59 = false := by decide +kernel
theorem delim_eq {b1 b2 X : Tx} (h1 : ∀ c ∈ b1, isBl c = true) (h2 : ∀ c ∈ b2, isBl c = true) : delimOf (b1 ++ 59 :: b2 ++ X) = some (X.dropWhile isBl) := by
  have n59 : 59 ∉ b1 := fun h => by have := h1 _ h; rw [bl59] at this; cases this
  rw [List.append_assoc, delimW n59]
  show (match ((59 :: b2) ++ X).dropWhile (· != 59) with | _ :: r => some (r.dropWhile isBl) | [] => none) = _
  rw [List.cons_append, List.dropWhile_cons, if_neg (by decide)]
  dsimp only
  rw [dw_bl h2]
def scan0 (X : Tx) : List (Tx × Tx) := scan (X.dropWhile isBl)
/-- first sign no blank -/
def hdOk (w : Tx) : Prop := ∀ c t, w = c :: t → isBl c = false

theorem scan_turn {u : Tx} (hu : u ≠ []) {ps : List (Tx × Tx)} {x Y : Tx} (h : scanTurn u = (ps, some x)) (hd : delimOf x = some Y) : scan u = ps ++ scan Y := by
  rw [scan_cons hu, h]
  dsimp only
  rw [hd]
theorem scan_end {u : Tx} (hu : u ≠ []) {ps : List (Tx × Tx)} {x : Tx} (h : scanTurn u = (ps, some x)) (hd : delimOf x = none) : scan u = ps := by
  rw [scan_cons hu, h]
  dsimp only
  rw [hd]

theorem scan_seg {w d X : Tx} {ps : List (Tx × Tx)} (hs : segOk w ps) (hw : hdOk w) (hd : delimOk d) : scan0 (w ++ (d ++ X)) = ps ++ scan0 X := by
  obtain ⟨b1, b2, rfl, h1, h2, h3⟩ := hd.ex
  unfold scan0
  cases w with
  | nil =>
    rw [List.nil_append]
    have e : (b1 ++ 59 :: b2 ++ X).dropWhile isBl = 59 :: b2 ++ X := by
      rw [List.append_assoc, dw_bl h1, List.cons_append, List.dropWhile_cons, if_neg (by rw [bl59]; decide)]
    rw [e]
    have hr : restOk (59 :: b2 ++ X) := .inr ⟨59, b2 ++ X, rfl, .inr rfl⟩
    obtain ⟨x, q1, q2⟩ := hs _ hr (by simp)
    rw [List.nil_append] at q1
    have := delim_eq (b1 := []) (b2 := b2) (X := X) (fun _ h => nomatch h) h2
    rw [List.nil_append] at this
    exact scan_turn (by simp) q1 (q2.trans this)
  | cons c t =>
    have e : (c :: t ++ (b1 ++ 59 :: b2 ++ X)).dropWhile isBl = c :: t ++ (b1 ++ 59 :: b2 ++ X) := by
      rw [List.cons_append, List.dropWhile_cons, if_neg (by rw [hw c t rfl]; decide)]
    rw [e]
    have hr : restOk (b1 ++ 59 :: b2 ++ X) := by
      cases b1 with
      | nil => exact .inr ⟨59, b2 ++ X, rfl, .inr rfl⟩
      | cons a b => exact .inr ⟨a, b ++ 59 :: b2 ++ X, rfl, .inl (h3 a (by simp))⟩
    obtain ⟨x, q1, q2⟩ := hs _ hr (by simp)
    exact scan_turn (by simp) q1 (q2.trans (delim_eq h1 h2))
theorem scan_lastSeg {w : Tx} {ps : List (Tx × Tx)} (hs : segOk w ps) (hw : hdOk w) : scan0 w = ps := by
  unfold scan0
  cases w with
  | nil =>
    obtain ⟨x, q1, _⟩ := hs [59] (.inr ⟨59, [], rfl, .inr rfl⟩) (by simp)
    have : scanTurn ([] ++ [59]) = ([], some [59]) := by decide +kernel
    rw [this] at q1
    have := (Prod.mk.inj q1).1
    rw [← this]; rfl
  | cons c t =>
    have e : (c :: t).dropWhile isBl = c :: t := by rw [List.dropWhile_cons, if_neg (by rw [hw c t rfl]; decide)]
    rw [e]
    obtain ⟨x, q1, q2⟩ := hs [] (.inl rfl) (by simp)
    rw [List.append_nil] at q1
    exact scan_end (by simp) q1 (q2.trans delim_nil)

/-- a text made of pieces -/
structure Pc where
  d : Tx
  w : Tx
  ps : List (Tx × Tx)
structure Pc.ok (p : Pc) : Prop where
  d : delimOk p.d
  w : hdOk p.w
  s : segOk p.w p.ps
def pcT (l : List Pc) : Tx := l.flatMap fun p => p.d ++ p.w
def pcP (l : List Pc) : List (Tx × Tx) := l.flatMap fun p => p.ps
theorem scan_pcs : ∀ (l : List Pc) (w : Tx) (ps : List (Tx × Tx)), (∀ p ∈ l, p.ok) → hdOk w → segOk w ps → scan0 (w ++ pcT l) = ps ++ pcP l
  | [], w, ps, _, hw, hs => by
    show scan0 (w ++ []) = ps ++ []
    rw [List.append_nil, List.append_nil]; exact scan_lastSeg hs hw
  | p :: l, w, ps, hl, hw, hs => by
    obtain ⟨h1, h2, h3⟩ := hl p (by simp)
    show scan0 (w ++ ((p.d ++ p.w) ++ pcT l)) = ps ++ (p.ps ++ pcP l)
    rw [List.append_assoc, scan_seg hs hw h1, scan_pcs l p.w p.ps (fun q hq => hl q (by simp [hq])) h2 h3]
/-- pieces, and behind them a text of which nothing is read -/
theorem scan_pcsT {tail : Tx} {d X : Tx} (ht : tail = d ++ X) (hd : delimOk d) (hX : scan0 X = []) : ∀ (l : List Pc) (w : Tx) (ps : List (Tx × Tx)), (∀ p ∈ l, p.ok) → hdOk w → segOk w ps → scan0 (w ++ (pcT l ++ tail)) = ps ++ pcP l
  | [], w, ps, _, hw, hs => by
    show scan0 (w ++ ([] ++ tail)) = ps ++ []
    rw [List.nil_append, ht, scan_seg hs hw hd, hX]
  | p :: l, w, ps, hl, hw, hs => by
    obtain ⟨h1, h2, h3⟩ := hl p (by simp)
    show scan0 (w ++ ((p.d ++ p.w) ++ pcT l ++ tail)) = ps ++ (p.ps ++ pcP l)
    rw [List.append_assoc, List.append_assoc, scan_seg hs hw h1, scan_pcsT ht hd hX l p.w p.ps (fun q hq => hl q (by simp [hq])) h2 h3]
end Mine
end
section
open PySem
set_option linter.all false
namespace Mine
noncomputable section

theorem isBl_eq (c : Nat) : isBl c = isB c := by
  unfold isBl isB; rfl

theorem dw_isB (X : Tx) : X.dropWhile isBl = X.dropWhile isB := by
  have : isBl = isB := funext isBl_eq
  rw [this]
structure valOk (V : Tx) : Prop where
  no : 59 ∉ V
  ne : V ≠ []
  hd : isB (V.getD 0 0) = false
  tl : isB (V.getD (V.length - 1) 0) = false

/-- last sign no blank -/
def tlOk (A : Tx) : Prop := A ≠ [] ∧ isB (A.getD (A.length - 1) 0) = false
theorem tlOk_app {A B : Tx} (h : tlOk B) : tlOk (A ++ B) := by
  obtain ⟨h1, h2⟩ := h
  have hp : 0 < B.length := by cases B with | nil => exact absurd rfl h1 | cons _ _ => simp
  refine ⟨by simp [h1], ?_⟩
  rw [List.length_append, List.getD_eq_getElem?_getD, List.getElem?_append_right (by omega), show A.length + B.length - 1 - A.length = B.length - 1 from by omega, ← List.getD_eq_getElem?_getD]
  exact h2

theorem tw_mem (A : Tx) : ∀ c ∈ A.takeWhile isB, isB c = true := by
  induction A with
  | nil => intro c h; cases h
  | cons a A ih =>
    rw [List.takeWhile_cons]
    split
    · intro c hc
      rcases List.mem_cons.mp hc with rfl | hc
      · assumption
      · exact ih c hc
    · intro c hc; cases hc
theorem strip_rest {A bt : Tx} (hA : tlOk A) (hb : ∀ c ∈ bt, isB c = true) : stripL (A ++ bt) (cp " \t") = A.dropWhile isB ∧ A.dropWhile isB ≠ [] := by
  obtain ⟨h1, h2⟩ := hA
  have hp : 0 < A.length := by cases A with | nil => exact absurd rfl h1 | cons _ _ => simp
  have hsp := (List.takeWhile_append_dropWhile (p := isB) (l := A)).symm
  have hne : A.dropWhile isB ≠ [] := by
    intro q
    rw [q, List.append_nil] at hsp
    have tl : (A.takeWhile isB).length = A.length := by rw [← hsp]
    have := takeWhile_all isB A (A.length - 1) (by omega)
    rw [h2] at this; cases this
  refine ⟨?_, hne⟩
  have hd : isB ((A.dropWhile isB).getD 0 0) = false := by
    have := List.head_dropWhile_not (p := isB) (l := A) hne
    cases h : A.dropWhile isB with
    | nil => exact absurd h hne
    | cons a r =>
      simp only [h, List.head_cons] at this
      simpa using this
  have ht : isB ((A.dropWhile isB).getD ((A.dropWhile isB).length - 1) 0) = false := by
    have hp2 : 0 < (A.dropWhile isB).length := by cases h : A.dropWhile isB with | nil => exact absurd h hne | cons _ _ => simp
    have : A.getD (A.length - 1) 0 = (A.dropWhile isB).getD ((A.dropWhile isB).length - 1) 0 := by
      have hl := congrArg List.length hsp
      rw [List.length_append] at hl
      conv => lhs; rw [hsp]
      rw [List.getD_eq_getElem?_getD, List.getElem?_append_right (by rw [List.length_append]; omega), List.length_append, ← List.getD_eq_getElem?_getD]
      congr 1
      omega
    rw [← this]; exact h2
  have := strip_eq (b := A.takeWhile isB) (core := A.dropWhile isB) (b2 := bt) (tw_mem A) hb hne hd ht
  rw [← hsp] at this
  exact this

/-- a value and what stands behind it -/
theorem parse_core {b0 V b1 A bt : Tx} (hb0 : ∀ c ∈ b0, isB c = true) (hb1 : ∀ c ∈ b1, isB c = true) (hbt : ∀ c ∈ bt, isB c = true) (hV : valOk V) (hA : tlOk A) (hlen : (b0 ++ V ++ b1 ++ 59 :: (A ++ bt)).length ≤ 50000)
    (hp : ∀ w ∈ scan0 A, okPart w) (hn : (scan0 A).length ≤ 100) : preP (b0 ++ V ++ b1 ++ 59 :: (A ++ bt)) ∧ parseT (b0 ++ V ++ b1 ++ 59 :: (A ++ bt)) = (V, finP (runP (scan0 A))) := by
  have no : 59 ∉ b0 ++ V ++ b1 := by
    intro h
    rw [List.mem_append, List.mem_append] at h
    have b59 : isB 59 = false := by decide
    rcases h with (h | h) | h
    · have := hb0 _ h; rw [b59] at this; cases this
    · exact hV.no h
    · have := hb1 _ h; rw [b59] at this; cases this
  have hpart := part_some (a := b0 ++ V ++ b1) (b := A ++ bt) no
  have h1 := strip_eq (b := b0) (core := V) (b2 := b1) hb0 hb1 hV.ne hV.hd hV.tl
  obtain ⟨h2, h3⟩ := strip_rest hA hbt
  have hsc : scan (A.dropWhile isB) = scan0 A := by unfold scan0; rw [dw_isB]
  have l1 : (b0 ++ V ++ b1).length ≤ 50000 := by rw [List.length_append] at hlen; omega
  have l2 : (A ++ bt).length ≤ 50000 := by rw [List.length_append, List.length_cons] at hlen; omega
  refine ⟨⟨hlen, ?_, ?_, ?_, ?_, ?_, ?_⟩, ?_⟩
  · rw [hpart]; dsimp only; rw [h2, hsc]; exact hp
  · rw [hpart]; dsimp only; rw [h2, hsc]; exact hn
  · rw [hpart]; exact l1
  · rw [hpart]; exact l2
  · exact Nat.le_trans (stripL_len _ _) (by rw [hpart]; exact l1)
  · exact Nat.le_trans (stripL_len _ _) (by rw [hpart]; exact l2)
  · unfold parseT
    dsimp only
    rw [hpart]
    dsimp only
    rw [h1, h2, hsc]
    have : (V.isEmpty || (A.dropWhile isB).isEmpty) = false := by
      rw [Bool.or_eq_false_iff]
      constructor
      · cases V with | nil => exact absurd rfl hV.ne | cons _ _ => rfl
      · cases h : A.dropWhile isB with | nil => exact absurd h h3 | cons _ _ => rfl
    rw [this]; rfl
/-- no value -/
theorem parse_noval {b1 A : Tx} (hb1 : ∀ c ∈ b1, isB c = true) (hA : tlOk A) (hlen : (b1 ++ 59 :: A).length ≤ 50000) (hp : ∀ w ∈ scan0 A, okPart w) (hn : (scan0 A).length ≤ 100) : preP (b1 ++ 59 :: A) ∧ parseT (b1 ++ 59 :: A) = ([], []) := by
  have b59 : isB 59 = false := by decide
  have no : 59 ∉ b1 := fun h => by have := hb1 _ h; rw [b59] at this; cases this
  have hpart := part_some (a := b1) (b := A) no
  obtain ⟨h2, h3⟩ := strip_rest (bt := []) hA (fun _ h => nomatch h)
  rw [List.append_nil] at h2
  have hsc : scan (A.dropWhile isB) = scan0 A := by unfold scan0; rw [dw_isB]
  have l1 : b1.length ≤ 50000 := by rw [List.length_append] at hlen; omega
  have l2 : A.length ≤ 50000 := by rw [List.length_append, List.length_cons] at hlen; omega
  refine ⟨⟨hlen, ?_, ?_, ?_, ?_, ?_, ?_⟩, ?_⟩
  · rw [hpart]; dsimp only; rw [h2, hsc]; exact hp
  · rw [hpart]; dsimp only; rw [h2, hsc]; exact hn
  · rw [hpart]; exact l1
  · rw [hpart]; exact l2
  · exact Nat.le_trans (stripL_len _ _) (by rw [hpart]; exact l1)
  · exact Nat.le_trans (stripL_len _ _) (by rw [hpart]; exact l2)
  · unfold parseT
    dsimp only
    rw [hpart]
    dsimp only
    rw [strip_bl hb1]; rfl
/-- no parameters -/
theorem parse_bare {b0 V b1 b2 : Tx} {semi : Bool} (hb0 : ∀ c ∈ b0, isB c = true) (hb1 : ∀ c ∈ b1, isB c = true) (hb2 : ∀ c ∈ b2, isB c = true) (hV : valOk V) (hlen : (b0 ++ V ++ b1 ++ (if semi then 59 :: b2 else [])).length ≤ 50000) :
    preP (b0 ++ V ++ b1 ++ (if semi then 59 :: b2 else [])) ∧ parseT (b0 ++ V ++ b1 ++ (if semi then 59 :: b2 else [])) = (V, []) := by
  have b59 : isB 59 = false := by decide
  have no : 59 ∉ b0 ++ V ++ b1 := by
    intro h
    rw [List.mem_append, List.mem_append] at h
    rcases h with (h | h) | h
    · have := hb0 _ h; rw [b59] at this; cases this
    · exact hV.no h
    · have := hb1 _ h; rw [b59] at this; cases this
  have h1 := strip_eq (b := b0) (core := V) (b2 := b1) hb0 hb1 hV.ne hV.hd hV.tl
  have hpart : (partL (b0 ++ V ++ b1 ++ (if semi then 59 :: b2 else [])) (cp ";")).1 = b0 ++ V ++ b1 ∧ stripL (partL (b0 ++ V ++ b1 ++ (if semi then 59 :: b2 else [])) (cp ";")).2.2 (cp " \t") = [] ∧ (partL (b0 ++ V ++ b1 ++ (if semi then 59 :: b2 else [])) (cp ";")).2.2.length ≤ 50000 := by
    cases semi with
    | true =>
      rw [if_pos rfl, part_some no]
      rw [if_pos rfl, List.length_append, List.length_cons] at hlen
      exact ⟨rfl, strip_bl hb2, by dsimp only; omega⟩
    | false =>
      rw [if_neg (by decide), List.append_nil, part_none no]
      exact ⟨rfl, strip_bl (fun _ h => nomatch h), by simp⟩
  obtain ⟨q1, q2, q3⟩ := hpart
  have l1 : (b0 ++ V ++ b1).length ≤ 50000 := by rw [List.length_append] at hlen; omega
  refine ⟨⟨hlen, ?_, ?_, ?_, q3, ?_, ?_⟩, ?_⟩
  · rw [q2]; intro w hw; cases hw
  · rw [q2]; exact Nat.zero_le _
  · rw [q1]; exact l1
  · exact Nat.le_trans (stripL_len _ _) (by rw [q1]; exact l1)
  · exact Nat.le_trans (stripL_len _ _) q3
  · unfold parseT
    dsimp only
    rw [q1, q2, h1]
    rw [show (([] : Tx).isEmpty) = true from rfl, Bool.or_true]; rfl
end
end Mine
end
section
open PySem
set_option linter.all false
namespace Mine
noncomputable section

theorem signsFold_sub {tab : List (Tx × Tx)} (h : tabOk tab) (number : Int) : ∀ k, ∃ l : List (Tx × Tx), (∀ p ∈ l, p ∈ tab) ∧ l.length = k ∧ signsFold tab number k = (l.flatMap (·.1), l.flatMap (·.2))
  | 0 => ⟨[], (fun _ h => nomatch h), rfl, rfl⟩
  | k + 1 => by
    obtain ⟨l, h1, h2, h3⟩ := signsFold_sub h number k
    refine ⟨l ++ [tabSign tab number k], ?_, by simp [h2], ?_⟩
    · intro p hp
      rcases List.mem_append.mp hp with hp | hp
      · exact h1 p hp
      · rw [List.mem_singleton] at hp; subst hp; exact tabSign_mem h number k
    · rw [signsFold, h3]; simp
theorem signs_sub {tab : List (Tx × Tx)} (h : tabOk tab) (number least : Int) : ∃ l : List (Tx × Tx), (∀ p ∈ l, p ∈ tab) ∧ (1 ≤ least → l ≠ []) ∧ signs tab number least = (l.flatMap (·.1), l.flatMap (·.2)) := by
  obtain ⟨l, h1, h2, h3⟩ := signsFold_sub h number (signsN number least)
  refine ⟨l, h1, ?_, h3⟩
  intro h0 e
  rw [e] at h2
  have := fmod4 number
  unfold signsN at h2
  simp at h2
  omega

theorem quotedT_eq : quotedT = [([97], [97]), ([34], [92, 34]), ([92], [92, 92]), ([59], [59]), ([34], [37, 50, 50]), ([32], [32]), ([233], [233]), ([61], [61]), ([44], [44]), ([37, 122], [37, 122]), ([39], [39]), ([120], [92, 120])] := by decide +kernel

theorem closeQ_one {c : Nat} (h1 : c ≠ 34) (h2 : c ≠ 92) (r : Tx) : closeQ (c :: r) = (closeQ r).map fun p => ([c] ++ p.1, p.2) :=
  closeQ_other c r h1 fun _ _ q => absurd q h2
theorem closeQ_form : ∀ p ∈ quotedT, ∀ r, closeQ (p.2 ++ r) = (closeQ r).map fun q => (p.2 ++ q.1, q.2) := by
  intro p hp r
  rw [quotedT_eq] at hp
  simp only [List.mem_cons, List.not_mem_nil, or_false] at hp
  rcases hp with rfl | rfl | rfl | rfl | rfl | rfl | rfl | rfl | rfl | rfl | rfl | rfl
  · exact closeQ_one (by decide) (by decide) r
  · exact closeQ_esc 34 r (.inr rfl)
  · exact closeQ_esc 92 r (.inl rfl)
  · exact closeQ_one (by decide) (by decide) r
  · show closeQ (37 :: 50 :: 50 :: r) = _
    rw [closeQ_one (by decide) (by decide), closeQ_one (by decide) (by decide), closeQ_one (by decide) (by decide), Option.map_map, Option.map_map]; rfl
  · exact closeQ_one (by decide) (by decide) r
  · exact closeQ_one (by decide) (by decide) r
  · exact closeQ_one (by decide) (by decide) r
  · exact closeQ_one (by decide) (by decide) r
  · show closeQ (37 :: 122 :: r) = _
    rw [closeQ_one (by decide) (by decide), closeQ_one (by decide) (by decide), Option.map_map]; rfl
  · exact closeQ_one (by decide) (by decide) r
  · show closeQ (92 :: 120 :: r) = _
    rw [closeQ_other 92 (120 :: r) (by decide) (fun d t _ e => by cases e; decide), closeQ_one (by decide) (by decide), Option.map_map]; rfl
theorem closeQ_body : ∀ (l : List (Tx × Tx)), (∀ p ∈ l, p ∈ quotedT) → ∀ r, closeQ (l.flatMap (·.2) ++ 34 :: r) = some (l.flatMap (·.2) ++ [34], r)
  | [], _, r => closeQ_quote r
  | p :: l, h, r => by
    rw [List.flatMap_cons, List.append_assoc, closeQ_form p (h p (by simp)), closeQ_body l (fun q hq => h q (by simp [hq])) r, Option.map_some]
    simp

/-- a form with its slashes taken off -/
def uForm (p : Tx × Tx) : Tx := if p.2 = [37, 50, 50] then p.2 else p.1
theorem unsl_form : ∀ p ∈ quotedT, ∀ r, unslT (p.2 ++ r) = uForm p ++ unslT r := by
  intro p hp r
  rw [quotedT_eq] at hp
  simp only [List.mem_cons, List.not_mem_nil, or_false] at hp
  have one : ∀ (c : Nat), c ≠ 92 → ∀ r, unslT (c :: r) = c :: unslT r := fun c h r => unslT_cons h r
  rcases hp with rfl | rfl | rfl | rfl | rfl | rfl | rfl | rfl | rfl | rfl | rfl | rfl
  · exact one _ (by decide) r
  · exact unslT_esc 34 r
  · exact unslT_esc 92 r
  · exact one _ (by decide) r
  · show unslT (37 :: 50 :: 50 :: r) = 37 :: 50 :: 50 :: unslT r
    rw [one _ (by decide), one _ (by decide), one _ (by decide)]
  · exact one _ (by decide) r
  · exact one _ (by decide) r
  · exact one _ (by decide) r
  · exact one _ (by decide) r
  · show unslT (37 :: 122 :: r) = 37 :: 122 :: unslT r
    rw [one _ (by decide), one _ (by decide)]
  · exact one _ (by decide) r
  · exact unslT_esc 120 r
theorem unsl_body : ∀ (l : List (Tx × Tx)), (∀ p ∈ l, p ∈ quotedT) → unslT (l.flatMap (·.2)) = l.flatMap uForm
  | [], _ => by rw [List.flatMap_nil, List.flatMap_nil, unslT]
  | p :: l, h => by rw [List.flatMap_cons, List.flatMap_cons, unsl_form p (h p (by simp)), unsl_body l fun q hq => h q (by simp [hq])]
theorem rep_one {c : Nat} (h : c ≠ 37) (r : Tx) : repK [37, 50, 50] [34] 0 (c :: r) = [c] ++ repK [37, 50, 50] [34] 0 r := by
  rw [repK, if_neg (by simp; exact fun q => absurd q.symm h)]; rfl
theorem rep_form : ∀ p ∈ quotedT, ∀ r, repK [37, 50, 50] [34] 0 (uForm p ++ r) = p.1 ++ repK [37, 50, 50] [34] 0 r := by
  intro p hp r
  rw [quotedT_eq] at hp
  simp only [List.mem_cons, List.not_mem_nil, or_false] at hp
  rcases hp with rfl | rfl | rfl | rfl | rfl | rfl | rfl | rfl | rfl | rfl | rfl | rfl
  · exact rep_one (by decide) r
  · exact rep_one (by decide) r
  · exact rep_one (by decide) r
  · exact rep_one (by decide) r
  · show repK [37, 50, 50] [34] 0 (37 :: 50 :: 50 :: r) = _
    rw [repK, if_pos (by simp)]
    show [34] ++ repK [37, 50, 50] [34] 2 (50 :: 50 :: r) = _
    rw [repK, repK]
  · exact rep_one (by decide) r
  · exact rep_one (by decide) r
  · exact rep_one (by decide) r
  · exact rep_one (by decide) r
  · show repK [37, 50, 50] [34] 0 (37 :: 122 :: r) = _
    rw [repK, if_neg (by simp), rep_one (by decide)]; rfl
  · exact rep_one (by decide) r
  · exact rep_one (by decide) r
theorem rep_body : ∀ (l : List (Tx × Tx)), (∀ p ∈ l, p ∈ quotedT) → repK [37, 50, 50] [34] 0 (l.flatMap uForm) = l.flatMap (·.1)
  | [], _ => rfl
  | p :: l, h => by rw [List.flatMap_cons, List.flatMap_cons, rep_form p (h p (by simp)), rep_body l fun q hq => h q (by simp [hq])]
theorem cp22 : cp "%22" = [37, 50, 50] ∧ cp "\"" = [34] := by decide +kernel
theorem decQ_eq (v : Tx) : decQ v = repK [37, 50, 50] [34] 0 (uqT v) := by
  unfold decQ
  rw [cp22.1, cp22.2, replL_eq _ _ _ (by simp)]
theorem uqT_quoted (body : Tx) : uqT (34 :: (body ++ [34])) = unslT body := by
  have hl : (34 :: (body ++ [34])).length = body.length + 2 := by simp
  unfold uqT
  rw [hl]
  have e1 : ((34 :: (body ++ [34])).take (body.length + 2 - 1)).drop 1 = body := by
    rw [show body.length + 2 - 1 = body.length + 1 from by omega, List.take_succ_cons, List.drop_succ_cons, List.drop_zero, List.take_left]
  have e2 : ((34 :: (body ++ [34])).drop (body.length + 2 - 1)).take 1 = [34] := by
    rw [show body.length + 2 - 1 = body.length + 1 from by omega, List.drop_succ_cons, List.drop_left]; rfl
  have e3 : swAt (34 :: (body ++ [34])) [34] 0 = true := by
    unfold swAt
    simp
  rw [e1, e2, e3, if_pos]
  simp
theorem uqT_tok {v : Tx} (h : 34 ∉ v) : uqT v = v := by
  unfold uqT
  rw [if_neg]
  intro q
  simp only [Bool.and_eq_true, beq_iff_eq, decide_eq_true_eq] at q
  have : (v.drop (v.length - 1)).take 1 = [34] := q.2.2
  have hm : 34 ∈ (v.drop (v.length - 1)).take 1 := by rw [this]; simp
  exact h (List.mem_of_mem_drop (List.mem_of_mem_take hm))
theorem decQ_body {l : List (Tx × Tx)} (h : ∀ p ∈ l, p ∈ quotedT) : decQ (34 :: (l.flatMap (·.2) ++ [34])) = l.flatMap (·.1) := by
  rw [decQ_eq, uqT_quoted, unsl_body l h, rep_body l h]
theorem quoted_nl : ∀ p ∈ quotedT, 10 ∉ p.2 := by decide +kernel
theorem body_nl {l : List (Tx × Tx)} (h : ∀ p ∈ l, p ∈ quotedT) : 10 ∉ l.flatMap (·.2) := by
  intro q
  obtain ⟨p, hp, hq⟩ := List.mem_flatMap.mp q
  exact quoted_nl p (h p hp) hq
end
end Mine
end
section
open PySem PySem.Builtin
set_option linter.all false
namespace Mine
noncomputable section

/-- a sign and its octets, at any place -/
def unitOk (nx : List UInt8 → Nat → List Nat × Nat) (u : Nat × List UInt8) : Prop := u.2 ≠ [] ∧ ∀ (bs rest : List UInt8) (p : Nat), bs.drop p = u.2 ++ rest → nx bs p = ([u.1], p + u.2.length)

theorem dec_units {nx : List UInt8 → Nat → List Nat × Nat} {bs : List UInt8} : ∀ (us : List (Nat × List UInt8)), (∀ u ∈ us, unitOk nx u) → ∀ f p, bs.drop p = us.flatMap (·.2) → bs.length - p ≤ f → decA (nx bs) bs.length f p = us.map (·.1)
  | [], _, f, p, h, hf => by
    have hp : bs.length ≤ p := by
      rw [List.flatMap_nil] at h
      exact List.drop_eq_nil_iff.mp h
    cases f with
    | zero => rfl
    | succ f => rw [decA, if_pos hp]; rfl
  | u :: us, hu, f, p, h, hf => by
    obtain ⟨h1, h2⟩ := hu u (by simp)
    rw [List.flatMap_cons] at h
    have hl : 0 < u.2.length := by cases hq : u.2 with | nil => exact absurd hq h1 | cons _ _ => simp
    have hlen := congrArg List.length h
    rw [List.length_drop, List.length_append] at hlen
    cases f with
    | zero => omega
    | succ f =>
      rw [decA, if_neg (by omega), h2 bs _ p h]
      have := dec_units us (fun v hv => hu v (by simp [hv])) f (p + u.2.length) (by rw [← List.drop_drop, h, List.drop_left]) (by omega)
      rw [this]; rfl

theorem at_of {bs o rest : List UInt8} {p : Nat} (h : bs.drop p = o ++ rest) (k : Nat) (hk : k < o.length) : bs.toArray[p + k]? = some o[k] := by
  have : (bs.drop p)[k]? = some o[k] := by rw [h, List.getElem?_append_left hk, List.getElem?_eq_getElem hk]
  rw [List.getElem?_drop] at this
  simpa using this
theorem at0_of {bs : List UInt8} {o : UInt8} {os rest : List UInt8} {p : Nat} (h : bs.drop p = (o :: os) ++ rest) : bs.toArray.getD p 0 = o := by
  have := at_of h 0 (by simp)
  rw [Nat.add_zero] at this
  rw [Array.getD_eq_getD_getElem?, this]; rfl
def nU (bs : List UInt8) (p : Nat) := nxU bs.toArray p
def nL (bs : List UInt8) (p : Nat) := nxL bs.toArray p
def nI (bs : List UInt8) (p : Nat) := nxA bs.toArray p
theorem unit_ascii {o : UInt8} (h : o.toNat < 128) : unitOk nU (o.toNat, [o]) ∧ unitOk nI (o.toNat, [o]) := by
  refine ⟨⟨by simp, fun bs rest p hd => ?_⟩, ⟨by simp, fun bs rest p hd => ?_⟩⟩
  · have h0 := at0_of hd
    unfold nU nxU Bytes.utf8At
    rw [h0]
    dsimp only
    rw [if_pos h]; rfl
  · have h0 := at0_of hd
    unfold nI nxA
    rw [h0, if_pos h]; rfl
theorem unit_latin (o : UInt8) : unitOk nL (o.toNat, [o]) := by
  refine ⟨by simp, fun bs rest p hd => ?_⟩
  have h0 := at0_of hd
  unfold nL nxL
  rw [h0]; rfl
theorem unit_badI {o : UInt8} (h : ¬ o.toNat < 128) : unitOk nI (65533, [o]) := by
  refine ⟨by simp, fun bs rest p hd => ?_⟩
  have h0 := at0_of hd
  unfold nI nxA
  rw [h0, if_neg h]; rfl
theorem unit_badU : unitOk nU (65533, [255]) := by
  refine ⟨by simp, fun bs rest p hd => ?_⟩
  have h0 := at0_of hd
  unfold nU nxU Bytes.utf8At
  rw [h0]; rfl
theorem unit_e : unitOk nU (233, [195, 169]) := by
  refine ⟨by simp, fun bs rest p hd => ?_⟩
  have h0 := at0_of hd
  have h1 : bs.toArray[p + 1]? = some 169 := at_of hd 1 (by decide)
  unfold nU nxU Bytes.utf8At
  have h1' : bs[p + 1]? = some 169 := by simpa using h1
  simp [h0, h1', List.range_succ, Except.bind]
theorem unit_euro : unitOk nU (8364, [226, 130, 172]) := by
  refine ⟨by simp, fun bs rest p hd => ?_⟩
  have h0 := at0_of hd
  have h1 : bs.toArray[p + 1]? = some 130 := at_of hd 1 (by decide)
  have h2 : bs.toArray[p + 2]? = some 172 := at_of hd 2 (by decide)
  unfold nU nxU Bytes.utf8At
  have h1' : bs[p + 1]? = some 130 := by simpa using h1
  have h2' : bs[p + 2]? = some 172 := by simpa using h2
  simp [h0, h1', h2', List.range_succ, Except.bind]

theorem octs_one {c : Nat} (h : c ≠ 37) (r : Tx) : octs (c :: r) = c.toUInt8 :: octs r := octs_other fun q => h q.1
theorem octs_dang {a : Nat} {r : Tx} (h : isHex a = false) : octs (37 :: a :: r) = 37 :: octs (a :: r) := octs_other fun ⟨_, a', b', t, e, h1, _⟩ => by
  cases e; rw [h] at h1; cases h1
theorem octs_dang0 {r : Tx} (h : r = [] ∨ ∃ a t, r = a :: t ∧ isHex a = false) : octs (37 :: r) = 37 :: octs r := by
  rcases h with rfl | ⟨a, t, rfl, h⟩
  · exact octs_other fun ⟨_, a', b', t, e, _, _⟩ => nomatch e
  · exact octs_dang h

theorem percT0_eq : percT0 = [([65], [65]), ([233], [37, 67, 51, 37, 65, 57]), ([8364], [37, 101, 50, 37, 56, 50, 37, 65, 67]), ([32], [37, 50, 48]), ([37], [37, 50, 53]), ([65533], [37, 70, 70]), ([37, 122, 122], [37, 122, 122]), ([43], [43])] := by decide +kernel
theorem percT1_eq : percT1 = [([65], [37, 52, 49]), ([233], [37, 69, 57]), ([255], [37, 102, 102]), ([32], [37, 50, 48]), ([195, 169], [37, 67, 51, 37, 65, 57]), ([59], [37, 51, 66]), ([37], [37]), ([45], [45])] := by decide +kernel
theorem percT2_eq : percT2 = [([65], [37, 52, 49]), ([65533], [37, 69, 57]), ([122], [122]), ([32], [37, 50, 48]), ([34], [37, 50, 50]), ([59], [37, 51, 98]), ([37, 71], [37, 71]), ([45], [45])] := by decide +kernel

/-- a form of a table and its octets -/
def formOk (nx : List UInt8 → Nat → List Nat × Nat) (safe : Tx → Prop) (p : Tx × Tx) : Prop := ∃ us : List (Nat × List UInt8), (∀ u ∈ us, unitOk nx u) ∧ us.map (·.1) = p.1 ∧ ∀ r, safe r → octs (p.2 ++ r) = us.flatMap (·.2) ++ octs r

theorem uA (o : UInt8) (h : o.toNat < 128 := by decide) : unitOk nU (o.toNat, [o]) := (unit_ascii h).1
theorem uI (o : UInt8) (h : o.toNat < 128 := by decide) : unitOk nI (o.toNat, [o]) := (unit_ascii h).2
theorem one_mem {α : Type} {P : α → Prop} {a : α} (h : P a) : ∀ u ∈ [a], P u := fun u hu => by rw [List.mem_singleton] at hu; subst hu; exact h
theorem two_mem {α : Type} {P : α → Prop} {a b : α} (h : P a) (h2 : P b) : ∀ u ∈ [a, b], P u := fun u hu => by
  simp only [List.mem_cons, List.not_mem_nil, or_false] at hu
  rcases hu with rfl | rfl
  · exact h
  · exact h2
theorem forms0 : ∀ p ∈ percT0, formOk nU (fun _ => True) p := by
  intro p hp
  rw [percT0_eq] at hp
  simp only [List.mem_cons, List.not_mem_nil, or_false] at hp
  rcases hp with rfl | rfl | rfl | rfl | rfl | rfl | rfl | rfl
  · exact ⟨[(65, [65])], one_mem (uA 65), rfl, fun r _ => octs_one (by decide) r⟩
  · refine ⟨[(233, [195, 169])], one_mem unit_e, rfl, fun r _ => ?_⟩
    show octs (37 :: 67 :: 51 :: 37 :: 65 :: 57 :: r) = _
    rw [octs_hex (by decide) (by decide), octs_hex (by decide) (by decide)]; rfl
  · refine ⟨[(8364, [226, 130, 172])], one_mem unit_euro, rfl, fun r _ => ?_⟩
    show octs (37 :: 101 :: 50 :: 37 :: 56 :: 50 :: 37 :: 65 :: 67 :: r) = _
    rw [octs_hex (by decide) (by decide), octs_hex (by decide) (by decide), octs_hex (by decide) (by decide)]; rfl
  · exact ⟨[(32, [32])], one_mem (uA 32), rfl, fun r _ => octs_hex (by decide) (by decide)⟩
  · exact ⟨[(37, [37])], one_mem (uA 37), rfl, fun r _ => octs_hex (by decide) (by decide)⟩
  · exact ⟨[(65533, [255])], one_mem unit_badU, rfl, fun r _ => octs_hex (by decide) (by decide)⟩
  · refine ⟨[(37, [37]), (122, [122]), (122, [122])], ?_, rfl, fun r _ => ?_⟩
    · intro u hu
      simp only [List.mem_cons, List.not_mem_nil, or_false] at hu
      rcases hu with rfl | rfl | rfl
      · exact uA 37
      · exact uA 122
      · exact uA 122
    · show octs (37 :: 122 :: 122 :: r) = _
      rw [octs_dang (by decide), octs_one (by decide), octs_one (by decide)]; rfl
  · exact ⟨[(43, [43])], one_mem (uA 43), rfl, fun r _ => octs_one (by decide) r⟩
def safe1 (r : Tx) : Prop := r = [] ∨ ∃ a t, r = a :: t ∧ isHex a = false
theorem forms1 : ∀ p ∈ percT1, formOk nL safe1 p := by
  intro p hp
  rw [percT1_eq] at hp
  simp only [List.mem_cons, List.not_mem_nil, or_false] at hp
  rcases hp with rfl | rfl | rfl | rfl | rfl | rfl | rfl | rfl
  · exact ⟨[(65, [65])], one_mem (unit_latin 65), rfl, fun r _ => octs_hex (by decide) (by decide)⟩
  · exact ⟨[(233, [233])], one_mem (unit_latin 233), rfl, fun r _ => octs_hex (by decide) (by decide)⟩
  · exact ⟨[(255, [255])], one_mem (unit_latin 255), rfl, fun r _ => octs_hex (by decide) (by decide)⟩
  · exact ⟨[(32, [32])], one_mem (unit_latin 32), rfl, fun r _ => octs_hex (by decide) (by decide)⟩
  · refine ⟨[(195, [195]), (169, [169])], two_mem (unit_latin 195) (unit_latin 169), rfl, fun r _ => ?_⟩
    show octs (37 :: 67 :: 51 :: 37 :: 65 :: 57 :: r) = _
    rw [octs_hex (by decide) (by decide), octs_hex (by decide) (by decide)]; rfl
  · exact ⟨[(59, [59])], one_mem (unit_latin 59), rfl, fun r _ => octs_hex (by decide) (by decide)⟩
  · exact ⟨[(37, [37])], one_mem (unit_latin 37), rfl, fun r h => octs_dang0 h⟩
  · exact ⟨[(45, [45])], one_mem (unit_latin 45), rfl, fun r _ => octs_one (by decide) r⟩
theorem forms2 : ∀ p ∈ percT2, formOk nI (fun _ => True) p := by
  intro p hp
  rw [percT2_eq] at hp
  simp only [List.mem_cons, List.not_mem_nil, or_false] at hp
  rcases hp with rfl | rfl | rfl | rfl | rfl | rfl | rfl | rfl
  · exact ⟨[(65, [65])], one_mem (uI 65), rfl, fun r _ => octs_hex (by decide) (by decide)⟩
  · exact ⟨[(65533, [233])], one_mem (unit_badI (by decide)), rfl, fun r _ => octs_hex (by decide) (by decide)⟩
  · exact ⟨[(122, [122])], one_mem (uI 122), rfl, fun r _ => octs_one (by decide) r⟩
  · exact ⟨[(32, [32])], one_mem (uI 32), rfl, fun r _ => octs_hex (by decide) (by decide)⟩
  · exact ⟨[(34, [34])], one_mem (uI 34), rfl, fun r _ => octs_hex (by decide) (by decide)⟩
  · exact ⟨[(59, [59])], one_mem (uI 59), rfl, fun r _ => octs_hex (by decide) (by decide)⟩
  · refine ⟨[(37, [37]), (71, [71])], two_mem (uI 37) (uI 71), rfl, fun r _ => ?_⟩
    show octs (37 :: 71 :: r) = _
    rw [octs_dang (by decide), octs_one (by decide)]; rfl
  · exact ⟨[(45, [45])], one_mem (uI 45), rfl, fun r _ => octs_one (by decide) r⟩

theorem forms_all {nx : List UInt8 → Nat → List Nat × Nat} {safe : Tx → Prop} {tab : List (Tx × Tx)} (hf : ∀ p ∈ tab, formOk nx safe p) (h0 : safe []) (hs : ∀ p ∈ tab, ∀ r, safe (p.2 ++ r)) : ∀ (l : List (Tx × Tx)), (∀ p ∈ l, p ∈ tab) → safe (l.flatMap (·.2)) ∧ ∃ us : List (Nat × List UInt8), (∀ u ∈ us, unitOk nx u) ∧ us.map (·.1) = l.flatMap (·.1) ∧ octs (l.flatMap (·.2)) = us.flatMap (·.2)
  | [], _ => ⟨h0, [], (fun _ h => nomatch h), rfl, octs_nil⟩
  | p :: l, h => by
    obtain ⟨i0, us, i1, i2, i3⟩ := forms_all hf h0 hs l fun q hq => h q (by simp [hq])
    obtain ⟨vs, j1, j2, j3⟩ := hf p (h p (by simp))
    refine ⟨?_, vs ++ us, ?_, ?_, ?_⟩
    · rw [List.flatMap_cons]; exact hs p (h p (by simp)) _
    · intro u hu
      rcases List.mem_append.mp hu with hu | hu
      · exact j1 u hu
      · exact i1 u hu
    · rw [List.map_append, List.flatMap_cons, i2, j2]
    · rw [List.flatMap_cons, List.flatMap_append, j3 _ i0, i3]
theorem dec_all {nx : List UInt8 → Nat → List Nat × Nat} {safe : Tx → Prop} {tab : List (Tx × Tx)} (hf : ∀ p ∈ tab, formOk nx safe p) (h0 : safe []) (hs : ∀ p ∈ tab, ∀ r, safe (p.2 ++ r)) (l : List (Tx × Tx)) (h : ∀ p ∈ l, p ∈ tab) : decA (nx (octs (l.flatMap (·.2)))) (octs (l.flatMap (·.2))).length (octs (l.flatMap (·.2))).length 0 = l.flatMap (·.1) := by
  obtain ⟨_, us, i1, i2, i3⟩ := forms_all hf h0 hs l h
  rw [dec_units us i1 _ 0 (by rw [List.drop_zero, i3]) (by omega), i2]
theorem cpEnc : cp "utf-8" = [117, 116, 102, 45, 56] ∧ cp "iso-8859-1" = [105, 115, 111, 45, 56, 56, 53, 57, 45, 49] ∧ cp "us-ascii" = [117, 115, 45, 97, 115, 99, 105, 105] ∧ cp "ascii" = [97, 115, 99, 105, 105] := by decide +kernel
theorem unq0 {l : List (Tx × Tx)} (h : ∀ p ∈ l, p ∈ percT0) : unquoteT (l.flatMap (·.2)) (cp "utf-8") = l.flatMap (·.1) := by
  unfold unquoteT textDec
  rw [if_pos rfl]
  exact dec_all forms0 trivial (fun _ _ _ => trivial) l h
theorem hd1 : ∀ p ∈ percT1, ∃ a t, p.2 = a :: t ∧ isHex a = false := by
  rw [percT1_eq]
  intro p hp
  simp only [List.mem_cons, List.not_mem_nil, or_false] at hp
  rcases hp with rfl | rfl | rfl | rfl | rfl | rfl | rfl | rfl <;> exact ⟨_, _, rfl, by decide⟩
theorem unq1 {l : List (Tx × Tx)} (h : ∀ p ∈ l, p ∈ percT1) : unquoteT (l.flatMap (·.2)) (cp "iso-8859-1") = l.flatMap (·.1) := by
  unfold unquoteT textDec
  rw [if_neg (by rw [cpEnc.1, cpEnc.2.1]; decide), if_pos rfl]
  refine dec_all forms1 (.inl rfl) (fun p hp r => ?_) l h
  obtain ⟨a, t, e, q⟩ := hd1 p hp
  exact .inr ⟨a, t ++ r, by rw [e]; rfl, q⟩
theorem unq2 {l : List (Tx × Tx)} (h : ∀ p ∈ l, p ∈ percT2) {e : Tx} (he : e = cp "us-ascii" ∨ e = cp "ascii") : unquoteT (l.flatMap (·.2)) e = l.flatMap (·.1) := by
  unfold unquoteT textDec
  have h1 : e ≠ cp "utf-8" ∧ e ≠ cp "iso-8859-1" := by
    rcases he with rfl | rfl
    · rw [cpEnc.1, cpEnc.2.1, cpEnc.2.2.1]; decide
    · rw [cpEnc.1, cpEnc.2.1, cpEnc.2.2.2]; decide
  rw [if_neg h1.1, if_neg h1.2]
  exact dec_all forms2 trivial (fun _ _ _ => trivial) l h

/-- the signs of the tables -/
theorem perc_signs : ∀ p ∈ percT0 ++ percT1 ++ percT2, p.2 ≠ [] ∧ ∀ c ∈ p.2, isK 27898 c = true ∧ isK 27770 c = true ∧ c ≠ 10 ∧ c ≠ 34 ∧ c < 128 := by
  rw [percT0_eq, percT1_eq, percT2_eq]; decide +kernel
end
end Mine
end
section
open PySem PySem.Builtin
set_option linter.all false
namespace Mine
noncomputable section

/-- the charset that is known, as the law and as the parser hold it -/
def encRel (known : Option Int) (e : Option Tx) : Prop :=
  (known = none ∧ e = none) ∨ (known = some 0 ∧ e = some (cp "utf-8")) ∨ (known = some 1 ∧ e = some (cp "iso-8859-1")) ∨ (known = some 2 ∧ (e = some (cp "us-ascii") ∨ e = some (cp "ascii"))) ∨ (known = some 3 ∧ e = some (cp "koi8-r"))

/-- a value as it is written: a token, or quoted -/
def pvOk (pv : Tx) : Prop := ((∀ c ∈ pv, isKey c = true) ∧ pv ≠ []) ∨ ∃ body, pv = 34 :: (body ++ [34]) ∧ ∀ r, closeQ (body ++ 34 :: r) = some (body ++ [34], r)

structure PartIs (star : Bool) (pv v : Tx) (known known' : Option Int) : Prop where
  pok : pvOk pv
  len : pv.length ≤ 100
  vlen : v.length ≤ 100
  nl : ∀ c ∈ pv, c ≠ 10
  st : star = true → okStar pv
  q : star = false → decQ pv = v ∧ known' = known
  d : star = true → ∀ (encs : List (Tx × Tx)) (base : Tx) (cont : Bool), (cont = true → encRel known (dget encs base)) → (cont = false → known = none) → encRel known' (decS encs base cont pv).1 ∧ (decS encs base cont pv).2 = v

theorem koi_out : decide (some (cp "koi8-r") ∈ encIn.map some) = false := by decide +kernel
theorem none_out : decide (none ∈ encIn.map some) = false := by decide +kernel
theorem enc_in : ∀ e ∈ encIn, decide (some e ∈ encIn.map some) = true := fun e he => decide_eq_true (List.mem_map.mpr ⟨e, he, rfl⟩)
theorem utf_in : decide (some (cp "utf-8") ∈ encIn.map some) = true := enc_in _ (by simp [encIn])
theorem iso_in : decide (some (cp "iso-8859-1") ∈ encIn.map some) = true := enc_in _ (by simp [encIn])
theorem usa_in : decide (some (cp "us-ascii") ∈ encIn.map some) = true := enc_in _ (by simp [encIn])
theorem asc_in : decide (some (cp "ascii") ∈ encIn.map some) = true := enc_in _ (by simp [encIn])

/-- what is decoded under an encoding that is known -/
def decE (e : Option Tx) (t : Tx) : Tx := if decide (e ∈ encIn.map some) then unquoteT t (e.getD []) else t
theorem decE_spec {known : Option Int} {e : Option Tx} (h : encRel known e) (n : Int) : decE e (signs (percT (if un known then 0 else known.getD 0)) n 1).2 = if un known then (signs (percT 0) n 1).2 else (signs (percT (known.getD 0)) n 1).1 := by
  unfold decE
  rcases h with ⟨rfl, rfl⟩ | ⟨rfl, rfl⟩ | ⟨rfl, rfl⟩ | ⟨rfl, h⟩ | ⟨rfl, rfl⟩
  · rw [none_out]; rfl
  · rw [utf_in, if_pos rfl]
    obtain ⟨l, h1, _, h3⟩ := signs_sub percT0_ok n 1
    show unquoteT (signs percT0 n 1).2 (cp "utf-8") = (signs percT0 n 1).1
    rw [h3]; exact unq0 h1
  · rw [iso_in, if_pos rfl]
    obtain ⟨l, h1, _, h3⟩ := signs_sub percT1_ok n 1
    show unquoteT (signs percT1 n 1).2 (cp "iso-8859-1") = (signs percT1 n 1).1
    rw [h3]; exact unq1 h1
  · obtain ⟨l, h1, _, h3⟩ := signs_sub percT2_ok n 1
    have hin : decide (e ∈ encIn.map some) = true := by rcases h with rfl | rfl; exact usa_in; exact asc_in
    rw [hin, if_pos rfl]
    show unquoteT (signs percT2 n 1).2 _ = (signs percT2 n 1).1
    rw [h3]
    refine unq2 h1 ?_
    rcases h with rfl | rfl
    · exact .inl rfl
    · exact .inr rfl
  · rw [koi_out]; rfl

/-- the signs of what is written by percents -/
theorem perc_written (k n : Int) : (signs (percT k) n 1).2 ≠ [] ∧ ∀ c ∈ (signs (percT k) n 1).2, isK 27898 c = true ∧ isK 27770 c = true ∧ c ≠ 10 ∧ c ≠ 34 ∧ c < 128 := by
  obtain ⟨l, h1, h2, h3⟩ := signs_sub (percT_ok k) n 1
  have hsub : ∀ p ∈ percT k, p ∈ percT0 ++ percT1 ++ percT2 := by
    intro p hp
    unfold percT at hp
    simp only [List.mem_append]
    split at hp
    · exact .inl (.inl hp)
    · split at hp
      · exact .inl (.inr hp)
      · exact .inr hp
  rw [h3]
  constructor
  · intro e
    cases l with
    | nil => exact h2 (by decide) rfl
    | cons p l =>
      rw [List.flatMap_cons] at e
      exact (perc_signs p (hsub p (h1 p (by simp)))).1 (List.append_eq_nil_iff.mp e).1
  · intro c hc
    obtain ⟨p, hp, hq⟩ := List.mem_flatMap.mp hc
    exact (perc_signs p (hsub p (h1 p hp))).2 c hq

theorem tokensT_ok : ∀ t ∈ tokensT, t ≠ [] ∧ (∀ c ∈ t, isKey c = true ∧ c ≠ 10) ∧ repK [37, 50, 50] [34] 0 (uqT t) = t := by decide +kernel
theorem cpEqs : cp "=" = [61] ∧ cp "=\"" = [61, 34] ∧ cp "\"" = [34] ∧ cp "*=" = [42, 61] ∧ cp "*=KOI8-R''" = [42, 61] ++ ([75, 79, 73, 56, 45, 82] ++ 39 :: ([] ++ [39])) := by decide +kernel
theorem charsetsT_eq : charsetsT = [([85, 84, 70, 45, 56], 0), ([117, 116, 102, 45, 56], 0), ([73, 83, 79, 45, 56, 56, 53, 57, 45, 49], 1), ([117, 115, 45, 97, 115, 99, 105, 105], 2), ([65, 83, 67, 73, 73], 2)] := by decide +kernel
theorem langsT_mid : ∀ t ∈ langsT, ∃ B, t = 39 :: (B ++ [39]) ∧ B.length ≤ 10 ∧ ∀ c ∈ B, isK 27770 c = true ∧ c ≠ 10 ∧ isKey c = true := by
  have e : langsT = [39 :: ([] ++ [39]), 39 :: ([101, 110] ++ [39]), 39 :: ([120, 45, 121] ++ [39])] := by decide +kernel
  rw [e]
  intro t ht
  simp only [List.mem_cons, List.not_mem_nil, or_false] at ht
  rcases ht with rfl | rfl | rfl
  · exact ⟨[], rfl, by decide, fun _ h => nomatch h⟩
  · exact ⟨[101, 110], rfl, by decide, by decide +kernel⟩
  · exact ⟨[120, 45, 121], rfl, by decide, by decide +kernel⟩
/-- the charsets' names -/
theorem charset_facts : ∀ t ∈ charsetsT, (∀ c ∈ t.1, isK 27770 c = true ∧ c ≠ 10 ∧ isKey c = true) ∧ t.1.length ≤ 12 ∧ (lowerL t.1).isEmpty = false := by decide +kernel
theorem charset_rel : ∀ t ∈ charsetsT, encRel (some t.2) (some (lowerL t.1)) := by
  have h : ∀ t ∈ charsetsT, (t.2 = 0 ∧ lowerL t.1 = cp "utf-8") ∨ (t.2 = 1 ∧ lowerL t.1 = cp "iso-8859-1") ∨ (t.2 = 2 ∧ (lowerL t.1 = cp "us-ascii" ∨ lowerL t.1 = cp "ascii")) := by decide +kernel
  intro t ht
  rcases h t ht with ⟨h1, h2⟩ | ⟨h1, h2⟩ | ⟨h1, h2⟩
  · rw [h1, h2]; exact .inr (.inl ⟨rfl, rfl⟩)
  · rw [h1, h2]; exact .inr (.inr (.inl ⟨rfl, rfl⟩))
  · rw [h1]; refine .inr (.inr (.inr (.inl ⟨rfl, ?_⟩)))
    rcases h2 with h2 | h2 <;> rw [h2]
    · exact .inl rfl
    · exact .inr rfl
theorem koi_facts : (∀ c ∈ ([75, 79, 73, 56, 45, 82] : Tx), isK 27770 c = true ∧ c ≠ 10 ∧ isKey c = true) ∧ lowerL [75, 79, 73, 56, 45, 82] = cp "koi8-r" ∧ (cp "koi8-r").isEmpty = false := by decide +kernel
theorem key39 : isKey 39 = true := by decide +kernel

/-- with a charset's name -/
theorem part_named {A B C v : Tx} {known known' : Option Int} (hA : ∀ c ∈ A, isK 27770 c = true ∧ c ≠ 10 ∧ isKey c = true) (hB : ∀ c ∈ B, isK 27770 c = true ∧ c ≠ 10 ∧ isKey c = true) (hC : C ≠ [] ∧ ∀ c ∈ C, isK 27898 c = true ∧ isK 27770 c = true ∧ c ≠ 10 ∧ c ≠ 34 ∧ c < 128)
    (lA : A.length ≤ 12) (lB : B.length ≤ 10) (lC : C.length ≤ 50) (lv : v.length ≤ 100) (hne : (lowerL A).isEmpty = false) (hr : encRel known' (some (lowerL A))) (hd : decE (some (lowerL A)) C = v) : PartIs true (A ++ 39 :: (B ++ 39 :: C)) v known known' := by
  have hch := chsT_some (A := A) (B := B) (C := C) (fun c hc => (hA c hc).1) (fun c hc => (hB c hc).1)
  have hall : ∀ c ∈ A ++ 39 :: (B ++ 39 :: C), isKey c = true ∧ c ≠ 10 := by
    intro c hc
    simp only [List.mem_append, List.mem_cons] at hc
    rcases hc with hc | rfl | hc | rfl | hc
    · exact ⟨(hA c hc).2.2, (hA c hc).2.1⟩
    · exact ⟨key39, by decide⟩
    · exact ⟨(hB c hc).2.2, (hB c hc).2.1⟩
    · exact ⟨key39, by decide⟩
    · exact ⟨(hC.2 c hc).1, (hC.2 c hc).2.2.1⟩
  refine ⟨.inl ⟨fun c hc => (hall c hc).1, by simp⟩, by simp; omega, lv, fun c hc => (hall c hc).2, fun _ => .inr ⟨A, B, C, rfl, fun c hc => (hA c hc).1, fun c hc => (hB c hc).1, hC.1, fun c hc => (hC.2 c hc).1⟩, (fun h => nomatch h), fun _ encs base cont _ _ => ?_⟩
  have he : encP (A ++ 39 :: (B ++ 39 :: C)) = (some (lowerL A), C) := by unfold encP; rw [hch]
  have hf : encF encs base cont (encP (A ++ 39 :: (B ++ 39 :: C))).1 = some (lowerL A) := by
    rw [he]
    show (if ((lowerL A).isEmpty && cont) = true then dget encs base else some (lowerL A)) = _
    rw [if_neg (by rw [hne]; simp)]
  unfold decS
  rw [hf, he]
  exact ⟨hr, hd⟩
theorem part_spec (number : Int) {known : Option Int} (hk : knownOk known) : ∃ star pv, (lawPart number known).2.1 = (if star then [42, 61] else [61]) ++ pv ∧ PartIs star pv (lawPart number known).1 known (lawPart number known).2.2 := by
  have hpl := lawPart_len number known
  revert hpl
  unfold lawPart
  dsimp only
  have rr := fmod_range number (k := 5) (by decide)
  split
  · intro hpl
    have r6 := fmod_range (number.fdiv 5) (k := 6) (by decide)
    obtain ⟨t1, t2, t3⟩ := tokensT_ok _ (getD_mem tokensT [] ((number.fdiv 5).fmod 6).toNat (by show _ < 6; omega))
    have tl := tokensT_len _ (getD_mem tokensT [] ((number.fdiv 5).fmod 6).toNat (by show _ < 6; omega))
    refine ⟨false, tokensT.getD ((number.fdiv 5).fmod 6).toNat [], by rw [cpEqs.1]; rfl, .inl ⟨fun c hc => (t2 c hc).1, t1⟩, Nat.le_trans tl (by decide), Nat.le_trans tl (by decide), fun c hc => (t2 c hc).2, (fun h => nomatch h), fun _ => ⟨?_, rfl⟩, (fun h => nomatch h)⟩
    rw [decQ_eq]; exact t3
  · split
    · intro hpl
      obtain ⟨l, h1, _, h3⟩ := signs_sub quotedT_ok (number.fdiv 5) 0
      have sl := signs_len quotedT_ok (number.fdiv 5) 0 (by decide) (by decide)
      rw [h3] at sl ⊢
      refine ⟨false, 34 :: (l.flatMap (·.2) ++ [34]), ?_, .inr ⟨_, rfl, closeQ_body l h1⟩, ?_, Nat.le_trans sl.1 (by decide), ?_, (fun h => nomatch h), fun _ => ⟨decQ_body h1, rfl⟩, (fun h => nomatch h)⟩
      · rw [cpEqs.2.1, cpEqs.2.2.1]; simp
      · have := sl.2
        rw [List.length_cons, List.length_append, List.length_singleton]
        exact Nat.le_trans (Nat.add_le_add_right (Nat.add_le_add_right this 1) 1) (by decide)
      · intro c hc q
        subst q
        simp only [List.mem_cons, List.mem_append, List.not_mem_nil, or_false] at hc
        rcases hc with hc | hc | hc
        · cases hc
        · exact body_nl h1 hc
        · cases hc
    · split
      · intro hpl
        have pw := perc_written (if un known then 0 else known.getD 0) (number.fdiv 5)
        have sl := signs_len (percT_ok (if un known then 0 else known.getD 0)) (number.fdiv 5) 1 (by decide) (by decide)
        refine ⟨true, (signs (percT (if un known then 0 else known.getD 0)) (number.fdiv 5) 1).2, by rw [cpEqs.2.2.2.1]; rfl, .inl ⟨fun c hc => (pw.2 c hc).1, pw.1⟩, Nat.le_trans sl.2 (by decide), Nat.le_trans hpl.1 (by decide), fun c hc => (pw.2 c hc).2.2.1, fun _ => .inl fun c hc => (pw.2 c hc).2.1, (fun h => nomatch h), fun _ encs base cont he hc => ?_⟩
        have hch := chsT_none (pv := (signs (percT (if un known then 0 else known.getD 0)) (number.fdiv 5) 1).2) fun c hc => (pw.2 c hc).2.1
        have hep : encP (signs (percT (if un known then 0 else known.getD 0)) (number.fdiv 5) 1).2 = (none, (signs (percT (if un known then 0 else known.getD 0)) (number.fdiv 5) 1).2) := by unfold encP; rw [hch]
        have hrel : encRel known (encF encs base cont none) := by
          unfold encF isEmptyO
          cases cont with
          | true => exact he rfl
          | false => rw [hc rfl]; exact .inl ⟨rfl, rfl⟩
        unfold decS
        rw [hep]
        exact ⟨hrel, decE_spec hrel _⟩
      · split
        · intro hpl
          have pw := perc_written 0 (number.fdiv 5)
          have sl := signs_len (percT_ok 0) (number.fdiv 5) 1 (by decide) (by decide)
          refine ⟨true, [75, 79, 73, 56, 45, 82] ++ 39 :: ([] ++ 39 :: (signs (percT 0) (number.fdiv 5) 1).2), by rw [cpEqs.2.2.2.2]; simp, part_named koi_facts.1 (fun _ h => nomatch h) pw (by decide) (by decide) (Nat.le_trans sl.2 (by decide)) (Nat.le_trans sl.2 (by decide)) (by rw [koi_facts.2.1]; exact koi_facts.2.2) (by rw [koi_facts.2.1]; exact .inr (.inr (.inr (.inr ⟨rfl, rfl⟩)))) ?_⟩
          rw [koi_facts.2.1]; unfold decE; rw [koi_out]; rfl
        · intro hpl
          have rc := fmod_range (number.fdiv 5) (k := 5) (by decide)
          have rl := fmod_range ((number.fdiv 5).fdiv 5) (k := 3) (by decide)
          have hcm := getD_mem charsetsT ([], 0) ((number.fdiv 5).fmod 5).toNat (by show _ < 5; omega)
          have hlm := getD_mem langsT [] (((number.fdiv 5).fdiv 5).fmod 3).toNat (by show _ < 3; omega)
          obtain ⟨c1, c2, c3⟩ := charset_facts _ hcm
          have c4 := charset_rel _ hcm
          obtain ⟨B, l1, l2, l3⟩ := langsT_mid _ hlm
          have ck := (charsetsT_len _ hcm).2
          generalize charsetsT.getD ((number.fdiv 5).fmod 5).toNat ([], 0) = C at *
          have pw := perc_written C.2 ((number.fdiv 5).fdiv 15)
          have sl := signs_len (percT_ok C.2) ((number.fdiv 5).fdiv 15) 1 (by decide) (by decide)
          have ds := decE_spec c4 ((number.fdiv 5).fdiv 15)
          have hun : un (some C.2) = false := by rcases ck with h | h | h <;> rw [h] <;> rfl
          rw [hun] at ds
          refine ⟨true, C.1 ++ 39 :: (B ++ 39 :: (signs (percT C.2) ((number.fdiv 5).fdiv 15) 1).2), by rw [cpEqs.2.2.2.1, l1]; simp, part_named c1 l3 pw c2 l2 (Nat.le_trans sl.2 (by decide)) (Nat.le_trans sl.1 (by decide)) c3 c4 ds⟩
end
end Mine
end
section
open PySem PySem.Builtin
set_option linter.all false
namespace Mine
noncomputable section

def keyK (nm : Tx) (mark : Option Nat) (star : Bool) : Tx := nm ++ (match mark with
  | none => []
  | some d => [42, 48 + d]) ++ (if star then [42] else [])
def nmForms : List Tx := namesT ++ namesT.map upperL
def keyFine (K base : Tx) (cont star : Bool) : Bool := K.all isKey && !K.isEmpty && decide (lowerL K ∈ NM) && (mkStar (lowerL K) == star) && (mkCont (lowerL K) == cont) && (mkBase (lowerL K) == base) && decide (K.length ≤ 20) && !(isBl (K.getD 0 0))
structure keyIs (K base : Tx) (cont star : Bool) : Prop where
  all : ∀ c ∈ K, isKey c = true
  ne : K ≠ []
  nm : lowerL K ∈ NM
  st : mkStar (lowerL K) = star
  ct : mkCont (lowerL K) = cont
  bs : mkBase (lowerL K) = base
  len : K.length ≤ 20
  hd : ∀ c t, K = c :: t → isBl c = false
theorem keyIs.of {K base : Tx} {cont star : Bool} (h : keyFine K base cont star = true) : keyIs K base cont star := by
  unfold keyFine at h
  simp only [Bool.and_eq_true, beq_iff_eq, decide_eq_true_eq, Bool.not_eq_true', List.all_eq_true] at h
  obtain ⟨⟨⟨⟨⟨⟨⟨h1, h2⟩, h3⟩, h4⟩, h5⟩, h6⟩, h7⟩, h8⟩ := h
  refine ⟨h1, ?_, h3, h4, h5, h6, h7, ?_⟩
  · intro q; rw [q] at h2; cases h2
  · intro c t q; rw [q] at h8; exact h8
def keysAll : Bool := nmForms.all fun nm => [none, some 0, some 1, some 2, some 3].all fun mark => [true, false].all fun star => keyFine (keyK nm mark star) (lowerL nm) mark.isSome star
theorem keys_all : keysAll = true := by decide +kernel
theorem key_base {nm : Tx} (hn : nm ∈ nmForms) {mark : Option Nat} (hm : ∀ d, mark = some d → d < 4) (star : Bool) : keyIs (keyK nm mark star) (lowerL nm) mark.isSome star := by
  refine .of ?_
  have h := List.all_eq_true.mp keys_all nm hn
  have hmm : mark ∈ [none, some 0, some 1, some 2, some 3] := by
    cases mark with
    | none => simp
    | some d =>
      have := hm d rfl
      match d, this with
      | 0, _ => simp
      | 1, _ => simp
      | 2, _ => simp
      | 3, _ => simp
  have h2 := List.all_eq_true.mp h mark hmm
  exact List.all_eq_true.mp h2 star (by cases star <;> simp)
theorem forms_low : ∀ n ∈ namesT, lowerL (upperL n) = lowerL n := by decide +kernel
def optsAll : Bool := optNames.all fun nm => [0, 1, 2, 3, 4, 5, 6, 7].all fun d => [true, false].all fun star => keyFine (nm ++ [48 + d] ++ (if star then [42] else [])) (nm ++ [48 + d]) false star
theorem opts_all : optsAll = true := by decide +kernel
theorem key_opt {nm : Tx} (hn : nm ∈ optNames) {d : Nat} (hd : d < 8) (star : Bool) : keyIs (nm ++ [48 + d] ++ (if star then [42] else [])) (nm ++ [48 + d]) false star := by
  refine .of ?_
  have h := List.all_eq_true.mp opts_all nm hn
  have hmm : d ∈ [0, 1, 2, 3, 4, 5, 6, 7] := by
    match d, hd with
    | 0, _ => simp
    | 1, _ => simp
    | 2, _ => simp
    | 3, _ => simp
    | 4, _ => simp
    | 5, _ => simp
    | 6, _ => simp
    | 7, _ => simp
  have h2 := List.all_eq_true.mp h d hmm
  exact List.all_eq_true.mp h2 star (by cases star <;> simp)
theorem natTx_eq {d : Nat} (h : d < 10) : natTx d = [48 + d] := by
  have : ∀ k : Fin 10, natTx k = [48 + k.val] := by decide +kernel
  exact this ⟨d, h⟩

/-- a piece: a key and a value -/
theorem seg_part {K base pv : Tx} {cont star : Bool} (hK : keyIs K base cont star) (hp : pvOk pv) : segOk (K ++ 61 :: pv) [(lowerL K, pv)] ∧ hdOk (K ++ 61 :: pv) := by
  constructor
  · rcases hp with ⟨h1, h2⟩ | ⟨body, rfl, h⟩
    · exact seg_tok hK.all hK.ne h1 h2
    · exact seg_quote hK.all hK.ne h
  · intro c t e
    cases hk : K with
    | nil => exact absurd hk hK.ne
    | cons a r =>
      rw [hk, List.cons_append] at e
      cases e
      exact hK.hd c r hk
theorem okPart_of {K base pv v : Tx} {cont star : Bool} {known known' : Option Int} (hK : keyIs K base cont star) (hp : PartIs star pv v known known') : okPart (lowerL K, pv) := by
  refine ⟨hK.nm, Nat.le_trans hp.len (by decide), hp.nl, fun h => hp.st (by rw [← hK.st]; exact h), fun h => ?_⟩
  show (decQ pv).length ≤ _
  rw [(hp.q (by rw [← hK.st]; exact h)).1]
  exact Nat.le_trans hp.vlen (by decide)
end
end Mine
end
section
open PySem PySem.Builtin
set_option linter.all false
namespace Mine
noncomputable section

/-- the keys of a dict stand once -/
def ndK {α : Type} (l : List (Tx × α)) : Prop := (l.map (·.1)).Nodup
theorem dget_cons {α : Type} (p : Tx × α) (l : List (Tx × α)) (k : Tx) : dget (p :: l) k = if p.1 = k then some p.2 else dget l k := by
  unfold dget
  rw [List.find?_cons]
  by_cases h : p.1 = k
  · rw [if_pos h, beq_iff_eq.mpr h]; rfl
  · rw [if_neg h, beq_eq_false_iff_ne.mpr h]
theorem dget_append {α : Type} (l l' : List (Tx × α)) (k : Tx) : dget (l ++ l') k = (dget l k).or (dget l' k) := by
  induction l with
  | nil => rfl
  | cons p l ih =>
    rw [List.cons_append, dget_cons, dget_cons, ih]
    split <;> rfl
theorem dget_set {α : Type} (l : List (Tx × α)) (k k' : Tx) (v : α) : dget (dset l k v) k' = if k' = k then some v else dget l k' := by
  unfold dset
  by_cases h : (l.any fun p => p.1 == k) = true
  · rw [if_pos h]
    obtain ⟨q, hq, e⟩ := List.any_eq_true.mp h
    rw [beq_iff_eq] at e
    have key : ∀ (l : List (Tx × α)), (k' ≠ k → dget (l.map fun p => if p.1 == k then (p.1, v) else p) k' = dget l k') ∧ (k' = k → (∃ q ∈ l, q.1 = k) → dget (l.map fun p => if p.1 == k then (p.1, v) else p) k' = some v) := by
      intro l
      induction l with
      | nil => exact ⟨fun _ => rfl, fun _ ⟨_, h, _⟩ => nomatch h⟩
      | cons p l ih =>
        rw [List.map_cons]
        by_cases hp : p.1 = k
        · have e1 : (if (p.1 == k) = true then (p.1, v) else p) = (p.1, v) := if_pos (beq_iff_eq.mpr hp)
          rw [e1, dget_cons, dget_cons]
          refine ⟨fun hn => ?_, fun he _ => if_pos (hp.trans he.symm)⟩
          rw [if_neg (fun q => hn (q.symm.trans hp)), if_neg (fun q => hn (q.symm.trans hp))]
          exact ih.1 hn
        · have e1 : (if (p.1 == k) = true then (p.1, v) else p) = p := if_neg (by rw [beq_iff_eq]; exact hp)
          rw [e1, dget_cons, dget_cons]
          refine ⟨fun hn => by rw [ih.1 hn], fun he ⟨q, hq, e⟩ => ?_⟩
          rw [if_neg (fun q => hp (q.trans he))]
          rcases List.mem_cons.mp hq with rfl | hq
          · exact absurd e hp
          · exact ih.2 he ⟨q, hq, e⟩
    split
    · exact (key l).2 ‹_› ⟨q, hq, e⟩
    · exact (key l).1 ‹_›
  · rw [if_neg h, dget_append, dget_cons]
    have hk : dget l k = none := by
      rw [dget_none_iff]
      intro hm
      obtain ⟨q, hq, e⟩ := List.mem_map.mp hm
      exact h (List.any_eq_true.mpr ⟨q, hq, beq_iff_eq.mpr e⟩)
    by_cases he : k' = k
    · subst he; rw [hk, if_pos rfl, if_pos rfl]; rfl
    · rw [if_neg (fun q => he q.symm), if_neg he]
      show (dget l k').or none = _
      rw [Option.or_none]
theorem dget_del {α : Type} (l : List (Tx × α)) (k k' : Tx) : dget (ddel l k) k' = if k' = k then none else dget l k' := by
  unfold ddel
  induction l with
  | nil => split <;> rfl
  | cons p l ih =>
    rw [List.filter_cons, dget_cons]
    by_cases hp : p.1 = k
    · rw [if_neg (by simp [hp]), ih]
      by_cases he : k' = k
      · rw [if_pos he, if_pos he]
      · rw [if_neg he, if_neg he, if_neg (fun q => he (q.symm.trans hp))]
    · rw [if_pos (by simpa using hp), dget_cons, ih]
      by_cases he : k' = k
      · rw [if_pos he, if_pos he, if_neg (fun q => hp (q.trans he))]
      · rw [if_neg he, if_neg he]
theorem nd_set {α : Type} {l : List (Tx × α)} (h : ndK l) (k : Tx) (v : α) : ndK (dset l k v) := by
  unfold ndK dset at *
  split
  · rw [List.map_map]
    have : (l.map ((fun x => x.1) ∘ fun p => if (p.1 == k) = true then (p.1, v) else p)) = l.map (·.1) := by
      refine List.map_congr_left fun p _ => ?_
      simp only [Function.comp]; split <;> rfl
    rw [this]; exact h
  · rename_i hn
    rw [List.map_append]
    refine List.nodup_append.mpr ⟨h, by simp, ?_⟩
    intro a ha b hb
    simp only [List.map_cons, List.map_nil, List.mem_singleton] at hb
    subst hb
    rintro rfl
    obtain ⟨q, hq, e⟩ := List.mem_map.mp ha
    exact hn (List.any_eq_true.mpr ⟨q, hq, beq_iff_eq.mpr e⟩)
theorem nd_del {α : Type} {l : List (Tx × α)} (h : ndK l) (k : Tx) : ndK (ddel l k) := by
  unfold ndK ddel at *
  exact List.Nodup.sublist (List.Sublist.map _ List.filter_sublist) h
theorem nd_get {α : Type} {l : List (Tx × α)} (h : ndK l) {p : Tx × α} (hp : p ∈ l) : dget l p.1 = some p.2 := by
  obtain ⟨i, hi⟩ := List.getElem?_of_mem hp
  exact dget_of_nodup h hi
theorem nodup_sub_len : ∀ {l l' : List Tx}, l.Nodup → (∀ a ∈ l, a ∈ l') → l.length ≤ l'.length
  | [], l', _, _ => Nat.zero_le _
  | a :: l, l', hn, hs => by
    have ha := hs a (by simp)
    rw [List.nodup_cons] at hn
    have ih := nodup_sub_len (l' := l'.erase a) hn.2 fun b hb => by
      have hne : b ≠ a := fun q => hn.1 (q ▸ hb)
      exact (List.mem_erase_of_ne hne).mpr (hs b (by simp [hb]))
    have hl := List.length_erase_of_mem ha
    have hp : 0 < l'.length := List.length_pos_of_mem ha
    rw [List.length_cons]
    omega
theorem sameD_of {d e : List (Tx × Tx)} (hd : ndK d) (he : ndK e) (h : ∀ k, dget d k = dget e k) : sameD d e := by
  have sub : ∀ {d e : List (Tx × Tx)}, (∀ k, dget d k = dget e k) → ∀ a ∈ d.map (·.1), a ∈ e.map (·.1) := by
    intro d e h a ha
    have h1 : dget d a ≠ none := fun q => by rw [dget_none_iff] at q; exact q ha
    rw [h a] at h1
    exact Classical.byContradiction fun hn => h1 ((dget_none_iff e a).mpr hn)
  have l1 := nodup_sub_len hd (sub h)
  have l2 := nodup_sub_len he (sub fun k => (h k).symm)
  rw [List.length_map, List.length_map] at l1 l2
  exact ⟨Nat.le_antisymm l1 l2, fun p hp => by rw [← h]; exact nd_get hd hp⟩
theorem dget_merge : ∀ (more d : List (Tx × Tx)) (k : Tx), ndK more → dget (more.foldl (fun d p => dset d p.1 p.2) d) k = (dget more k).or (dget d k)
  | [], d, k, _ => rfl
  | p :: more, d, k, h => by
    unfold ndK at h
    rw [List.map_cons, List.nodup_cons] at h
    rw [List.foldl_cons, dget_merge more (dset d p.1 p.2) k h.2, dget_cons, dget_set]
    by_cases hk : p.1 = k
    · subst hk
      rw [if_pos rfl, if_pos rfl, (dget_none_iff more p.1).mpr h.1]; rfl
    · rw [if_neg (fun q => hk q.symm), if_neg hk]
theorem nd_merge : ∀ (more d : List (Tx × Tx)), ndK d → ndK (more.foldl (fun d p => dset d p.1 p.2) d)
  | [], d, h => h
  | p :: more, d, h => by rw [List.foldl_cons]; exact nd_merge more _ (nd_set h _ _)
theorem dget_capp (cs : List (Tx × List Tx)) (k k' v : Tx) : (dget (capp cs k v) k').map (·.flatten) = if k' = k then some (((dget cs k).map (·.flatten)).getD [] ++ v) else (dget cs k').map (·.flatten) := by
  unfold capp
  cases h : dget cs k with
  | none =>
    dsimp only
    rw [dget_set]
    split
    · simp
    · rfl
  | some l =>
    dsimp only
    rw [dget_set]
    split
    · simp
    · rfl
theorem nd_capp {cs : List (Tx × List Tx)} (h : ndK cs) (k v : Tx) : ndK (capp cs k v) := by
  unfold capp
  split <;> exact nd_set h _ _
theorem capp_some (cs : List (Tx × List Tx)) (k k' v : Tx) : (dget (capp cs k v) k') = none ↔ k' ≠ k ∧ dget cs k' = none := by
  have := dget_capp cs k k' v
  constructor
  · intro h
    rw [h] at this
    by_cases hk : k' = k
    · rw [if_pos hk] at this; cases this
    · rw [if_neg hk] at this
      exact ⟨hk, by cases h2 : dget cs k' with | none => rfl | some l => rw [h2] at this; cases this⟩
  · rintro ⟨h1, h2⟩
    rw [if_neg h1, h2] at this
    cases h3 : dget (capp cs k v) k' with
    | none => rfl
    | some l => rw [h3] at this; cases this

/-- what the law holds and what the parser holds -/
structure Inv (s : RS) (q : PS) : Prop where
  n1 : ndK s.plain
  n2 : ndK s.parted
  n4 : ndK q.opts
  n5 : ndK q.cs
  o : ∀ k, dget q.opts k = dget s.plain k
  c : ∀ k, (dget q.cs k).map (·.flatten) = dget s.parted k
  e : ∀ k, encRel ((dget s.codes k).getD none) (dget q.encs k)
  kn : s.codes.map (·.1) = s.parted.map (·.1)
theorem inv0 : Inv ⟨[], [], [], []⟩ ⟨[], [], []⟩ := ⟨.nil, .nil, .nil, .nil, fun _ => rfl, fun _ => rfl, fun _ => .inl ⟨rfl, rfl⟩, rfl⟩
theorem inv_end {s : RS} {q : PS} (h : Inv s q) : sameD (finP q) (merge s.plain s.parted) := by
  unfold finP merge dmerge
  have n6 : ndK (q.cs.map fun c => (c.1, c.2.flatten)) := by
    unfold ndK
    rw [List.map_map]; exact h.n5
  refine sameD_of (nd_merge _ _ h.n4) (nd_merge _ _ h.n1) fun k => ?_
  rw [dget_merge _ _ _ n6, dget_merge _ _ _ h.n2, h.o k, ← h.c k]
  rw [dget_mapV (fun l : List Tx => l.flatten) q.cs k]
end
end Mine
end
section
open PySem PySem.Builtin
set_option linter.all false
namespace Mine
noncomputable section

theorem part_dec {K base pv v : Tx} {cont star : Bool} {known known' : Option Int} (hK : keyIs K base cont star) (hp : PartIs star pv v known known') (encs : List (Tx × Tx)) (h1 : cont = true → encRel known (dget encs base)) (h2 : cont = false → known = none) :
    (decP encs (lowerL K, pv)).2 = v ∧ (cont = true → encRel known' (if isEmptyO (decP encs (lowerL K, pv)).1 then dget encs base else (decP encs (lowerL K, pv)).1)) := by
  have hd : decP encs (lowerL K, pv) = if star then decS encs base cont pv else (none, decQ pv) := by
    unfold decP
    dsimp only
    rw [hK.st, hK.bs, hK.ct]
  rw [hd]
  cases star with
  | true =>
    rw [if_pos rfl]
    obtain ⟨r1, r2⟩ := hp.d rfl encs base cont h1 h2
    refine ⟨r2, fun hc => ?_⟩
    subst hc
    by_cases hE : isEmptyO (decS encs base true pv).1 = true
    · rw [if_pos hE]
      have e1 : (decS encs base true pv).1 = encF encs base true (encP pv).1 := rfl
      rw [e1] at r1 hE
      unfold encF at r1 hE
      rw [Bool.and_true] at r1 hE
      by_cases he : isEmptyO (encP pv).1 = true
      · rw [if_pos he] at r1; exact r1
      · rw [if_neg he] at hE; exact absurd hE he
    · rw [if_neg hE]; exact r1
  | false =>
    rw [if_neg (by decide)]
    obtain ⟨q1, q2⟩ := hp.q rfl
    refine ⟨q1, fun hc => ?_⟩
    show encRel known' (if isEmptyO none = true then dget encs base else none)
    rw [if_pos (show isEmptyO none = true from rfl), q2]
    exact h1 hc

theorem step_single {K base pv v : Tx} {star : Bool} {known' : Option Int} (hK : keyIs K base false star) (hp : PartIs star pv v none known') (q : PS) :
    stepP q (lowerL K, pv) = ⟨dset q.opts base v, ddel q.cs base, if (dget q.cs base).isSome then ddel q.encs base else q.encs⟩ := by
  have h := (part_dec hK hp q.encs (fun h => nomatch h) fun _ => rfl).1
  unfold stepP
  dsimp only
  rw [h, hK.bs, hK.ct]; rfl
theorem step_cont {K base pv v : Tx} {star : Bool} {known known' : Option Int} (hK : keyIs K base true star) (hp : PartIs star pv v known known') (q : PS) (he : encRel known (dget q.encs base)) :
    ∃ encs', stepP q (lowerL K, pv) = ⟨ddel q.opts base, capp q.cs base v, encs'⟩ ∧ encRel known' (dget encs' base) ∧ ∀ k, k ≠ base → dget encs' k = dget q.encs k := by
  obtain ⟨h1, h2⟩ := part_dec hK hp q.encs (fun _ => he) (fun h => nomatch h)
  have h2 := h2 rfl
  refine ⟨if isEmptyO (decP q.encs (lowerL K, pv)).1 then q.encs else dset q.encs base ((decP q.encs (lowerL K, pv)).1.getD []), ?_, ?_, ?_⟩
  · unfold stepP
    dsimp only
    rw [h1, hK.bs, hK.ct]; rfl
  · revert h2
    cases hd : (decP q.encs (lowerL K, pv)).1 with
    | none => exact fun h2 => h2
    | some l =>
      by_cases hE : isEmptyO (some l) = true
      · rw [if_pos hE, if_pos hE]; exact fun h => h
      · rw [if_neg hE, if_neg hE, dget_set, if_pos rfl]; exact fun h => h
  · intro k hk
    split
    · rfl
    · rw [dget_set, if_neg hk]

theorem inv_single {s : RS} {q : PS} (h : Inv s q) (t low v : Tx) : Inv ⟨t, dset (ddel s.plain low) low v, ddel s.parted low, ddel s.codes low⟩ ⟨dset q.opts low v, ddel q.cs low, if (dget q.cs low).isSome then ddel q.encs low else q.encs⟩ := by
  refine ⟨nd_set (nd_del h.n1 _) _ _, nd_del h.n2 _, nd_set h.n4 _ _, nd_del h.n5 _, fun k => ?_, fun k => ?_, fun k => ?_, ddel_keys _ _ _ h.kn⟩
  · dsimp only
    rw [dget_set, dget_set, dget_del, h.o]
    by_cases hk : k = low
    · rw [if_pos hk, if_pos hk]
    · rw [if_neg hk, if_neg hk, if_neg hk]
  · dsimp only
    rw [dget_del, dget_del, ← h.c k]
    by_cases hk : k = low
    · rw [if_pos hk, if_pos hk]; rfl
    · rw [if_neg hk, if_neg hk]
  · dsimp only
    rw [dget_del]
    by_cases hk : k = low
    · subst hk
      rw [if_pos rfl]
      refine .inl ⟨rfl, ?_⟩
      cases hc : dget q.cs k with
      | some l => rw [Option.isSome_some, if_pos rfl, dget_del, if_pos rfl]
      | none =>
        rw [Option.isSome_none, if_neg (by decide)]
        have h1 : dget s.parted k = none := by rw [← h.c k, hc]; rfl
        have h2 : dget s.codes k = none := by
          have := dget_isSome_keys s.codes s.parted k h.kn
          rw [h1] at this
          cases hq : dget s.codes k with
          | none => rfl
          | some x => rw [hq] at this; cases this
        have h3 := h.e k
        rw [h2] at h3
        rcases h3 with ⟨_, h3⟩ | ⟨h3, _⟩ | ⟨h3, _⟩ | ⟨h3, _⟩ | ⟨h3, _⟩
        · exact h3
        all_goals cases h3
    · rw [if_neg hk]
      have h3 := h.e k
      split
      · rw [dget_del, if_neg hk]; exact h3
      · exact h3

/-- between the parts of a continued one -/
structure Mid (s : RS) (q : PS) (low : Tx) (k : Nat) (whole : Tx) (known : Option Int) (q' : PS) : Prop where
  n4 : ndK q'.opts
  n5 : ndK q'.cs
  o : ∀ k', k' ≠ low → dget q'.opts k' = dget q.opts k'
  o1 : 0 < k → dget q'.opts low = none
  c : ∀ k', k' ≠ low → (dget q'.cs k').map (·.flatten) = (dget q.cs k').map (·.flatten)
  c1 : ((dget q'.cs low).map (·.flatten)).getD [] = joined s.parted low whole
  c2 : 0 < k → dget q'.cs low ≠ none
  e : ∀ k', k' ≠ low → dget q'.encs k' = dget q.encs k'
  e1 : encRel known (dget q'.encs low)
theorem joined_app (d : List (Tx × Tx)) (k a b : Tx) : joined d k (a ++ b) = joined d k a ++ b := by
  unfold joined
  split
  · rw [List.append_assoc]
  · rfl
theorem mid0 {s : RS} {q : PS} (h : Inv s q) (low : Tx) : Mid s q low 0 [] ((dget s.codes low).getD none) q := by
  refine ⟨h.n4, h.n5, fun _ _ => rfl, (fun h => nomatch h), fun _ _ => rfl, ?_, (fun h => nomatch h), fun _ _ => rfl, h.e low⟩
  rw [h.c low]
  unfold joined
  cases dget s.parted low with
  | none => rfl
  | some w => exact (List.append_nil w).symm
theorem mid_step {s : RS} {q q' : PS} {low whole : Tx} {k : Nat} {known known' : Option Int} (M : Mid s q low k whole known q') {K pv v : Tx} {star : Bool} (hK : keyIs K low true star) (hp : PartIs star pv v known known') : Mid s q low (k + 1) (whole ++ v) known' (stepP q' (lowerL K, pv)) := by
  obtain ⟨encs', h1, h2, h3⟩ := step_cont hK hp q' M.e1
  rw [h1]
  refine ⟨nd_del M.n4 _, nd_capp M.n5 _ _, fun k' hk => ?_, fun _ => ?_, fun k' hk => ?_, ?_, fun _ => ?_, fun k' hk => ?_, h2⟩
  · dsimp only; rw [dget_del, if_neg hk]; exact M.o k' hk
  · dsimp only; rw [dget_del, if_pos rfl]
  · dsimp only; rw [dget_capp, if_neg hk]; exact M.c k' hk
  · dsimp only; rw [dget_capp, if_pos rfl, Option.getD_some, M.c1, joined_app]
  · dsimp only; intro q; exact ((capp_some _ _ _ _).mp q).1 rfl
  · rw [h3 k' hk]; exact M.e k' hk
theorem mid_end {s : RS} {q q' : PS} (h : Inv s q) {low whole : Tx} {k : Nat} {known : Option Int} (M : Mid s q low k whole known q') (hk : 0 < k) (t : Tx) : Inv ⟨t, ddel s.plain low, dset s.parted low (joined s.parted low whole), dset s.codes low known⟩ q' := by
  refine ⟨nd_del h.n1 _, nd_set h.n2 _ _, M.n4, M.n5, fun k' => ?_, fun k' => ?_, fun k' => ?_, dset_keys _ _ _ _ _ h.kn⟩
  · dsimp only
    rw [dget_del]
    by_cases hq : k' = low
    · rw [if_pos hq, hq]; exact M.o1 hk
    · rw [if_neg hq, M.o k' hq]; exact h.o k'
  · dsimp only
    rw [dget_set]
    by_cases hq : k' = low
    · rw [if_pos hq, hq, ← M.c1]
      have := M.c2 hk
      cases hx : dget q'.cs low with
      | none => exact absurd hx this
      | some l => rfl
    · rw [if_neg hq, M.c k' hq]; exact h.c k'
  · dsimp only
    rw [dget_set]
    by_cases hq : k' = low
    · rw [if_pos hq, hq]; exact M.e1
    · rw [if_neg hq, M.e k' hq]; exact h.e k'
end
end Mine
end
section
open PySem PySem.Builtin
set_option linter.all false
namespace Mine
noncomputable section

theorem seps_ok : ∀ t ∈ sepsT, delimOk t := by
  have e : sepsT = [[] ++ 59 :: [], [] ++ 59 :: [32], [32] ++ 59 :: [9]] := by decide +kernel
  rw [e]
  intro t ht
  simp only [List.mem_cons, List.not_mem_nil, or_false] at ht
  rcases ht with rfl | rfl | rfl
  · exact ⟨[], [], rfl, by decide, by decide, by decide⟩
  · exact ⟨[], [32], rfl, by decide, by decide, by decide⟩
  · exact ⟨[32], [9], rfl, by decide, by decide, by decide⟩
theorem cpMid : cp " ; " = [32, 59, 32] ∧ cp "*" = [42] := by decide +kernel
theorem mid_delim : delimOk (cp " ; ") := by
  rw [cpMid.1]
  exact ⟨[32], [32], rfl, by decide, by decide, by decide⟩
theorem encRel.ok {known : Option Int} {e : Option Tx} (h : encRel known e) : knownOk known := by
  rcases h with ⟨h, _⟩ | ⟨h, _⟩ | ⟨h, _⟩ | ⟨h, _⟩ | ⟨h, _⟩
  · exact .inl h
  · exact .inr (.inl h)
  · exact .inr (.inr (.inl h))
  · exact .inr (.inr (.inr (.inl h)))
  · exact .inr (.inr (.inr (.inr h)))
theorem pcT_snoc (l : List Pc) (p : Pc) : pcT (l ++ [p]) = pcT l ++ (p.d ++ p.w) := by unfold pcT; simp
theorem pcP_snoc (l : List Pc) (p : Pc) : pcP (l ++ [p]) = pcP l ++ p.ps := by unfold pcP; simp
theorem pcT_app (l l' : List Pc) : pcT (l ++ l') = pcT l ++ pcT l' := by unfold pcT; simp
theorem pcP_app (l l' : List Pc) : pcP (l ++ l') = pcP l ++ pcP l' := by unfold pcP; simp

theorem name_form {name : Tx} (h : name ∈ namesT) : name ∈ nmForms := List.mem_append_left _ h
theorem name_formU {name : Tx} (h : name ∈ namesT) : upperL name ∈ nmForms := List.mem_append_right _ (List.mem_map_of_mem h)

theorem cont_pieces {s : RS} {q : PS} (h : Inv s q) {name : Tx} (hn : name ∈ namesT) (n : Int) {sep : Tx} (hs : delimOk sep) : ∀ k, k ≤ 4 → ∃ l : List Pc, (0 < k → l ≠ []) ∧ (∀ p ∈ l, p.ok) ∧ pcT l = (if k = 0 then [] else sep) ++ (paramFold n name ((dget s.codes (lowerL name)).getD none) k).2.1 ∧ (∀ w ∈ pcP l, okPart w) ∧ (pcP l).length = k ∧
    Mid s q (lowerL name) k (paramFold n name ((dget s.codes (lowerL name)).getD none) k).1 (paramFold n name ((dget s.codes (lowerL name)).getD none) k).2.2 ((pcP l).foldl stepP q)
  | 0, _ => ⟨[], (fun h => nomatch h), (fun _ h => nomatch h), rfl, (fun _ h => nomatch h), rfl, mid0 h _⟩
  | k + 1, hk => by
    obtain ⟨l, l1, l2, l3, l4, l5, M⟩ := cont_pieces h hn n hs k (by omega)
    have hko := M.e1.ok
    obtain ⟨star, pv, w1, w2⟩ := part_spec (n.fdiv (3 ^ (k + 1)) + 7 * (k : Int)) hko
    have hK := key_base (name_form hn) (mark := some k) (fun d e => by cases e; omega) star
    have sg := seg_part hK w2.pok
    refine ⟨l ++ [⟨if k = 0 then sep else cp " ; ", keyK name (some k) star ++ 61 :: pv, [(lowerL (keyK name (some k) star), pv)]⟩], (fun _ => by simp), ?_, ?_, ?_, ?_, ?_⟩
    · intro p hp
      rcases List.mem_append.mp hp with hp | hp
      · exact l2 p hp
      · rw [List.mem_singleton] at hp; subst hp
        refine ⟨?_, sg.2, sg.1⟩
        dsimp only
        split
        · exact hs
        · exact mid_delim
    · rw [pcT_snoc, l3, paramFold, w1, if_neg (Nat.succ_ne_zero k), natTx_eq (by omega), cpMid.2]
      dsimp only
      unfold keyK
      dsimp only
      have e0 : ((if k = 0 then [] else sep) ++ (paramFold n name ((dget s.codes (lowerL name)).getD none) k).2.1 ++ (if k = 0 then sep else cp " ; ")) = sep ++ ((paramFold n name ((dget s.codes (lowerL name)).getD none) k).2.1 ++ if 0 < k then cp " ; " else []) := by
        by_cases hk0 : k = 0
        · subst hk0; simp [paramFold]
        · rw [if_neg hk0, if_neg hk0, if_pos (by omega), List.append_assoc]
      rw [← List.append_assoc, e0]
      cases star <;> simp
    · intro w hw
      rw [pcP_snoc] at hw
      rcases List.mem_append.mp hw with hw | hw
      · exact l4 w hw
      · rw [List.mem_singleton] at hw; subst hw; exact okPart_of hK w2
    · rw [pcP_snoc, List.length_append, l5]; rfl
    · rw [pcP_snoc, List.foldl_append]
      exact mid_step M hK w2

/-- one number: pieces, and what the law and the parser hold behind them -/
theorem inv_step {s : RS} {q : PS} (h : Inv s q) (n : Int) : ∃ l : List Pc, l ≠ [] ∧ (∀ p ∈ l, p.ok) ∧ (readStep s n).text = s.text ++ pcT l ∧ (∀ w ∈ pcP l, okPart w) ∧ (pcP l).length ≤ 4 ∧ Inv (readStep s n) ((pcP l).foldl stepP q) := by
  have r3 := fmod_range n (k := 3) (by decide)
  have r8 := fmod_range (n.fdiv 3) (k := 8) (by decide)
  have r24 := fmod_range (n.fdiv 24) (k := 3) (by decide)
  have r7 := fmod_range (n.fdiv 24) (k := 7) (by decide)
  have hsep := seps_ok _ (getD_mem sepsT [] ((n.fdiv 24).fmod 3).toNat (by show _ < 3; omega))
  have hname := getD_mem namesT [] (n.fmod 3).toNat (by show _ < 3; omega)
  by_cases h7 : (n.fdiv 3).fmod 8 = 7
  · have hp : lawParameter n s.codes = ⟨noneT.getD ((n.fdiv 24).fmod 7).toNat [], [], none, false, none⟩ := by unfold lawParameter; dsimp only; rw [if_pos h7]
    have hm := getD_mem noneT [] ((n.fdiv 24).fmod 7).toNat (by show _ < 7; omega)
    rw [readStep_none (by rw [hp]), hp]
    refine ⟨[⟨sepsT.getD ((n.fdiv 24).fmod 3).toNat [], noneT.getD ((n.fdiv 24).fmod 7).toNat [], []⟩], by simp, one_mem ⟨hsep, ?_, seg_noneT _ hm⟩, ?_, (fun _ h => nomatch h), Nat.zero_le _, ?_⟩
    · have hb : ∀ t ∈ noneT, isBl (t.getD 0 0) = false := by decide +kernel
      intro c t e
      have := hb _ hm
      dsimp only at e
      rw [e] at this; exact this
    · show s.text ++ _ ++ _ = s.text ++ (_ ++ _ ++ [])
      rw [List.append_nil, List.append_assoc]
    · show Inv _ q
      exact ⟨h.n1, h.n2, h.n4, h.n5, h.o, h.c, h.e, h.kn⟩
  · by_cases h2 : 2 < (n.fdiv 3).fmod 8
    · have hp : lawParameter n s.codes = ⟨(if (n.fdiv 24).fmod 2 = 0 then namesT.getD (n.fmod 3).toNat [] else upperL (namesT.getD (n.fmod 3).toNat [])) ++ (lawPart (n.fdiv 24) none).2.1, namesT.getD (n.fmod 3).toNat [], some (lawPart (n.fdiv 24) none).1, false, none⟩ := by unfold lawParameter; dsimp only; rw [if_neg h7, if_pos h2]
      obtain ⟨star, pv, w1, w2⟩ := part_spec (n.fdiv 24) (known := none) (.inl rfl)
      have hnm : ∃ nm ∈ nmForms, (if (n.fdiv 24).fmod 2 = 0 then namesT.getD (n.fmod 3).toNat [] else upperL (namesT.getD (n.fmod 3).toNat [])) = nm ∧ lowerL nm = lowerL (namesT.getD (n.fmod 3).toNat []) := by
        by_cases he : (n.fdiv 24).fmod 2 = 0
        · exact ⟨_, name_form hname, if_pos he, rfl⟩
        · exact ⟨_, name_formU hname, if_neg he, forms_low _ hname⟩
      obtain ⟨nm, f1, f2, f3⟩ := hnm
      have hK := key_base f1 (mark := none) (fun d e => nomatch e) star
      have sg := seg_part hK w2.pok
      rw [readStep_some (v := (lawPart (n.fdiv 24) none).1) (by rw [hp]), hp]
      dsimp only
      rw [if_neg (by decide), f2]
      refine ⟨[⟨sepsT.getD ((n.fdiv 24).fmod 3).toNat [], keyK nm none star ++ 61 :: pv, [(lowerL (keyK nm none star), pv)]⟩], by simp, one_mem ⟨hsep, sg.2, sg.1⟩, ?_, one_mem (okPart_of hK w2), (by show 1 ≤ 4; decide), ?_⟩
      · show s.text ++ _ ++ _ = s.text ++ (_ ++ _ ++ [])
        rw [w1]
        unfold keyK
        cases star <;> simp
      · show Inv _ (stepP q _)
        rw [step_single hK w2, f3]
        exact inv_single h _ _ _
    · have hp : lawParameter n s.codes = ⟨(paramFold (n.fdiv 24) (namesT.getD (n.fmod 3).toNat []) ((dget s.codes (lowerL (namesT.getD (n.fmod 3).toNat []))).getD none) (paramN (n.fdiv 24))).2.1, namesT.getD (n.fmod 3).toNat [], some (paramFold (n.fdiv 24) (namesT.getD (n.fmod 3).toNat []) ((dget s.codes (lowerL (namesT.getD (n.fmod 3).toNat []))).getD none) (paramN (n.fdiv 24))).1, true, (paramFold (n.fdiv 24) (namesT.getD (n.fmod 3).toNat []) ((dget s.codes (lowerL (namesT.getD (n.fmod 3).toNat []))).getD none) (paramN (n.fdiv 24))).2.2⟩ := by unfold lawParameter; dsimp only; rw [if_neg h7, if_neg h2]
      have pn := paramN_le (n.fdiv 24)
      obtain ⟨l, l1, l2, l3, l4, l5, M⟩ := cont_pieces h hname (n.fdiv 24) hsep (paramN (n.fdiv 24)) pn.2
      rw [readStep_some (v := (paramFold (n.fdiv 24) (namesT.getD (n.fmod 3).toNat []) ((dget s.codes (lowerL (namesT.getD (n.fmod 3).toNat []))).getD none) (paramN (n.fdiv 24))).1) (by rw [hp]), hp]
      dsimp only
      rw [if_pos rfl]
      refine ⟨l, l1 (by omega), l2, ?_, l4, by omega, mid_end h M (by omega) _⟩
      show s.text ++ _ ++ _ = s.text ++ _
      rw [l3, if_neg (by omega), List.append_assoc]

/-- all the numbers -/
theorem inv_fold : ∀ (ns : List Int) (s : RS) (q : PS), Inv s q → ∃ l : List Pc, ns.length ≤ l.length ∧ (∀ p ∈ l, p.ok) ∧ (ns.foldl readStep s).text = s.text ++ pcT l ∧ (∀ w ∈ pcP l, okPart w) ∧ (pcP l).length ≤ 4 * ns.length ∧ Inv (ns.foldl readStep s) ((pcP l).foldl stepP q)
  | [], s, q, h => ⟨[], Nat.le_refl _, (fun _ h => nomatch h), (List.append_nil _).symm, (fun _ h => nomatch h), Nat.zero_le _, h⟩
  | n :: ns, s, q, h => by
    obtain ⟨l, j1, j2, j3, j4, j5, j6⟩ := inv_step h n
    obtain ⟨m, i1, i2, i3, i4, i5, i6⟩ := inv_fold ns _ _ j6
    have hl : 0 < l.length := by cases l with | nil => exact absurd rfl j1 | cons _ _ => simp
    refine ⟨l ++ m, ?_, ?_, ?_, ?_, ?_, ?_⟩
    · rw [List.length_append, List.length_cons]; omega
    · intro p hp
      rcases List.mem_append.mp hp with hp | hp
      · exact j2 p hp
      · exact i2 p hp
    · rw [List.foldl_cons, i3, j3, pcT_app, List.append_assoc]
    · intro w hw
      rw [pcP_app] at hw
      rcases List.mem_append.mp hw with hw | hw
      · exact j4 w hw
      · exact i4 w hw
    · rw [pcP_app, List.length_append, List.length_cons]; omega
    · rw [pcP_app, List.foldl_append, List.foldl_cons]; exact i6
theorem inv_read (ns : List Int) : ∃ l : List Pc, ns.length ≤ l.length ∧ (∀ p ∈ l, p.ok) ∧ (readFold ns).text = pcT l ∧ (∀ w ∈ pcP l, okPart w) ∧ (pcP l).length ≤ 4 * ns.length ∧ Inv (readFold ns) (runP (pcP l)) :=
  inv_fold ns _ _ inv0

/-- pieces as a head, a semicolon and a rest -/
theorem pcs_head {l : List Pc} (h : 2 ≤ l.length) (hl : ∀ p ∈ l, p.ok) : ∃ b1 A, pcT l = b1 ++ 59 :: A ∧ (∀ c ∈ b1, isB c = true) ∧ A ≠ [] ∧ scan0 A = pcP l ∧ ∀ tail, (∃ d X, tail = d ++ X ∧ delimOk d ∧ scan0 X = []) → scan0 (A ++ tail) = pcP l := by
  match l, h with
  | p :: p2 :: l, _ =>
    obtain ⟨d1, d2, d3⟩ := hl p (by simp)
    obtain ⟨b1, b2, e, h1, h2, _⟩ := d1.ex
    have hp2 : p2.d ≠ [] := by
      obtain ⟨c1, c2, e2, _⟩ := (hl p2 (by simp)).d.ex
      rw [e2]; simp
    have hs : ∀ X, scan0 (b2 ++ X) = scan0 X := fun X => by unfold scan0; rw [dw_bl h2]
    refine ⟨b1, b2 ++ (p.w ++ pcT (p2 :: l)), ?_, fun c hc => by rw [← isBl_eq]; exact h1 c hc, ?_, ?_, ?_⟩
    · show (p.d ++ p.w) ++ pcT (p2 :: l) = _
      rw [e]; simp
    · intro q
      have q2 := (List.append_eq_nil_iff.mp (List.append_eq_nil_iff.mp q).2).2
      have q3 : (p2.d ++ p2.w) ++ pcT l = [] := q2
      exact hp2 (List.append_eq_nil_iff.mp (List.append_eq_nil_iff.mp q3).1).1
    · rw [hs, scan_pcs _ _ _ (fun q hq => hl q (by simp only [List.mem_cons] at hq ⊢; exact .inr hq)) d2 d3]; rfl
    · rintro tail ⟨d, X, rfl, t2, t3⟩
      rw [List.append_assoc, hs, List.append_assoc, scan_pcsT rfl t2 t3 _ _ _ (fun q hq => hl q (by simp only [List.mem_cons] at hq ⊢; exact .inr hq)) d2 d3]; rfl
end
end Mine
end
section
open PySem PySem.Builtin
set_option linter.all false
namespace Mine
noncomputable section

theorem values_ok : ∀ v ∈ valuesT, valOk v ∧ v.length ≤ 10 := by
  have h : ∀ v ∈ valuesT, 59 ∉ v ∧ v ≠ [] ∧ isB (v.getD 0 0) = false ∧ isB (v.getD (v.length - 1) 0) = false ∧ v.length ≤ 10 := by decide +kernel
  intro v hv
  obtain ⟨h1, h2, h3, h4, h5⟩ := h v hv
  exact ⟨⟨h1, h2, h3, h4⟩, h5⟩
theorem lawValue_ok (script : List Int) : valOk (lawValue script) ∧ (lawValue script).length ≤ 10 := by
  have r4 := fmod_range (script.length : Int) (k := 4) (by decide)
  exact values_ok _ (getD_mem valuesT [] ((script.length : Int).fmod 4).toNat (by show _ < 4; omega))

theorem tl_of {X A : Tx} (h : tlOk (X ++ A)) (hA : A ≠ []) : tlOk A := by
  have hp : 0 < A.length := by cases A with | nil => exact absurd rfl hA | cons _ _ => simp
  refine ⟨hA, ?_⟩
  have := h.2
  rw [List.length_append, List.getD_eq_getElem?_getD, List.getElem?_append_right (by omega), show X.length + A.length - 1 - X.length = A.length - 1 from by omega, ← List.getD_eq_getElem?_getD] at this
  exact this
theorem nums28 : (28 : Int).fdiv 3 = 9 ∧ (9 : Int).fmod 8 = 1 ∧ (28 : Int).fdiv 24 = 1 ∧ paramN 1 = 3 := by decide
theorem part14 (known : Option Int) : tlOk (lawPart ((1 : Int).fdiv (3 ^ 3) + 7 * ((2 : Nat) : Int)) known).2.1 := by
  have e : (lawPart ((1 : Int).fdiv (3 ^ 3) + 7 * ((2 : Nat) : Int)) known).2.1 = cp "*=KOI8-R''" ++ (signs percT0 2 1).2 := rfl
  rw [e]
  refine tlOk_app ?_
  unfold tlOk
  decide +kernel
theorem read28 (s : RS) : tlOk (readStep s 28).text := by
  have hp : ∃ X, (lawParameter 28 s.codes).text = X ++ (lawPart ((1 : Int).fdiv (3 ^ 3) + 7 * ((2 : Nat) : Int)) (paramFold 1 (namesT.getD ((28 : Int).fmod 3).toNat []) ((dget s.codes (lowerL (namesT.getD ((28 : Int).fmod 3).toNat []))).getD none) 2).2.2).2.1 := by
    unfold lawParameter
    dsimp only
    rw [nums28.1, nums28.2.1, if_neg (by decide), if_neg (by decide), nums28.2.2.1, nums28.2.2.2]
    exact ⟨_, rfl⟩
  have ht : ∃ Y, (readStep s 28).text = Y ++ (lawParameter 28 s.codes).text := by
    cases hv : (lawParameter 28 s.codes).value with
    | none => rw [readStep_none hv]; exact ⟨_, rfl⟩
    | some v =>
      rw [readStep_some hv]
      split <;> exact ⟨_, rfl⟩
  obtain ⟨X, hX⟩ := hp
  obtain ⟨Y, hY⟩ := ht
  rw [hY, hX]
  exact tlOk_app (tlOk_app (part14 _))

theorem bl1 : (∀ c ∈ cp " ", isB c = true) ∧ (∀ c ∈ cp "\t", isB c = true) ∧ cp " ;\t" = [32] ++ 59 :: [9] := by decide +kernel
theorem app_bl {a b : Tx} (ha : ∀ c ∈ a, isB c = true) (hb : ∀ c ∈ b, isB c = true) : ∀ c ∈ a ++ b, isB c = true := fun c hc => by
  rcases List.mem_append.mp hc with hc | hc
  · exact ha c hc
  · exact hb c hc
theorem nil_bl : ∀ c ∈ ([] : Tx), isB c = true := fun _ h => nomatch h

/-- a value, pieces and blanks -/
theorem read_parse {ns : List Int} (h2 : 2 ≤ ns.length) (hn : ns.length ≤ 8) (htl : tlOk (readFold ns).text) {b0 V b1 bt : Tx} (hb0 : ∀ c ∈ b0, isB c = true) (hb1 : ∀ c ∈ b1, isB c = true) (hbt : ∀ c ∈ bt, isB c = true) (hV : valOk V) (hl : b0.length + V.length + b1.length + bt.length ≤ 100) :
    ParseIs (b0 ++ V ++ b1 ++ (lawRead ns).1 ++ bt) V (lawRead ns).2 := by
  obtain ⟨l, l1, l2, l3, l4, l5, l6⟩ := inv_read ns
  obtain ⟨c1, A, a1, a2, a3, a4, _⟩ := pcs_head (Nat.le_trans h2 l1) l2
  have hlen := (readFold_ok ns).text
  have htA : tlOk A := by
    rw [l3, a1, show c1 ++ 59 :: A = (c1 ++ [59]) ++ A from by simp] at htl
    exact tl_of htl a3
  have e : b0 ++ V ++ b1 ++ (lawRead ns).1 ++ bt = b0 ++ V ++ (b1 ++ c1) ++ 59 :: (A ++ bt) := by
    show b0 ++ V ++ b1 ++ (readFold ns).text ++ bt = _
    rw [l3, a1]; simp
  have hle : (b0 ++ V ++ b1 ++ (lawRead ns).1 ++ bt).length ≤ 50000 := by
    show (b0 ++ V ++ b1 ++ (readFold ns).text ++ bt).length ≤ _
    simp only [List.length_append]
    have : (readFold ns).text.length ≤ 600 * 8 := Nat.le_trans hlen (Nat.mul_le_mul_left _ hn)
    omega
  rw [e] at hle ⊢
  obtain ⟨p1, p2⟩ := parse_core hb0 (app_bl hb1 a2) hbt hV htA hle (by rw [a4]; exact l4) (by rw [a4]; omega)
  rw [a4] at p2
  exact ⟨p1, by rw [p2], by rw [p2]; exact inv_end l6⟩

theorem lawNums_rng (script : List Int) : 2 ≤ (lawNums script).length ∧ (lawNums script).length ≤ 8 := by
  unfold lawNums
  rw [List.length_append, List.length_take]
  have : ([4, 28] : List Int).length = 2 := rfl
  omega
theorem lawNums_tl (script : List Int) : tlOk (readFold (lawNums script)).text := by
  have : lawNums script = (script.take 6 ++ [4]) ++ [28] := by unfold lawNums; simp
  rw [this, readFold_snoc]
  exact read28 _
theorem law_p1 (script : List Int) : ParseIs (lawValue script ++ (lawRead (lawNums script)).1) (lawValue script) (lawRead (lawNums script)).2 := by
  obtain ⟨v1, v2⟩ := lawValue_ok script
  obtain ⟨n1, n2⟩ := lawNums_rng script
  have := read_parse n1 n2 (lawNums_tl script) (b0 := []) (b1 := []) (bt := []) nil_bl nil_bl nil_bl v1 (by simp; omega)
  simpa using this
theorem law_p2 (script : List Int) : ParseIs (cp " " ++ lawValue script ++ cp "\t" ++ (lawRead (lawNums script)).1 ++ cp " ") (lawValue script) (lawRead (lawNums script)).2 := by
  obtain ⟨v1, v2⟩ := lawValue_ok script
  obtain ⟨n1, n2⟩ := lawNums_rng script
  have l1 : (cp " ").length = 1 := by decide +kernel
  have l2 : (cp "\t").length = 1 := by decide +kernel
  exact read_parse n1 n2 (lawNums_tl script) bl1.1 bl1.2.1 bl1.1 v1 (by omega)
theorem sameD_nil : sameD [] [] := ⟨rfl, fun _ h => nomatch h⟩
theorem law_p3 (script : List Int) : ParseIs (lawRead (lawNums script)).1 [] [] := by
  obtain ⟨n1, n2⟩ := lawNums_rng script
  obtain ⟨l, l1, l2, l3, l4, l5, l6⟩ := inv_read (lawNums script)
  obtain ⟨c1, A, a1, a2, a3, a4, _⟩ := pcs_head (Nat.le_trans n1 l1) l2
  have hlen := (readFold_ok (lawNums script)).text
  have htl := lawNums_tl script
  show ParseIs (readFold (lawNums script)).text [] []
  rw [l3, a1] at htl hlen ⊢
  have htA : tlOk A := by
    rw [show c1 ++ 59 :: A = (c1 ++ [59]) ++ A from by simp] at htl
    exact tl_of htl a3
  have hle : (c1 ++ 59 :: A).length ≤ 50000 := Nat.le_trans hlen (Nat.le_trans (Nat.mul_le_mul_left _ n2) (by decide))
  obtain ⟨p1, p2⟩ := parse_noval a2 htA hle (by rw [a4]; exact l4) (by rw [a4]; omega)
  exact ⟨p1, by rw [p2], by rw [p2]; exact sameD_nil⟩
theorem law_p4 (script : List Int) : ParseIs (cp " " ++ lawValue script ++ cp " ;\t") (lawValue script) [] := by
  obtain ⟨v1, v2⟩ := lawValue_ok script
  have l1 : (cp " ").length = 1 := by decide +kernel
  have e : cp " " ++ lawValue script ++ cp " ;\t" = cp " " ++ lawValue script ++ [32] ++ (if true = true then 59 :: [9] else []) := by
    rw [bl1.2.2]; simp
  rw [e]
  obtain ⟨p1, p2⟩ := parse_bare (b0 := cp " ") (V := lawValue script) (b1 := [32]) (b2 := [9]) (semi := true) bl1.1 (by decide) (by decide) v1 (by simp only [List.length_append]; rw [l1]; simp; omega)
  exact ⟨p1, by rw [p2], by rw [p2]; exact sameD_nil⟩
theorem law_p5 (script : List Int) : ParseIs (lawValue script) (lawValue script) [] := by
  obtain ⟨v1, v2⟩ := lawValue_ok script
  have e : lawValue script = [] ++ lawValue script ++ [] ++ (if false = true then 59 :: [9] else []) := by simp
  obtain ⟨p1, p2⟩ := parse_bare (b0 := []) (V := lawValue script) (b1 := []) (b2 := [9]) (semi := false) nil_bl nil_bl (by decide) v1 (by rw [← e]; omega)
  rw [← e] at p1 p2
  exact ⟨p1, by rw [p2], by rw [p2]; exact sameD_nil⟩
theorem never_eq : neverT = [59, 32] ++ cp "z=\"never closed; a=1; b=2" := by decide +kernel
theorem never_scan : scan0 (cp "z=\"never closed; a=1; b=2") = [] := by decide +kernel
theorem never_tl : tlOk neverT := by unfold tlOk; decide +kernel
theorem law_p6 (script : List Int) : ParseIs (lawValue script ++ (lawRead ((lawNums script).take 2)).1 ++ neverT) (lawValue script) (lawRead ((lawNums script).take 2)).2 := by
  obtain ⟨v1, v2⟩ := lawValue_ok script
  obtain ⟨n1, n2⟩ := lawNums_rng script
  have n3 : ((lawNums script).take 2).length = 2 := by rw [List.length_take]; omega
  obtain ⟨l, l1, l2, l3, l4, l5, l6⟩ := inv_read ((lawNums script).take 2)
  obtain ⟨c1, A, a1, a2, a3, _, a4⟩ := pcs_head (by rw [n3] at l1; exact l1) l2
  have a4 := a4 neverT ⟨[59, 32], _, never_eq, ⟨[], [32], rfl, (fun _ h => nomatch h), by decide, (fun _ h => nomatch h)⟩, never_scan⟩
  have hlen := (readFold_ok ((lawNums script).take 2)).text
  have ln : neverT.length ≤ 100 := by decide +kernel
  have e : lawValue script ++ (lawRead ((lawNums script).take 2)).1 ++ neverT = [] ++ lawValue script ++ c1 ++ 59 :: ((A ++ neverT) ++ []) := by
    show lawValue script ++ (readFold ((lawNums script).take 2)).text ++ neverT = _
    rw [l3, a1]; simp
  have hle : (lawValue script ++ (lawRead ((lawNums script).take 2)).1 ++ neverT).length ≤ 50000 := by
    show (lawValue script ++ (readFold ((lawNums script).take 2)).text ++ neverT).length ≤ _
    rw [n3] at hlen
    simp only [List.length_append]
    omega
  rw [e] at hle ⊢
  obtain ⟨p1, p2⟩ := parse_core nil_bl a2 nil_bl v1 (tlOk_app never_tl) hle (by rw [a4]; exact l4) (by rw [a4]; omega)
  rw [a4] at p2
  exact ⟨p1, by rw [p2], by rw [p2]; exact inv_end l6⟩
end
end Mine
end
section
open PySem PySem.Builtin
set_option linter.all false
namespace Mine
noncomputable section

/-! the options' values -/
def optC (c : Nat) : Prop := (32 ≤ c ∧ c < 127 ∧ c ≠ 37) ∨ c = 233
theorem optSign_ok (n : Int) (place : Nat) : optC (optSign n place) := by
  have := optCode_range n place
  unfold optSign
  split
  · exact .inr rfl
  · exact .inl (by omega)
theorem optFold_ok (n : Int) : ∀ k, ∀ c ∈ optFold n k, optC c
  | 0, c, h => nomatch h
  | k + 1, c, h => by
    rw [optFold] at h
    rcases List.mem_append.mp h with h | h
    · exact optFold_ok n k c h
    · rw [List.mem_singleton] at h; subst h; exact optSign_ok n k
theorem lawOption_ok (n : Int) : ∀ c ∈ lawOption n, optC c := optFold_ok n _
def esc1 (c : Nat) : Tx := if c = 92 then [92, 92] else if c = 34 then [92, 34] else [c]
theorem cpEsc : cp "\\" = [92] ∧ cp "\\\\" = [92, 92] ∧ cp "\"" = [34] ∧ cp "\\\"" = [92, 34] := by decide +kernel
theorem repl_slash (v : Tx) : replL v (cp "\\") (cp "\\\\") = v.flatMap fun a => if a = 92 then [92, 92] else [a] := by
  rw [cpEsc.1, cpEsc.2.1, repl1]
theorem esc_eq (v : Tx) : replL (replL v (cp "\\") (cp "\\\\")) (cp "\"") (cp "\\\"") = v.flatMap esc1 := by
  rw [repl_slash, cpEsc.2.2.1, cpEsc.2.2.2, repl1]
  rw [List.flatMap_assoc]
  congr 1
  funext a
  unfold esc1
  by_cases h : a = 92
  · rw [if_pos h, if_pos h]; rfl
  · rw [if_neg h, if_neg h]; simp
theorem flat_len (f : Nat → Tx) (hf : ∀ a, (f a).length ≤ 2) : ∀ v : Tx, (v.flatMap f).length ≤ 2 * v.length
  | [] => Nat.le_refl _
  | a :: v => by
    rw [List.flatMap_cons, List.length_append, List.length_cons]
    have := hf a
    have := flat_len f hf v
    omega
theorem slash_len (v : Tx) : (replL v (cp "\\") (cp "\\\\")).length ≤ 2 * v.length := by
  rw [repl_slash]
  exact flat_len _ (fun a => by split <;> simp) v
theorem esc1_len (a : Nat) : (esc1 a).length ≤ 2 := by unfold esc1; split; · simp
                                                       · split <;> simp
theorem esc_len (v : Tx) : (replL (replL v (cp "\\") (cp "\\\\")) (cp "\"") (cp "\\\"")).length ≤ 2 * v.length := by
  rw [esc_eq]; exact flat_len _ esc1_len v
theorem law_okD (n : Int) : (replL (lawOption n) (cp "\\") (cp "\\\\")).length ≤ 3000 ∧ (replL (replL (lawOption n) (cp "\\") (cp "\\\\")) (cp "\"") (cp "\\\"")).length ≤ 10000 := by
  have h := lawOption_len n
  have h1 := slash_len (lawOption n)
  have h2 := esc_len (lawOption n)
  omega

theorem closeQ_esc1 (c : Nat) (r : Tx) : closeQ (esc1 c ++ r) = (closeQ r).map fun q => (esc1 c ++ q.1, q.2) := by
  unfold esc1
  by_cases h : c = 92
  · rw [if_pos h]; exact closeQ_esc 92 r (.inl rfl)
  · rw [if_neg h]
    by_cases h2 : c = 34
    · rw [if_pos h2]; exact closeQ_esc 34 r (.inr rfl)
    · rw [if_neg h2]; exact closeQ_one h2 h r
theorem closeQ_escs : ∀ (v r : Tx), closeQ (v.flatMap esc1 ++ 34 :: r) = some (v.flatMap esc1 ++ [34], r)
  | [], r => closeQ_quote r
  | c :: v, r => by
    rw [List.flatMap_cons, List.append_assoc, closeQ_esc1, closeQ_escs v r, Option.map_some, List.append_assoc]
theorem unsl_esc1 (c : Nat) (r : Tx) : unslT (esc1 c ++ r) = c :: unslT r := by
  unfold esc1
  by_cases h : c = 92
  · rw [if_pos h, h]; exact unslT_esc 92 r
  · rw [if_neg h]
    by_cases h2 : c = 34
    · rw [if_pos h2, h2]; exact unslT_esc 34 r
    · rw [if_neg h2]; exact unslT_cons h r
theorem unsl_escs : ∀ (v : Tx), unslT (v.flatMap esc1) = v
  | [] => by rw [List.flatMap_nil, unslT]
  | c :: v => by rw [List.flatMap_cons, unsl_esc1, unsl_escs v]
theorem rep_no : ∀ {v : Tx}, (∀ c ∈ v, c ≠ 37) → repK [37, 50, 50] [34] 0 v = v
  | [], _ => rfl
  | c :: v, h => by rw [rep_one (h c (by simp)), rep_no fun d hd => h d (by simp [hd])]; rfl
theorem tokKey : ∀ c ∈ (List.range 127 ++ [233]), isTok c = true → isKey c = true ∧ c ≠ 34 := by decide +kernel
theorem tokSame : ∀ c ∈ (List.range 127 ++ [233]), decide (c ∈ tokChars) = isTok c := by decide +kernel
theorem optC_range {c : Nat} (h : optC c) : c ∈ (List.range 127 ++ [233]) := by
  rw [List.mem_append, List.mem_range, List.mem_singleton]
  rcases h with h | h
  · exact .inl h.2.1
  · exact .inr h
theorem quote_same {v : Tx} (h : ∀ c ∈ v, optC c) : quoteT v = lawDumped v := by
  unfold quoteT lawDumped escT
  have ha : (v.all fun ch => containsL tokChars [ch]) = v.all isTok := by
    have : ∀ c ∈ v, containsL tokChars [c] = isTok c := fun c hc => by rw [containsL_one]; exact tokSame c (optC_range (h c hc))
    clear h
    induction v with
    | nil => rfl
    | cons a r ih => rw [List.all_cons, List.all_cons, this a (by simp), ih fun c hc => this c (by simp [hc])]
  rw [ha]
  cases v with
  | nil => decide +kernel
  | cons a r =>
    rw [show (a :: r).isEmpty = false from rfl, if_neg (by decide)]
    rw [show (!false) = true from rfl, Bool.true_and]
    split
    · rfl
    · rw [List.append_assoc]
theorem nl_opt {c : Nat} (h : optC c) : c ≠ 10 := by rcases h with h | h <;> omega
theorem dumped_part {v : Tx} (h : ∀ c ∈ v, optC c) (hl : v.length ≤ 10) : PartIs false (lawDumped v) v none none := by
  have h37 : ∀ c ∈ v, c ≠ 37 := fun c hc => by rcases h c hc with q | q <;> omega
  unfold lawDumped
  split
  · rename_i hc
    rw [Bool.and_eq_true] at hc
    have ht : ∀ c ∈ v, isKey c = true ∧ c ≠ 34 := fun c hx => tokKey c (optC_range (h c hx)) (List.all_eq_true.mp hc.2 c hx)
    have hne : v ≠ [] := fun q => by rw [q] at hc; exact absurd hc.1 (by decide)
    refine ⟨.inl ⟨fun c hx => (ht c hx).1, hne⟩, by omega, by omega, fun c hx => nl_opt (h c hx), (fun h => nomatch h), fun _ => ⟨?_, rfl⟩, (fun h => nomatch h)⟩
    rw [decQ_eq, uqT_tok fun q => (ht 34 q).2 rfl, rep_no h37]
  · rw [esc_eq, cpEsc.2.2.1]
    have e : [34] ++ v.flatMap esc1 ++ [34] = 34 :: (v.flatMap esc1 ++ [34]) := by simp
    rw [e]
    have hle := flat_len _ esc1_len v
    refine ⟨.inr ⟨_, rfl, closeQ_escs v⟩, by simp only [List.length_cons, List.length_append, List.length_nil]; omega, by omega, fun c hx q => ?_, (fun h => nomatch h), fun _ => ⟨?_, rfl⟩, (fun h => nomatch h)⟩
    · subst q
      simp only [List.mem_cons, List.mem_append, List.not_mem_nil, or_false] at hx
      rcases hx with hx | hx | hx
      · cases hx
      · obtain ⟨a, ha, hb⟩ := List.mem_flatMap.mp hx
        have := nl_opt (h a ha)
        unfold esc1 at hb
        split at hb
        · simp at hb
        · split at hb
          · simp at hb
          · simp at hb; exact this hb.symm
      · cases hx
    · rw [decQ_eq, uqT_quoted, unsl_escs, rep_no h37]
theorem starT_eq : starT = [85, 84, 70, 45, 56] ++ 39 :: ([] ++ 39 :: [37, 67, 51, 37, 65, 57]) ∧ cp "é" = [233] := by decide +kernel
theorem star_part : PartIs true starT (cp "é") none (some 0) := by
  rw [starT_eq.1, starT_eq.2]
  have hm : ([85, 84, 70, 45, 56], (0 : Int)) ∈ charsetsT := by rw [charsetsT_eq]; exact .head _
  have hp : (([233], [37, 67, 51, 37, 65, 57]) : Tx × Tx) ∈ percT0 := by rw [percT0_eq]; simp
  obtain ⟨c1, c2, c3⟩ := charset_facts _ hm
  have c4 := charset_rel _ hm
  refine part_named (known' := some 0) c1 (fun _ h => nomatch h) (perc_signs _ (by simp only [List.mem_append]; exact .inl (.inl hp))) c2 (by decide) (by decide) (by decide) c3 c4 ?_
  have e : lowerL [85, 84, 70, 45, 56] = cp "utf-8" := by decide +kernel
  rw [e]
  unfold decE
  rw [utf_in, if_pos rfl]
  exact unq0 (l := [([233], [37, 67, 51, 37, 65, 57])]) (one_mem hp)
end
end Mine
end
section
open PySem PySem.Builtin
set_option linter.all false
namespace Mine
noncomputable section

theorem cpDel : cp "; " = [59, 32] ∧ cp "*" = [42] ∧ cp "=" = [61] ∧ cp "*=UTF-8''%C3%A9" = [42, 61] ++ starT := by decide +kernel
theorem del_ok : delimOk (cp "; ") := by
  rw [cpDel.1]
  exact ⟨[], [32], rfl, (fun _ h => nomatch h), by decide, (fun _ h => nomatch h)⟩
theorem lawName_eq (n : Int) {k : Nat} (hk : k < 8) : ∃ nm ∈ optNames, lawName n k = nm ++ [48 + k] := by
  have r := fmod_range (n + (k : Int)) (k := 4) (by decide)
  exact ⟨_, getD_mem optNames [] ((n + (k : Int)).fmod 4).toNat (by show _ < 4; omega), by unfold lawName; rw [natTx_eq (by omega)]⟩
theorem endsStar_eq (k : Tx) (c : Nat) : endsStar (k ++ [c]) = (c == 42) := by
  unfold endsStar
  rw [cpDel.2.1]
  have h1 : [42].length = 1 := rfl
  rw [h1, List.length_append, List.length_singleton, Nat.add_sub_cancel, List.drop_left]
  have : decide (1 ≤ k.length + 1) = true := by simp
  rw [this, Bool.true_and]
  show ([c] == [42]) = (c == 42)
  by_cases h : c = 42
  · subst h; rfl
  · rw [beq_eq_false_iff_ne.mpr h, beq_eq_false_iff_ne.mpr]; simpa using h
theorem low_opt : ∀ nm ∈ optNames, ∀ d ∈ [0, 1, 2, 3, 4, 5, 6, 7], ∀ star ∈ [true, false], lowerL (nm ++ [48 + d] ++ (if star then [42] else [])) = nm ++ [48 + d] ++ (if star then [42] else []) := by decide +kernel

/-- what stands behind k options -/
structure Wr (s : LS) (V : Tx) (k : Nat) (l : List Pc) : Prop where
  w : s.written = V ++ pcT l
  ok : ∀ p ∈ l, p.ok
  op : ∀ w ∈ pcP l, okPart w
  n : (pcP l).length ≤ k
  cs : (runP (pcP l)).cs = []
  opts : (runP (pcP l)).opts = s.kept
  nd : ndK s.kept
  j : joinT (cp "; ") ([V] ++ segsT s.opts) = s.written
  keys : ∀ p ∈ s.opts, ∃ nm ∈ optNames, ∃ j, j < k ∧ ∃ star : Bool, p.1 = nm ++ [48 + j] ++ (if star then [42] else [])
  oko : ∀ p ∈ s.opts, okOpt p
  ne : l ≠ [] → segsT s.opts ≠ []
  len : s.written.length ≤ V.length + 200 * k
theorem last_eq {a b : Tx} {c d : Nat} (h : a ++ [c] = b ++ [d]) : a = b ∧ c = d := by
  have := List.append_inj' h rfl
  exact ⟨this.1, by simpa using this.2⟩
theorem key_new {nm nm' : Tx} {j k : Nat} {star star' : Bool} (hj : j < 8) (hk : k < 8) (h : nm ++ [48 + j] ++ (if star then [42] else []) = nm' ++ [48 + k] ++ (if star' then [42] else [])) : j = k := by
  cases star <;> cases star'
  · have := (last_eq (by simpa using h)).2; omega
  · have := (last_eq (a := nm) (b := nm' ++ [48 + k]) (c := 48 + j) (d := 42) (by simpa using h)).2; omega
  · have := (last_eq (a := nm ++ [48 + j]) (b := nm') (c := 42) (d := 48 + k) (by simpa using h)).2; omega
  · have h1 := (last_eq (a := nm ++ [48 + j]) (b := nm' ++ [48 + k]) (c := 42) (d := 42) (by simpa using h)).1
    have := (last_eq h1).2; omega
theorem segs_snoc (o : List (Tx × Option Tx)) (p : Tx × Option Tx) : segsT (o ++ [p]) = segsT o ++ (match p.2 with
  | none => []
  | some v => [segT p.1 v]) := by
  unfold segsT
  rw [List.filterMap_append]
  congr 1
  cases p with
  | mk a b => cases b <;> rfl
theorem wr0 (V : Tx) : Wr ⟨[], V, []⟩ V 0 [] := ⟨(List.append_nil V).symm, (fun _ h => nomatch h), (fun _ h => nomatch h), Nat.le_refl _, rfl, rfl, .nil, rfl, (fun _ h => nomatch h), (fun _ h => nomatch h), fun h => absurd rfl h, Nat.le_refl _⟩

/-- one option written -/
theorem wr_put {s : LS} {V : Tx} {k : Nat} {l : List Pc} (W : Wr s V k l) (hk : k < 8) {nm : Tx} (hn : nm ∈ optNames) {star : Bool} {pv v x : Tx} {known' : Option Int} (hp : PartIs star pv v none known') (hv : okOpt (nm ++ [48 + k] ++ (if star then [42] else []), some x))
    (hs : segT (nm ++ [48 + k] ++ (if star then [42] else [])) x = nm ++ [48 + k] ++ (if star then [42] else []) ++ 61 :: pv) :
    ∃ m, m ≠ [] ∧ Wr ⟨dset s.opts (nm ++ [48 + k] ++ (if star then [42] else [])) (some x), s.written ++ cp "; " ++ (nm ++ [48 + k] ++ (if star then [42] else []) ++ 61 :: pv), dset s.kept (nm ++ [48 + k]) v⟩ V (k + 1) (l ++ m) := by
  have hK := key_opt hn hk star
  have sg := seg_part hK hp.pok
  have hlow : lowerL (nm ++ [48 + k] ++ (if star then [42] else [])) = nm ++ [48 + k] ++ (if star then [42] else []) := by
    refine low_opt nm hn k ?_ star (by cases star <;> simp)
    have : ∀ k : Fin 8, k.val ∈ [0, 1, 2, 3, 4, 5, 6, 7] := by decide
    exact this ⟨k, hk⟩
  have hnew : (nm ++ [48 + k] ++ (if star then [42] else [])) ∉ s.opts.map (·.1) := by
    intro hm
    obtain ⟨p, hp1, hp2⟩ := List.mem_map.mp hm
    obtain ⟨nm', _, j, hj, star', e⟩ := W.keys p hp1
    have := key_new (by omega) hk (e.symm.trans hp2)
    omega
  have hso : segsT (s.opts ++ [(nm ++ [48 + k] ++ (if star then [42] else []), some x)]) = segsT s.opts ++ [nm ++ [48 + k] ++ (if star then [42] else []) ++ 61 :: pv] := by
    rw [segs_snoc]; dsimp only; rw [hs]
  have hrun : runP (pcP (l ++ [⟨cp "; ", nm ++ [48 + k] ++ (if star then [42] else []) ++ 61 :: pv, [(lowerL (nm ++ [48 + k] ++ (if star then [42] else [])), pv)]⟩])) = ⟨dset (runP (pcP l)).opts (nm ++ [48 + k]) v, ddel (runP (pcP l)).cs (nm ++ [48 + k]), if (dget (runP (pcP l)).cs (nm ++ [48 + k])).isSome then ddel (runP (pcP l)).encs (nm ++ [48 + k]) else (runP (pcP l)).encs⟩ := by
    rw [pcP_snoc]
    unfold runP
    rw [List.foldl_append]
    show stepP _ _ = _
    rw [step_single hK hp]
  refine ⟨[⟨cp "; ", nm ++ [48 + k] ++ (if star then [42] else []) ++ 61 :: pv, [(lowerL (nm ++ [48 + k] ++ (if star then [42] else [])), pv)]⟩], by simp, ?_, ?_, ?_, ?_, ?_, ?_, ?_, ?_, ?_, ?_, ?_, ?_⟩
  · dsimp only
    rw [pcT_snoc, W.w]; simp only [List.append_assoc]
  · intro p hp'
    rcases List.mem_append.mp hp' with hp' | hp'
    · exact W.ok p hp'
    · rw [List.mem_singleton] at hp'; subst hp'; exact ⟨del_ok, sg.2, sg.1⟩
  · intro w hw
    rw [pcP_snoc] at hw
    rcases List.mem_append.mp hw with hw | hw
    · exact W.op w hw
    · rw [List.mem_singleton] at hw; subst hw; exact okPart_of hK hp
  · rw [pcP_snoc, List.length_append]
    have := W.n
    exact Nat.add_le_add_right this 1
  · rw [hrun]; dsimp only; rw [W.cs]; rfl
  · rw [hrun]; dsimp only; rw [W.opts]
  · exact nd_set W.nd _ _
  · dsimp only
    rw [dset_new hnew, hso, ← List.append_assoc, joinT_snoc _ _ _ (by simp), W.j]
  · dsimp only
    rw [dset_new hnew]
    intro p hp'
    rcases List.mem_append.mp hp' with hp' | hp'
    · obtain ⟨nm', h1, j, h2, h3⟩ := W.keys p hp'
      exact ⟨nm', h1, j, by omega, h3⟩
    · rw [List.mem_singleton] at hp'; subst hp'; exact ⟨nm, hn, k, by omega, star, rfl⟩
  · dsimp only
    rw [dset_new hnew]
    intro p hp'
    rcases List.mem_append.mp hp' with hp' | hp'
    · exact W.oko p hp'
    · rw [List.mem_singleton] at hp'; subst hp'; exact hv
  · intro _
    dsimp only
    rw [dset_new hnew, hso]; simp
  · dsimp only
    have l1 := W.len
    have l2 := hK.len
    have l3 := hp.len
    have l4 : (cp "; ").length = 2 := by rw [cpDel.1]; rfl
    rw [List.length_append, List.length_append, List.length_append, List.length_cons, l4]
    omega
theorem wr_step {s : LS} {V : Tx} {k : Nat} {l : List Pc} (W : Wr s V k l) (hk : k < 8) (n : Int) : ∃ m, (n.fmod 5 ≠ 0 → m ≠ []) ∧ Wr (lawStep s n k) V (k + 1) (l ++ m) := by
  obtain ⟨nm, hn, en⟩ := lawName_eq n hk
  have hnl := lawName_len n (place := k) (by omega)
  unfold lawStep
  dsimp only
  rw [en] at hnl ⊢
  have hol := lawOption_len (n.fdiv 2)
  by_cases h0 : n.fmod 5 = 0
  · rw [if_pos h0]
    have hnew : (nm ++ [48 + k]) ∉ s.opts.map (·.1) := by
      intro hm
      obtain ⟨p, hp1, hp2⟩ := List.mem_map.mp hm
      obtain ⟨nm', _, j, hj, star', e⟩ := W.keys p hp1
      have := key_new (star := star') (star' := false) (by omega) hk (e.symm.trans (hp2.trans (List.append_nil _).symm))
      omega
    have hso : segsT (s.opts ++ [(nm ++ [48 + k], none)]) = segsT s.opts := by rw [segs_snoc]; simp
    refine ⟨[], fun h => absurd h0 h, ?_⟩
    rw [List.append_nil]
    refine ⟨W.w, W.ok, W.op, Nat.le_succ_of_le W.n, W.cs, W.opts, W.nd, ?_, ?_, ?_, ?_, Nat.le_trans W.len (by omega)⟩
    · dsimp only; rw [dset_new hnew, hso]; exact W.j
    · dsimp only
      rw [dset_new hnew]
      intro p hp'
      rcases List.mem_append.mp hp' with hp' | hp'
      · obtain ⟨nm', h1, j, h2, h3⟩ := W.keys p hp'
        exact ⟨nm', h1, j, by omega, h3⟩
      · rw [List.mem_singleton] at hp'; subst hp'; exact ⟨nm, hn, k, by omega, false, (List.append_nil _).symm⟩
    · dsimp only
      rw [dset_new hnew]
      intro p hp'
      rcases List.mem_append.mp hp' with hp' | hp'
      · exact W.oko p hp'
      · rw [List.mem_singleton] at hp'; subst hp'
        exact ⟨Nat.le_trans hnl (by decide), fun v h => nomatch h⟩
    · dsimp only; rw [dset_new hnew, hso]; exact W.ne
  · rw [if_neg h0]
    by_cases h1 : n.fmod 5 = 1
    · rw [if_pos h1]
      have hx : starT.length ≤ 14 := by rw [starT_eq.1]; decide
      obtain ⟨m, hm, W'⟩ := wr_put W hk hn (star := true) (x := starT) star_part (hv := by
        refine ⟨?_, fun v h => ?_⟩
        · show (nm ++ [48 + k] ++ [42]).length ≤ 100
          rw [List.length_append]; exact Nat.le_trans (Nat.add_le_add_right hnl 1) (by decide)
        · cases h
          have l1 := slash_len starT
          have l2 := esc_len starT
          refine ⟨by omega, by omega, ?_⟩
          unfold escT
          omega) (hs := by
        unfold segT
        rw [if_pos rfl, endsStar_eq, if_pos (show ((42 : Nat) == 42) = true by decide), cpDel.2.2.1]; simp)
      refine ⟨m, fun _ => hm, ?_⟩
      rw [if_pos rfl] at W'
      rw [cpDel.2.1, cpDel.2.2.2]
      have e : s.written ++ cp "; " ++ (nm ++ [48 + k]) ++ ([42, 61] ++ starT) = s.written ++ cp "; " ++ (nm ++ [48 + k] ++ [42] ++ 61 :: starT) := by simp
      rw [e]
      exact W'
    · rw [if_neg h1]
      have hopt := lawOption_ok (n.fdiv 2)
      obtain ⟨m, hm, W'⟩ := wr_put W hk hn (star := false) (x := lawOption (n.fdiv 2)) (dumped_part hopt (by omega)) (hv := by
        refine ⟨?_, fun v h => ?_⟩
        · show (nm ++ [48 + k] ++ []).length ≤ 100
          rw [List.append_nil]; exact Nat.le_trans hnl (by decide)
        · cases h
          have l1 := slash_len (lawOption (n.fdiv 2))
          have l2 := esc_len (lawOption (n.fdiv 2))
          refine ⟨by omega, by omega, ?_⟩
          unfold escT
          omega) (hs := by
        rw [if_neg (by decide), List.append_nil]
        unfold segT
        rw [endsStar_eq, if_neg, quote_same hopt, cpDel.2.2.1]; · simp
        · rw [beq_iff_eq]; omega)
      refine ⟨m, fun _ => hm, ?_⟩
      rw [if_neg (by decide), List.append_nil] at W'
      rw [cpDel.2.2.1]
      have e : s.written ++ cp "; " ++ (nm ++ [48 + k]) ++ [61] ++ lawDumped (lawOption (n.fdiv 2)) = s.written ++ cp "; " ++ (nm ++ [48 + k] ++ 61 :: lawDumped (lawOption (n.fdiv 2))) := by simp
      rw [e]
      exact W'
theorem wr_fold (ns : List Int) (V : Tx) : ∀ k, k ≤ 8 → ∃ l, Wr (lawFold ns V k) V k l
  | 0, _ => ⟨[], wr0 V⟩
  | k + 1, h => by
    obtain ⟨l, W⟩ := wr_fold ns V k (by omega)
    obtain ⟨m, _, W'⟩ := wr_step W (by omega) (ns.getD k 0)
    exact ⟨l ++ m, W'⟩
end
end Mine
end
section
open PySem PySem.Builtin
set_option linter.all false
namespace Mine
noncomputable section

theorem foldl_pre (sep a : Tx) : ∀ (ls : List Tx) (x : Tx), ls.foldl (fun acc p => acc ++ sep ++ p) (a ++ x) = a ++ ls.foldl (fun acc p => acc ++ sep ++ p) x
  | [], x => rfl
  | b :: ls, x => by
    rw [List.foldl_cons, List.foldl_cons]
    rw [show a ++ x ++ sep ++ b = a ++ (x ++ sep ++ b) from by simp, foldl_pre]
theorem joinT_cons (sep a : Tx) (ls : List Tx) (h : ls ≠ []) : joinT sep ([a] ++ ls) = a ++ sep ++ joinT sep ls := by
  cases ls with
  | nil => exact absurd rfl h
  | cons b l =>
    show (l.foldl (fun acc p => acc ++ sep ++ p) (a ++ sep ++ b)) = a ++ sep ++ l.foldl (fun acc p => acc ++ sep ++ p) b
    exact foldl_pre sep (a ++ sep) l b

theorem end_tl : tlOk (lawDumped (lawOption 14)) := by unfold tlOk; decide +kernel
theorem nums28b : (28 : Int).fmod 5 = 3 ∧ (28 : Int).fdiv 2 = 14 ∧ (4 : Int).fmod 5 = 4 := by decide
theorem lawEnd_wr (script : List Int) : ∃ l, 2 ≤ l.length ∧ Wr (lawEnd script) (lawValue script) (lawNums script).length l ∧ ∃ X, (lawEnd script).written = X ++ lawDumped (lawOption 14) := by
  have hk : (script.take 6).length ≤ 6 := by rw [List.length_take]; omega
  have hlen : (lawNums script).length = (script.take 6).length + 2 := by unfold lawNums; rw [List.length_append]; rfl
  have g1 : (lawNums script).getD (script.take 6).length 0 = 4 := by
    unfold lawNums
    rw [List.getD_eq_getElem?_getD, List.getElem?_append_right (Nat.le_refl _), Nat.sub_self]; rfl
  have g2 : (lawNums script).getD ((script.take 6).length + 1) 0 = 28 := by
    unfold lawNums
    rw [List.getD_eq_getElem?_getD, List.getElem?_append_right (by omega), Nat.add_sub_cancel_left]; rfl
  obtain ⟨l, W⟩ := wr_fold (lawNums script) (lawValue script) (script.take 6).length (by omega)
  obtain ⟨m1, h1, W1⟩ := wr_step W (by omega) 4
  obtain ⟨m2, h2, W2⟩ := wr_step W1 (by omega) 28
  have h1 := h1 (by rw [nums28b.2.2]; decide)
  have h2 := h2 (by rw [nums28b.1]; decide)
  have e : lawEnd script = lawStep (lawStep (lawFold (lawNums script) (lawValue script) (script.take 6).length) 4 (script.take 6).length) 28 ((script.take 6).length + 1) := by
    unfold lawEnd
    rw [hlen, lawFold, lawFold, g1, g2]
  rw [e, hlen]
  refine ⟨l ++ m1 ++ m2, ?_, W2, ?_⟩
  · have q1 : 0 < m1.length := List.length_pos_iff.mpr h1
    have q2 : 0 < m2.length := List.length_pos_iff.mpr h2
    rw [List.length_append, List.length_append]; omega
  · conv => enter [1, X, 1]; unfold lawStep
    dsimp only
    rw [nums28b.1, nums28b.2.1, if_neg (by decide), if_neg (by decide)]
    exact ⟨_, rfl⟩
theorem law_p7 (script : List Int) : ParseIs (lawEnd script).written (lawValue script) (lawEnd script).kept := by
  obtain ⟨v1, v2⟩ := lawValue_ok script
  obtain ⟨n1, n2⟩ := lawNums_rng script
  obtain ⟨l, l1, W, X, hX⟩ := lawEnd_wr script
  obtain ⟨c1, A, a1, a2, a3, a4, _⟩ := pcs_head l1 W.ok
  have htl : tlOk (lawEnd script).written := by rw [hX]; exact tlOk_app end_tl
  have hlen := W.len
  have hw := W.w
  rw [a1] at hw
  rw [hw] at htl hlen ⊢
  have htA : tlOk A := by
    rw [show lawValue script ++ (c1 ++ 59 :: A) = (lawValue script ++ c1 ++ [59]) ++ A from by simp] at htl
    exact tl_of htl a3
  have e : lawValue script ++ (c1 ++ 59 :: A) = [] ++ lawValue script ++ c1 ++ 59 :: (A ++ []) := by simp
  have hle : (lawValue script ++ (c1 ++ 59 :: A)).length ≤ 50000 := Nat.le_trans hlen (by omega)
  rw [e] at hle ⊢
  have hn := W.n
  obtain ⟨p1, p2⟩ := parse_core nil_bl a2 nil_bl v1 htA hle (by rw [a4]; exact W.op) (by rw [a4]; omega)
  rw [a4] at p2
  refine ⟨p1, by rw [p2], ?_⟩
  rw [p2]
  have ef : finP (runP (pcP l)) = (lawEnd script).kept := by
    unfold finP dmerge
    rw [W.cs, W.opts]; rfl
  rw [ef]
  exact sameD_of W.nd W.nd fun _ => rfl
theorem law_ok (script : List Int) : LawOk script := by
  obtain ⟨l, l1, W, _⟩ := lawEnd_wr script
  have hne : segsT (lawEnd script).opts ≠ [] := W.ne fun q => by rw [q] at l1; cases l1
  refine ⟨law_p1 script, law_p2 script, law_p3 script, law_p4 script, law_p5 script, law_p6 script, law_p7 script, W.j, ?_, rfl, W.oko, law_okD⟩
  rw [← W.j, joinT_cons _ _ _ hne]
  have e : (lawValue script).length + 2 = (lawValue script ++ cp "; ").length := by
    rw [List.length_append, cpDel.1]; rfl
  rw [e, List.drop_left]; rfl
end
end Mine
end
section

end
theorem PySem.Challenge.cw_bl0028_01_holds : PySem.Challenge.rw_bl0028_01.Holds :=
  Mine.j2 fun script _ => Mine.law_ok script
